import JvmDerived
import JvmDerived.Pilot.@@N@@Statement
import JvmDerived.Pilot.@@N@@Code
set_option linter.unusedVariables false
set_option linter.unusedSimpArgs false
/- laws to paste: Road.backV (cut by pick.py; bodies as the Statement names them) -/
namespace Jvm.Pilot.@@N@@
namespace StrChars
open Jvm Sem ClassFile Op Lib Jvm.Stand Jvm.Free.XT Jvm.Free.ALB Jvm.Free.JM Jvm.Free
open Jvm.Lib.Cold (StaticIs)
/-- a char array whose places are chars -/
def Ch (a : Addr) (A : Cell) (U : State) : Prop := Arr .char a A U ∧ Typed .char A
theorem Ch.mv {a : Addr} {A : Cell} {U U' : State} (h : Ch a A U) (hal : U.vm.Alike U'.vm) (hh : U'.heap = U.heap) : Ch a A U' := ⟨h.1.mv hal hh, h.2⟩
theorem Ch.keep {a : Addr} {A : Cell} {U U' : State} (h : Ch a A U) (hal : U.vm.Alike U'.vm) (hk : U'.heap[a]? = some A) : Ch a A U' := ⟨h.1.keep hal hk, h.2⟩
/-- what place i of a char[]'s cell holds -/
def cv (A : Cell) (i : Nat) : Int32 := match A.slots[i]? with | some (.int x) => x | _ => 0
theorem Ch.get {a : Addr} {A : Cell} {U : State} (h : Ch a A U) {i : Nat} (hi : i < A.slots.size) : A.slots[i]? = some (.int (cv A i)) := by
  have e := Array.getElem?_eq_getElem hi
  have f := h.2 i _ e
  unfold cv; rw [e]
  generalize A.slots[i] = v at f
  cases v <;> simp [fits] at f ⊢
/-- the byte that i2b leaves of a char -/
def lo8 (x : Int32) : Int32 := x.toInt8.toInt32
theorem fits_lo8 (y : Int32) : fits .byte (.int (lo8 y)) = true := by
  have h1 := y.toInt8.le_toInt
  have h2 := y.toInt8.toInt_lt
  simp only [lo8, fits, Bool.and_eq_true, decide_eq_true_eq, Int32.le_iff_toInt_le, Int8.toInt_toInt32, show (-128 : Int32).toInt = -128 from by decide, show (127 : Int32).toInt = 127 from by decide]
  omega
/-- A' is A but that each place j of lo .. hi - 1 holds f j -/
def Laid (A A' : Cell) (lo hi : Nat) (f : Nat → Value) : Prop := A'.cls = A.cls ∧ A'.vm = A.vm ∧ A'.slots.size = A.slots.size ∧ ∀ i, A'.slots[i]? = if lo ≤ i ∧ i < hi then some (f i) else A.slots[i]?
theorem Laid.zero (A : Cell) (lo : Nat) (f : Nat → Value) : Laid A A lo (lo + 0) f := ⟨rfl, rfl, rfl, fun i => by rw [if_neg (by omega)]⟩
theorem Laid.step {A Ak : Cell} {lo k : Nat} {f : Nat → Value} {v : Value} (h : Laid A Ak lo k f) (hlo : lo ≤ k) (hk : k < Ak.slots.size) (hv : v = f k) : Laid A (Ak.setSlot k v) lo (k + 1) f := by
  refine ⟨h.1, h.2.1, by simpa [Cell.setSlot] using h.2.2.1, fun i => ?_⟩
  by_cases e : k = i
  · subst e; rw [Cell.slots_setSlot_self v hk, if_pos (by omega), hv]
  · rw [Cell.slots_setSlot_ne v e, h.2.2.2 i]
    by_cases q : lo ≤ i ∧ i < k
    · rw [if_pos q, if_pos (by omega)]
    · rw [if_neg q, if_neg (by omega)]
def U16 : String := "java/lang/StringUTF16"
namespace Cmp5
def yN : MethodName := ⟨"java/lang/StringUTF16", "compress", "([CI[BII)I"⟩
abbrev yB : ByteArray := jdk_52_method_21_code
theorem d0 : decode yB 0 = .ok (.iconst 0, 1) := by decide +kernel
theorem d1 : decode yB 1 = .ok (.istore 5, 2) := by decide +kernel
theorem d3 : decode yB 3 = .ok (.iload 5, 2) := by decide +kernel
theorem d5 : decode yB 5 = .ok (.iload 4, 2) := by decide +kernel
theorem d7 : decode yB 7 = .ok (.if_icmp (.ge) 37, 3) := by decide +kernel
theorem d10 : decode yB 10 = .ok (.aload_n 0, 1) := by decide +kernel
theorem d11 : decode yB 11 = .ok (.iload_n 1, 1) := by decide +kernel
theorem d12 : decode yB 12 = .ok (.caload, 1) := by decide +kernel
theorem d13 : decode yB 13 = .ok (.istore 6, 2) := by decide +kernel
theorem d15 : decode yB 15 = .ok (.iload 6, 2) := by decide +kernel
theorem d17 : decode yB 17 = .ok (.sipush 255, 3) := by decide +kernel
theorem d20 : decode yB 20 = .ok (.if_icmp (.le) 6, 3) := by decide +kernel
theorem d26 : decode yB 26 = .ok (.aload_n 2, 1) := by decide +kernel
theorem d27 : decode yB 27 = .ok (.iload_n 3, 1) := by decide +kernel
theorem d28 : decode yB 28 = .ok (.iload 6, 2) := by decide +kernel
theorem d30 : decode yB 30 = .ok (.i2b, 1) := by decide +kernel
theorem d31 : decode yB 31 = .ok (.bastore, 1) := by decide +kernel
theorem d32 : decode yB 32 = .ok (.iinc 1 1, 3) := by decide +kernel
theorem d35 : decode yB 35 = .ok (.iinc 3 1, 3) := by decide +kernel
theorem d38 : decode yB 38 = .ok (.iinc 5 1, 3) := by decide +kernel
theorem d41 : decode yB 41 = .ok (.goto (-38), 3) := by decide +kernel
theorem d44 : decode yB 44 = .ok (.iload 4, 2) := by decide +kernel
theorem d46 : decode yB 46 = .ok (.ireturn, 1) := by decide +kernel
def site : List Cond := []
def tab : Cond := tabOf yN yB 7 (some .int) site
def P (b : Addr) (A : Cell) (d : Addr) (B : Cell) (o q len : Nat) (args : Array Value) (s : State) : Prop := args = #[.ref b, .int (Int32.ofNat o), .ref d, .int (Int32.ofNat q), .int (Int32.ofNat len)] ∧ Ch b A s ∧ Arr .byte d B s ∧ b ≠ d ∧ o + len ≤ A.slots.size ∧ q + len ≤ B.slots.size ∧ ∀ i, i < len → ¬ 255 < cv A (o + i)
def E (b : Addr) (A : Cell) (d : Addr) (B : Cell) (o q len : Nat) (r : Option Value) (s u : State) : Prop := r = some (.int (Int32.ofNat len)) ∧ ∃ B', Put d B' s u ∧ Laid B B' q (q + len) (fun j => Value.int (lo8 (cv A (o + (j - q)))))
/-- no char of the range above 255: len; the places written hold each char's low byte -/
theorem law (l : Launch) (b : Addr) (A : Cell) (d : Addr) (B : Cell) (o q len : Nat) : Law l yN 5 5 0 0 yB 7 (some .int) site (P b A d B o q len) (E b A d B o q len) (copyLocs d q len) 0 0 := by
  refine Law.of_walk (plainFor_of_name (by decide +kernel)) (by decide +kernel) (by decide +kernel) (by decide) (fun _ _ h => by rw [h.1]; rfl) (fun _ U U' hal hh h => ⟨h.1, h.2.1.mv hal hh, h.2.2.1.mv hal hh, h.2.2.2⟩) (fun r U U' V V' h1 hal h2 h => ⟨h.1, h.2.elim fun B' q => ⟨B', q.1.mv h1 h2, q.2⟩⟩) ?_
  intro p e s m args below meth c s₁ X0 hexec hbytes hml hret hlk hnm hown hh0 W hP
  obtain ⟨rfl, hA, hB, hne, l1, l2, hp⟩ := hP
  have c1 : Steps p.tables e below (s₁.setTop (entryFrame m #[.ref b, .int (Int32.ofNat o), .ref d, .int (Int32.ofNat q), .int (Int32.ofNat len)] 7)) (s₁.setTop (mkF m 0 #[.val (.ref b), .val (.int (Int32.ofNat o)), .val (.ref d), .val (.int (Int32.ofNat q)), .val (.int (Int32.ofNat len)), .unset, .unset] [])) := entry rfl
  have hA0 := hA.1.mv X0.warmed.alike hh0
  have hB0 := hB.mv X0.warmed.alike hh0
  have a31 := hA.1.2.2.2
  have c2 : Steps p.tables e below (s₁.setTop (entryFrame m #[.ref b, .int (Int32.ofNat o), .ref d, .int (Int32.ofNat q), .int (Int32.ofNat len)] 7)) (s₁.setTop (mkF m 3 #[.val (.ref b), .val (.int (Int32.ofNat o)), .val (.ref d), .val (.int (Int32.ofNat q)), .val (.int (Int32.ofNat len)), .val (.int 0), .unset] [])) := c1.trans (by
    refine iconstV X0.here hexec rfl 0 (hb hbytes d0) (by decide) ?_
    refine XS.istore X0.here hexec rfl (hb hbytes d1) rfl rfl ?_
    exact Steps.refl _)
  have loop : ∀ (r i : Nat), i + r = len → ∀ (z : Slot), (z = .unset ∨ ∃ w, z = .val w ∧ w.category = 1) → ∀ (Tl : State) (Bk : Cell), Stand p l e { frames := 0, locals := 0, cells := 0, slots := 0 } s m #[.ref b, .int (Int32.ofNat o), .ref d, .int (Int32.ofNat q), .int (Int32.ofNat len)] below meth c Tl ([] ++ copyLocs d q i) 0 0 → Put d Bk s₁ Tl → Laid B Bk q (q + i) (fun j => Value.int (lo8 (cv A (o + (j - q))))) →
      Steps p.tables e below (s₁.setTop (entryFrame m #[.ref b, .int (Int32.ofNat o), .ref d, .int (Int32.ofNat q), .int (Int32.ofNat len)] 7)) (Tl.setTop (mkF m 3 #[.val (.ref b), .val (.int (Int32.ofNat (o + i))), .val (.ref d), .val (.int (Int32.ofNat (q + i))), .val (.int (Int32.ofNat len)), .val (.int (Int32.ofNat i)), z] [])) → ∃ (T' : State) (B' : Cell) (z' : Slot), Stand p l e { frames := 0, locals := 0, cells := 0, slots := 0 } s m #[.ref b, .int (Int32.ofNat o), .ref d, .int (Int32.ofNat q), .int (Int32.ofNat len)] below meth c T' ([] ++ copyLocs d q len) 0 0 ∧ Put d B' s₁ T' ∧ Laid B B' q (q + len) (fun j => Value.int (lo8 (cv A (o + (j - q))))) ∧
      Steps p.tables e below (s₁.setTop (entryFrame m #[.ref b, .int (Int32.ofNat o), .ref d, .int (Int32.ofNat q), .int (Int32.ofNat len)] 7)) (T'.setTop (mkF m 3 #[.val (.ref b), .val (.int (Int32.ofNat (o + len))), .val (.ref d), .val (.int (Int32.ofNat (q + len))), .val (.int (Int32.ofNat len)), .val (.int (Int32.ofNat len)), z'] [])) := by
    intro r
    induction r with
    | zero =>
      intro i hi z hz Tl Bk Xl pl fl cl
      have hil : i = len := by omega
      rw [hil] at Xl fl cl
      exact ⟨Tl, Bk, z, Xl, pl, fl, cl⟩
    | succ r ih =>
      intro i hi z hz Tl Bk Xl pl fl cl
      have all := X0.warmed.alike.symm.trans Xl.warmed.alike
      have hAl := hA0.keep all (pl.other hne hA0.1)
      have hBk := hB0.like all pl.1 fl.1 fl.2.1 fl.2.2.1
      have hlt : q + i < Bk.slots.size := by rw [fl.2.2.1]; omega
      have c3 : Steps p.tables e below (s₁.setTop (entryFrame m #[.ref b, .int (Int32.ofNat o), .ref d, .int (Int32.ofNat q), .int (Int32.ofNat len)] 7)) (Tl.setTop (mkF m 12 #[.val (.ref b), .val (.int (Int32.ofNat (o + i))), .val (.ref d), .val (.int (Int32.ofNat (q + i))), .val (.int (Int32.ofNat len)), .val (.int (Int32.ofNat i)), z] [.int (Int32.ofNat (o + i)), .ref b])) := cl.trans (by
        refine XS.iload Xl.here hexec rfl (hb hbytes d3) rfl ?_
        refine XS.iload Xl.here hexec rfl (hb hbytes d5) rfl ?_
        refine XS.icmpNo Xl.here hexec rfl (hb hbytes d7) rfl (ii_ge_f (lt32 (by omega) (by omega))) ?_
        refine XS.aloadN Xl.here hexec rfl (hb hbytes d10) rfl rfl ?_
        refine XS.iloadN Xl.here hexec rfl (hb hbytes d11) rfl ?_
        exact Steps.refl _)
      have c4 : Steps p.tables e below (s₁.setTop (entryFrame m #[.ref b, .int (Int32.ofNat o), .ref d, .int (Int32.ofNat q), .int (Int32.ofNat len)] 7)) (Tl.setTop (mkF m 13 #[.val (.ref b), .val (.int (Int32.ofNat (o + i))), .val (.ref d), .val (.int (Int32.ofNat (q + i))), .val (.int (Int32.ofNat len)), .val (.int (Int32.ofNat i)), z] [.int (cv A (o + i))])) := c3.trans (by
        refine Xl.aget hexec hAl rfl (hA.get (i := o + i) (by omega)) rfl rfl (hb hbytes d12) ?_
        exact Steps.refl _)
      have c5 : Steps p.tables e below (s₁.setTop (entryFrame m #[.ref b, .int (Int32.ofNat o), .ref d, .int (Int32.ofNat q), .int (Int32.ofNat len)] 7)) (Tl.setTop (mkF m 15 #[.val (.ref b), .val (.int (Int32.ofNat (o + i))), .val (.ref d), .val (.int (Int32.ofNat (q + i))), .val (.int (Int32.ofNat len)), .val (.int (Int32.ofNat i)), .val (.int (cv A (o + i)))] [])) := c4.trans (by
        refine XS.istoreS Xl.here hexec rfl (hb hbytes d13) rfl rfl hz ?_
        exact Steps.refl _)
      have c6 : Steps p.tables e below (s₁.setTop (entryFrame m #[.ref b, .int (Int32.ofNat o), .ref d, .int (Int32.ofNat q), .int (Int32.ofNat len)] 7)) (Tl.setTop (mkF m 31 #[.val (.ref b), .val (.int (Int32.ofNat (o + i))), .val (.ref d), .val (.int (Int32.ofNat (q + i))), .val (.int (Int32.ofNat len)), .val (.int (Int32.ofNat i)), .val (.int (cv A (o + i)))] [.int (lo8 (cv A (o + i))), .int (Int32.ofNat (q + i)), .ref d])) := c5.trans (by
        refine XS.iload Xl.here hexec rfl (hb hbytes d15) rfl ?_
        refine sipushV Xl.here hexec rfl 255 (hb hbytes d17) (by decide) ?_
        refine XS.icmpYes Xl.here hexec rfl (pc0 := 20) rfl (hb hbytes d20) rfl (ii_le_t (hp i (by omega))) (by decide) rfl ?_
        refine XS.aloadN Xl.here hexec rfl (hb hbytes d26) rfl rfl ?_
        refine XS.iloadN Xl.here hexec rfl (hb hbytes d27) rfl ?_
        refine XS.iload Xl.here hexec rfl (hb hbytes d28) rfl ?_
        refine i2b Xl.here hexec rfl (hb hbytes d30) rfl ?_
        exact Steps.refl _)
      obtain ⟨T7, X7, p7, st7⟩ := Xl.aput hexec hBk rfl hlt rfl (fits_lo8 (cv A (o + i))) (g := (mkF m 31 #[.val (.ref b), .val (.int (Int32.ofNat (o + i))), .val (.ref d), .val (.int (Int32.ofNat (q + i))), .val (.int (Int32.ofNat len)), .val (.int (Int32.ofNat i)), .val (.int (cv A (o + i)))] [.int (lo8 (cv A (o + i))), .int (Int32.ofNat (q + i)), .ref d])) rfl (rest := []) rfl (hb hbytes d31)
      have c8 : Steps p.tables e below (s₁.setTop (entryFrame m #[.ref b, .int (Int32.ofNat o), .ref d, .int (Int32.ofNat q), .int (Int32.ofNat len)] 7)) (T7.setTop (mkF m 32 #[.val (.ref b), .val (.int (Int32.ofNat (o + i))), .val (.ref d), .val (.int (Int32.ofNat (q + i))), .val (.int (Int32.ofNat len)), .val (.int (Int32.ofNat i)), .val (.int (cv A (o + i)))] [])) := c6.trans (st7 _ (Steps.refl _))
      have c9 : Steps p.tables e below (s₁.setTop (entryFrame m #[.ref b, .int (Int32.ofNat o), .ref d, .int (Int32.ofNat q), .int (Int32.ofNat len)] 7)) (T7.setTop (mkF m 3 #[.val (.ref b), .val (.int (Int32.ofNat (o + i) + 1)), .val (.ref d), .val (.int (Int32.ofNat (q + i) + 1)), .val (.int (Int32.ofNat len)), .val (.int (Int32.ofNat i + 1)), .val (.int (cv A (o + i)))] [])) := c8.trans (by
        refine iincV X7.here hexec rfl 1 (hb hbytes d32) (by decide) rfl rfl ?_
        refine iincV X7.here hexec rfl 1 (hb hbytes d35) (by decide) rfl rfl ?_
        refine iincV X7.here hexec rfl 1 (hb hbytes d38) (by decide) rfl rfl ?_
        refine XS.goto X7.here hexec rfl (pc0 := 41) rfl (hb hbytes d41) (by decide) rfl ?_
        exact Steps.refl _)
      have c10 : Steps p.tables e below (s₁.setTop (entryFrame m #[.ref b, .int (Int32.ofNat o), .ref d, .int (Int32.ofNat q), .int (Int32.ofNat len)] 7)) (T7.setTop (mkF m 3 #[.val (.ref b), .val (.int (Int32.ofNat (o + (i + 1)))), .val (.ref d), .val (.int (Int32.ofNat (q + (i + 1)))), .val (.int (Int32.ofNat len)), .val (.int (Int32.ofNat (i + 1))), .val (.int (cv A (o + i)))] [])) := by
        have := c9
        rw [succ32, succ32, succ32] at this
        exact this
      exact ih (i + 1) (by omega) _ (Or.inr ⟨_, rfl, rfl⟩) T7 _ (by rw [copyLocs_step, ← List.append_assoc]; exact X7) (pl.trans p7) (fl.step (by omega) hlt (by simp)) c10
  obtain ⟨T9, B9, z9, X9, p9, f9, g9⟩ := loop len 0 (by omega) .unset (Or.inl rfl) s₁ B (by simpa [copyLocs] using X0) ⟨hB0.1, fun _ _ => rfl, rfl⟩ (Laid.zero _ _ _) c2
  have c11 : Steps p.tables e below (s₁.setTop (entryFrame m #[.ref b, .int (Int32.ofNat o), .ref d, .int (Int32.ofNat q), .int (Int32.ofNat len)] 7)) (T9.setTop (mkF m 46 #[.val (.ref b), .val (.int (Int32.ofNat (o + len))), .val (.ref d), .val (.int (Int32.ofNat (q + len))), .val (.int (Int32.ofNat len)), .val (.int (Int32.ofNat len)), z9] [.int (Int32.ofNat len)])) := g9.trans (by
    refine XS.iload X9.here hexec rfl (hb hbytes d3) rfl ?_
    refine XS.iload X9.here hexec rfl (hb hbytes d5) rfl ?_
    refine XS.icmpYes X9.here hexec rfl (pc0 := 7) rfl (hb hbytes d7) rfl (ii_ge_t (nlt32 (by omega) (Nat.le_refl _))) (by decide) rfl ?_
    refine XS.iload X9.here hexec rfl (hb hbytes d44) rfl ?_
    exact Steps.refl _)
  exact ⟨T9, some (.int (Int32.ofNat len)), _, _, _, X9, by simp, rfl, rfl, (fun h => by cases h), ⟨rfl, B9, p9.from hh0, f9⟩, fun fs hl => c11.trans (X9.ireturnOut hexec hret rfl (Or.inl rfl) (hb hbytes d46) hl)⟩
end Cmp5
namespace Cmp3
def yN : MethodName := ⟨"java/lang/StringUTF16", "compress", "([CII)[B"⟩
abbrev yB : ByteArray := jdk_52_method_16_code
theorem d0 : decode yB 0 = .ok (.iload_n 2, 1) := by decide +kernel
theorem d1 : decode yB 1 = .ok (.newarray .byte, 2) := by decide +kernel
theorem d3 : decode yB 3 = .ok (.astore_n 3, 1) := by decide +kernel
theorem d4 : decode yB 4 = .ok (.aload_n 0, 1) := by decide +kernel
theorem d5 : decode yB 5 = .ok (.iload_n 1, 1) := by decide +kernel
theorem d6 : decode yB 6 = .ok (.aload_n 3, 1) := by decide +kernel
theorem d7 : decode yB 7 = .ok (.iconst 0, 1) := by decide +kernel
theorem d8 : decode yB 8 = .ok (.iload_n 2, 1) := by decide +kernel
theorem d9 : decode yB 9 = .ok (.invokestatic 115, 3) := by decide +kernel
theorem d12 : decode yB 12 = .ok (.istore 4, 2) := by decide +kernel
theorem d14 : decode yB 14 = .ok (.iload 4, 2) := by decide +kernel
theorem d16 : decode yB 16 = .ok (.iload_n 2, 1) := by decide +kernel
theorem d17 : decode yB 17 = .ok (.if_icmp (.eq) 40, 3) := by decide +kernel
theorem d57 : decode yB 57 = .ok (.aload_n 3, 1) := by decide +kernel
theorem d58 : decode yB 58 = .ok (.areturn, 1) := by decide +kernel
def site : List Cond := [.arrayClass .byte, Cmp5.tab] ++ staticW U16 115 Cmp5.yN
def tab : Cond := tabOf yN yB 6 (some (.array .byte)) site
def P (b : Addr) (A : Cell) (o len : Nat) (args : Array Value) (s : State) : Prop := args = #[.ref b, .int (Int32.ofNat o), .int (Int32.ofNat len)] ∧ Ch b A s ∧ o + len ≤ A.slots.size ∧ len ≤ 536870912 ∧ ∀ i, i < len → ¬ 255 < cv A (o + i)
def E (b : Addr) (A : Cell) (o len : Nat) (r : Option Value) (s u : State) : Prop := NewArr .byte "[B" len (fun j => .int (lo8 (cv A (o + j)))) r s u ∧ u.heap.size = s.heap.size + 1
/-- no char of the range above 255: a new byte[] of their low bytes -/
theorem law (l : Launch) (b : Addr) (A : Cell) (o len : Nat) : Law l yN 3 3 1 18 yB 6 (some (.array .byte)) site (P b A o len) (E b A o len) [] 1 len := by
  refine Law.of_walk (plainFor_of_name (by decide +kernel)) (by decide +kernel) (by decide +kernel) (by decide) (fun _ _ h => by rw [h.1]; rfl) (fun _ U U' hal hh h => ⟨h.1, h.2.1.mv hal hh, h.2.2⟩) (fun r U U' V V' h1 hal h2 h => ⟨NewArr.mv r U U' V V' h1 hal h2 h.1, by rw [h1, h2]; exact h.2⟩) ?_
  intro p e s m args below meth c s₁ X0 hexec hbytes hml hret hlk hnm hown hh0 W hP
  obtain ⟨rfl, hA, l1, l2, hp⟩ := hP
  have a31 := hA.1.2.2.2
  have c1 : Steps p.tables e below (s₁.setTop (entryFrame m #[.ref b, .int (Int32.ofNat o), .int (Int32.ofNat len)] 6)) (s₁.setTop (mkF m 0 #[.val (.ref b), .val (.int (Int32.ofNat o)), .val (.int (Int32.ofNat len)), .unset, .unset, .unset] [])) := entry rfl
  have c2 : Steps p.tables e below (s₁.setTop (entryFrame m #[.ref b, .int (Int32.ofNat o), .int (Int32.ofNat len)] 6)) (s₁.setTop (mkF m 1 #[.val (.ref b), .val (.int (Int32.ofNat o)), .val (.int (Int32.ofNat len)), .unset, .unset, .unset] [.int (Int32.ofNat len)])) := c1.trans (by
    refine XS.iloadN X0.here hexec rfl (hb hbytes d0) rfl ?_
    exact Steps.refl _)
  obtain ⟨T3, B3, X3, ba3, bs3, bv3, bh3, bf3, st3⟩ := X0.anew hexec (atype := .byte) (wk W (.arrayClass .byte)) rfl (by show len * 1 ≤ _; omega) (by omega) (g := (mkF m 1 #[.val (.ref b), .val (.int (Int32.ofNat o)), .val (.int (Int32.ofNat len)), .unset, .unset, .unset] [.int (Int32.ofNat len)])) rfl (hb hbytes d1) (rest := []) rfl (Nat.le_refl _) (by show 0 + len ≤ len; omega)
  rw [hh0] at ba3 st3
  have kp3 : XT.Kept s T3 := (XT.Kept.of_eq hh0).push bh3
  have hA3 := hA.keep X3.warmed.alike (kp3 _ _ hA.1.1)
  have hne : b ≠ s.heap.size := hA.1.ne
  have c4 : Steps p.tables e below (s₁.setTop (entryFrame m #[.ref b, .int (Int32.ofNat o), .int (Int32.ofNat len)] 6)) (T3.setTop (mkF m 3 #[.val (.ref b), .val (.int (Int32.ofNat o)), .val (.int (Int32.ofNat len)), .unset, .unset, .unset] [.ref s.heap.size])) := c2.trans (st3 _ (Steps.refl _))
  have c5 : Steps p.tables e below (s₁.setTop (entryFrame m #[.ref b, .int (Int32.ofNat o), .int (Int32.ofNat len)] 6)) (T3.setTop (mkF m 9 #[.val (.ref b), .val (.int (Int32.ofNat o)), .val (.int (Int32.ofNat len)), .val (.ref s.heap.size), .unset, .unset] [.int (Int32.ofNat len), .int 0, .ref s.heap.size, .int (Int32.ofNat o), .ref b])) := c4.trans (by
    refine XS.astoreN X3.here hexec rfl (hb hbytes d3) rfl rfl rfl ?_
    refine XS.aloadN X3.here hexec rfl (hb hbytes d4) rfl rfl ?_
    refine XS.iloadN X3.here hexec rfl (hb hbytes d5) rfl ?_
    refine XS.aloadN X3.here hexec rfl (hb hbytes d6) rfl rfl ?_
    refine iconstV X3.here hexec rfl 0 (hb hbytes d7) (by decide) ?_
    refine XS.iloadN X3.here hexec rfl (hb hbytes d8) rfl ?_
    exact Steps.refl _)
  obtain ⟨v6, T6, X6, E6, g6⟩ := X3.callS hexec (Cmp5.law l b A s.heap.size B3 o 0 len) hown (wks W (staticW U16 115 Cmp5.yN)) (wk W Cmp5.tab) (W := 0) (Nat.le_of_ble_eq_true rfl) (Nat.le_of_ble_eq_true rfl) (Nat.le_refl _) (by show 0 + len + 0 ≤ len; omega) (g := (mkF m 9 #[.val (.ref b), .val (.int (Int32.ofNat o)), .val (.int (Int32.ofNat len)), .val (.ref s.heap.size), .unset, .unset] [.int (Int32.ofNat len), .int (Int32.ofNat 0), .ref s.heap.size, .int (Int32.ofNat o), .ref b])) rfl (by rw [hml]; rfl) c5 (argsL := [.ref b, .int (Int32.ofNat o), .ref s.heap.size, .int (Int32.ofNat 0), .int (Int32.ofNat len)]) (rest := []) rfl rfl (by show 2 * 0 + 0 ≤ _; decide) (hb hbytes d9) (⟨rfl, hA3, ba3, hne, l1, by rw [bs3]; simp, hp⟩)
  obtain ⟨rfl, B6, p6, f6⟩ := E6
  have c7 : Steps p.tables e below (s₁.setTop (entryFrame m #[.ref b, .int (Int32.ofNat o), .int (Int32.ofNat len)] 6)) (T6.setTop (mkF m 12 #[.val (.ref b), .val (.int (Int32.ofNat o)), .val (.int (Int32.ofNat len)), .val (.ref s.heap.size), .unset, .unset] [.int (Int32.ofNat len)])) := g6
  have c8 : Steps p.tables e below (s₁.setTop (entryFrame m #[.ref b, .int (Int32.ofNat o), .int (Int32.ofNat len)] 6)) (T6.setTop (mkF m 58 #[.val (.ref b), .val (.int (Int32.ofNat o)), .val (.int (Int32.ofNat len)), .val (.ref s.heap.size), .val (.int (Int32.ofNat len)), .unset] [.ref s.heap.size])) := c7.trans (by
    refine XS.istore X6.here hexec rfl (hb hbytes d12) rfl rfl ?_
    refine XS.iload X6.here hexec rfl (hb hbytes d14) rfl ?_
    refine XS.iloadN X6.here hexec rfl (hb hbytes d16) rfl ?_
    refine XS.icmpYes X6.here hexec rfl (pc0 := 17) rfl (hb hbytes d17) rfl (ii_eq_t rfl) (by decide) rfl ?_
    refine XS.aloadN X6.here hexec rfl (hb hbytes d57) rfl rfl ?_
    exact Steps.refl _)
  have X8 := X6.wide (L' := []) (cells' := 1) (slots' := len) (fun x hx hlt => by
    simp only [List.nil_append, copyLocs, List.mem_map, List.mem_range] at hx
    obtain ⟨i, -, rfl⟩ := hx
    exact absurd hlt (Nat.lt_irrefl _)) (Nat.le_refl _) (by omega)
  exact ⟨T6, some (.ref s.heap.size), _, _, _, X8, rfl, rfl, rfl, (fun h => by cases h), ⟨⟨rfl, B6, ba3.like (X3.warmed.alike.symm.trans X6.warmed.alike) p6.1 f6.1 f6.2.1 f6.2.2.1, f6.2.1.trans bv3, by rw [X6.warmed.alike.findClass, f6.1]; exact bf3, by rw [f6.2.2.1, bs3]; simp, fun j hj => by rw [f6.2.2.2 j, if_pos (by omega)]; rfl, kp3.put p6 (Nat.le_refl _)⟩, by rw [p6.2.2, bh3, hh0]; simp⟩, fun fs hl => c8.trans (X8.areturnOut hexec rfl hret rfl (hb hbytes d58) hl)⟩
end Cmp3
namespace CodL
def yN : MethodName := ⟨"java/lang/StringUTF16", "coderFromArrayLen", "([BI)B"⟩
abbrev yB : ByteArray := jdk_52_method_15_code
theorem d0 : decode yB 0 = .ok (.iload_n 1, 1) := by decide +kernel
theorem d1 : decode yB 1 = .ok (.aload_n 0, 1) := by decide +kernel
theorem d2 : decode yB 2 = .ok (.arraylength, 1) := by decide +kernel
theorem d3 : decode yB 3 = .ok (.isub, 1) := by decide +kernel
theorem d4 : decode yB 4 = .ok (.bipush 31, 2) := by decide +kernel
theorem d6 : decode yB 6 = .ok (.iushr, 1) := by decide +kernel
theorem d7 : decode yB 7 = .ok (.i2b, 1) := by decide +kernel
theorem d8 : decode yB 8 = .ok (.ireturn, 1) := by decide +kernel
def site : List Cond := []
def tab : Cond := tabOf yN yB 2 (some .byte) site
def P (d : Addr) (B : Cell) (args : Array Value) (s : State) : Prop := args = #[.ref d, .int (Int32.ofNat B.slots.size)] ∧ Arr .byte d B s
def E (r : Option Value) (s u : State) : Prop := XT.PureE (some (.int 0)) r s u
/-- an array as long as the number of chars: LATIN1 -/
theorem law (l : Launch) (d : Addr) (B : Cell) : Law l yN 2 2 0 0 yB 2 (some .byte) site (P d B) E [] 0 0 := by
  refine Law.of_walk (plainFor_of_name (by decide +kernel)) (by decide +kernel) (by decide +kernel) (by decide) (fun _ _ h => by rw [h.1]; rfl) (fun _ U U' hal hh h => ⟨h.1, h.2.mv hal hh⟩) (fun r U U' V V' h1 hal h2 h => XT.PureE.mv r U U' V V' h1 hal h2 h) ?_
  intro p e s m args below meth c s₁ X0 hexec hbytes hml hret hlk hnm hown hh0 W hP
  obtain ⟨rfl, hB⟩ := hP
  have hB0 := hB.mv X0.warmed.alike hh0
  have c1 : Steps p.tables e below (s₁.setTop (entryFrame m #[.ref d, .int (Int32.ofNat B.slots.size)] 2)) (s₁.setTop (mkF m 0 #[.val (.ref d), .val (.int (Int32.ofNat B.slots.size))] [])) := entry rfl
  have c2 : Steps p.tables e below (s₁.setTop (entryFrame m #[.ref d, .int (Int32.ofNat B.slots.size)] 2)) (s₁.setTop (mkF m 2 #[.val (.ref d), .val (.int (Int32.ofNat B.slots.size))] [.ref d, .int (Int32.ofNat B.slots.size)])) := c1.trans (by
    refine XS.iloadN X0.here hexec rfl (hb hbytes d0) rfl ?_
    refine XS.aloadN X0.here hexec rfl (hb hbytes d1) rfl rfl ?_
    exact Steps.refl _)
  have c3 : Steps p.tables e below (s₁.setTop (entryFrame m #[.ref d, .int (Int32.ofNat B.slots.size)] 2)) (s₁.setTop (mkF m 8 #[.val (.ref d), .val (.int (Int32.ofNat B.slots.size))] [.int (lo8 (ushr (Int32.ofNat B.slots.size - Int32.ofNat B.slots.size) 31))])) := c2.trans (by
    refine X0.alen hexec hB0 rfl rfl (hb hbytes d2) ?_
    refine XS.isub X0.here hexec rfl (hb hbytes d3) rfl ?_
    refine bipushV X0.here hexec rfl 31 (hb hbytes d4) (by decide) ?_
    refine iushr X0.here hexec rfl (hb hbytes d6) rfl ?_
    refine i2b X0.here hexec rfl (hb hbytes d7) rfl ?_
    exact Steps.refl _)
  have e0 : lo8 (ushr (Int32.ofNat B.slots.size - Int32.ofNat B.slots.size) 31) = 0 := by rw [Int32.sub_self]; decide
  rw [e0] at c3
  exact ⟨s₁, some (.int 0), _, _, _, X0, rfl, rfl, rfl, (fun h => by cases h), ⟨rfl, hh0⟩, fun fs hl => c3.trans (X0.ireturnOut hexec hret rfl (Or.inr (Or.inr (Or.inl rfl))) (hb hbytes d8) hl)⟩
end CodL
/-- the String at a is Latin-1 over a new byte[] (the heap's one new cell): the low bytes of the len chars of A from o on; every cell but a is kept -/
def Got (a : Addr) (D : Cell) (fV fC : Field) (A : Cell) (o len : Nat) (r : Option Value) (s u : State) : Prop := r = none ∧ ∃ D' V : Cell, Blank "java/lang/String" a D' u ∧ Same D D' [fV.slot, fC.slot] ∧ D'.slots[fV.slot]? = some (.ref s.heap.size) ∧ D'.slots[fC.slot]? = some (.int 0) ∧ Arr .byte s.heap.size V u ∧ V.vm = .none ∧ u.vm.findClass "[B" = some V.cls ∧ V.slots.size = len ∧ (∀ j, j < len → V.slots[j]? = some (.int (lo8 (cv A (o + j))))) ∧ (∀ (y : Addr) (c : Cell), y ≠ a → s.heap[y]? = some c → u.heap[y]? = some c) ∧ u.heap.size = s.heap.size + 1
theorem Got.mv {a : Addr} {D A : Cell} {fV fC : Field} {o len : Nat} : ∀ r (U U' V V' : State), U'.heap = U.heap → V.vm.Alike V'.vm → V'.heap = V.heap → Got a D fV fC A o len r U V → Got a D fV fC A o len r U' V' :=
  fun r U U' V V' h1 hal h2 ⟨e0, D', X, a1, a2, a3, a4, a5, a6, a7, a8, a9, a10, a11⟩ => ⟨e0, D', X, a1.mv hal h2, a2, by rw [h1]; exact a3, a4, by rw [h1]; exact a5.mv hal h2, a6, by rw [hal.findClass]; exact a7, a8, a9, by rw [h1, h2]; exact a10, by rw [h1, h2]; exact a11⟩
namespace New4
def yN : MethodName := ⟨"java/lang/String", "<init>", "([CIILjava/lang/Void;)V"⟩
abbrev yB : ByteArray := jdk_42_method_149_code
theorem d0 : decode yB 0 = .ok (.aload_n 0, 1) := by decide +kernel
theorem d1 : decode yB 1 = .ok (.invokespecial 1, 3) := by decide +kernel
theorem d4 : decode yB 4 = .ok (.iload_n 3, 1) := by decide +kernel
theorem d5 : decode yB 5 = .ok (.ifCond (.ne) 22, 3) := by decide +kernel
theorem d27 : decode yB 27 = .ok (.getstatic 38, 3) := by decide +kernel
theorem d30 : decode yB 30 = .ok (.ifCond (.eq) 28, 3) := by decide +kernel
theorem d33 : decode yB 33 = .ok (.aload_n 1, 1) := by decide +kernel
theorem d34 : decode yB 34 = .ok (.iload_n 2, 1) := by decide +kernel
theorem d35 : decode yB 35 = .ok (.iload_n 3, 1) := by decide +kernel
theorem d36 : decode yB 36 = .ok (.invokestatic 177, 3) := by decide +kernel
theorem d39 : decode yB 39 = .ok (.astore 5, 2) := by decide +kernel
theorem d41 : decode yB 41 = .ok (.aload_n 0, 1) := by decide +kernel
theorem d42 : decode yB 42 = .ok (.aload 5, 2) := by decide +kernel
theorem d44 : decode yB 44 = .ok (.iload_n 3, 1) := by decide +kernel
theorem d45 : decode yB 45 = .ok (.invokestatic 47, 3) := by decide +kernel
theorem d48 : decode yB 48 = .ok (.putfield 15, 3) := by decide +kernel
theorem d51 : decode yB 51 = .ok (.aload_n 0, 1) := by decide +kernel
theorem d52 : decode yB 52 = .ok (.aload 5, 2) := by decide +kernel
theorem d54 : decode yB 54 = .ok (.putfield 9, 3) := by decide +kernel
theorem d57 : decode yB 57 = .ok (.return_, 1) := by decide +kernel
def site : List Cond := [.fieldLink "java/lang/String" 38 "java/lang/String" "COMPACT_STRINGS" "Z", Cmp3.tab, CodL.tab, .laysFinal "java/lang/String" "java/lang/String" "value" "[B", .fieldLink "java/lang/String" 9 "java/lang/String" "value" "[B", .laysFinal "java/lang/String" "java/lang/String" "coder" "B", .fieldLink "java/lang/String" 15 "java/lang/String" "coder" "B"] ++ objW "java/lang/String" 1 ++ staticW "java/lang/String" 177 Cmp3.yN ++ staticW "java/lang/String" 47 CodL.yN
def tab : Cond := tabOf yN yB 6 none site
def P (a : Addr) (D : Cell) (fV fC : Field) (b : Addr) (A : Cell) (z : Int32) (o len : Nat) (args : Array Value) (s : State) : Prop := args = #[.ref a, .ref b, .int (Int32.ofNat o), .int (Int32.ofNat len), .null] ∧ Blank "java/lang/String" a D s ∧ Found "java/lang/String" "value" "[B" fV s ∧ Found "java/lang/String" "coder" "B" fC s ∧ Ch b A s ∧ StaticIs s "java/lang/String" "COMPACT_STRINGS" "Z" (.int z) ∧ ¬ z = 0 ∧ 0 < len ∧ o + len ≤ A.slots.size ∧ len ≤ 536870912 ∧ ∀ i, i < len → ¬ 255 < cv A (o + i)
def E (a : Addr) (D : Cell) (fV fC : Field) (A : Cell) (o len : Nat) (r : Option Value) (s u : State) : Prop := Got a D fV fC A o len r s u
/-- len > 0, no char of the range above 255: a Latin-1 String of their low bytes -/
theorem law (l : Launch) (a : Addr) (D : Cell) (fV fC : Field) (b : Addr) (A : Cell) (z : Int32) (o len : Nat) : Law l yN 5 4 2 35 yB 6 none site (P a D fV fC b A z o len) (E a D fV fC A o len) [⟨a, fC.slot⟩, ⟨a, fV.slot⟩] 1 len := by
  refine Law.of_walk (plainFor_of_name (by decide +kernel)) (by decide +kernel) (by decide +kernel) (by decide) (fun _ _ h => by rw [h.1]; rfl) (fun _ U U' hal hh h => ⟨h.1, h.2.1.mv hal hh, h.2.2.1.al hal, h.2.2.2.1.al hal, h.2.2.2.2.1.mv hal hh, h.2.2.2.2.2.1.there hal hh, h.2.2.2.2.2.2⟩) (fun r U U' V V' h1 hal h2 h => Got.mv r U U' V V' h1 hal h2 h) ?_
  intro p e s m args below meth c s₁ X0 hexec hbytes hml hret hlk hnm hown hh0 W hP
  obtain ⟨rfl, hB, f1, f2, hA, s1, hz, l0, l1, l2, hp⟩ := hP
  have a31 := hA.1.2.2.2
  have c1 : Steps p.tables e below (s₁.setTop (entryFrame m #[.ref a, .ref b, .int (Int32.ofNat o), .int (Int32.ofNat len), .null] 6)) (s₁.setTop (mkF m 0 #[.val (.ref a), .val (.ref b), .val (.int (Int32.ofNat o)), .val (.int (Int32.ofNat len)), .val .null, .unset] [])) := entry rfl
  have c2 : Steps p.tables e below (s₁.setTop (entryFrame m #[.ref a, .ref b, .int (Int32.ofNat o), .int (Int32.ofNat len), .null] 6)) (s₁.setTop (mkF m 1 #[.val (.ref a), .val (.ref b), .val (.int (Int32.ofNat o)), .val (.int (Int32.ofNat len)), .val .null, .unset] [.ref a])) := c1.trans (by
    refine XS.aloadN X0.here hexec rfl (hb hbytes d0) rfl rfl ?_
    exact Steps.refl _)
  obtain ⟨T3, X3, q3, st3⟩ := X0.oinit hexec hown (wks W (objW "java/lang/String" 1)) (g := (mkF m 1 #[.val (.ref a), .val (.ref b), .val (.int (Int32.ofNat o)), .val (.int (Int32.ofNat len)), .val .null, .unset] [.ref a])) rfl (by rw [hml]; rfl) (rest := []) rfl (hb hbytes d1) (W := 0) (by show 2 * 0 + 0 ≤ _; decide) (Nat.le_of_ble_eq_true rfl) (Nat.le_of_ble_eq_true rfl)
  have hh3 := q3.trans hh0
  have c4 : Steps p.tables e below (s₁.setTop (entryFrame m #[.ref a, .ref b, .int (Int32.ofNat o), .int (Int32.ofNat len), .null] 6)) (T3.setTop (mkF m 27 #[.val (.ref a), .val (.ref b), .val (.int (Int32.ofNat o)), .val (.int (Int32.ofNat len)), .val .null, .unset] [])) := (c2.trans (st3 _ (Steps.refl _))).trans (by
    refine XS.iloadN X3.here hexec rfl (hb hbytes d4) rfl ?_
    refine XS.ifYes X3.here hexec rfl (pc0 := 5) rfl (hb hbytes d5) rfl (i0_ne_t (nz32 (by omega) l0)) (by decide) rfl ?_
    exact Steps.refl _)
  obtain ⟨T5, X5, q5, st5⟩ := X3.sget hexec hown (wk W (.fieldLink "java/lang/String" 38 "java/lang/String" "COMPACT_STRINGS" "Z")) s1 (fun _ _ h => by rw [hh3]; exact h) (g := (mkF m 27 #[.val (.ref a), .val (.ref b), .val (.int (Int32.ofNat o)), .val (.int (Int32.ofNat len)), .val .null, .unset] [])) rfl (hb hbytes d27)
  have hh5 := q5.trans hh3
  have c6 : Steps p.tables e below (s₁.setTop (entryFrame m #[.ref a, .ref b, .int (Int32.ofNat o), .int (Int32.ofNat len), .null] 6)) (T5.setTop (mkF m 30 #[.val (.ref a), .val (.ref b), .val (.int (Int32.ofNat o)), .val (.int (Int32.ofNat len)), .val .null, .unset] [.int z])) := c4.trans (st5 _ (Steps.refl _))
  have c7 : Steps p.tables e below (s₁.setTop (entryFrame m #[.ref a, .ref b, .int (Int32.ofNat o), .int (Int32.ofNat len), .null] 6)) (T5.setTop (mkF m 36 #[.val (.ref a), .val (.ref b), .val (.int (Int32.ofNat o)), .val (.int (Int32.ofNat len)), .val .null, .unset] [.int (Int32.ofNat len), .int (Int32.ofNat o), .ref b])) := c6.trans (by
    refine XS.ifNo X5.here hexec rfl (hb hbytes d30) rfl (i0_eq_f hz) ?_
    refine XS.aloadN X5.here hexec rfl (hb hbytes d33) rfl rfl ?_
    refine XS.iloadN X5.here hexec rfl (hb hbytes d34) rfl ?_
    refine XS.iloadN X5.here hexec rfl (hb hbytes d35) rfl ?_
    exact Steps.refl _)
  obtain ⟨v8, T8, X8, E8, g8⟩ := X5.callS hexec (Cmp3.law l b A o len) hown (wks W (staticW "java/lang/String" 177 Cmp3.yN)) (wk W Cmp3.tab) (W := 0) (Nat.le_of_ble_eq_true rfl) (Nat.le_of_ble_eq_true rfl) (Nat.le_refl _) (by show 0 + len ≤ len; omega) (g := (mkF m 36 #[.val (.ref a), .val (.ref b), .val (.int (Int32.ofNat o)), .val (.int (Int32.ofNat len)), .val .null, .unset] [.int (Int32.ofNat len), .int (Int32.ofNat o), .ref b])) rfl (by rw [hml]; rfl) c7 (argsL := [.ref b, .int (Int32.ofNat o), .int (Int32.ofNat len)]) (rest := []) rfl rfl (by show 2 * 0 + 0 ≤ _; decide) (hb hbytes d36) (⟨rfl, hA.mv X5.warmed.alike hh5, l1, l2, hp⟩)
  obtain ⟨e8, z8⟩ := E8
  obtain ⟨rfl, N, n1, n2, n3, n4, n5, n6⟩ := NewArr.mv _ T5 s _ _ hh5.symm (Vm.Alike.refl _) rfl e8
  rw [hh5] at z8
  have hB1 := hB.keep X8.warmed.alike (n6 _ _ hB.1)
  have hne : s.heap.size ≠ a := (Nat.ne_of_lt (Array.getElem?_eq_some_iff.mp hB.1).1).symm
  have c9 : Steps p.tables e below (s₁.setTop (entryFrame m #[.ref a, .ref b, .int (Int32.ofNat o), .int (Int32.ofNat len), .null] 6)) (T8.setTop (mkF m 39 #[.val (.ref a), .val (.ref b), .val (.int (Int32.ofNat o)), .val (.int (Int32.ofNat len)), .val .null, .unset] [.ref s.heap.size])) := g8
  have c10 : Steps p.tables e below (s₁.setTop (entryFrame m #[.ref a, .ref b, .int (Int32.ofNat o), .int (Int32.ofNat len), .null] 6)) (T8.setTop (mkF m 45 #[.val (.ref a), .val (.ref b), .val (.int (Int32.ofNat o)), .val (.int (Int32.ofNat len)), .val .null, .val (.ref s.heap.size)] [.int (Int32.ofNat N.slots.size), .ref s.heap.size, .ref a])) := by
    have hc : Steps p.tables e below (s₁.setTop (entryFrame m #[.ref a, .ref b, .int (Int32.ofNat o), .int (Int32.ofNat len), .null] 6)) (T8.setTop (mkF m 45 #[.val (.ref a), .val (.ref b), .val (.int (Int32.ofNat o)), .val (.int (Int32.ofNat len)), .val .null, .val (.ref s.heap.size)] [.int (Int32.ofNat len), .ref s.heap.size, .ref a])) := c9.trans (by
      refine XS.astore X8.here hexec rfl (hb hbytes d39) rfl rfl rfl ?_
      refine XS.aloadN X8.here hexec rfl (hb hbytes d41) rfl rfl ?_
      refine XS.aload X8.here hexec rfl (hb hbytes d42) rfl rfl ?_
      refine XS.iloadN X8.here hexec rfl (hb hbytes d44) rfl ?_
      exact Steps.refl _)
    rw [n4]; exact hc
  obtain ⟨v11, T11, X11, E11, g11⟩ := X8.callS hexec (CodL.law l s.heap.size N) hown (wks W (staticW "java/lang/String" 47 CodL.yN)) (wk W CodL.tab) (W := 1) (Nat.le_of_ble_eq_true rfl) (Nat.le_of_ble_eq_true rfl) (Nat.le_refl _) (by show 0 + len + 0 ≤ len; omega) (g := (mkF m 45 #[.val (.ref a), .val (.ref b), .val (.int (Int32.ofNat o)), .val (.int (Int32.ofNat len)), .val .null, .val (.ref s.heap.size)] [.int (Int32.ofNat N.slots.size), .ref s.heap.size, .ref a])) rfl (by rw [hml]; rfl) c10 (argsL := [.ref s.heap.size, .int (Int32.ofNat N.slots.size)]) (rest := [.ref a]) rfl rfl (by show 2 * 0 + (1 + 0) ≤ _; decide) (hb hbytes d45) (⟨rfl, n1⟩)
  obtain ⟨rfl, q11⟩ := E11
  have hB11 := hB1.mv (X8.warmed.alike.symm.trans X11.warmed.alike) q11
  have c12 : Steps p.tables e below (s₁.setTop (entryFrame m #[.ref a, .ref b, .int (Int32.ofNat o), .int (Int32.ofNat len), .null] 6)) (T11.setTop (mkF m 48 #[.val (.ref a), .val (.ref b), .val (.int (Int32.ofNat o)), .val (.int (Int32.ofNat len)), .val .null, .val (.ref s.heap.size)] [.int 0, .ref a])) := g11
  obtain ⟨T13, X13, p13, bl13, sl13, st13⟩ := X11.finit hexec hown (wk W (.fieldLink "java/lang/String" 15 "java/lang/String" "coder" "B")) (Or.inr ⟨_, (wk W (.laysFinal "java/lang/String" "java/lang/String" "coder" "B"))⟩) (Or.inl ⟨rfl, hnm⟩) f2 (Or.inl rfl) hB11 (t := .byte) (by decide +kernel) rfl (g := (mkF m 48 #[.val (.ref a), .val (.ref b), .val (.int (Int32.ofNat o)), .val (.int (Int32.ofNat len)), .val .null, .val (.ref s.heap.size)] [.int 0, .ref a])) rfl (rest := []) rfl (hb hbytes d48)
  have c14 : Steps p.tables e below (s₁.setTop (entryFrame m #[.ref a, .ref b, .int (Int32.ofNat o), .int (Int32.ofNat len), .null] 6)) (T13.setTop (mkF m 54 #[.val (.ref a), .val (.ref b), .val (.int (Int32.ofNat o)), .val (.int (Int32.ofNat len)), .val .null, .val (.ref s.heap.size)] [.ref s.heap.size, .ref a])) := (c12.trans (st13 _ (Steps.refl _))).trans (by
    refine XS.aloadN X13.here hexec rfl (hb hbytes d51) rfl rfl ?_
    refine XS.aload X13.here hexec rfl (hb hbytes d52) rfl rfl ?_
    exact Steps.refl _)
  obtain ⟨T15, X15, p15, bl15, sl15, st15⟩ := X13.finit hexec hown (wk W (.fieldLink "java/lang/String" 9 "java/lang/String" "value" "[B")) (Or.inr ⟨_, (wk W (.laysFinal "java/lang/String" "java/lang/String" "value" "[B"))⟩) (Or.inl ⟨rfl, hnm⟩) f1 (Or.inl rfl) bl13 (t := (.array .byte)) (by decide +kernel) rfl (g := (mkF m 54 #[.val (.ref a), .val (.ref b), .val (.int (Int32.ofNat o)), .val (.int (Int32.ofNat len)), .val .null, .val (.ref s.heap.size)] [.ref s.heap.size, .ref a])) rfl (rest := []) rfl (hb hbytes d54)
  have c16 : Steps p.tables e below (s₁.setTop (entryFrame m #[.ref a, .ref b, .int (Int32.ofNat o), .int (Int32.ofNat len), .null] 6)) (T15.setTop (mkF m 57 #[.val (.ref a), .val (.ref b), .val (.int (Int32.ofNat o)), .val (.int (Int32.ofNat len)), .val .null, .val (.ref s.heap.size)] [])) := c14.trans (st15 _ (Steps.refl _))
  have ap := apart (Or.inr ⟨_, (wk W (.laysFinal "java/lang/String" "java/lang/String" "value" "[B"))⟩) (Or.inr ⟨_, (wk W (.laysFinal "java/lang/String" "java/lang/String" "coder" "B"))⟩) f1 f2 (t₁ := .array .byte) (t₂ := .byte) (by decide +kernel) (by decide +kernel) (by decide)
  have al := X8.warmed.alike.symm.trans X15.warmed.alike
  have n7 : T11.heap[s.heap.size]? = some N := by rw [q11]; exact n1.1
  exact ⟨T15, none, _, _, _, X15, by simp, rfl, by omega, (fun _ => rfl), ⟨rfl, _, N, bl15, ((Same.refl D _).set _ (by simp)).set _ (by simp), sl15, (Cell.slots_setSlot_ne _ ap).trans sl13, n1.keep al (p15.other hne (p13.other hne n7)), n2, by rw [al.findClass]; exact n3, n4, n5, fun y c h1 h2 => p15.other h1 (p13.other h1 (by rw [q11]; exact n6 y c h2)), by rw [p15.2.2, p13.2.2, q11]; exact z8⟩, fun fs hl => c16.trans (X15.returnOut hexec hret (hb hbytes d57) hl)⟩
end New4
namespace New1
def yN : MethodName := ⟨"java/lang/String", "<init>", "([C)V"⟩
abbrev yB : ByteArray := jdk_42_method_3_code
theorem d0 : decode yB 0 = .ok (.aload_n 0, 1) := by decide +kernel
theorem d1 : decode yB 1 = .ok (.aload_n 1, 1) := by decide +kernel
theorem d2 : decode yB 2 = .ok (.iconst 0, 1) := by decide +kernel
theorem d3 : decode yB 3 = .ok (.aload_n 1, 1) := by decide +kernel
theorem d4 : decode yB 4 = .ok (.arraylength, 1) := by decide +kernel
theorem d5 : decode yB 5 = .ok (.aconst_null, 1) := by decide +kernel
theorem d6 : decode yB 6 = .ok (.invokespecial 27, 3) := by decide +kernel
theorem d9 : decode yB 9 = .ok (.return_, 1) := by decide +kernel
def site : List Cond := [New4.tab] ++ initW "java/lang/String" 27 New4.yN
def tab : Cond := tabOf yN yB 2 none site
def P (a : Addr) (D : Cell) (fV fC : Field) (b : Addr) (A : Cell) (z : Int32) (args : Array Value) (s : State) : Prop := args = #[.ref a, .ref b] ∧ Blank "java/lang/String" a D s ∧ Found "java/lang/String" "value" "[B" fV s ∧ Found "java/lang/String" "coder" "B" fC s ∧ Ch b A s ∧ StaticIs s "java/lang/String" "COMPACT_STRINGS" "Z" (.int z) ∧ ¬ z = 0 ∧ 0 < A.slots.size ∧ A.slots.size ≤ 536870912 ∧ ∀ i, i < A.slots.size → ¬ 255 < cv A i
def E (a : Addr) (D : Cell) (fV fC : Field) (A : Cell) (r : Option Value) (s u : State) : Prop := Got a D fV fC A 0 A.slots.size r s u
/-- new String(chars), not empty, no char above 255: a Latin-1 String of their low bytes -/
theorem law (l : Launch) (a : Addr) (D : Cell) (fV fC : Field) (b : Addr) (A : Cell) (z : Int32) : Law l yN 2 1 3 52 yB 2 none site (P a D fV fC b A z) (E a D fV fC A) [⟨a, fC.slot⟩, ⟨a, fV.slot⟩] 1 A.slots.size := by
  refine Law.of_walk (plainFor_of_name (by decide +kernel)) (by decide +kernel) (by decide +kernel) (by decide) (fun _ _ h => by rw [h.1]; rfl) (fun _ U U' hal hh h => ⟨h.1, h.2.1.mv hal hh, h.2.2.1.al hal, h.2.2.2.1.al hal, h.2.2.2.2.1.mv hal hh, h.2.2.2.2.2.1.there hal hh, h.2.2.2.2.2.2⟩) (fun r U U' V V' h1 hal h2 h => Got.mv r U U' V V' h1 hal h2 h) ?_
  intro p e s m args below meth c s₁ X0 hexec hbytes hml hret hlk hnm hown hh0 W hP
  obtain ⟨rfl, hB, f1, f2, hA, s1, hz, l0, l2, hp⟩ := hP
  have c1 : Steps p.tables e below (s₁.setTop (entryFrame m #[.ref a, .ref b] 2)) (s₁.setTop (mkF m 0 #[.val (.ref a), .val (.ref b)] [])) := entry rfl
  have c2 : Steps p.tables e below (s₁.setTop (entryFrame m #[.ref a, .ref b] 2)) (s₁.setTop (mkF m 6 #[.val (.ref a), .val (.ref b)] [.null, .int (Int32.ofNat A.slots.size), .int 0, .ref b, .ref a])) := c1.trans (by
    refine XS.aloadN X0.here hexec rfl (hb hbytes d0) rfl rfl ?_
    refine XS.aloadN X0.here hexec rfl (hb hbytes d1) rfl rfl ?_
    refine iconstV X0.here hexec rfl 0 (hb hbytes d2) (by decide) ?_
    refine XS.aloadN X0.here hexec rfl (hb hbytes d3) rfl rfl ?_
    refine X0.alen hexec (hA.1.mv X0.warmed.alike hh0) rfl rfl (hb hbytes d4) ?_
    refine XS.aconstNull X0.here hexec rfl (hb hbytes d5) ?_
    exact Steps.refl _)
  obtain ⟨v3, T3, X3, E3, g3⟩ := X0.callN hexec (New4.law l a D fV fC b A z 0 A.slots.size) rfl hown (wks W (initW "java/lang/String" 27 New4.yN)) (W New4.tab (by simp only [site, List.mem_cons, List.mem_append, true_or, or_true])) (W := 0) (Nat.le_of_ble_eq_true rfl) (Nat.le_of_ble_eq_true rfl) (Nat.le_refl _) (by show 0 + A.slots.size ≤ A.slots.size; omega) (g := (mkF m 6 #[.val (.ref a), .val (.ref b)] [.null, .int (Int32.ofNat A.slots.size), .int (Int32.ofNat 0), .ref b, .ref a])) rfl (by rw [hml]; rfl) c2 (argsL := [.ref b, .int (Int32.ofNat 0), .int (Int32.ofNat A.slots.size), .null]) (rest := []) rfl rfl (by show 2 * 0 + 0 ≤ _; decide) (hb hbytes d6) (⟨rfl, hB.mv X0.warmed.alike hh0, f1.al X0.warmed.alike, f2.al X0.warmed.alike, hA.mv X0.warmed.alike hh0, s1.there X0.warmed.alike hh0, hz, l0, by omega, l2, fun i hi => by rw [Nat.zero_add]; exact hp i hi⟩)
  have e0 := Got.mv _ s₁ s _ _ hh0.symm (Vm.Alike.refl _) rfl E3
  obtain rfl := e0.1
  have c4 : Steps p.tables e below (s₁.setTop (entryFrame m #[.ref a, .ref b] 2)) (T3.setTop (mkF m 9 #[.val (.ref a), .val (.ref b)] [])) := g3
  exact ⟨T3, none, _, _, _, X3, by simp, rfl, by omega, (fun _ => rfl), e0, fun fs hl => c4.trans (X3.returnOut hexec hret (hb hbytes d9) hl)⟩
theorem pays {l : Launch} {R : Room} {p : Program} {e : Env} {below : List Frame} {s : State} {sargs : Array Value} {len W : Nat} (a : Addr) (D : Cell) (fV fC : Field) (b : Addr) (A : Cell) (z : Int32) (htab : tab.before sargs s = true) (hfr : 4 ≤ R.frames) (hlo : W + 65 ≤ R.locals) :
    Back l R p e below s sargs yN len W (fun A₁ a₁ => A₁.cells + 1 ≤ R.cells ∧ A₁.slots + A.slots.size ≤ R.slots ∧ P a D fV fC b A z a₁ A₁.U) (fun A₁ _ v₁ B₁ => E a D fV fC A v₁ A₁.U B₁.U ∧ B₁.locs = A₁.locs ++ [⟨a, fC.slot⟩, ⟨a, fV.slot⟩] ∧ B₁.cells = A₁.cells + 1 ∧ B₁.slots = A₁.slots + A.slots.size) :=
  (law l a D fV fC b A z).pays htab hfr (by omega)
end New1
end StrChars
namespace StrChars.Road
open Jvm Sem ClassFile Op Lib Jvm.Stand Jvm.Free Jvm.Free.XT
open Jvm.Lib.Cold (StaticIs)
abbrev ST : String := "java/lang/String"
/-- every table word that New1's law asks, flat -/
abbrev words : List Jvm.Cond := [.code New1.yN New1.yB 2 none, .initialized ST, .methodLink ST 27 New4.yN, .instanceMethod New4.yN,
  .code New4.yN New4.yB 6 none, .fieldLink ST 38 ST "COMPACT_STRINGS" "Z", .laysFinal ST ST "value" "[B", .fieldLink ST 9 ST "value" "[B", .laysFinal ST ST "coder" "B", .fieldLink ST 15 ST "coder" "B",
  .methodLink ST 1 Lib.objectInit, .instanceMethod Lib.objectInit, .code Lib.objectInit ⟨#[0xb1]⟩ 1 none, .methodLink ST 177 Cmp3.yN, .static Cmp3.yN, .methodLink ST 47 CodL.yN, .static CodL.yN,
  .code Cmp3.yN Cmp3.yB 6 (some (.array .byte)), .initialized U16, .arrayClass .byte, .methodLink U16 115 Cmp5.yN, .static Cmp5.yN, .code Cmp5.yN Cmp5.yB 7 (some .int), .code CodL.yN CodL.yB 2 (some .byte)]
theorem tab_of {a : Array Value} {s : State} (h : ∀ w ∈ words, w.before a s = true) : New1.tab.before a s = true := by
  have h5 : Cmp5.tab.before a s = true := unparts (wk h (.code Cmp5.yN Cmp5.yB 7 (some .int))) (wks h (.initialized Cmp5.yN.cls :: Cmp5.site))
  have hc : CodL.tab.before a s = true := unparts (wk h (.code CodL.yN CodL.yB 2 (some .byte))) (wks h (.initialized CodL.yN.cls :: CodL.site))
  have q5 : ∀ w ∈ Cmp5.tab :: words, w.before a s = true := fun w hw => (List.mem_cons.mp hw).elim (fun e => e ▸ h5) (h w)
  have h3 : Cmp3.tab.before a s = true := unparts (wk q5 (.code Cmp3.yN Cmp3.yB 6 (some (.array .byte)))) (wks q5 (.initialized Cmp3.yN.cls :: Cmp3.site))
  have q3 : ∀ w ∈ Cmp3.tab :: CodL.tab :: words, w.before a s = true := fun w hw => (List.mem_cons.mp hw).elim (fun e => e ▸ h3) fun hw => (List.mem_cons.mp hw).elim (fun e => e ▸ hc) (h w)
  have h4 : New4.tab.before a s = true := unparts (wk q3 (.code New4.yN New4.yB 6 none)) (wks q3 (.initialized New4.yN.cls :: New4.site))
  have q4 : ∀ w ∈ New4.tab :: words, w.before a s = true := fun w hw => (List.mem_cons.mp hw).elim (fun e => e ▸ h4) (h w)
  exact unparts (wk q4 (.code New1.yN New1.yB 2 none)) (wks q4 (.initialized New1.yN.cls :: New1.site))
/-- the words ride from the start Z to the walk's own state -/
theorem moved {Z s : State} {a0 args : Array Value} (hZ : Z.Warmed39 s.vm) (hw : ∀ d ∈ words, d.before a0 Z = true) : ∀ d ∈ words, d.before args s = true := fun d hd => by
  have q := hw d hd
  have t : ∀ d ∈ words, d = .arrayClass .byte ∨ (d.onTables && d.keepsFace) = true := by decide +kernel
  rcases t d hd with rfl | t
  · exact RoadKit.mvA hZ q
  · exact RoadKit.mv hZ q t
/-- WHAT COMES BACK, over the tables of the start Z: h the heap at the call, h' behind it -/
def Q (Z : State) (x : Addr) (A : Cell) (h : Heap) (v : Option Value) (h' : Heap) (L : List Loc) : Prop := v = none ∧ (∀ y ∈ L, y.base = x) ∧ RoadKit.Keep h h' [x] ∧ h'.size = h.size + 1 ∧ RoadKit.Exa Z h' x ST ∧ RoadKit.Fld Z h' x ST "value" "[B" (.ref h.size) ∧ RoadKit.Fld Z h' x ST "coder" "B" (.int 0) ∧
  (∃ V : Cell, RoadKit.Arr Z h' h.size V .byte ∧ V.vm = .none ∧ Z.vm.findClass "[B" = some V.cls ∧ V.slots.size = A.slots.size ∧ ∀ j, j < A.slots.size → V.slots[j]? = some (.int (lo8 (cv A j)))) ∧
  ∀ (O n d : String) (w : Value), RoadKit.Fld Z h x O n d w → RoadKit.slotOf Z O n d ≠ RoadKit.slotOf Z ST "value" "[B" → RoadKit.slotOf Z O n d ≠ RoadKit.slotOf Z ST "coder" "B" → RoadKit.Fld Z h' x O n d w
/-- **new String(chars) AT A CALL, IN THE ROAD'S FORM**: for specialBack behind newO: x the fresh String, b the char[] with the cell A -/
theorem back {p : Program} {l : Launch} {e : Env} {R : Room} {s : State} {args : Array Value} {below : List Frame} {len W : Nat} {Z : State} {a0 : Array Value} {h : Heap} (hZ : Z.Warmed39 s.vm) (hw : ∀ d ∈ words, d.before a0 Z = true) {kI : Nat} (wi : (Jvm.Cond.instantiable ST kI).before a0 Z = true)
    {x b : Addr} {A : Cell} {z : Int32} {v0 c0 : Value} (E : RoadKit.Exa Z h x ST) (V : RoadKit.Fld Z h x ST "value" "[B" v0) (C : RoadKit.Fld Z h x ST "coder" "B" c0) (K : RoadKit.Arr Z h b A .char) (hty : Typed .char A) (S : RoadKit.Sta Z h ST "COMPACT_STRINGS" "Z" (.int z)) (hz : ¬ z = 0)
    (l0 : 0 < A.slots.size) (l2 : A.slots.size ≤ 536870912) (hp : ∀ i, i < A.slots.size → ¬ 255 < cv A i) (hfr : 4 ≤ R.frames) (hlo : W + 65 ≤ R.locals) :
    Back l R p e below s args New1.yN len W (fun P a => a = #[.ref x, .ref b] ∧ P.U.heap = h ∧ P.cells + 1 ≤ R.cells ∧ P.slots + A.slots.size ≤ R.slots)
      (fun P _ v B => ∃ L, Q Z x A h v B.U.heap L ∧ B.locs = P.locs ++ L ∧ B.cells = P.cells + 1 ∧ B.slots = P.slots + A.slots.size) := by
  intro m meth c P g ig mk a X hg hsize hdg hW hn hp'
  obtain ⟨rfl, rfl, r1, r2⟩ := hp'
  have al : Z.vm.Alike P.U.vm := hZ.alike.trans X.warmed.alike
  obtain ⟨D, cfV, kV, iV, fV, hD, gV, stV, knV, obV, asV, slV⟩ := id V
  obtain ⟨D', cfC, kC, iC, fC, hD', gC, stC, -, -, asC, slC⟩ := id C
  cases hD.symm.trans hD'
  obtain ⟨D2, kD, e1, e2, e3, e4, e5⟩ := id E
  cases hD.symm.trans e1
  obtain ⟨c2, k2, i1, i2, i3, -⟩ := Cond.instantiable_spec wi
  cases e2.symm.trans i1
  cases e3.symm.trans i2
  obtain ⟨kU, u1, u2⟩ := al.2.2 _ _ e3
  have hB : Blank ST x D P.U := ⟨hD, ⟨knV, fun q hq => by rw [hq] at obV; cases obV⟩, by rw [al.findClass]; exact e2, kU, u1, by rw [u2]; exact i3, by rw [u2]; exact e5 i3⟩
  have F1 : Found ST "value" "[B" fV P.U := ⟨SBG.found_only al ⟨cfV, kV, iV, gV⟩, stV⟩
  have F2 : Found ST "coder" "B" fC P.U := ⟨SBG.found_only al ⟨cfC, kC, iC, gC⟩, stC⟩
  have hA : Ch b A P.U := ⟨⟨K.1, State.isArrayOf_alike al K.2.1, K.2.2, by omega⟩, hty⟩
  have hS : StaticIs P.U ST "COMPACT_STRINGS" "Z" (.int z) := by
    obtain ⟨cfS, iS, kS, fS, st, cS, t1, t2, t3, t4, t5, t6, t7⟩ := S
    exact StaticIs.there (s := { Z with heap := P.U.heap }) ⟨cfS, iS, kS, fS, st, cS, t1, t2, t3, t4, t5, (fun q => by rw [q] at t6; cases t6), t7⟩ al rfl
  obtain ⟨v, B, X', ⟨⟨hv, E', V', q1, q2, q3, q4, q5, q6, q7, q8, q9, q10, q11⟩, hl, hc, hs⟩, st⟩ := New1.pays x D fV fC b A z (tab_of (moved hZ hw)) hfr hlo m meth c P g ig mk _ X hg hsize hdg hW hn ⟨r1, r2, rfl, hB, F1, F2, hA, hS, hz, l0, l2, hp⟩
  have al' : Z.vm.Alike B.U.vm := hZ.alike.trans X'.warmed.alike
  have hsz : E'.slots.size = D.slots.size := by
    obtain ⟨-, -, -, kB, w1, w2, w3⟩ := q1
    obtain ⟨kB', y1, y2⟩ := al'.2.2 _ _ e3
    rw [q2.2.1] at w1
    cases w1.symm.trans y1
    rw [w3, e5 i3, y2]
  refine ⟨v, B, X', ⟨_, ⟨hv, ?_, ⟨by omega, fun y cy hy hn' => q10 y cy (by simpa using hn') hy, fun y cy hy => ?_⟩, q11, ⟨E', _, q1.1, by rw [q2.2.1]; exact e2, by rw [q2.2.1]; exact e3, by rw [q2.1]; exact obV, fun _ => by rw [hsz]; exact e5 i3⟩,
    ⟨E', cfV, kV, iV, fV, q1.1, gV, stV, by rw [q2.1]; exact knV, by rw [q2.1]; exact obV, by rw [q2.2.1]; exact asV, q3⟩, ⟨E', cfC, kC, iC, fC, q1.1, gC, stC, by rw [q2.1]; exact knV, by rw [q2.1]; exact obV, by rw [q2.2.1]; exact asC, q4⟩,
    ⟨V', ⟨q5.1, State.isArrayOf_alike al'.symm q5.2.1, q5.2.2.1⟩, q6, by rw [← al'.findClass]; exact q7, q8, fun j hj => by have := q9 j hj; rwa [Nat.zero_add] at this⟩, fun O n d w F n1 n2 => ?_⟩, hl, hc, hs⟩, st⟩
  · intro y hy
    simp only [List.mem_cons, List.not_mem_nil, or_false] at hy
    rcases hy with rfl | rfl <;> rfl
  · by_cases q : y = x
    · subst q
      cases hD.symm.trans hy
      exact ⟨E', q1.1, q2.2.1, q2.1, hsz⟩
    · exact ⟨cy, q10 y cy q hy, rfl, rfl, rfl⟩
  · obtain ⟨D3, cf, k, i, f, g1, g2, g3, g4, g5, g6, g7⟩ := F
    cases hD.symm.trans g1
    simp only [RoadKit.slotOf, g2, gV, gC, Option.map_some, Option.getD_some] at n1 n2
    exact ⟨E', cf, k, i, f, q1.1, g2, g3, by rw [q2.1]; exact g4, by rw [q2.1]; exact g5, by rw [q2.2.1]; exact g6, by rw [q2.2.2 f.slot (by simp [n1, n2])]; exact g7⟩
end StrChars.Road
namespace StrChars.Road
open Jvm Sem ClassFile Op Lib Jvm.Stand Jvm.Free Jvm.Free.XT
/-- WHAT COMES BACK, the byte[] as a list of values -/
def QA (Z : State) (x : Addr) (zn : Int32) (cs : List Int32) (h : Heap) (v : Option Value) (h' : Heap) (L : List Loc) : Prop := v = none ∧ (∀ y ∈ L, y.base = x) ∧ RoadKit.Keep h h' [x] ∧ h'.size = h.size + 1 ∧ RoadKit.Exa Z h' x ST ∧ RoadKit.Fld Z h' x ST "value" "[B" (.ref h.size) ∧ RoadKit.Fld Z h' x ST "coder" "B" (.int 0) ∧
  (∃ kb, Z.vm.findClass "[B" = some kb ∧ RoadKit.Arv Z h' h.size kb .byte zn (cs.map fun c => .int (lo8 c)) (.int 0)) ∧
  ∀ (O n d : String) (w : Value), RoadKit.Fld Z h x O n d w → RoadKit.slotOf Z O n d ≠ RoadKit.slotOf Z ST "value" "[B" → RoadKit.slotOf Z O n d ≠ RoadKit.slotOf Z ST "coder" "B" → RoadKit.Fld Z h' x O n d w
/-- **new String(chars) AT A CALL, THE ARRAYS AS LISTS**: the char[] at b holds cs, not empty, no char above 255 -/
theorem backArv {p : Program} {l : Launch} {e : Env} {R : Room} {s : State} {args : Array Value} {below : List Frame} {len W : Nat} {Z : State} {a0 : Array Value} {h : Heap} (hZ : Z.Warmed39 s.vm) (hw : ∀ d ∈ words, d.before a0 Z = true) {kI : Nat} (wi : (Jvm.Cond.instantiable ST kI).before a0 Z = true)
    {x b : Addr} {k : ClassId} {zn z : Int32} {cs : List Int32} {dv v0 c0 : Value} (E : RoadKit.Exa Z h x ST) (V : RoadKit.Fld Z h x ST "value" "[B" v0) (C : RoadKit.Fld Z h x ST "coder" "B" c0) (K : RoadKit.Arv Z h b k .char zn (cs.map Value.int) dv) (S : RoadKit.Sta Z h ST "COMPACT_STRINGS" "Z" (.int z)) (hz : ¬ z = 0)
    (hlen : zn.toNatClampNeg = cs.length) (h0 : 0 < cs.length) (hbig : cs.length ≤ 536870912) (hall : ∀ c ∈ cs, ¬ 255 < c) (hfr : 4 ≤ R.frames) (hlo : W + 65 ≤ R.locals) :
    Back l R p e below s args New1.yN len W (fun P a => a = #[.ref x, .ref b] ∧ P.U.heap = h ∧ P.cells + 1 ≤ R.cells ∧ P.slots + cs.length ≤ R.slots)
      (fun P _ v B => ∃ L, QA Z x zn cs h v B.U.heap L ∧ B.locs = P.locs ++ L ∧ B.cells = P.cells + 1 ∧ B.slots = P.slots + cs.length) := by
  obtain ⟨A, K1, K2, K3, K4, K5, K6⟩ := K
  have e : A.slots.size = cs.length := K3.trans hlen
  have hat : ∀ (i : Nat) (hi : i < cs.length), A.slots[i]? = some (.int cs[i]) := fun i hi => by rw [K5 i (by omega)]; simp [List.getD_eq_getElem?_getD, hi]
  have hcv : ∀ (i : Nat) (hi : i < cs.length), cv A i = cs[i] := fun i hi => by unfold cv; rw [hat i hi]
  have hty : Typed .char A := fun i v hv => by
    have hi : i < A.slots.size := (Array.getElem?_eq_some_iff.mp hv).1
    have q := K5 i hi
    rw [hv] at q
    rw [Option.some.inj q]
    exact K6 i hi
  refine Back.mono (back hZ hw wi E V C K1 hty S hz (by omega) (by omega) (fun i hi => by rw [hcv i (by omega)]; exact hall _ (List.getElem_mem _)) hfr hlo) (fun P a hp => ⟨hp.1, hp.2.1, hp.2.2.1, by rw [e]; exact hp.2.2.2⟩) (fun P a v B hp hq => ?_)
  obtain ⟨L, ⟨q1, q2, q3, q4, q5, q6, q7, ⟨V', v1, v2, v3, v4, v5⟩, q9⟩, hl, hc, hs⟩ := hq
  refine ⟨L, ⟨q1, q2, q3, q4, q5, q6, q7, ⟨V'.cls, v3, V', v1, rfl, by rw [v4, e, hlen], K4, fun i hi => ?_, fun i hi => ?_⟩, q9⟩, hl, hc, by rw [hs, e]⟩
  · have hi' : i < cs.length := by omega
    rw [v5 i (by omega), hcv i hi']; simp [List.getD_eq_getElem?_getD, hi']
  · have hi' : i < cs.length := by omega
    simp only [List.getD_eq_getElem?_getD, List.getElem?_map, List.getElem?_eq_getElem hi', Option.map_some, Option.getD_some]
    exact fits_lo8 _
end StrChars.Road
namespace StrChars.Road
open Jvm Sem ClassFile Op Lib Jvm.Stand Jvm.Free Jvm.Free.XT
/-- WHAT COMES BACK, in the writer's own shape -/
def QV (Z : State) (x : Addr) (N : Int32) (bs : List Int32) (h : Heap) (n0 : Nat) (v : Option Value) (h' : Heap) (L : List Loc) : Prop := v = none ∧ RoadKit.Fr n0 L ∧ RoadKit.Keep h h' [x] ∧ RoadKit.Exa Z h' x ST ∧ RoadKit.Fld Z h' x ST "coder" "B" (.int 0) ∧
  ∃ (t : Addr) (kb : ClassId), n0 ≤ t ∧ h.size ≤ t ∧ ¬ t = x ∧ RoadKit.Fld Z h' x ST "value" "[B" (.ref t) ∧ RoadKit.Arv Z h' t kb .byte N (bs.map Value.int) (.int 0)
/-- **new String(chars) AT A CALL, FOR THE WRITER**: a char[] of n known ints, each 0 to 255 -/
theorem backV {p : Program} {l : Launch} {e : Env} {R : Room} {s : State} {args : Array Value} {below : List Frame} {len W : Nat} {Z : State} {a0 : Array Value} {h : Heap} (hZ : Z.Warmed39 s.vm) (hw : ∀ d ∈ words, d.before a0 Z = true) {kI : Nat} (wi : (Jvm.Cond.instantiable ST kI).before a0 Z = true)
    {x b : Addr} {kC : ClassId} {cs bs : List Int32} {d v0 c0 : Value} {z N : Int32} {n n0 : Nat} (hx0 : n0 ≤ x) (hh0 : n0 ≤ h.size) (E : RoadKit.Exa Z h x ST) (V : RoadKit.Fld Z h x ST "value" "[B" v0) (C : RoadKit.Fld Z h x ST "coder" "B" c0) (K : RoadKit.Arv Z h b kC .char N (cs.map Value.int) d) (S : RoadKit.Sta Z h ST "COMPACT_STRINGS" "Z" (.int z)) (hz : ¬ z = 0)
    (hn : cs.length = n) (hN : N = Int32.ofNat n) (l0 : 0 < n) (l2 : n ≤ 4000) (hp : ∀ c ∈ cs, ¬ c < 0 ∧ ¬ (255 : Int32) < c) (hb : bs = cs.map (fun c => c.toInt8.toInt32)) (hfr : 4 ≤ R.frames) (hlo : W + 65 ≤ R.locals) :
    Back l R p e below s args (⟨"java/lang/String", "<init>", "([C)V"⟩ : MethodName) len W (fun P a => a = #[.ref x, .ref b] ∧ P.U.heap = h ∧ P.cells + 1 ≤ R.cells ∧ P.slots + n ≤ R.slots)
      (fun P _ v B => ∃ L, QV Z x N bs h n0 v B.U.heap L ∧ B.locs = P.locs ++ L ∧ B.cells = P.cells + 1 ∧ B.slots = P.slots + n) := by
  subst hn hN hb
  refine Back.mono (backArv hZ hw wi E V C K S hz (n32 (by omega)) l0 (by omega) (fun c hc => (hp c hc).2) hfr hlo) (fun P a hp => hp) (fun P a v B hp hq => ?_)
  obtain ⟨L, ⟨q1, q2, q3, q4, q5, q6, q7, ⟨kb, v1, v2⟩, q9⟩, hl, hc, hs⟩ := hq
  exact ⟨L, ⟨q1, fun y hy => by rw [q2 y hy]; exact hx0, q3, q5, q7, h.size, kb, hh0, Nat.le_refl _, Nat.ne_of_gt E.lt, q6, by rw [List.map_map]; exact v2⟩, hl, hc, hs⟩
end StrChars.Road
end Jvm.Pilot.@@N@@
namespace Jvm.RoadKit
open Sem ClassFile Op Lib Jvm.Stand Jvm.Free Jvm.LawKit
section New
variable {p : Program} {l : Launch} {e : Env} {R : Room} {s : State} {m : MethodId} {args : Array Value} {below : List Frame} {meth : Method} {c : Code} {T : State} {locs : List Loc} {cells slots : Nat}
theorem retI (X : Stand p l e R s m args below meth c T locs cells slots) (hx : p.tables.exec = Jvm.exec) {pc : Nat} {Ls : Array Slot} {z : Int32} {rest : List Value} (hret : meth.sig.returnType = some .int) (hd : decode c.code pc = .ok (.ireturn, 1)) {fs : List Frame}
    (hl : ∀ (f : JFrame) (acts : List Action), f.method = m → f.locked = none → f.entered = [] → (doReturn e (T.setTop f) acts (some (.int z))).1 = T.setFrames fs) : Steps p.tables e below (T.setTop (mkF m pc Ls (.int z :: rest))) (T.setFrames fs) :=
  retOut X hx hret rfl (Or.inl ⟨rfl, Or.inl rfl, _, rfl⟩) hd hl
end New
end Jvm.RoadKit
namespace Jvm.Pilot.@@N@@
open Jvm Jvm.ClassFile Sem Op Lib Jvm.Free Jvm.Stand Jvm.LawKit Jvm.RoadKit Bundle Jvm.Pilot.@@N@@.Jvm.D
section Own
variable {p : Program} {l : Launch} {e : Env} {R : Room} {s : State} {m : MethodId} {args : Array Value} {below : List Frame} {meth : Method} {c : Code} {T : State} {locs : List Loc} {cells slots : Nat}
/-- from this state the invocation comes to its end, and Q holds there -/
def GoOn (p : Program) (e : Env) (below : List Frame) (S : State) (Q : Outcome → State → Prop) : Prop := ∃ s₂ o, Steps p.tables e below S s₂ ∧ s₂.status = .running ∧ Ended s₂ below o ∧ Q o s₂
theorem GoOn.step {S S' : State} {Q : Outcome → State → Prop} (h : ∀ t, Steps p.tables e below S' t → Steps p.tables e below S t) (k : GoOn p e below S' Q) : GoOn p e below S Q := by
  obtain ⟨s2, o, h1, h2, h3, h4⟩ := k
  exact ⟨s2, o, h _ h1, h2, h3, h4⟩
theorem GoOn.trans {S S' : State} {Q : Outcome → State → Prop} (h : Steps p.tables e below S S') (k : GoOn p e below S' Q) : GoOn p e below S Q := GoOn.step (fun _ q => Steps.trans h q) k
def PostN (s : State) (Qp : Option Value → Heap → List Loc → Prop) (k n : Nat) (o : Outcome) (U' : State) : Prop := ∃ v L, o = .returned v ∧ Qp v U'.heap L ∧ FrameEnd s o U' L k n
def PostW (s : State) (Qp : Option Value → Heap → List Loc → Prop) (k n : Nat) (o : Outcome) (U' : State) : Prop := ∃ v L, o = .returned v ∧ Qp v U'.heap L ∧ ReturnedEndW s o U' L k n
theorem GoOn.ret (X : Stand p l e R s m args below meth c T locs cells slots) (hlk : meth.locks = false) {v : Option Value} (hv : meth.sig.returnType = none → v = none) {S : State}
    (st : ∀ fs, (∀ (f : JFrame) (acts : List Action), f.method = m → f.locked = none → f.entered = [] → (doReturn e (T.setTop f) acts v).1 = T.setFrames fs) → Steps p.tables e below S (T.setFrames fs)) {k n : Nat} (hk : cells ≤ k) (hn : slots ≤ n)
    {Qp : Option Value → Heap → List Loc → Prop} (q : Qp v T.heap locs) : GoOn p e below S (PostN s Qp k n) := by
  obtain ⟨fs, hr, hrun, hended, hW, hsame⟩ := X.leave hv hlk
  exact ⟨_, _, st fs hr, hrun, hended, v, _, rfl, q, ⟨_, rfl⟩, hW, hsame.mono hk hn⟩
theorem GoOn.retW {vm1 : Vm} {k1 : Nat} (X : Stand p l e R (s.setVm vm1) m args below meth c T locs cells slots) (hS : s.Since vm1 k1) (h1 : k1 ≤ T.heap.size) (hlk : meth.locks = false) {v : Option Value} (hv : meth.sig.returnType = none → v = none) {S : State}
    (st : ∀ fs, (∀ (f : JFrame) (acts : List Action), f.method = m → f.locked = none → f.entered = [] → (doReturn e (T.setTop f) acts v).1 = T.setFrames fs) → Steps p.tables e below S (T.setFrames fs)) {k n : Nat} (hk : cells ≤ k) (hn : slots ≤ n)
    {Qp : Option Value → Heap → List Loc → Prop} (q : Qp v T.heap locs) : GoOn p e below S (PostW s Qp k n) := by
  obtain ⟨fs, hr, hrun, hended, h4, h5, h6, h7⟩ := X.leaveW hS h1 hv hlk
  exact ⟨_, _, st fs hr, hrun, hended, v, _, rfl, q, h4, h5, h6, h7.mono hk hn⟩
def PostH (Z : State) (EL : List (String × Nat)) (s : State) (Qp : Option Value → Heap → List Loc → Prop) (k n : Nat) (o : Outcome) (U' : State) : Prop := ∃ v L, o = .returned v ∧ Qp v U'.heap L ∧ CHr Z EL s.vm s.heap U'.vm U'.heap ∧ ReturnedEndW s o U' L k n
theorem GoOn.retH {Z : State} {a0 : Array Value} {EL : List (String × Nat)} {h0 h : Heap} {vm1 : Vm} {k1 : Nat} (X : Stand p l e R (s.setVm vm1) m args below meth c T locs cells slots) (hZ : Z.Warmed39 (s.setVm vm1).vm) (hS : s.Since vm1 k1) (h1 : k1 ≤ h.size) (hEL : EW Z a0 EL) (hh : s.heap = h0) (eT : T.heap = h) (C : CHr Z EL s.vm h0 vm1 h) (hlk : meth.locks = false) {v : Option Value} (hv : meth.sig.returnType = none → v = none) {S : State}
    (st : ∀ fs, (∀ (f : JFrame) (acts : List Action), f.method = m → f.locked = none → f.entered = [] → (doReturn e (T.setTop f) acts v).1 = T.setFrames fs) → Steps p.tables e below S (T.setFrames fs)) {k n : Nat} (hk : cells ≤ k) (hn : slots ≤ n)
    {Qp : Option Value → Heap → List Loc → Prop} (q : Qp v h locs) : GoOn p e below S (PostH Z EL s Qp k n) := by
  subst hh eT
  obtain ⟨fs, hr, hrun, hended, h4, h5, h6, h7⟩ := X.leaveW hS h1 hv hlk
  have q2 := CHr.trans C (CHv.at X hZ hEL C.1)
  exact ⟨_, _, st fs hr, hrun, hended, v, _, rfl, q, q2, h4, h5, h6, h7.mono hk hn⟩
theorem Safe.arv {Z : State} {EL : List (String × Nat)} {vm : Vm} {h : Heap} {x : Addr} {kc : ClassId} {ty : FieldType} {z : Int32} {vs : List Value} {dv : Value} (hal : Z.vm.Alike vm) (V : Arv Z h x kc ty z vs dv) (ht : ty ≠ .byte) : Safe Z EL vm h x := by
  obtain ⟨cl, A, -⟩ := V
  exact Safe.arr hal A ht
theorem Safe.ofNull {Z : State} {EL : List (String × Nat)} {vm : Vm} {h : Heap} {x : Addr} (hal : Z.vm.Alike vm) (E : Exa Z h x "java/lang/String") (F : Fld Z h x "java/lang/String" "value" "[B" .null) : Safe Z EL vm h x := fun B => by
  obtain ⟨p, -, u, a, -, q, -, S, rfl | rfl⟩ := B
  · obtain ⟨cell, cf, k, i, f, h1, h2, h3, -, -, -, h7⟩ := F
    cases (show h[q.sa]? = some q.sC from S.ha).symm.trans h1
    obtain ⟨cS, ⟨⟨-, -, -, ⟨c1, k1, i1, f1, -⟩, -, -, -, v1, -⟩, -⟩, -⟩ := S
    obtain ⟨k3, e3, -⟩ := State.fieldFound?_setVm (s := Z) hal h2
    have e4 := (show (Wst Z vm h).fieldFound? _ _ _ = _ from e3).symm.trans f1
    simp only [Option.some.injEq, Prod.mk.injEq] at e4
    rw [← e4.2.2.2, h7] at v1
    cases v1
  · obtain ⟨cell, k, e1, e2, e3, -, -⟩ := E
    cases (show h[q.sd]? = some q.SA from S.hd).symm.trans e1
    obtain ⟨cS, -, -, f, -⟩ := S
    rw [show (Wst Z vm h).vm = vm from rfl, hal.findClass] at f
    obtain ⟨k1, q1, q2⟩ := Vm.findClass_spec f
    obtain ⟨k2, q3, q4⟩ := Vm.findClass_spec e2
    cases q1.symm.trans q3
    exact absurd (q2.symm.trans q4) (by decide)
theorem alenA {Z : State} {h : Heap} (X : Stand p l e R s m args below meth c T locs cells slots) (hx : p.tables.exec = Jvm.exec) (hZ : Z.Warmed39 s.vm) (eT : T.heap = h) {a : Addr} {k : ClassId} {ty : FieldType} {z : Int32} {vs : List Value} {d : Value} (V : Arv Z h a k ty z vs d) {g : JFrame} (hg : g.method = m) {rest : List Value} (hs : g.stack = .ref a :: rest) (hd : decode c.code g.pc = .ok (.arraylength, 1)) :
    ∀ target, Steps p.tables e below (T.setTop { g with pc := g.pc + 1, stack := .int z :: rest }) target → Steps p.tables e below (T.setTop g) target := fun t q => by
  obtain ⟨cl, A, -, S, M, -, -⟩ := V
  exact X.arraylength hx (by rw [eT]; exact A.1) (State.isArrayOf_alike hZ.alike A.2.1) hg hs hd t (by rw [len_of S M]; exact q)
theorem refCat {v : Value} (h : v.isRef = true) : v.category = 1 := by rcases ref_cases h with rfl | ⟨_, rfl⟩ <;> rfl
theorem own_catR (a : Addr) : (Value.ref a).category = 1 := rfl
theorem own_catI (a : Int32) : (Value.int a).category = 1 := rfl
theorem own_catJ (a : Int64) : (Value.long a).category = 2 := rfl
theorem own_catN : Value.null.category = 1 := rfl
theorem narRef {v : Value} (h : v.isRef = true) {t : FieldType} : narrow t v = v := by rcases ref_cases h with rfl | ⟨_, rfl⟩ <;> cases t <;> rfl
theorem fitRef {v : Value} (h : v.isRef = true) {C : String} : fits (.object C) v = true := by rcases ref_cases h with rfl | ⟨_, rfl⟩ <;> rfl
end Own
end Jvm.Pilot.@@N@@
namespace Jvm.Pilot.@@N@@
open Jvm Jvm.ClassFile Sem Op Lib Jvm.Free Jvm.Stand Jvm.LawKit Jvm.RoadKit Bundle Jvm.Pilot.@@N@@.Jvm.D
theorem and255_chars (n : Int32) : ¬ nar .char ((n &&& (255 : Int32)).toUInt32.toUInt16.toUInt32.toInt32) < 0 ∧ ¬ (255 : Int32) < nar .char ((n &&& (255 : Int32)).toUInt32.toUInt16.toUInt32.toInt32) := by
  have h1 := c_mask n 255 8 (by decide) (by decide)
  have h2 := c_i2c (n &&& (255 : Int32))
  have h3 : nar .char ((n &&& (255 : Int32)).toUInt32.toUInt16.toUInt32.toInt32) = ((n &&& (255 : Int32)).toUInt32.toUInt16.toUInt32.toInt32) := by simp only [nar, UInt32.toUInt32_toInt32, UInt16.toUInt16_toUInt32]
  rw [h3, Int32.lt_iff_toInt_lt, Int32.lt_iff_toInt_lt]
  have e0 : (0 : Int32).toInt = 0 := rfl
  have e1 : (255 : Int32).toInt = 255 := rfl
  rw [e0, e1]
  have e2 : ((2 ^ 8 : Nat) : Int) = 256 := rfl
  rw [e2] at h1
  omega
set_option maxHeartbeats 4000000 in
theorem own_ef0 (m : MethodId) (x0 : Addr) (x1 : Value) (x2 : Value) (x3 : Value) (x4 : Value) (hx1 : x1.isRef = true) (hx2 : x2.isRef = true) (hx3 : x3.isRef = true) (hx4 : x4.isRef = true) : entryFrame m #[(.ref x0), x1, x2, x3, x4] 5 = mkF m 0 #[.val (.ref x0), .val x1, .val x2, .val x3, .val x4] [] := by simp [entryFrame, mkF, argsToLocals, own_catR, own_catI, own_catJ, own_catN, refCat hx1, refCat hx2, refCat hx3, refCat hx4]
theorem own_pn1 : plainName "com/example/crosslode/crosslode/Problem" = true := by first | (simp [plainName, overriddenIn]; done) | decide +kernel
theorem own_d2 : decode prog_6_method_1_code 0 = .ok (.aload_n 0, 1) := by decide +kernel
theorem own_d3 : decode prog_6_method_1_code 1 = .ok (.invokespecial 1, 3) := by decide +kernel
theorem own_d4 : decode prog_6_method_1_code 4 = .ok (.aload_n 0, 1) := by decide +kernel
theorem own_d5 : decode prog_6_method_1_code 5 = .ok (.aload_n 1, 1) := by decide +kernel
theorem own_d6 : decode prog_6_method_1_code 6 = .ok (.putfield 7, 3) := by decide +kernel
theorem own_d7 : decode prog_6_method_1_code 9 = .ok (.aload_n 0, 1) := by decide +kernel
theorem own_d8 : decode prog_6_method_1_code 10 = .ok (.aload_n 2, 1) := by decide +kernel
theorem own_d9 : decode prog_6_method_1_code 11 = .ok (.putfield 13, 3) := by decide +kernel
theorem own_d10 : decode prog_6_method_1_code 14 = .ok (.aload_n 0, 1) := by decide +kernel
theorem own_d11 : decode prog_6_method_1_code 15 = .ok (.aload_n 3, 1) := by decide +kernel
theorem own_d12 : decode prog_6_method_1_code 16 = .ok (.putfield 16, 3) := by decide +kernel
theorem own_d13 : decode prog_6_method_1_code 19 = .ok (.aload_n 0, 1) := by decide +kernel
theorem own_d14 : decode prog_6_method_1_code 20 = .ok (.aload 4, 2) := by decide +kernel
theorem own_d15 : decode prog_6_method_1_code 22 = .ok (.putfield 20, 3) := by decide +kernel
theorem own_d16 : decode prog_6_method_1_code 25 = .ok (.return_, 1) := by decide +kernel
set_option maxHeartbeats 4000000 in
theorem own_ef17 (m : MethodId) (x0 : Value) (x1 : Value) (x2 : Value) (hx0 : x0.isRef = true) (hx1 : x1.isRef = true) (hx2 : x2.isRef = true) : entryFrame m #[x0, x1, x2] 3 = mkF m 0 #[.val x0, .val x1, .val x2] [] := by simp [entryFrame, mkF, argsToLocals, own_catR, own_catI, own_catJ, own_catN, refCat hx0, refCat hx1, refCat hx2]
theorem own_d18 : decode prog_6_method_3_code 0 = .ok (.new 8, 3) := by decide +kernel
theorem own_d19 : decode prog_6_method_3_code 3 = .ok (.dup, 1) := by decide +kernel
theorem own_d20 : decode prog_6_method_3_code 4 = .ok (.aload_n 0, 1) := by decide +kernel
theorem own_d21 : decode prog_6_method_3_code 5 = .ok (.aload_n 1, 1) := by decide +kernel
theorem own_d22 : decode prog_6_method_3_code 6 = .ok (.getstatic 31, 3) := by decide +kernel
theorem own_d23 : decode prog_6_method_3_code 9 = .ok (.aload_n 2, 1) := by decide +kernel
theorem own_d24 : decode prog_6_method_3_code 10 = .ok (.invokespecial 28, 3) := by decide +kernel
theorem own_pd25 : parseMethodDescriptor "(Ljava/lang/String;Ljava/lang/String;Lcom/example/crosslode/crosslode/Problem$Level;Ljava/lang/String;)V" = some ⟨[(.object "java/lang/String"), (.object "java/lang/String"), (.object "com/example/crosslode/crosslode/Problem$Level"), (.object "java/lang/String")], none⟩ := by decide +kernel
theorem own_d26 : decode prog_6_method_3_code 13 = .ok (.areturn, 1) := by decide +kernel
set_option maxHeartbeats 4000000 in
theorem own_ef27 (m : MethodId) (x0 : Addr) : entryFrame m #[(.ref x0)] 1 = mkF m 0 #[.val (.ref x0)] [] := by first | rfl | (simp [entryFrame, mkF, argsToLocals, Value.category]; done)
theorem own_d28 : decode prog_6_method_5_code 0 = .ok (.aload_n 0, 1) := by decide +kernel
theorem own_d29 : decode prog_6_method_5_code 1 = .ok (.getfield 7, 3) := by decide +kernel
theorem own_d30 : decode prog_6_method_5_code 4 = .ok (.areturn, 1) := by decide +kernel
set_option maxHeartbeats 4000000 in
theorem own_ef31 (m : MethodId) (x0 : Addr) : entryFrame m #[(.ref x0)] 1 = mkF m 0 #[.val (.ref x0)] [] := by first | rfl | (simp [entryFrame, mkF, argsToLocals, Value.category]; done)
theorem own_d32 : decode prog_6_method_6_code 0 = .ok (.aload_n 0, 1) := by decide +kernel
theorem own_d33 : decode prog_6_method_6_code 1 = .ok (.getfield 13, 3) := by decide +kernel
theorem own_d34 : decode prog_6_method_6_code 4 = .ok (.areturn, 1) := by decide +kernel
set_option maxHeartbeats 4000000 in
theorem own_ef35 (m : MethodId) (x0 : Addr) : entryFrame m #[(.ref x0)] 1 = mkF m 0 #[.val (.ref x0)] [] := by first | rfl | (simp [entryFrame, mkF, argsToLocals, Value.category]; done)
theorem own_d36 : decode prog_6_method_7_code 0 = .ok (.aload_n 0, 1) := by decide +kernel
theorem own_d37 : decode prog_6_method_7_code 1 = .ok (.getfield 16, 3) := by decide +kernel
theorem own_d38 : decode prog_6_method_7_code 4 = .ok (.areturn, 1) := by decide +kernel
set_option maxHeartbeats 4000000 in
theorem own_ef39 (m : MethodId) (x0 : Addr) : entryFrame m #[(.ref x0)] 1 = mkF m 0 #[.val (.ref x0)] [] := by first | rfl | (simp [entryFrame, mkF, argsToLocals, Value.category]; done)
theorem own_d40 : decode prog_6_method_8_code 0 = .ok (.aload_n 0, 1) := by decide +kernel
theorem own_d41 : decode prog_6_method_8_code 1 = .ok (.getfield 20, 3) := by decide +kernel
theorem own_d42 : decode prog_6_method_8_code 4 = .ok (.areturn, 1) := by decide +kernel
set_option maxHeartbeats 4000000 in
theorem own_ef43 (m : MethodId) (x0 : Int32) : entryFrame m #[(.int x0)] 1 = mkF m 0 #[.val (.int x0)] [] := by first | rfl | (simp [entryFrame, mkF, argsToLocals, Value.category]; done)
theorem own_pn44 : plainName "java/lang/StringLatin1" = true := by first | (simp [plainName, overriddenIn]; done) | decide +kernel
theorem own_d45 : decode jdk_43_method_3_code 0 = .ok (.iload_n 0, 1) := by decide +kernel
theorem own_d46 : decode jdk_43_method_3_code 1 = .ok (.sipush 255, 3) := by decide +kernel
theorem own_d47 : decode jdk_43_method_3_code 4 = .ok (.if_icmp .gt 7, 3) := by decide +kernel
theorem own_d48 : decode jdk_43_method_3_code 7 = .ok (.iconst 1, 1) := by decide +kernel
theorem own_d49 : decode jdk_43_method_3_code 8 = .ok (.goto 4, 3) := by decide +kernel
theorem own_d50 : decode jdk_43_method_3_code 12 = .ok (.ireturn, 1) := by decide +kernel
set_option maxHeartbeats 4000000 in
theorem own_ef51 (m : MethodId) (x0 : Int32) : entryFrame m #[(.int x0)] 1 = mkF m 0 #[.val (.int x0)] [] := by first | rfl | (simp [entryFrame, mkF, argsToLocals, Value.category]; done)
theorem own_d52 : decode jdk_43_method_46_code 0 = .ok (.iconst 1, 1) := by decide +kernel
theorem own_d53 : decode jdk_43_method_46_code 1 = .ok (.newarray .byte, 2) := by decide +kernel
theorem own_d54 : decode jdk_43_method_46_code 3 = .ok (.dup, 1) := by decide +kernel
theorem own_d55 : decode jdk_43_method_46_code 4 = .ok (.iconst 0, 1) := by decide +kernel
theorem own_d56 : decode jdk_43_method_46_code 5 = .ok (.iload_n 0, 1) := by decide +kernel
theorem own_d57 : decode jdk_43_method_46_code 6 = .ok (.i2b, 1) := by decide +kernel
theorem own_d58 : decode jdk_43_method_46_code 7 = .ok (.bastore, 1) := by decide +kernel
theorem own_d59 : decode jdk_43_method_46_code 8 = .ok (.areturn, 1) := by decide +kernel
set_option maxHeartbeats 4000000 in
theorem own_ef60 (m : MethodId) (x0 : Addr) (x1 : Addr) (x2 : Int32) : entryFrame m #[(.ref x0), (.ref x1), (.int x2)] 3 = mkF m 0 #[.val (.ref x0), .val (.ref x1), .val (.int x2)] [] := by first | rfl | (simp [entryFrame, mkF, argsToLocals, Value.category]; done)
theorem own_pn61 : plainName "java/lang/String" = true := by first | (simp [plainName, overriddenIn]; done) | decide +kernel
theorem own_d62 : decode jdk_42_method_151_code 0 = .ok (.aload_n 0, 1) := by decide +kernel
theorem own_d63 : decode jdk_42_method_151_code 1 = .ok (.invokespecial 1, 3) := by decide +kernel
theorem own_d64 : decode jdk_42_method_151_code 4 = .ok (.aload_n 0, 1) := by decide +kernel
theorem own_d65 : decode jdk_42_method_151_code 5 = .ok (.aload_n 1, 1) := by decide +kernel
theorem own_d66 : decode jdk_42_method_151_code 6 = .ok (.putfield 9, 3) := by decide +kernel
theorem own_d67 : decode jdk_42_method_151_code 9 = .ok (.aload_n 0, 1) := by decide +kernel
theorem own_d68 : decode jdk_42_method_151_code 10 = .ok (.iload_n 2, 1) := by decide +kernel
theorem own_d69 : decode jdk_42_method_151_code 11 = .ok (.putfield 15, 3) := by decide +kernel
theorem own_d70 : decode jdk_42_method_151_code 14 = .ok (.return_, 1) := by decide +kernel
set_option maxHeartbeats 4000000 in
theorem own_ef71 (m : MethodId) (x0 : Int32) : entryFrame m #[(.int x0)] 1 = mkF m 0 #[.val (.int x0)] [] := by first | rfl | (simp [entryFrame, mkF, argsToLocals, Value.category]; done)
theorem own_d72 : decode jdk_42_method_139_code 0 = .ok (.getstatic 38, 3) := by decide +kernel
theorem own_d73 : decode jdk_42_method_139_code 3 = .ok (.ifCond .eq 23, 3) := by decide +kernel
theorem own_d74 : decode jdk_42_method_139_code 6 = .ok (.iload_n 0, 1) := by decide +kernel
theorem own_d75 : decode jdk_42_method_139_code 7 = .ok (.invokestatic 1015, 3) := by decide +kernel
theorem own_pd76 : parseMethodDescriptor "(C)Z" = some ⟨[.char], some .boolean⟩ := by decide +kernel
theorem own_d77 : decode jdk_42_method_139_code 10 = .ok (.ifCond .eq 16, 3) := by decide +kernel
theorem own_d78 : decode jdk_42_method_139_code 13 = .ok (.new 10, 3) := by decide +kernel
theorem own_d79 : decode jdk_42_method_139_code 16 = .ok (.dup, 1) := by decide +kernel
theorem own_d80 : decode jdk_42_method_139_code 17 = .ok (.iload_n 0, 1) := by decide +kernel
theorem own_d81 : decode jdk_42_method_139_code 18 = .ok (.invokestatic 1018, 3) := by decide +kernel
theorem own_pd82 : parseMethodDescriptor "(C)[B" = some ⟨[.char], some (.array .byte)⟩ := by decide +kernel
theorem own_d83 : decode jdk_42_method_139_code 21 = .ok (.iconst 0, 1) := by decide +kernel
theorem own_d84 : decode jdk_42_method_139_code 22 = .ok (.invokespecial 209, 3) := by decide +kernel
theorem own_pd85 : parseMethodDescriptor "([BB)V" = some ⟨[(.array .byte), .byte], none⟩ := by decide +kernel
theorem own_d86 : decode jdk_42_method_139_code 25 = .ok (.areturn, 1) := by decide +kernel
set_option maxHeartbeats 4000000 in
theorem own_ef87 (m : MethodId) (x0 : Addr) (x1 : Addr) : entryFrame m #[(.ref x0), (.ref x1)] 3 = mkF m 0 #[.val (.ref x0), .val (.ref x1), .unset] [] := by first | rfl | (simp [entryFrame, mkF, argsToLocals, Value.category]; done)
theorem own_d88 : decode jdk_42_method_66_code 0 = .ok (.aload_n 0, 1) := by decide +kernel
theorem own_d89 : decode jdk_42_method_66_code 1 = .ok (.aload_n 1, 1) := by decide +kernel
theorem own_d90 : decode jdk_42_method_66_code 2 = .ok (.if_acmp .ne 5, 3) := by decide +kernel
theorem own_d91 : decode jdk_42_method_66_code 5 = .ok (.iconst 1, 1) := by decide +kernel
theorem own_d92 : decode jdk_42_method_66_code 6 = .ok (.ireturn, 1) := by decide +kernel
set_option maxHeartbeats 4000000 in
theorem own_ef93 (m : MethodId) (x0 : Int32) (x1 : Int32) (x2 : Int32) (x3 : Int32) : entryFrame m #[(.int x0), (.int x1), (.int x2), (.int x3)] maxLocals = mkF m 0 #[.val (.int x0), .val (.int x1), .val (.int x2), .val (.int x3), .unset, .unset, .unset, .unset, .unset, .unset, .unset, .unset, .unset, .unset] [] := by first | (simp [entryFrame, mkF, argsToLocals, Value.category, maxLocals]; done) | rfl
theorem own_pn94 : plainName "com/example/crosslode/crosslode/ProblemWarningPinLaw" = true := by first | (simp [plainName, overriddenIn]; done) | decide +kernel
theorem own_pd95 : parseMethodDescriptor "([C)V" = some ⟨[(.array .char)], none⟩ := by decide +kernel
theorem own_pd96 : parseMethodDescriptor "(C)Ljava/lang/String;" = some ⟨[.char], some (.object "java/lang/String")⟩ := by decide +kernel
theorem own_pd97 : parseMethodDescriptor "(Ljava/lang/String;Ljava/lang/String;Ljava/lang/String;)Lcom/example/crosslode/crosslode/Problem;" = some ⟨[(.object "java/lang/String"), (.object "java/lang/String"), (.object "java/lang/String")], some (.object "com/example/crosslode/crosslode/Problem")⟩ := by decide +kernel
theorem own_pd98 : parseMethodDescriptor "()Ljava/lang/String;" = some ⟨[], some (.object "java/lang/String")⟩ := by decide +kernel
theorem own_pd99 : parseMethodDescriptor "(Ljava/lang/Object;)Z" = some ⟨[(.object "java/lang/Object")], some .boolean⟩ := by decide +kernel
theorem own_pd100 : parseMethodDescriptor "()Lcom/example/crosslode/crosslode/Problem$Level;" = some ⟨[], some (.object "com/example/crosslode/crosslode/Problem$Level")⟩ := by decide +kernel
def QInit (Z : State) (a : Addr) (vf vr vl vm : Value) (h0 : Heap) (n0 : Nat) (v : Option Value) (h : Heap) (L : List Loc) : Prop := v = none ∧ Fr n0 L ∧ Keep h0 h [a] ∧ Exa Z h a "com/example/crosslode/crosslode/Problem" ∧ Fld Z h a "com/example/crosslode/crosslode/Problem" "file" "Ljava/lang/String;" vf ∧ Fld Z h a "com/example/crosslode/crosslode/Problem" "record" "Ljava/lang/String;" vr ∧ Fld Z h a "com/example/crosslode/crosslode/Problem" "level" "Lcom/example/crosslode/crosslode/Problem$Level;" vl ∧ Fld Z h a "com/example/crosslode/crosslode/Problem" "message" "Ljava/lang/String;" vm
set_option maxRecDepth 65536 in
set_option maxHeartbeats 40000000 in
theorem rmInit (l : Launch) (Z : State) (a0 : Array Value) (hw : ∀ d ∈ tables_1, d.before a0 Z = true) (a : Addr) (vf vr vl vm : Value) (h0 : Heap) (n0 : Nat) (Z0 : n0 ≤ h0.size) (E0 : Exa Z h0 a "com/example/crosslode/crosslode/Problem") (F0file : Fld Z h0 a "com/example/crosslode/crosslode/Problem" "file" "Ljava/lang/String;" .null) (F0record : Fld Z h0 a "com/example/crosslode/crosslode/Problem" "record" "Ljava/lang/String;" .null) (F0level : Fld Z h0 a "com/example/crosslode/crosslode/Problem" "level" "Lcom/example/crosslode/crosslode/Problem$Level;" .null) (F0message : Fld Z h0 a "com/example/crosslode/crosslode/Problem" "message" "Ljava/lang/String;" .null) (ga : n0 ≤ a) (hf : vf.isRef = true) (hr : vr.isRef = true) (hl : vl.isRef = true) (hm : vm.isRef = true) :
    MetFree l (⟨"com/example/crosslode/crosslode/Problem", "<init>", "(Ljava/lang/String;Ljava/lang/String;Lcom/example/crosslode/crosslode/Problem$Level;Ljava/lang/String;)V"⟩ : MethodName) (head1 [Jvm.Cond.code (⟨"com/example/crosslode/crosslode/Problem", "<init>", "(Ljava/lang/String;Ljava/lang/String;Lcom/example/crosslode/crosslode/Problem$Level;Ljava/lang/String;)V"⟩ : MethodName) prog_6_method_1_code 5 none] ({ frames := 1, cells := 0, slots := 0, locals := 12 } : Room)) (fun aa U => aa = #[(.ref a), vf, vr, vl, vm] ∧ Z.Warmed39 U.vm ∧ U.heap = h0) (fun _ _ _ _ _ => True) (fun _ U o U' => ∃ v L, o = .returned v ∧ QInit Z a vf vr vl vm h0 n0 v U'.heap L ∧ FrameEnd U o U' L ({ frames := 1, cells := 0, slots := 0, locals := 12 } : Room).cells ({ frames := 1, cells := 0, slots := 0, locals := 12 } : Room).slots) := by
  refine MetFree.of_bodySF (plainFor_of_name own_pn1) hisR ?_
  intro p e s m args below meth c s₁ Bd hml0 hP hK
  obtain ⟨rfl, hZ, hh⟩ := hP
  have hx := Bd.exec
  have hby := Bd.bytes
  have hml : c.maxLocals = 5 := hml0
  have hown : s.vm.findClass "com/example/crosslode/crosslode/Problem" = some m.cls := findClass_of_methodNamed Bd.named
  have hnm := (name_of_methodNamed Bd.named Bd.method).1
  have X0 : Stand p l e ({ frames := 1, cells := 0, slots := 0, locals := 12 } : Room) s m #[(.ref a), vf, vr, vl, vm] below meth c s₁ [] 0 0 := Stand.of_body Bd
  have e0 : s₁.heap = h0 := by rw [← hh, Bd.state]; rfl
  have N0 := Fr.nil n0
  have K0 : Keep h0 h0 [] := Keep.refl _ _
  show GoOn p e below (s₁.setTop (entryFrame m #[(.ref a), vf, vr, vl, vm] 5)) (PostN s (QInit Z a vf vr vl vm h0 n0) ({ frames := 1, cells := 0, slots := 0, locals := 12 } : Room).cells ({ frames := 1, cells := 0, slots := 0, locals := 12 } : Room).slots)
  refine GoOn.step (fun tq kq => castTop (own_ef0 m a vf vr vl vm hf hr hl hm) kq) ?_
  show GoOn p e below (s₁.setTop (mkF m 0 #[.val (.ref a), .val vf, .val vr, .val vl, .val vm] [])) _
  have K0a : Keep h0 h0 [a] := Keep.refl _ _
  refine GoOn.step (fun tq kq => XS.aloadN X0.here hx rfl (hb hby own_d2) rfl rfl kq) ?_
  show GoOn p e below (s₁.setTop (mkF m 1 #[.val (.ref a), .val vf, .val vr, .val vl, .val vm] [(.ref a)])) _
  obtain ⟨T1, X1, e1, st1⟩ := initO X0 hx hZ hown (hw _ (List.mem_of_getElem? (i := 42) rfl)) (hw _ (List.mem_of_getElem? (i := 12) rfl)) (hw _ (List.mem_of_getElem? (i := 13) rfl)) e0 (g := (mkF m 1 #[.val (.ref a), .val vf, .val vr, .val vl, .val vm] [(.ref a)])) rfl (by rw [hml]; rfl) rfl (hb hby own_d3) (by decide) (W := 0) (by show 2 * 0 + _ ≤ _; exact Nat.le_of_eq rfl) (by decide)
  refine GoOn.step st1 ?_
  show GoOn p e below (T1.setTop (mkF m 4 #[.val (.ref a), .val vf, .val vr, .val vl, .val vm] [])) _
  refine GoOn.step (fun tq kq => XS.aloadN X1.here hx rfl (hb hby own_d4) rfl rfl kq) ?_
  show GoOn p e below (T1.setTop (mkF m 5 #[.val (.ref a), .val vf, .val vr, .val vl, .val vm] [(.ref a)])) _
  refine GoOn.step (fun tq kq => XS.aloadN X1.here hx rfl (hb hby own_d5) rfl hf kq) ?_
  show GoOn p e below (T1.setTop (mkF m 6 #[.val (.ref a), .val vf, .val vr, .val vl, .val vm] [vf, (.ref a)])) _
  obtain ⟨T2, h2, X2, e2, W2, st2⟩ := putF X1 hx hZ hown (host := "") (Or.inl (hw _ (List.mem_of_getElem? (i := 43) rfl))) Via.refl e1 F0file E0 (Or.inr ⟨(hw _ (List.mem_of_getElem? (i := 44) rfl)), rfl, hnm⟩) (hw _ (List.mem_of_getElem? (i := 35) rfl)) (ty := (.object "java/lang/String")) (by decide) (narRef hf) (fitRef hf) (g := (mkF m 6 #[.val (.ref a), .val vf, .val vr, .val vl, .val vm] [vf, (.ref a)])) rfl rfl (hb hby own_d6)
  have N3 := Fr.snoc X2 N0 ga
  have Kx2 : Keep h0 h2 [a] := Keep.of_wr W2
  have F4 : Fld Z h2 a "com/example/crosslode/crosslode/Problem" "file" "Ljava/lang/String;" vf := F0file.same W2
  have F5 : Fld Z h2 a "com/example/crosslode/crosslode/Problem" "record" "Ljava/lang/String;" .null := F0record.other W2 (Or.inr (slot_ne (a0 := a0) (Or.inr (hw _ (List.mem_of_getElem? (i := 46) rfl))) (Or.inr (hw _ (List.mem_of_getElem? (i := 44) rfl))) (by decide) (t := (.object "java/lang/String")) (t' := (.object "java/lang/String")) (by decide) (by decide)))
  have F6 : Fld Z h2 a "com/example/crosslode/crosslode/Problem" "level" "Lcom/example/crosslode/crosslode/Problem$Level;" .null := F0level.other W2 (Or.inr (slot_ne (a0 := a0) (Or.inr (hw _ (List.mem_of_getElem? (i := 48) rfl))) (Or.inr (hw _ (List.mem_of_getElem? (i := 44) rfl))) (by decide) (t := (.object "com/example/crosslode/crosslode/Problem$Level")) (t' := (.object "java/lang/String")) (by decide) (by decide)))
  have F7 : Fld Z h2 a "com/example/crosslode/crosslode/Problem" "message" "Ljava/lang/String;" .null := F0message.other W2 (Or.inr (slot_ne (a0 := a0) (Or.inr (hw _ (List.mem_of_getElem? (i := 50) rfl))) (Or.inr (hw _ (List.mem_of_getElem? (i := 44) rfl))) (by decide) (t := (.object "java/lang/String")) (t' := (.object "java/lang/String")) (by decide) (by decide)))
  refine GoOn.step st2 ?_
  have E8 : Exa Z h2 a "com/example/crosslode/crosslode/Problem" := E0.keep Kx2
  have Z13 : n0 ≤ h2.size := Nat.le_trans Z0 Kx2.1
  have K14 : Keep h0 h2 [a] := K0a.trans Kx2 ((allS (Or.inl (by simp)) all0))
  show GoOn p e below (T2.setTop (mkF m 9 #[.val (.ref a), .val vf, .val vr, .val vl, .val vm] [])) _
  refine GoOn.step (fun tq kq => XS.aloadN X2.here hx rfl (hb hby own_d7) rfl rfl kq) ?_
  show GoOn p e below (T2.setTop (mkF m 10 #[.val (.ref a), .val vf, .val vr, .val vl, .val vm] [(.ref a)])) _
  refine GoOn.step (fun tq kq => XS.aloadN X2.here hx rfl (hb hby own_d8) rfl hr kq) ?_
  show GoOn p e below (T2.setTop (mkF m 11 #[.val (.ref a), .val vf, .val vr, .val vl, .val vm] [vr, (.ref a)])) _
  obtain ⟨T15, h15, X15, e15, W15, st15⟩ := putF X2 hx hZ hown (host := "") (Or.inl (hw _ (List.mem_of_getElem? (i := 45) rfl))) Via.refl e2 F5 E8 (Or.inr ⟨(hw _ (List.mem_of_getElem? (i := 46) rfl)), rfl, hnm⟩) (hw _ (List.mem_of_getElem? (i := 35) rfl)) (ty := (.object "java/lang/String")) (by decide) (narRef hr) (fitRef hr) (g := (mkF m 11 #[.val (.ref a), .val vf, .val vr, .val vl, .val vm] [vr, (.ref a)])) rfl rfl (hb hby own_d9)
  have N16 := Fr.snoc X15 N3 ga
  have Kx15 : Keep h2 h15 [a] := Keep.of_wr W15
  have F17 : Fld Z h15 a "com/example/crosslode/crosslode/Problem" "record" "Ljava/lang/String;" vr := F5.same W15
  have F18 : Fld Z h15 a "com/example/crosslode/crosslode/Problem" "file" "Ljava/lang/String;" vf := F4.other W15 (Or.inr (slot_ne (a0 := a0) (Or.inr (hw _ (List.mem_of_getElem? (i := 44) rfl))) (Or.inr (hw _ (List.mem_of_getElem? (i := 46) rfl))) (by decide) (t := (.object "java/lang/String")) (t' := (.object "java/lang/String")) (by decide) (by decide)))
  have F19 : Fld Z h15 a "com/example/crosslode/crosslode/Problem" "level" "Lcom/example/crosslode/crosslode/Problem$Level;" .null := F6.other W15 (Or.inr (slot_ne (a0 := a0) (Or.inr (hw _ (List.mem_of_getElem? (i := 48) rfl))) (Or.inr (hw _ (List.mem_of_getElem? (i := 46) rfl))) (by decide) (t := (.object "com/example/crosslode/crosslode/Problem$Level")) (t' := (.object "java/lang/String")) (by decide) (by decide)))
  have F20 : Fld Z h15 a "com/example/crosslode/crosslode/Problem" "message" "Ljava/lang/String;" .null := F7.other W15 (Or.inr (slot_ne (a0 := a0) (Or.inr (hw _ (List.mem_of_getElem? (i := 50) rfl))) (Or.inr (hw _ (List.mem_of_getElem? (i := 46) rfl))) (by decide) (t := (.object "java/lang/String")) (t' := (.object "java/lang/String")) (by decide) (by decide)))
  refine GoOn.step st15 ?_
  have E21 : Exa Z h15 a "com/example/crosslode/crosslode/Problem" := E8.keep Kx15
  have Z22 : n0 ≤ h15.size := Nat.le_trans Z13 Kx15.1
  have K23 : Keep h0 h15 [a] := K14.trans Kx15 ((allS (Or.inl (by simp)) all0))
  show GoOn p e below (T15.setTop (mkF m 14 #[.val (.ref a), .val vf, .val vr, .val vl, .val vm] [])) _
  refine GoOn.step (fun tq kq => XS.aloadN X15.here hx rfl (hb hby own_d10) rfl rfl kq) ?_
  show GoOn p e below (T15.setTop (mkF m 15 #[.val (.ref a), .val vf, .val vr, .val vl, .val vm] [(.ref a)])) _
  refine GoOn.step (fun tq kq => XS.aloadN X15.here hx rfl (hb hby own_d11) rfl hl kq) ?_
  show GoOn p e below (T15.setTop (mkF m 16 #[.val (.ref a), .val vf, .val vr, .val vl, .val vm] [vl, (.ref a)])) _
  obtain ⟨T28, h28, X28, e28, W28, st28⟩ := putF X15 hx hZ hown (host := "") (Or.inl (hw _ (List.mem_of_getElem? (i := 47) rfl))) Via.refl e15 F19 E21 (Or.inr ⟨(hw _ (List.mem_of_getElem? (i := 48) rfl)), rfl, hnm⟩) (hw _ (List.mem_of_getElem? (i := 35) rfl)) (ty := (.object "com/example/crosslode/crosslode/Problem$Level")) (by decide) (narRef hl) (fitRef hl) (g := (mkF m 16 #[.val (.ref a), .val vf, .val vr, .val vl, .val vm] [vl, (.ref a)])) rfl rfl (hb hby own_d12)
  have N29 := Fr.snoc X28 N16 ga
  have Kx28 : Keep h15 h28 [a] := Keep.of_wr W28
  have F30 : Fld Z h28 a "com/example/crosslode/crosslode/Problem" "level" "Lcom/example/crosslode/crosslode/Problem$Level;" vl := F19.same W28
  have F31 : Fld Z h28 a "com/example/crosslode/crosslode/Problem" "record" "Ljava/lang/String;" vr := F17.other W28 (Or.inr (slot_ne (a0 := a0) (Or.inr (hw _ (List.mem_of_getElem? (i := 46) rfl))) (Or.inr (hw _ (List.mem_of_getElem? (i := 48) rfl))) (by decide) (t := (.object "java/lang/String")) (t' := (.object "com/example/crosslode/crosslode/Problem$Level")) (by decide) (by decide)))
  have F32 : Fld Z h28 a "com/example/crosslode/crosslode/Problem" "file" "Ljava/lang/String;" vf := F18.other W28 (Or.inr (slot_ne (a0 := a0) (Or.inr (hw _ (List.mem_of_getElem? (i := 44) rfl))) (Or.inr (hw _ (List.mem_of_getElem? (i := 48) rfl))) (by decide) (t := (.object "java/lang/String")) (t' := (.object "com/example/crosslode/crosslode/Problem$Level")) (by decide) (by decide)))
  have F33 : Fld Z h28 a "com/example/crosslode/crosslode/Problem" "message" "Ljava/lang/String;" .null := F20.other W28 (Or.inr (slot_ne (a0 := a0) (Or.inr (hw _ (List.mem_of_getElem? (i := 50) rfl))) (Or.inr (hw _ (List.mem_of_getElem? (i := 48) rfl))) (by decide) (t := (.object "java/lang/String")) (t' := (.object "com/example/crosslode/crosslode/Problem$Level")) (by decide) (by decide)))
  refine GoOn.step st28 ?_
  have E34 : Exa Z h28 a "com/example/crosslode/crosslode/Problem" := E21.keep Kx28
  have Z35 : n0 ≤ h28.size := Nat.le_trans Z22 Kx28.1
  have K36 : Keep h0 h28 [a] := K23.trans Kx28 ((allS (Or.inl (by simp)) all0))
  show GoOn p e below (T28.setTop (mkF m 19 #[.val (.ref a), .val vf, .val vr, .val vl, .val vm] [])) _
  refine GoOn.step (fun tq kq => XS.aloadN X28.here hx rfl (hb hby own_d13) rfl rfl kq) ?_
  show GoOn p e below (T28.setTop (mkF m 20 #[.val (.ref a), .val vf, .val vr, .val vl, .val vm] [(.ref a)])) _
  refine GoOn.step (fun tq kq => XS.aload X28.here hx rfl (hb hby own_d14) rfl hm kq) ?_
  show GoOn p e below (T28.setTop (mkF m 22 #[.val (.ref a), .val vf, .val vr, .val vl, .val vm] [vm, (.ref a)])) _
  obtain ⟨T41, h41, X41, e41, W41, st41⟩ := putF X28 hx hZ hown (host := "") (Or.inl (hw _ (List.mem_of_getElem? (i := 49) rfl))) Via.refl e28 F33 E34 (Or.inr ⟨(hw _ (List.mem_of_getElem? (i := 50) rfl)), rfl, hnm⟩) (hw _ (List.mem_of_getElem? (i := 35) rfl)) (ty := (.object "java/lang/String")) (by decide) (narRef hm) (fitRef hm) (g := (mkF m 22 #[.val (.ref a), .val vf, .val vr, .val vl, .val vm] [vm, (.ref a)])) rfl rfl (hb hby own_d15)
  have N42 := Fr.snoc X41 N29 ga
  have Kx41 : Keep h28 h41 [a] := Keep.of_wr W41
  have F43 : Fld Z h41 a "com/example/crosslode/crosslode/Problem" "message" "Ljava/lang/String;" vm := F33.same W41
  have F44 : Fld Z h41 a "com/example/crosslode/crosslode/Problem" "level" "Lcom/example/crosslode/crosslode/Problem$Level;" vl := F30.other W41 (Or.inr (slot_ne (a0 := a0) (Or.inr (hw _ (List.mem_of_getElem? (i := 48) rfl))) (Or.inr (hw _ (List.mem_of_getElem? (i := 50) rfl))) (by decide) (t := (.object "com/example/crosslode/crosslode/Problem$Level")) (t' := (.object "java/lang/String")) (by decide) (by decide)))
  have F45 : Fld Z h41 a "com/example/crosslode/crosslode/Problem" "record" "Ljava/lang/String;" vr := F31.other W41 (Or.inr (slot_ne (a0 := a0) (Or.inr (hw _ (List.mem_of_getElem? (i := 46) rfl))) (Or.inr (hw _ (List.mem_of_getElem? (i := 50) rfl))) (by decide) (t := (.object "java/lang/String")) (t' := (.object "java/lang/String")) (by decide) (by decide)))
  have F46 : Fld Z h41 a "com/example/crosslode/crosslode/Problem" "file" "Ljava/lang/String;" vf := F32.other W41 (Or.inr (slot_ne (a0 := a0) (Or.inr (hw _ (List.mem_of_getElem? (i := 44) rfl))) (Or.inr (hw _ (List.mem_of_getElem? (i := 50) rfl))) (by decide) (t := (.object "java/lang/String")) (t' := (.object "java/lang/String")) (by decide) (by decide)))
  refine GoOn.step st41 ?_
  have E47 : Exa Z h41 a "com/example/crosslode/crosslode/Problem" := E34.keep Kx41
  have Z48 : n0 ≤ h41.size := Nat.le_trans Z35 Kx41.1
  have K49 : Keep h0 h41 [a] := K36.trans Kx41 ((allS (Or.inl (by simp)) all0))
  show GoOn p e below (T41.setTop (mkF m 25 #[.val (.ref a), .val vf, .val vr, .val vl, .val vm] [])) _
  refine GoOn.ret X41 Bd.notSynchronized (v := none) (fun _ => rfl) (fun fs hr => X41.returnOut hx Bd.returns (hb hby own_d16) hr) (by decide) (by decide) ?_
  rw [e41]
  exact ⟨rfl, N42, K49, E47, F46, F45, F44, F43⟩
def QErr (Z : State) (vf vr vm : Value) (le : Addr) (h0 : Heap) (n0 : Nat) (v : Option Value) (h : Heap) (L : List Loc) : Prop := ∃ a : Addr, v = some (.ref a) ∧ Fr n0 L ∧ Keep h0 h [] ∧ h0.size ≤ a ∧ Exa Z h a "com/example/crosslode/crosslode/Problem" ∧ Fld Z h a "com/example/crosslode/crosslode/Problem" "file" "Ljava/lang/String;" vf ∧ Fld Z h a "com/example/crosslode/crosslode/Problem" "record" "Ljava/lang/String;" vr ∧ Fld Z h a "com/example/crosslode/crosslode/Problem" "level" "Lcom/example/crosslode/crosslode/Problem$Level;" (.ref le) ∧ Fld Z h a "com/example/crosslode/crosslode/Problem" "message" "Ljava/lang/String;" vm
set_option maxRecDepth 65536 in
set_option maxHeartbeats 40000000 in
theorem rmErr (l : Launch) (Z : State) (a0 : Array Value) (hw : ∀ d ∈ tables_1, d.before a0 Z = true) (vf vr vm : Value) (le : Addr) (h0 : Heap) (n0 : Nat) (Z0 : n0 ≤ h0.size) (hf : vf.isRef = true) (hr : vr.isRef = true) (hm : vm.isRef = true) (SE : Sta Z Z.heap "com/example/crosslode/crosslode/Problem$Level" "WARNING" "Lcom/example/crosslode/crosslode/Problem$Level;" (.ref le)) (O0 : Old Z n0 h0) :
    MetFree l (⟨"com/example/crosslode/crosslode/Problem", "warning", "(Ljava/lang/String;Ljava/lang/String;Ljava/lang/String;)Lcom/example/crosslode/crosslode/Problem;"⟩ : MethodName) (head1 [Jvm.Cond.code (⟨"com/example/crosslode/crosslode/Problem", "warning", "(Ljava/lang/String;Ljava/lang/String;Ljava/lang/String;)Lcom/example/crosslode/crosslode/Problem;"⟩ : MethodName) prog_6_method_3_code 3 (some (.object "com/example/crosslode/crosslode/Problem"))] ({ frames := 2, cells := 1, slots := 4, locals := 29 } : Room)) (fun aa U => aa = #[vf, vr, vm] ∧ Z.Warmed39 U.vm ∧ U.heap = h0) (fun _ _ _ _ _ => True) (fun _ U o U' => ∃ v L, o = .returned v ∧ QErr Z vf vr vm le h0 n0 v U'.heap L ∧ FrameEnd U o U' L ({ frames := 2, cells := 1, slots := 4, locals := 29 } : Room).cells ({ frames := 2, cells := 1, slots := 4, locals := 29 } : Room).slots) := by
  refine MetFree.of_bodySF (plainFor_of_name own_pn1) hisR ?_
  intro p e s m args below meth c s₁ Bd hml0 hP hK
  obtain ⟨rfl, hZ, hh⟩ := hP
  have hx := Bd.exec
  have hby := Bd.bytes
  have hml : c.maxLocals = 3 := hml0
  have hown : s.vm.findClass "com/example/crosslode/crosslode/Problem" = some m.cls := findClass_of_methodNamed Bd.named
  have hnm := (name_of_methodNamed Bd.named Bd.method).1
  have X0 : Stand p l e ({ frames := 2, cells := 1, slots := 4, locals := 29 } : Room) s m #[vf, vr, vm] below meth c s₁ [] 0 0 := Stand.of_body Bd
  have e0 : s₁.heap = h0 := by rw [← hh, Bd.state]; rfl
  have N0 := Fr.nil n0
  have K0 : Keep h0 h0 [] := Keep.refl _ _
  show GoOn p e below (s₁.setTop (entryFrame m #[vf, vr, vm] 3)) (PostN s (QErr Z vf vr vm le h0 n0) ({ frames := 2, cells := 1, slots := 4, locals := 29 } : Room).cells ({ frames := 2, cells := 1, slots := 4, locals := 29 } : Room).slots)
  refine GoOn.step (fun tq kq => castTop (own_ef17 m vf vr vm hf hr hm) kq) ?_
  show GoOn p e below (s₁.setTop (mkF m 0 #[.val vf, .val vr, .val vm] [])) _
  obtain ⟨T54, h54, X54, e54, Ex54, A54, Df54, -, st54⟩ := newO X0 hx hZ hown (hw _ (List.mem_of_getElem? (i := 34) rfl)) (hw _ (List.mem_of_getElem? (i := 35) rfl)) (hw _ (List.mem_of_getElem? (i := 32) rfl)) e0 (g := (mkF m 0 #[.val vf, .val vr, .val vm] [])) rfl (hb hby own_d18) (by decide) (by decide)
  obtain ⟨b, g54⟩ : ∃ z, z = h0.size := ⟨_, rfl⟩
  rw [← g54] at A54 Df54 st54
  have gn55 : n0 ≤ b := Nat.le_trans Z0 (Nat.le_of_eq g54.symm)
  have sz56 : h0.size ≤ b := Nat.le_trans K0.1 (Nat.le_of_eq g54.symm)
  have Kx54 : Keep h0 h54 [] := (Keep.refl _ _).ext Ex54
  refine GoOn.step st54 ?_
  have O57 : Old Z n0 h54 := O0.keep Kx54 all0
  have Z58 : n0 ≤ h54.size := Nat.le_trans Z0 Kx54.1
  have K59 : Keep h0 h54 [] := K0.trans Kx54 (all0)
  have F60 : Fld Z h54 b "com/example/crosslode/crosslode/Problem" "file" "Ljava/lang/String;" .null := Df54 (Or.inr (hw _ (List.mem_of_getElem? (i := 44) rfl))) (ty := (.object "java/lang/String")) (by decide)
  have F61 : Fld Z h54 b "com/example/crosslode/crosslode/Problem" "record" "Ljava/lang/String;" .null := Df54 (Or.inr (hw _ (List.mem_of_getElem? (i := 46) rfl))) (ty := (.object "java/lang/String")) (by decide)
  have F62 : Fld Z h54 b "com/example/crosslode/crosslode/Problem" "level" "Lcom/example/crosslode/crosslode/Problem$Level;" .null := Df54 (Or.inr (hw _ (List.mem_of_getElem? (i := 48) rfl))) (ty := (.object "com/example/crosslode/crosslode/Problem$Level")) (by decide)
  have F63 : Fld Z h54 b "com/example/crosslode/crosslode/Problem" "message" "Ljava/lang/String;" .null := Df54 (Or.inr (hw _ (List.mem_of_getElem? (i := 50) rfl))) (ty := (.object "java/lang/String")) (by decide)
  show GoOn p e below (T54.setTop (mkF m 3 #[.val vf, .val vr, .val vm] [(.ref b)])) _
  refine GoOn.step (fun tq kq => XS.dup X54.here hx rfl (hb hby own_d19) rfl rfl kq) ?_
  show GoOn p e below (T54.setTop (mkF m 4 #[.val vf, .val vr, .val vm] [(.ref b), (.ref b)])) _
  refine GoOn.step (fun tq kq => XS.aloadN X54.here hx rfl (hb hby own_d20) rfl hf kq) ?_
  show GoOn p e below (T54.setTop (mkF m 5 #[.val vf, .val vr, .val vm] [vf, (.ref b), (.ref b)])) _
  refine GoOn.step (fun tq kq => XS.aloadN X54.here hx rfl (hb hby own_d21) rfl hr kq) ?_
  show GoOn p e below (T54.setTop (mkF m 6 #[.val vf, .val vr, .val vm] [vr, vf, (.ref b), (.ref b)])) _
  obtain ⟨T64, X64, e64, st64⟩ := getS2 X54 hx hZ hown (host := "") (Or.inl (hw _ (List.mem_of_getElem? (i := 36) rfl))) Via.refl e54 (SE.ext O57.2) (g := (mkF m 6 #[.val vf, .val vr, .val vm] [vr, vf, (.ref b), (.ref b)])) rfl (hb hby own_d22)
  refine GoOn.step st64 ?_
  show GoOn p e below (T64.setTop (mkF m 9 #[.val vf, .val vr, .val vm] [(.ref le), vr, vf, (.ref b), (.ref b)])) _
  refine GoOn.step (fun tq kq => XS.aloadN X64.here hx rfl (hb hby own_d23) rfl hm kq) ?_
  show GoOn p e below (T64.setTop (mkF m 10 #[.val vf, .val vr, .val vm] [vm, (.ref le), vr, vf, (.ref b), (.ref b)])) _
  obtain ⟨_, _, ⟨T65, L65, k65, n65⟩, -, X65, ⟨Lc65, hQ65, l65, y65, z65⟩, st65⟩ := X64.specialBack hx (y := (⟨"com/example/crosslode/crosslode/Problem", "<init>", "(Ljava/lang/String;Ljava/lang/String;Lcom/example/crosslode/crosslode/Problem$Level;Ljava/lang/String;)V"⟩ : MethodName)) rfl hown (mvT hZ (hw _ (List.mem_of_getElem? (i := 39) rfl))) (mvT hZ (hw _ (List.mem_of_getElem? (i := 40) rfl))) (mvT hZ (hw _ (List.mem_of_getElem? (i := 41) rfl))) (by decide) (backOf (W := 1) (rmInit l Z a0 hw b vf vr (.ref le) vm h54 n0 Z58 A54 F60 F61 F62 F63 gn55 hf hr rfl hm) hZ (hw _ (List.mem_of_getElem? (i := 41) rfl)) (hw _ (List.mem_of_getElem? (i := 32) rfl)) (by decide) (by decide)) (g := (mkF m 10 #[.val vf, .val vr, .val vm] [vm, (.ref le), vr, vf, (.ref b), (.ref b)])) rfl (by rw [hml]; rfl) (Steps.refl _) (a := b) (argsL := [vf, vr, (.ref le), vm]) (rest := [(.ref b)]) (lenOf own_pd25 rfl) rfl (by show 2 * 0 + _ ≤ _; exact Nat.le_of_eq rfl) (hb hby own_d24) (fun _ _ => ⟨rfl, e64, (by decide : 1 + 0 ≤ _), (by decide : 4 + 0 ≤ _)⟩)
  dsimp only [Pt.U, Pt.locs, Pt.cells, Pt.slots] at X65 l65 y65 z65 st65 hQ65
  subst l65 y65 z65
  obtain ⟨rfl, N65, K65, E65, Fa65, Fb65, Fc65, Fd65⟩ := hQ65
  refine GoOn.trans st65 ?_
  have N66 := Fr.app N0 N65
  have O67 : Old Z n0 T65.heap := O57.keep K65 (allS gn55 all0)
  have Z68 : n0 ≤ T65.heap.size := Nat.le_trans Z58 K65.1
  have K69 : Keep h0 T65.heap [] := K59.trans K65 ((allS (Or.inr sz56) all0))
  have E70 : Exa Z T65.heap b "com/example/crosslode/crosslode/Problem" := A54.keep K65
  show GoOn p e below (T65.setTop (mkF m 13 #[.val vf, .val vr, .val vm] [(.ref b)])) _
  refine GoOn.ret X65 Bd.notSynchronized (v := some (.ref b)) (fun h => by rw [Bd.returns] at h; cases h) (fun fs hr => retOut X65 hx Bd.returns rfl (Or.inr (Or.inr (Or.inr (Or.inr ⟨rfl, rfl, rfl⟩)))) (hb hby own_d26) hr) (by decide) (by decide) ?_
  exact ⟨b, rfl, N66, K69, sz56, E70, Fa65, Fb65, Fc65, Fd65⟩
def QSame (u : Value) (h0 : Heap) (n0 : Nat) (v : Option Value) (h : Heap) (L : List Loc) : Prop := v = some u ∧ Fr n0 L ∧ h = h0
set_option maxRecDepth 65536 in
set_option maxHeartbeats 40000000 in
theorem rmG_file (l : Launch) (Z : State) (a0 : Array Value) (hw : ∀ d ∈ tables_1, d.before a0 Z = true) (a : Addr) (u : Value) (h0 : Heap) (n0 : Nat) (Z0 : n0 ≤ h0.size) (hu : u.isRef = true) (F0 : Fld Z h0 a "com/example/crosslode/crosslode/Problem" "file" "Ljava/lang/String;" u) :
    MetFree l (⟨"com/example/crosslode/crosslode/Problem", "file", "()Ljava/lang/String;"⟩ : MethodName) (head1 [Jvm.Cond.code (⟨"com/example/crosslode/crosslode/Problem", "file", "()Ljava/lang/String;"⟩ : MethodName) prog_6_method_5_code 1 (some (.object "java/lang/String"))] ({ frames := 0, cells := 0, slots := 0, locals := 0 } : Room)) (fun aa U => aa = #[(.ref a)] ∧ Z.Warmed39 U.vm ∧ U.heap = h0) (fun _ _ _ _ _ => True) (fun _ U o U' => ∃ v L, o = .returned v ∧ QSame u h0 n0 v U'.heap L ∧ FrameEnd U o U' L ({ frames := 0, cells := 0, slots := 0, locals := 0 } : Room).cells ({ frames := 0, cells := 0, slots := 0, locals := 0 } : Room).slots) := by
  refine MetFree.of_bodySF (plainFor_of_name own_pn1) hisR ?_
  intro p e s m args below meth c s₁ Bd hml0 hP hK
  obtain ⟨rfl, hZ, hh⟩ := hP
  have hx := Bd.exec
  have hby := Bd.bytes
  have hml : c.maxLocals = 1 := hml0
  have hown : s.vm.findClass "com/example/crosslode/crosslode/Problem" = some m.cls := findClass_of_methodNamed Bd.named
  have hnm := (name_of_methodNamed Bd.named Bd.method).1
  have X0 : Stand p l e ({ frames := 0, cells := 0, slots := 0, locals := 0 } : Room) s m #[(.ref a)] below meth c s₁ [] 0 0 := Stand.of_body Bd
  have e0 : s₁.heap = h0 := by rw [← hh, Bd.state]; rfl
  have N0 := Fr.nil n0
  have K0 : Keep h0 h0 [] := Keep.refl _ _
  show GoOn p e below (s₁.setTop (entryFrame m #[(.ref a)] 1)) (PostN s (QSame u h0 n0) ({ frames := 0, cells := 0, slots := 0, locals := 0 } : Room).cells ({ frames := 0, cells := 0, slots := 0, locals := 0 } : Room).slots)
  refine GoOn.step (fun tq kq => castTop (own_ef27 m a) kq) ?_
  show GoOn p e below (s₁.setTop (mkF m 0 #[.val (.ref a)] [])) _
  refine GoOn.step (fun tq kq => XS.aloadN X0.here hx rfl (hb hby own_d28) rfl rfl kq) ?_
  show GoOn p e below (s₁.setTop (mkF m 1 #[.val (.ref a)] [(.ref a)])) _
  obtain ⟨T75, X75, e75, st75⟩ := getF X0 hx hZ hown (host := "") (Or.inl (hw _ (List.mem_of_getElem? (i := 43) rfl))) Via.refl e0 F0 (g := (mkF m 1 #[.val (.ref a)] [(.ref a)])) rfl rfl (hb hby own_d29)
  refine GoOn.step st75 ?_
  show GoOn p e below (T75.setTop (mkF m 4 #[.val (.ref a)] [u])) _
  refine GoOn.ret X75 Bd.notSynchronized (v := some u) (fun h => by rw [Bd.returns] at h; cases h) (fun fs hr => retOut X75 hx Bd.returns (narRef hu) (Or.inr (Or.inr (Or.inr (Or.inr ⟨rfl, rfl, hu⟩)))) (hb hby own_d30) hr) (by decide) (by decide) ?_
  rw [e75]
  exact ⟨rfl, N0, rfl⟩
set_option maxRecDepth 65536 in
set_option maxHeartbeats 40000000 in
theorem rmG_record (l : Launch) (Z : State) (a0 : Array Value) (hw : ∀ d ∈ tables_1, d.before a0 Z = true) (a : Addr) (u : Value) (h0 : Heap) (n0 : Nat) (Z0 : n0 ≤ h0.size) (hu : u.isRef = true) (F0 : Fld Z h0 a "com/example/crosslode/crosslode/Problem" "record" "Ljava/lang/String;" u) :
    MetFree l (⟨"com/example/crosslode/crosslode/Problem", "record", "()Ljava/lang/String;"⟩ : MethodName) (head1 [Jvm.Cond.code (⟨"com/example/crosslode/crosslode/Problem", "record", "()Ljava/lang/String;"⟩ : MethodName) prog_6_method_6_code 1 (some (.object "java/lang/String"))] ({ frames := 0, cells := 0, slots := 0, locals := 0 } : Room)) (fun aa U => aa = #[(.ref a)] ∧ Z.Warmed39 U.vm ∧ U.heap = h0) (fun _ _ _ _ _ => True) (fun _ U o U' => ∃ v L, o = .returned v ∧ QSame u h0 n0 v U'.heap L ∧ FrameEnd U o U' L ({ frames := 0, cells := 0, slots := 0, locals := 0 } : Room).cells ({ frames := 0, cells := 0, slots := 0, locals := 0 } : Room).slots) := by
  refine MetFree.of_bodySF (plainFor_of_name own_pn1) hisR ?_
  intro p e s m args below meth c s₁ Bd hml0 hP hK
  obtain ⟨rfl, hZ, hh⟩ := hP
  have hx := Bd.exec
  have hby := Bd.bytes
  have hml : c.maxLocals = 1 := hml0
  have hown : s.vm.findClass "com/example/crosslode/crosslode/Problem" = some m.cls := findClass_of_methodNamed Bd.named
  have hnm := (name_of_methodNamed Bd.named Bd.method).1
  have X0 : Stand p l e ({ frames := 0, cells := 0, slots := 0, locals := 0 } : Room) s m #[(.ref a)] below meth c s₁ [] 0 0 := Stand.of_body Bd
  have e0 : s₁.heap = h0 := by rw [← hh, Bd.state]; rfl
  have N0 := Fr.nil n0
  have K0 : Keep h0 h0 [] := Keep.refl _ _
  show GoOn p e below (s₁.setTop (entryFrame m #[(.ref a)] 1)) (PostN s (QSame u h0 n0) ({ frames := 0, cells := 0, slots := 0, locals := 0 } : Room).cells ({ frames := 0, cells := 0, slots := 0, locals := 0 } : Room).slots)
  refine GoOn.step (fun tq kq => castTop (own_ef31 m a) kq) ?_
  show GoOn p e below (s₁.setTop (mkF m 0 #[.val (.ref a)] [])) _
  refine GoOn.step (fun tq kq => XS.aloadN X0.here hx rfl (hb hby own_d32) rfl rfl kq) ?_
  show GoOn p e below (s₁.setTop (mkF m 1 #[.val (.ref a)] [(.ref a)])) _
  obtain ⟨T76, X76, e76, st76⟩ := getF X0 hx hZ hown (host := "") (Or.inl (hw _ (List.mem_of_getElem? (i := 45) rfl))) Via.refl e0 F0 (g := (mkF m 1 #[.val (.ref a)] [(.ref a)])) rfl rfl (hb hby own_d33)
  refine GoOn.step st76 ?_
  show GoOn p e below (T76.setTop (mkF m 4 #[.val (.ref a)] [u])) _
  refine GoOn.ret X76 Bd.notSynchronized (v := some u) (fun h => by rw [Bd.returns] at h; cases h) (fun fs hr => retOut X76 hx Bd.returns (narRef hu) (Or.inr (Or.inr (Or.inr (Or.inr ⟨rfl, rfl, hu⟩)))) (hb hby own_d34) hr) (by decide) (by decide) ?_
  rw [e76]
  exact ⟨rfl, N0, rfl⟩
set_option maxRecDepth 65536 in
set_option maxHeartbeats 40000000 in
theorem rmG_level (l : Launch) (Z : State) (a0 : Array Value) (hw : ∀ d ∈ tables_1, d.before a0 Z = true) (a : Addr) (u : Value) (h0 : Heap) (n0 : Nat) (Z0 : n0 ≤ h0.size) (hu : u.isRef = true) (F0 : Fld Z h0 a "com/example/crosslode/crosslode/Problem" "level" "Lcom/example/crosslode/crosslode/Problem$Level;" u) :
    MetFree l (⟨"com/example/crosslode/crosslode/Problem", "level", "()Lcom/example/crosslode/crosslode/Problem$Level;"⟩ : MethodName) (head1 [Jvm.Cond.code (⟨"com/example/crosslode/crosslode/Problem", "level", "()Lcom/example/crosslode/crosslode/Problem$Level;"⟩ : MethodName) prog_6_method_7_code 1 (some (.object "com/example/crosslode/crosslode/Problem$Level"))] ({ frames := 0, cells := 0, slots := 0, locals := 0 } : Room)) (fun aa U => aa = #[(.ref a)] ∧ Z.Warmed39 U.vm ∧ U.heap = h0) (fun _ _ _ _ _ => True) (fun _ U o U' => ∃ v L, o = .returned v ∧ QSame u h0 n0 v U'.heap L ∧ FrameEnd U o U' L ({ frames := 0, cells := 0, slots := 0, locals := 0 } : Room).cells ({ frames := 0, cells := 0, slots := 0, locals := 0 } : Room).slots) := by
  refine MetFree.of_bodySF (plainFor_of_name own_pn1) hisR ?_
  intro p e s m args below meth c s₁ Bd hml0 hP hK
  obtain ⟨rfl, hZ, hh⟩ := hP
  have hx := Bd.exec
  have hby := Bd.bytes
  have hml : c.maxLocals = 1 := hml0
  have hown : s.vm.findClass "com/example/crosslode/crosslode/Problem" = some m.cls := findClass_of_methodNamed Bd.named
  have hnm := (name_of_methodNamed Bd.named Bd.method).1
  have X0 : Stand p l e ({ frames := 0, cells := 0, slots := 0, locals := 0 } : Room) s m #[(.ref a)] below meth c s₁ [] 0 0 := Stand.of_body Bd
  have e0 : s₁.heap = h0 := by rw [← hh, Bd.state]; rfl
  have N0 := Fr.nil n0
  have K0 : Keep h0 h0 [] := Keep.refl _ _
  show GoOn p e below (s₁.setTop (entryFrame m #[(.ref a)] 1)) (PostN s (QSame u h0 n0) ({ frames := 0, cells := 0, slots := 0, locals := 0 } : Room).cells ({ frames := 0, cells := 0, slots := 0, locals := 0 } : Room).slots)
  refine GoOn.step (fun tq kq => castTop (own_ef35 m a) kq) ?_
  show GoOn p e below (s₁.setTop (mkF m 0 #[.val (.ref a)] [])) _
  refine GoOn.step (fun tq kq => XS.aloadN X0.here hx rfl (hb hby own_d36) rfl rfl kq) ?_
  show GoOn p e below (s₁.setTop (mkF m 1 #[.val (.ref a)] [(.ref a)])) _
  obtain ⟨T77, X77, e77, st77⟩ := getF X0 hx hZ hown (host := "") (Or.inl (hw _ (List.mem_of_getElem? (i := 47) rfl))) Via.refl e0 F0 (g := (mkF m 1 #[.val (.ref a)] [(.ref a)])) rfl rfl (hb hby own_d37)
  refine GoOn.step st77 ?_
  show GoOn p e below (T77.setTop (mkF m 4 #[.val (.ref a)] [u])) _
  refine GoOn.ret X77 Bd.notSynchronized (v := some u) (fun h => by rw [Bd.returns] at h; cases h) (fun fs hr => retOut X77 hx Bd.returns (narRef hu) (Or.inr (Or.inr (Or.inr (Or.inr ⟨rfl, rfl, hu⟩)))) (hb hby own_d38) hr) (by decide) (by decide) ?_
  rw [e77]
  exact ⟨rfl, N0, rfl⟩
set_option maxRecDepth 65536 in
set_option maxHeartbeats 40000000 in
theorem rmG_message (l : Launch) (Z : State) (a0 : Array Value) (hw : ∀ d ∈ tables_1, d.before a0 Z = true) (a : Addr) (u : Value) (h0 : Heap) (n0 : Nat) (Z0 : n0 ≤ h0.size) (hu : u.isRef = true) (F0 : Fld Z h0 a "com/example/crosslode/crosslode/Problem" "message" "Ljava/lang/String;" u) :
    MetFree l (⟨"com/example/crosslode/crosslode/Problem", "message", "()Ljava/lang/String;"⟩ : MethodName) (head1 [Jvm.Cond.code (⟨"com/example/crosslode/crosslode/Problem", "message", "()Ljava/lang/String;"⟩ : MethodName) prog_6_method_8_code 1 (some (.object "java/lang/String"))] ({ frames := 0, cells := 0, slots := 0, locals := 0 } : Room)) (fun aa U => aa = #[(.ref a)] ∧ Z.Warmed39 U.vm ∧ U.heap = h0) (fun _ _ _ _ _ => True) (fun _ U o U' => ∃ v L, o = .returned v ∧ QSame u h0 n0 v U'.heap L ∧ FrameEnd U o U' L ({ frames := 0, cells := 0, slots := 0, locals := 0 } : Room).cells ({ frames := 0, cells := 0, slots := 0, locals := 0 } : Room).slots) := by
  refine MetFree.of_bodySF (plainFor_of_name own_pn1) hisR ?_
  intro p e s m args below meth c s₁ Bd hml0 hP hK
  obtain ⟨rfl, hZ, hh⟩ := hP
  have hx := Bd.exec
  have hby := Bd.bytes
  have hml : c.maxLocals = 1 := hml0
  have hown : s.vm.findClass "com/example/crosslode/crosslode/Problem" = some m.cls := findClass_of_methodNamed Bd.named
  have hnm := (name_of_methodNamed Bd.named Bd.method).1
  have X0 : Stand p l e ({ frames := 0, cells := 0, slots := 0, locals := 0 } : Room) s m #[(.ref a)] below meth c s₁ [] 0 0 := Stand.of_body Bd
  have e0 : s₁.heap = h0 := by rw [← hh, Bd.state]; rfl
  have N0 := Fr.nil n0
  have K0 : Keep h0 h0 [] := Keep.refl _ _
  show GoOn p e below (s₁.setTop (entryFrame m #[(.ref a)] 1)) (PostN s (QSame u h0 n0) ({ frames := 0, cells := 0, slots := 0, locals := 0 } : Room).cells ({ frames := 0, cells := 0, slots := 0, locals := 0 } : Room).slots)
  refine GoOn.step (fun tq kq => castTop (own_ef39 m a) kq) ?_
  show GoOn p e below (s₁.setTop (mkF m 0 #[.val (.ref a)] [])) _
  refine GoOn.step (fun tq kq => XS.aloadN X0.here hx rfl (hb hby own_d40) rfl rfl kq) ?_
  show GoOn p e below (s₁.setTop (mkF m 1 #[.val (.ref a)] [(.ref a)])) _
  obtain ⟨T78, X78, e78, st78⟩ := getF X0 hx hZ hown (host := "") (Or.inl (hw _ (List.mem_of_getElem? (i := 49) rfl))) Via.refl e0 F0 (g := (mkF m 1 #[.val (.ref a)] [(.ref a)])) rfl rfl (hb hby own_d41)
  refine GoOn.step st78 ?_
  show GoOn p e below (T78.setTop (mkF m 4 #[.val (.ref a)] [u])) _
  refine GoOn.ret X78 Bd.notSynchronized (v := some u) (fun h => by rw [Bd.returns] at h; cases h) (fun fs hr => retOut X78 hx Bd.returns (narRef hu) (Or.inr (Or.inr (Or.inr (Or.inr ⟨rfl, rfl, hu⟩)))) (hb hby own_d42) hr) (by decide) (by decide) ?_
  rw [e78]
  exact ⟨rfl, N0, rfl⟩
def StrIs (Z : State) (h : Heap) (a : Addr) (cs : List Int32) : Prop := Exa Z h a "java/lang/String" ∧ Fld Z h a "java/lang/String" "coder" "B" (.int 0) ∧ (∀ c ∈ cs, ¬ c < 0 ∧ ¬ (255 : Int32) < c) ∧ cs.length ≤ 4000 ∧ ∃ (t : Addr) (kb : ClassId), Fld Z h a "java/lang/String" "value" "[B" (.ref t) ∧ Arv Z h t kb .byte (Int32.ofNat cs.length) ((cs.map fun c => c.toInt8.toInt32).map Value.int) (.int 0)
theorem StrIs.keep0 {Z : State} {h h' : Heap} {a : Addr} {cs : List Int32} (S : StrIs Z h a cs) (K : Keep h h' []) : StrIs Z h' a cs := by
  obtain ⟨E, C, hp, hl, t, kb, F, V⟩ := S
  exact ⟨E.keep K, C.keep K nin0, hp, hl, t, kb, F.keep K nin0, V.keep K nin0⟩
theorem StrIs.keepX {Z : State} {h h' : Heap} {a x : Addr} {cs : List Int32} {C : String} {n : Nat} {a0 : Array Value} (S : StrIs Z h a cs) (K : Keep h h' [x]) (E' : Exa Z h x C) (w : (Jvm.Cond.instantiable C n).before a0 Z = true) (hne : C ≠ "java/lang/String") : StrIs Z h' a cs := by
  obtain ⟨E, C', hp, hl, t, kb, F, V⟩ := S
  have q1 : a ≠ x := (Exa.ne E' E hne).symm
  have q2 : t ≠ x := (Exa.neArv E' V w).symm
  exact ⟨E.keep K, C'.keep K (ninS q1 nin0), hp, hl, t, kb, F.keep K (ninS q1 nin0), V.keep K (ninS q2 nin0)⟩
theorem StrIs.keepN {Z : State} {h h' : Heap} {a x : Addr} {cs : List Int32} {n : Nat} {a0 : Array Value} (S : StrIs Z h a cs) (K : Keep h h' [x]) (E' : Exa Z h x "java/lang/String") (F' : Fld Z h x "java/lang/String" "value" "[B" .null) (w : (Jvm.Cond.instantiable "java/lang/String" n).before a0 Z = true) : StrIs Z h' a cs := by
  obtain ⟨E, C', hp, hl, t, kb, F, V⟩ := S
  have q1 : a ≠ x := Fld.ne F F' (by simp)
  have q2 : t ≠ x := (Exa.neArv E' V w).symm
  exact ⟨E.keep K, C'.keep K (ninS q1 nin0), hp, hl, t, kb, F.keep K (ninS q1 nin0), V.keep K (ninS q2 nin0)⟩
theorem StrIs.lt {Z : State} {h : Heap} {a : Addr} {cs : List Int32} (S : StrIs Z h a cs) : a < h.size := S.1.lt
theorem nar_char_id {c : Int32} (h : ¬ c < 0 ∧ ¬ (255 : Int32) < c) : nar .char c = c := by
  have q := c_i2c c
  show c.toUInt32.toUInt16.toUInt32.toInt32 = c
  rw [Int32.lt_iff_toInt_lt, Int32.lt_iff_toInt_lt] at h
  have e0 : (0 : Int32).toInt = 0 := rfl
  have e1 : (255 : Int32).toInt = 255 := rfl
  rw [e0, e1] at h
  apply Int32.toInt_inj.mp
  omega
theorem nar_char2 (x : Int32) : nar .char ((x).toUInt32.toUInt16.toUInt32.toInt32) = ((x).toUInt32.toUInt16.toUInt32.toInt32) := by simp only [nar, UInt32.toUInt32_toInt32, UInt16.toUInt16_toUInt32]
set_option maxRecDepth 65536 in
set_option maxHeartbeats 40000000 in
theorem rmCanEnc (l : Launch) (Z : State) (a0 : Array Value) (hw : ∀ d ∈ tables_1, d.before a0 Z = true) (x : Int32) (h0 : Heap) (n0 : Nat) (Z0 : n0 ≤ h0.size) (hx1 : ¬ x < 0) (hx2 : ¬ (255 : Int32) < x) :
    MetFree l (⟨"java/lang/StringLatin1", "canEncode", "(C)Z"⟩ : MethodName) (head1 [Jvm.Cond.code (⟨"java/lang/StringLatin1", "canEncode", "(C)Z"⟩ : MethodName) jdk_43_method_3_code 1 (some .boolean)] ({ frames := 0, cells := 0, slots := 0, locals := 0 } : Room)) (fun aa U => aa = #[(.int x)] ∧ Z.Warmed39 U.vm ∧ U.heap = h0) (fun _ _ _ _ _ => True) (fun _ U o U' => ∃ v L, o = .returned v ∧ QSame (.int 1) h0 n0 v U'.heap L ∧ FrameEnd U o U' L ({ frames := 0, cells := 0, slots := 0, locals := 0 } : Room).cells ({ frames := 0, cells := 0, slots := 0, locals := 0 } : Room).slots) := by
  refine MetFree.of_bodySF (plainFor_of_name own_pn44) hisR ?_
  intro p e s m args below meth c s₁ Bd hml0 hP hK
  obtain ⟨rfl, hZ, hh⟩ := hP
  have hx := Bd.exec
  have hby := Bd.bytes
  have hml : c.maxLocals = 1 := hml0
  have hown : s.vm.findClass "java/lang/StringLatin1" = some m.cls := findClass_of_methodNamed Bd.named
  have hnm := (name_of_methodNamed Bd.named Bd.method).1
  have X0 : Stand p l e ({ frames := 0, cells := 0, slots := 0, locals := 0 } : Room) s m #[(.int x)] below meth c s₁ [] 0 0 := Stand.of_body Bd
  have e0 : s₁.heap = h0 := by rw [← hh, Bd.state]; rfl
  have N0 := Fr.nil n0
  have K0 : Keep h0 h0 [] := Keep.refl _ _
  show GoOn p e below (s₁.setTop (entryFrame m #[(.int x)] 1)) (PostN s (QSame (.int 1) h0 n0) ({ frames := 0, cells := 0, slots := 0, locals := 0 } : Room).cells ({ frames := 0, cells := 0, slots := 0, locals := 0 } : Room).slots)
  refine GoOn.step (fun tq kq => castTop (own_ef43 m x) kq) ?_
  show GoOn p e below (s₁.setTop (mkF m 0 #[.val (.int x)] [])) _
  refine GoOn.step (fun tq kq => XS.iloadN X0.here hx rfl (hb hby own_d45) rfl kq) ?_
  show GoOn p e below (s₁.setTop (mkF m 1 #[.val (.int x)] [(.int x)])) _
  refine GoOn.step (fun tq kq => XS.sipush X0.here hx rfl (hb hby own_d46) kq) ?_
  show GoOn p e below (s₁.setTop (mkF m 4 #[.val (.int x)] [(.int (255 : Int32)), (.int x)])) _
  refine GoOn.step (fun tq kq => XS.icmpNo X0.here hx rfl (hb hby own_d47) rfl (flt hx2).2.2.1 kq) ?_
  show GoOn p e below (s₁.setTop (mkF m 7 #[.val (.int x)] [])) _
  refine GoOn.step (fun tq kq => XS.iconst X0.here hx rfl (hb hby own_d48) kq) ?_
  show GoOn p e below (s₁.setTop (mkF m 8 #[.val (.int x)] [(.int (1 : Int32))])) _
  refine GoOn.step (fun tq kq => XS.goto X0.here hx rfl (pc0 := 8) (pc' := 12) rfl (hb hby own_d49) (by decide) (by decide) kq) ?_
  show GoOn p e below (s₁.setTop (mkF m 12 #[.val (.int x)] [(.int (1 : Int32))])) _
  refine GoOn.ret X0 Bd.notSynchronized (v := some (.int (nar .boolean (1 : Int32)))) (fun h => by rw [Bd.returns] at h; cases h) (fun fs hr => retN X0 hx (t := .boolean) Bd.returns (by simp) (hb hby own_d50) hr) (by decide) (by decide) ?_
  rw [e0]
  exact ⟨rfl, N0, rfl⟩
theorem nar_byte2 (x : Int32) : nar .byte (x.toInt8.toInt32) = x.toInt8.toInt32 := by simp [nar]
def QToB (Z : State) (x : Int32) (h0 : Heap) (n0 : Nat) (v : Option Value) (h : Heap) (L : List Loc) : Prop := ∃ (t : Addr) (kb : ClassId), v = some (.ref t) ∧ Fr n0 L ∧ Keep h0 h [] ∧ h0.size ≤ t ∧ Arv Z h t kb .byte (1 : Int32) [(.int (x.toInt8.toInt32))] (.int 0)
set_option maxRecDepth 65536 in
set_option maxHeartbeats 40000000 in
theorem rmToB (l : Launch) (Z : State) (a0 : Array Value) (hw : ∀ d ∈ tables_1, d.before a0 Z = true) (x : Int32) (h0 : Heap) (n0 : Nat) (Z0 : n0 ≤ h0.size) :
    MetFree l (⟨"java/lang/StringLatin1", "toBytes", "(C)[B"⟩ : MethodName) (head1 [Jvm.Cond.code (⟨"java/lang/StringLatin1", "toBytes", "(C)[B"⟩ : MethodName) jdk_43_method_46_code 1 (some (.array .byte))] ({ frames := 0, cells := 1, slots := 1, locals := 0 } : Room)) (fun aa U => aa = #[(.int x)] ∧ Z.Warmed39 U.vm ∧ U.heap = h0) (fun _ _ _ _ _ => True) (fun _ U o U' => ∃ v L, o = .returned v ∧ QToB Z x h0 n0 v U'.heap L ∧ FrameEnd U o U' L ({ frames := 0, cells := 1, slots := 1, locals := 0 } : Room).cells ({ frames := 0, cells := 1, slots := 1, locals := 0 } : Room).slots) := by
  refine MetFree.of_bodySF (plainFor_of_name own_pn44) hisR ?_
  intro p e s m args below meth c s₁ Bd hml0 hP hK
  obtain ⟨rfl, hZ, hh⟩ := hP
  have hx := Bd.exec
  have hby := Bd.bytes
  have hml : c.maxLocals = 1 := hml0
  have hown : s.vm.findClass "java/lang/StringLatin1" = some m.cls := findClass_of_methodNamed Bd.named
  have hnm := (name_of_methodNamed Bd.named Bd.method).1
  have X0 : Stand p l e ({ frames := 0, cells := 1, slots := 1, locals := 0 } : Room) s m #[(.int x)] below meth c s₁ [] 0 0 := Stand.of_body Bd
  have e0 : s₁.heap = h0 := by rw [← hh, Bd.state]; rfl
  have N0 := Fr.nil n0
  have K0 : Keep h0 h0 [] := Keep.refl _ _
  show GoOn p e below (s₁.setTop (entryFrame m #[(.int x)] 1)) (PostN s (QToB Z x h0 n0) ({ frames := 0, cells := 1, slots := 1, locals := 0 } : Room).cells ({ frames := 0, cells := 1, slots := 1, locals := 0 } : Room).slots)
  refine GoOn.step (fun tq kq => castTop (own_ef51 m x) kq) ?_
  show GoOn p e below (s₁.setTop (mkF m 0 #[.val (.int x)] [])) _
  refine GoOn.step (fun tq kq => XS.iconst X0.here hx rfl (hb hby own_d52) kq) ?_
  show GoOn p e below (s₁.setTop (mkF m 1 #[.val (.int x)] [(.int (1 : Int32))])) _
  obtain ⟨T79, h79, k79, X79, e79, Ex79, A79, st79⟩ := newP X0 hx hZ (hw _ (List.mem_of_getElem? (i := 19) rfl)) e0 (g := (mkF m 1 #[.val (.int x)] [(.int (1 : Int32))])) rfl (hb hby own_d53) rfl (by decide) (cap := 1) (by decide) (by decide) (by decide) (by decide)
  obtain ⟨t, g79⟩ : ∃ z, z = h0.size := ⟨_, rfl⟩
  rw [← g79] at A79 st79
  have gn80 : n0 ≤ t := Nat.le_trans Z0 (Nat.le_of_eq g79.symm)
  have sz81 : h0.size ≤ t := Nat.le_trans K0.1 (Nat.le_of_eq g79.symm)
  have Kx79 : Keep h0 h79 [] := (Keep.refl _ _).ext Ex79
  refine GoOn.step st79 ?_
  have Z82 : n0 ≤ h79.size := Nat.le_trans Z0 Kx79.1
  have K83 : Keep h0 h79 [] := K0.trans Kx79 (all0)
  have V84 : Arv Z h79 t k79 .byte (1 : Int32) [] (.int (0 : Int32)) := Arv.new A79 (by decide)
  show GoOn p e below (T79.setTop (mkF m 3 #[.val (.int x)] [(.ref t)])) _
  refine GoOn.step (fun tq kq => XS.dup X79.here hx rfl (hb hby own_d54) rfl rfl kq) ?_
  show GoOn p e below (T79.setTop (mkF m 4 #[.val (.int x)] [(.ref t), (.ref t)])) _
  refine GoOn.step (fun tq kq => XS.iconst X79.here hx rfl (hb hby own_d55) kq) ?_
  show GoOn p e below (T79.setTop (mkF m 5 #[.val (.int x)] [(.int (0 : Int32)), (.ref t), (.ref t)])) _
  refine GoOn.step (fun tq kq => XS.iloadN X79.here hx rfl (hb hby own_d56) rfl kq) ?_
  show GoOn p e below (T79.setTop (mkF m 6 #[.val (.int x)] [(.int x), (.int (0 : Int32)), (.ref t), (.ref t)])) _
  refine GoOn.step (fun tq kq => XS.i2b X79.here hx rfl (hb hby own_d57) rfl kq) ?_
  show GoOn p e below (T79.setTop (mkF m 7 #[.val (.int x)] [(.int ((x).toInt8.toInt32)), (.int (0 : Int32)), (.ref t), (.ref t)])) _
  have V86 : Arv Z h79 t k79 .byte (1 : Int32) [(.int (0 : Int32))] (.int (0 : Int32)) := V84.pad (pad_rep [] (.int (0 : Int32)) 1)
  obtain ⟨cq87, Aq87, qq87, Sq87, Mq87, Hq87, Uq87⟩ := id V86
  obtain ⟨T85, h85, X85, e85, W85, st85⟩ := stB X79 hx hZ e79 Aq87 (j := (0 : Int32)) (inb_of Sq87 ⟨(by decide : ¬ ((0 : Int32) < (0 : Int32))), (by decide : (0 : Int32) < (1 : Int32))⟩) (g := (mkF m 7 #[.val (.int x)] [(.int ((x).toInt8.toInt32)), (.int (0 : Int32)), (.ref t), (.ref t)])) rfl rfl (hb hby own_d58)
  have N88 := Fr.snoc X85 N0 gn80
  have V89 : Arv Z h85 t k79 .byte (1 : Int32) [(.int (nar .byte ((x).toInt8.toInt32)))] (.int (0 : Int32)) := Arv.set Aq87 qq87 Sq87 Mq87 Hq87 Uq87 (fits_nar_byte _) W85 0 rfl (Nat.le_of_ble_eq_true rfl)
  have Kx85 : Keep h79 h85 [t] := Keep.of_wr W85
  refine GoOn.step st85 ?_
  have Z90 : n0 ≤ h85.size := Nat.le_trans Z82 Kx85.1
  have K91 : Keep h0 h85 [] := K83.trans Kx85 ((allS (Or.inr sz81) all0))
  show GoOn p e below (T85.setTop (mkF m 8 #[.val (.int x)] [(.ref t)])) _
  rw [nar_byte2] at V89
  refine GoOn.ret X85 Bd.notSynchronized (v := some (.ref t)) (fun h => by rw [Bd.returns] at h; cases h) (fun fs hr => retOut X85 hx Bd.returns rfl (Or.inr (Or.inr (Or.inr (Or.inr ⟨rfl, rfl, rfl⟩)))) (hb hby own_d59) hr) (by decide) (by decide) ?_
  rw [e85]
  exact ⟨t, _, rfl, N88, K91, sz81, V89⟩
def QIBB (Z : State) (a t : Addr) (h0 : Heap) (n0 : Nat) (v : Option Value) (h : Heap) (L : List Loc) : Prop := v = none ∧ Fr n0 L ∧ Keep h0 h [a] ∧ Exa Z h a "java/lang/String" ∧ Fld Z h a "java/lang/String" "value" "[B" (.ref t) ∧ Fld Z h a "java/lang/String" "coder" "B" (.int 0)
set_option maxRecDepth 65536 in
set_option maxHeartbeats 40000000 in
theorem rmIBB (l : Launch) (Z : State) (a0 : Array Value) (hw : ∀ d ∈ tables_1, d.before a0 Z = true) (a t : Addr) (h0 : Heap) (n0 : Nat) (Z0 : n0 ≤ h0.size) (E0 : Exa Z h0 a "java/lang/String") (F0v : Fld Z h0 a "java/lang/String" "value" "[B" .null) (F0c : Fld Z h0 a "java/lang/String" "coder" "B" (.int (0 : Int32))) (ga : n0 ≤ a) :
    MetFree l (⟨"java/lang/String", "<init>", "([BB)V"⟩ : MethodName) (head1 [Jvm.Cond.code (⟨"java/lang/String", "<init>", "([BB)V"⟩ : MethodName) jdk_42_method_151_code 3 none] ({ frames := 1, cells := 0, slots := 0, locals := 12 } : Room)) (fun aa U => aa = #[(.ref a), (.ref t), (.int (0 : Int32))] ∧ Z.Warmed39 U.vm ∧ U.heap = h0) (fun _ _ _ _ _ => True) (fun _ U o U' => ∃ v L, o = .returned v ∧ QIBB Z a t h0 n0 v U'.heap L ∧ FrameEnd U o U' L ({ frames := 1, cells := 0, slots := 0, locals := 12 } : Room).cells ({ frames := 1, cells := 0, slots := 0, locals := 12 } : Room).slots) := by
  refine MetFree.of_bodySF (plainFor_of_name own_pn61) hisR ?_
  intro p e s m args below meth c s₁ Bd hml0 hP hK
  obtain ⟨rfl, hZ, hh⟩ := hP
  have hx := Bd.exec
  have hby := Bd.bytes
  have hml : c.maxLocals = 3 := hml0
  have hown : s.vm.findClass "java/lang/String" = some m.cls := findClass_of_methodNamed Bd.named
  have hnm := (name_of_methodNamed Bd.named Bd.method).1
  have X0 : Stand p l e ({ frames := 1, cells := 0, slots := 0, locals := 12 } : Room) s m #[(.ref a), (.ref t), (.int (0 : Int32))] below meth c s₁ [] 0 0 := Stand.of_body Bd
  have e0 : s₁.heap = h0 := by rw [← hh, Bd.state]; rfl
  have N0 := Fr.nil n0
  have K0 : Keep h0 h0 [] := Keep.refl _ _
  show GoOn p e below (s₁.setTop (entryFrame m #[(.ref a), (.ref t), (.int (0 : Int32))] 3)) (PostN s (QIBB Z a t h0 n0) ({ frames := 1, cells := 0, slots := 0, locals := 12 } : Room).cells ({ frames := 1, cells := 0, slots := 0, locals := 12 } : Room).slots)
  refine GoOn.step (fun tq kq => castTop (own_ef60 m a t (0 : Int32)) kq) ?_
  show GoOn p e below (s₁.setTop (mkF m 0 #[.val (.ref a), .val (.ref t), .val (.int (0 : Int32))] [])) _
  have K0a : Keep h0 h0 [a] := Keep.refl _ _
  refine GoOn.step (fun tq kq => XS.aloadN X0.here hx rfl (hb hby own_d62) rfl rfl kq) ?_
  show GoOn p e below (s₁.setTop (mkF m 1 #[.val (.ref a), .val (.ref t), .val (.int (0 : Int32))] [(.ref a)])) _
  obtain ⟨T92, X92, e92, st92⟩ := initO X0 hx hZ hown (hw _ (List.mem_of_getElem? (i := 11) rfl)) (hw _ (List.mem_of_getElem? (i := 12) rfl)) (hw _ (List.mem_of_getElem? (i := 13) rfl)) e0 (g := (mkF m 1 #[.val (.ref a), .val (.ref t), .val (.int (0 : Int32))] [(.ref a)])) rfl (by rw [hml]; rfl) rfl (hb hby own_d63) (by decide) (W := 0) (by show 2 * 0 + _ ≤ _; exact Nat.le_of_eq rfl) (by decide)
  refine GoOn.step st92 ?_
  show GoOn p e below (T92.setTop (mkF m 4 #[.val (.ref a), .val (.ref t), .val (.int (0 : Int32))] [])) _
  refine GoOn.step (fun tq kq => XS.aloadN X92.here hx rfl (hb hby own_d64) rfl rfl kq) ?_
  show GoOn p e below (T92.setTop (mkF m 5 #[.val (.ref a), .val (.ref t), .val (.int (0 : Int32))] [(.ref a)])) _
  refine GoOn.step (fun tq kq => XS.aloadN X92.here hx rfl (hb hby own_d65) rfl rfl kq) ?_
  show GoOn p e below (T92.setTop (mkF m 6 #[.val (.ref a), .val (.ref t), .val (.int (0 : Int32))] [(.ref t), (.ref a)])) _
  obtain ⟨T93, h93, X93, e93, W93, st93⟩ := putF X92 hx hZ hown (host := "") (Or.inl (hw _ (List.mem_of_getElem? (i := 28) rfl))) Via.refl e92 F0v E0 (Or.inr ⟨(hw _ (List.mem_of_getElem? (i := 29) rfl)), rfl, hnm⟩) (hw _ (List.mem_of_getElem? (i := 2) rfl)) (ty := (.array .byte)) (by decide) rfl rfl (g := (mkF m 6 #[.val (.ref a), .val (.ref t), .val (.int (0 : Int32))] [(.ref t), (.ref a)])) rfl rfl (hb hby own_d66)
  have N94 := Fr.snoc X93 N0 ga
  have Kx93 : Keep h0 h93 [a] := Keep.of_wr W93
  have F95 : Fld Z h93 a "java/lang/String" "value" "[B" (.ref t) := F0v.same W93
  have F96 : Fld Z h93 a "java/lang/String" "coder" "B" (.int (0 : Int32)) := F0c.other W93 (Or.inr (slot_ne (a0 := a0) (Or.inr (hw _ (List.mem_of_getElem? (i := 27) rfl))) (Or.inr (hw _ (List.mem_of_getElem? (i := 29) rfl))) (by decide) (t := .byte) (t' := (.array .byte)) (by decide) (by decide)))
  refine GoOn.step st93 ?_
  have E97 : Exa Z h93 a "java/lang/String" := E0.keep Kx93
  have Z100 : n0 ≤ h93.size := Nat.le_trans Z0 Kx93.1
  have K101 : Keep h0 h93 [a] := K0a.trans Kx93 ((allS (Or.inl (by simp)) all0))
  show GoOn p e below (T93.setTop (mkF m 9 #[.val (.ref a), .val (.ref t), .val (.int (0 : Int32))] [])) _
  refine GoOn.step (fun tq kq => XS.aloadN X93.here hx rfl (hb hby own_d67) rfl rfl kq) ?_
  show GoOn p e below (T93.setTop (mkF m 10 #[.val (.ref a), .val (.ref t), .val (.int (0 : Int32))] [(.ref a)])) _
  refine GoOn.step (fun tq kq => XS.iloadN X93.here hx rfl (hb hby own_d68) rfl kq) ?_
  show GoOn p e below (T93.setTop (mkF m 11 #[.val (.ref a), .val (.ref t), .val (.int (0 : Int32))] [(.int (0 : Int32)), (.ref a)])) _
  obtain ⟨T102, h102, X102, e102, W102, st102⟩ := putFN X93 hx hZ hown (hw _ (List.mem_of_getElem? (i := 26) rfl)) Via.refl e93 F96 E97 (Or.inr ⟨(hw _ (List.mem_of_getElem? (i := 27) rfl)), rfl, hnm⟩) (hw _ (List.mem_of_getElem? (i := 2) rfl)) (ty := .byte) (v' := (.int (nar .byte (0 : Int32)))) (by decide) rfl (fits_nar_byte _) (g := (mkF m 11 #[.val (.ref a), .val (.ref t), .val (.int (0 : Int32))] [(.int (0 : Int32)), (.ref a)])) rfl rfl (hb hby own_d69)
  have N103 := Fr.snoc X102 N94 ga
  have Kx102 : Keep h93 h102 [a] := Keep.of_wr W102
  have F104 : Fld Z h102 a "java/lang/String" "coder" "B" (.int (nar .byte (0 : Int32))) := F96.same W102
  have F105 : Fld Z h102 a "java/lang/String" "value" "[B" (.ref t) := F95.other W102 (Or.inr (slot_ne (a0 := a0) (Or.inr (hw _ (List.mem_of_getElem? (i := 29) rfl))) (Or.inr (hw _ (List.mem_of_getElem? (i := 27) rfl))) (by decide) (t := (.array .byte)) (t' := .byte) (by decide) (by decide)))
  refine GoOn.step st102 ?_
  have E106 : Exa Z h102 a "java/lang/String" := E97.keep Kx102
  have Z107 : n0 ≤ h102.size := Nat.le_trans Z100 Kx102.1
  have K108 : Keep h0 h102 [a] := K101.trans Kx102 ((allS (Or.inl (by simp)) all0))
  show GoOn p e below (T102.setTop (mkF m 14 #[.val (.ref a), .val (.ref t), .val (.int (0 : Int32))] [])) _
  refine GoOn.ret X102 Bd.notSynchronized (v := none) (fun _ => rfl) (fun fs hr => X102.returnOut hx Bd.returns (hb hby own_d70) hr) (by decide) (by decide) ?_
  rw [e102]
  exact ⟨rfl, N103, K108, E106, F105, F104⟩
def QValC (Z : State) (x : Int32) (h0 : Heap) (n0 : Nat) (v : Option Value) (h : Heap) (L : List Loc) : Prop := ∃ a : Addr, v = some (.ref a) ∧ Fr n0 L ∧ Keep h0 h [] ∧ h0.size ≤ a ∧ StrIs Z h a [x]
set_option maxRecDepth 65536 in
set_option maxHeartbeats 40000000 in
theorem rmValueOfC (l : Launch) (Z : State) (a0 : Array Value) (hw : ∀ d ∈ tables_1, d.before a0 Z = true) (x G1 : Int32) (h0 : Heap) (n0 : Nat) (Z0 : n0 ≤ h0.size) (hx1 : ¬ x < 0) (hx2 : ¬ (255 : Int32) < x) (SC : Sta Z Z.heap "java/lang/String" "COMPACT_STRINGS" "Z" (.int G1)) (PC : ¬ G1 = (0 : Int32)) (O0 : Old Z n0 h0) :
    MetFree l (⟨"java/lang/String", "valueOf", "(C)Ljava/lang/String;"⟩ : MethodName) (head1 [Jvm.Cond.code (⟨"java/lang/String", "valueOf", "(C)Ljava/lang/String;"⟩ : MethodName) jdk_42_method_139_code 1 (some (.object "java/lang/String"))] ({ frames := 2, cells := 2, slots := 5, locals := 27 } : Room)) (fun aa U => aa = #[(.int x)] ∧ Z.Warmed39 U.vm ∧ U.heap = h0) (fun _ _ _ _ _ => True) (fun _ U o U' => ∃ v L, o = .returned v ∧ QValC Z x h0 n0 v U'.heap L ∧ FrameEnd U o U' L ({ frames := 2, cells := 2, slots := 5, locals := 27 } : Room).cells ({ frames := 2, cells := 2, slots := 5, locals := 27 } : Room).slots) := by
  refine MetFree.of_bodySF (plainFor_of_name own_pn61) hisR ?_
  intro p e s m args below meth c s₁ Bd hml0 hP hK
  obtain ⟨rfl, hZ, hh⟩ := hP
  have hx := Bd.exec
  have hby := Bd.bytes
  have hml : c.maxLocals = 1 := hml0
  have hown : s.vm.findClass "java/lang/String" = some m.cls := findClass_of_methodNamed Bd.named
  have hnm := (name_of_methodNamed Bd.named Bd.method).1
  have X0 : Stand p l e ({ frames := 2, cells := 2, slots := 5, locals := 27 } : Room) s m #[(.int x)] below meth c s₁ [] 0 0 := Stand.of_body Bd
  have e0 : s₁.heap = h0 := by rw [← hh, Bd.state]; rfl
  have N0 := Fr.nil n0
  have K0 : Keep h0 h0 [] := Keep.refl _ _
  show GoOn p e below (s₁.setTop (entryFrame m #[(.int x)] 1)) (PostN s (QValC Z x h0 n0) ({ frames := 2, cells := 2, slots := 5, locals := 27 } : Room).cells ({ frames := 2, cells := 2, slots := 5, locals := 27 } : Room).slots)
  refine GoOn.step (fun tq kq => castTop (own_ef71 m x) kq) ?_
  show GoOn p e below (s₁.setTop (mkF m 0 #[.val (.int x)] [])) _
  obtain ⟨T111, X111, e111, st111⟩ := getS2 X0 hx hZ hown (host := "") (Or.inl (hw _ (List.mem_of_getElem? (i := 14) rfl))) Via.refl e0 (SC.ext O0.2) (g := (mkF m 0 #[.val (.int x)] [])) rfl (hb hby own_d72)
  refine GoOn.step st111 ?_
  show GoOn p e below (T111.setTop (mkF m 3 #[.val (.int x)] [(.int G1)])) _
  refine GoOn.step (fun tq kq => XS.ifNo X111.here hx rfl (hb hby own_d73) rfl ((if0 _ _).trans (feq PC).1) kq) ?_
  show GoOn p e below (T111.setTop (mkF m 6 #[.val (.int x)] [])) _
  refine GoOn.step (fun tq kq => XS.iloadN X111.here hx rfl (hb hby own_d74) rfl kq) ?_
  show GoOn p e below (T111.setTop (mkF m 7 #[.val (.int x)] [(.int x)])) _
  obtain ⟨_, _, ⟨T112, L112, k112, n112⟩, -, X112, ⟨Lc112, hQ112, l112, y112, z112⟩, st112⟩ := Jvm.LawKit.callS X111 hx (y := (⟨"java/lang/StringLatin1", "canEncode", "(C)Z"⟩ : MethodName)) hown (mvT hZ (hw _ (List.mem_of_getElem? (i := 80) rfl))) (mvT hZ (hw _ (List.mem_of_getElem? (i := 81) rfl))) (mvT hZ (hw _ (List.mem_of_getElem? (i := 82) rfl))) (mvT hZ (hw _ (List.mem_of_getElem? (i := 83) rfl))) (by decide) (backOf (W := 0) (rmCanEnc l Z a0 hw x h0 n0 Z0 hx1 hx2) hZ (hw _ (List.mem_of_getElem? (i := 83) rfl)) (hw _ (List.mem_of_getElem? (i := 82) rfl)) (by decide) (by decide)) (g := (mkF m 7 #[.val (.int x)] [(.int x)])) rfl (by rw [hml]; rfl) (argsL := [(.int x)]) (rest := []) (lenOf own_pd76 rfl) rfl (by show 2 * 0 + _ ≤ _; exact Nat.le_of_eq rfl) (hb hby own_d75) (fun _ _ => ⟨rfl, e111, (by decide : 0 + 0 ≤ _), (by decide : 0 + 0 ≤ _)⟩)
  dsimp only [Pt.U, Pt.locs, Pt.cells, Pt.slots] at X112 l112 y112 z112 st112 hQ112
  subst l112 y112 z112
  obtain ⟨rfl, N112, e112⟩ := hQ112
  refine GoOn.step st112 ?_
  have N113 := Fr.app N0 N112
  show GoOn p e below (T112.setTop (mkF m 10 #[.val (.int x)] [(.int (1 : Int32))])) _
  refine GoOn.step (fun tq kq => XS.ifNo X112.here hx rfl (hb hby own_d77) rfl ((if0 _ _).trans (feq (by decide)).1) kq) ?_
  show GoOn p e below (T112.setTop (mkF m 13 #[.val (.int x)] [])) _
  obtain ⟨T114, h114, X114, e114, Ex114, A114, Df114, -, st114⟩ := newO X112 hx hZ hown (hw _ (List.mem_of_getElem? (i := 84) rfl)) (hw _ (List.mem_of_getElem? (i := 2) rfl)) (hw _ (List.mem_of_getElem? (i := 3) rfl)) e112 (g := (mkF m 13 #[.val (.int x)] [])) rfl (hb hby own_d78) (by decide) (by decide)
  obtain ⟨sb, g114⟩ : ∃ z, z = h0.size := ⟨_, rfl⟩
  rw [← g114] at A114 Df114 st114
  have gn115 : n0 ≤ sb := Nat.le_trans Z0 (Nat.le_of_eq g114.symm)
  have sz116 : h0.size ≤ sb := Nat.le_trans K0.1 (Nat.le_of_eq g114.symm)
  have Kx114 : Keep h0 h114 [] := (Keep.refl _ _).ext Ex114
  refine GoOn.step st114 ?_
  have O117 : Old Z n0 h114 := O0.keep Kx114 all0
  have Z118 : n0 ≤ h114.size := Nat.le_trans Z0 Kx114.1
  have K119 : Keep h0 h114 [] := K0.trans Kx114 (all0)
  have F120 : Fld Z h114 sb "java/lang/String" "coder" "B" (.int (0 : Int32)) := Df114 (Or.inr (hw _ (List.mem_of_getElem? (i := 27) rfl))) (ty := .byte) (by decide)
  have F121 : Fld Z h114 sb "java/lang/String" "value" "[B" .null := Df114 (Or.inr (hw _ (List.mem_of_getElem? (i := 29) rfl))) (ty := (.array .byte)) (by decide)
  show GoOn p e below (T114.setTop (mkF m 16 #[.val (.int x)] [(.ref sb)])) _
  refine GoOn.step (fun tq kq => XS.dup X114.here hx rfl (hb hby own_d79) rfl rfl kq) ?_
  show GoOn p e below (T114.setTop (mkF m 17 #[.val (.int x)] [(.ref sb), (.ref sb)])) _
  refine GoOn.step (fun tq kq => XS.iloadN X114.here hx rfl (hb hby own_d80) rfl kq) ?_
  show GoOn p e below (T114.setTop (mkF m 18 #[.val (.int x)] [(.int x), (.ref sb), (.ref sb)])) _
  obtain ⟨_, _, ⟨T122, L122, k122, n122⟩, -, X122, ⟨Lc122, hQ122, l122, y122, z122⟩, st122⟩ := Jvm.LawKit.callS X114 hx (y := (⟨"java/lang/StringLatin1", "toBytes", "(C)[B"⟩ : MethodName)) hown (mvT hZ (hw _ (List.mem_of_getElem? (i := 85) rfl))) (mvT hZ (hw _ (List.mem_of_getElem? (i := 86) rfl))) (mvT hZ (hw _ (List.mem_of_getElem? (i := 82) rfl))) (mvT hZ (hw _ (List.mem_of_getElem? (i := 87) rfl))) (by decide) (backOf (W := 2) (rmToB l Z a0 hw x h114 n0 Z118) hZ (hw _ (List.mem_of_getElem? (i := 87) rfl)) (hw _ (List.mem_of_getElem? (i := 82) rfl)) (by decide) (by decide)) (g := (mkF m 18 #[.val (.int x)] [(.int x), (.ref sb), (.ref sb)])) rfl (by rw [hml]; rfl) (argsL := [(.int x)]) (rest := [(.ref sb), (.ref sb)]) (lenOf own_pd82 rfl) rfl (by show 2 * 0 + _ ≤ _; exact Nat.le_of_eq rfl) (hb hby own_d81) (fun _ _ => ⟨rfl, e114, (by decide : 1 + 1 ≤ _), (by decide : 4 + 1 ≤ _)⟩)
  dsimp only [Pt.U, Pt.locs, Pt.cells, Pt.slots] at X122 l122 y122 z122 st122 hQ122
  subst l122 y122 z122
  obtain ⟨t122, kb122, rfl, N122, K122, ge122, Va122⟩ := hQ122
  refine GoOn.step st122 ?_
  have N123 := Fr.app N113 N122
  have gn124 : n0 ≤ t122 := Nat.le_trans Z118 ge122
  have sz125 : h0.size ≤ t122 := Nat.le_trans K119.1 ge122
  have ne126 : sb ≠ t122 := Nat.ne_of_lt (Nat.lt_of_lt_of_le A114.lt ge122)
  have O127 : Old Z n0 T122.heap := O117.keep K122 all0
  have Z128 : n0 ≤ T122.heap.size := Nat.le_trans Z118 K122.1
  have K129 : Keep h0 T122.heap [] := K119.trans K122 (all0)
  have E130 : Exa Z T122.heap sb "java/lang/String" := A114.keep K122
  have F131 : Fld Z T122.heap sb "java/lang/String" "coder" "B" (.int (0 : Int32)) := F120.keep K122 nin0
  have F132 : Fld Z T122.heap sb "java/lang/String" "value" "[B" .null := F121.keep K122 nin0
  show GoOn p e below (T122.setTop (mkF m 21 #[.val (.int x)] [(.ref t122), (.ref sb), (.ref sb)])) _
  refine GoOn.step (fun tq kq => XS.iconst X122.here hx rfl (hb hby own_d83) kq) ?_
  show GoOn p e below (T122.setTop (mkF m 22 #[.val (.int x)] [(.int (0 : Int32)), (.ref t122), (.ref sb), (.ref sb)])) _
  obtain ⟨_, _, ⟨T133, L133, k133, n133⟩, -, X133, ⟨Lc133, hQ133, l133, y133, z133⟩, st133⟩ := X122.specialBack hx (y := (⟨"java/lang/String", "<init>", "([BB)V"⟩ : MethodName)) rfl hown (mvT hZ (hw _ (List.mem_of_getElem? (i := 88) rfl))) (mvT hZ (hw _ (List.mem_of_getElem? (i := 89) rfl))) (mvT hZ (hw _ (List.mem_of_getElem? (i := 90) rfl))) (by decide) (backOf (W := 1) (rmIBB l Z a0 hw sb t122 T122.heap n0 Z128 E130 F132 F131 gn115) hZ (hw _ (List.mem_of_getElem? (i := 90) rfl)) (hw _ (List.mem_of_getElem? (i := 3) rfl)) (by decide) (by decide)) (g := (mkF m 22 #[.val (.int x)] [(.int (0 : Int32)), (.ref t122), (.ref sb), (.ref sb)])) rfl (by rw [hml]; rfl) (Steps.refl _) (a := sb) (argsL := [(.ref t122), (.int (0 : Int32))]) (rest := [(.ref sb)]) (lenOf own_pd85 rfl) rfl (by show 2 * 0 + _ ≤ _; exact Nat.le_of_eq rfl) (hb hby own_d84) (fun _ _ => ⟨rfl, rfl, (by decide : 2 + 0 ≤ _), (by decide : 5 + 0 ≤ _)⟩)
  dsimp only [Pt.U, Pt.locs, Pt.cells, Pt.slots] at X133 l133 y133 z133 st133 hQ133
  subst l133 y133 z133
  obtain ⟨rfl, N133, K133, E133, Fv133, Fc133⟩ := hQ133
  refine GoOn.trans st133 ?_
  have N134 := Fr.app N123 N133
  have O135 : Old Z n0 T133.heap := O127.keep K133 (allS gn115 all0)
  have Z136 : n0 ≤ T133.heap.size := Nat.le_trans Z128 K133.1
  have K137 : Keep h0 T133.heap [] := K129.trans K133 ((allS (Or.inr sz116) all0))
  have E138 : Exa Z T133.heap sb "java/lang/String" := E130.keep K133
  have V141 : Arv Z T133.heap t122 kb122 .byte (1 : Int32) [(.int (x.toInt8.toInt32))] (.int 0) := Va122.keep K133 (ninS (Ne.symm ne126) nin0)
  show GoOn p e below (T133.setTop (mkF m 25 #[.val (.int x)] [(.ref sb)])) _
  refine GoOn.ret X133 Bd.notSynchronized (v := some (.ref sb)) (fun h => by rw [Bd.returns] at h; cases h) (fun fs hr => retOut X133 hx Bd.returns rfl (Or.inr (Or.inr (Or.inr (Or.inr ⟨rfl, rfl, rfl⟩)))) (hb hby own_d86) hr) (by decide) (by decide) ?_
  exact ⟨sb, rfl, N134, K137, sz116, E133, Fc133, (fun c hc => by simp only [List.mem_cons, List.not_mem_nil, or_false] at hc; subst hc; exact ⟨hx1, hx2⟩), (Nat.le_of_ble_eq_true rfl), t122, _, Fv133, V141⟩
set_option maxRecDepth 65536 in
set_option maxHeartbeats 40000000 in
theorem rmEqId (l : Launch) (Z : State) (a0 : Array Value) (hw : ∀ d ∈ tables_1, d.before a0 Z = true) (a : Addr) (h0 : Heap) (n0 : Nat) (Z0 : n0 ≤ h0.size) :
    MetFree l (⟨"java/lang/String", "equals", "(Ljava/lang/Object;)Z"⟩ : MethodName) (head1 [Jvm.Cond.code (⟨"java/lang/String", "equals", "(Ljava/lang/Object;)Z"⟩ : MethodName) jdk_42_method_66_code 3 (some .boolean)] ({ frames := 0, cells := 0, slots := 0, locals := 0 } : Room)) (fun aa U => aa = #[(.ref a), (.ref a)] ∧ Z.Warmed39 U.vm ∧ U.heap = h0) (fun _ _ _ _ _ => True) (fun _ U o U' => ∃ v L, o = .returned v ∧ QSame (.int 1) h0 n0 v U'.heap L ∧ FrameEnd U o U' L ({ frames := 0, cells := 0, slots := 0, locals := 0 } : Room).cells ({ frames := 0, cells := 0, slots := 0, locals := 0 } : Room).slots) := by
  refine MetFree.of_bodySF (plainFor_of_name own_pn61) hisR ?_
  intro p e s m args below meth c s₁ Bd hml0 hP hK
  obtain ⟨rfl, hZ, hh⟩ := hP
  have hx := Bd.exec
  have hby := Bd.bytes
  have hml : c.maxLocals = 3 := hml0
  have hown : s.vm.findClass "java/lang/String" = some m.cls := findClass_of_methodNamed Bd.named
  have hnm := (name_of_methodNamed Bd.named Bd.method).1
  have X0 : Stand p l e ({ frames := 0, cells := 0, slots := 0, locals := 0 } : Room) s m #[(.ref a), (.ref a)] below meth c s₁ [] 0 0 := Stand.of_body Bd
  have e0 : s₁.heap = h0 := by rw [← hh, Bd.state]; rfl
  have N0 := Fr.nil n0
  have K0 : Keep h0 h0 [] := Keep.refl _ _
  show GoOn p e below (s₁.setTop (entryFrame m #[(.ref a), (.ref a)] 3)) (PostN s (QSame (.int 1) h0 n0) ({ frames := 0, cells := 0, slots := 0, locals := 0 } : Room).cells ({ frames := 0, cells := 0, slots := 0, locals := 0 } : Room).slots)
  refine GoOn.step (fun tq kq => castTop (own_ef87 m a a) kq) ?_
  show GoOn p e below (s₁.setTop (mkF m 0 #[.val (.ref a), .val (.ref a), .unset] [])) _
  refine GoOn.step (fun tq kq => XS.aloadN X0.here hx rfl (hb hby own_d88) rfl rfl kq) ?_
  show GoOn p e below (s₁.setTop (mkF m 1 #[.val (.ref a), .val (.ref a), .unset] [(.ref a)])) _
  refine GoOn.step (fun tq kq => XS.aloadN X0.here hx rfl (hb hby own_d89) rfl rfl kq) ?_
  show GoOn p e below (s₁.setTop (mkF m 2 #[.val (.ref a), .val (.ref a), .unset] [(.ref a), (.ref a)])) _
  refine GoOn.step (fun tq kq => Jvm.RoadKit.acmp (g := (mkF m 2 #[.val (.ref a), .val (.ref a), .unset] [(.ref a), (.ref a)])) X0 hx rfl rfl rfl (pc0 := 2) (pc' := 5) (same := true) rfl (hb hby own_d90) rfl (decide_eq_true rfl) (by decide) (by decide) kq) ?_
  show GoOn p e below (s₁.setTop (mkF m 5 #[.val (.ref a), .val (.ref a), .unset] [])) _
  refine GoOn.step (fun tq kq => XS.iconst X0.here hx rfl (hb hby own_d91) kq) ?_
  show GoOn p e below (s₁.setTop (mkF m 6 #[.val (.ref a), .val (.ref a), .unset] [(.int (1 : Int32))])) _
  refine GoOn.ret X0 Bd.notSynchronized (v := some (.int (nar .boolean (1 : Int32)))) (fun h => by rw [Bd.returns] at h; cases h) (fun fs hr => retN X0 hx (t := .boolean) Bd.returns (by simp) (hb hby own_d92) hr) (by decide) (by decide) ?_
  rw [e0]
  exact ⟨rfl, N0, rfl⟩
def QLaw (h0 : Heap) (n0 : Nat) (v : Option Value) (h : Heap) (L : List Loc) : Prop := v = some (.int 1) ∧ Fr n0 L
set_option maxRecDepth 65536 in
set_option maxHeartbeats 40000000 in
theorem rm0 (l : Launch) (Z : State) (a0 : Array Value) (hw : ∀ d ∈ tables_1, d.before a0 Z = true) (ws : List Jvm.Cond) (p0 p1 p2 p3 G1 : Int32) (le : Addr) (h0 : Heap) (n0 : Nat) (Z0 : n0 ≤ h0.size) (SC : Sta Z Z.heap "java/lang/String" "COMPACT_STRINGS" "Z" (.int G1)) (PC : ¬ G1 = (0 : Int32)) (SE : Sta Z Z.heap "com/example/crosslode/crosslode/Problem$Level" "WARNING" "Lcom/example/crosslode/crosslode/Problem$Level;" (.ref le)) (O0 : Old Z n0 h0) :
    MetFree l x (head1 (Jvm.Cond.code x code maxLocals ret :: ws) room_1) (fun aa U => aa = #[(.int p0), (.int p1), (.int p2), (.int p3)] ∧ Z.Warmed39 U.vm ∧ U.heap = h0) (fun _ _ _ _ _ => True) (fun _ U o U' => ∃ v L, o = .returned v ∧ QLaw h0 n0 v U'.heap L ∧ FrameEnd U o U' L 32 128) := by
  refine MetFree.of_bodySF (plainFor_of_name own_pn94) hisR ?_
  intro p e s m args below meth c s₁ Bd hml0 hP hK
  obtain ⟨rfl, hZ, hh⟩ := hP
  have hx := Bd.exec
  have hby := Bd.bytes
  have hml : c.maxLocals = 14 := hml0
  have hown : s.vm.findClass "com/example/crosslode/crosslode/ProblemWarningPinLaw" = some m.cls := findClass_of_methodNamed Bd.named
  have hnm := (name_of_methodNamed Bd.named Bd.method).1
  have X0 : Stand p l e room_1 s m #[(.int p0), (.int p1), (.int p2), (.int p3)] below meth c s₁ [] 0 0 := Stand.of_body Bd
  have e0 : s₁.heap = h0 := by rw [← hh, Bd.state]; rfl
  have N0 := Fr.nil n0
  have K0 : Keep h0 h0 [] := Keep.refl _ _
  show GoOn p e below (s₁.setTop (entryFrame m #[(.int p0), (.int p1), (.int p2), (.int p3)] maxLocals)) (PostN s (QLaw h0 n0) 32 128)
  refine GoOn.step (fun tq kq => castTop (own_ef93 m p0 p1 p2 p3) kq) ?_
  show GoOn p e below (s₁.setTop (mkF m 0 #[.val (.int p0), .val (.int p1), .val (.int p2), .val (.int p3), .unset, .unset, .unset, .unset, .unset, .unset, .unset, .unset, .unset, .unset] [])) _
  have hws : ∀ d ∈ StrChars.Road.words, d.before a0 Z = true := fun d hd => hw d ((by decide +kernel : ∀ d ∈ StrChars.Road.words, d ∈ tables_1) d hd)
  refine GoOn.step (fun tq kq => XS.iconst X0.here hx rfl (hb hby at_0) kq) ?_
  show GoOn p e below (s₁.setTop (mkF m 1 #[.val (.int p0), .val (.int p1), .val (.int p2), .val (.int p3), .unset, .unset, .unset, .unset, .unset, .unset, .unset, .unset, .unset, .unset] [(.int (2 : Int32))])) _
  obtain ⟨T142, h142, k142, X142, e142, Ex142, A142, st142⟩ := newP X0 hx hZ (hw _ (List.mem_of_getElem? (i := 0) rfl)) e0 (g := (mkF m 1 #[.val (.int p0), .val (.int p1), .val (.int p2), .val (.int p3), .unset, .unset, .unset, .unset, .unset, .unset, .unset, .unset, .unset, .unset] [(.int (2 : Int32))])) rfl (hb hby at_1) rfl (by decide) (cap := 2) (by decide) (by decide) (by decide) (by decide)
  obtain ⟨fc, g142⟩ : ∃ z, z = h0.size := ⟨_, rfl⟩
  rw [← g142] at A142 st142
  have gn143 : n0 ≤ fc := Nat.le_trans Z0 (Nat.le_of_eq g142.symm)
  have sz144 : h0.size ≤ fc := Nat.le_trans K0.1 (Nat.le_of_eq g142.symm)
  have Kx142 : Keep h0 h142 [] := (Keep.refl _ _).ext Ex142
  refine GoOn.step st142 ?_
  have O145 : Old Z n0 h142 := O0.keep Kx142 all0
  have Z146 : n0 ≤ h142.size := Nat.le_trans Z0 Kx142.1
  have K147 : Keep h0 h142 [] := K0.trans Kx142 (all0)
  have V148 : Arv Z h142 fc k142 .char (2 : Int32) [] (.int (0 : Int32)) := Arv.new A142 (by decide)
  show GoOn p e below (T142.setTop (mkF m 3 #[.val (.int p0), .val (.int p1), .val (.int p2), .val (.int p3), .unset, .unset, .unset, .unset, .unset, .unset, .unset, .unset, .unset, .unset] [(.ref fc)])) _
  refine GoOn.step (fun tq kq => XS.astore X142.here hx rfl (hb hby at_3) rfl rfl (l' := #[.val (.int p0), .val (.int p1), .val (.int p2), .val (.int p3), .val (.ref fc), .unset, .unset, .unset, .unset, .unset, .unset, .unset, .unset, .unset]) rfl kq) ?_
  show GoOn p e below (T142.setTop (mkF m 5 #[.val (.int p0), .val (.int p1), .val (.int p2), .val (.int p3), .val (.ref fc), .unset, .unset, .unset, .unset, .unset, .unset, .unset, .unset, .unset] [])) _
  refine GoOn.step (fun tq kq => XS.aload X142.here hx rfl (hb hby at_5) rfl rfl kq) ?_
  show GoOn p e below (T142.setTop (mkF m 7 #[.val (.int p0), .val (.int p1), .val (.int p2), .val (.int p3), .val (.ref fc), .unset, .unset, .unset, .unset, .unset, .unset, .unset, .unset, .unset] [(.ref fc)])) _
  refine GoOn.step (fun tq kq => XS.iconst X142.here hx rfl (hb hby at_7) kq) ?_
  show GoOn p e below (T142.setTop (mkF m 8 #[.val (.int p0), .val (.int p1), .val (.int p2), .val (.int p3), .val (.ref fc), .unset, .unset, .unset, .unset, .unset, .unset, .unset, .unset, .unset] [(.int (0 : Int32)), (.ref fc)])) _
  refine GoOn.step (fun tq kq => XS.iloadN X142.here hx rfl (hb hby at_8) rfl kq) ?_
  show GoOn p e below (T142.setTop (mkF m 9 #[.val (.int p0), .val (.int p1), .val (.int p2), .val (.int p3), .val (.ref fc), .unset, .unset, .unset, .unset, .unset, .unset, .unset, .unset, .unset] [(.int p0), (.int (0 : Int32)), (.ref fc)])) _
  refine GoOn.step (fun tq kq => XS.sipush X142.here hx rfl (hb hby at_9) kq) ?_
  show GoOn p e below (T142.setTop (mkF m 12 #[.val (.int p0), .val (.int p1), .val (.int p2), .val (.int p3), .val (.ref fc), .unset, .unset, .unset, .unset, .unset, .unset, .unset, .unset, .unset] [(.int (255 : Int32)), (.int p0), (.int (0 : Int32)), (.ref fc)])) _
  refine GoOn.step (fun tq kq => XS.iand X142.here hx rfl (hb hby at_12) rfl kq) ?_
  show GoOn p e below (T142.setTop (mkF m 13 #[.val (.int p0), .val (.int p1), .val (.int p2), .val (.int p3), .val (.ref fc), .unset, .unset, .unset, .unset, .unset, .unset, .unset, .unset, .unset] [(.int (p0 &&& (255 : Int32))), (.int (0 : Int32)), (.ref fc)])) _
  refine GoOn.step (fun tq kq => XS.i2c X142.here hx rfl (hb hby at_13) rfl kq) ?_
  show GoOn p e below (T142.setTop (mkF m 14 #[.val (.int p0), .val (.int p1), .val (.int p2), .val (.int p3), .val (.ref fc), .unset, .unset, .unset, .unset, .unset, .unset, .unset, .unset, .unset] [(.int (((p0 &&& (255 : Int32))).toUInt32.toUInt16.toUInt32.toInt32)), (.int (0 : Int32)), (.ref fc)])) _
  have V150 : Arv Z h142 fc k142 .char (2 : Int32) [(.int (0 : Int32))] (.int (0 : Int32)) := V148.pad (pad_rep [] (.int (0 : Int32)) 1)
  obtain ⟨cq151, Aq151, qq151, Sq151, Mq151, Hq151, Uq151⟩ := id V150
  obtain ⟨T149, h149, X149, e149, W149, st149⟩ := stC X142 hx hZ e142 Aq151 (j := (0 : Int32)) (inb_of Sq151 ⟨(by decide : ¬ ((0 : Int32) < (0 : Int32))), (by decide : (0 : Int32) < (2 : Int32))⟩) (g := (mkF m 14 #[.val (.int p0), .val (.int p1), .val (.int p2), .val (.int p3), .val (.ref fc), .unset, .unset, .unset, .unset, .unset, .unset, .unset, .unset, .unset] [(.int (((p0 &&& (255 : Int32))).toUInt32.toUInt16.toUInt32.toInt32)), (.int (0 : Int32)), (.ref fc)])) rfl rfl (hb hby at_14)
  have N152 := Fr.snoc X149 N0 gn143
  have V153 : Arv Z h149 fc k142 .char (2 : Int32) [(.int (nar .char (((p0 &&& (255 : Int32))).toUInt32.toUInt16.toUInt32.toInt32)))] (.int (0 : Int32)) := Arv.set Aq151 qq151 Sq151 Mq151 Hq151 Uq151 (fits_nar_char _) W149 0 rfl (Nat.le_of_ble_eq_true rfl)
  have Kx149 : Keep h142 h149 [fc] := Keep.of_wr W149
  refine GoOn.step st149 ?_
  have O154 : Old Z n0 h149 := O145.keep Kx149 (allS gn143 all0)
  have Z155 : n0 ≤ h149.size := Nat.le_trans Z146 Kx149.1
  have K156 : Keep h0 h149 [] := K147.trans Kx149 ((allS (Or.inr sz144) all0))
  show GoOn p e below (T149.setTop (mkF m 15 #[.val (.int p0), .val (.int p1), .val (.int p2), .val (.int p3), .val (.ref fc), .unset, .unset, .unset, .unset, .unset, .unset, .unset, .unset, .unset] [])) _
  refine GoOn.step (fun tq kq => XS.aload X149.here hx rfl (hb hby at_15) rfl rfl kq) ?_
  show GoOn p e below (T149.setTop (mkF m 17 #[.val (.int p0), .val (.int p1), .val (.int p2), .val (.int p3), .val (.ref fc), .unset, .unset, .unset, .unset, .unset, .unset, .unset, .unset, .unset] [(.ref fc)])) _
  refine GoOn.step (fun tq kq => XS.iconst X149.here hx rfl (hb hby at_17) kq) ?_
  show GoOn p e below (T149.setTop (mkF m 18 #[.val (.int p0), .val (.int p1), .val (.int p2), .val (.int p3), .val (.ref fc), .unset, .unset, .unset, .unset, .unset, .unset, .unset, .unset, .unset] [(.int (1 : Int32)), (.ref fc)])) _
  refine GoOn.step (fun tq kq => XS.iloadN X149.here hx rfl (hb hby at_18) rfl kq) ?_
  show GoOn p e below (T149.setTop (mkF m 19 #[.val (.int p0), .val (.int p1), .val (.int p2), .val (.int p3), .val (.ref fc), .unset, .unset, .unset, .unset, .unset, .unset, .unset, .unset, .unset] [(.int p0), (.int (1 : Int32)), (.ref fc)])) _
  refine GoOn.step (fun tq kq => XS.bipush X149.here hx rfl (hb hby at_19) kq) ?_
  show GoOn p e below (T149.setTop (mkF m 21 #[.val (.int p0), .val (.int p1), .val (.int p2), .val (.int p3), .val (.ref fc), .unset, .unset, .unset, .unset, .unset, .unset, .unset, .unset, .unset] [(.int (8 : Int32)), (.int p0), (.int (1 : Int32)), (.ref fc)])) _
  refine GoOn.step (fun tq kq => XS.iushr X149.here hx rfl (hb hby at_21) rfl kq) ?_
  show GoOn p e below (T149.setTop (mkF m 22 #[.val (.int p0), .val (.int p1), .val (.int p2), .val (.int p3), .val (.ref fc), .unset, .unset, .unset, .unset, .unset, .unset, .unset, .unset, .unset] [(.int (((p0).toUInt32 >>> ((8 : Int32) &&& 31).toUInt32).toInt32)), (.int (1 : Int32)), (.ref fc)])) _
  refine GoOn.step (fun tq kq => XS.sipush X149.here hx rfl (hb hby at_22) kq) ?_
  show GoOn p e below (T149.setTop (mkF m 25 #[.val (.int p0), .val (.int p1), .val (.int p2), .val (.int p3), .val (.ref fc), .unset, .unset, .unset, .unset, .unset, .unset, .unset, .unset, .unset] [(.int (255 : Int32)), (.int (((p0).toUInt32 >>> ((8 : Int32) &&& 31).toUInt32).toInt32)), (.int (1 : Int32)), (.ref fc)])) _
  refine GoOn.step (fun tq kq => XS.iand X149.here hx rfl (hb hby at_25) rfl kq) ?_
  show GoOn p e below (T149.setTop (mkF m 26 #[.val (.int p0), .val (.int p1), .val (.int p2), .val (.int p3), .val (.ref fc), .unset, .unset, .unset, .unset, .unset, .unset, .unset, .unset, .unset] [(.int ((((p0).toUInt32 >>> ((8 : Int32) &&& 31).toUInt32).toInt32) &&& (255 : Int32))), (.int (1 : Int32)), (.ref fc)])) _
  refine GoOn.step (fun tq kq => XS.i2c X149.here hx rfl (hb hby at_26) rfl kq) ?_
  show GoOn p e below (T149.setTop (mkF m 27 #[.val (.int p0), .val (.int p1), .val (.int p2), .val (.int p3), .val (.ref fc), .unset, .unset, .unset, .unset, .unset, .unset, .unset, .unset, .unset] [(.int ((((((p0).toUInt32 >>> ((8 : Int32) &&& 31).toUInt32).toInt32) &&& (255 : Int32))).toUInt32.toUInt16.toUInt32.toInt32)), (.int (1 : Int32)), (.ref fc)])) _
  have V158 : Arv Z h149 fc k142 .char (2 : Int32) [(.int (nar .char (((p0 &&& (255 : Int32))).toUInt32.toUInt16.toUInt32.toInt32))), (.int (0 : Int32))] (.int (0 : Int32)) := V153.pad (pad_rep [(.int (nar .char (((p0 &&& (255 : Int32))).toUInt32.toUInt16.toUInt32.toInt32)))] (.int (0 : Int32)) 1)
  obtain ⟨cq159, Aq159, qq159, Sq159, Mq159, Hq159, Uq159⟩ := id V158
  obtain ⟨T157, h157, X157, e157, W157, st157⟩ := stC X149 hx hZ e149 Aq159 (j := (1 : Int32)) (inb_of Sq159 ⟨(by decide : ¬ ((1 : Int32) < (0 : Int32))), (by decide : (1 : Int32) < (2 : Int32))⟩) (g := (mkF m 27 #[.val (.int p0), .val (.int p1), .val (.int p2), .val (.int p3), .val (.ref fc), .unset, .unset, .unset, .unset, .unset, .unset, .unset, .unset, .unset] [(.int ((((((p0).toUInt32 >>> ((8 : Int32) &&& 31).toUInt32).toInt32) &&& (255 : Int32))).toUInt32.toUInt16.toUInt32.toInt32)), (.int (1 : Int32)), (.ref fc)])) rfl rfl (hb hby at_27)
  have N160 := Fr.snoc X157 N152 gn143
  have V161 : Arv Z h157 fc k142 .char (2 : Int32) [(.int (nar .char (((p0 &&& (255 : Int32))).toUInt32.toUInt16.toUInt32.toInt32))), (.int (nar .char ((((((p0).toUInt32 >>> ((8 : Int32) &&& 31).toUInt32).toInt32) &&& (255 : Int32))).toUInt32.toUInt16.toUInt32.toInt32)))] (.int (0 : Int32)) := Arv.set Aq159 qq159 Sq159 Mq159 Hq159 Uq159 (fits_nar_char _) W157 1 rfl (Nat.le_of_ble_eq_true rfl)
  have Kx157 : Keep h149 h157 [fc] := Keep.of_wr W157
  refine GoOn.step st157 ?_
  have O162 : Old Z n0 h157 := O154.keep Kx157 (allS gn143 all0)
  have Z163 : n0 ≤ h157.size := Nat.le_trans Z155 Kx157.1
  have K164 : Keep h0 h157 [] := K156.trans Kx157 ((allS (Or.inr sz144) all0))
  show GoOn p e below (T157.setTop (mkF m 28 #[.val (.int p0), .val (.int p1), .val (.int p2), .val (.int p3), .val (.ref fc), .unset, .unset, .unset, .unset, .unset, .unset, .unset, .unset, .unset] [])) _
  refine GoOn.step (fun tq kq => XS.iconst X157.here hx rfl (hb hby at_28) kq) ?_
  show GoOn p e below (T157.setTop (mkF m 29 #[.val (.int p0), .val (.int p1), .val (.int p2), .val (.int p3), .val (.ref fc), .unset, .unset, .unset, .unset, .unset, .unset, .unset, .unset, .unset] [(.int (2 : Int32))])) _
  obtain ⟨T165, h165, k165, X165, e165, Ex165, A165, st165⟩ := newP X157 hx hZ (hw _ (List.mem_of_getElem? (i := 0) rfl)) e157 (g := (mkF m 29 #[.val (.int p0), .val (.int p1), .val (.int p2), .val (.int p3), .val (.ref fc), .unset, .unset, .unset, .unset, .unset, .unset, .unset, .unset, .unset] [(.int (2 : Int32))])) rfl (hb hby at_29) rfl (by decide) (cap := 2) (by decide) (by decide) (by decide) (by decide)
  obtain ⟨mc, g165⟩ : ∃ z, z = h157.size := ⟨_, rfl⟩
  rw [← g165] at A165 st165
  have gn166 : n0 ≤ mc := Nat.le_trans Z163 (Nat.le_of_eq g165.symm)
  have sz167 : h0.size ≤ mc := Nat.le_trans K164.1 (Nat.le_of_eq g165.symm)
  have ne168 : fc ≠ mc := Nat.ne_of_lt (Nat.lt_of_lt_of_le V161.lt (Nat.le_of_eq g165.symm))
  have Kx165 : Keep h157 h165 [] := (Keep.refl _ _).ext Ex165
  refine GoOn.step st165 ?_
  have O169 : Old Z n0 h165 := O162.keep Kx165 all0
  have Z170 : n0 ≤ h165.size := Nat.le_trans Z163 Kx165.1
  have K171 : Keep h0 h165 [] := K164.trans Kx165 (all0)
  have V172 : Arv Z h165 fc k142 .char (2 : Int32) [(.int (nar .char (((p0 &&& (255 : Int32))).toUInt32.toUInt16.toUInt32.toInt32))), (.int (nar .char ((((((p0).toUInt32 >>> ((8 : Int32) &&& 31).toUInt32).toInt32) &&& (255 : Int32))).toUInt32.toUInt16.toUInt32.toInt32)))] (.int (0 : Int32)) := V161.keep Kx165 nin0
  have V173 : Arv Z h165 mc k165 .char (2 : Int32) [] (.int (0 : Int32)) := Arv.new A165 (by decide)
  show GoOn p e below (T165.setTop (mkF m 31 #[.val (.int p0), .val (.int p1), .val (.int p2), .val (.int p3), .val (.ref fc), .unset, .unset, .unset, .unset, .unset, .unset, .unset, .unset, .unset] [(.ref mc)])) _
  refine GoOn.step (fun tq kq => XS.astore X165.here hx rfl (hb hby at_31) rfl rfl (l' := #[.val (.int p0), .val (.int p1), .val (.int p2), .val (.int p3), .val (.ref fc), .val (.ref mc), .unset, .unset, .unset, .unset, .unset, .unset, .unset, .unset]) rfl kq) ?_
  show GoOn p e below (T165.setTop (mkF m 33 #[.val (.int p0), .val (.int p1), .val (.int p2), .val (.int p3), .val (.ref fc), .val (.ref mc), .unset, .unset, .unset, .unset, .unset, .unset, .unset, .unset] [])) _
  refine GoOn.step (fun tq kq => XS.aload X165.here hx rfl (hb hby at_33) rfl rfl kq) ?_
  show GoOn p e below (T165.setTop (mkF m 35 #[.val (.int p0), .val (.int p1), .val (.int p2), .val (.int p3), .val (.ref fc), .val (.ref mc), .unset, .unset, .unset, .unset, .unset, .unset, .unset, .unset] [(.ref mc)])) _
  refine GoOn.step (fun tq kq => XS.iconst X165.here hx rfl (hb hby at_35) kq) ?_
  show GoOn p e below (T165.setTop (mkF m 36 #[.val (.int p0), .val (.int p1), .val (.int p2), .val (.int p3), .val (.ref fc), .val (.ref mc), .unset, .unset, .unset, .unset, .unset, .unset, .unset, .unset] [(.int (0 : Int32)), (.ref mc)])) _
  refine GoOn.step (fun tq kq => XS.iloadN X165.here hx rfl (hb hby at_36) rfl kq) ?_
  show GoOn p e below (T165.setTop (mkF m 37 #[.val (.int p0), .val (.int p1), .val (.int p2), .val (.int p3), .val (.ref fc), .val (.ref mc), .unset, .unset, .unset, .unset, .unset, .unset, .unset, .unset] [(.int p2), (.int (0 : Int32)), (.ref mc)])) _
  refine GoOn.step (fun tq kq => XS.sipush X165.here hx rfl (hb hby at_37) kq) ?_
  show GoOn p e below (T165.setTop (mkF m 40 #[.val (.int p0), .val (.int p1), .val (.int p2), .val (.int p3), .val (.ref fc), .val (.ref mc), .unset, .unset, .unset, .unset, .unset, .unset, .unset, .unset] [(.int (255 : Int32)), (.int p2), (.int (0 : Int32)), (.ref mc)])) _
  refine GoOn.step (fun tq kq => XS.iand X165.here hx rfl (hb hby at_40) rfl kq) ?_
  show GoOn p e below (T165.setTop (mkF m 41 #[.val (.int p0), .val (.int p1), .val (.int p2), .val (.int p3), .val (.ref fc), .val (.ref mc), .unset, .unset, .unset, .unset, .unset, .unset, .unset, .unset] [(.int (p2 &&& (255 : Int32))), (.int (0 : Int32)), (.ref mc)])) _
  refine GoOn.step (fun tq kq => XS.i2c X165.here hx rfl (hb hby at_41) rfl kq) ?_
  show GoOn p e below (T165.setTop (mkF m 42 #[.val (.int p0), .val (.int p1), .val (.int p2), .val (.int p3), .val (.ref fc), .val (.ref mc), .unset, .unset, .unset, .unset, .unset, .unset, .unset, .unset] [(.int (((p2 &&& (255 : Int32))).toUInt32.toUInt16.toUInt32.toInt32)), (.int (0 : Int32)), (.ref mc)])) _
  have V175 : Arv Z h165 mc k165 .char (2 : Int32) [(.int (0 : Int32))] (.int (0 : Int32)) := V173.pad (pad_rep [] (.int (0 : Int32)) 1)
  obtain ⟨cq176, Aq176, qq176, Sq176, Mq176, Hq176, Uq176⟩ := id V175
  obtain ⟨T174, h174, X174, e174, W174, st174⟩ := stC X165 hx hZ e165 Aq176 (j := (0 : Int32)) (inb_of Sq176 ⟨(by decide : ¬ ((0 : Int32) < (0 : Int32))), (by decide : (0 : Int32) < (2 : Int32))⟩) (g := (mkF m 42 #[.val (.int p0), .val (.int p1), .val (.int p2), .val (.int p3), .val (.ref fc), .val (.ref mc), .unset, .unset, .unset, .unset, .unset, .unset, .unset, .unset] [(.int (((p2 &&& (255 : Int32))).toUInt32.toUInt16.toUInt32.toInt32)), (.int (0 : Int32)), (.ref mc)])) rfl rfl (hb hby at_42)
  have N177 := Fr.snoc X174 N160 gn166
  have V178 : Arv Z h174 mc k165 .char (2 : Int32) [(.int (nar .char (((p2 &&& (255 : Int32))).toUInt32.toUInt16.toUInt32.toInt32)))] (.int (0 : Int32)) := Arv.set Aq176 qq176 Sq176 Mq176 Hq176 Uq176 (fits_nar_char _) W174 0 rfl (Nat.le_of_ble_eq_true rfl)
  have Kx174 : Keep h165 h174 [mc] := Keep.of_wr W174
  refine GoOn.step st174 ?_
  have O179 : Old Z n0 h174 := O169.keep Kx174 (allS gn166 all0)
  have Z180 : n0 ≤ h174.size := Nat.le_trans Z170 Kx174.1
  have K181 : Keep h0 h174 [] := K171.trans Kx174 ((allS (Or.inr sz167) all0))
  have V182 : Arv Z h174 fc k142 .char (2 : Int32) [(.int (nar .char (((p0 &&& (255 : Int32))).toUInt32.toUInt16.toUInt32.toInt32))), (.int (nar .char ((((((p0).toUInt32 >>> ((8 : Int32) &&& 31).toUInt32).toInt32) &&& (255 : Int32))).toUInt32.toUInt16.toUInt32.toInt32)))] (.int (0 : Int32)) := V172.keep Kx174 (ninS ne168 nin0)
  show GoOn p e below (T174.setTop (mkF m 43 #[.val (.int p0), .val (.int p1), .val (.int p2), .val (.int p3), .val (.ref fc), .val (.ref mc), .unset, .unset, .unset, .unset, .unset, .unset, .unset, .unset] [])) _
  refine GoOn.step (fun tq kq => XS.aload X174.here hx rfl (hb hby at_43) rfl rfl kq) ?_
  show GoOn p e below (T174.setTop (mkF m 45 #[.val (.int p0), .val (.int p1), .val (.int p2), .val (.int p3), .val (.ref fc), .val (.ref mc), .unset, .unset, .unset, .unset, .unset, .unset, .unset, .unset] [(.ref mc)])) _
  refine GoOn.step (fun tq kq => XS.iconst X174.here hx rfl (hb hby at_45) kq) ?_
  show GoOn p e below (T174.setTop (mkF m 46 #[.val (.int p0), .val (.int p1), .val (.int p2), .val (.int p3), .val (.ref fc), .val (.ref mc), .unset, .unset, .unset, .unset, .unset, .unset, .unset, .unset] [(.int (1 : Int32)), (.ref mc)])) _
  refine GoOn.step (fun tq kq => XS.iloadN X174.here hx rfl (hb hby at_46) rfl kq) ?_
  show GoOn p e below (T174.setTop (mkF m 47 #[.val (.int p0), .val (.int p1), .val (.int p2), .val (.int p3), .val (.ref fc), .val (.ref mc), .unset, .unset, .unset, .unset, .unset, .unset, .unset, .unset] [(.int p2), (.int (1 : Int32)), (.ref mc)])) _
  refine GoOn.step (fun tq kq => XS.bipush X174.here hx rfl (hb hby at_47) kq) ?_
  show GoOn p e below (T174.setTop (mkF m 49 #[.val (.int p0), .val (.int p1), .val (.int p2), .val (.int p3), .val (.ref fc), .val (.ref mc), .unset, .unset, .unset, .unset, .unset, .unset, .unset, .unset] [(.int (8 : Int32)), (.int p2), (.int (1 : Int32)), (.ref mc)])) _
  refine GoOn.step (fun tq kq => XS.iushr X174.here hx rfl (hb hby at_49) rfl kq) ?_
  show GoOn p e below (T174.setTop (mkF m 50 #[.val (.int p0), .val (.int p1), .val (.int p2), .val (.int p3), .val (.ref fc), .val (.ref mc), .unset, .unset, .unset, .unset, .unset, .unset, .unset, .unset] [(.int (((p2).toUInt32 >>> ((8 : Int32) &&& 31).toUInt32).toInt32)), (.int (1 : Int32)), (.ref mc)])) _
  refine GoOn.step (fun tq kq => XS.sipush X174.here hx rfl (hb hby at_50) kq) ?_
  show GoOn p e below (T174.setTop (mkF m 53 #[.val (.int p0), .val (.int p1), .val (.int p2), .val (.int p3), .val (.ref fc), .val (.ref mc), .unset, .unset, .unset, .unset, .unset, .unset, .unset, .unset] [(.int (255 : Int32)), (.int (((p2).toUInt32 >>> ((8 : Int32) &&& 31).toUInt32).toInt32)), (.int (1 : Int32)), (.ref mc)])) _
  refine GoOn.step (fun tq kq => XS.iand X174.here hx rfl (hb hby at_53) rfl kq) ?_
  show GoOn p e below (T174.setTop (mkF m 54 #[.val (.int p0), .val (.int p1), .val (.int p2), .val (.int p3), .val (.ref fc), .val (.ref mc), .unset, .unset, .unset, .unset, .unset, .unset, .unset, .unset] [(.int ((((p2).toUInt32 >>> ((8 : Int32) &&& 31).toUInt32).toInt32) &&& (255 : Int32))), (.int (1 : Int32)), (.ref mc)])) _
  refine GoOn.step (fun tq kq => XS.i2c X174.here hx rfl (hb hby at_54) rfl kq) ?_
  show GoOn p e below (T174.setTop (mkF m 55 #[.val (.int p0), .val (.int p1), .val (.int p2), .val (.int p3), .val (.ref fc), .val (.ref mc), .unset, .unset, .unset, .unset, .unset, .unset, .unset, .unset] [(.int ((((((p2).toUInt32 >>> ((8 : Int32) &&& 31).toUInt32).toInt32) &&& (255 : Int32))).toUInt32.toUInt16.toUInt32.toInt32)), (.int (1 : Int32)), (.ref mc)])) _
  have V184 : Arv Z h174 mc k165 .char (2 : Int32) [(.int (nar .char (((p2 &&& (255 : Int32))).toUInt32.toUInt16.toUInt32.toInt32))), (.int (0 : Int32))] (.int (0 : Int32)) := V178.pad (pad_rep [(.int (nar .char (((p2 &&& (255 : Int32))).toUInt32.toUInt16.toUInt32.toInt32)))] (.int (0 : Int32)) 1)
  obtain ⟨cq185, Aq185, qq185, Sq185, Mq185, Hq185, Uq185⟩ := id V184
  obtain ⟨T183, h183, X183, e183, W183, st183⟩ := stC X174 hx hZ e174 Aq185 (j := (1 : Int32)) (inb_of Sq185 ⟨(by decide : ¬ ((1 : Int32) < (0 : Int32))), (by decide : (1 : Int32) < (2 : Int32))⟩) (g := (mkF m 55 #[.val (.int p0), .val (.int p1), .val (.int p2), .val (.int p3), .val (.ref fc), .val (.ref mc), .unset, .unset, .unset, .unset, .unset, .unset, .unset, .unset] [(.int ((((((p2).toUInt32 >>> ((8 : Int32) &&& 31).toUInt32).toInt32) &&& (255 : Int32))).toUInt32.toUInt16.toUInt32.toInt32)), (.int (1 : Int32)), (.ref mc)])) rfl rfl (hb hby at_55)
  have N186 := Fr.snoc X183 N177 gn166
  have V187 : Arv Z h183 mc k165 .char (2 : Int32) [(.int (nar .char (((p2 &&& (255 : Int32))).toUInt32.toUInt16.toUInt32.toInt32))), (.int (nar .char ((((((p2).toUInt32 >>> ((8 : Int32) &&& 31).toUInt32).toInt32) &&& (255 : Int32))).toUInt32.toUInt16.toUInt32.toInt32)))] (.int (0 : Int32)) := Arv.set Aq185 qq185 Sq185 Mq185 Hq185 Uq185 (fits_nar_char _) W183 1 rfl (Nat.le_of_ble_eq_true rfl)
  have Kx183 : Keep h174 h183 [mc] := Keep.of_wr W183
  refine GoOn.step st183 ?_
  have O188 : Old Z n0 h183 := O179.keep Kx183 (allS gn166 all0)
  have Z189 : n0 ≤ h183.size := Nat.le_trans Z180 Kx183.1
  have K190 : Keep h0 h183 [] := K181.trans Kx183 ((allS (Or.inr sz167) all0))
  have V191 : Arv Z h183 fc k142 .char (2 : Int32) [(.int (nar .char (((p0 &&& (255 : Int32))).toUInt32.toUInt16.toUInt32.toInt32))), (.int (nar .char ((((((p0).toUInt32 >>> ((8 : Int32) &&& 31).toUInt32).toInt32) &&& (255 : Int32))).toUInt32.toUInt16.toUInt32.toInt32)))] (.int (0 : Int32)) := V182.keep Kx183 (ninS ne168 nin0)
  show GoOn p e below (T183.setTop (mkF m 56 #[.val (.int p0), .val (.int p1), .val (.int p2), .val (.int p3), .val (.ref fc), .val (.ref mc), .unset, .unset, .unset, .unset, .unset, .unset, .unset, .unset] [])) _
  obtain ⟨T192, h192, X192, e192, Ex192, A192, Df192, -, st192⟩ := newO X183 hx hZ hown (hw _ (List.mem_of_getElem? (i := 1) rfl)) (hw _ (List.mem_of_getElem? (i := 2) rfl)) (hw _ (List.mem_of_getElem? (i := 3) rfl)) e183 (g := (mkF m 56 #[.val (.int p0), .val (.int p1), .val (.int p2), .val (.int p3), .val (.ref fc), .val (.ref mc), .unset, .unset, .unset, .unset, .unset, .unset, .unset, .unset] [])) rfl (hb hby at_56) (by decide) (by decide)
  obtain ⟨sf, g192⟩ : ∃ z, z = h183.size := ⟨_, rfl⟩
  rw [← g192] at A192 Df192 st192
  have gn193 : n0 ≤ sf := Nat.le_trans Z189 (Nat.le_of_eq g192.symm)
  have sz194 : h0.size ≤ sf := Nat.le_trans K190.1 (Nat.le_of_eq g192.symm)
  have ne195 : fc ≠ sf := Nat.ne_of_lt (Nat.lt_of_lt_of_le V191.lt (Nat.le_of_eq g192.symm))
  have ne196 : mc ≠ sf := Nat.ne_of_lt (Nat.lt_of_lt_of_le V187.lt (Nat.le_of_eq g192.symm))
  have Kx192 : Keep h183 h192 [] := (Keep.refl _ _).ext Ex192
  refine GoOn.step st192 ?_
  have O197 : Old Z n0 h192 := O188.keep Kx192 all0
  have Z198 : n0 ≤ h192.size := Nat.le_trans Z189 Kx192.1
  have K199 : Keep h0 h192 [] := K190.trans Kx192 (all0)
  have V200 : Arv Z h192 fc k142 .char (2 : Int32) [(.int (nar .char (((p0 &&& (255 : Int32))).toUInt32.toUInt16.toUInt32.toInt32))), (.int (nar .char ((((((p0).toUInt32 >>> ((8 : Int32) &&& 31).toUInt32).toInt32) &&& (255 : Int32))).toUInt32.toUInt16.toUInt32.toInt32)))] (.int (0 : Int32)) := V191.keep Kx192 nin0
  have V201 : Arv Z h192 mc k165 .char (2 : Int32) [(.int (nar .char (((p2 &&& (255 : Int32))).toUInt32.toUInt16.toUInt32.toInt32))), (.int (nar .char ((((((p2).toUInt32 >>> ((8 : Int32) &&& 31).toUInt32).toInt32) &&& (255 : Int32))).toUInt32.toUInt16.toUInt32.toInt32)))] (.int (0 : Int32)) := V187.keep Kx192 nin0
  have F202 : Fld Z h192 sf "java/lang/String" "coder" "B" (.int (0 : Int32)) := Df192 (Or.inr (hw _ (List.mem_of_getElem? (i := 27) rfl))) (ty := .byte) (by decide)
  have F203 : Fld Z h192 sf "java/lang/String" "value" "[B" .null := Df192 (Or.inr (hw _ (List.mem_of_getElem? (i := 29) rfl))) (ty := (.array .byte)) (by decide)
  show GoOn p e below (T192.setTop (mkF m 59 #[.val (.int p0), .val (.int p1), .val (.int p2), .val (.int p3), .val (.ref fc), .val (.ref mc), .unset, .unset, .unset, .unset, .unset, .unset, .unset, .unset] [(.ref sf)])) _
  refine GoOn.step (fun tq kq => XS.dup X192.here hx rfl (hb hby at_59) rfl rfl kq) ?_
  show GoOn p e below (T192.setTop (mkF m 60 #[.val (.int p0), .val (.int p1), .val (.int p2), .val (.int p3), .val (.ref fc), .val (.ref mc), .unset, .unset, .unset, .unset, .unset, .unset, .unset, .unset] [(.ref sf), (.ref sf)])) _
  refine GoOn.step (fun tq kq => XS.aload X192.here hx rfl (hb hby at_60) rfl rfl kq) ?_
  show GoOn p e below (T192.setTop (mkF m 62 #[.val (.int p0), .val (.int p1), .val (.int p2), .val (.int p3), .val (.ref fc), .val (.ref mc), .unset, .unset, .unset, .unset, .unset, .unset, .unset, .unset] [(.ref fc), (.ref sf), (.ref sf)])) _
  have hp204 : ∀ c ∈ ([(nar .char (((p0 &&& (255 : Int32))).toUInt32.toUInt16.toUInt32.toInt32)), (nar .char ((((((p0).toUInt32 >>> ((8 : Int32) &&& 31).toUInt32).toInt32) &&& (255 : Int32))).toUInt32.toUInt16.toUInt32.toInt32))] : List Int32), ¬ c < 0 ∧ ¬ (255 : Int32) < c := by
    intro c hc
    simp only [List.mem_cons, List.not_mem_nil, or_false] at hc
    rcases hc with rfl | rfl
    · exact and255_chars _
    · exact and255_chars _
  obtain ⟨_, _, ⟨T205, L205, k205, n205⟩, -, X205, ⟨Lc205, hQ205, l205, y205, z205⟩, st205⟩ := X192.specialBack hx (y := (⟨"java/lang/String", "<init>", "([C)V"⟩ : MethodName)) rfl hown (mvT hZ (hw _ (List.mem_of_getElem? (i := 4) rfl))) (mvT hZ (hw _ (List.mem_of_getElem? (i := 5) rfl))) (mvT hZ (hw _ (List.mem_of_getElem? (i := 6) rfl))) (by decide) (StrChars.Road.backV (W := 1) hZ hws (kI := 4) (hw _ (List.mem_of_getElem? (i := 2) rfl)) (cs := ([(nar .char (((p0 &&& (255 : Int32))).toUInt32.toUInt16.toUInt32.toInt32)), (nar .char ((((((p0).toUInt32 >>> ((8 : Int32) &&& 31).toUInt32).toInt32) &&& (255 : Int32))).toUInt32.toUInt16.toUInt32.toInt32))] : List Int32)) (bs := ([(nar .char (((p0 &&& (255 : Int32))).toUInt32.toUInt16.toUInt32.toInt32)), (nar .char ((((((p0).toUInt32 >>> ((8 : Int32) &&& 31).toUInt32).toInt32) &&& (255 : Int32))).toUInt32.toUInt16.toUInt32.toInt32))] : List Int32).map (fun c => c.toInt8.toInt32)) (n := 2) gn193 Z198 A192 F203 F202 V200 (SC.ext O197.2) PC rfl rfl (by decide) (by decide) hp204 rfl (by decide) (by decide)) (g := (mkF m 62 #[.val (.int p0), .val (.int p1), .val (.int p2), .val (.int p3), .val (.ref fc), .val (.ref mc), .unset, .unset, .unset, .unset, .unset, .unset, .unset, .unset] [(.ref fc), (.ref sf), (.ref sf)])) rfl (by rw [hml]; rfl) (Steps.refl _) (a := sf) (argsL := [(.ref fc)]) (rest := [(.ref sf)]) (lenOf own_pd95 rfl) rfl (by show 2 * 0 + _ ≤ _; exact Nat.le_of_eq rfl) (hb hby at_62) (fun _ _ => ⟨rfl, e192, (by decide : 3 + 1 ≤ _), (by decide : 8 + 2 ≤ _)⟩)
  dsimp only [Pt.U, Pt.locs, Pt.cells, Pt.slots] at X205 l205 y205 z205 st205 hQ205
  subst l205 y205 z205
  obtain ⟨rfl, N205, K205, E205, Fc205, t205, kb205, u205, v205, w205, Fv205, Va205⟩ := hQ205
  refine GoOn.trans st205 ?_
  have N206 := Fr.app N186 N205
  have O207 : Old Z n0 T205.heap := O197.keep K205 (allS gn193 all0)
  have Z208 : n0 ≤ T205.heap.size := Nat.le_trans Z198 K205.1
  have K209 : Keep h0 T205.heap [] := K199.trans K205 ((allS (Or.inr sz194) all0))
  have V210 : Arv Z T205.heap fc k142 .char (2 : Int32) [(.int (nar .char (((p0 &&& (255 : Int32))).toUInt32.toUInt16.toUInt32.toInt32))), (.int (nar .char ((((((p0).toUInt32 >>> ((8 : Int32) &&& 31).toUInt32).toInt32) &&& (255 : Int32))).toUInt32.toUInt16.toUInt32.toInt32)))] (.int (0 : Int32)) := V200.keep K205 (ninS ne195 nin0)
  have V211 : Arv Z T205.heap mc k165 .char (2 : Int32) [(.int (nar .char (((p2 &&& (255 : Int32))).toUInt32.toUInt16.toUInt32.toInt32))), (.int (nar .char ((((((p2).toUInt32 >>> ((8 : Int32) &&& 31).toUInt32).toInt32) &&& (255 : Int32))).toUInt32.toUInt16.toUInt32.toInt32)))] (.int (0 : Int32)) := V201.keep K205 (ninS ne196 nin0)
  have E212 : Exa Z T205.heap sf "java/lang/String" := A192.keep K205
  show GoOn p e below (T205.setTop (mkF m 65 #[.val (.int p0), .val (.int p1), .val (.int p2), .val (.int p3), .val (.ref fc), .val (.ref mc), .unset, .unset, .unset, .unset, .unset, .unset, .unset, .unset] [(.ref sf)])) _
  refine GoOn.step (fun tq kq => XS.astore X205.here hx rfl (hb hby at_65) rfl rfl (l' := #[.val (.int p0), .val (.int p1), .val (.int p2), .val (.int p3), .val (.ref fc), .val (.ref mc), .val (.ref sf), .unset, .unset, .unset, .unset, .unset, .unset, .unset]) rfl kq) ?_
  show GoOn p e below (T205.setTop (mkF m 67 #[.val (.int p0), .val (.int p1), .val (.int p2), .val (.int p3), .val (.ref fc), .val (.ref mc), .val (.ref sf), .unset, .unset, .unset, .unset, .unset, .unset, .unset] [])) _
  obtain ⟨T215, h215, X215, e215, Ex215, A215, Df215, -, st215⟩ := newO X205 hx hZ hown (hw _ (List.mem_of_getElem? (i := 1) rfl)) (hw _ (List.mem_of_getElem? (i := 2) rfl)) (hw _ (List.mem_of_getElem? (i := 3) rfl)) rfl (g := (mkF m 67 #[.val (.int p0), .val (.int p1), .val (.int p2), .val (.int p3), .val (.ref fc), .val (.ref mc), .val (.ref sf), .unset, .unset, .unset, .unset, .unset, .unset, .unset] [])) rfl (hb hby at_67) (by decide) (by decide)
  obtain ⟨sm, g215⟩ : ∃ z, z = T205.heap.size := ⟨_, rfl⟩
  rw [← g215] at A215 Df215 st215
  have gn216 : n0 ≤ sm := Nat.le_trans Z208 (Nat.le_of_eq g215.symm)
  have sz217 : h0.size ≤ sm := Nat.le_trans K209.1 (Nat.le_of_eq g215.symm)
  have ne218 : fc ≠ sm := Nat.ne_of_lt (Nat.lt_of_lt_of_le V210.lt (Nat.le_of_eq g215.symm))
  have ne219 : mc ≠ sm := Nat.ne_of_lt (Nat.lt_of_lt_of_le V211.lt (Nat.le_of_eq g215.symm))
  have ne220 : sf ≠ sm := Nat.ne_of_lt (Nat.lt_of_lt_of_le E212.lt (Nat.le_of_eq g215.symm))
  have Kx215 : Keep T205.heap h215 [] := (Keep.refl _ _).ext Ex215
  refine GoOn.step st215 ?_
  have O221 : Old Z n0 h215 := O207.keep Kx215 all0
  have Z222 : n0 ≤ h215.size := Nat.le_trans Z208 Kx215.1
  have K223 : Keep h0 h215 [] := K209.trans Kx215 (all0)
  have V224 : Arv Z h215 fc k142 .char (2 : Int32) [(.int (nar .char (((p0 &&& (255 : Int32))).toUInt32.toUInt16.toUInt32.toInt32))), (.int (nar .char ((((((p0).toUInt32 >>> ((8 : Int32) &&& 31).toUInt32).toInt32) &&& (255 : Int32))).toUInt32.toUInt16.toUInt32.toInt32)))] (.int (0 : Int32)) := V210.keep Kx215 nin0
  have V225 : Arv Z h215 mc k165 .char (2 : Int32) [(.int (nar .char (((p2 &&& (255 : Int32))).toUInt32.toUInt16.toUInt32.toInt32))), (.int (nar .char ((((((p2).toUInt32 >>> ((8 : Int32) &&& 31).toUInt32).toInt32) &&& (255 : Int32))).toUInt32.toUInt16.toUInt32.toInt32)))] (.int (0 : Int32)) := V211.keep Kx215 nin0
  have E226 : Exa Z h215 sf "java/lang/String" := E212.keep Kx215
  have F227 : Fld Z h215 sm "java/lang/String" "coder" "B" (.int (0 : Int32)) := Df215 (Or.inr (hw _ (List.mem_of_getElem? (i := 27) rfl))) (ty := .byte) (by decide)
  have F228 : Fld Z h215 sm "java/lang/String" "value" "[B" .null := Df215 (Or.inr (hw _ (List.mem_of_getElem? (i := 29) rfl))) (ty := (.array .byte)) (by decide)
  show GoOn p e below (T215.setTop (mkF m 70 #[.val (.int p0), .val (.int p1), .val (.int p2), .val (.int p3), .val (.ref fc), .val (.ref mc), .val (.ref sf), .unset, .unset, .unset, .unset, .unset, .unset, .unset] [(.ref sm)])) _
  refine GoOn.step (fun tq kq => XS.dup X215.here hx rfl (hb hby at_70) rfl rfl kq) ?_
  show GoOn p e below (T215.setTop (mkF m 71 #[.val (.int p0), .val (.int p1), .val (.int p2), .val (.int p3), .val (.ref fc), .val (.ref mc), .val (.ref sf), .unset, .unset, .unset, .unset, .unset, .unset, .unset] [(.ref sm), (.ref sm)])) _
  refine GoOn.step (fun tq kq => XS.aload X215.here hx rfl (hb hby at_71) rfl rfl kq) ?_
  show GoOn p e below (T215.setTop (mkF m 73 #[.val (.int p0), .val (.int p1), .val (.int p2), .val (.int p3), .val (.ref fc), .val (.ref mc), .val (.ref sf), .unset, .unset, .unset, .unset, .unset, .unset, .unset] [(.ref mc), (.ref sm), (.ref sm)])) _
  have hp229 : ∀ c ∈ ([(nar .char (((p2 &&& (255 : Int32))).toUInt32.toUInt16.toUInt32.toInt32)), (nar .char ((((((p2).toUInt32 >>> ((8 : Int32) &&& 31).toUInt32).toInt32) &&& (255 : Int32))).toUInt32.toUInt16.toUInt32.toInt32))] : List Int32), ¬ c < 0 ∧ ¬ (255 : Int32) < c := by
    intro c hc
    simp only [List.mem_cons, List.not_mem_nil, or_false] at hc
    rcases hc with rfl | rfl
    · exact and255_chars _
    · exact and255_chars _
  obtain ⟨_, _, ⟨T230, L230, k230, n230⟩, -, X230, ⟨Lc230, hQ230, l230, y230, z230⟩, st230⟩ := X215.specialBack hx (y := (⟨"java/lang/String", "<init>", "([C)V"⟩ : MethodName)) rfl hown (mvT hZ (hw _ (List.mem_of_getElem? (i := 4) rfl))) (mvT hZ (hw _ (List.mem_of_getElem? (i := 5) rfl))) (mvT hZ (hw _ (List.mem_of_getElem? (i := 6) rfl))) (by decide) (StrChars.Road.backV (W := 1) hZ hws (kI := 4) (hw _ (List.mem_of_getElem? (i := 2) rfl)) (cs := ([(nar .char (((p2 &&& (255 : Int32))).toUInt32.toUInt16.toUInt32.toInt32)), (nar .char ((((((p2).toUInt32 >>> ((8 : Int32) &&& 31).toUInt32).toInt32) &&& (255 : Int32))).toUInt32.toUInt16.toUInt32.toInt32))] : List Int32)) (bs := ([(nar .char (((p2 &&& (255 : Int32))).toUInt32.toUInt16.toUInt32.toInt32)), (nar .char ((((((p2).toUInt32 >>> ((8 : Int32) &&& 31).toUInt32).toInt32) &&& (255 : Int32))).toUInt32.toUInt16.toUInt32.toInt32))] : List Int32).map (fun c => c.toInt8.toInt32)) (n := 2) gn216 Z222 A215 F228 F227 V225 (SC.ext O221.2) PC rfl rfl (by decide) (by decide) hp229 rfl (by decide) (by decide)) (g := (mkF m 73 #[.val (.int p0), .val (.int p1), .val (.int p2), .val (.int p3), .val (.ref fc), .val (.ref mc), .val (.ref sf), .unset, .unset, .unset, .unset, .unset, .unset, .unset] [(.ref mc), (.ref sm), (.ref sm)])) rfl (by rw [hml]; rfl) (Steps.refl _) (a := sm) (argsL := [(.ref mc)]) (rest := [(.ref sm)]) (lenOf own_pd95 rfl) rfl (by show 2 * 0 + _ ≤ _; exact Nat.le_of_eq rfl) (hb hby at_73) (fun _ _ => ⟨rfl, e215, (by decide : 5 + 1 ≤ _), (by decide : 14 + 2 ≤ _)⟩)
  dsimp only [Pt.U, Pt.locs, Pt.cells, Pt.slots] at X230 l230 y230 z230 st230 hQ230
  subst l230 y230 z230
  obtain ⟨rfl, N230, K230, E230, Fc230, t230, kb230, u230, v230, w230, Fv230, Va230⟩ := hQ230
  refine GoOn.trans st230 ?_
  have N231 := Fr.app N206 N230
  have O232 : Old Z n0 T230.heap := O221.keep K230 (allS gn216 all0)
  have Z233 : n0 ≤ T230.heap.size := Nat.le_trans Z222 K230.1
  have K234 : Keep h0 T230.heap [] := K223.trans K230 ((allS (Or.inr sz217) all0))
  have V235 : Arv Z T230.heap fc k142 .char (2 : Int32) [(.int (nar .char (((p0 &&& (255 : Int32))).toUInt32.toUInt16.toUInt32.toInt32))), (.int (nar .char ((((((p0).toUInt32 >>> ((8 : Int32) &&& 31).toUInt32).toInt32) &&& (255 : Int32))).toUInt32.toUInt16.toUInt32.toInt32)))] (.int (0 : Int32)) := V224.keep K230 (ninS ne218 nin0)
  have V236 : Arv Z T230.heap mc k165 .char (2 : Int32) [(.int (nar .char (((p2 &&& (255 : Int32))).toUInt32.toUInt16.toUInt32.toInt32))), (.int (nar .char ((((((p2).toUInt32 >>> ((8 : Int32) &&& 31).toUInt32).toInt32) &&& (255 : Int32))).toUInt32.toUInt16.toUInt32.toInt32)))] (.int (0 : Int32)) := V225.keep K230 (ninS ne219 nin0)
  have E237 : Exa Z T230.heap sf "java/lang/String" := E226.keep K230
  have E238 : Exa Z T230.heap sm "java/lang/String" := A215.keep K230
  show GoOn p e below (T230.setTop (mkF m 76 #[.val (.int p0), .val (.int p1), .val (.int p2), .val (.int p3), .val (.ref fc), .val (.ref mc), .val (.ref sf), .unset, .unset, .unset, .unset, .unset, .unset, .unset] [(.ref sm)])) _
  refine GoOn.step (fun tq kq => XS.astore X230.here hx rfl (hb hby at_76) rfl rfl (l' := #[.val (.int p0), .val (.int p1), .val (.int p2), .val (.int p3), .val (.ref fc), .val (.ref mc), .val (.ref sf), .val (.ref sm), .unset, .unset, .unset, .unset, .unset, .unset]) rfl kq) ?_
  show GoOn p e below (T230.setTop (mkF m 78 #[.val (.int p0), .val (.int p1), .val (.int p2), .val (.int p3), .val (.ref fc), .val (.ref mc), .val (.ref sf), .val (.ref sm), .unset, .unset, .unset, .unset, .unset, .unset] [])) _
  refine GoOn.step (fun tq kq => XS.iloadN X230.here hx rfl (hb hby at_78) rfl kq) ?_
  show GoOn p e below (T230.setTop (mkF m 79 #[.val (.int p0), .val (.int p1), .val (.int p2), .val (.int p3), .val (.ref fc), .val (.ref mc), .val (.ref sf), .val (.ref sm), .unset, .unset, .unset, .unset, .unset, .unset] [(.int p3)])) _
  refine GoOn.step (fun tq kq => XS.iconst X230.here hx rfl (hb hby at_79) kq) ?_
  show GoOn p e below (T230.setTop (mkF m 80 #[.val (.int p0), .val (.int p1), .val (.int p2), .val (.int p3), .val (.ref fc), .val (.ref mc), .val (.ref sf), .val (.ref sm), .unset, .unset, .unset, .unset, .unset, .unset] [(.int (1 : Int32)), (.int p3)])) _
  refine GoOn.step (fun tq kq => XS.iand X230.here hx rfl (hb hby at_80) rfl kq) ?_
  show GoOn p e below (T230.setTop (mkF m 81 #[.val (.int p0), .val (.int p1), .val (.int p2), .val (.int p3), .val (.ref fc), .val (.ref mc), .val (.ref sf), .val (.ref sm), .unset, .unset, .unset, .unset, .unset, .unset] [(.int (p3 &&& (1 : Int32)))])) _
  by_cases hc241 : (p3 &&& (1 : Int32)) = 0
  · skip
    refine GoOn.step (fun tq kq => XS.ifYes X230.here hx rfl (pc0 := 81) (pc' := 88) rfl (hb hby at_81) rfl ((if0 _ _).trans (teq hc241).1) (by decide) (by decide) kq) ?_
    show GoOn p e below (T230.setTop (mkF m 88 #[.val (.int p0), .val (.int p1), .val (.int p2), .val (.int p3), .val (.ref fc), .val (.ref mc), .val (.ref sf), .val (.ref sm), .unset, .unset, .unset, .unset, .unset, .unset] [])) _
    refine GoOn.step (fun tq kq => XS.iloadN X230.here hx rfl (hb hby at_88) rfl kq) ?_
    show GoOn p e below (T230.setTop (mkF m 89 #[.val (.int p0), .val (.int p1), .val (.int p2), .val (.int p3), .val (.ref fc), .val (.ref mc), .val (.ref sf), .val (.ref sm), .unset, .unset, .unset, .unset, .unset, .unset] [(.int p1)])) _
    refine GoOn.step (fun tq kq => XS.sipush X230.here hx rfl (hb hby at_89) kq) ?_
    show GoOn p e below (T230.setTop (mkF m 92 #[.val (.int p0), .val (.int p1), .val (.int p2), .val (.int p3), .val (.ref fc), .val (.ref mc), .val (.ref sf), .val (.ref sm), .unset, .unset, .unset, .unset, .unset, .unset] [(.int (255 : Int32)), (.int p1)])) _
    refine GoOn.step (fun tq kq => XS.iand X230.here hx rfl (hb hby at_92) rfl kq) ?_
    show GoOn p e below (T230.setTop (mkF m 93 #[.val (.int p0), .val (.int p1), .val (.int p2), .val (.int p3), .val (.ref fc), .val (.ref mc), .val (.ref sf), .val (.ref sm), .unset, .unset, .unset, .unset, .unset, .unset] [(.int (p1 &&& (255 : Int32)))])) _
    refine GoOn.step (fun tq kq => XS.i2c X230.here hx rfl (hb hby at_93) rfl kq) ?_
    show GoOn p e below (T230.setTop (mkF m 94 #[.val (.int p0), .val (.int p1), .val (.int p2), .val (.int p3), .val (.ref fc), .val (.ref mc), .val (.ref sf), .val (.ref sm), .unset, .unset, .unset, .unset, .unset, .unset] [(.int (((p1 &&& (255 : Int32))).toUInt32.toUInt16.toUInt32.toInt32))])) _
    have hcx := and255_chars p1
    rw [nar_char2] at hcx
    obtain ⟨_, _, ⟨T242, L242, k242, n242⟩, -, X242, ⟨Lc242, hQ242, l242, y242, z242⟩, st242⟩ := Jvm.LawKit.callS X230 hx (y := (⟨"java/lang/String", "valueOf", "(C)Ljava/lang/String;"⟩ : MethodName)) hown (mvT hZ (hw _ (List.mem_of_getElem? (i := 77) rfl))) (mvT hZ (hw _ (List.mem_of_getElem? (i := 78) rfl))) (mvT hZ (hw _ (List.mem_of_getElem? (i := 3) rfl))) (mvT hZ (hw _ (List.mem_of_getElem? (i := 79) rfl))) (by decide) (backOf (W := 0) (rmValueOfC l Z a0 hw (((p1 &&& (255 : Int32))).toUInt32.toUInt16.toUInt32.toInt32) G1 T230.heap n0 Z233 hcx.1 hcx.2 SC PC O232) hZ (hw _ (List.mem_of_getElem? (i := 79) rfl)) (hw _ (List.mem_of_getElem? (i := 3) rfl)) (by decide) (by decide)) (g := (mkF m 94 #[.val (.int p0), .val (.int p1), .val (.int p2), .val (.int p3), .val (.ref fc), .val (.ref mc), .val (.ref sf), .val (.ref sm), .unset, .unset, .unset, .unset, .unset, .unset] [(.int (((p1 &&& (255 : Int32))).toUInt32.toUInt16.toUInt32.toInt32))])) rfl (by rw [hml]; rfl) (argsL := [(.int (((p1 &&& (255 : Int32))).toUInt32.toUInt16.toUInt32.toInt32))]) (rest := []) (lenOf own_pd96 rfl) rfl (by show 2 * 0 + _ ≤ _; exact Nat.le_of_eq rfl) (hb hby at_94) (fun _ _ => ⟨rfl, rfl, (by decide : 6 + 2 ≤ _), (by decide : 16 + 5 ≤ _)⟩)
    dsimp only [Pt.U, Pt.locs, Pt.cells, Pt.slots] at X242 l242 y242 z242 st242 hQ242
    subst l242 y242 z242
    obtain ⟨sa242, rfl, N242, K242, ge242, S242⟩ := hQ242
    refine GoOn.step st242 ?_
    have N243 := Fr.app N231 N242
    have gn244 : n0 ≤ sa242 := Nat.le_trans Z233 ge242
    have sz245 : h0.size ≤ sa242 := Nat.le_trans K234.1 ge242
    have ne246 : fc ≠ sa242 := Nat.ne_of_lt (Nat.lt_of_lt_of_le V235.lt ge242)
    have ne247 : mc ≠ sa242 := Nat.ne_of_lt (Nat.lt_of_lt_of_le V236.lt ge242)
    have ne248 : sf ≠ sa242 := Nat.ne_of_lt (Nat.lt_of_lt_of_le E237.lt ge242)
    have ne249 : sm ≠ sa242 := Nat.ne_of_lt (Nat.lt_of_lt_of_le E238.lt ge242)
    have O250 : Old Z n0 T242.heap := O232.keep K242 all0
    have Z251 : n0 ≤ T242.heap.size := Nat.le_trans Z233 K242.1
    have K252 : Keep h0 T242.heap [] := K234.trans K242 (all0)
    have V253 : Arv Z T242.heap fc k142 .char (2 : Int32) [(.int (nar .char (((p0 &&& (255 : Int32))).toUInt32.toUInt16.toUInt32.toInt32))), (.int (nar .char ((((((p0).toUInt32 >>> ((8 : Int32) &&& 31).toUInt32).toInt32) &&& (255 : Int32))).toUInt32.toUInt16.toUInt32.toInt32)))] (.int (0 : Int32)) := V235.keep K242 nin0
    have V254 : Arv Z T242.heap mc k165 .char (2 : Int32) [(.int (nar .char (((p2 &&& (255 : Int32))).toUInt32.toUInt16.toUInt32.toInt32))), (.int (nar .char ((((((p2).toUInt32 >>> ((8 : Int32) &&& 31).toUInt32).toInt32) &&& (255 : Int32))).toUInt32.toUInt16.toUInt32.toInt32)))] (.int (0 : Int32)) := V236.keep K242 nin0
    have E255 : Exa Z T242.heap sf "java/lang/String" := E237.keep K242
    have E256 : Exa Z T242.heap sm "java/lang/String" := E238.keep K242
    show GoOn p e below (T242.setTop (mkF m 97 #[.val (.int p0), .val (.int p1), .val (.int p2), .val (.int p3), .val (.ref fc), .val (.ref mc), .val (.ref sf), .val (.ref sm), .unset, .unset, .unset, .unset, .unset, .unset] [(.ref sa242)])) _
    refine GoOn.step (fun tq kq => XS.astore X242.here hx rfl (hb hby at_97) rfl rfl (l' := #[.val (.int p0), .val (.int p1), .val (.int p2), .val (.int p3), .val (.ref fc), .val (.ref mc), .val (.ref sf), .val (.ref sm), .val (.ref sa242), .unset, .unset, .unset, .unset, .unset]) rfl kq) ?_
    show GoOn p e below (T242.setTop (mkF m 99 #[.val (.int p0), .val (.int p1), .val (.int p2), .val (.int p3), .val (.ref fc), .val (.ref mc), .val (.ref sf), .val (.ref sm), .val (.ref sa242), .unset, .unset, .unset, .unset, .unset] [])) _
    refine GoOn.step (fun tq kq => XS.aload X242.here hx rfl (hb hby at_99) rfl rfl kq) ?_
    show GoOn p e below (T242.setTop (mkF m 101 #[.val (.int p0), .val (.int p1), .val (.int p2), .val (.int p3), .val (.ref fc), .val (.ref mc), .val (.ref sf), .val (.ref sm), .val (.ref sa242), .unset, .unset, .unset, .unset, .unset] [(.ref sf)])) _
    refine GoOn.step (fun tq kq => XS.aload X242.here hx rfl (hb hby at_101) rfl rfl kq) ?_
    show GoOn p e below (T242.setTop (mkF m 103 #[.val (.int p0), .val (.int p1), .val (.int p2), .val (.int p3), .val (.ref fc), .val (.ref mc), .val (.ref sf), .val (.ref sm), .val (.ref sa242), .unset, .unset, .unset, .unset, .unset] [(.ref sa242), (.ref sf)])) _
    refine GoOn.step (fun tq kq => XS.aload X242.here hx rfl (hb hby at_103) rfl rfl kq) ?_
    show GoOn p e below (T242.setTop (mkF m 105 #[.val (.int p0), .val (.int p1), .val (.int p2), .val (.int p3), .val (.ref fc), .val (.ref mc), .val (.ref sf), .val (.ref sm), .val (.ref sa242), .unset, .unset, .unset, .unset, .unset] [(.ref sm), (.ref sa242), (.ref sf)])) _
    obtain ⟨_, _, ⟨T257, L257, k257, n257⟩, -, X257, ⟨Lc257, hQ257, l257, y257, z257⟩, st257⟩ := Jvm.LawKit.callS X242 hx (y := (⟨"com/example/crosslode/crosslode/Problem", "warning", "(Ljava/lang/String;Ljava/lang/String;Ljava/lang/String;)Lcom/example/crosslode/crosslode/Problem;"⟩ : MethodName)) hown (mvT hZ (hw _ (List.mem_of_getElem? (i := 30) rfl))) (mvT hZ (hw _ (List.mem_of_getElem? (i := 31) rfl))) (mvT hZ (hw _ (List.mem_of_getElem? (i := 32) rfl))) (mvT hZ (hw _ (List.mem_of_getElem? (i := 33) rfl))) (by decide) (backOf (W := 0) (rmErr l Z a0 hw (.ref sf) (.ref sa242) (.ref sm) le T242.heap n0 Z251 rfl rfl rfl SE O250) hZ (hw _ (List.mem_of_getElem? (i := 33) rfl)) (hw _ (List.mem_of_getElem? (i := 32) rfl)) (by decide) (by decide)) (g := (mkF m 105 #[.val (.int p0), .val (.int p1), .val (.int p2), .val (.int p3), .val (.ref fc), .val (.ref mc), .val (.ref sf), .val (.ref sm), .val (.ref sa242), .unset, .unset, .unset, .unset, .unset] [(.ref sm), (.ref sa242), (.ref sf)])) rfl (by rw [hml]; rfl) (argsL := [(.ref sf), (.ref sa242), (.ref sm)]) (rest := []) (lenOf own_pd97 rfl) rfl (by show 2 * 0 + _ ≤ _; exact Nat.le_of_eq rfl) (hb hby at_105) (fun _ _ => ⟨rfl, rfl, (by decide : 8 + 1 ≤ _), (by decide : 21 + 4 ≤ _)⟩)
    dsimp only [Pt.U, Pt.locs, Pt.cells, Pt.slots] at X257 l257 y257 z257 st257 hQ257
    subst l257 y257 z257
    obtain ⟨pr257, rfl, N257, K257, ge257, E257, Fa257, Fb257, Fc257, Fd257⟩ := hQ257
    refine GoOn.step st257 ?_
    have N258 := Fr.app N243 N257
    have gn259 : n0 ≤ pr257 := Nat.le_trans Z251 ge257
    have sz260 : h0.size ≤ pr257 := Nat.le_trans K252.1 ge257
    have ne261 : fc ≠ pr257 := Nat.ne_of_lt (Nat.lt_of_lt_of_le V253.lt ge257)
    have ne262 : mc ≠ pr257 := Nat.ne_of_lt (Nat.lt_of_lt_of_le V254.lt ge257)
    have ne263 : sf ≠ pr257 := Nat.ne_of_lt (Nat.lt_of_lt_of_le E255.lt ge257)
    have ne264 : sm ≠ pr257 := Nat.ne_of_lt (Nat.lt_of_lt_of_le E256.lt ge257)
    have ne265 : sa242 ≠ pr257 := Nat.ne_of_lt (Nat.lt_of_lt_of_le S242.1.lt ge257)
    have O266 : Old Z n0 T257.heap := O250.keep K257 all0
    have Z267 : n0 ≤ T257.heap.size := Nat.le_trans Z251 K257.1
    have K268 : Keep h0 T257.heap [] := K252.trans K257 (all0)
    have V269 : Arv Z T257.heap fc k142 .char (2 : Int32) [(.int (nar .char (((p0 &&& (255 : Int32))).toUInt32.toUInt16.toUInt32.toInt32))), (.int (nar .char ((((((p0).toUInt32 >>> ((8 : Int32) &&& 31).toUInt32).toInt32) &&& (255 : Int32))).toUInt32.toUInt16.toUInt32.toInt32)))] (.int (0 : Int32)) := V253.keep K257 nin0
    have V270 : Arv Z T257.heap mc k165 .char (2 : Int32) [(.int (nar .char (((p2 &&& (255 : Int32))).toUInt32.toUInt16.toUInt32.toInt32))), (.int (nar .char ((((((p2).toUInt32 >>> ((8 : Int32) &&& 31).toUInt32).toInt32) &&& (255 : Int32))).toUInt32.toUInt16.toUInt32.toInt32)))] (.int (0 : Int32)) := V254.keep K257 nin0
    have E271 : Exa Z T257.heap sf "java/lang/String" := E255.keep K257
    have E272 : Exa Z T257.heap sm "java/lang/String" := E256.keep K257
    have E273 : Exa Z T257.heap sa242 "java/lang/String" := S242.1.keep K257
    show GoOn p e below (T257.setTop (mkF m 108 #[.val (.int p0), .val (.int p1), .val (.int p2), .val (.int p3), .val (.ref fc), .val (.ref mc), .val (.ref sf), .val (.ref sm), .val (.ref sa242), .unset, .unset, .unset, .unset, .unset] [(.ref pr257)])) _
    refine GoOn.step (fun tq kq => XS.astore X257.here hx rfl (hb hby at_108) rfl rfl (l' := #[.val (.int p0), .val (.int p1), .val (.int p2), .val (.int p3), .val (.ref fc), .val (.ref mc), .val (.ref sf), .val (.ref sm), .val (.ref sa242), .val (.ref pr257), .unset, .unset, .unset, .unset]) rfl kq) ?_
    show GoOn p e below (T257.setTop (mkF m 110 #[.val (.int p0), .val (.int p1), .val (.int p2), .val (.int p3), .val (.ref fc), .val (.ref mc), .val (.ref sf), .val (.ref sm), .val (.ref sa242), .val (.ref pr257), .unset, .unset, .unset, .unset] [])) _
    refine GoOn.step (fun tq kq => XS.aload X257.here hx rfl (hb hby at_110) rfl rfl kq) ?_
    show GoOn p e below (T257.setTop (mkF m 112 #[.val (.int p0), .val (.int p1), .val (.int p2), .val (.int p3), .val (.ref fc), .val (.ref mc), .val (.ref sf), .val (.ref sm), .val (.ref sa242), .val (.ref pr257), .unset, .unset, .unset, .unset] [(.ref pr257)])) _
    refine GoOn.step (fun tq kq => XS.ifnonnullYes X257.here hx rfl (pc0 := 112) (pc' := 117) rfl (hb hby at_112) rfl (by decide) (by decide) kq) ?_
    show GoOn p e below (T257.setTop (mkF m 117 #[.val (.int p0), .val (.int p1), .val (.int p2), .val (.int p3), .val (.ref fc), .val (.ref mc), .val (.ref sf), .val (.ref sm), .val (.ref sa242), .val (.ref pr257), .unset, .unset, .unset, .unset] [])) _
    refine GoOn.step (fun tq kq => XS.aload X257.here hx rfl (hb hby at_117) rfl rfl kq) ?_
    show GoOn p e below (T257.setTop (mkF m 119 #[.val (.int p0), .val (.int p1), .val (.int p2), .val (.int p3), .val (.ref fc), .val (.ref mc), .val (.ref sf), .val (.ref sm), .val (.ref sa242), .val (.ref pr257), .unset, .unset, .unset, .unset] [(.ref sf)])) _
    refine GoOn.step (fun tq kq => XS.aload X257.here hx rfl (hb hby at_119) rfl rfl kq) ?_
    show GoOn p e below (T257.setTop (mkF m 121 #[.val (.int p0), .val (.int p1), .val (.int p2), .val (.int p3), .val (.ref fc), .val (.ref mc), .val (.ref sf), .val (.ref sm), .val (.ref sa242), .val (.ref pr257), .unset, .unset, .unset, .unset] [(.ref pr257), (.ref sf)])) _
    obtain ⟨cqc275, kqc275, qac275, qbc275, qcc275⟩ := isOf hZ rfl E257
    obtain ⟨_, _, ⟨T274, L274, k274, n274⟩, -, X274, ⟨Lc274, hQ274, l274, y274, z274⟩, st274⟩ := X257.virtualBack hx (y := (⟨"com/example/crosslode/crosslode/Problem", "file", "()Ljava/lang/String;"⟩ : MethodName)) (z := (⟨"com/example/crosslode/crosslode/Problem", "file", "()Ljava/lang/String;"⟩ : MethodName)) hown (mvT hZ (hw _ (List.mem_of_getElem? (i := 51) rfl))) (mvT hZ (hw _ (List.mem_of_getElem? (i := 52) rfl))) (notFace_of_selects (args := #[]) (mvT hZ (hw _ (List.mem_of_getElem? (i := 54) rfl)))) (mvT hZ (hw _ (List.mem_of_getElem? (i := 54) rfl))) (mvT hZ (hw _ (List.mem_of_getElem? (i := 53) rfl))) (by decide) (backOf (W := 1) (rmG_file l Z a0 hw pr257 (.ref sf) T257.heap n0 Z267 rfl Fa257) hZ (hw _ (List.mem_of_getElem? (i := 55) rfl)) (hw _ (List.mem_of_getElem? (i := 32) rfl)) (by decide) (by decide)) qac275 qcc275 (g := (mkF m 121 #[.val (.int p0), .val (.int p1), .val (.int p2), .val (.int p3), .val (.ref fc), .val (.ref mc), .val (.ref sf), .val (.ref sm), .val (.ref sa242), .val (.ref pr257), .unset, .unset, .unset, .unset] [(.ref pr257), (.ref sf)])) rfl (by rw [hml]; rfl) (Steps.refl _) (argsL := []) (rest := [(.ref sf)]) (lenOf own_pd98 rfl) rfl (by show 2 * 0 + _ ≤ _; exact Nat.le_of_eq rfl) (hb hby at_121) (fun _ _ => ⟨rfl, rfl, (by decide : 9 + 0 ≤ _), (by decide : 25 + 0 ≤ _)⟩)
    dsimp only [Pt.U, Pt.locs, Pt.cells, Pt.slots] at X274 l274 y274 z274 st274 hQ274
    subst l274 y274 z274
    obtain ⟨rfl, N274, e274⟩ := hQ274
    refine GoOn.trans st274 ?_
    have N276 := Fr.app N258 N274
    show GoOn p e below (T274.setTop (mkF m 124 #[.val (.int p0), .val (.int p1), .val (.int p2), .val (.int p3), .val (.ref fc), .val (.ref mc), .val (.ref sf), .val (.ref sm), .val (.ref sa242), .val (.ref pr257), .unset, .unset, .unset, .unset] [(.ref sf), (.ref sf)])) _
    obtain ⟨cqc278, kqc278, qac278, qbc278, qcc278⟩ := isOf hZ e274 E271
    obtain ⟨_, _, ⟨T277, L277, k277, n277⟩, -, X277, ⟨Lc277, hQ277, l277, y277, z277⟩, st277⟩ := X274.virtualBack hx (y := (⟨"java/lang/String", "equals", "(Ljava/lang/Object;)Z"⟩ : MethodName)) (z := (⟨"java/lang/String", "equals", "(Ljava/lang/Object;)Z"⟩ : MethodName)) hown (mvT hZ (hw _ (List.mem_of_getElem? (i := 56) rfl))) (mvT hZ (hw _ (List.mem_of_getElem? (i := 57) rfl))) (notFace_of_selects (args := #[]) (mvT hZ (hw _ (List.mem_of_getElem? (i := 59) rfl)))) (mvT hZ (hw _ (List.mem_of_getElem? (i := 59) rfl))) (mvT hZ (hw _ (List.mem_of_getElem? (i := 58) rfl))) (by decide) (backOf (W := 0) (rmEqId l Z a0 hw sf T257.heap n0 Z267) hZ (hw _ (List.mem_of_getElem? (i := 60) rfl)) (hw _ (List.mem_of_getElem? (i := 3) rfl)) (by decide) (by decide)) qac278 qcc278 (g := (mkF m 124 #[.val (.int p0), .val (.int p1), .val (.int p2), .val (.int p3), .val (.ref fc), .val (.ref mc), .val (.ref sf), .val (.ref sm), .val (.ref sa242), .val (.ref pr257), .unset, .unset, .unset, .unset] [(.ref sf), (.ref sf)])) rfl (by rw [hml]; rfl) (Steps.refl _) (argsL := [(.ref sf)]) (rest := []) (lenOf own_pd99 rfl) rfl (by show 2 * 0 + _ ≤ _; exact Nat.le_of_eq rfl) (hb hby at_124) (fun _ _ => ⟨rfl, e274, (by decide : 9 + 0 ≤ _), (by decide : 25 + 0 ≤ _)⟩)
    dsimp only [Pt.U, Pt.locs, Pt.cells, Pt.slots] at X277 l277 y277 z277 st277 hQ277
    subst l277 y277 z277
    obtain ⟨rfl, N277, e277⟩ := hQ277
    refine GoOn.trans st277 ?_
    have N279 := Fr.app N276 N277
    show GoOn p e below (T277.setTop (mkF m 127 #[.val (.int p0), .val (.int p1), .val (.int p2), .val (.int p3), .val (.ref fc), .val (.ref mc), .val (.ref sf), .val (.ref sm), .val (.ref sa242), .val (.ref pr257), .unset, .unset, .unset, .unset] [(.int (1 : Int32))])) _
    refine GoOn.step (fun tq kq => XS.istore X277.here hx rfl (hb hby at_127) rfl (l' := #[.val (.int p0), .val (.int p1), .val (.int p2), .val (.int p3), .val (.ref fc), .val (.ref mc), .val (.ref sf), .val (.ref sm), .val (.ref sa242), .val (.ref pr257), .val (.int (1 : Int32)), .unset, .unset, .unset]) rfl kq) ?_
    show GoOn p e below (T277.setTop (mkF m 129 #[.val (.int p0), .val (.int p1), .val (.int p2), .val (.int p3), .val (.ref fc), .val (.ref mc), .val (.ref sf), .val (.ref sm), .val (.ref sa242), .val (.ref pr257), .val (.int (1 : Int32)), .unset, .unset, .unset] [])) _
    refine GoOn.step (fun tq kq => XS.aload X277.here hx rfl (hb hby at_129) rfl rfl kq) ?_
    show GoOn p e below (T277.setTop (mkF m 131 #[.val (.int p0), .val (.int p1), .val (.int p2), .val (.int p3), .val (.ref fc), .val (.ref mc), .val (.ref sf), .val (.ref sm), .val (.ref sa242), .val (.ref pr257), .val (.int (1 : Int32)), .unset, .unset, .unset] [(.ref sa242)])) _
    refine GoOn.step (fun tq kq => XS.ifnonnullYes X277.here hx rfl (pc0 := 131) (pc' := 150) rfl (hb hby at_131) rfl (by decide) (by decide) kq) ?_
    show GoOn p e below (T277.setTop (mkF m 150 #[.val (.int p0), .val (.int p1), .val (.int p2), .val (.int p3), .val (.ref fc), .val (.ref mc), .val (.ref sf), .val (.ref sm), .val (.ref sa242), .val (.ref pr257), .val (.int (1 : Int32)), .unset, .unset, .unset] [])) _
    refine GoOn.step (fun tq kq => XS.aload X277.here hx rfl (hb hby at_150) rfl rfl kq) ?_
    show GoOn p e below (T277.setTop (mkF m 152 #[.val (.int p0), .val (.int p1), .val (.int p2), .val (.int p3), .val (.ref fc), .val (.ref mc), .val (.ref sf), .val (.ref sm), .val (.ref sa242), .val (.ref pr257), .val (.int (1 : Int32)), .unset, .unset, .unset] [(.ref sa242)])) _
    refine GoOn.step (fun tq kq => XS.aload X277.here hx rfl (hb hby at_152) rfl rfl kq) ?_
    show GoOn p e below (T277.setTop (mkF m 154 #[.val (.int p0), .val (.int p1), .val (.int p2), .val (.int p3), .val (.ref fc), .val (.ref mc), .val (.ref sf), .val (.ref sm), .val (.ref sa242), .val (.ref pr257), .val (.int (1 : Int32)), .unset, .unset, .unset] [(.ref pr257), (.ref sa242)])) _
    obtain ⟨cqc281, kqc281, qac281, qbc281, qcc281⟩ := isOf hZ e277 E257
    obtain ⟨_, _, ⟨T280, L280, k280, n280⟩, -, X280, ⟨Lc280, hQ280, l280, y280, z280⟩, st280⟩ := X277.virtualBack hx (y := (⟨"com/example/crosslode/crosslode/Problem", "record", "()Ljava/lang/String;"⟩ : MethodName)) (z := (⟨"com/example/crosslode/crosslode/Problem", "record", "()Ljava/lang/String;"⟩ : MethodName)) hown (mvT hZ (hw _ (List.mem_of_getElem? (i := 61) rfl))) (mvT hZ (hw _ (List.mem_of_getElem? (i := 62) rfl))) (notFace_of_selects (args := #[]) (mvT hZ (hw _ (List.mem_of_getElem? (i := 64) rfl)))) (mvT hZ (hw _ (List.mem_of_getElem? (i := 64) rfl))) (mvT hZ (hw _ (List.mem_of_getElem? (i := 63) rfl))) (by decide) (backOf (W := 1) (rmG_record l Z a0 hw pr257 (.ref sa242) T257.heap n0 Z267 rfl Fb257) hZ (hw _ (List.mem_of_getElem? (i := 65) rfl)) (hw _ (List.mem_of_getElem? (i := 32) rfl)) (by decide) (by decide)) qac281 qcc281 (g := (mkF m 154 #[.val (.int p0), .val (.int p1), .val (.int p2), .val (.int p3), .val (.ref fc), .val (.ref mc), .val (.ref sf), .val (.ref sm), .val (.ref sa242), .val (.ref pr257), .val (.int (1 : Int32)), .unset, .unset, .unset] [(.ref pr257), (.ref sa242)])) rfl (by rw [hml]; rfl) (Steps.refl _) (argsL := []) (rest := [(.ref sa242)]) (lenOf own_pd98 rfl) rfl (by show 2 * 0 + _ ≤ _; exact Nat.le_of_eq rfl) (hb hby at_154) (fun _ _ => ⟨rfl, e277, (by decide : 9 + 0 ≤ _), (by decide : 25 + 0 ≤ _)⟩)
    dsimp only [Pt.U, Pt.locs, Pt.cells, Pt.slots] at X280 l280 y280 z280 st280 hQ280
    subst l280 y280 z280
    obtain ⟨rfl, N280, e280⟩ := hQ280
    refine GoOn.trans st280 ?_
    have N282 := Fr.app N279 N280
    show GoOn p e below (T280.setTop (mkF m 157 #[.val (.int p0), .val (.int p1), .val (.int p2), .val (.int p3), .val (.ref fc), .val (.ref mc), .val (.ref sf), .val (.ref sm), .val (.ref sa242), .val (.ref pr257), .val (.int (1 : Int32)), .unset, .unset, .unset] [(.ref sa242), (.ref sa242)])) _
    obtain ⟨cqc284, kqc284, qac284, qbc284, qcc284⟩ := isOf hZ e280 E273
    obtain ⟨_, _, ⟨T283, L283, k283, n283⟩, -, X283, ⟨Lc283, hQ283, l283, y283, z283⟩, st283⟩ := X280.virtualBack hx (y := (⟨"java/lang/String", "equals", "(Ljava/lang/Object;)Z"⟩ : MethodName)) (z := (⟨"java/lang/String", "equals", "(Ljava/lang/Object;)Z"⟩ : MethodName)) hown (mvT hZ (hw _ (List.mem_of_getElem? (i := 56) rfl))) (mvT hZ (hw _ (List.mem_of_getElem? (i := 57) rfl))) (notFace_of_selects (args := #[]) (mvT hZ (hw _ (List.mem_of_getElem? (i := 59) rfl)))) (mvT hZ (hw _ (List.mem_of_getElem? (i := 59) rfl))) (mvT hZ (hw _ (List.mem_of_getElem? (i := 58) rfl))) (by decide) (backOf (W := 0) (rmEqId l Z a0 hw sa242 T257.heap n0 Z267) hZ (hw _ (List.mem_of_getElem? (i := 60) rfl)) (hw _ (List.mem_of_getElem? (i := 3) rfl)) (by decide) (by decide)) qac284 qcc284 (g := (mkF m 157 #[.val (.int p0), .val (.int p1), .val (.int p2), .val (.int p3), .val (.ref fc), .val (.ref mc), .val (.ref sf), .val (.ref sm), .val (.ref sa242), .val (.ref pr257), .val (.int (1 : Int32)), .unset, .unset, .unset] [(.ref sa242), (.ref sa242)])) rfl (by rw [hml]; rfl) (Steps.refl _) (argsL := [(.ref sa242)]) (rest := []) (lenOf own_pd99 rfl) rfl (by show 2 * 0 + _ ≤ _; exact Nat.le_of_eq rfl) (hb hby at_157) (fun _ _ => ⟨rfl, e280, (by decide : 9 + 0 ≤ _), (by decide : 25 + 0 ≤ _)⟩)
    dsimp only [Pt.U, Pt.locs, Pt.cells, Pt.slots] at X283 l283 y283 z283 st283 hQ283
    subst l283 y283 z283
    obtain ⟨rfl, N283, e283⟩ := hQ283
    refine GoOn.trans st283 ?_
    have N285 := Fr.app N282 N283
    show GoOn p e below (T283.setTop (mkF m 160 #[.val (.int p0), .val (.int p1), .val (.int p2), .val (.int p3), .val (.ref fc), .val (.ref mc), .val (.ref sf), .val (.ref sm), .val (.ref sa242), .val (.ref pr257), .val (.int (1 : Int32)), .unset, .unset, .unset] [(.int (1 : Int32))])) _
    refine GoOn.step (fun tq kq => XS.istore X283.here hx rfl (hb hby at_160) rfl (l' := #[.val (.int p0), .val (.int p1), .val (.int p2), .val (.int p3), .val (.ref fc), .val (.ref mc), .val (.ref sf), .val (.ref sm), .val (.ref sa242), .val (.ref pr257), .val (.int (1 : Int32)), .val (.int (1 : Int32)), .unset, .unset]) rfl kq) ?_
    show GoOn p e below (T283.setTop (mkF m 162 #[.val (.int p0), .val (.int p1), .val (.int p2), .val (.int p3), .val (.ref fc), .val (.ref mc), .val (.ref sf), .val (.ref sm), .val (.ref sa242), .val (.ref pr257), .val (.int (1 : Int32)), .val (.int (1 : Int32)), .unset, .unset] [])) _
    refine GoOn.step (fun tq kq => XS.aload X283.here hx rfl (hb hby at_162) rfl rfl kq) ?_
    show GoOn p e below (T283.setTop (mkF m 164 #[.val (.int p0), .val (.int p1), .val (.int p2), .val (.int p3), .val (.ref fc), .val (.ref mc), .val (.ref sf), .val (.ref sm), .val (.ref sa242), .val (.ref pr257), .val (.int (1 : Int32)), .val (.int (1 : Int32)), .unset, .unset] [(.ref pr257)])) _
    obtain ⟨cqc287, kqc287, qac287, qbc287, qcc287⟩ := isOf hZ e283 E257
    obtain ⟨_, _, ⟨T286, L286, k286, n286⟩, -, X286, ⟨Lc286, hQ286, l286, y286, z286⟩, st286⟩ := X283.virtualBack hx (y := (⟨"com/example/crosslode/crosslode/Problem", "level", "()Lcom/example/crosslode/crosslode/Problem$Level;"⟩ : MethodName)) (z := (⟨"com/example/crosslode/crosslode/Problem", "level", "()Lcom/example/crosslode/crosslode/Problem$Level;"⟩ : MethodName)) hown (mvT hZ (hw _ (List.mem_of_getElem? (i := 66) rfl))) (mvT hZ (hw _ (List.mem_of_getElem? (i := 67) rfl))) (notFace_of_selects (args := #[]) (mvT hZ (hw _ (List.mem_of_getElem? (i := 69) rfl)))) (mvT hZ (hw _ (List.mem_of_getElem? (i := 69) rfl))) (mvT hZ (hw _ (List.mem_of_getElem? (i := 68) rfl))) (by decide) (backOf (W := 0) (rmG_level l Z a0 hw pr257 (.ref le) T257.heap n0 Z267 rfl Fc257) hZ (hw _ (List.mem_of_getElem? (i := 70) rfl)) (hw _ (List.mem_of_getElem? (i := 32) rfl)) (by decide) (by decide)) qac287 qcc287 (g := (mkF m 164 #[.val (.int p0), .val (.int p1), .val (.int p2), .val (.int p3), .val (.ref fc), .val (.ref mc), .val (.ref sf), .val (.ref sm), .val (.ref sa242), .val (.ref pr257), .val (.int (1 : Int32)), .val (.int (1 : Int32)), .unset, .unset] [(.ref pr257)])) rfl (by rw [hml]; rfl) (Steps.refl _) (argsL := []) (rest := []) (lenOf own_pd100 rfl) rfl (by show 2 * 0 + _ ≤ _; exact Nat.le_of_eq rfl) (hb hby at_164) (fun _ _ => ⟨rfl, e283, (by decide : 9 + 0 ≤ _), (by decide : 25 + 0 ≤ _)⟩)
    dsimp only [Pt.U, Pt.locs, Pt.cells, Pt.slots] at X286 l286 y286 z286 st286 hQ286
    subst l286 y286 z286
    obtain ⟨rfl, N286, e286⟩ := hQ286
    refine GoOn.trans st286 ?_
    have N288 := Fr.app N285 N286
    show GoOn p e below (T286.setTop (mkF m 167 #[.val (.int p0), .val (.int p1), .val (.int p2), .val (.int p3), .val (.ref fc), .val (.ref mc), .val (.ref sf), .val (.ref sm), .val (.ref sa242), .val (.ref pr257), .val (.int (1 : Int32)), .val (.int (1 : Int32)), .unset, .unset] [(.ref le)])) _
    obtain ⟨T289, X289, e289, st289⟩ := getS2 X286 hx hZ hown (host := "") (Or.inl (hw _ (List.mem_of_getElem? (i := 71) rfl))) Via.refl e286 (SE.ext O266.2) (g := (mkF m 167 #[.val (.int p0), .val (.int p1), .val (.int p2), .val (.int p3), .val (.ref fc), .val (.ref mc), .val (.ref sf), .val (.ref sm), .val (.ref sa242), .val (.ref pr257), .val (.int (1 : Int32)), .val (.int (1 : Int32)), .unset, .unset] [(.ref le)])) rfl (hb hby at_167)
    refine GoOn.step st289 ?_
    show GoOn p e below (T289.setTop (mkF m 170 #[.val (.int p0), .val (.int p1), .val (.int p2), .val (.int p3), .val (.ref fc), .val (.ref mc), .val (.ref sf), .val (.ref sm), .val (.ref sa242), .val (.ref pr257), .val (.int (1 : Int32)), .val (.int (1 : Int32)), .unset, .unset] [(.ref le), (.ref le)])) _
    refine GoOn.step (fun tq kq => Jvm.RoadKit.acmp (g := (mkF m 170 #[.val (.int p0), .val (.int p1), .val (.int p2), .val (.int p3), .val (.ref fc), .val (.ref mc), .val (.ref sf), .val (.ref sm), .val (.ref sa242), .val (.ref pr257), .val (.int (1 : Int32)), .val (.int (1 : Int32)), .unset, .unset] [(.ref le), (.ref le)])) X289 hx rfl rfl rfl (pc0 := 170) (pc' := 173) (same := true) rfl (hb hby at_170) rfl (decide_eq_true rfl) (by decide) (by decide) kq) ?_
    show GoOn p e below (T289.setTop (mkF m 173 #[.val (.int p0), .val (.int p1), .val (.int p2), .val (.int p3), .val (.ref fc), .val (.ref mc), .val (.ref sf), .val (.ref sm), .val (.ref sa242), .val (.ref pr257), .val (.int (1 : Int32)), .val (.int (1 : Int32)), .unset, .unset] [])) _
    refine GoOn.step (fun tq kq => XS.iconst X289.here hx rfl (hb hby at_173) kq) ?_
    show GoOn p e below (T289.setTop (mkF m 174 #[.val (.int p0), .val (.int p1), .val (.int p2), .val (.int p3), .val (.ref fc), .val (.ref mc), .val (.ref sf), .val (.ref sm), .val (.ref sa242), .val (.ref pr257), .val (.int (1 : Int32)), .val (.int (1 : Int32)), .unset, .unset] [(.int (1 : Int32))])) _
    refine GoOn.step (fun tq kq => XS.goto X289.here hx rfl (pc0 := 174) (pc' := 178) rfl (hb hby at_174) (by decide) (by decide) kq) ?_
    show GoOn p e below (T289.setTop (mkF m 178 #[.val (.int p0), .val (.int p1), .val (.int p2), .val (.int p3), .val (.ref fc), .val (.ref mc), .val (.ref sf), .val (.ref sm), .val (.ref sa242), .val (.ref pr257), .val (.int (1 : Int32)), .val (.int (1 : Int32)), .unset, .unset] [(.int (1 : Int32))])) _
    refine GoOn.step (fun tq kq => XS.istore X289.here hx rfl (hb hby at_178) rfl (l' := #[.val (.int p0), .val (.int p1), .val (.int p2), .val (.int p3), .val (.ref fc), .val (.ref mc), .val (.ref sf), .val (.ref sm), .val (.ref sa242), .val (.ref pr257), .val (.int (1 : Int32)), .val (.int (1 : Int32)), .val (.int (1 : Int32)), .unset]) rfl kq) ?_
    show GoOn p e below (T289.setTop (mkF m 180 #[.val (.int p0), .val (.int p1), .val (.int p2), .val (.int p3), .val (.ref fc), .val (.ref mc), .val (.ref sf), .val (.ref sm), .val (.ref sa242), .val (.ref pr257), .val (.int (1 : Int32)), .val (.int (1 : Int32)), .val (.int (1 : Int32)), .unset] [])) _
    refine GoOn.step (fun tq kq => XS.aload X289.here hx rfl (hb hby at_180) rfl rfl kq) ?_
    show GoOn p e below (T289.setTop (mkF m 182 #[.val (.int p0), .val (.int p1), .val (.int p2), .val (.int p3), .val (.ref fc), .val (.ref mc), .val (.ref sf), .val (.ref sm), .val (.ref sa242), .val (.ref pr257), .val (.int (1 : Int32)), .val (.int (1 : Int32)), .val (.int (1 : Int32)), .unset] [(.ref sm)])) _
    refine GoOn.step (fun tq kq => XS.aload X289.here hx rfl (hb hby at_182) rfl rfl kq) ?_
    show GoOn p e below (T289.setTop (mkF m 184 #[.val (.int p0), .val (.int p1), .val (.int p2), .val (.int p3), .val (.ref fc), .val (.ref mc), .val (.ref sf), .val (.ref sm), .val (.ref sa242), .val (.ref pr257), .val (.int (1 : Int32)), .val (.int (1 : Int32)), .val (.int (1 : Int32)), .unset] [(.ref pr257), (.ref sm)])) _
    obtain ⟨cqc291, kqc291, qac291, qbc291, qcc291⟩ := isOf hZ e289 E257
    obtain ⟨_, _, ⟨T290, L290, k290, n290⟩, -, X290, ⟨Lc290, hQ290, l290, y290, z290⟩, st290⟩ := X289.virtualBack hx (y := (⟨"com/example/crosslode/crosslode/Problem", "message", "()Ljava/lang/String;"⟩ : MethodName)) (z := (⟨"com/example/crosslode/crosslode/Problem", "message", "()Ljava/lang/String;"⟩ : MethodName)) hown (mvT hZ (hw _ (List.mem_of_getElem? (i := 72) rfl))) (mvT hZ (hw _ (List.mem_of_getElem? (i := 73) rfl))) (notFace_of_selects (args := #[]) (mvT hZ (hw _ (List.mem_of_getElem? (i := 75) rfl)))) (mvT hZ (hw _ (List.mem_of_getElem? (i := 75) rfl))) (mvT hZ (hw _ (List.mem_of_getElem? (i := 74) rfl))) (by decide) (backOf (W := 1) (rmG_message l Z a0 hw pr257 (.ref sm) T257.heap n0 Z267 rfl Fd257) hZ (hw _ (List.mem_of_getElem? (i := 76) rfl)) (hw _ (List.mem_of_getElem? (i := 32) rfl)) (by decide) (by decide)) qac291 qcc291 (g := (mkF m 184 #[.val (.int p0), .val (.int p1), .val (.int p2), .val (.int p3), .val (.ref fc), .val (.ref mc), .val (.ref sf), .val (.ref sm), .val (.ref sa242), .val (.ref pr257), .val (.int (1 : Int32)), .val (.int (1 : Int32)), .val (.int (1 : Int32)), .unset] [(.ref pr257), (.ref sm)])) rfl (by rw [hml]; rfl) (Steps.refl _) (argsL := []) (rest := [(.ref sm)]) (lenOf own_pd98 rfl) rfl (by show 2 * 0 + _ ≤ _; exact Nat.le_of_eq rfl) (hb hby at_184) (fun _ _ => ⟨rfl, e289, (by decide : 9 + 0 ≤ _), (by decide : 25 + 0 ≤ _)⟩)
    dsimp only [Pt.U, Pt.locs, Pt.cells, Pt.slots] at X290 l290 y290 z290 st290 hQ290
    subst l290 y290 z290
    obtain ⟨rfl, N290, e290⟩ := hQ290
    refine GoOn.trans st290 ?_
    have N292 := Fr.app N288 N290
    show GoOn p e below (T290.setTop (mkF m 187 #[.val (.int p0), .val (.int p1), .val (.int p2), .val (.int p3), .val (.ref fc), .val (.ref mc), .val (.ref sf), .val (.ref sm), .val (.ref sa242), .val (.ref pr257), .val (.int (1 : Int32)), .val (.int (1 : Int32)), .val (.int (1 : Int32)), .unset] [(.ref sm), (.ref sm)])) _
    obtain ⟨cqc294, kqc294, qac294, qbc294, qcc294⟩ := isOf hZ e290 E272
    obtain ⟨_, _, ⟨T293, L293, k293, n293⟩, -, X293, ⟨Lc293, hQ293, l293, y293, z293⟩, st293⟩ := X290.virtualBack hx (y := (⟨"java/lang/String", "equals", "(Ljava/lang/Object;)Z"⟩ : MethodName)) (z := (⟨"java/lang/String", "equals", "(Ljava/lang/Object;)Z"⟩ : MethodName)) hown (mvT hZ (hw _ (List.mem_of_getElem? (i := 56) rfl))) (mvT hZ (hw _ (List.mem_of_getElem? (i := 57) rfl))) (notFace_of_selects (args := #[]) (mvT hZ (hw _ (List.mem_of_getElem? (i := 59) rfl)))) (mvT hZ (hw _ (List.mem_of_getElem? (i := 59) rfl))) (mvT hZ (hw _ (List.mem_of_getElem? (i := 58) rfl))) (by decide) (backOf (W := 0) (rmEqId l Z a0 hw sm T257.heap n0 Z267) hZ (hw _ (List.mem_of_getElem? (i := 60) rfl)) (hw _ (List.mem_of_getElem? (i := 3) rfl)) (by decide) (by decide)) qac294 qcc294 (g := (mkF m 187 #[.val (.int p0), .val (.int p1), .val (.int p2), .val (.int p3), .val (.ref fc), .val (.ref mc), .val (.ref sf), .val (.ref sm), .val (.ref sa242), .val (.ref pr257), .val (.int (1 : Int32)), .val (.int (1 : Int32)), .val (.int (1 : Int32)), .unset] [(.ref sm), (.ref sm)])) rfl (by rw [hml]; rfl) (Steps.refl _) (argsL := [(.ref sm)]) (rest := []) (lenOf own_pd99 rfl) rfl (by show 2 * 0 + _ ≤ _; exact Nat.le_of_eq rfl) (hb hby at_187) (fun _ _ => ⟨rfl, e290, (by decide : 9 + 0 ≤ _), (by decide : 25 + 0 ≤ _)⟩)
    dsimp only [Pt.U, Pt.locs, Pt.cells, Pt.slots] at X293 l293 y293 z293 st293 hQ293
    subst l293 y293 z293
    obtain ⟨rfl, N293, e293⟩ := hQ293
    refine GoOn.trans st293 ?_
    have N295 := Fr.app N292 N293
    show GoOn p e below (T293.setTop (mkF m 190 #[.val (.int p0), .val (.int p1), .val (.int p2), .val (.int p3), .val (.ref fc), .val (.ref mc), .val (.ref sf), .val (.ref sm), .val (.ref sa242), .val (.ref pr257), .val (.int (1 : Int32)), .val (.int (1 : Int32)), .val (.int (1 : Int32)), .unset] [(.int (1 : Int32))])) _
    refine GoOn.step (fun tq kq => XS.istore X293.here hx rfl (hb hby at_190) rfl (l' := #[.val (.int p0), .val (.int p1), .val (.int p2), .val (.int p3), .val (.ref fc), .val (.ref mc), .val (.ref sf), .val (.ref sm), .val (.ref sa242), .val (.ref pr257), .val (.int (1 : Int32)), .val (.int (1 : Int32)), .val (.int (1 : Int32)), .val (.int (1 : Int32))]) rfl kq) ?_
    show GoOn p e below (T293.setTop (mkF m 192 #[.val (.int p0), .val (.int p1), .val (.int p2), .val (.int p3), .val (.ref fc), .val (.ref mc), .val (.ref sf), .val (.ref sm), .val (.ref sa242), .val (.ref pr257), .val (.int (1 : Int32)), .val (.int (1 : Int32)), .val (.int (1 : Int32)), .val (.int (1 : Int32))] [])) _
    refine GoOn.step (fun tq kq => XS.iload X293.here hx rfl (hb hby at_192) rfl kq) ?_
    show GoOn p e below (T293.setTop (mkF m 194 #[.val (.int p0), .val (.int p1), .val (.int p2), .val (.int p3), .val (.ref fc), .val (.ref mc), .val (.ref sf), .val (.ref sm), .val (.ref sa242), .val (.ref pr257), .val (.int (1 : Int32)), .val (.int (1 : Int32)), .val (.int (1 : Int32)), .val (.int (1 : Int32))] [(.int (1 : Int32))])) _
    refine GoOn.step (fun tq kq => XS.ifNo X293.here hx rfl (hb hby at_194) rfl ((if0 _ _).trans (feq (by decide)).1) kq) ?_
    show GoOn p e below (T293.setTop (mkF m 197 #[.val (.int p0), .val (.int p1), .val (.int p2), .val (.int p3), .val (.ref fc), .val (.ref mc), .val (.ref sf), .val (.ref sm), .val (.ref sa242), .val (.ref pr257), .val (.int (1 : Int32)), .val (.int (1 : Int32)), .val (.int (1 : Int32)), .val (.int (1 : Int32))] [])) _
    refine GoOn.step (fun tq kq => XS.iload X293.here hx rfl (hb hby at_197) rfl kq) ?_
    show GoOn p e below (T293.setTop (mkF m 199 #[.val (.int p0), .val (.int p1), .val (.int p2), .val (.int p3), .val (.ref fc), .val (.ref mc), .val (.ref sf), .val (.ref sm), .val (.ref sa242), .val (.ref pr257), .val (.int (1 : Int32)), .val (.int (1 : Int32)), .val (.int (1 : Int32)), .val (.int (1 : Int32))] [(.int (1 : Int32))])) _
    refine GoOn.step (fun tq kq => XS.ifNo X293.here hx rfl (hb hby at_199) rfl ((if0 _ _).trans (feq (by decide)).1) kq) ?_
    show GoOn p e below (T293.setTop (mkF m 202 #[.val (.int p0), .val (.int p1), .val (.int p2), .val (.int p3), .val (.ref fc), .val (.ref mc), .val (.ref sf), .val (.ref sm), .val (.ref sa242), .val (.ref pr257), .val (.int (1 : Int32)), .val (.int (1 : Int32)), .val (.int (1 : Int32)), .val (.int (1 : Int32))] [])) _
    refine GoOn.step (fun tq kq => XS.iload X293.here hx rfl (hb hby at_202) rfl kq) ?_
    show GoOn p e below (T293.setTop (mkF m 204 #[.val (.int p0), .val (.int p1), .val (.int p2), .val (.int p3), .val (.ref fc), .val (.ref mc), .val (.ref sf), .val (.ref sm), .val (.ref sa242), .val (.ref pr257), .val (.int (1 : Int32)), .val (.int (1 : Int32)), .val (.int (1 : Int32)), .val (.int (1 : Int32))] [(.int (1 : Int32))])) _
    refine GoOn.step (fun tq kq => XS.ifNo X293.here hx rfl (hb hby at_204) rfl ((if0 _ _).trans (feq (by decide)).1) kq) ?_
    show GoOn p e below (T293.setTop (mkF m 207 #[.val (.int p0), .val (.int p1), .val (.int p2), .val (.int p3), .val (.ref fc), .val (.ref mc), .val (.ref sf), .val (.ref sm), .val (.ref sa242), .val (.ref pr257), .val (.int (1 : Int32)), .val (.int (1 : Int32)), .val (.int (1 : Int32)), .val (.int (1 : Int32))] [])) _
    refine GoOn.step (fun tq kq => XS.iload X293.here hx rfl (hb hby at_207) rfl kq) ?_
    show GoOn p e below (T293.setTop (mkF m 209 #[.val (.int p0), .val (.int p1), .val (.int p2), .val (.int p3), .val (.ref fc), .val (.ref mc), .val (.ref sf), .val (.ref sm), .val (.ref sa242), .val (.ref pr257), .val (.int (1 : Int32)), .val (.int (1 : Int32)), .val (.int (1 : Int32)), .val (.int (1 : Int32))] [(.int (1 : Int32))])) _
    refine GoOn.step (fun tq kq => XS.ifNo X293.here hx rfl (hb hby at_209) rfl ((if0 _ _).trans (feq (by decide)).1) kq) ?_
    show GoOn p e below (T293.setTop (mkF m 212 #[.val (.int p0), .val (.int p1), .val (.int p2), .val (.int p3), .val (.ref fc), .val (.ref mc), .val (.ref sf), .val (.ref sm), .val (.ref sa242), .val (.ref pr257), .val (.int (1 : Int32)), .val (.int (1 : Int32)), .val (.int (1 : Int32)), .val (.int (1 : Int32))] [])) _
    refine GoOn.step (fun tq kq => XS.iconst X293.here hx rfl (hb hby at_212) kq) ?_
    show GoOn p e below (T293.setTop (mkF m 213 #[.val (.int p0), .val (.int p1), .val (.int p2), .val (.int p3), .val (.ref fc), .val (.ref mc), .val (.ref sf), .val (.ref sm), .val (.ref sa242), .val (.ref pr257), .val (.int (1 : Int32)), .val (.int (1 : Int32)), .val (.int (1 : Int32)), .val (.int (1 : Int32))] [(.int (1 : Int32))])) _
    refine GoOn.step (fun tq kq => XS.goto X293.here hx rfl (pc0 := 213) (pc' := 217) rfl (hb hby at_213) (by decide) (by decide) kq) ?_
    show GoOn p e below (T293.setTop (mkF m 217 #[.val (.int p0), .val (.int p1), .val (.int p2), .val (.int p3), .val (.ref fc), .val (.ref mc), .val (.ref sf), .val (.ref sm), .val (.ref sa242), .val (.ref pr257), .val (.int (1 : Int32)), .val (.int (1 : Int32)), .val (.int (1 : Int32)), .val (.int (1 : Int32))] [(.int (1 : Int32))])) _
    refine GoOn.ret X293 Bd.notSynchronized (v := some (.int (nar .boolean (1 : Int32)))) (fun h => by rw [Bd.returns] at h; cases h) (fun fs hr => retN X293 hx (t := .boolean) Bd.returns (by simp) (hb hby at_217) hr) (by decide) (by decide) ?_
    rw [e293]
    exact ⟨rfl, N295⟩
  · skip
    refine GoOn.step (fun tq kq => XS.ifNo X230.here hx rfl (hb hby at_81) rfl ((if0 _ _).trans (feq hc241).1) kq) ?_
    show GoOn p e below (T230.setTop (mkF m 84 #[.val (.int p0), .val (.int p1), .val (.int p2), .val (.int p3), .val (.ref fc), .val (.ref mc), .val (.ref sf), .val (.ref sm), .unset, .unset, .unset, .unset, .unset, .unset] [])) _
    refine GoOn.step (fun tq kq => XS.aconstNull X230.here hx rfl (hb hby at_84) kq) ?_
    show GoOn p e below (T230.setTop (mkF m 85 #[.val (.int p0), .val (.int p1), .val (.int p2), .val (.int p3), .val (.ref fc), .val (.ref mc), .val (.ref sf), .val (.ref sm), .unset, .unset, .unset, .unset, .unset, .unset] [.null])) _
    refine GoOn.step (fun tq kq => XS.goto X230.here hx rfl (pc0 := 85) (pc' := 97) rfl (hb hby at_85) (by decide) (by decide) kq) ?_
    show GoOn p e below (T230.setTop (mkF m 97 #[.val (.int p0), .val (.int p1), .val (.int p2), .val (.int p3), .val (.ref fc), .val (.ref mc), .val (.ref sf), .val (.ref sm), .unset, .unset, .unset, .unset, .unset, .unset] [.null])) _
    refine GoOn.step (fun tq kq => XS.astore X230.here hx rfl (hb hby at_97) rfl rfl (l' := #[.val (.int p0), .val (.int p1), .val (.int p2), .val (.int p3), .val (.ref fc), .val (.ref mc), .val (.ref sf), .val (.ref sm), .val .null, .unset, .unset, .unset, .unset, .unset]) rfl kq) ?_
    show GoOn p e below (T230.setTop (mkF m 99 #[.val (.int p0), .val (.int p1), .val (.int p2), .val (.int p3), .val (.ref fc), .val (.ref mc), .val (.ref sf), .val (.ref sm), .val .null, .unset, .unset, .unset, .unset, .unset] [])) _
    refine GoOn.step (fun tq kq => XS.aload X230.here hx rfl (hb hby at_99) rfl rfl kq) ?_
    show GoOn p e below (T230.setTop (mkF m 101 #[.val (.int p0), .val (.int p1), .val (.int p2), .val (.int p3), .val (.ref fc), .val (.ref mc), .val (.ref sf), .val (.ref sm), .val .null, .unset, .unset, .unset, .unset, .unset] [(.ref sf)])) _
    refine GoOn.step (fun tq kq => XS.aload X230.here hx rfl (hb hby at_101) rfl rfl kq) ?_
    show GoOn p e below (T230.setTop (mkF m 103 #[.val (.int p0), .val (.int p1), .val (.int p2), .val (.int p3), .val (.ref fc), .val (.ref mc), .val (.ref sf), .val (.ref sm), .val .null, .unset, .unset, .unset, .unset, .unset] [.null, (.ref sf)])) _
    refine GoOn.step (fun tq kq => XS.aload X230.here hx rfl (hb hby at_103) rfl rfl kq) ?_
    show GoOn p e below (T230.setTop (mkF m 105 #[.val (.int p0), .val (.int p1), .val (.int p2), .val (.int p3), .val (.ref fc), .val (.ref mc), .val (.ref sf), .val (.ref sm), .val .null, .unset, .unset, .unset, .unset, .unset] [(.ref sm), .null, (.ref sf)])) _
    obtain ⟨_, _, ⟨T296, L296, k296, n296⟩, -, X296, ⟨Lc296, hQ296, l296, y296, z296⟩, st296⟩ := Jvm.LawKit.callS X230 hx (y := (⟨"com/example/crosslode/crosslode/Problem", "warning", "(Ljava/lang/String;Ljava/lang/String;Ljava/lang/String;)Lcom/example/crosslode/crosslode/Problem;"⟩ : MethodName)) hown (mvT hZ (hw _ (List.mem_of_getElem? (i := 30) rfl))) (mvT hZ (hw _ (List.mem_of_getElem? (i := 31) rfl))) (mvT hZ (hw _ (List.mem_of_getElem? (i := 32) rfl))) (mvT hZ (hw _ (List.mem_of_getElem? (i := 33) rfl))) (by decide) (backOf (W := 0) (rmErr l Z a0 hw (.ref sf) .null (.ref sm) le T230.heap n0 Z233 rfl rfl rfl SE O232) hZ (hw _ (List.mem_of_getElem? (i := 33) rfl)) (hw _ (List.mem_of_getElem? (i := 32) rfl)) (by decide) (by decide)) (g := (mkF m 105 #[.val (.int p0), .val (.int p1), .val (.int p2), .val (.int p3), .val (.ref fc), .val (.ref mc), .val (.ref sf), .val (.ref sm), .val .null, .unset, .unset, .unset, .unset, .unset] [(.ref sm), .null, (.ref sf)])) rfl (by rw [hml]; rfl) (argsL := [(.ref sf), .null, (.ref sm)]) (rest := []) (lenOf own_pd97 rfl) rfl (by show 2 * 0 + _ ≤ _; exact Nat.le_of_eq rfl) (hb hby at_105) (fun _ _ => ⟨rfl, rfl, (by decide : 6 + 1 ≤ _), (by decide : 16 + 4 ≤ _)⟩)
    dsimp only [Pt.U, Pt.locs, Pt.cells, Pt.slots] at X296 l296 y296 z296 st296 hQ296
    subst l296 y296 z296
    obtain ⟨pr296, rfl, N296, K296, ge296, E296, Fa296, Fb296, Fc296, Fd296⟩ := hQ296
    refine GoOn.step st296 ?_
    have N297 := Fr.app N231 N296
    have gn298 : n0 ≤ pr296 := Nat.le_trans Z233 ge296
    have sz299 : h0.size ≤ pr296 := Nat.le_trans K234.1 ge296
    have ne300 : fc ≠ pr296 := Nat.ne_of_lt (Nat.lt_of_lt_of_le V235.lt ge296)
    have ne301 : mc ≠ pr296 := Nat.ne_of_lt (Nat.lt_of_lt_of_le V236.lt ge296)
    have ne302 : sf ≠ pr296 := Nat.ne_of_lt (Nat.lt_of_lt_of_le E237.lt ge296)
    have ne303 : sm ≠ pr296 := Nat.ne_of_lt (Nat.lt_of_lt_of_le E238.lt ge296)
    have O304 : Old Z n0 T296.heap := O232.keep K296 all0
    have Z305 : n0 ≤ T296.heap.size := Nat.le_trans Z233 K296.1
    have K306 : Keep h0 T296.heap [] := K234.trans K296 (all0)
    have V307 : Arv Z T296.heap fc k142 .char (2 : Int32) [(.int (nar .char (((p0 &&& (255 : Int32))).toUInt32.toUInt16.toUInt32.toInt32))), (.int (nar .char ((((((p0).toUInt32 >>> ((8 : Int32) &&& 31).toUInt32).toInt32) &&& (255 : Int32))).toUInt32.toUInt16.toUInt32.toInt32)))] (.int (0 : Int32)) := V235.keep K296 nin0
    have V308 : Arv Z T296.heap mc k165 .char (2 : Int32) [(.int (nar .char (((p2 &&& (255 : Int32))).toUInt32.toUInt16.toUInt32.toInt32))), (.int (nar .char ((((((p2).toUInt32 >>> ((8 : Int32) &&& 31).toUInt32).toInt32) &&& (255 : Int32))).toUInt32.toUInt16.toUInt32.toInt32)))] (.int (0 : Int32)) := V236.keep K296 nin0
    have E309 : Exa Z T296.heap sf "java/lang/String" := E237.keep K296
    have E310 : Exa Z T296.heap sm "java/lang/String" := E238.keep K296
    show GoOn p e below (T296.setTop (mkF m 108 #[.val (.int p0), .val (.int p1), .val (.int p2), .val (.int p3), .val (.ref fc), .val (.ref mc), .val (.ref sf), .val (.ref sm), .val .null, .unset, .unset, .unset, .unset, .unset] [(.ref pr296)])) _
    refine GoOn.step (fun tq kq => XS.astore X296.here hx rfl (hb hby at_108) rfl rfl (l' := #[.val (.int p0), .val (.int p1), .val (.int p2), .val (.int p3), .val (.ref fc), .val (.ref mc), .val (.ref sf), .val (.ref sm), .val .null, .val (.ref pr296), .unset, .unset, .unset, .unset]) rfl kq) ?_
    show GoOn p e below (T296.setTop (mkF m 110 #[.val (.int p0), .val (.int p1), .val (.int p2), .val (.int p3), .val (.ref fc), .val (.ref mc), .val (.ref sf), .val (.ref sm), .val .null, .val (.ref pr296), .unset, .unset, .unset, .unset] [])) _
    refine GoOn.step (fun tq kq => XS.aload X296.here hx rfl (hb hby at_110) rfl rfl kq) ?_
    show GoOn p e below (T296.setTop (mkF m 112 #[.val (.int p0), .val (.int p1), .val (.int p2), .val (.int p3), .val (.ref fc), .val (.ref mc), .val (.ref sf), .val (.ref sm), .val .null, .val (.ref pr296), .unset, .unset, .unset, .unset] [(.ref pr296)])) _
    refine GoOn.step (fun tq kq => XS.ifnonnullYes X296.here hx rfl (pc0 := 112) (pc' := 117) rfl (hb hby at_112) rfl (by decide) (by decide) kq) ?_
    show GoOn p e below (T296.setTop (mkF m 117 #[.val (.int p0), .val (.int p1), .val (.int p2), .val (.int p3), .val (.ref fc), .val (.ref mc), .val (.ref sf), .val (.ref sm), .val .null, .val (.ref pr296), .unset, .unset, .unset, .unset] [])) _
    refine GoOn.step (fun tq kq => XS.aload X296.here hx rfl (hb hby at_117) rfl rfl kq) ?_
    show GoOn p e below (T296.setTop (mkF m 119 #[.val (.int p0), .val (.int p1), .val (.int p2), .val (.int p3), .val (.ref fc), .val (.ref mc), .val (.ref sf), .val (.ref sm), .val .null, .val (.ref pr296), .unset, .unset, .unset, .unset] [(.ref sf)])) _
    refine GoOn.step (fun tq kq => XS.aload X296.here hx rfl (hb hby at_119) rfl rfl kq) ?_
    show GoOn p e below (T296.setTop (mkF m 121 #[.val (.int p0), .val (.int p1), .val (.int p2), .val (.int p3), .val (.ref fc), .val (.ref mc), .val (.ref sf), .val (.ref sm), .val .null, .val (.ref pr296), .unset, .unset, .unset, .unset] [(.ref pr296), (.ref sf)])) _
    obtain ⟨cqc312, kqc312, qac312, qbc312, qcc312⟩ := isOf hZ rfl E296
    obtain ⟨_, _, ⟨T311, L311, k311, n311⟩, -, X311, ⟨Lc311, hQ311, l311, y311, z311⟩, st311⟩ := X296.virtualBack hx (y := (⟨"com/example/crosslode/crosslode/Problem", "file", "()Ljava/lang/String;"⟩ : MethodName)) (z := (⟨"com/example/crosslode/crosslode/Problem", "file", "()Ljava/lang/String;"⟩ : MethodName)) hown (mvT hZ (hw _ (List.mem_of_getElem? (i := 51) rfl))) (mvT hZ (hw _ (List.mem_of_getElem? (i := 52) rfl))) (notFace_of_selects (args := #[]) (mvT hZ (hw _ (List.mem_of_getElem? (i := 54) rfl)))) (mvT hZ (hw _ (List.mem_of_getElem? (i := 54) rfl))) (mvT hZ (hw _ (List.mem_of_getElem? (i := 53) rfl))) (by decide) (backOf (W := 1) (rmG_file l Z a0 hw pr296 (.ref sf) T296.heap n0 Z305 rfl Fa296) hZ (hw _ (List.mem_of_getElem? (i := 55) rfl)) (hw _ (List.mem_of_getElem? (i := 32) rfl)) (by decide) (by decide)) qac312 qcc312 (g := (mkF m 121 #[.val (.int p0), .val (.int p1), .val (.int p2), .val (.int p3), .val (.ref fc), .val (.ref mc), .val (.ref sf), .val (.ref sm), .val .null, .val (.ref pr296), .unset, .unset, .unset, .unset] [(.ref pr296), (.ref sf)])) rfl (by rw [hml]; rfl) (Steps.refl _) (argsL := []) (rest := [(.ref sf)]) (lenOf own_pd98 rfl) rfl (by show 2 * 0 + _ ≤ _; exact Nat.le_of_eq rfl) (hb hby at_121) (fun _ _ => ⟨rfl, rfl, (by decide : 7 + 0 ≤ _), (by decide : 20 + 0 ≤ _)⟩)
    dsimp only [Pt.U, Pt.locs, Pt.cells, Pt.slots] at X311 l311 y311 z311 st311 hQ311
    subst l311 y311 z311
    obtain ⟨rfl, N311, e311⟩ := hQ311
    refine GoOn.trans st311 ?_
    have N313 := Fr.app N297 N311
    show GoOn p e below (T311.setTop (mkF m 124 #[.val (.int p0), .val (.int p1), .val (.int p2), .val (.int p3), .val (.ref fc), .val (.ref mc), .val (.ref sf), .val (.ref sm), .val .null, .val (.ref pr296), .unset, .unset, .unset, .unset] [(.ref sf), (.ref sf)])) _
    obtain ⟨cqc315, kqc315, qac315, qbc315, qcc315⟩ := isOf hZ e311 E309
    obtain ⟨_, _, ⟨T314, L314, k314, n314⟩, -, X314, ⟨Lc314, hQ314, l314, y314, z314⟩, st314⟩ := X311.virtualBack hx (y := (⟨"java/lang/String", "equals", "(Ljava/lang/Object;)Z"⟩ : MethodName)) (z := (⟨"java/lang/String", "equals", "(Ljava/lang/Object;)Z"⟩ : MethodName)) hown (mvT hZ (hw _ (List.mem_of_getElem? (i := 56) rfl))) (mvT hZ (hw _ (List.mem_of_getElem? (i := 57) rfl))) (notFace_of_selects (args := #[]) (mvT hZ (hw _ (List.mem_of_getElem? (i := 59) rfl)))) (mvT hZ (hw _ (List.mem_of_getElem? (i := 59) rfl))) (mvT hZ (hw _ (List.mem_of_getElem? (i := 58) rfl))) (by decide) (backOf (W := 0) (rmEqId l Z a0 hw sf T296.heap n0 Z305) hZ (hw _ (List.mem_of_getElem? (i := 60) rfl)) (hw _ (List.mem_of_getElem? (i := 3) rfl)) (by decide) (by decide)) qac315 qcc315 (g := (mkF m 124 #[.val (.int p0), .val (.int p1), .val (.int p2), .val (.int p3), .val (.ref fc), .val (.ref mc), .val (.ref sf), .val (.ref sm), .val .null, .val (.ref pr296), .unset, .unset, .unset, .unset] [(.ref sf), (.ref sf)])) rfl (by rw [hml]; rfl) (Steps.refl _) (argsL := [(.ref sf)]) (rest := []) (lenOf own_pd99 rfl) rfl (by show 2 * 0 + _ ≤ _; exact Nat.le_of_eq rfl) (hb hby at_124) (fun _ _ => ⟨rfl, e311, (by decide : 7 + 0 ≤ _), (by decide : 20 + 0 ≤ _)⟩)
    dsimp only [Pt.U, Pt.locs, Pt.cells, Pt.slots] at X314 l314 y314 z314 st314 hQ314
    subst l314 y314 z314
    obtain ⟨rfl, N314, e314⟩ := hQ314
    refine GoOn.trans st314 ?_
    have N316 := Fr.app N313 N314
    show GoOn p e below (T314.setTop (mkF m 127 #[.val (.int p0), .val (.int p1), .val (.int p2), .val (.int p3), .val (.ref fc), .val (.ref mc), .val (.ref sf), .val (.ref sm), .val .null, .val (.ref pr296), .unset, .unset, .unset, .unset] [(.int (1 : Int32))])) _
    refine GoOn.step (fun tq kq => XS.istore X314.here hx rfl (hb hby at_127) rfl (l' := #[.val (.int p0), .val (.int p1), .val (.int p2), .val (.int p3), .val (.ref fc), .val (.ref mc), .val (.ref sf), .val (.ref sm), .val .null, .val (.ref pr296), .val (.int (1 : Int32)), .unset, .unset, .unset]) rfl kq) ?_
    show GoOn p e below (T314.setTop (mkF m 129 #[.val (.int p0), .val (.int p1), .val (.int p2), .val (.int p3), .val (.ref fc), .val (.ref mc), .val (.ref sf), .val (.ref sm), .val .null, .val (.ref pr296), .val (.int (1 : Int32)), .unset, .unset, .unset] [])) _
    refine GoOn.step (fun tq kq => XS.aload X314.here hx rfl (hb hby at_129) rfl rfl kq) ?_
    show GoOn p e below (T314.setTop (mkF m 131 #[.val (.int p0), .val (.int p1), .val (.int p2), .val (.int p3), .val (.ref fc), .val (.ref mc), .val (.ref sf), .val (.ref sm), .val .null, .val (.ref pr296), .val (.int (1 : Int32)), .unset, .unset, .unset] [.null])) _
    refine GoOn.step (fun tq kq => XS.ifnonnullNo X314.here hx rfl (hb hby at_131) rfl kq) ?_
    show GoOn p e below (T314.setTop (mkF m 134 #[.val (.int p0), .val (.int p1), .val (.int p2), .val (.int p3), .val (.ref fc), .val (.ref mc), .val (.ref sf), .val (.ref sm), .val .null, .val (.ref pr296), .val (.int (1 : Int32)), .unset, .unset, .unset] [])) _
    refine GoOn.step (fun tq kq => XS.aload X314.here hx rfl (hb hby at_134) rfl rfl kq) ?_
    show GoOn p e below (T314.setTop (mkF m 136 #[.val (.int p0), .val (.int p1), .val (.int p2), .val (.int p3), .val (.ref fc), .val (.ref mc), .val (.ref sf), .val (.ref sm), .val .null, .val (.ref pr296), .val (.int (1 : Int32)), .unset, .unset, .unset] [(.ref pr296)])) _
    obtain ⟨cqc318, kqc318, qac318, qbc318, qcc318⟩ := isOf hZ e314 E296
    obtain ⟨_, _, ⟨T317, L317, k317, n317⟩, -, X317, ⟨Lc317, hQ317, l317, y317, z317⟩, st317⟩ := X314.virtualBack hx (y := (⟨"com/example/crosslode/crosslode/Problem", "record", "()Ljava/lang/String;"⟩ : MethodName)) (z := (⟨"com/example/crosslode/crosslode/Problem", "record", "()Ljava/lang/String;"⟩ : MethodName)) hown (mvT hZ (hw _ (List.mem_of_getElem? (i := 61) rfl))) (mvT hZ (hw _ (List.mem_of_getElem? (i := 62) rfl))) (notFace_of_selects (args := #[]) (mvT hZ (hw _ (List.mem_of_getElem? (i := 64) rfl)))) (mvT hZ (hw _ (List.mem_of_getElem? (i := 64) rfl))) (mvT hZ (hw _ (List.mem_of_getElem? (i := 63) rfl))) (by decide) (backOf (W := 0) (rmG_record l Z a0 hw pr296 .null T296.heap n0 Z305 rfl Fb296) hZ (hw _ (List.mem_of_getElem? (i := 65) rfl)) (hw _ (List.mem_of_getElem? (i := 32) rfl)) (by decide) (by decide)) qac318 qcc318 (g := (mkF m 136 #[.val (.int p0), .val (.int p1), .val (.int p2), .val (.int p3), .val (.ref fc), .val (.ref mc), .val (.ref sf), .val (.ref sm), .val .null, .val (.ref pr296), .val (.int (1 : Int32)), .unset, .unset, .unset] [(.ref pr296)])) rfl (by rw [hml]; rfl) (Steps.refl _) (argsL := []) (rest := []) (lenOf own_pd98 rfl) rfl (by show 2 * 0 + _ ≤ _; exact Nat.le_of_eq rfl) (hb hby at_136) (fun _ _ => ⟨rfl, e314, (by decide : 7 + 0 ≤ _), (by decide : 20 + 0 ≤ _)⟩)
    dsimp only [Pt.U, Pt.locs, Pt.cells, Pt.slots] at X317 l317 y317 z317 st317 hQ317
    subst l317 y317 z317
    obtain ⟨rfl, N317, e317⟩ := hQ317
    refine GoOn.trans st317 ?_
    have N319 := Fr.app N316 N317
    show GoOn p e below (T317.setTop (mkF m 139 #[.val (.int p0), .val (.int p1), .val (.int p2), .val (.int p3), .val (.ref fc), .val (.ref mc), .val (.ref sf), .val (.ref sm), .val .null, .val (.ref pr296), .val (.int (1 : Int32)), .unset, .unset, .unset] [.null])) _
    refine GoOn.step (fun tq kq => XS.ifnonnullNo X317.here hx rfl (hb hby at_139) rfl kq) ?_
    show GoOn p e below (T317.setTop (mkF m 142 #[.val (.int p0), .val (.int p1), .val (.int p2), .val (.int p3), .val (.ref fc), .val (.ref mc), .val (.ref sf), .val (.ref sm), .val .null, .val (.ref pr296), .val (.int (1 : Int32)), .unset, .unset, .unset] [])) _
    refine GoOn.step (fun tq kq => XS.iconst X317.here hx rfl (hb hby at_142) kq) ?_
    show GoOn p e below (T317.setTop (mkF m 143 #[.val (.int p0), .val (.int p1), .val (.int p2), .val (.int p3), .val (.ref fc), .val (.ref mc), .val (.ref sf), .val (.ref sm), .val .null, .val (.ref pr296), .val (.int (1 : Int32)), .unset, .unset, .unset] [(.int (1 : Int32))])) _
    refine GoOn.step (fun tq kq => XS.goto X317.here hx rfl (pc0 := 143) (pc' := 160) rfl (hb hby at_143) (by decide) (by decide) kq) ?_
    show GoOn p e below (T317.setTop (mkF m 160 #[.val (.int p0), .val (.int p1), .val (.int p2), .val (.int p3), .val (.ref fc), .val (.ref mc), .val (.ref sf), .val (.ref sm), .val .null, .val (.ref pr296), .val (.int (1 : Int32)), .unset, .unset, .unset] [(.int (1 : Int32))])) _
    refine GoOn.step (fun tq kq => XS.istore X317.here hx rfl (hb hby at_160) rfl (l' := #[.val (.int p0), .val (.int p1), .val (.int p2), .val (.int p3), .val (.ref fc), .val (.ref mc), .val (.ref sf), .val (.ref sm), .val .null, .val (.ref pr296), .val (.int (1 : Int32)), .val (.int (1 : Int32)), .unset, .unset]) rfl kq) ?_
    show GoOn p e below (T317.setTop (mkF m 162 #[.val (.int p0), .val (.int p1), .val (.int p2), .val (.int p3), .val (.ref fc), .val (.ref mc), .val (.ref sf), .val (.ref sm), .val .null, .val (.ref pr296), .val (.int (1 : Int32)), .val (.int (1 : Int32)), .unset, .unset] [])) _
    refine GoOn.step (fun tq kq => XS.aload X317.here hx rfl (hb hby at_162) rfl rfl kq) ?_
    show GoOn p e below (T317.setTop (mkF m 164 #[.val (.int p0), .val (.int p1), .val (.int p2), .val (.int p3), .val (.ref fc), .val (.ref mc), .val (.ref sf), .val (.ref sm), .val .null, .val (.ref pr296), .val (.int (1 : Int32)), .val (.int (1 : Int32)), .unset, .unset] [(.ref pr296)])) _
    obtain ⟨cqc321, kqc321, qac321, qbc321, qcc321⟩ := isOf hZ e317 E296
    obtain ⟨_, _, ⟨T320, L320, k320, n320⟩, -, X320, ⟨Lc320, hQ320, l320, y320, z320⟩, st320⟩ := X317.virtualBack hx (y := (⟨"com/example/crosslode/crosslode/Problem", "level", "()Lcom/example/crosslode/crosslode/Problem$Level;"⟩ : MethodName)) (z := (⟨"com/example/crosslode/crosslode/Problem", "level", "()Lcom/example/crosslode/crosslode/Problem$Level;"⟩ : MethodName)) hown (mvT hZ (hw _ (List.mem_of_getElem? (i := 66) rfl))) (mvT hZ (hw _ (List.mem_of_getElem? (i := 67) rfl))) (notFace_of_selects (args := #[]) (mvT hZ (hw _ (List.mem_of_getElem? (i := 69) rfl)))) (mvT hZ (hw _ (List.mem_of_getElem? (i := 69) rfl))) (mvT hZ (hw _ (List.mem_of_getElem? (i := 68) rfl))) (by decide) (backOf (W := 0) (rmG_level l Z a0 hw pr296 (.ref le) T296.heap n0 Z305 rfl Fc296) hZ (hw _ (List.mem_of_getElem? (i := 70) rfl)) (hw _ (List.mem_of_getElem? (i := 32) rfl)) (by decide) (by decide)) qac321 qcc321 (g := (mkF m 164 #[.val (.int p0), .val (.int p1), .val (.int p2), .val (.int p3), .val (.ref fc), .val (.ref mc), .val (.ref sf), .val (.ref sm), .val .null, .val (.ref pr296), .val (.int (1 : Int32)), .val (.int (1 : Int32)), .unset, .unset] [(.ref pr296)])) rfl (by rw [hml]; rfl) (Steps.refl _) (argsL := []) (rest := []) (lenOf own_pd100 rfl) rfl (by show 2 * 0 + _ ≤ _; exact Nat.le_of_eq rfl) (hb hby at_164) (fun _ _ => ⟨rfl, e317, (by decide : 7 + 0 ≤ _), (by decide : 20 + 0 ≤ _)⟩)
    dsimp only [Pt.U, Pt.locs, Pt.cells, Pt.slots] at X320 l320 y320 z320 st320 hQ320
    subst l320 y320 z320
    obtain ⟨rfl, N320, e320⟩ := hQ320
    refine GoOn.trans st320 ?_
    have N322 := Fr.app N319 N320
    show GoOn p e below (T320.setTop (mkF m 167 #[.val (.int p0), .val (.int p1), .val (.int p2), .val (.int p3), .val (.ref fc), .val (.ref mc), .val (.ref sf), .val (.ref sm), .val .null, .val (.ref pr296), .val (.int (1 : Int32)), .val (.int (1 : Int32)), .unset, .unset] [(.ref le)])) _
    obtain ⟨T323, X323, e323, st323⟩ := getS2 X320 hx hZ hown (host := "") (Or.inl (hw _ (List.mem_of_getElem? (i := 71) rfl))) Via.refl e320 (SE.ext O304.2) (g := (mkF m 167 #[.val (.int p0), .val (.int p1), .val (.int p2), .val (.int p3), .val (.ref fc), .val (.ref mc), .val (.ref sf), .val (.ref sm), .val .null, .val (.ref pr296), .val (.int (1 : Int32)), .val (.int (1 : Int32)), .unset, .unset] [(.ref le)])) rfl (hb hby at_167)
    refine GoOn.step st323 ?_
    show GoOn p e below (T323.setTop (mkF m 170 #[.val (.int p0), .val (.int p1), .val (.int p2), .val (.int p3), .val (.ref fc), .val (.ref mc), .val (.ref sf), .val (.ref sm), .val .null, .val (.ref pr296), .val (.int (1 : Int32)), .val (.int (1 : Int32)), .unset, .unset] [(.ref le), (.ref le)])) _
    refine GoOn.step (fun tq kq => Jvm.RoadKit.acmp (g := (mkF m 170 #[.val (.int p0), .val (.int p1), .val (.int p2), .val (.int p3), .val (.ref fc), .val (.ref mc), .val (.ref sf), .val (.ref sm), .val .null, .val (.ref pr296), .val (.int (1 : Int32)), .val (.int (1 : Int32)), .unset, .unset] [(.ref le), (.ref le)])) X323 hx rfl rfl rfl (pc0 := 170) (pc' := 173) (same := true) rfl (hb hby at_170) rfl (decide_eq_true rfl) (by decide) (by decide) kq) ?_
    show GoOn p e below (T323.setTop (mkF m 173 #[.val (.int p0), .val (.int p1), .val (.int p2), .val (.int p3), .val (.ref fc), .val (.ref mc), .val (.ref sf), .val (.ref sm), .val .null, .val (.ref pr296), .val (.int (1 : Int32)), .val (.int (1 : Int32)), .unset, .unset] [])) _
    refine GoOn.step (fun tq kq => XS.iconst X323.here hx rfl (hb hby at_173) kq) ?_
    show GoOn p e below (T323.setTop (mkF m 174 #[.val (.int p0), .val (.int p1), .val (.int p2), .val (.int p3), .val (.ref fc), .val (.ref mc), .val (.ref sf), .val (.ref sm), .val .null, .val (.ref pr296), .val (.int (1 : Int32)), .val (.int (1 : Int32)), .unset, .unset] [(.int (1 : Int32))])) _
    refine GoOn.step (fun tq kq => XS.goto X323.here hx rfl (pc0 := 174) (pc' := 178) rfl (hb hby at_174) (by decide) (by decide) kq) ?_
    show GoOn p e below (T323.setTop (mkF m 178 #[.val (.int p0), .val (.int p1), .val (.int p2), .val (.int p3), .val (.ref fc), .val (.ref mc), .val (.ref sf), .val (.ref sm), .val .null, .val (.ref pr296), .val (.int (1 : Int32)), .val (.int (1 : Int32)), .unset, .unset] [(.int (1 : Int32))])) _
    refine GoOn.step (fun tq kq => XS.istore X323.here hx rfl (hb hby at_178) rfl (l' := #[.val (.int p0), .val (.int p1), .val (.int p2), .val (.int p3), .val (.ref fc), .val (.ref mc), .val (.ref sf), .val (.ref sm), .val .null, .val (.ref pr296), .val (.int (1 : Int32)), .val (.int (1 : Int32)), .val (.int (1 : Int32)), .unset]) rfl kq) ?_
    show GoOn p e below (T323.setTop (mkF m 180 #[.val (.int p0), .val (.int p1), .val (.int p2), .val (.int p3), .val (.ref fc), .val (.ref mc), .val (.ref sf), .val (.ref sm), .val .null, .val (.ref pr296), .val (.int (1 : Int32)), .val (.int (1 : Int32)), .val (.int (1 : Int32)), .unset] [])) _
    refine GoOn.step (fun tq kq => XS.aload X323.here hx rfl (hb hby at_180) rfl rfl kq) ?_
    show GoOn p e below (T323.setTop (mkF m 182 #[.val (.int p0), .val (.int p1), .val (.int p2), .val (.int p3), .val (.ref fc), .val (.ref mc), .val (.ref sf), .val (.ref sm), .val .null, .val (.ref pr296), .val (.int (1 : Int32)), .val (.int (1 : Int32)), .val (.int (1 : Int32)), .unset] [(.ref sm)])) _
    refine GoOn.step (fun tq kq => XS.aload X323.here hx rfl (hb hby at_182) rfl rfl kq) ?_
    show GoOn p e below (T323.setTop (mkF m 184 #[.val (.int p0), .val (.int p1), .val (.int p2), .val (.int p3), .val (.ref fc), .val (.ref mc), .val (.ref sf), .val (.ref sm), .val .null, .val (.ref pr296), .val (.int (1 : Int32)), .val (.int (1 : Int32)), .val (.int (1 : Int32)), .unset] [(.ref pr296), (.ref sm)])) _
    obtain ⟨cqc325, kqc325, qac325, qbc325, qcc325⟩ := isOf hZ e323 E296
    obtain ⟨_, _, ⟨T324, L324, k324, n324⟩, -, X324, ⟨Lc324, hQ324, l324, y324, z324⟩, st324⟩ := X323.virtualBack hx (y := (⟨"com/example/crosslode/crosslode/Problem", "message", "()Ljava/lang/String;"⟩ : MethodName)) (z := (⟨"com/example/crosslode/crosslode/Problem", "message", "()Ljava/lang/String;"⟩ : MethodName)) hown (mvT hZ (hw _ (List.mem_of_getElem? (i := 72) rfl))) (mvT hZ (hw _ (List.mem_of_getElem? (i := 73) rfl))) (notFace_of_selects (args := #[]) (mvT hZ (hw _ (List.mem_of_getElem? (i := 75) rfl)))) (mvT hZ (hw _ (List.mem_of_getElem? (i := 75) rfl))) (mvT hZ (hw _ (List.mem_of_getElem? (i := 74) rfl))) (by decide) (backOf (W := 1) (rmG_message l Z a0 hw pr296 (.ref sm) T296.heap n0 Z305 rfl Fd296) hZ (hw _ (List.mem_of_getElem? (i := 76) rfl)) (hw _ (List.mem_of_getElem? (i := 32) rfl)) (by decide) (by decide)) qac325 qcc325 (g := (mkF m 184 #[.val (.int p0), .val (.int p1), .val (.int p2), .val (.int p3), .val (.ref fc), .val (.ref mc), .val (.ref sf), .val (.ref sm), .val .null, .val (.ref pr296), .val (.int (1 : Int32)), .val (.int (1 : Int32)), .val (.int (1 : Int32)), .unset] [(.ref pr296), (.ref sm)])) rfl (by rw [hml]; rfl) (Steps.refl _) (argsL := []) (rest := [(.ref sm)]) (lenOf own_pd98 rfl) rfl (by show 2 * 0 + _ ≤ _; exact Nat.le_of_eq rfl) (hb hby at_184) (fun _ _ => ⟨rfl, e323, (by decide : 7 + 0 ≤ _), (by decide : 20 + 0 ≤ _)⟩)
    dsimp only [Pt.U, Pt.locs, Pt.cells, Pt.slots] at X324 l324 y324 z324 st324 hQ324
    subst l324 y324 z324
    obtain ⟨rfl, N324, e324⟩ := hQ324
    refine GoOn.trans st324 ?_
    have N326 := Fr.app N322 N324
    show GoOn p e below (T324.setTop (mkF m 187 #[.val (.int p0), .val (.int p1), .val (.int p2), .val (.int p3), .val (.ref fc), .val (.ref mc), .val (.ref sf), .val (.ref sm), .val .null, .val (.ref pr296), .val (.int (1 : Int32)), .val (.int (1 : Int32)), .val (.int (1 : Int32)), .unset] [(.ref sm), (.ref sm)])) _
    obtain ⟨cqc328, kqc328, qac328, qbc328, qcc328⟩ := isOf hZ e324 E310
    obtain ⟨_, _, ⟨T327, L327, k327, n327⟩, -, X327, ⟨Lc327, hQ327, l327, y327, z327⟩, st327⟩ := X324.virtualBack hx (y := (⟨"java/lang/String", "equals", "(Ljava/lang/Object;)Z"⟩ : MethodName)) (z := (⟨"java/lang/String", "equals", "(Ljava/lang/Object;)Z"⟩ : MethodName)) hown (mvT hZ (hw _ (List.mem_of_getElem? (i := 56) rfl))) (mvT hZ (hw _ (List.mem_of_getElem? (i := 57) rfl))) (notFace_of_selects (args := #[]) (mvT hZ (hw _ (List.mem_of_getElem? (i := 59) rfl)))) (mvT hZ (hw _ (List.mem_of_getElem? (i := 59) rfl))) (mvT hZ (hw _ (List.mem_of_getElem? (i := 58) rfl))) (by decide) (backOf (W := 0) (rmEqId l Z a0 hw sm T296.heap n0 Z305) hZ (hw _ (List.mem_of_getElem? (i := 60) rfl)) (hw _ (List.mem_of_getElem? (i := 3) rfl)) (by decide) (by decide)) qac328 qcc328 (g := (mkF m 187 #[.val (.int p0), .val (.int p1), .val (.int p2), .val (.int p3), .val (.ref fc), .val (.ref mc), .val (.ref sf), .val (.ref sm), .val .null, .val (.ref pr296), .val (.int (1 : Int32)), .val (.int (1 : Int32)), .val (.int (1 : Int32)), .unset] [(.ref sm), (.ref sm)])) rfl (by rw [hml]; rfl) (Steps.refl _) (argsL := [(.ref sm)]) (rest := []) (lenOf own_pd99 rfl) rfl (by show 2 * 0 + _ ≤ _; exact Nat.le_of_eq rfl) (hb hby at_187) (fun _ _ => ⟨rfl, e324, (by decide : 7 + 0 ≤ _), (by decide : 20 + 0 ≤ _)⟩)
    dsimp only [Pt.U, Pt.locs, Pt.cells, Pt.slots] at X327 l327 y327 z327 st327 hQ327
    subst l327 y327 z327
    obtain ⟨rfl, N327, e327⟩ := hQ327
    refine GoOn.trans st327 ?_
    have N329 := Fr.app N326 N327
    show GoOn p e below (T327.setTop (mkF m 190 #[.val (.int p0), .val (.int p1), .val (.int p2), .val (.int p3), .val (.ref fc), .val (.ref mc), .val (.ref sf), .val (.ref sm), .val .null, .val (.ref pr296), .val (.int (1 : Int32)), .val (.int (1 : Int32)), .val (.int (1 : Int32)), .unset] [(.int (1 : Int32))])) _
    refine GoOn.step (fun tq kq => XS.istore X327.here hx rfl (hb hby at_190) rfl (l' := #[.val (.int p0), .val (.int p1), .val (.int p2), .val (.int p3), .val (.ref fc), .val (.ref mc), .val (.ref sf), .val (.ref sm), .val .null, .val (.ref pr296), .val (.int (1 : Int32)), .val (.int (1 : Int32)), .val (.int (1 : Int32)), .val (.int (1 : Int32))]) rfl kq) ?_
    show GoOn p e below (T327.setTop (mkF m 192 #[.val (.int p0), .val (.int p1), .val (.int p2), .val (.int p3), .val (.ref fc), .val (.ref mc), .val (.ref sf), .val (.ref sm), .val .null, .val (.ref pr296), .val (.int (1 : Int32)), .val (.int (1 : Int32)), .val (.int (1 : Int32)), .val (.int (1 : Int32))] [])) _
    refine GoOn.step (fun tq kq => XS.iload X327.here hx rfl (hb hby at_192) rfl kq) ?_
    show GoOn p e below (T327.setTop (mkF m 194 #[.val (.int p0), .val (.int p1), .val (.int p2), .val (.int p3), .val (.ref fc), .val (.ref mc), .val (.ref sf), .val (.ref sm), .val .null, .val (.ref pr296), .val (.int (1 : Int32)), .val (.int (1 : Int32)), .val (.int (1 : Int32)), .val (.int (1 : Int32))] [(.int (1 : Int32))])) _
    refine GoOn.step (fun tq kq => XS.ifNo X327.here hx rfl (hb hby at_194) rfl ((if0 _ _).trans (feq (by decide)).1) kq) ?_
    show GoOn p e below (T327.setTop (mkF m 197 #[.val (.int p0), .val (.int p1), .val (.int p2), .val (.int p3), .val (.ref fc), .val (.ref mc), .val (.ref sf), .val (.ref sm), .val .null, .val (.ref pr296), .val (.int (1 : Int32)), .val (.int (1 : Int32)), .val (.int (1 : Int32)), .val (.int (1 : Int32))] [])) _
    refine GoOn.step (fun tq kq => XS.iload X327.here hx rfl (hb hby at_197) rfl kq) ?_
    show GoOn p e below (T327.setTop (mkF m 199 #[.val (.int p0), .val (.int p1), .val (.int p2), .val (.int p3), .val (.ref fc), .val (.ref mc), .val (.ref sf), .val (.ref sm), .val .null, .val (.ref pr296), .val (.int (1 : Int32)), .val (.int (1 : Int32)), .val (.int (1 : Int32)), .val (.int (1 : Int32))] [(.int (1 : Int32))])) _
    refine GoOn.step (fun tq kq => XS.ifNo X327.here hx rfl (hb hby at_199) rfl ((if0 _ _).trans (feq (by decide)).1) kq) ?_
    show GoOn p e below (T327.setTop (mkF m 202 #[.val (.int p0), .val (.int p1), .val (.int p2), .val (.int p3), .val (.ref fc), .val (.ref mc), .val (.ref sf), .val (.ref sm), .val .null, .val (.ref pr296), .val (.int (1 : Int32)), .val (.int (1 : Int32)), .val (.int (1 : Int32)), .val (.int (1 : Int32))] [])) _
    refine GoOn.step (fun tq kq => XS.iload X327.here hx rfl (hb hby at_202) rfl kq) ?_
    show GoOn p e below (T327.setTop (mkF m 204 #[.val (.int p0), .val (.int p1), .val (.int p2), .val (.int p3), .val (.ref fc), .val (.ref mc), .val (.ref sf), .val (.ref sm), .val .null, .val (.ref pr296), .val (.int (1 : Int32)), .val (.int (1 : Int32)), .val (.int (1 : Int32)), .val (.int (1 : Int32))] [(.int (1 : Int32))])) _
    refine GoOn.step (fun tq kq => XS.ifNo X327.here hx rfl (hb hby at_204) rfl ((if0 _ _).trans (feq (by decide)).1) kq) ?_
    show GoOn p e below (T327.setTop (mkF m 207 #[.val (.int p0), .val (.int p1), .val (.int p2), .val (.int p3), .val (.ref fc), .val (.ref mc), .val (.ref sf), .val (.ref sm), .val .null, .val (.ref pr296), .val (.int (1 : Int32)), .val (.int (1 : Int32)), .val (.int (1 : Int32)), .val (.int (1 : Int32))] [])) _
    refine GoOn.step (fun tq kq => XS.iload X327.here hx rfl (hb hby at_207) rfl kq) ?_
    show GoOn p e below (T327.setTop (mkF m 209 #[.val (.int p0), .val (.int p1), .val (.int p2), .val (.int p3), .val (.ref fc), .val (.ref mc), .val (.ref sf), .val (.ref sm), .val .null, .val (.ref pr296), .val (.int (1 : Int32)), .val (.int (1 : Int32)), .val (.int (1 : Int32)), .val (.int (1 : Int32))] [(.int (1 : Int32))])) _
    refine GoOn.step (fun tq kq => XS.ifNo X327.here hx rfl (hb hby at_209) rfl ((if0 _ _).trans (feq (by decide)).1) kq) ?_
    show GoOn p e below (T327.setTop (mkF m 212 #[.val (.int p0), .val (.int p1), .val (.int p2), .val (.int p3), .val (.ref fc), .val (.ref mc), .val (.ref sf), .val (.ref sm), .val .null, .val (.ref pr296), .val (.int (1 : Int32)), .val (.int (1 : Int32)), .val (.int (1 : Int32)), .val (.int (1 : Int32))] [])) _
    refine GoOn.step (fun tq kq => XS.iconst X327.here hx rfl (hb hby at_212) kq) ?_
    show GoOn p e below (T327.setTop (mkF m 213 #[.val (.int p0), .val (.int p1), .val (.int p2), .val (.int p3), .val (.ref fc), .val (.ref mc), .val (.ref sf), .val (.ref sm), .val .null, .val (.ref pr296), .val (.int (1 : Int32)), .val (.int (1 : Int32)), .val (.int (1 : Int32)), .val (.int (1 : Int32))] [(.int (1 : Int32))])) _
    refine GoOn.step (fun tq kq => XS.goto X327.here hx rfl (pc0 := 213) (pc' := 217) rfl (hb hby at_213) (by decide) (by decide) kq) ?_
    show GoOn p e below (T327.setTop (mkF m 217 #[.val (.int p0), .val (.int p1), .val (.int p2), .val (.int p3), .val (.ref fc), .val (.ref mc), .val (.ref sf), .val (.ref sm), .val .null, .val (.ref pr296), .val (.int (1 : Int32)), .val (.int (1 : Int32)), .val (.int (1 : Int32)), .val (.int (1 : Int32))] [(.int (1 : Int32))])) _
    refine GoOn.ret X327 Bd.notSynchronized (v := some (.int (nar .boolean (1 : Int32)))) (fun h => by rw [Bd.returns] at h; cases h) (fun fs hr => retN X327 hx (t := .boolean) Bd.returns (by simp) (hb hby at_217) hr) (by decide) (by decide) ?_
    rw [e327]
    exact ⟨rfl, N329⟩
set_option maxRecDepth 65536 in
set_option maxHeartbeats 40000000 in
theorem comes_1 {Post : Tables → Env → Array Value → State → Outcome → State → Prop} (hpost : ∀ tb e args s v u, (limb_1_1.after args s (.returned v) u = true ∧ limb_1_2.after args s (.returned v) u = true ∧ True) → FrameEnd s (.returned v) u (Jvm.fieldLocs frame_1_writes args s ++ Jvm.arrayLocs frame_1_arrays args s ++ Jvm.staticLocs frame_1_statics s) 32 128 → Post tb e args s (.returned v) u) :
    ArmFor flags0 classFile x code maxLocals ret World_1 tables_1 room_1 Calls_1 rest_1 Pre_1 Post := by
  intro l hfl _ _ p e ha hc hk s m args below hf hA hF happ hP
  obtain ⟨hcalls, hrest, hpre⟩ := hP
  obtain ⟨-, -, -, hnamed, -, -, -, hat⟩ := (Spec.applies_iff hf).mp happ
  obtain ⟨hg, hn⟩ := and_e (Cond.before_iff.mp (show (Jvm.Cond.and given_1 narrow_1).before args s = true from hpre))
  obtain ⟨hcount, hg0⟩ := and_e hg
  obtain ⟨ha0, hg1⟩ := and_e hg0
  obtain ⟨ha1, hg2⟩ := and_e hg1
  obtain ⟨ha2, hg3⟩ := and_e hg2
  obtain ⟨w0, w1, w2, w3, rfl⟩ : ∃ w0 w1 w2 w3 : Value, args = #[w0, w1, w2, w3] := by
    have hs : args.size = 4 := by simpa [Cond.value, given_1] using hcount
    obtain ⟨L⟩ := args
    match L, hs with
    | [w0, w1, w2, w3], _ => exact ⟨w0, w1, w2, w3, rfl⟩
  have hw := fun d (hd : d ∈ tables_1) => atoms_spec (ws := Jvm.Cond.code x code maxLocals ret :: tables_1) hat d (List.mem_cons_of_mem _ hd)
  have hfit : Fit s := fun {y c} hc i hi => by
    obtain ⟨ha, rfl⟩ := Array.getElem?_eq_some_iff.mp hc
    have q := List.all_eq_true.mp ((Array.all_eq_true_iff_forall_mem.mp hF) _ (Array.getElem_mem ha)) i (List.mem_range.mpr hi)
    simpa [Array.getElem?_eq_getElem hi] using q
  obtain ⟨hsets, hown0⟩ := atoms_of _ (rest_1_c_eq ▸ (show rest_1_c.before _ s = true from hrest))
  have hr0 := Cond.before_iff.mp hown0
  obtain ⟨i0, ei0⟩ := is_v ha0
  obtain rfl : w0 = (.int i0) := Option.some.inj ei0
  obtain ⟨i1, ei1⟩ := is_v ha1
  obtain rfl : w1 = (.int i1) := Option.some.inj ei1
  obtain ⟨i2, ei2⟩ := is_v ha2
  obtain rfl : w2 = (.int i2) := Option.some.inj ei2
  obtain ⟨i3, ei3⟩ := is_v hg3
  obtain rfl : w3 = (.int i3) := Option.some.inj ei3
  have n5 := not_v (Cond.before_iff.mp (hsets _ (List.mem_of_getElem? (i := 2) rfl)))
  obtain ⟨ic, ec⟩ := is_v (Cond.before_iff.mp (hsets _ (List.mem_of_getElem? (i := 1) rfl)))
  have SC : Sta s s.heap "java/lang/String" "COMPACT_STRINGS" "Z" (.int ic) := Sta.start ec (Or.inl (hsets _ (List.mem_of_getElem? (i := 0) rfl)))
  have PC : ¬ (ic = (0 : Int32)) := gotF (Cond.eq_ints ec (Term.int_eval (0))) n5
  obtain ⟨le, el⟩ := exa_v hn
  have SE : Sta s s.heap "com/example/crosslode/crosslode/Problem$Level" "WARNING" "Lcom/example/crosslode/crosslode/Problem$Level;" (.ref le) := Sta.start el (Or.inr ⟨(hw _ (List.mem_of_getElem? (i := 37) rfl)), (hw _ (List.mem_of_getElem? (i := 38) rfl))⟩)
  obtain ⟨n, o, h1, h2, h3, _, L, rfl, ⟨rfl, N⟩, hq⟩ := rm0 l s _ hw tables_1 i0 i1 i2 i3 ic le s.heap s.heap.size (Nat.le_refl _) SC PC SE (Old.start s) p e ha hc hk s m _ below hf ((Spec.applies_iff_loose hf).mp happ).1 ⟨rfl, State.Warmed39.refl s, rfl⟩ trivial
  refine ⟨n, _, h1, h2, h3, hpost _ _ _ _ _ _ ⟨Cond.after_iff.mpr rfl, Cond.after_iff.mpr (eq_i res_at (Term.int_eval (1)) rfl), trivial⟩ ⟨hq.1, hq.2.1, (hq.2.2.sift fun y hy => Or.inr (N y hy)).mono (by decide) (by decide)⟩⟩
theorem main_1_1 : Claimed_1_1 := comes_1 fun _ _ _ _ _ _ h hF => ⟨h.1, hF⟩
theorem main_1_2 : Claimed_1_2 := comes_1 fun _ _ _ _ _ _ h hF => ⟨h.2.1, hF⟩
end Jvm.Pilot.@@N@@
namespace Jvm.Pilot.@@N@@
open Jvm Jvm.ClassFile Sem Op Lib Jvm.Free Jvm.Stand Jvm.Pilot.@@N@@.Jvm.D
/-! MADE BY PROGRAM (witnessworld.py) out of the Statement's table words and the real class files: 22 classes; the members and pool entries that the words name. The judged class is class 1, her method 1. -/
namespace start1
open Jvm.ClassFile
def u (s : String) : CpInfo := .utf8 (stringToUtf16 s)
/-- a pool by its gaps: so many unusable entries, then the entry; so many at the end -/
def gap : Nat → List CpInfo → List CpInfo
  | 0, r => r
  | n + 1, r => .unusable :: gap n r
def poolList (es : List (Nat × CpInfo)) (last : Nat) : List CpInfo := es.foldr (fun e r => gap e.1 (e.2 :: r)) (gap last [])
def pool (es : List (Nat × CpInfo)) (last : Nat) : Array CpInfo := ⟨poolList es last⟩
def fileOf (pool : Array CpInfo) (this : Nat) (attrs : Array Attribute := #[]) (ms : Array MethodInfo := #[]) (fl : Nat := 33) (sup : Nat := 0) (ifs : Array Nat := #[]) (fds : Array FieldInfo := #[]) : ClassFile where
  minorVersion := 0
  majorVersion := 65
  constantPool := pool
  accessFlags := fl
  thisClass := this
  superClass := sup
  interfaces := ifs
  fields := fds
  methods := ms
  attributes := attrs
def plain (name : String) (sup : Option ClassId) : Class where
  name := name
  kind := .ordinary
  loader := none
  accessFlags := 33
  super := sup
  interfaces := #[]
  cf := none
  fields := #[]
  methods := #[]
  instanceTypes := #[]
  staticTypes := #[]
  resolved := #[]
  callSites := []
  init := .initialized
  statics := none
  mirror := none

def pool0 : Array CpInfo := pool [(5, u "<init>"), (0, u "()V"), (1, .class_ 10), (1, u "java/lang/Object")] 113

def k0c0 : Code := { maxStack := 0, maxLocals := 1, code := object_method_1_code, exceptionTable := #[], attributes := #[] }
def k0m0 : Method := { name := "<init>", desc := "()V", sig := { parameters := [], returnType := none }, accessFlags := 1, code := some k0c0 }
/-- java/lang/Object -/
def k0 : Class := { plain "java/lang/Object" none with
  accessFlags := 33
  interfaces := #[]
  cf := some (fileOf pool0 8 #[] #[{ accessFlags := 1, nameIndex := 5, descriptorIndex := 6, attributes := #[] }] 33 0 #[] #[])
  fields := #[]
  methods := #[k0m0]
  instanceTypes := #[]
  staticTypes := #[]
  resolved := Array.replicate 124 none
  statics := none }

def pool1 : Array CpInfo := pool [(2, .class_ 4), (1, u "java/lang/Object"), (0, u "<init>"), (0, u "()V"), (0, .class_ 8), (0, u "java/lang/String"), (0, .methodref 7 10), (0, .nameAndType 5 11), (0, u "([C)V"), (0, .methodref 7 13), (0, .nameAndType 14 15), (0, u "valueOf"), (0, u "(C)Ljava/lang/String;"), (0, .methodref 17 18), (0, .class_ 19), (0, .nameAndType 20 21), (0, u "com/example/crosslode/crosslode/Problem"), (0, u "warning"), (0, u "(Ljava/lang/String;Ljava/lang/String;Ljava/lang/String;)Lcom/example/crosslode/crosslode/Problem;"), (0, .methodref 17 23), (0, .nameAndType 24 25), (0, u "file"), (0, u "()Ljava/lang/String;"), (0, .methodref 7 27), (0, .nameAndType 28 29), (0, u "equals"), (0, u "(Ljava/lang/Object;)Z"), (0, .methodref 17 31), (0, .nameAndType 32 25), (0, u "record"), (0, .methodref 17 34), (0, .nameAndType 35 36), (0, u "level"), (0, u "()Lcom/example/crosslode/crosslode/Problem$Level;"), (0, .fieldref 38 39), (0, .class_ 40), (0, .nameAndType 41 42), (0, u "com/example/crosslode/crosslode/Problem$Level"), (0, u "WARNING"), (0, u "Lcom/example/crosslode/crosslode/Problem$Level;"), (0, .methodref 17 44), (0, .nameAndType 45 25), (0, u "message"), (0, .class_ 47), (0, u "com/example/crosslode/crosslode/ProblemWarningPinLaw"), (2, u "law"), (0, u "(IIII)Z")] 7

def k1m0 : Method := { name := "<init>", desc := "()V", sig := { parameters := [], returnType := none }, accessFlags := 1, code := none }
def k1c1 : Code := { maxStack := 4, maxLocals := 14, code := code, exceptionTable := #[], attributes := #[] }
def k1m1 : Method := { name := "law", desc := "(IIII)Z", sig := { parameters := [.int, .int, .int, .int], returnType := some .boolean }, accessFlags := 9, code := some k1c1 }
/-- com/example/crosslode/crosslode/ProblemWarningPinLaw -/
def k1 : Class := { plain "com/example/crosslode/crosslode/ProblemWarningPinLaw" (some 0) with
  accessFlags := 49
  interfaces := #[]
  cf := some (fileOf pool1 46 #[] #[{ accessFlags := 1, nameIndex := 5, descriptorIndex := 6, attributes := #[] }, { accessFlags := 9, nameIndex := 50, descriptorIndex := 51, attributes := #[] }] 49 2 #[] #[])
  fields := #[]
  methods := #[k1m0, k1m1]
  instanceTypes := #[]
  staticTypes := #[]
  resolved := Array.replicate 59 none
  statics := none }

def pool2 : Array CpInfo := pool [(1, .class_ 2), (0, u "java/io/Serializable"), (0, .class_ 4), (0, u "java/lang/Object")] 2

/-- java/io/Serializable -/
def k2 : Class := { plain "java/io/Serializable" (some 0) with
  accessFlags := 1537
  interfaces := #[]
  cf := some (fileOf pool2 1 #[] #[] 1537 3 #[] #[])
  fields := #[]
  methods := #[]
  instanceTypes := #[]
  staticTypes := #[]
  resolved := Array.replicate 7 none
  statics := none }

def pool3 : Array CpInfo := pool [(1, .class_ 2), (0, u "java/lang/Comparable"), (0, .class_ 4), (0, u "java/lang/Object")] 7

/-- java/lang/Comparable -/
def k3 : Class := { plain "java/lang/Comparable" (some 0) with
  accessFlags := 1537
  interfaces := #[]
  cf := some (fileOf pool3 1 #[] #[] 1537 3 #[] #[])
  fields := #[]
  methods := #[]
  instanceTypes := #[]
  staticTypes := #[]
  resolved := Array.replicate 12 none
  statics := none }

def pool4 : Array CpInfo := pool [(2, .class_ 4), (1, u "java/lang/CharSequence"), (42, .class_ 48), (0, u "java/lang/CharSequence$1CodePointIterator"), (10, .class_ 60), (0, u "java/lang/CharSequence$1CharIterator"), (5, .class_ 67), (0, u "java/lang/Object")] 63

/-- java/lang/CharSequence -/
def k4 : Class := { plain "java/lang/CharSequence" (some 0) with
  accessFlags := 1537
  interfaces := #[]
  cf := some (fileOf pool4 2 #[.nestMembers #[47, 59]] #[] 1537 66 #[] #[])
  fields := #[]
  methods := #[]
  instanceTypes := #[]
  staticTypes := #[]
  resolved := Array.replicate 131 none
  statics := none }

def pool5 : Array CpInfo := pool [(1, .class_ 2), (0, u "java/lang/constant/Constable"), (0, .class_ 4), (0, u "java/lang/Object")] 6

/-- java/lang/constant/Constable -/
def k5 : Class := { plain "java/lang/constant/Constable" (some 0) with
  accessFlags := 1537
  interfaces := #[]
  cf := some (fileOf pool5 1 #[] #[] 1537 3 #[] #[])
  fields := #[]
  methods := #[]
  instanceTypes := #[]
  staticTypes := #[]
  resolved := Array.replicate 11 none
  statics := none }

def pool6 : Array CpInfo := pool [(1, .class_ 2), (0, u "java/lang/constant/ConstantDesc"), (0, .class_ 4), (0, u "java/lang/Object")] 32

/-- java/lang/constant/ConstantDesc -/
def k6 : Class := { plain "java/lang/constant/ConstantDesc" (some 0) with
  accessFlags := 1537
  interfaces := #[]
  cf := some (fileOf pool6 1 #[] #[] 1537 3 #[] #[])
  fields := #[]
  methods := #[]
  instanceTypes := #[]
  staticTypes := #[]
  resolved := Array.replicate 37 none
  statics := none }

def pool7 : Array CpInfo := pool [(1, .methodref 2 3), (0, .class_ 4), (0, .nameAndType 5 6), (0, u "java/lang/Object"), (0, u "<init>"), (0, u "()V"), (2, .fieldref 10 11), (0, .class_ 12), (0, .nameAndType 13 14), (0, u "java/lang/String"), (0, u "value"), (0, u "[B"), (0, .fieldref 10 16), (0, .nameAndType 17 18), (0, u "coder"), (0, u "B"), (2, u "hash"), (0, u "I"), (2, u "hashIsZero"), (0, u "Z"), (0, .methodref 10 28), (0, .nameAndType 5 29), (0, u "([CIILjava/lang/Void;)V"), (8, .fieldref 10 39), (0, .nameAndType 40 26), (0, u "COMPACT_STRINGS"), (1, .class_ 44), (1, u "java/lang/StringUTF16"), (0, u "compress"), (1, .methodref 42 48), (0, .nameAndType 49 50), (0, u "coderFromArrayLen"), (0, u "([BI)B"), (2, u "toBytes"), (53, .class_ 109), (1, u "java/lang/StringLatin1"), (67, .methodref 42 178), (0, .nameAndType 45 179), (0, u "([CII)[B"), (29, .methodref 10 210), (0, .nameAndType 5 211), (0, u "([BB)V"), (157, u "(C)Z"), (173, u "equals"), (29, u "(Ljava/lang/Object;)Z"), (1, .class_ 576), (0, u "java/lang/CharSequence"), (22, u "CASE_INSENSITIVE_ORDER"), (0, u "Ljava/util/Comparator;"), (181, u "valueOf"), (0, u "(C)Ljava/lang/String;"), (226, u "([C)V"), (4, .methodref 107 1016), (0, .nameAndType 1017 369), (0, u "canEncode"), (0, .methodref 107 1019), (0, .nameAndType 53 1020), (0, u "(C)[B"), (80, u "serialPersistentFields"), (0, u "[Ljava/io/ObjectStreamField;"), (0, .class_ 1104), (0, u "java/lang/String$CaseInsensitiveComparator"), (1, .class_ 1107), (0, u "java/io/Serializable"), (0, .class_ 1109), (0, u "java/lang/Comparable"), (0, .class_ 1111), (0, u "java/lang/constant/Constable"), (0, .class_ 1113), (0, u "java/lang/constant/ConstantDesc"), (2, u "serialVersionUID"), (0, u "J"), (3, u "REPL"), (0, u "C"), (2, u "LATIN1"), (1, u "UTF16")] 323

def k7m0 : Method := { name := "<init>", desc := "()V", sig := { parameters := [], returnType := none }, accessFlags := 1, code := none }
def k7c1 : Code := { maxStack := 5, maxLocals := 2, code := jdk_42_method_3_code, exceptionTable := #[], attributes := #[] }
def k7m1 : Method := { name := "<init>", desc := "([C)V", sig := { parameters := [(.array .char)], returnType := none }, accessFlags := 1, code := some k7c1 }
def k7c2 : Code := { maxStack := 2, maxLocals := 3, code := jdk_42_method_66_code, exceptionTable := #[], attributes := #[] }
def k7m2 : Method := { name := "equals", desc := "(Ljava/lang/Object;)Z", sig := { parameters := [(.object "java/lang/Object")], returnType := some .boolean }, accessFlags := 1, code := some k7c2 }
def k7c3 : Code := { maxStack := 4, maxLocals := 1, code := jdk_42_method_139_code, exceptionTable := #[], attributes := #[] }
def k7m3 : Method := { name := "valueOf", desc := "(C)Ljava/lang/String;", sig := { parameters := [.char], returnType := some (.object "java/lang/String") }, accessFlags := 9, code := some k7c3 }
def k7c4 : Code := { maxStack := 4, maxLocals := 6, code := jdk_42_method_149_code, exceptionTable := #[], attributes := #[] }
def k7m4 : Method := { name := "<init>", desc := "([CIILjava/lang/Void;)V", sig := { parameters := [(.array .char), .int, .int, (.object "java/lang/Void")], returnType := none }, accessFlags := 2, code := some k7c4 }
def k7c5 : Code := { maxStack := 2, maxLocals := 3, code := jdk_42_method_151_code, exceptionTable := #[], attributes := #[] }
def k7m5 : Method := { name := "<init>", desc := "([BB)V", sig := { parameters := [(.array .byte), .byte], returnType := none }, accessFlags := 0, code := some k7c5 }
/-- java/lang/String -/
def k7 : Class := { plain "java/lang/String" (some 0) with
  accessFlags := 49
  interfaces := #[2, 3, 4, 5, 6]
  cf := some (fileOf pool7 10 #[.nestMembers #[1103]] #[{ accessFlags := 1, nameIndex := 5, descriptorIndex := 6, attributes := #[] }, { accessFlags := 1, nameIndex := 5, descriptorIndex := 1010, attributes := #[] }, { accessFlags := 1, nameIndex := 543, descriptorIndex := 573, attributes := #[] }, { accessFlags := 9, nameIndex := 782, descriptorIndex := 783, attributes := #[] }, { accessFlags := 2, nameIndex := 5, descriptorIndex := 29, attributes := #[] }, { accessFlags := 0, nameIndex := 5, descriptorIndex := 211, attributes := #[] }] 49 2 #[1106, 1108, 575, 1110, 1112] #[{ accessFlags := 18, nameIndex := 13, descriptorIndex := 14, attributes := #[] }, { accessFlags := 18, nameIndex := 17, descriptorIndex := 18, attributes := #[] }, { accessFlags := 2, nameIndex := 21, descriptorIndex := 22, attributes := #[] }, { accessFlags := 2, nameIndex := 25, descriptorIndex := 26, attributes := #[] }, { accessFlags := 26, nameIndex := 1116, descriptorIndex := 1117, attributes := #[] }, { accessFlags := 24, nameIndex := 40, descriptorIndex := 26, attributes := #[] }, { accessFlags := 26, nameIndex := 1101, descriptorIndex := 1102, attributes := #[] }, { accessFlags := 26, nameIndex := 1121, descriptorIndex := 1122, attributes := #[] }, { accessFlags := 25, nameIndex := 599, descriptorIndex := 600, attributes := #[] }, { accessFlags := 24, nameIndex := 1125, descriptorIndex := 18, attributes := #[] }, { accessFlags := 24, nameIndex := 1127, descriptorIndex := 18, attributes := #[] }])
  fields := #[{ name := "value", type := (.array .byte), accessFlags := 18, slot := 0, constantValue := 0 }, { name := "coder", type := .byte, accessFlags := 18, slot := 1, constantValue := 0 }, { name := "hash", type := .int, accessFlags := 2, slot := 2, constantValue := 0 }, { name := "hashIsZero", type := .boolean, accessFlags := 2, slot := 3, constantValue := 0 }, { name := "serialVersionUID", type := .long, accessFlags := 26, slot := 0, constantValue := 0 }, { name := "COMPACT_STRINGS", type := .boolean, accessFlags := 24, slot := 1, constantValue := 0 }, { name := "serialPersistentFields", type := (.array (.object "java/io/ObjectStreamField")), accessFlags := 26, slot := 2, constantValue := 0 }, { name := "REPL", type := .char, accessFlags := 26, slot := 3, constantValue := 0 }, { name := "CASE_INSENSITIVE_ORDER", type := (.object "java/util/Comparator"), accessFlags := 25, slot := 4, constantValue := 0 }, { name := "LATIN1", type := .byte, accessFlags := 24, slot := 5, constantValue := 0 }, { name := "UTF16", type := .byte, accessFlags := 24, slot := 6, constantValue := 0 }]
  methods := #[k7m0, k7m1, k7m2, k7m3, k7m4, k7m5]
  instanceTypes := #[(.array .byte), .byte, .int, .boolean]
  staticTypes := #[.long, .boolean, (.array (.object "java/io/ObjectStreamField")), .char, (.object "java/util/Comparator"), .byte, .byte]
  resolved := Array.replicate 1451 none
  statics := some 0 }

def pool8 : Array CpInfo := pool [(6, .class_ 8), (1, u "java/lang/Object"), (0, u "<init>"), (0, u "()V"), (1, .class_ 14), (1, u "java/lang/StringUTF16"), (31, u "$assertionsDisabled"), (0, u "Z"), (13, u "HI_BYTE_SHIFT"), (0, u "I"), (2, u "LO_BYTE_SHIFT"), (49, .methodref 12 116), (0, .nameAndType 117 118), (0, u "compress"), (0, u "([CI[BII)I"), (3, u "([CII)[B"), (138, u "coderFromArrayLen"), (0, u "([BI)B"), (106, .class_ 371), (1, u "java/lang/StringUTF16$LinesSpliterator"), (58, u "MAX_LENGTH"), (196, .class_ 628), (0, u "java/lang/StringUTF16$CodePointsSpliterator"), (0, .class_ 630), (0, u "java/lang/StringUTF16$CharsSpliterator")] 4

def k8m0 : Method := { name := "<init>", desc := "()V", sig := { parameters := [], returnType := none }, accessFlags := 0, code := none }
def k8c1 : Code := { maxStack := 2, maxLocals := 2, code := jdk_52_method_15_code, exceptionTable := #[], attributes := #[] }
def k8m1 : Method := { name := "coderFromArrayLen", desc := "([BI)B", sig := { parameters := [(.array .byte), .int], returnType := some .byte }, accessFlags := 8, code := some k8c1 }
def k8c2 : Code := { maxStack := 5, maxLocals := 6, code := jdk_52_method_16_code, exceptionTable := #[], attributes := #[] }
def k8m2 : Method := { name := "compress", desc := "([CII)[B", sig := { parameters := [(.array .char), .int, .int], returnType := some (.array .byte) }, accessFlags := 9, code := some k8c2 }
def k8c3 : Code := { maxStack := 3, maxLocals := 7, code := jdk_52_method_21_code, exceptionTable := #[], attributes := #[] }
def k8m3 : Method := { name := "compress", desc := "([CI[BII)I", sig := { parameters := [(.array .char), .int, (.array .byte), .int, .int], returnType := some .int }, accessFlags := 9, code := some k8c3 }
/-- java/lang/StringUTF16 -/
def k8 : Class := { plain "java/lang/StringUTF16" (some 0) with
  accessFlags := 48
  interfaces := #[]
  cf := some (fileOf pool8 12 #[.nestMembers #[627, 629, 369]] #[{ accessFlags := 0, nameIndex := 9, descriptorIndex := 10, attributes := #[] }, { accessFlags := 8, nameIndex := 261, descriptorIndex := 262, attributes := #[] }, { accessFlags := 9, nameIndex := 117, descriptorIndex := 122, attributes := #[] }, { accessFlags := 9, nameIndex := 117, descriptorIndex := 118, attributes := #[] }] 48 6 #[] #[{ accessFlags := 26, nameIndex := 61, descriptorIndex := 62, attributes := #[] }, { accessFlags := 26, nameIndex := 65, descriptorIndex := 62, attributes := #[] }, { accessFlags := 24, nameIndex := 430, descriptorIndex := 62, attributes := #[] }, { accessFlags := 4120, nameIndex := 46, descriptorIndex := 47, attributes := #[] }])
  fields := #[{ name := "HI_BYTE_SHIFT", type := .int, accessFlags := 26, slot := 0, constantValue := 0 }, { name := "LO_BYTE_SHIFT", type := .int, accessFlags := 26, slot := 1, constantValue := 0 }, { name := "MAX_LENGTH", type := .int, accessFlags := 24, slot := 2, constantValue := 0 }, { name := "$assertionsDisabled", type := .boolean, accessFlags := 4120, slot := 3, constantValue := 0 }]
  methods := #[k8m0, k8m1, k8m2, k8m3]
  instanceTypes := #[]
  staticTypes := #[.int, .int, .int, .boolean]
  resolved := Array.replicate 635 none
  statics := none }

def pool9 : Array CpInfo := pool [(1, .methodref 2 3), (0, .class_ 4), (0, .nameAndType 5 6), (0, u "java/lang/Object"), (0, u "<init>"), (0, u "()V"), (0, .fieldref 8 9), (0, .class_ 10), (0, .nameAndType 11 12), (0, u "com/example/crosslode/crosslode/Problem"), (0, u "file"), (0, u "Ljava/lang/String;"), (0, .fieldref 8 14), (0, .nameAndType 15 12), (0, u "record"), (0, .fieldref 8 17), (0, .nameAndType 18 19), (0, u "level"), (0, u "Lcom/example/crosslode/crosslode/Problem$Level;"), (0, .fieldref 8 21), (0, .nameAndType 22 12), (0, u "message"), (1, .class_ 26), (1, u "com/example/crosslode/crosslode/Problem$Level"), (1, .methodref 8 29), (0, .nameAndType 5 30), (0, u "(Ljava/lang/String;Ljava/lang/String;Lcom/example/crosslode/crosslode/Problem$Level;Ljava/lang/String;)V"), (0, .fieldref 24 32), (0, .nameAndType 33 19), (0, u "WARNING"), (13, u "()Ljava/lang/String;"), (23, u "(Ljava/lang/String;Ljava/lang/String;Ljava/lang/String;)Lcom/example/crosslode/crosslode/Problem;"), (0, u "warning"), (3, u "()Lcom/example/crosslode/crosslode/Problem$Level;")] 22

def k9c0 : Code := { maxStack := 2, maxLocals := 5, code := prog_6_method_1_code, exceptionTable := #[], attributes := #[] }
def k9m0 : Method := { name := "<init>", desc := "(Ljava/lang/String;Ljava/lang/String;Lcom/example/crosslode/crosslode/Problem$Level;Ljava/lang/String;)V", sig := { parameters := [(.object "java/lang/String"), (.object "java/lang/String"), (.object "com/example/crosslode/crosslode/Problem$Level"), (.object "java/lang/String")], returnType := none }, accessFlags := 2, code := some k9c0 }
def k9c1 : Code := { maxStack := 6, maxLocals := 3, code := prog_6_method_3_code, exceptionTable := #[], attributes := #[] }
def k9m1 : Method := { name := "warning", desc := "(Ljava/lang/String;Ljava/lang/String;Ljava/lang/String;)Lcom/example/crosslode/crosslode/Problem;", sig := { parameters := [(.object "java/lang/String"), (.object "java/lang/String"), (.object "java/lang/String")], returnType := some (.object "com/example/crosslode/crosslode/Problem") }, accessFlags := 8, code := some k9c1 }
def k9c2 : Code := { maxStack := 1, maxLocals := 1, code := prog_6_method_5_code, exceptionTable := #[], attributes := #[] }
def k9m2 : Method := { name := "file", desc := "()Ljava/lang/String;", sig := { parameters := [], returnType := some (.object "java/lang/String") }, accessFlags := 1, code := some k9c2 }
def k9c3 : Code := { maxStack := 1, maxLocals := 1, code := prog_6_method_6_code, exceptionTable := #[], attributes := #[] }
def k9m3 : Method := { name := "record", desc := "()Ljava/lang/String;", sig := { parameters := [], returnType := some (.object "java/lang/String") }, accessFlags := 1, code := some k9c3 }
def k9c4 : Code := { maxStack := 1, maxLocals := 1, code := prog_6_method_7_code, exceptionTable := #[], attributes := #[] }
def k9m4 : Method := { name := "level", desc := "()Lcom/example/crosslode/crosslode/Problem$Level;", sig := { parameters := [], returnType := some (.object "com/example/crosslode/crosslode/Problem$Level") }, accessFlags := 1, code := some k9c4 }
def k9c5 : Code := { maxStack := 1, maxLocals := 1, code := prog_6_method_8_code, exceptionTable := #[], attributes := #[] }
def k9m5 : Method := { name := "message", desc := "()Ljava/lang/String;", sig := { parameters := [], returnType := some (.object "java/lang/String") }, accessFlags := 1, code := some k9c5 }
/-- com/example/crosslode/crosslode/Problem -/
def k9 : Class := { plain "com/example/crosslode/crosslode/Problem" (some 0) with
  accessFlags := 49
  interfaces := #[]
  cf := some (fileOf pool9 8 #[.nestMembers #[24]] #[{ accessFlags := 2, nameIndex := 5, descriptorIndex := 30, attributes := #[] }, { accessFlags := 8, nameIndex := 72, descriptorIndex := 71, attributes := #[] }, { accessFlags := 1, nameIndex := 11, descriptorIndex := 47, attributes := #[] }, { accessFlags := 1, nameIndex := 15, descriptorIndex := 47, attributes := #[] }, { accessFlags := 1, nameIndex := 18, descriptorIndex := 76, attributes := #[] }, { accessFlags := 1, nameIndex := 22, descriptorIndex := 47, attributes := #[] }] 49 2 #[] #[{ accessFlags := 18, nameIndex := 11, descriptorIndex := 12, attributes := #[] }, { accessFlags := 18, nameIndex := 15, descriptorIndex := 12, attributes := #[] }, { accessFlags := 18, nameIndex := 18, descriptorIndex := 19, attributes := #[] }, { accessFlags := 18, nameIndex := 22, descriptorIndex := 12, attributes := #[] }])
  fields := #[{ name := "file", type := (.object "java/lang/String"), accessFlags := 18, slot := 0, constantValue := 0 }, { name := "record", type := (.object "java/lang/String"), accessFlags := 18, slot := 1, constantValue := 0 }, { name := "level", type := (.object "com/example/crosslode/crosslode/Problem$Level"), accessFlags := 18, slot := 2, constantValue := 0 }, { name := "message", type := (.object "java/lang/String"), accessFlags := 18, slot := 3, constantValue := 0 }]
  methods := #[k9m0, k9m1, k9m2, k9m3, k9m4, k9m5]
  instanceTypes := #[(.object "java/lang/String"), (.object "java/lang/String"), (.object "com/example/crosslode/crosslode/Problem$Level"), (.object "java/lang/String")]
  staticTypes := #[]
  resolved := Array.replicate 99 none
  statics := none }

def pool10 : Array CpInfo := pool [(2, .class_ 4), (1, u "java/lang/Enum"), (0, u "name"), (0, u "Ljava/lang/String;"), (2, u "ordinal"), (0, u "I"), (1, .class_ 14), (1, u "java/lang/Object"), (4, u "hash"), (86, .class_ 108), (1, u "java/lang/Enum$EnumDesc"), (2, .class_ 112), (0, u "java/lang/constant/Constable"), (0, .class_ 114), (0, u "java/lang/Comparable"), (0, .class_ 116), (0, u "java/io/Serializable")] 87

/-- java/lang/Enum -/
def k10 : Class := { plain "java/lang/Enum" (some 0) with
  accessFlags := 1057
  interfaces := #[5, 3, 2]
  cf := some (fileOf pool10 2 #[.nestMembers #[106]] #[] 1057 12 #[111, 113, 115] #[{ accessFlags := 18, nameIndex := 5, descriptorIndex := 6, attributes := #[] }, { accessFlags := 18, nameIndex := 9, descriptorIndex := 10, attributes := #[] }, { accessFlags := 2, nameIndex := 19, descriptorIndex := 10, attributes := #[] }])
  fields := #[{ name := "name", type := (.object "java/lang/String"), accessFlags := 18, slot := 0, constantValue := 0 }, { name := "ordinal", type := .int, accessFlags := 18, slot := 1, constantValue := 0 }, { name := "hash", type := .int, accessFlags := 2, slot := 2, constantValue := 0 }]
  methods := #[]
  instanceTypes := #[(.object "java/lang/String"), .int, .int]
  staticTypes := #[]
  resolved := Array.replicate 204 none
  statics := none }

def pool11 : Array CpInfo := pool [(1, .class_ 2), (0, u "com/example/crosslode/crosslode/Problem$Level"), (2, u "ERROR"), (0, u "Lcom/example/crosslode/crosslode/Problem$Level;"), (2, u "WARNING"), (2, u "$VALUES"), (0, u "[Lcom/example/crosslode/crosslode/Problem$Level;"), (6, .class_ 22), (1, u "java/lang/Enum"), (8, u "name"), (0, u "Ljava/lang/String;"), (28, .class_ 62), (0, u "com/example/crosslode/crosslode/Problem")] 2

/-- com/example/crosslode/crosslode/Problem$Level -/
def k11 : Class := { plain "com/example/crosslode/crosslode/Problem$Level" (some 10) with
  accessFlags := 16433
  interfaces := #[]
  cf := some (fileOf pool11 1 #[.nestHost 61] #[] 16433 20 #[] #[{ accessFlags := 16409, nameIndex := 5, descriptorIndex := 6, attributes := #[] }, { accessFlags := 16409, nameIndex := 9, descriptorIndex := 6, attributes := #[] }, { accessFlags := 18, nameIndex := 31, descriptorIndex := 32, attributes := #[] }, { accessFlags := 4122, nameIndex := 12, descriptorIndex := 13, attributes := #[] }])
  fields := #[{ name := "ERROR", type := (.object "com/example/crosslode/crosslode/Problem$Level"), accessFlags := 16409, slot := 0, constantValue := 0 }, { name := "WARNING", type := (.object "com/example/crosslode/crosslode/Problem$Level"), accessFlags := 16409, slot := 1, constantValue := 0 }, { name := "name", type := (.object "java/lang/String"), accessFlags := 18, slot := 3, constantValue := 0 }, { name := "$VALUES", type := (.array (.object "com/example/crosslode/crosslode/Problem$Level")), accessFlags := 4122, slot := 2, constantValue := 0 }]
  methods := #[]
  instanceTypes := #[(.object "java/lang/String"), .int, .int, (.object "java/lang/String")]
  staticTypes := #[(.object "com/example/crosslode/crosslode/Problem$Level"), (.object "com/example/crosslode/crosslode/Problem$Level"), (.array (.object "com/example/crosslode/crosslode/Problem$Level"))]
  resolved := Array.replicate 65 none
  statics := some 1 }

def pool12 : Array CpInfo := pool [(4, .class_ 6), (1, u "java/lang/Object"), (0, u "<init>"), (0, u "()V"), (5, .class_ 16), (1, u "java/lang/StringLatin1"), (73, u "canEncode"), (14, u "(C)Z"), (15, u "$assertionsDisabled"), (0, u "Z"), (98, .class_ 223), (1, u "java/lang/StringLatin1$LinesSpliterator"), (156, u "toBytes"), (1, u "(C)[B"), (7, .class_ 391), (0, u "java/lang/StringLatin1$CharsSpliterator")] 3

def k12m0 : Method := { name := "<init>", desc := "()V", sig := { parameters := [], returnType := none }, accessFlags := 0, code := none }
def k12c1 : Code := { maxStack := 2, maxLocals := 1, code := jdk_43_method_3_code, exceptionTable := #[], attributes := #[] }
def k12m1 : Method := { name := "canEncode", desc := "(C)Z", sig := { parameters := [.char], returnType := some .boolean }, accessFlags := 9, code := some k12c1 }
def k12c2 : Code := { maxStack := 4, maxLocals := 1, code := jdk_43_method_46_code, exceptionTable := #[], attributes := #[] }
def k12m2 : Method := { name := "toBytes", desc := "(C)[B", sig := { parameters := [.char], returnType := some (.array .byte) }, accessFlags := 9, code := some k12c2 }
/-- java/lang/StringLatin1 -/
def k12 : Class := { plain "java/lang/StringLatin1" (some 0) with
  accessFlags := 48
  interfaces := #[]
  cf := some (fileOf pool12 14 #[.nestMembers #[390, 221]] #[{ accessFlags := 0, nameIndex := 7, descriptorIndex := 8, attributes := #[] }, { accessFlags := 9, nameIndex := 90, descriptorIndex := 105, attributes := #[] }, { accessFlags := 9, nameIndex := 380, descriptorIndex := 382, attributes := #[] }] 48 4 #[] #[{ accessFlags := 4120, nameIndex := 121, descriptorIndex := 122, attributes := #[] }])
  fields := #[{ name := "$assertionsDisabled", type := .boolean, accessFlags := 4120, slot := 0, constantValue := 0 }]
  methods := #[k12m0, k12m1, k12m2]
  instanceTypes := #[]
  staticTypes := #[.boolean]
  resolved := Array.replicate 395 none
  statics := none }

def pool13 : Array CpInfo := pool [(2, .class_ 4), (1, u "java/lang/Object"), (0, u "<init>"), (0, u "()V"), (17, .class_ 26), (1, u "jdk/internal/util/Preconditions"), (28, .class_ 56), (0, u "jdk/internal/util/Preconditions$4"), (57, .class_ 115), (0, u "jdk/internal/util/Preconditions$1"), (7, u "SIOOBE_FORMATTER"), (0, u "Ljava/util/function/BiFunction;"), (0, .class_ 126), (0, u "jdk/internal/util/Preconditions$2"), (3, u "AIOOBE_FORMATTER"), (0, .class_ 132), (0, u "jdk/internal/util/Preconditions$3"), (3, u "IOOBE_FORMATTER")] 57

def k13m0 : Method := { name := "<init>", desc := "()V", sig := { parameters := [], returnType := none }, accessFlags := 1, code := none }
/-- jdk/internal/util/Preconditions -/
def k13 : Class := { plain "jdk/internal/util/Preconditions" (some 0) with
  accessFlags := 33
  interfaces := #[]
  cf := some (fileOf pool13 24 #[.nestMembers #[55, 131, 125, 114]] #[{ accessFlags := 1, nameIndex := 5, descriptorIndex := 6, attributes := #[] }] 33 2 #[] #[{ accessFlags := 25, nameIndex := 123, descriptorIndex := 124, attributes := #[] }, { accessFlags := 25, nameIndex := 130, descriptorIndex := 124, attributes := #[] }, { accessFlags := 25, nameIndex := 136, descriptorIndex := 124, attributes := #[] }])
  fields := #[{ name := "SIOOBE_FORMATTER", type := (.object "java/util/function/BiFunction"), accessFlags := 25, slot := 0, constantValue := 0 }, { name := "AIOOBE_FORMATTER", type := (.object "java/util/function/BiFunction"), accessFlags := 25, slot := 1, constantValue := 0 }, { name := "IOOBE_FORMATTER", type := (.object "java/util/function/BiFunction"), accessFlags := 25, slot := 2, constantValue := 0 }]
  methods := #[k13m0]
  instanceTypes := #[]
  staticTypes := #[(.object "java/util/function/BiFunction"), (.object "java/util/function/BiFunction"), (.object "java/util/function/BiFunction")]
  resolved := Array.replicate 194 none
  statics := some 2 }

def pool14 : Array CpInfo := pool [(9, u "<init>"), (6, .class_ 18), (1, u "java/lang/Object"), (0, u "()V"), (1, .class_ 23), (1, u "jdk/internal/util/ArraysSupport"), (0, u "LOG2_ARRAY_LONG_INDEX_SCALE"), (0, u "I"), (2, u "U"), (0, u "Ljdk/internal/misc/Unsafe;"), (8, u "BIG_ENDIAN"), (0, u "Z"), (8, u "LOG2_BYTE_BIT_SIZE"), (4, u "LOG2_ARRAY_INT_INDEX_SCALE"), (54, u "JLA"), (0, u "Ljdk/internal/access/JavaLangAccess;"), (11, u "LOG2_ARRAY_BOOLEAN_INDEX_SCALE"), (9, u "LOG2_ARRAY_BYTE_INDEX_SCALE"), (5, u "LOG2_ARRAY_CHAR_INDEX_SCALE"), (5, u "LOG2_ARRAY_SHORT_INDEX_SCALE"), (18, u "LOG2_ARRAY_FLOAT_INDEX_SCALE"), (24, u "LOG2_ARRAY_DOUBLE_INDEX_SCALE"), (89, u "T_BOOLEAN"), (2, u "T_CHAR"), (1, u "T_FLOAT"), (1, u "T_DOUBLE"), (1, u "T_BYTE"), (1, u "T_SHORT"), (1, u "T_INT"), (1, u "T_LONG"), (1, u "SOFT_MAX_ARRAY_LENGTH")] 83

def k14m0 : Method := { name := "<init>", desc := "()V", sig := { parameters := [], returnType := none }, accessFlags := 2, code := none }
/-- jdk/internal/util/ArraysSupport -/
def k14 : Class := { plain "jdk/internal/util/ArraysSupport" (some 0) with
  accessFlags := 33
  interfaces := #[]
  cf := some (fileOf pool14 21 #[] #[{ accessFlags := 2, nameIndex := 9, descriptorIndex := 19, attributes := #[] }] 33 16 #[] #[{ accessFlags := 24, nameIndex := 28, descriptorIndex := 29, attributes := #[] }, { accessFlags := 26, nameIndex := 38, descriptorIndex := 39, attributes := #[] }, { accessFlags := 25, nameIndex := 121, descriptorIndex := 25, attributes := #[] }, { accessFlags := 25, nameIndex := 131, descriptorIndex := 25, attributes := #[] }, { accessFlags := 25, nameIndex := 137, descriptorIndex := 25, attributes := #[] }, { accessFlags := 25, nameIndex := 143, descriptorIndex := 25, attributes := #[] }, { accessFlags := 25, nameIndex := 53, descriptorIndex := 25, attributes := #[] }, { accessFlags := 25, nameIndex := 24, descriptorIndex := 25, attributes := #[] }, { accessFlags := 25, nameIndex := 162, descriptorIndex := 25, attributes := #[] }, { accessFlags := 25, nameIndex := 187, descriptorIndex := 25, attributes := #[] }, { accessFlags := 26, nameIndex := 48, descriptorIndex := 25, attributes := #[] }, { accessFlags := 25, nameIndex := 277, descriptorIndex := 25, attributes := #[] }, { accessFlags := 25, nameIndex := 280, descriptorIndex := 25, attributes := #[] }, { accessFlags := 25, nameIndex := 282, descriptorIndex := 25, attributes := #[] }, { accessFlags := 25, nameIndex := 284, descriptorIndex := 25, attributes := #[] }, { accessFlags := 25, nameIndex := 286, descriptorIndex := 25, attributes := #[] }, { accessFlags := 25, nameIndex := 288, descriptorIndex := 25, attributes := #[] }, { accessFlags := 25, nameIndex := 290, descriptorIndex := 25, attributes := #[] }, { accessFlags := 25, nameIndex := 292, descriptorIndex := 25, attributes := #[] }, { accessFlags := 26, nameIndex := 108, descriptorIndex := 109, attributes := #[] }, { accessFlags := 25, nameIndex := 294, descriptorIndex := 25, attributes := #[] }])
  fields := #[{ name := "U", type := (.object "jdk/internal/misc/Unsafe"), accessFlags := 24, slot := 0, constantValue := 0 }, { name := "BIG_ENDIAN", type := .boolean, accessFlags := 26, slot := 1, constantValue := 0 }, { name := "LOG2_ARRAY_BOOLEAN_INDEX_SCALE", type := .int, accessFlags := 25, slot := 2, constantValue := 0 }, { name := "LOG2_ARRAY_BYTE_INDEX_SCALE", type := .int, accessFlags := 25, slot := 3, constantValue := 0 }, { name := "LOG2_ARRAY_CHAR_INDEX_SCALE", type := .int, accessFlags := 25, slot := 4, constantValue := 0 }, { name := "LOG2_ARRAY_SHORT_INDEX_SCALE", type := .int, accessFlags := 25, slot := 5, constantValue := 0 }, { name := "LOG2_ARRAY_INT_INDEX_SCALE", type := .int, accessFlags := 25, slot := 6, constantValue := 0 }, { name := "LOG2_ARRAY_LONG_INDEX_SCALE", type := .int, accessFlags := 25, slot := 7, constantValue := 0 }, { name := "LOG2_ARRAY_FLOAT_INDEX_SCALE", type := .int, accessFlags := 25, slot := 8, constantValue := 0 }, { name := "LOG2_ARRAY_DOUBLE_INDEX_SCALE", type := .int, accessFlags := 25, slot := 9, constantValue := 0 }, { name := "LOG2_BYTE_BIT_SIZE", type := .int, accessFlags := 26, slot := 10, constantValue := 0 }, { name := "T_BOOLEAN", type := .int, accessFlags := 25, slot := 11, constantValue := 0 }, { name := "T_CHAR", type := .int, accessFlags := 25, slot := 12, constantValue := 0 }, { name := "T_FLOAT", type := .int, accessFlags := 25, slot := 13, constantValue := 0 }, { name := "T_DOUBLE", type := .int, accessFlags := 25, slot := 14, constantValue := 0 }, { name := "T_BYTE", type := .int, accessFlags := 25, slot := 15, constantValue := 0 }, { name := "T_SHORT", type := .int, accessFlags := 25, slot := 16, constantValue := 0 }, { name := "T_INT", type := .int, accessFlags := 25, slot := 17, constantValue := 0 }, { name := "T_LONG", type := .int, accessFlags := 25, slot := 18, constantValue := 0 }, { name := "JLA", type := (.object "jdk/internal/access/JavaLangAccess"), accessFlags := 26, slot := 19, constantValue := 0 }, { name := "SOFT_MAX_ARRAY_LENGTH", type := .int, accessFlags := 25, slot := 20, constantValue := 0 }]
  methods := #[k14m0]
  instanceTypes := #[]
  staticTypes := #[(.object "jdk/internal/misc/Unsafe"), .boolean, .int, .int, .int, .int, .int, .int, .int, .int, .int, .int, .int, .int, .int, .int, .int, .int, .int, (.object "jdk/internal/access/JavaLangAccess"), .int]
  resolved := Array.replicate 378 none
  statics := none }

def pool15 : Array CpInfo := pool [(1, u "java/lang/Cloneable"), (0, .class_ 1), (0, u "java/lang/Object"), (0, .class_ 3)] 3

/-- java/lang/Cloneable -/
def k15 : Class := { plain "java/lang/Cloneable" (some 0) with
  accessFlags := 1537
  interfaces := #[]
  cf := some (fileOf pool15 2 #[] #[] 1537 4 #[] #[])
  fields := #[]
  methods := #[]
  instanceTypes := #[]
  staticTypes := #[]
  resolved := Array.replicate 8 none
  statics := none }

/-- the primitive byte -/
def k16 : Class := { plain "byte" none with kind := .primitive 'B', accessFlags := 0x411 }
/-- [B -/
def k17 : Class := { plain "[B" (some 0) with kind := .array 16 .byte, interfaces := #[15, 2], accessFlags := 1041 }

/-- the primitive char -/
def k18 : Class := { plain "char" none with kind := .primitive 'C', accessFlags := 0x411 }
/-- [C -/
def k19 : Class := { plain "[C" (some 0) with kind := .array 18 .char, interfaces := #[15, 2], accessFlags := 1041 }

/-- the primitive int -/
def k20 : Class := { plain "int" none with kind := .primitive 'I', accessFlags := 0x411 }
/-- [I -/
def k21 : Class := { plain "[I" (some 0) with kind := .array 20 .int, interfaces := #[15, 2], accessFlags := 1041 }

def heap : Heap := #[{ cls := 7, slots := #[.long 0, .int 1, .null, .int 0, .null, .int 0, .int 0], vm := .statics 7 },
  { cls := 11, slots := #[.null, .ref 3, .null], vm := .statics 11 },
  { cls := 13, slots := #[.null, .null, .null], vm := .statics 13 },
  { cls := 11, slots := #[.null, .int 0, .int 0, .null], vm := .none }]
def classes : Array Class := #[k0, k1, k2, k3, k4, k5, k6, k7, k8, k9, k10, k11, k12, k13, k14, k15, k16, k17, k18, k19, k20, k21]
def interned : List (Array UInt16 × Addr) := []
def slotsUsed : Nat := 17
def theMethod : MethodId := ⟨1, 1⟩
def args0 : Array Value := #[.int 5, .int 5, .int 5, .int 5]
def aboutOver (below : List Frame) : State where
  vm := { classes := classes, interned := interned.toArray }
  heap := heap
  slotsUsed := slotsUsed
  threads := #[{ frames := .invoking theMethod args0 :: below }]
def below0 : List Frame := [.native { method := ⟨0, 0⟩, args := #[] }]
def about1 : State := aboutOver below0
def p0 : Program := .bare "" "" ""
def e0 : Env := launch0.env 0 0 0
theorem w_frames : about1.frames = Frame.invoking theMethod args0 :: below0 := rfl
set_option maxRecDepth 65536 in
theorem w_args : argsFit about1.vm theMethod args0 = true := by decide +kernel
set_option maxRecDepth 65536 in
theorem w_heap : heapFits about1 = true := by decide +kernel
set_option maxRecDepth 65536 in
theorem w_runnable : about1.curStatus? = some .runnable := by decide +kernel
set_option maxRecDepth 65536 in
theorem w_alone : about1.alone = true := by decide +kernel
set_option maxRecDepth 65536 in
theorem w_named : about1.methodNamed? x = some theMethod := by decide +kernel
set_option maxRecDepth 65536 in
theorem w_hears : about1.hears theMethod below0 = true := by decide +kernel
set_option maxRecDepth 65536 in
theorem w_ripe : about1.ripe theMethod args0 below0 = true := by decide +kernel
theorem w_running : about1.status = .running := rfl
set_option maxRecDepth 65536 in
theorem w_room : about1.hasRoom e0.platform room_1 = true :=
  launch0.hasRoom_least _ room_1 (by decide +kernel) (by decide +kernel) (by decide +kernel) (by decide +kernel) (by decide +kernel) (by decide +kernel)
theorem allAtoms_all (ts : List Jvm.Cond) (a : Array Jvm.Value) (st : Jvm.State) : (allAtoms ts).before a st = ts.all (fun c => c.before a st) := by
  induction ts with
  | nil => rfl
  | cons c t ih =>
    show (Jvm.Cond.and c (allAtoms t)).before a st = _
    rw [Jvm.Cond.before_and, ih, List.all_cons]
def words1 : List Jvm.Cond := Jvm.Cond.code x code maxLocals ret :: tables_1
/-- a 'code' word, met by the world's own term for the bytes: nothing is compared byte by byte -/
theorem code_word {y : MethodName} {bytes : ByteArray} {mx : Nat} {rt : Option FieldType} {a : Array Value} {s : State} {m : MethodId} {meth : Method} {c : Code} (h1 : s.methodNamed? y = some m) (h2 : s.vm.method? m = some meth) (h3 : meth.code = some c) (h4 : c.code = bytes)
    (h5 : (c.maxLocals == mx && c.exceptionTable.isEmpty && decide (c.maxStack ≤ mostOperands) && decide (meth.sig.returnType = rt) && !meth.locks && decide (parseMethodDescriptor y.desc = some meth.sig)) = true) : (Jvm.Cond.code y bytes mx rt).before a s = true := by
  simp only [Bool.and_eq_true, beq_iff_eq, Bool.not_eq_true', decide_eq_true_eq] at h5
  obtain ⟨⟨⟨⟨⟨g1, g2⟩, g3⟩, g4⟩, g5⟩, g6⟩ := h5
  simp [Cond.before, Cond.holds, Cond.value, h1, h2, h3, h4, g1, g2, g3, g4, g5, g6]
def isCode : Jvm.Cond → Bool
  | .code _ _ _ _ => true
  | _ => false
theorem all_split {L : List Jvm.Cond} {P : Jvm.Cond → Bool} (h1 : L.all (fun c => isCode c || P c) = true) (h2 : ∀ c ∈ L.filter isCode, P c = true) : L.all P = true := by
  refine List.all_eq_true.mpr fun c hc => ?_
  have h := List.all_eq_true.mp h1 c hc
  rcases Bool.eq_false_or_eq_true (isCode c) with hi | hi
  · exact h2 c (List.mem_filter.mpr ⟨hc, hi⟩)
  · simpa [hi] using h
set_option maxRecDepth 65536 in
theorem w_c0 : (Jvm.Cond.code x code maxLocals ret).before args0 about1 = true := code_word (m := ⟨1, 1⟩) (meth := k1m1) (c := k1c1) (by decide +kernel) rfl rfl rfl (by decide +kernel)
set_option maxRecDepth 65536 in
theorem w_c1 : (Jvm.Cond.code ({ cls := "java/lang/String", name := "<init>", desc := "([C)V" } : Jvm.MethodName) jdk_42_method_3_code (2 : Nat) (Option.none : Option Jvm.ClassFile.FieldType)).before args0 about1 = true := code_word (m := ⟨7, 1⟩) (meth := k7m1) (c := k7c1) (by decide +kernel) rfl rfl rfl (by decide +kernel)
set_option maxRecDepth 65536 in
theorem w_c2 : (Jvm.Cond.code ({ cls := "java/lang/String", name := "<init>", desc := "([CIILjava/lang/Void;)V" } : Jvm.MethodName) jdk_42_method_149_code (6 : Nat) (Option.none : Option Jvm.ClassFile.FieldType)).before args0 about1 = true := code_word (m := ⟨7, 4⟩) (meth := k7m4) (c := k7c4) (by decide +kernel) rfl rfl rfl (by decide +kernel)
set_option maxRecDepth 65536 in
theorem w_c3 : (Jvm.Cond.code ({ cls := "java/lang/Object", name := "<init>", desc := "()V" } : Jvm.MethodName) object_method_1_code (1 : Nat) (Option.none : Option Jvm.ClassFile.FieldType)).before args0 about1 = true := code_word (m := ⟨0, 0⟩) (meth := k0m0) (c := k0c0) (by decide +kernel) rfl rfl rfl (by decide +kernel)
set_option maxRecDepth 65536 in
theorem w_c4 : (Jvm.Cond.code ({ cls := "java/lang/StringUTF16", name := "compress", desc := "([CII)[B" } : Jvm.MethodName) jdk_52_method_16_code (6 : Nat) (Option.some (Jvm.ClassFile.FieldType.array Jvm.ClassFile.FieldType.byte))).before args0 about1 = true := code_word (m := ⟨8, 2⟩) (meth := k8m2) (c := k8c2) (by decide +kernel) rfl rfl rfl (by decide +kernel)
set_option maxRecDepth 65536 in
theorem w_c5 : (Jvm.Cond.code ({ cls := "java/lang/StringUTF16", name := "compress", desc := "([CI[BII)I" } : Jvm.MethodName) jdk_52_method_21_code (7 : Nat) (Option.some Jvm.ClassFile.FieldType.int)).before args0 about1 = true := code_word (m := ⟨8, 3⟩) (meth := k8m3) (c := k8c3) (by decide +kernel) rfl rfl rfl (by decide +kernel)
set_option maxRecDepth 65536 in
theorem w_c6 : (Jvm.Cond.code ({ cls := "java/lang/StringUTF16", name := "coderFromArrayLen", desc := "([BI)B" } : Jvm.MethodName) jdk_52_method_15_code (2 : Nat) (Option.some Jvm.ClassFile.FieldType.byte)).before args0 about1 = true := code_word (m := ⟨8, 1⟩) (meth := k8m1) (c := k8c1) (by decide +kernel) rfl rfl rfl (by decide +kernel)
set_option maxRecDepth 65536 in
theorem w_c7 : (Jvm.Cond.code ({ cls := "com/example/crosslode/crosslode/Problem", name := "warning", desc := "(Ljava/lang/String;Ljava/lang/String;Ljava/lang/String;)Lcom/example/crosslode/crosslode/Problem;" } : Jvm.MethodName) prog_6_method_3_code (3 : Nat) (Option.some (Jvm.ClassFile.FieldType.object "com/example/crosslode/crosslode/Problem"))).before args0 about1 = true := code_word (m := ⟨9, 1⟩) (meth := k9m1) (c := k9c1) (by decide +kernel) rfl rfl rfl (by decide +kernel)
set_option maxRecDepth 65536 in
theorem w_c8 : (Jvm.Cond.code ({ cls := "com/example/crosslode/crosslode/Problem", name := "<init>", desc := "(Ljava/lang/String;Ljava/lang/String;Lcom/example/crosslode/crosslode/Problem$Level;Ljava/lang/String;)V" } : Jvm.MethodName) prog_6_method_1_code (5 : Nat) (Option.none : Option Jvm.ClassFile.FieldType)).before args0 about1 = true := code_word (m := ⟨9, 0⟩) (meth := k9m0) (c := k9c0) (by decide +kernel) rfl rfl rfl (by decide +kernel)
set_option maxRecDepth 65536 in
theorem w_c9 : (Jvm.Cond.code ({ cls := "com/example/crosslode/crosslode/Problem", name := "file", desc := "()Ljava/lang/String;" } : Jvm.MethodName) prog_6_method_5_code (1 : Nat) (Option.some (Jvm.ClassFile.FieldType.object "java/lang/String"))).before args0 about1 = true := code_word (m := ⟨9, 2⟩) (meth := k9m2) (c := k9c2) (by decide +kernel) rfl rfl rfl (by decide +kernel)
set_option maxRecDepth 65536 in
theorem w_c10 : (Jvm.Cond.code ({ cls := "java/lang/String", name := "equals", desc := "(Ljava/lang/Object;)Z" } : Jvm.MethodName) jdk_42_method_66_code (3 : Nat) (Option.some Jvm.ClassFile.FieldType.boolean)).before args0 about1 = true := code_word (m := ⟨7, 2⟩) (meth := k7m2) (c := k7c2) (by decide +kernel) rfl rfl rfl (by decide +kernel)
set_option maxRecDepth 65536 in
theorem w_c11 : (Jvm.Cond.code ({ cls := "com/example/crosslode/crosslode/Problem", name := "record", desc := "()Ljava/lang/String;" } : Jvm.MethodName) prog_6_method_6_code (1 : Nat) (Option.some (Jvm.ClassFile.FieldType.object "java/lang/String"))).before args0 about1 = true := code_word (m := ⟨9, 3⟩) (meth := k9m3) (c := k9c3) (by decide +kernel) rfl rfl rfl (by decide +kernel)
set_option maxRecDepth 65536 in
theorem w_c12 : (Jvm.Cond.code ({ cls := "com/example/crosslode/crosslode/Problem", name := "level", desc := "()Lcom/example/crosslode/crosslode/Problem$Level;" } : Jvm.MethodName) prog_6_method_7_code (1 : Nat) (Option.some (Jvm.ClassFile.FieldType.object "com/example/crosslode/crosslode/Problem$Level"))).before args0 about1 = true := code_word (m := ⟨9, 4⟩) (meth := k9m4) (c := k9c4) (by decide +kernel) rfl rfl rfl (by decide +kernel)
set_option maxRecDepth 65536 in
theorem w_c13 : (Jvm.Cond.code ({ cls := "com/example/crosslode/crosslode/Problem", name := "message", desc := "()Ljava/lang/String;" } : Jvm.MethodName) prog_6_method_8_code (1 : Nat) (Option.some (Jvm.ClassFile.FieldType.object "java/lang/String"))).before args0 about1 = true := code_word (m := ⟨9, 5⟩) (meth := k9m5) (c := k9c5) (by decide +kernel) rfl rfl rfl (by decide +kernel)
set_option maxRecDepth 65536 in
theorem w_c14 : (Jvm.Cond.code ({ cls := "java/lang/String", name := "valueOf", desc := "(C)Ljava/lang/String;" } : Jvm.MethodName) jdk_42_method_139_code (1 : Nat) (Option.some (Jvm.ClassFile.FieldType.object "java/lang/String"))).before args0 about1 = true := code_word (m := ⟨7, 3⟩) (meth := k7m3) (c := k7c3) (by decide +kernel) rfl rfl rfl (by decide +kernel)
set_option maxRecDepth 65536 in
theorem w_c15 : (Jvm.Cond.code ({ cls := "java/lang/StringLatin1", name := "canEncode", desc := "(C)Z" } : Jvm.MethodName) jdk_43_method_3_code (1 : Nat) (Option.some Jvm.ClassFile.FieldType.boolean)).before args0 about1 = true := code_word (m := ⟨12, 1⟩) (meth := k12m1) (c := k12c1) (by decide +kernel) rfl rfl rfl (by decide +kernel)
set_option maxRecDepth 65536 in
theorem w_c16 : (Jvm.Cond.code ({ cls := "java/lang/StringLatin1", name := "toBytes", desc := "(C)[B" } : Jvm.MethodName) jdk_43_method_46_code (1 : Nat) (Option.some (Jvm.ClassFile.FieldType.array Jvm.ClassFile.FieldType.byte))).before args0 about1 = true := code_word (m := ⟨12, 2⟩) (meth := k12m2) (c := k12c2) (by decide +kernel) rfl rfl rfl (by decide +kernel)
set_option maxRecDepth 65536 in
theorem w_c17 : (Jvm.Cond.code ({ cls := "java/lang/String", name := "<init>", desc := "([BB)V" } : Jvm.MethodName) jdk_42_method_151_code (3 : Nat) (Option.none : Option Jvm.ClassFile.FieldType)).before args0 about1 = true := code_word (m := ⟨7, 5⟩) (meth := k7m5) (c := k7c5) (by decide +kernel) rfl rfl rfl (by decide +kernel)
def codes1 : List Jvm.Cond := [Jvm.Cond.code x code maxLocals ret, Jvm.Cond.code ({ cls := "java/lang/String", name := "<init>", desc := "([C)V" } : Jvm.MethodName) jdk_42_method_3_code (2 : Nat) (Option.none : Option Jvm.ClassFile.FieldType), Jvm.Cond.code ({ cls := "java/lang/String", name := "<init>", desc := "([CIILjava/lang/Void;)V" } : Jvm.MethodName) jdk_42_method_149_code (6 : Nat) (Option.none : Option Jvm.ClassFile.FieldType), Jvm.Cond.code ({ cls := "java/lang/Object", name := "<init>", desc := "()V" } : Jvm.MethodName) object_method_1_code (1 : Nat) (Option.none : Option Jvm.ClassFile.FieldType), Jvm.Cond.code ({ cls := "java/lang/StringUTF16", name := "compress", desc := "([CII)[B" } : Jvm.MethodName) jdk_52_method_16_code (6 : Nat) (Option.some (Jvm.ClassFile.FieldType.array Jvm.ClassFile.FieldType.byte)), Jvm.Cond.code ({ cls := "java/lang/StringUTF16", name := "compress", desc := "([CI[BII)I" } : Jvm.MethodName) jdk_52_method_21_code (7 : Nat) (Option.some Jvm.ClassFile.FieldType.int), Jvm.Cond.code ({ cls := "java/lang/StringUTF16", name := "coderFromArrayLen", desc := "([BI)B" } : Jvm.MethodName) jdk_52_method_15_code (2 : Nat) (Option.some Jvm.ClassFile.FieldType.byte), Jvm.Cond.code ({ cls := "com/example/crosslode/crosslode/Problem", name := "warning", desc := "(Ljava/lang/String;Ljava/lang/String;Ljava/lang/String;)Lcom/example/crosslode/crosslode/Problem;" } : Jvm.MethodName) prog_6_method_3_code (3 : Nat) (Option.some (Jvm.ClassFile.FieldType.object "com/example/crosslode/crosslode/Problem")), Jvm.Cond.code ({ cls := "com/example/crosslode/crosslode/Problem", name := "<init>", desc := "(Ljava/lang/String;Ljava/lang/String;Lcom/example/crosslode/crosslode/Problem$Level;Ljava/lang/String;)V" } : Jvm.MethodName) prog_6_method_1_code (5 : Nat) (Option.none : Option Jvm.ClassFile.FieldType), Jvm.Cond.code ({ cls := "com/example/crosslode/crosslode/Problem", name := "file", desc := "()Ljava/lang/String;" } : Jvm.MethodName) prog_6_method_5_code (1 : Nat) (Option.some (Jvm.ClassFile.FieldType.object "java/lang/String")), Jvm.Cond.code ({ cls := "java/lang/String", name := "equals", desc := "(Ljava/lang/Object;)Z" } : Jvm.MethodName) jdk_42_method_66_code (3 : Nat) (Option.some Jvm.ClassFile.FieldType.boolean), Jvm.Cond.code ({ cls := "com/example/crosslode/crosslode/Problem", name := "record", desc := "()Ljava/lang/String;" } : Jvm.MethodName) prog_6_method_6_code (1 : Nat) (Option.some (Jvm.ClassFile.FieldType.object "java/lang/String")), Jvm.Cond.code ({ cls := "com/example/crosslode/crosslode/Problem", name := "level", desc := "()Lcom/example/crosslode/crosslode/Problem$Level;" } : Jvm.MethodName) prog_6_method_7_code (1 : Nat) (Option.some (Jvm.ClassFile.FieldType.object "com/example/crosslode/crosslode/Problem$Level")), Jvm.Cond.code ({ cls := "com/example/crosslode/crosslode/Problem", name := "message", desc := "()Ljava/lang/String;" } : Jvm.MethodName) prog_6_method_8_code (1 : Nat) (Option.some (Jvm.ClassFile.FieldType.object "java/lang/String")), Jvm.Cond.code ({ cls := "java/lang/String", name := "valueOf", desc := "(C)Ljava/lang/String;" } : Jvm.MethodName) jdk_42_method_139_code (1 : Nat) (Option.some (Jvm.ClassFile.FieldType.object "java/lang/String")), Jvm.Cond.code ({ cls := "java/lang/StringLatin1", name := "canEncode", desc := "(C)Z" } : Jvm.MethodName) jdk_43_method_3_code (1 : Nat) (Option.some Jvm.ClassFile.FieldType.boolean), Jvm.Cond.code ({ cls := "java/lang/StringLatin1", name := "toBytes", desc := "(C)[B" } : Jvm.MethodName) jdk_43_method_46_code (1 : Nat) (Option.some (Jvm.ClassFile.FieldType.array Jvm.ClassFile.FieldType.byte)), Jvm.Cond.code ({ cls := "java/lang/String", name := "<init>", desc := "([BB)V" } : Jvm.MethodName) jdk_42_method_151_code (3 : Nat) (Option.none : Option Jvm.ClassFile.FieldType)]
set_option maxRecDepth 65536 in
theorem codes_eq : words1.filter isCode = codes1 := rfl
theorem w_codes : ∀ c ∈ words1.filter isCode, c.before args0 about1 = true := by
  rw [codes_eq]
  intro c hc
  simp only [codes1, List.mem_cons, List.not_mem_nil, or_false] at hc
  rcases hc with rfl | rfl | rfl | rfl | rfl | rfl | rfl | rfl | rfl | rfl | rfl | rfl | rfl | rfl | rfl | rfl | rfl | rfl
  · exact w_c0
  · exact w_c1
  · exact w_c2
  · exact w_c3
  · exact w_c4
  · exact w_c5
  · exact w_c6
  · exact w_c7
  · exact w_c8
  · exact w_c9
  · exact w_c10
  · exact w_c11
  · exact w_c12
  · exact w_c13
  · exact w_c14
  · exact w_c15
  · exact w_c16
  · exact w_c17
set_option maxRecDepth 65536 in
theorem w_t1 : (words1.take 24).all (fun c => isCode c || c.before args0 about1) = true := by decide +kernel
set_option maxRecDepth 65536 in
theorem w_t2 : ((words1.drop 24).take 24).all (fun c => isCode c || c.before args0 about1) = true := by decide +kernel
set_option maxRecDepth 65536 in
theorem w_t3 : (((words1.drop 24).drop 24).take 24).all (fun c => isCode c || c.before args0 about1) = true := by decide +kernel
set_option maxRecDepth 65536 in
theorem w_t4 : (((words1.drop 24).drop 24).drop 24).all (fun c => isCode c || c.before args0 about1) = true := by decide +kernel
theorem w_tables : (allAtoms (Jvm.Cond.code x code maxLocals ret :: tables_1)).before args0 about1 = true := by
  rw [allAtoms_all]
  show words1.all (fun c => c.before args0 about1) = true
  refine all_split ?_ w_codes
  rw [← List.take_append_drop 24 words1, List.all_append, w_t1, ← List.take_append_drop 24 (words1.drop 24), List.all_append, w_t2, ← List.take_append_drop 24 ((words1.drop 24).drop 24), List.all_append, w_t3, w_t4]
  rfl
set_option maxRecDepth 65536 in
theorem w_rest : rest_1_c.before args0 about1 = true := by decide +kernel
set_option maxRecDepth 65536 in
theorem w_case : (Jvm.Cond.and given_1 narrow_1).before args0 about1 = true := by decide +kernel
theorem w_applies : (headSpec (Jvm.Cond.code x code maxLocals ret :: tables_1) room_1).applies x e0.platform about1 = true :=
  (Spec.applies_iff w_frames).mpr ⟨w_running, w_runnable, w_alone, w_named, w_hears, w_ripe, w_room, w_tables⟩
theorem atStart : AtStart classFile x code maxLocals ret World_1 tables_1 room_1 Calls_1 rest_1 Pre_1 launch0 p0 e0 about1 theMethod args0 below0 :=
  ⟨lists_1, trivial, launch0.admits_env _ _ _, launch0.least_env, fairChoices_fair.cas, fairChoices_fair.clock, w_frames, w_args, w_heap, w_applies, trivial, w_rest, w_case⟩
end start1
theorem witness_1 : WitnessClaimed_1 := ⟨start1.p0, start1.e0, start1.about1, start1.theMethod, start1.args0, start1.below0, start1.atStart⟩
end Jvm.Pilot.@@N@@
