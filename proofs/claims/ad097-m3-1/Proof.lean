import JvmDerived
import JvmDerived.Pilot.@@N@@Statement
import JvmDerived.Pilot.@@N@@Code
set_option linter.unusedVariables false
set_option linter.unusedSimpArgs false
/- laws to paste: Road.backV (cut by pick.py; bodies as the Statement names them) -/
namespace Jvm.Pilot.@@N@@
namespace StrChars
open Jvm Sem ClassFile Op Lib Jvm.Stand Jvm.Free.XT Jvm.Free.ALB Jvm.Free.JM Jvm.Free
open Jvm.Lib.Cold (StaticIs)
/-- a char array whose places are chars -/
def Ch (a : Addr) (A : Cell) (U : State) : Prop := Arr .char a A U ∧ Typed .char A
theorem Ch.mv {a : Addr} {A : Cell} {U U' : State} (h : Ch a A U) (hal : U.vm.Alike U'.vm) (hh : U'.heap = U.heap) : Ch a A U' := ⟨h.1.mv hal hh, h.2⟩
theorem Ch.keep {a : Addr} {A : Cell} {U U' : State} (h : Ch a A U) (hal : U.vm.Alike U'.vm) (hk : U'.heap[a]? = some A) : Ch a A U' := ⟨h.1.keep hal hk, h.2⟩
/-- what place i of a char[]'s cell holds -/
def cv (A : Cell) (i : Nat) : Int32 := match A.slots[i]? with | some (.int x) => x | _ => 0
theorem Ch.get {a : Addr} {A : Cell} {U : State} (h : Ch a A U) {i : Nat} (hi : i < A.slots.size) : A.slots[i]? = some (.int (cv A i)) := by
  have e := Array.getElem?_eq_getElem hi
  have f := h.2 i _ e
  unfold cv; rw [e]
  generalize A.slots[i] = v at f
  cases v <;> simp [fits] at f ⊢
/-- the byte that i2b leaves of a char -/
def lo8 (x : Int32) : Int32 := x.toInt8.toInt32
theorem fits_lo8 (y : Int32) : fits .byte (.int (lo8 y)) = true := by
  have h1 := y.toInt8.le_toInt
  have h2 := y.toInt8.toInt_lt
  simp only [lo8, fits, Bool.and_eq_true, decide_eq_true_eq, Int32.le_iff_toInt_le, Int8.toInt_toInt32, show (-128 : Int32).toInt = -128 from by decide, show (127 : Int32).toInt = 127 from by decide]
  omega
/-- A' is A but that each place j of lo .. hi - 1 holds f j -/
def Laid (A A' : Cell) (lo hi : Nat) (f : Nat → Value) : Prop := A'.cls = A.cls ∧ A'.vm = A.vm ∧ A'.slots.size = A.slots.size ∧ ∀ i, A'.slots[i]? = if lo ≤ i ∧ i < hi then some (f i) else A.slots[i]?
theorem Laid.zero (A : Cell) (lo : Nat) (f : Nat → Value) : Laid A A lo (lo + 0) f := ⟨rfl, rfl, rfl, fun i => by rw [if_neg (by omega)]⟩
theorem Laid.step {A Ak : Cell} {lo k : Nat} {f : Nat → Value} {v : Value} (h : Laid A Ak lo k f) (hlo : lo ≤ k) (hk : k < Ak.slots.size) (hv : v = f k) : Laid A (Ak.setSlot k v) lo (k + 1) f := by
  refine ⟨h.1, h.2.1, by simpa [Cell.setSlot] using h.2.2.1, fun i => ?_⟩
  by_cases e : k = i
  · subst e; rw [Cell.slots_setSlot_self v hk, if_pos (by omega), hv]
  · rw [Cell.slots_setSlot_ne v e, h.2.2.2 i]
    by_cases q : lo ≤ i ∧ i < k
    · rw [if_pos q, if_pos (by omega)]
    · rw [if_neg q, if_neg (by omega)]
def U16 : String := "java/lang/StringUTF16"
namespace Cmp5
def yN : MethodName := ⟨"java/lang/StringUTF16", "compress", "([CI[BII)I"⟩
abbrev yB : ByteArray := jdk_52_method_21_code
theorem d0 : decode yB 0 = .ok (.iconst 0, 1) := by decide +kernel
theorem d1 : decode yB 1 = .ok (.istore 5, 2) := by decide +kernel
theorem d3 : decode yB 3 = .ok (.iload 5, 2) := by decide +kernel
theorem d5 : decode yB 5 = .ok (.iload 4, 2) := by decide +kernel
theorem d7 : decode yB 7 = .ok (.if_icmp (.ge) 37, 3) := by decide +kernel
theorem d10 : decode yB 10 = .ok (.aload_n 0, 1) := by decide +kernel
theorem d11 : decode yB 11 = .ok (.iload_n 1, 1) := by decide +kernel
theorem d12 : decode yB 12 = .ok (.caload, 1) := by decide +kernel
theorem d13 : decode yB 13 = .ok (.istore 6, 2) := by decide +kernel
theorem d15 : decode yB 15 = .ok (.iload 6, 2) := by decide +kernel
theorem d17 : decode yB 17 = .ok (.sipush 255, 3) := by decide +kernel
theorem d20 : decode yB 20 = .ok (.if_icmp (.le) 6, 3) := by decide +kernel
theorem d26 : decode yB 26 = .ok (.aload_n 2, 1) := by decide +kernel
theorem d27 : decode yB 27 = .ok (.iload_n 3, 1) := by decide +kernel
theorem d28 : decode yB 28 = .ok (.iload 6, 2) := by decide +kernel
theorem d30 : decode yB 30 = .ok (.i2b, 1) := by decide +kernel
theorem d31 : decode yB 31 = .ok (.bastore, 1) := by decide +kernel
theorem d32 : decode yB 32 = .ok (.iinc 1 1, 3) := by decide +kernel
theorem d35 : decode yB 35 = .ok (.iinc 3 1, 3) := by decide +kernel
theorem d38 : decode yB 38 = .ok (.iinc 5 1, 3) := by decide +kernel
theorem d41 : decode yB 41 = .ok (.goto (-38), 3) := by decide +kernel
theorem d44 : decode yB 44 = .ok (.iload 4, 2) := by decide +kernel
theorem d46 : decode yB 46 = .ok (.ireturn, 1) := by decide +kernel
def site : List Cond := []
def tab : Cond := tabOf yN yB 7 (some .int) site
def P (b : Addr) (A : Cell) (d : Addr) (B : Cell) (o q len : Nat) (args : Array Value) (s : State) : Prop := args = #[.ref b, .int (Int32.ofNat o), .ref d, .int (Int32.ofNat q), .int (Int32.ofNat len)] ∧ Ch b A s ∧ Arr .byte d B s ∧ b ≠ d ∧ o + len ≤ A.slots.size ∧ q + len ≤ B.slots.size ∧ ∀ i, i < len → ¬ 255 < cv A (o + i)
def E (b : Addr) (A : Cell) (d : Addr) (B : Cell) (o q len : Nat) (r : Option Value) (s u : State) : Prop := r = some (.int (Int32.ofNat len)) ∧ ∃ B', Put d B' s u ∧ Laid B B' q (q + len) (fun j => Value.int (lo8 (cv A (o + (j - q)))))
/-- no char of the range above 255: len; the places written hold each char's low byte -/
theorem law (l : Launch) (b : Addr) (A : Cell) (d : Addr) (B : Cell) (o q len : Nat) : Law l yN 5 5 0 0 yB 7 (some .int) site (P b A d B o q len) (E b A d B o q len) (copyLocs d q len) 0 0 := by
  refine Law.of_walk (plainFor_of_name (by decide +kernel)) (by decide +kernel) (by decide +kernel) (by decide) (fun _ _ h => by rw [h.1]; rfl) (fun _ U U' hal hh h => ⟨h.1, h.2.1.mv hal hh, h.2.2.1.mv hal hh, h.2.2.2⟩) (fun r U U' V V' h1 hal h2 h => ⟨h.1, h.2.elim fun B' q => ⟨B', q.1.mv h1 h2, q.2⟩⟩) ?_
  intro p e s m args below meth c s₁ X0 hexec hbytes hml hret hlk hnm hown hh0 W hP
  obtain ⟨rfl, hA, hB, hne, l1, l2, hp⟩ := hP
  have c1 : Steps p.tables e below (s₁.setTop (entryFrame m #[.ref b, .int (Int32.ofNat o), .ref d, .int (Int32.ofNat q), .int (Int32.ofNat len)] 7)) (s₁.setTop (mkF m 0 #[.val (.ref b), .val (.int (Int32.ofNat o)), .val (.ref d), .val (.int (Int32.ofNat q)), .val (.int (Int32.ofNat len)), .unset, .unset] [])) := entry rfl
  have hA0 := hA.1.mv X0.warmed.alike hh0
  have hB0 := hB.mv X0.warmed.alike hh0
  have a31 := hA.1.2.2.2
  have c2 : Steps p.tables e below (s₁.setTop (entryFrame m #[.ref b, .int (Int32.ofNat o), .ref d, .int (Int32.ofNat q), .int (Int32.ofNat len)] 7)) (s₁.setTop (mkF m 3 #[.val (.ref b), .val (.int (Int32.ofNat o)), .val (.ref d), .val (.int (Int32.ofNat q)), .val (.int (Int32.ofNat len)), .val (.int 0), .unset] [])) := c1.trans (by
    refine iconstV X0.here hexec rfl 0 (hb hbytes d0) (by decide) ?_
    refine XS.istore X0.here hexec rfl (hb hbytes d1) rfl rfl ?_
    exact Steps.refl _)
  have loop : ∀ (r i : Nat), i + r = len → ∀ (z : Slot), (z = .unset ∨ ∃ w, z = .val w ∧ w.category = 1) → ∀ (Tl : State) (Bk : Cell), Stand p l e { frames := 0, locals := 0, cells := 0, slots := 0 } s m #[.ref b, .int (Int32.ofNat o), .ref d, .int (Int32.ofNat q), .int (Int32.ofNat len)] below meth c Tl ([] ++ copyLocs d q i) 0 0 → Put d Bk s₁ Tl → Laid B Bk q (q + i) (fun j => Value.int (lo8 (cv A (o + (j - q))))) →
      Steps p.tables e below (s₁.setTop (entryFrame m #[.ref b, .int (Int32.ofNat o), .ref d, .int (Int32.ofNat q), .int (Int32.ofNat len)] 7)) (Tl.setTop (mkF m 3 #[.val (.ref b), .val (.int (Int32.ofNat (o + i))), .val (.ref d), .val (.int (Int32.ofNat (q + i))), .val (.int (Int32.ofNat len)), .val (.int (Int32.ofNat i)), z] [])) → ∃ (T' : State) (B' : Cell) (z' : Slot), Stand p l e { frames := 0, locals := 0, cells := 0, slots := 0 } s m #[.ref b, .int (Int32.ofNat o), .ref d, .int (Int32.ofNat q), .int (Int32.ofNat len)] below meth c T' ([] ++ copyLocs d q len) 0 0 ∧ Put d B' s₁ T' ∧ Laid B B' q (q + len) (fun j => Value.int (lo8 (cv A (o + (j - q))))) ∧
      Steps p.tables e below (s₁.setTop (entryFrame m #[.ref b, .int (Int32.ofNat o), .ref d, .int (Int32.ofNat q), .int (Int32.ofNat len)] 7)) (T'.setTop (mkF m 3 #[.val (.ref b), .val (.int (Int32.ofNat (o + len))), .val (.ref d), .val (.int (Int32.ofNat (q + len))), .val (.int (Int32.ofNat len)), .val (.int (Int32.ofNat len)), z'] [])) := by
    intro r
    induction r with
    | zero =>
      intro i hi z hz Tl Bk Xl pl fl cl
      have hil : i = len := by omega
      rw [hil] at Xl fl cl
      exact ⟨Tl, Bk, z, Xl, pl, fl, cl⟩
    | succ r ih =>
      intro i hi z hz Tl Bk Xl pl fl cl
      have all := X0.warmed.alike.symm.trans Xl.warmed.alike
      have hAl := hA0.keep all (pl.other hne hA0.1)
      have hBk := hB0.like all pl.1 fl.1 fl.2.1 fl.2.2.1
      have hlt : q + i < Bk.slots.size := by rw [fl.2.2.1]; omega
      have c3 : Steps p.tables e below (s₁.setTop (entryFrame m #[.ref b, .int (Int32.ofNat o), .ref d, .int (Int32.ofNat q), .int (Int32.ofNat len)] 7)) (Tl.setTop (mkF m 12 #[.val (.ref b), .val (.int (Int32.ofNat (o + i))), .val (.ref d), .val (.int (Int32.ofNat (q + i))), .val (.int (Int32.ofNat len)), .val (.int (Int32.ofNat i)), z] [.int (Int32.ofNat (o + i)), .ref b])) := cl.trans (by
        refine XS.iload Xl.here hexec rfl (hb hbytes d3) rfl ?_
        refine XS.iload Xl.here hexec rfl (hb hbytes d5) rfl ?_
        refine XS.icmpNo Xl.here hexec rfl (hb hbytes d7) rfl (ii_ge_f (lt32 (by omega) (by omega))) ?_
        refine XS.aloadN Xl.here hexec rfl (hb hbytes d10) rfl rfl ?_
        refine XS.iloadN Xl.here hexec rfl (hb hbytes d11) rfl ?_
        exact Steps.refl _)
      have c4 : Steps p.tables e below (s₁.setTop (entryFrame m #[.ref b, .int (Int32.ofNat o), .ref d, .int (Int32.ofNat q), .int (Int32.ofNat len)] 7)) (Tl.setTop (mkF m 13 #[.val (.ref b), .val (.int (Int32.ofNat (o + i))), .val (.ref d), .val (.int (Int32.ofNat (q + i))), .val (.int (Int32.ofNat len)), .val (.int (Int32.ofNat i)), z] [.int (cv A (o + i))])) := c3.trans (by
        refine Xl.aget hexec hAl rfl (hA.get (i := o + i) (by omega)) rfl rfl (hb hbytes d12) ?_
        exact Steps.refl _)
      have c5 : Steps p.tables e below (s₁.setTop (entryFrame m #[.ref b, .int (Int32.ofNat o), .ref d, .int (Int32.ofNat q), .int (Int32.ofNat len)] 7)) (Tl.setTop (mkF m 15 #[.val (.ref b), .val (.int (Int32.ofNat (o + i))), .val (.ref d), .val (.int (Int32.ofNat (q + i))), .val (.int (Int32.ofNat len)), .val (.int (Int32.ofNat i)), .val (.int (cv A (o + i)))] [])) := c4.trans (by
        refine XS.istoreS Xl.here hexec rfl (hb hbytes d13) rfl rfl hz ?_
        exact Steps.refl _)
      have c6 : Steps p.tables e below (s₁.setTop (entryFrame m #[.ref b, .int (Int32.ofNat o), .ref d, .int (Int32.ofNat q), .int (Int32.ofNat len)] 7)) (Tl.setTop (mkF m 31 #[.val (.ref b), .val (.int (Int32.ofNat (o + i))), .val (.ref d), .val (.int (Int32.ofNat (q + i))), .val (.int (Int32.ofNat len)), .val (.int (Int32.ofNat i)), .val (.int (cv A (o + i)))] [.int (lo8 (cv A (o + i))), .int (Int32.ofNat (q + i)), .ref d])) := c5.trans (by
        refine XS.iload Xl.here hexec rfl (hb hbytes d15) rfl ?_
        refine sipushV Xl.here hexec rfl 255 (hb hbytes d17) (by decide) ?_
        refine XS.icmpYes Xl.here hexec rfl (pc0 := 20) rfl (hb hbytes d20) rfl (ii_le_t (hp i (by omega))) (by decide) rfl ?_
        refine XS.aloadN Xl.here hexec rfl (hb hbytes d26) rfl rfl ?_
        refine XS.iloadN Xl.here hexec rfl (hb hbytes d27) rfl ?_
        refine XS.iload Xl.here hexec rfl (hb hbytes d28) rfl ?_
        refine i2b Xl.here hexec rfl (hb hbytes d30) rfl ?_
        exact Steps.refl _)
      obtain ⟨T7, X7, p7, st7⟩ := Xl.aput hexec hBk rfl hlt rfl (fits_lo8 (cv A (o + i))) (g := (mkF m 31 #[.val (.ref b), .val (.int (Int32.ofNat (o + i))), .val (.ref d), .val (.int (Int32.ofNat (q + i))), .val (.int (Int32.ofNat len)), .val (.int (Int32.ofNat i)), .val (.int (cv A (o + i)))] [.int (lo8 (cv A (o + i))), .int (Int32.ofNat (q + i)), .ref d])) rfl (rest := []) rfl (hb hbytes d31)
      have c8 : Steps p.tables e below (s₁.setTop (entryFrame m #[.ref b, .int (Int32.ofNat o), .ref d, .int (Int32.ofNat q), .int (Int32.ofNat len)] 7)) (T7.setTop (mkF m 32 #[.val (.ref b), .val (.int (Int32.ofNat (o + i))), .val (.ref d), .val (.int (Int32.ofNat (q + i))), .val (.int (Int32.ofNat len)), .val (.int (Int32.ofNat i)), .val (.int (cv A (o + i)))] [])) := c6.trans (st7 _ (Steps.refl _))
      have c9 : Steps p.tables e below (s₁.setTop (entryFrame m #[.ref b, .int (Int32.ofNat o), .ref d, .int (Int32.ofNat q), .int (Int32.ofNat len)] 7)) (T7.setTop (mkF m 3 #[.val (.ref b), .val (.int (Int32.ofNat (o + i) + 1)), .val (.ref d), .val (.int (Int32.ofNat (q + i) + 1)), .val (.int (Int32.ofNat len)), .val (.int (Int32.ofNat i + 1)), .val (.int (cv A (o + i)))] [])) := c8.trans (by
        refine iincV X7.here hexec rfl 1 (hb hbytes d32) (by decide) rfl rfl ?_
        refine iincV X7.here hexec rfl 1 (hb hbytes d35) (by decide) rfl rfl ?_
        refine iincV X7.here hexec rfl 1 (hb hbytes d38) (by decide) rfl rfl ?_
        refine XS.goto X7.here hexec rfl (pc0 := 41) rfl (hb hbytes d41) (by decide) rfl ?_
        exact Steps.refl _)
      have c10 : Steps p.tables e below (s₁.setTop (entryFrame m #[.ref b, .int (Int32.ofNat o), .ref d, .int (Int32.ofNat q), .int (Int32.ofNat len)] 7)) (T7.setTop (mkF m 3 #[.val (.ref b), .val (.int (Int32.ofNat (o + (i + 1)))), .val (.ref d), .val (.int (Int32.ofNat (q + (i + 1)))), .val (.int (Int32.ofNat len)), .val (.int (Int32.ofNat (i + 1))), .val (.int (cv A (o + i)))] [])) := by
        have := c9
        rw [succ32, succ32, succ32] at this
        exact this
      exact ih (i + 1) (by omega) _ (Or.inr ⟨_, rfl, rfl⟩) T7 _ (by rw [copyLocs_step, ← List.append_assoc]; exact X7) (pl.trans p7) (fl.step (by omega) hlt (by simp)) c10
  obtain ⟨T9, B9, z9, X9, p9, f9, g9⟩ := loop len 0 (by omega) .unset (Or.inl rfl) s₁ B (by simpa [copyLocs] using X0) ⟨hB0.1, fun _ _ => rfl, rfl⟩ (Laid.zero _ _ _) c2
  have c11 : Steps p.tables e below (s₁.setTop (entryFrame m #[.ref b, .int (Int32.ofNat o), .ref d, .int (Int32.ofNat q), .int (Int32.ofNat len)] 7)) (T9.setTop (mkF m 46 #[.val (.ref b), .val (.int (Int32.ofNat (o + len))), .val (.ref d), .val (.int (Int32.ofNat (q + len))), .val (.int (Int32.ofNat len)), .val (.int (Int32.ofNat len)), z9] [.int (Int32.ofNat len)])) := g9.trans (by
    refine XS.iload X9.here hexec rfl (hb hbytes d3) rfl ?_
    refine XS.iload X9.here hexec rfl (hb hbytes d5) rfl ?_
    refine XS.icmpYes X9.here hexec rfl (pc0 := 7) rfl (hb hbytes d7) rfl (ii_ge_t (nlt32 (by omega) (Nat.le_refl _))) (by decide) rfl ?_
    refine XS.iload X9.here hexec rfl (hb hbytes d44) rfl ?_
    exact Steps.refl _)
  exact ⟨T9, some (.int (Int32.ofNat len)), _, _, _, X9, by simp, rfl, rfl, (fun h => by cases h), ⟨rfl, B9, p9.from hh0, f9⟩, fun fs hl => c11.trans (X9.ireturnOut hexec hret rfl (Or.inl rfl) (hb hbytes d46) hl)⟩
end Cmp5
namespace Cmp3
def yN : MethodName := ⟨"java/lang/StringUTF16", "compress", "([CII)[B"⟩
abbrev yB : ByteArray := jdk_52_method_16_code
theorem d0 : decode yB 0 = .ok (.iload_n 2, 1) := by decide +kernel
theorem d1 : decode yB 1 = .ok (.newarray .byte, 2) := by decide +kernel
theorem d3 : decode yB 3 = .ok (.astore_n 3, 1) := by decide +kernel
theorem d4 : decode yB 4 = .ok (.aload_n 0, 1) := by decide +kernel
theorem d5 : decode yB 5 = .ok (.iload_n 1, 1) := by decide +kernel
theorem d6 : decode yB 6 = .ok (.aload_n 3, 1) := by decide +kernel
theorem d7 : decode yB 7 = .ok (.iconst 0, 1) := by decide +kernel
theorem d8 : decode yB 8 = .ok (.iload_n 2, 1) := by decide +kernel
theorem d9 : decode yB 9 = .ok (.invokestatic 115, 3) := by decide +kernel
theorem d12 : decode yB 12 = .ok (.istore 4, 2) := by decide +kernel
theorem d14 : decode yB 14 = .ok (.iload 4, 2) := by decide +kernel
theorem d16 : decode yB 16 = .ok (.iload_n 2, 1) := by decide +kernel
theorem d17 : decode yB 17 = .ok (.if_icmp (.eq) 40, 3) := by decide +kernel
theorem d57 : decode yB 57 = .ok (.aload_n 3, 1) := by decide +kernel
theorem d58 : decode yB 58 = .ok (.areturn, 1) := by decide +kernel
def site : List Cond := [.arrayClass .byte, Cmp5.tab] ++ staticW U16 115 Cmp5.yN
def tab : Cond := tabOf yN yB 6 (some (.array .byte)) site
def P (b : Addr) (A : Cell) (o len : Nat) (args : Array Value) (s : State) : Prop := args = #[.ref b, .int (Int32.ofNat o), .int (Int32.ofNat len)] ∧ Ch b A s ∧ o + len ≤ A.slots.size ∧ len ≤ 536870912 ∧ ∀ i, i < len → ¬ 255 < cv A (o + i)
def E (b : Addr) (A : Cell) (o len : Nat) (r : Option Value) (s u : State) : Prop := NewArr .byte "[B" len (fun j => .int (lo8 (cv A (o + j)))) r s u ∧ u.heap.size = s.heap.size + 1
/-- no char of the range above 255: a new byte[] of their low bytes -/
theorem law (l : Launch) (b : Addr) (A : Cell) (o len : Nat) : Law l yN 3 3 1 18 yB 6 (some (.array .byte)) site (P b A o len) (E b A o len) [] 1 len := by
  refine Law.of_walk (plainFor_of_name (by decide +kernel)) (by decide +kernel) (by decide +kernel) (by decide) (fun _ _ h => by rw [h.1]; rfl) (fun _ U U' hal hh h => ⟨h.1, h.2.1.mv hal hh, h.2.2⟩) (fun r U U' V V' h1 hal h2 h => ⟨NewArr.mv r U U' V V' h1 hal h2 h.1, by rw [h1, h2]; exact h.2⟩) ?_
  intro p e s m args below meth c s₁ X0 hexec hbytes hml hret hlk hnm hown hh0 W hP
  obtain ⟨rfl, hA, l1, l2, hp⟩ := hP
  have a31 := hA.1.2.2.2
  have c1 : Steps p.tables e below (s₁.setTop (entryFrame m #[.ref b, .int (Int32.ofNat o), .int (Int32.ofNat len)] 6)) (s₁.setTop (mkF m 0 #[.val (.ref b), .val (.int (Int32.ofNat o)), .val (.int (Int32.ofNat len)), .unset, .unset, .unset] [])) := entry rfl
  have c2 : Steps p.tables e below (s₁.setTop (entryFrame m #[.ref b, .int (Int32.ofNat o), .int (Int32.ofNat len)] 6)) (s₁.setTop (mkF m 1 #[.val (.ref b), .val (.int (Int32.ofNat o)), .val (.int (Int32.ofNat len)), .unset, .unset, .unset] [.int (Int32.ofNat len)])) := c1.trans (by
    refine XS.iloadN X0.here hexec rfl (hb hbytes d0) rfl ?_
    exact Steps.refl _)
  obtain ⟨T3, B3, X3, ba3, bs3, bv3, bh3, bf3, st3⟩ := X0.anew hexec (atype := .byte) (wk W (.arrayClass .byte)) rfl (by show len * 1 ≤ _; omega) (by omega) (g := (mkF m 1 #[.val (.ref b), .val (.int (Int32.ofNat o)), .val (.int (Int32.ofNat len)), .unset, .unset, .unset] [.int (Int32.ofNat len)])) rfl (hb hbytes d1) (rest := []) rfl (Nat.le_refl _) (by show 0 + len ≤ len; omega)
  rw [hh0] at ba3 st3
  have kp3 : XT.Kept s T3 := (XT.Kept.of_eq hh0).push bh3
  have hA3 := hA.keep X3.warmed.alike (kp3 _ _ hA.1.1)
  have hne : b ≠ s.heap.size := hA.1.ne
  have c4 : Steps p.tables e below (s₁.setTop (entryFrame m #[.ref b, .int (Int32.ofNat o), .int (Int32.ofNat len)] 6)) (T3.setTop (mkF m 3 #[.val (.ref b), .val (.int (Int32.ofNat o)), .val (.int (Int32.ofNat len)), .unset, .unset, .unset] [.ref s.heap.size])) := c2.trans (st3 _ (Steps.refl _))
  have c5 : Steps p.tables e below (s₁.setTop (entryFrame m #[.ref b, .int (Int32.ofNat o), .int (Int32.ofNat len)] 6)) (T3.setTop (mkF m 9 #[.val (.ref b), .val (.int (Int32.ofNat o)), .val (.int (Int32.ofNat len)), .val (.ref s.heap.size), .unset, .unset] [.int (Int32.ofNat len), .int 0, .ref s.heap.size, .int (Int32.ofNat o), .ref b])) := c4.trans (by
    refine XS.astoreN X3.here hexec rfl (hb hbytes d3) rfl rfl rfl ?_
    refine XS.aloadN X3.here hexec rfl (hb hbytes d4) rfl rfl ?_
    refine XS.iloadN X3.here hexec rfl (hb hbytes d5) rfl ?_
    refine XS.aloadN X3.here hexec rfl (hb hbytes d6) rfl rfl ?_
    refine iconstV X3.here hexec rfl 0 (hb hbytes d7) (by decide) ?_
    refine XS.iloadN X3.here hexec rfl (hb hbytes d8) rfl ?_
    exact Steps.refl _)
  obtain ⟨v6, T6, X6, E6, g6⟩ := X3.callS hexec (Cmp5.law l b A s.heap.size B3 o 0 len) hown (wks W (staticW U16 115 Cmp5.yN)) (wk W Cmp5.tab) (W := 0) (Nat.le_of_ble_eq_true rfl) (Nat.le_of_ble_eq_true rfl) (Nat.le_refl _) (by show 0 + len + 0 ≤ len; omega) (g := (mkF m 9 #[.val (.ref b), .val (.int (Int32.ofNat o)), .val (.int (Int32.ofNat len)), .val (.ref s.heap.size), .unset, .unset] [.int (Int32.ofNat len), .int (Int32.ofNat 0), .ref s.heap.size, .int (Int32.ofNat o), .ref b])) rfl (by rw [hml]; rfl) c5 (argsL := [.ref b, .int (Int32.ofNat o), .ref s.heap.size, .int (Int32.ofNat 0), .int (Int32.ofNat len)]) (rest := []) rfl rfl (by show 2 * 0 + 0 ≤ _; decide) (hb hbytes d9) (⟨rfl, hA3, ba3, hne, l1, by rw [bs3]; simp, hp⟩)
  obtain ⟨rfl, B6, p6, f6⟩ := E6
  have c7 : Steps p.tables e below (s₁.setTop (entryFrame m #[.ref b, .int (Int32.ofNat o), .int (Int32.ofNat len)] 6)) (T6.setTop (mkF m 12 #[.val (.ref b), .val (.int (Int32.ofNat o)), .val (.int (Int32.ofNat len)), .val (.ref s.heap.size), .unset, .unset] [.int (Int32.ofNat len)])) := g6
  have c8 : Steps p.tables e below (s₁.setTop (entryFrame m #[.ref b, .int (Int32.ofNat o), .int (Int32.ofNat len)] 6)) (T6.setTop (mkF m 58 #[.val (.ref b), .val (.int (Int32.ofNat o)), .val (.int (Int32.ofNat len)), .val (.ref s.heap.size), .val (.int (Int32.ofNat len)), .unset] [.ref s.heap.size])) := c7.trans (by
    refine XS.istore X6.here hexec rfl (hb hbytes d12) rfl rfl ?_
    refine XS.iload X6.here hexec rfl (hb hbytes d14) rfl ?_
    refine XS.iloadN X6.here hexec rfl (hb hbytes d16) rfl ?_
    refine XS.icmpYes X6.here hexec rfl (pc0 := 17) rfl (hb hbytes d17) rfl (ii_eq_t rfl) (by decide) rfl ?_
    refine XS.aloadN X6.here hexec rfl (hb hbytes d57) rfl rfl ?_
    exact Steps.refl _)
  have X8 := X6.wide (L' := []) (cells' := 1) (slots' := len) (fun x hx hlt => by
    simp only [List.nil_append, copyLocs, List.mem_map, List.mem_range] at hx
    obtain ⟨i, -, rfl⟩ := hx
    exact absurd hlt (Nat.lt_irrefl _)) (Nat.le_refl _) (by omega)
  exact ⟨T6, some (.ref s.heap.size), _, _, _, X8, rfl, rfl, rfl, (fun h => by cases h), ⟨⟨rfl, B6, ba3.like (X3.warmed.alike.symm.trans X6.warmed.alike) p6.1 f6.1 f6.2.1 f6.2.2.1, f6.2.1.trans bv3, by rw [X6.warmed.alike.findClass, f6.1]; exact bf3, by rw [f6.2.2.1, bs3]; simp, fun j hj => by rw [f6.2.2.2 j, if_pos (by omega)]; rfl, kp3.put p6 (Nat.le_refl _)⟩, by rw [p6.2.2, bh3, hh0]; simp⟩, fun fs hl => c8.trans (X8.areturnOut hexec rfl hret rfl (hb hbytes d58) hl)⟩
end Cmp3
namespace CodL
def yN : MethodName := ⟨"java/lang/StringUTF16", "coderFromArrayLen", "([BI)B"⟩
abbrev yB : ByteArray := jdk_52_method_15_code
theorem d0 : decode yB 0 = .ok (.iload_n 1, 1) := by decide +kernel
theorem d1 : decode yB 1 = .ok (.aload_n 0, 1) := by decide +kernel
theorem d2 : decode yB 2 = .ok (.arraylength, 1) := by decide +kernel
theorem d3 : decode yB 3 = .ok (.isub, 1) := by decide +kernel
theorem d4 : decode yB 4 = .ok (.bipush 31, 2) := by decide +kernel
theorem d6 : decode yB 6 = .ok (.iushr, 1) := by decide +kernel
theorem d7 : decode yB 7 = .ok (.i2b, 1) := by decide +kernel
theorem d8 : decode yB 8 = .ok (.ireturn, 1) := by decide +kernel
def site : List Cond := []
def tab : Cond := tabOf yN yB 2 (some .byte) site
def P (d : Addr) (B : Cell) (args : Array Value) (s : State) : Prop := args = #[.ref d, .int (Int32.ofNat B.slots.size)] ∧ Arr .byte d B s
def E (r : Option Value) (s u : State) : Prop := XT.PureE (some (.int 0)) r s u
/-- an array as long as the number of chars: LATIN1 -/
theorem law (l : Launch) (d : Addr) (B : Cell) : Law l yN 2 2 0 0 yB 2 (some .byte) site (P d B) E [] 0 0 := by
  refine Law.of_walk (plainFor_of_name (by decide +kernel)) (by decide +kernel) (by decide +kernel) (by decide) (fun _ _ h => by rw [h.1]; rfl) (fun _ U U' hal hh h => ⟨h.1, h.2.mv hal hh⟩) (fun r U U' V V' h1 hal h2 h => XT.PureE.mv r U U' V V' h1 hal h2 h) ?_
  intro p e s m args below meth c s₁ X0 hexec hbytes hml hret hlk hnm hown hh0 W hP
  obtain ⟨rfl, hB⟩ := hP
  have hB0 := hB.mv X0.warmed.alike hh0
  have c1 : Steps p.tables e below (s₁.setTop (entryFrame m #[.ref d, .int (Int32.ofNat B.slots.size)] 2)) (s₁.setTop (mkF m 0 #[.val (.ref d), .val (.int (Int32.ofNat B.slots.size))] [])) := entry rfl
  have c2 : Steps p.tables e below (s₁.setTop (entryFrame m #[.ref d, .int (Int32.ofNat B.slots.size)] 2)) (s₁.setTop (mkF m 2 #[.val (.ref d), .val (.int (Int32.ofNat B.slots.size))] [.ref d, .int (Int32.ofNat B.slots.size)])) := c1.trans (by
    refine XS.iloadN X0.here hexec rfl (hb hbytes d0) rfl ?_
    refine XS.aloadN X0.here hexec rfl (hb hbytes d1) rfl rfl ?_
    exact Steps.refl _)
  have c3 : Steps p.tables e below (s₁.setTop (entryFrame m #[.ref d, .int (Int32.ofNat B.slots.size)] 2)) (s₁.setTop (mkF m 8 #[.val (.ref d), .val (.int (Int32.ofNat B.slots.size))] [.int (lo8 (ushr (Int32.ofNat B.slots.size - Int32.ofNat B.slots.size) 31))])) := c2.trans (by
    refine X0.alen hexec hB0 rfl rfl (hb hbytes d2) ?_
    refine XS.isub X0.here hexec rfl (hb hbytes d3) rfl ?_
    refine bipushV X0.here hexec rfl 31 (hb hbytes d4) (by decide) ?_
    refine iushr X0.here hexec rfl (hb hbytes d6) rfl ?_
    refine i2b X0.here hexec rfl (hb hbytes d7) rfl ?_
    exact Steps.refl _)
  have e0 : lo8 (ushr (Int32.ofNat B.slots.size - Int32.ofNat B.slots.size) 31) = 0 := by rw [Int32.sub_self]; decide
  rw [e0] at c3
  exact ⟨s₁, some (.int 0), _, _, _, X0, rfl, rfl, rfl, (fun h => by cases h), ⟨rfl, hh0⟩, fun fs hl => c3.trans (X0.ireturnOut hexec hret rfl (Or.inr (Or.inr (Or.inl rfl))) (hb hbytes d8) hl)⟩
end CodL
/-- the String at a is Latin-1 over a new byte[] (the heap's one new cell): the low bytes of the len chars of A from o on; every cell but a is kept -/
def Got (a : Addr) (D : Cell) (fV fC : Field) (A : Cell) (o len : Nat) (r : Option Value) (s u : State) : Prop := r = none ∧ ∃ D' V : Cell, Blank "java/lang/String" a D' u ∧ Same D D' [fV.slot, fC.slot] ∧ D'.slots[fV.slot]? = some (.ref s.heap.size) ∧ D'.slots[fC.slot]? = some (.int 0) ∧ Arr .byte s.heap.size V u ∧ V.vm = .none ∧ u.vm.findClass "[B" = some V.cls ∧ V.slots.size = len ∧ (∀ j, j < len → V.slots[j]? = some (.int (lo8 (cv A (o + j))))) ∧ (∀ (y : Addr) (c : Cell), y ≠ a → s.heap[y]? = some c → u.heap[y]? = some c) ∧ u.heap.size = s.heap.size + 1
theorem Got.mv {a : Addr} {D A : Cell} {fV fC : Field} {o len : Nat} : ∀ r (U U' V V' : State), U'.heap = U.heap → V.vm.Alike V'.vm → V'.heap = V.heap → Got a D fV fC A o len r U V → Got a D fV fC A o len r U' V' :=
  fun r U U' V V' h1 hal h2 ⟨e0, D', X, a1, a2, a3, a4, a5, a6, a7, a8, a9, a10, a11⟩ => ⟨e0, D', X, a1.mv hal h2, a2, by rw [h1]; exact a3, a4, by rw [h1]; exact a5.mv hal h2, a6, by rw [hal.findClass]; exact a7, a8, a9, by rw [h1, h2]; exact a10, by rw [h1, h2]; exact a11⟩
namespace New4
def yN : MethodName := ⟨"java/lang/String", "<init>", "([CIILjava/lang/Void;)V"⟩
abbrev yB : ByteArray := jdk_42_method_149_code
theorem d0 : decode yB 0 = .ok (.aload_n 0, 1) := by decide +kernel
theorem d1 : decode yB 1 = .ok (.invokespecial 1, 3) := by decide +kernel
theorem d4 : decode yB 4 = .ok (.iload_n 3, 1) := by decide +kernel
theorem d5 : decode yB 5 = .ok (.ifCond (.ne) 22, 3) := by decide +kernel
theorem d27 : decode yB 27 = .ok (.getstatic 38, 3) := by decide +kernel
theorem d30 : decode yB 30 = .ok (.ifCond (.eq) 28, 3) := by decide +kernel
theorem d33 : decode yB 33 = .ok (.aload_n 1, 1) := by decide +kernel
theorem d34 : decode yB 34 = .ok (.iload_n 2, 1) := by decide +kernel
theorem d35 : decode yB 35 = .ok (.iload_n 3, 1) := by decide +kernel
theorem d36 : decode yB 36 = .ok (.invokestatic 177, 3) := by decide +kernel
theorem d39 : decode yB 39 = .ok (.astore 5, 2) := by decide +kernel
theorem d41 : decode yB 41 = .ok (.aload_n 0, 1) := by decide +kernel
theorem d42 : decode yB 42 = .ok (.aload 5, 2) := by decide +kernel
theorem d44 : decode yB 44 = .ok (.iload_n 3, 1) := by decide +kernel
theorem d45 : decode yB 45 = .ok (.invokestatic 47, 3) := by decide +kernel
theorem d48 : decode yB 48 = .ok (.putfield 15, 3) := by decide +kernel
theorem d51 : decode yB 51 = .ok (.aload_n 0, 1) := by decide +kernel
theorem d52 : decode yB 52 = .ok (.aload 5, 2) := by decide +kernel
theorem d54 : decode yB 54 = .ok (.putfield 9, 3) := by decide +kernel
theorem d57 : decode yB 57 = .ok (.return_, 1) := by decide +kernel
def site : List Cond := [.fieldLink "java/lang/String" 38 "java/lang/String" "COMPACT_STRINGS" "Z", Cmp3.tab, CodL.tab, .laysFinal "java/lang/String" "java/lang/String" "value" "[B", .fieldLink "java/lang/String" 9 "java/lang/String" "value" "[B", .laysFinal "java/lang/String" "java/lang/String" "coder" "B", .fieldLink "java/lang/String" 15 "java/lang/String" "coder" "B"] ++ objW "java/lang/String" 1 ++ staticW "java/lang/String" 177 Cmp3.yN ++ staticW "java/lang/String" 47 CodL.yN
def tab : Cond := tabOf yN yB 6 none site
def P (a : Addr) (D : Cell) (fV fC : Field) (b : Addr) (A : Cell) (z : Int32) (o len : Nat) (args : Array Value) (s : State) : Prop := args = #[.ref a, .ref b, .int (Int32.ofNat o), .int (Int32.ofNat len), .null] ∧ Blank "java/lang/String" a D s ∧ Found "java/lang/String" "value" "[B" fV s ∧ Found "java/lang/String" "coder" "B" fC s ∧ Ch b A s ∧ StaticIs s "java/lang/String" "COMPACT_STRINGS" "Z" (.int z) ∧ ¬ z = 0 ∧ 0 < len ∧ o + len ≤ A.slots.size ∧ len ≤ 536870912 ∧ ∀ i, i < len → ¬ 255 < cv A (o + i)
def E (a : Addr) (D : Cell) (fV fC : Field) (A : Cell) (o len : Nat) (r : Option Value) (s u : State) : Prop := Got a D fV fC A o len r s u
/-- len > 0, no char of the range above 255: a Latin-1 String of their low bytes -/
theorem law (l : Launch) (a : Addr) (D : Cell) (fV fC : Field) (b : Addr) (A : Cell) (z : Int32) (o len : Nat) : Law l yN 5 4 2 35 yB 6 none site (P a D fV fC b A z o len) (E a D fV fC A o len) [⟨a, fC.slot⟩, ⟨a, fV.slot⟩] 1 len := by
  refine Law.of_walk (plainFor_of_name (by decide +kernel)) (by decide +kernel) (by decide +kernel) (by decide) (fun _ _ h => by rw [h.1]; rfl) (fun _ U U' hal hh h => ⟨h.1, h.2.1.mv hal hh, h.2.2.1.al hal, h.2.2.2.1.al hal, h.2.2.2.2.1.mv hal hh, h.2.2.2.2.2.1.there hal hh, h.2.2.2.2.2.2⟩) (fun r U U' V V' h1 hal h2 h => Got.mv r U U' V V' h1 hal h2 h) ?_
  intro p e s m args below meth c s₁ X0 hexec hbytes hml hret hlk hnm hown hh0 W hP
  obtain ⟨rfl, hB, f1, f2, hA, s1, hz, l0, l1, l2, hp⟩ := hP
  have a31 := hA.1.2.2.2
  have c1 : Steps p.tables e below (s₁.setTop (entryFrame m #[.ref a, .ref b, .int (Int32.ofNat o), .int (Int32.ofNat len), .null] 6)) (s₁.setTop (mkF m 0 #[.val (.ref a), .val (.ref b), .val (.int (Int32.ofNat o)), .val (.int (Int32.ofNat len)), .val .null, .unset] [])) := entry rfl
  have c2 : Steps p.tables e below (s₁.setTop (entryFrame m #[.ref a, .ref b, .int (Int32.ofNat o), .int (Int32.ofNat len), .null] 6)) (s₁.setTop (mkF m 1 #[.val (.ref a), .val (.ref b), .val (.int (Int32.ofNat o)), .val (.int (Int32.ofNat len)), .val .null, .unset] [.ref a])) := c1.trans (by
    refine XS.aloadN X0.here hexec rfl (hb hbytes d0) rfl rfl ?_
    exact Steps.refl _)
  obtain ⟨T3, X3, q3, st3⟩ := X0.oinit hexec hown (wks W (objW "java/lang/String" 1)) (g := (mkF m 1 #[.val (.ref a), .val (.ref b), .val (.int (Int32.ofNat o)), .val (.int (Int32.ofNat len)), .val .null, .unset] [.ref a])) rfl (by rw [hml]; rfl) (rest := []) rfl (hb hbytes d1) (W := 0) (by show 2 * 0 + 0 ≤ _; decide) (Nat.le_of_ble_eq_true rfl) (Nat.le_of_ble_eq_true rfl)
  have hh3 := q3.trans hh0
  have c4 : Steps p.tables e below (s₁.setTop (entryFrame m #[.ref a, .ref b, .int (Int32.ofNat o), .int (Int32.ofNat len), .null] 6)) (T3.setTop (mkF m 27 #[.val (.ref a), .val (.ref b), .val (.int (Int32.ofNat o)), .val (.int (Int32.ofNat len)), .val .null, .unset] [])) := (c2.trans (st3 _ (Steps.refl _))).trans (by
    refine XS.iloadN X3.here hexec rfl (hb hbytes d4) rfl ?_
    refine XS.ifYes X3.here hexec rfl (pc0 := 5) rfl (hb hbytes d5) rfl (i0_ne_t (nz32 (by omega) l0)) (by decide) rfl ?_
    exact Steps.refl _)
  obtain ⟨T5, X5, q5, st5⟩ := X3.sget hexec hown (wk W (.fieldLink "java/lang/String" 38 "java/lang/String" "COMPACT_STRINGS" "Z")) s1 (fun _ _ h => by rw [hh3]; exact h) (g := (mkF m 27 #[.val (.ref a), .val (.ref b), .val (.int (Int32.ofNat o)), .val (.int (Int32.ofNat len)), .val .null, .unset] [])) rfl (hb hbytes d27)
  have hh5 := q5.trans hh3
  have c6 : Steps p.tables e below (s₁.setTop (entryFrame m #[.ref a, .ref b, .int (Int32.ofNat o), .int (Int32.ofNat len), .null] 6)) (T5.setTop (mkF m 30 #[.val (.ref a), .val (.ref b), .val (.int (Int32.ofNat o)), .val (.int (Int32.ofNat len)), .val .null, .unset] [.int z])) := c4.trans (st5 _ (Steps.refl _))
  have c7 : Steps p.tables e below (s₁.setTop (entryFrame m #[.ref a, .ref b, .int (Int32.ofNat o), .int (Int32.ofNat len), .null] 6)) (T5.setTop (mkF m 36 #[.val (.ref a), .val (.ref b), .val (.int (Int32.ofNat o)), .val (.int (Int32.ofNat len)), .val .null, .unset] [.int (Int32.ofNat len), .int (Int32.ofNat o), .ref b])) := c6.trans (by
    refine XS.ifNo X5.here hexec rfl (hb hbytes d30) rfl (i0_eq_f hz) ?_
    refine XS.aloadN X5.here hexec rfl (hb hbytes d33) rfl rfl ?_
    refine XS.iloadN X5.here hexec rfl (hb hbytes d34) rfl ?_
    refine XS.iloadN X5.here hexec rfl (hb hbytes d35) rfl ?_
    exact Steps.refl _)
  obtain ⟨v8, T8, X8, E8, g8⟩ := X5.callS hexec (Cmp3.law l b A o len) hown (wks W (staticW "java/lang/String" 177 Cmp3.yN)) (wk W Cmp3.tab) (W := 0) (Nat.le_of_ble_eq_true rfl) (Nat.le_of_ble_eq_true rfl) (Nat.le_refl _) (by show 0 + len ≤ len; omega) (g := (mkF m 36 #[.val (.ref a), .val (.ref b), .val (.int (Int32.ofNat o)), .val (.int (Int32.ofNat len)), .val .null, .unset] [.int (Int32.ofNat len), .int (Int32.ofNat o), .ref b])) rfl (by rw [hml]; rfl) c7 (argsL := [.ref b, .int (Int32.ofNat o), .int (Int32.ofNat len)]) (rest := []) rfl rfl (by show 2 * 0 + 0 ≤ _; decide) (hb hbytes d36) (⟨rfl, hA.mv X5.warmed.alike hh5, l1, l2, hp⟩)
  obtain ⟨e8, z8⟩ := E8
  obtain ⟨rfl, N, n1, n2, n3, n4, n5, n6⟩ := NewArr.mv _ T5 s _ _ hh5.symm (Vm.Alike.refl _) rfl e8
  rw [hh5] at z8
  have hB1 := hB.keep X8.warmed.alike (n6 _ _ hB.1)
  have hne : s.heap.size ≠ a := (Nat.ne_of_lt (Array.getElem?_eq_some_iff.mp hB.1).1).symm
  have c9 : Steps p.tables e below (s₁.setTop (entryFrame m #[.ref a, .ref b, .int (Int32.ofNat o), .int (Int32.ofNat len), .null] 6)) (T8.setTop (mkF m 39 #[.val (.ref a), .val (.ref b), .val (.int (Int32.ofNat o)), .val (.int (Int32.ofNat len)), .val .null, .unset] [.ref s.heap.size])) := g8
  have c10 : Steps p.tables e below (s₁.setTop (entryFrame m #[.ref a, .ref b, .int (Int32.ofNat o), .int (Int32.ofNat len), .null] 6)) (T8.setTop (mkF m 45 #[.val (.ref a), .val (.ref b), .val (.int (Int32.ofNat o)), .val (.int (Int32.ofNat len)), .val .null, .val (.ref s.heap.size)] [.int (Int32.ofNat N.slots.size), .ref s.heap.size, .ref a])) := by
    have hc : Steps p.tables e below (s₁.setTop (entryFrame m #[.ref a, .ref b, .int (Int32.ofNat o), .int (Int32.ofNat len), .null] 6)) (T8.setTop (mkF m 45 #[.val (.ref a), .val (.ref b), .val (.int (Int32.ofNat o)), .val (.int (Int32.ofNat len)), .val .null, .val (.ref s.heap.size)] [.int (Int32.ofNat len), .ref s.heap.size, .ref a])) := c9.trans (by
      refine XS.astore X8.here hexec rfl (hb hbytes d39) rfl rfl rfl ?_
      refine XS.aloadN X8.here hexec rfl (hb hbytes d41) rfl rfl ?_
      refine XS.aload X8.here hexec rfl (hb hbytes d42) rfl rfl ?_
      refine XS.iloadN X8.here hexec rfl (hb hbytes d44) rfl ?_
      exact Steps.refl _)
    rw [n4]; exact hc
  obtain ⟨v11, T11, X11, E11, g11⟩ := X8.callS hexec (CodL.law l s.heap.size N) hown (wks W (staticW "java/lang/String" 47 CodL.yN)) (wk W CodL.tab) (W := 1) (Nat.le_of_ble_eq_true rfl) (Nat.le_of_ble_eq_true rfl) (Nat.le_refl _) (by show 0 + len + 0 ≤ len; omega) (g := (mkF m 45 #[.val (.ref a), .val (.ref b), .val (.int (Int32.ofNat o)), .val (.int (Int32.ofNat len)), .val .null, .val (.ref s.heap.size)] [.int (Int32.ofNat N.slots.size), .ref s.heap.size, .ref a])) rfl (by rw [hml]; rfl) c10 (argsL := [.ref s.heap.size, .int (Int32.ofNat N.slots.size)]) (rest := [.ref a]) rfl rfl (by show 2 * 0 + (1 + 0) ≤ _; decide) (hb hbytes d45) (⟨rfl, n1⟩)
  obtain ⟨rfl, q11⟩ := E11
  have hB11 := hB1.mv (X8.warmed.alike.symm.trans X11.warmed.alike) q11
  have c12 : Steps p.tables e below (s₁.setTop (entryFrame m #[.ref a, .ref b, .int (Int32.ofNat o), .int (Int32.ofNat len), .null] 6)) (T11.setTop (mkF m 48 #[.val (.ref a), .val (.ref b), .val (.int (Int32.ofNat o)), .val (.int (Int32.ofNat len)), .val .null, .val (.ref s.heap.size)] [.int 0, .ref a])) := g11
  obtain ⟨T13, X13, p13, bl13, sl13, st13⟩ := X11.finit hexec hown (wk W (.fieldLink "java/lang/String" 15 "java/lang/String" "coder" "B")) (Or.inr ⟨_, (wk W (.laysFinal "java/lang/String" "java/lang/String" "coder" "B"))⟩) (Or.inl ⟨rfl, hnm⟩) f2 (Or.inl rfl) hB11 (t := .byte) (by decide +kernel) rfl (g := (mkF m 48 #[.val (.ref a), .val (.ref b), .val (.int (Int32.ofNat o)), .val (.int (Int32.ofNat len)), .val .null, .val (.ref s.heap.size)] [.int 0, .ref a])) rfl (rest := []) rfl (hb hbytes d48)
  have c14 : Steps p.tables e below (s₁.setTop (entryFrame m #[.ref a, .ref b, .int (Int32.ofNat o), .int (Int32.ofNat len), .null] 6)) (T13.setTop (mkF m 54 #[.val (.ref a), .val (.ref b), .val (.int (Int32.ofNat o)), .val (.int (Int32.ofNat len)), .val .null, .val (.ref s.heap.size)] [.ref s.heap.size, .ref a])) := (c12.trans (st13 _ (Steps.refl _))).trans (by
    refine XS.aloadN X13.here hexec rfl (hb hbytes d51) rfl rfl ?_
    refine XS.aload X13.here hexec rfl (hb hbytes d52) rfl rfl ?_
    exact Steps.refl _)
  obtain ⟨T15, X15, p15, bl15, sl15, st15⟩ := X13.finit hexec hown (wk W (.fieldLink "java/lang/String" 9 "java/lang/String" "value" "[B")) (Or.inr ⟨_, (wk W (.laysFinal "java/lang/String" "java/lang/String" "value" "[B"))⟩) (Or.inl ⟨rfl, hnm⟩) f1 (Or.inl rfl) bl13 (t := (.array .byte)) (by decide +kernel) rfl (g := (mkF m 54 #[.val (.ref a), .val (.ref b), .val (.int (Int32.ofNat o)), .val (.int (Int32.ofNat len)), .val .null, .val (.ref s.heap.size)] [.ref s.heap.size, .ref a])) rfl (rest := []) rfl (hb hbytes d54)
  have c16 : Steps p.tables e below (s₁.setTop (entryFrame m #[.ref a, .ref b, .int (Int32.ofNat o), .int (Int32.ofNat len), .null] 6)) (T15.setTop (mkF m 57 #[.val (.ref a), .val (.ref b), .val (.int (Int32.ofNat o)), .val (.int (Int32.ofNat len)), .val .null, .val (.ref s.heap.size)] [])) := c14.trans (st15 _ (Steps.refl _))
  have ap := apart (Or.inr ⟨_, (wk W (.laysFinal "java/lang/String" "java/lang/String" "value" "[B"))⟩) (Or.inr ⟨_, (wk W (.laysFinal "java/lang/String" "java/lang/String" "coder" "B"))⟩) f1 f2 (t₁ := .array .byte) (t₂ := .byte) (by decide +kernel) (by decide +kernel) (by decide)
  have al := X8.warmed.alike.symm.trans X15.warmed.alike
  have n7 : T11.heap[s.heap.size]? = some N := by rw [q11]; exact n1.1
  exact ⟨T15, none, _, _, _, X15, by simp, rfl, by omega, (fun _ => rfl), ⟨rfl, _, N, bl15, ((Same.refl D _).set _ (by simp)).set _ (by simp), sl15, (Cell.slots_setSlot_ne _ ap).trans sl13, n1.keep al (p15.other hne (p13.other hne n7)), n2, by rw [al.findClass]; exact n3, n4, n5, fun y c h1 h2 => p15.other h1 (p13.other h1 (by rw [q11]; exact n6 y c h2)), by rw [p15.2.2, p13.2.2, q11]; exact z8⟩, fun fs hl => c16.trans (X15.returnOut hexec hret (hb hbytes d57) hl)⟩
end New4
namespace New1
def yN : MethodName := ⟨"java/lang/String", "<init>", "([C)V"⟩
abbrev yB : ByteArray := jdk_42_method_3_code
theorem d0 : decode yB 0 = .ok (.aload_n 0, 1) := by decide +kernel
theorem d1 : decode yB 1 = .ok (.aload_n 1, 1) := by decide +kernel
theorem d2 : decode yB 2 = .ok (.iconst 0, 1) := by decide +kernel
theorem d3 : decode yB 3 = .ok (.aload_n 1, 1) := by decide +kernel
theorem d4 : decode yB 4 = .ok (.arraylength, 1) := by decide +kernel
theorem d5 : decode yB 5 = .ok (.aconst_null, 1) := by decide +kernel
theorem d6 : decode yB 6 = .ok (.invokespecial 27, 3) := by decide +kernel
theorem d9 : decode yB 9 = .ok (.return_, 1) := by decide +kernel
def site : List Cond := [New4.tab] ++ initW "java/lang/String" 27 New4.yN
def tab : Cond := tabOf yN yB 2 none site
def P (a : Addr) (D : Cell) (fV fC : Field) (b : Addr) (A : Cell) (z : Int32) (args : Array Value) (s : State) : Prop := args = #[.ref a, .ref b] ∧ Blank "java/lang/String" a D s ∧ Found "java/lang/String" "value" "[B" fV s ∧ Found "java/lang/String" "coder" "B" fC s ∧ Ch b A s ∧ StaticIs s "java/lang/String" "COMPACT_STRINGS" "Z" (.int z) ∧ ¬ z = 0 ∧ 0 < A.slots.size ∧ A.slots.size ≤ 536870912 ∧ ∀ i, i < A.slots.size → ¬ 255 < cv A i
def E (a : Addr) (D : Cell) (fV fC : Field) (A : Cell) (r : Option Value) (s u : State) : Prop := Got a D fV fC A 0 A.slots.size r s u
/-- new String(chars), not empty, no char above 255: a Latin-1 String of their low bytes -/
theorem law (l : Launch) (a : Addr) (D : Cell) (fV fC : Field) (b : Addr) (A : Cell) (z : Int32) : Law l yN 2 1 3 52 yB 2 none site (P a D fV fC b A z) (E a D fV fC A) [⟨a, fC.slot⟩, ⟨a, fV.slot⟩] 1 A.slots.size := by
  refine Law.of_walk (plainFor_of_name (by decide +kernel)) (by decide +kernel) (by decide +kernel) (by decide) (fun _ _ h => by rw [h.1]; rfl) (fun _ U U' hal hh h => ⟨h.1, h.2.1.mv hal hh, h.2.2.1.al hal, h.2.2.2.1.al hal, h.2.2.2.2.1.mv hal hh, h.2.2.2.2.2.1.there hal hh, h.2.2.2.2.2.2⟩) (fun r U U' V V' h1 hal h2 h => Got.mv r U U' V V' h1 hal h2 h) ?_
  intro p e s m args below meth c s₁ X0 hexec hbytes hml hret hlk hnm hown hh0 W hP
  obtain ⟨rfl, hB, f1, f2, hA, s1, hz, l0, l2, hp⟩ := hP
  have c1 : Steps p.tables e below (s₁.setTop (entryFrame m #[.ref a, .ref b] 2)) (s₁.setTop (mkF m 0 #[.val (.ref a), .val (.ref b)] [])) := entry rfl
  have c2 : Steps p.tables e below (s₁.setTop (entryFrame m #[.ref a, .ref b] 2)) (s₁.setTop (mkF m 6 #[.val (.ref a), .val (.ref b)] [.null, .int (Int32.ofNat A.slots.size), .int 0, .ref b, .ref a])) := c1.trans (by
    refine XS.aloadN X0.here hexec rfl (hb hbytes d0) rfl rfl ?_
    refine XS.aloadN X0.here hexec rfl (hb hbytes d1) rfl rfl ?_
    refine iconstV X0.here hexec rfl 0 (hb hbytes d2) (by decide) ?_
    refine XS.aloadN X0.here hexec rfl (hb hbytes d3) rfl rfl ?_
    refine X0.alen hexec (hA.1.mv X0.warmed.alike hh0) rfl rfl (hb hbytes d4) ?_
    refine XS.aconstNull X0.here hexec rfl (hb hbytes d5) ?_
    exact Steps.refl _)
  obtain ⟨v3, T3, X3, E3, g3⟩ := X0.callN hexec (New4.law l a D fV fC b A z 0 A.slots.size) rfl hown (wks W (initW "java/lang/String" 27 New4.yN)) (W New4.tab (by simp only [site, List.mem_cons, List.mem_append, true_or, or_true])) (W := 0) (Nat.le_of_ble_eq_true rfl) (Nat.le_of_ble_eq_true rfl) (Nat.le_refl _) (by show 0 + A.slots.size ≤ A.slots.size; omega) (g := (mkF m 6 #[.val (.ref a), .val (.ref b)] [.null, .int (Int32.ofNat A.slots.size), .int (Int32.ofNat 0), .ref b, .ref a])) rfl (by rw [hml]; rfl) c2 (argsL := [.ref b, .int (Int32.ofNat 0), .int (Int32.ofNat A.slots.size), .null]) (rest := []) rfl rfl (by show 2 * 0 + 0 ≤ _; decide) (hb hbytes d6) (⟨rfl, hB.mv X0.warmed.alike hh0, f1.al X0.warmed.alike, f2.al X0.warmed.alike, hA.mv X0.warmed.alike hh0, s1.there X0.warmed.alike hh0, hz, l0, by omega, l2, fun i hi => by rw [Nat.zero_add]; exact hp i hi⟩)
  have e0 := Got.mv _ s₁ s _ _ hh0.symm (Vm.Alike.refl _) rfl E3
  obtain rfl := e0.1
  have c4 : Steps p.tables e below (s₁.setTop (entryFrame m #[.ref a, .ref b] 2)) (T3.setTop (mkF m 9 #[.val (.ref a), .val (.ref b)] [])) := g3
  exact ⟨T3, none, _, _, _, X3, by simp, rfl, by omega, (fun _ => rfl), e0, fun fs hl => c4.trans (X3.returnOut hexec hret (hb hbytes d9) hl)⟩
theorem pays {l : Launch} {R : Room} {p : Program} {e : Env} {below : List Frame} {s : State} {sargs : Array Value} {len W : Nat} (a : Addr) (D : Cell) (fV fC : Field) (b : Addr) (A : Cell) (z : Int32) (htab : tab.before sargs s = true) (hfr : 4 ≤ R.frames) (hlo : W + 65 ≤ R.locals) :
    Back l R p e below s sargs yN len W (fun A₁ a₁ => A₁.cells + 1 ≤ R.cells ∧ A₁.slots + A.slots.size ≤ R.slots ∧ P a D fV fC b A z a₁ A₁.U) (fun A₁ _ v₁ B₁ => E a D fV fC A v₁ A₁.U B₁.U ∧ B₁.locs = A₁.locs ++ [⟨a, fC.slot⟩, ⟨a, fV.slot⟩] ∧ B₁.cells = A₁.cells + 1 ∧ B₁.slots = A₁.slots + A.slots.size) :=
  (law l a D fV fC b A z).pays htab hfr (by omega)
end New1
end StrChars
namespace StrChars.Road
open Jvm Sem ClassFile Op Lib Jvm.Stand Jvm.Free Jvm.Free.XT
open Jvm.Lib.Cold (StaticIs)
abbrev ST : String := "java/lang/String"
/-- every table word that New1's law asks, flat -/
abbrev words : List Jvm.Cond := [.code New1.yN New1.yB 2 none, .initialized ST, .methodLink ST 27 New4.yN, .instanceMethod New4.yN,
  .code New4.yN New4.yB 6 none, .fieldLink ST 38 ST "COMPACT_STRINGS" "Z", .laysFinal ST ST "value" "[B", .fieldLink ST 9 ST "value" "[B", .laysFinal ST ST "coder" "B", .fieldLink ST 15 ST "coder" "B",
  .methodLink ST 1 Lib.objectInit, .instanceMethod Lib.objectInit, .code Lib.objectInit ⟨#[0xb1]⟩ 1 none, .methodLink ST 177 Cmp3.yN, .static Cmp3.yN, .methodLink ST 47 CodL.yN, .static CodL.yN,
  .code Cmp3.yN Cmp3.yB 6 (some (.array .byte)), .initialized U16, .arrayClass .byte, .methodLink U16 115 Cmp5.yN, .static Cmp5.yN, .code Cmp5.yN Cmp5.yB 7 (some .int), .code CodL.yN CodL.yB 2 (some .byte)]
theorem tab_of {a : Array Value} {s : State} (h : ∀ w ∈ words, w.before a s = true) : New1.tab.before a s = true := by
  have h5 : Cmp5.tab.before a s = true := unparts (wk h (.code Cmp5.yN Cmp5.yB 7 (some .int))) (wks h (.initialized Cmp5.yN.cls :: Cmp5.site))
  have hc : CodL.tab.before a s = true := unparts (wk h (.code CodL.yN CodL.yB 2 (some .byte))) (wks h (.initialized CodL.yN.cls :: CodL.site))
  have q5 : ∀ w ∈ Cmp5.tab :: words, w.before a s = true := fun w hw => (List.mem_cons.mp hw).elim (fun e => e ▸ h5) (h w)
  have h3 : Cmp3.tab.before a s = true := unparts (wk q5 (.code Cmp3.yN Cmp3.yB 6 (some (.array .byte)))) (wks q5 (.initialized Cmp3.yN.cls :: Cmp3.site))
  have q3 : ∀ w ∈ Cmp3.tab :: CodL.tab :: words, w.before a s = true := fun w hw => (List.mem_cons.mp hw).elim (fun e => e ▸ h3) fun hw => (List.mem_cons.mp hw).elim (fun e => e ▸ hc) (h w)
  have h4 : New4.tab.before a s = true := unparts (wk q3 (.code New4.yN New4.yB 6 none)) (wks q3 (.initialized New4.yN.cls :: New4.site))
  have q4 : ∀ w ∈ New4.tab :: words, w.before a s = true := fun w hw => (List.mem_cons.mp hw).elim (fun e => e ▸ h4) (h w)
  exact unparts (wk q4 (.code New1.yN New1.yB 2 none)) (wks q4 (.initialized New1.yN.cls :: New1.site))
/-- the words ride from the start Z to the walk's own state -/
theorem moved {Z s : State} {a0 args : Array Value} (hZ : Z.Warmed39 s.vm) (hw : ∀ d ∈ words, d.before a0 Z = true) : ∀ d ∈ words, d.before args s = true := fun d hd => by
  have q := hw d hd
  have t : ∀ d ∈ words, d = .arrayClass .byte ∨ (d.onTables && d.keepsFace) = true := by decide +kernel
  rcases t d hd with rfl | t
  · exact RoadKit.mvA hZ q
  · exact RoadKit.mv hZ q t
/-- WHAT COMES BACK, over the tables of the start Z: h the heap at the call, h' behind it -/
def Q (Z : State) (x : Addr) (A : Cell) (h : Heap) (v : Option Value) (h' : Heap) (L : List Loc) : Prop := v = none ∧ (∀ y ∈ L, y.base = x) ∧ RoadKit.Keep h h' [x] ∧ h'.size = h.size + 1 ∧ RoadKit.Exa Z h' x ST ∧ RoadKit.Fld Z h' x ST "value" "[B" (.ref h.size) ∧ RoadKit.Fld Z h' x ST "coder" "B" (.int 0) ∧
  (∃ V : Cell, RoadKit.Arr Z h' h.size V .byte ∧ V.vm = .none ∧ Z.vm.findClass "[B" = some V.cls ∧ V.slots.size = A.slots.size ∧ ∀ j, j < A.slots.size → V.slots[j]? = some (.int (lo8 (cv A j)))) ∧
  ∀ (O n d : String) (w : Value), RoadKit.Fld Z h x O n d w → RoadKit.slotOf Z O n d ≠ RoadKit.slotOf Z ST "value" "[B" → RoadKit.slotOf Z O n d ≠ RoadKit.slotOf Z ST "coder" "B" → RoadKit.Fld Z h' x O n d w
/-- **new String(chars) AT A CALL, IN THE ROAD'S FORM**: for specialBack behind newO: x the fresh String, b the char[] with the cell A -/
theorem back {p : Program} {l : Launch} {e : Env} {R : Room} {s : State} {args : Array Value} {below : List Frame} {len W : Nat} {Z : State} {a0 : Array Value} {h : Heap} (hZ : Z.Warmed39 s.vm) (hw : ∀ d ∈ words, d.before a0 Z = true) {kI : Nat} (wi : (Jvm.Cond.instantiable ST kI).before a0 Z = true)
    {x b : Addr} {A : Cell} {z : Int32} {v0 c0 : Value} (E : RoadKit.Exa Z h x ST) (V : RoadKit.Fld Z h x ST "value" "[B" v0) (C : RoadKit.Fld Z h x ST "coder" "B" c0) (K : RoadKit.Arr Z h b A .char) (hty : Typed .char A) (S : RoadKit.Sta Z h ST "COMPACT_STRINGS" "Z" (.int z)) (hz : ¬ z = 0)
    (l0 : 0 < A.slots.size) (l2 : A.slots.size ≤ 536870912) (hp : ∀ i, i < A.slots.size → ¬ 255 < cv A i) (hfr : 4 ≤ R.frames) (hlo : W + 65 ≤ R.locals) :
    Back l R p e below s args New1.yN len W (fun P a => a = #[.ref x, .ref b] ∧ P.U.heap = h ∧ P.cells + 1 ≤ R.cells ∧ P.slots + A.slots.size ≤ R.slots)
      (fun P _ v B => ∃ L, Q Z x A h v B.U.heap L ∧ B.locs = P.locs ++ L ∧ B.cells = P.cells + 1 ∧ B.slots = P.slots + A.slots.size) := by
  intro m meth c P g ig mk a X hg hsize hdg hW hn hp'
  obtain ⟨rfl, rfl, r1, r2⟩ := hp'
  have al : Z.vm.Alike P.U.vm := hZ.alike.trans X.warmed.alike
  obtain ⟨D, cfV, kV, iV, fV, hD, gV, stV, knV, obV, asV, slV⟩ := id V
  obtain ⟨D', cfC, kC, iC, fC, hD', gC, stC, -, -, asC, slC⟩ := id C
  cases hD.symm.trans hD'
  obtain ⟨D2, kD, e1, e2, e3, e4, e5⟩ := id E
  cases hD.symm.trans e1
  obtain ⟨c2, k2, i1, i2, i3, -⟩ := Cond.instantiable_spec wi
  cases e2.symm.trans i1
  cases e3.symm.trans i2
  obtain ⟨kU, u1, u2⟩ := al.2.2 _ _ e3
  have hB : Blank ST x D P.U := ⟨hD, ⟨knV, fun q hq => by rw [hq] at obV; cases obV⟩, by rw [al.findClass]; exact e2, kU, u1, by rw [u2]; exact i3, by rw [u2]; exact e5 i3⟩
  have F1 : Found ST "value" "[B" fV P.U := ⟨SBG.found_only al ⟨cfV, kV, iV, gV⟩, stV⟩
  have F2 : Found ST "coder" "B" fC P.U := ⟨SBG.found_only al ⟨cfC, kC, iC, gC⟩, stC⟩
  have hA : Ch b A P.U := ⟨⟨K.1, State.isArrayOf_alike al K.2.1, K.2.2, by omega⟩, hty⟩
  have hS : StaticIs P.U ST "COMPACT_STRINGS" "Z" (.int z) := by
    obtain ⟨cfS, iS, kS, fS, st, cS, t1, t2, t3, t4, t5, t6, t7⟩ := S
    exact StaticIs.there (s := { Z with heap := P.U.heap }) ⟨cfS, iS, kS, fS, st, cS, t1, t2, t3, t4, t5, (fun q => by rw [q] at t6; cases t6), t7⟩ al rfl
  obtain ⟨v, B, X', ⟨⟨hv, E', V', q1, q2, q3, q4, q5, q6, q7, q8, q9, q10, q11⟩, hl, hc, hs⟩, st⟩ := New1.pays x D fV fC b A z (tab_of (moved hZ hw)) hfr hlo m meth c P g ig mk _ X hg hsize hdg hW hn ⟨r1, r2, rfl, hB, F1, F2, hA, hS, hz, l0, l2, hp⟩
  have al' : Z.vm.Alike B.U.vm := hZ.alike.trans X'.warmed.alike
  have hsz : E'.slots.size = D.slots.size := by
    obtain ⟨-, -, -, kB, w1, w2, w3⟩ := q1
    obtain ⟨kB', y1, y2⟩ := al'.2.2 _ _ e3
    rw [q2.2.1] at w1
    cases w1.symm.trans y1
    rw [w3, e5 i3, y2]
  refine ⟨v, B, X', ⟨_, ⟨hv, ?_, ⟨by omega, fun y cy hy hn' => q10 y cy (by simpa using hn') hy, fun y cy hy => ?_⟩, q11, ⟨E', _, q1.1, by rw [q2.2.1]; exact e2, by rw [q2.2.1]; exact e3, by rw [q2.1]; exact obV, fun _ => by rw [hsz]; exact e5 i3⟩,
    ⟨E', cfV, kV, iV, fV, q1.1, gV, stV, by rw [q2.1]; exact knV, by rw [q2.1]; exact obV, by rw [q2.2.1]; exact asV, q3⟩, ⟨E', cfC, kC, iC, fC, q1.1, gC, stC, by rw [q2.1]; exact knV, by rw [q2.1]; exact obV, by rw [q2.2.1]; exact asC, q4⟩,
    ⟨V', ⟨q5.1, State.isArrayOf_alike al'.symm q5.2.1, q5.2.2.1⟩, q6, by rw [← al'.findClass]; exact q7, q8, fun j hj => by have := q9 j hj; rwa [Nat.zero_add] at this⟩, fun O n d w F n1 n2 => ?_⟩, hl, hc, hs⟩, st⟩
  · intro y hy
    simp only [List.mem_cons, List.not_mem_nil, or_false] at hy
    rcases hy with rfl | rfl <;> rfl
  · by_cases q : y = x
    · subst q
      cases hD.symm.trans hy
      exact ⟨E', q1.1, q2.2.1, q2.1, hsz⟩
    · exact ⟨cy, q10 y cy q hy, rfl, rfl, rfl⟩
  · obtain ⟨D3, cf, k, i, f, g1, g2, g3, g4, g5, g6, g7⟩ := F
    cases hD.symm.trans g1
    simp only [RoadKit.slotOf, g2, gV, gC, Option.map_some, Option.getD_some] at n1 n2
    exact ⟨E', cf, k, i, f, q1.1, g2, g3, by rw [q2.1]; exact g4, by rw [q2.1]; exact g5, by rw [q2.2.1]; exact g6, by rw [q2.2.2 f.slot (by simp [n1, n2])]; exact g7⟩
end StrChars.Road
namespace StrChars.Road
open Jvm Sem ClassFile Op Lib Jvm.Stand Jvm.Free Jvm.Free.XT
/-- WHAT COMES BACK, the byte[] as a list of values -/
def QA (Z : State) (x : Addr) (zn : Int32) (cs : List Int32) (h : Heap) (v : Option Value) (h' : Heap) (L : List Loc) : Prop := v = none ∧ (∀ y ∈ L, y.base = x) ∧ RoadKit.Keep h h' [x] ∧ h'.size = h.size + 1 ∧ RoadKit.Exa Z h' x ST ∧ RoadKit.Fld Z h' x ST "value" "[B" (.ref h.size) ∧ RoadKit.Fld Z h' x ST "coder" "B" (.int 0) ∧
  (∃ kb, Z.vm.findClass "[B" = some kb ∧ RoadKit.Arv Z h' h.size kb .byte zn (cs.map fun c => .int (lo8 c)) (.int 0)) ∧
  ∀ (O n d : String) (w : Value), RoadKit.Fld Z h x O n d w → RoadKit.slotOf Z O n d ≠ RoadKit.slotOf Z ST "value" "[B" → RoadKit.slotOf Z O n d ≠ RoadKit.slotOf Z ST "coder" "B" → RoadKit.Fld Z h' x O n d w
/-- **new String(chars) AT A CALL, THE ARRAYS AS LISTS**: the char[] at b holds cs, not empty, no char above 255 -/
theorem backArv {p : Program} {l : Launch} {e : Env} {R : Room} {s : State} {args : Array Value} {below : List Frame} {len W : Nat} {Z : State} {a0 : Array Value} {h : Heap} (hZ : Z.Warmed39 s.vm) (hw : ∀ d ∈ words, d.before a0 Z = true) {kI : Nat} (wi : (Jvm.Cond.instantiable ST kI).before a0 Z = true)
    {x b : Addr} {k : ClassId} {zn z : Int32} {cs : List Int32} {dv v0 c0 : Value} (E : RoadKit.Exa Z h x ST) (V : RoadKit.Fld Z h x ST "value" "[B" v0) (C : RoadKit.Fld Z h x ST "coder" "B" c0) (K : RoadKit.Arv Z h b k .char zn (cs.map Value.int) dv) (S : RoadKit.Sta Z h ST "COMPACT_STRINGS" "Z" (.int z)) (hz : ¬ z = 0)
    (hlen : zn.toNatClampNeg = cs.length) (h0 : 0 < cs.length) (hbig : cs.length ≤ 536870912) (hall : ∀ c ∈ cs, ¬ 255 < c) (hfr : 4 ≤ R.frames) (hlo : W + 65 ≤ R.locals) :
    Back l R p e below s args New1.yN len W (fun P a => a = #[.ref x, .ref b] ∧ P.U.heap = h ∧ P.cells + 1 ≤ R.cells ∧ P.slots + cs.length ≤ R.slots)
      (fun P _ v B => ∃ L, QA Z x zn cs h v B.U.heap L ∧ B.locs = P.locs ++ L ∧ B.cells = P.cells + 1 ∧ B.slots = P.slots + cs.length) := by
  obtain ⟨A, K1, K2, K3, K4, K5, K6⟩ := K
  have e : A.slots.size = cs.length := K3.trans hlen
  have hat : ∀ (i : Nat) (hi : i < cs.length), A.slots[i]? = some (.int cs[i]) := fun i hi => by rw [K5 i (by omega)]; simp [List.getD_eq_getElem?_getD, hi]
  have hcv : ∀ (i : Nat) (hi : i < cs.length), cv A i = cs[i] := fun i hi => by unfold cv; rw [hat i hi]
  have hty : Typed .char A := fun i v hv => by
    have hi : i < A.slots.size := (Array.getElem?_eq_some_iff.mp hv).1
    have q := K5 i hi
    rw [hv] at q
    rw [Option.some.inj q]
    exact K6 i hi
  refine Back.mono (back hZ hw wi E V C K1 hty S hz (by omega) (by omega) (fun i hi => by rw [hcv i (by omega)]; exact hall _ (List.getElem_mem _)) hfr hlo) (fun P a hp => ⟨hp.1, hp.2.1, hp.2.2.1, by rw [e]; exact hp.2.2.2⟩) (fun P a v B hp hq => ?_)
  obtain ⟨L, ⟨q1, q2, q3, q4, q5, q6, q7, ⟨V', v1, v2, v3, v4, v5⟩, q9⟩, hl, hc, hs⟩ := hq
  refine ⟨L, ⟨q1, q2, q3, q4, q5, q6, q7, ⟨V'.cls, v3, V', v1, rfl, by rw [v4, e, hlen], K4, fun i hi => ?_, fun i hi => ?_⟩, q9⟩, hl, hc, by rw [hs, e]⟩
  · have hi' : i < cs.length := by omega
    rw [v5 i (by omega), hcv i hi']; simp [List.getD_eq_getElem?_getD, hi']
  · have hi' : i < cs.length := by omega
    simp only [List.getD_eq_getElem?_getD, List.getElem?_map, List.getElem?_eq_getElem hi', Option.map_some, Option.getD_some]
    exact fits_lo8 _
end StrChars.Road
namespace StrChars.Road
open Jvm Sem ClassFile Op Lib Jvm.Stand Jvm.Free Jvm.Free.XT
/-- WHAT COMES BACK, in the writer's own shape -/
def QV (Z : State) (x : Addr) (N : Int32) (bs : List Int32) (h : Heap) (n0 : Nat) (v : Option Value) (h' : Heap) (L : List Loc) : Prop := v = none ∧ RoadKit.Fr n0 L ∧ RoadKit.Keep h h' [x] ∧ RoadKit.Exa Z h' x ST ∧ RoadKit.Fld Z h' x ST "coder" "B" (.int 0) ∧
  ∃ (t : Addr) (kb : ClassId), n0 ≤ t ∧ h.size ≤ t ∧ ¬ t = x ∧ RoadKit.Fld Z h' x ST "value" "[B" (.ref t) ∧ RoadKit.Arv Z h' t kb .byte N (bs.map Value.int) (.int 0)
/-- **new String(chars) AT A CALL, FOR THE WRITER**: a char[] of n known ints, each 0 to 255 -/
theorem backV {p : Program} {l : Launch} {e : Env} {R : Room} {s : State} {args : Array Value} {below : List Frame} {len W : Nat} {Z : State} {a0 : Array Value} {h : Heap} (hZ : Z.Warmed39 s.vm) (hw : ∀ d ∈ words, d.before a0 Z = true) {kI : Nat} (wi : (Jvm.Cond.instantiable ST kI).before a0 Z = true)
    {x b : Addr} {kC : ClassId} {cs bs : List Int32} {d v0 c0 : Value} {z N : Int32} {n n0 : Nat} (hx0 : n0 ≤ x) (hh0 : n0 ≤ h.size) (E : RoadKit.Exa Z h x ST) (V : RoadKit.Fld Z h x ST "value" "[B" v0) (C : RoadKit.Fld Z h x ST "coder" "B" c0) (K : RoadKit.Arv Z h b kC .char N (cs.map Value.int) d) (S : RoadKit.Sta Z h ST "COMPACT_STRINGS" "Z" (.int z)) (hz : ¬ z = 0)
    (hn : cs.length = n) (hN : N = Int32.ofNat n) (l0 : 0 < n) (l2 : n ≤ 4000) (hp : ∀ c ∈ cs, ¬ c < 0 ∧ ¬ (255 : Int32) < c) (hb : bs = cs.map (fun c => c.toInt8.toInt32)) (hfr : 4 ≤ R.frames) (hlo : W + 65 ≤ R.locals) :
    Back l R p e below s args (⟨"java/lang/String", "<init>", "([C)V"⟩ : MethodName) len W (fun P a => a = #[.ref x, .ref b] ∧ P.U.heap = h ∧ P.cells + 1 ≤ R.cells ∧ P.slots + n ≤ R.slots)
      (fun P _ v B => ∃ L, QV Z x N bs h n0 v B.U.heap L ∧ B.locs = P.locs ++ L ∧ B.cells = P.cells + 1 ∧ B.slots = P.slots + n) := by
  subst hn hN hb
  refine Back.mono (backArv hZ hw wi E V C K S hz (n32 (by omega)) l0 (by omega) (fun c hc => (hp c hc).2) hfr hlo) (fun P a hp => hp) (fun P a v B hp hq => ?_)
  obtain ⟨L, ⟨q1, q2, q3, q4, q5, q6, q7, ⟨kb, v1, v2⟩, q9⟩, hl, hc, hs⟩ := hq
  exact ⟨L, ⟨q1, fun y hy => by rw [q2 y hy]; exact hx0, q3, q5, q7, h.size, kb, hh0, Nat.le_refl _, Nat.ne_of_gt E.lt, q6, by rw [List.map_map]; exact v2⟩, hl, hc, hs⟩
end StrChars.Road
end Jvm.Pilot.@@N@@
namespace Jvm.RoadKit
open Sem ClassFile Op Lib Jvm.Stand Jvm.Free Jvm.LawKit
section New
variable {p : Program} {l : Launch} {e : Env} {R : Room} {s : State} {m : MethodId} {args : Array Value} {below : List Frame} {meth : Method} {c : Code} {T : State} {locs : List Loc} {cells slots : Nat}
theorem retI (X : Stand p l e R s m args below meth c T locs cells slots) (hx : p.tables.exec = Jvm.exec) {pc : Nat} {Ls : Array Slot} {z : Int32} {rest : List Value} (hret : meth.sig.returnType = some .int) (hd : decode c.code pc = .ok (.ireturn, 1)) {fs : List Frame}
    (hl : ∀ (f : JFrame) (acts : List Action), f.method = m → f.locked = none → f.entered = [] → (doReturn e (T.setTop f) acts (some (.int z))).1 = T.setFrames fs) : Steps p.tables e below (T.setTop (mkF m pc Ls (.int z :: rest))) (T.setFrames fs) :=
  retOut X hx hret rfl (Or.inl ⟨rfl, Or.inl rfl, _, rfl⟩) hd hl
end New
end Jvm.RoadKit
namespace Jvm.Pilot.@@N@@
open Jvm Jvm.ClassFile Sem Op Lib Jvm.Free Jvm.Stand Jvm.LawKit Jvm.RoadKit Bundle Jvm.Pilot.@@N@@.Jvm.D
section Own
variable {p : Program} {l : Launch} {e : Env} {R : Room} {s : State} {m : MethodId} {args : Array Value} {below : List Frame} {meth : Method} {c : Code} {T : State} {locs : List Loc} {cells slots : Nat}
/-- from this state the invocation comes to its end, and Q holds there -/
def GoOn (p : Program) (e : Env) (below : List Frame) (S : State) (Q : Outcome → State → Prop) : Prop := ∃ s₂ o, Steps p.tables e below S s₂ ∧ s₂.status = .running ∧ Ended s₂ below o ∧ Q o s₂
theorem GoOn.step {S S' : State} {Q : Outcome → State → Prop} (h : ∀ t, Steps p.tables e below S' t → Steps p.tables e below S t) (k : GoOn p e below S' Q) : GoOn p e below S Q := by
  obtain ⟨s2, o, h1, h2, h3, h4⟩ := k
  exact ⟨s2, o, h _ h1, h2, h3, h4⟩
theorem GoOn.trans {S S' : State} {Q : Outcome → State → Prop} (h : Steps p.tables e below S S') (k : GoOn p e below S' Q) : GoOn p e below S Q := GoOn.step (fun _ q => Steps.trans h q) k
def PostN (s : State) (Qp : Option Value → Heap → List Loc → Prop) (k n : Nat) (o : Outcome) (U' : State) : Prop := ∃ v L, o = .returned v ∧ Qp v U'.heap L ∧ FrameEnd s o U' L k n
def PostW (s : State) (Qp : Option Value → Heap → List Loc → Prop) (k n : Nat) (o : Outcome) (U' : State) : Prop := ∃ v L, o = .returned v ∧ Qp v U'.heap L ∧ ReturnedEndW s o U' L k n
theorem GoOn.ret (X : Stand p l e R s m args below meth c T locs cells slots) (hlk : meth.locks = false) {v : Option Value} (hv : meth.sig.returnType = none → v = none) {S : State}
    (st : ∀ fs, (∀ (f : JFrame) (acts : List Action), f.method = m → f.locked = none → f.entered = [] → (doReturn e (T.setTop f) acts v).1 = T.setFrames fs) → Steps p.tables e below S (T.setFrames fs)) {k n : Nat} (hk : cells ≤ k) (hn : slots ≤ n)
    {Qp : Option Value → Heap → List Loc → Prop} (q : Qp v T.heap locs) : GoOn p e below S (PostN s Qp k n) := by
  obtain ⟨fs, hr, hrun, hended, hW, hsame⟩ := X.leave hv hlk
  exact ⟨_, _, st fs hr, hrun, hended, v, _, rfl, q, ⟨_, rfl⟩, hW, hsame.mono hk hn⟩
theorem GoOn.retW {vm1 : Vm} {k1 : Nat} (X : Stand p l e R (s.setVm vm1) m args below meth c T locs cells slots) (hS : s.Since vm1 k1) (h1 : k1 ≤ T.heap.size) (hlk : meth.locks = false) {v : Option Value} (hv : meth.sig.returnType = none → v = none) {S : State}
    (st : ∀ fs, (∀ (f : JFrame) (acts : List Action), f.method = m → f.locked = none → f.entered = [] → (doReturn e (T.setTop f) acts v).1 = T.setFrames fs) → Steps p.tables e below S (T.setFrames fs)) {k n : Nat} (hk : cells ≤ k) (hn : slots ≤ n)
    {Qp : Option Value → Heap → List Loc → Prop} (q : Qp v T.heap locs) : GoOn p e below S (PostW s Qp k n) := by
  obtain ⟨fs, hr, hrun, hended, h4, h5, h6, h7⟩ := X.leaveW hS h1 hv hlk
  exact ⟨_, _, st fs hr, hrun, hended, v, _, rfl, q, h4, h5, h6, h7.mono hk hn⟩
def PostH (Z : State) (EL : List (String × Nat)) (s : State) (Qp : Option Value → Heap → List Loc → Prop) (k n : Nat) (o : Outcome) (U' : State) : Prop := ∃ v L, o = .returned v ∧ Qp v U'.heap L ∧ CHr Z EL s.vm s.heap U'.vm U'.heap ∧ ReturnedEndW s o U' L k n
theorem GoOn.retH {Z : State} {a0 : Array Value} {EL : List (String × Nat)} {h0 h : Heap} {vm1 : Vm} {k1 : Nat} (X : Stand p l e R (s.setVm vm1) m args below meth c T locs cells slots) (hZ : Z.Warmed39 (s.setVm vm1).vm) (hS : s.Since vm1 k1) (h1 : k1 ≤ h.size) (hEL : EW Z a0 EL) (hh : s.heap = h0) (eT : T.heap = h) (C : CHr Z EL s.vm h0 vm1 h) (hlk : meth.locks = false) {v : Option Value} (hv : meth.sig.returnType = none → v = none) {S : State}
    (st : ∀ fs, (∀ (f : JFrame) (acts : List Action), f.method = m → f.locked = none → f.entered = [] → (doReturn e (T.setTop f) acts v).1 = T.setFrames fs) → Steps p.tables e below S (T.setFrames fs)) {k n : Nat} (hk : cells ≤ k) (hn : slots ≤ n)
    {Qp : Option Value → Heap → List Loc → Prop} (q : Qp v h locs) : GoOn p e below S (PostH Z EL s Qp k n) := by
  subst hh eT
  obtain ⟨fs, hr, hrun, hended, h4, h5, h6, h7⟩ := X.leaveW hS h1 hv hlk
  have q2 := CHr.trans C (CHv.at X hZ hEL C.1)
  exact ⟨_, _, st fs hr, hrun, hended, v, _, rfl, q, q2, h4, h5, h6, h7.mono hk hn⟩
theorem Safe.arv {Z : State} {EL : List (String × Nat)} {vm : Vm} {h : Heap} {x : Addr} {kc : ClassId} {ty : FieldType} {z : Int32} {vs : List Value} {dv : Value} (hal : Z.vm.Alike vm) (V : Arv Z h x kc ty z vs dv) (ht : ty ≠ .byte) : Safe Z EL vm h x := by
  obtain ⟨cl, A, -⟩ := V
  exact Safe.arr hal A ht
theorem Safe.ofNull {Z : State} {EL : List (String × Nat)} {vm : Vm} {h : Heap} {x : Addr} (hal : Z.vm.Alike vm) (E : Exa Z h x "java/lang/String") (F : Fld Z h x "java/lang/String" "value" "[B" .null) : Safe Z EL vm h x := fun B => by
  obtain ⟨p, -, u, a, -, q, -, S, rfl | rfl⟩ := B
  · obtain ⟨cell, cf, k, i, f, h1, h2, h3, -, -, -, h7⟩ := F
    cases (show h[q.sa]? = some q.sC from S.ha).symm.trans h1
    obtain ⟨cS, ⟨⟨-, -, -, ⟨c1, k1, i1, f1, -⟩, -, -, -, v1, -⟩, -⟩, -⟩ := S
    obtain ⟨k3, e3, -⟩ := State.fieldFound?_setVm (s := Z) hal h2
    have e4 := (show (Wst Z vm h).fieldFound? _ _ _ = _ from e3).symm.trans f1
    simp only [Option.some.injEq, Prod.mk.injEq] at e4
    rw [← e4.2.2.2, h7] at v1
    cases v1
  · obtain ⟨cell, k, e1, e2, e3, -, -⟩ := E
    cases (show h[q.sd]? = some q.SA from S.hd).symm.trans e1
    obtain ⟨cS, -, -, f, -⟩ := S
    rw [show (Wst Z vm h).vm = vm from rfl, hal.findClass] at f
    obtain ⟨k1, q1, q2⟩ := Vm.findClass_spec f
    obtain ⟨k2, q3, q4⟩ := Vm.findClass_spec e2
    cases q1.symm.trans q3
    exact absurd (q2.symm.trans q4) (by decide)
theorem alenA {Z : State} {h : Heap} (X : Stand p l e R s m args below meth c T locs cells slots) (hx : p.tables.exec = Jvm.exec) (hZ : Z.Warmed39 s.vm) (eT : T.heap = h) {a : Addr} {k : ClassId} {ty : FieldType} {z : Int32} {vs : List Value} {d : Value} (V : Arv Z h a k ty z vs d) {g : JFrame} (hg : g.method = m) {rest : List Value} (hs : g.stack = .ref a :: rest) (hd : decode c.code g.pc = .ok (.arraylength, 1)) :
    ∀ target, Steps p.tables e below (T.setTop { g with pc := g.pc + 1, stack := .int z :: rest }) target → Steps p.tables e below (T.setTop g) target := fun t q => by
  obtain ⟨cl, A, -, S, M, -, -⟩ := V
  exact X.arraylength hx (by rw [eT]; exact A.1) (State.isArrayOf_alike hZ.alike A.2.1) hg hs hd t (by rw [len_of S M]; exact q)
theorem refCat {v : Value} (h : v.isRef = true) : v.category = 1 := by rcases ref_cases h with rfl | ⟨_, rfl⟩ <;> rfl
theorem own_catR (a : Addr) : (Value.ref a).category = 1 := rfl
theorem own_catI (a : Int32) : (Value.int a).category = 1 := rfl
theorem own_catJ (a : Int64) : (Value.long a).category = 2 := rfl
theorem own_catN : Value.null.category = 1 := rfl
theorem narRef {v : Value} (h : v.isRef = true) {t : FieldType} : narrow t v = v := by rcases ref_cases h with rfl | ⟨_, rfl⟩ <;> cases t <;> rfl
theorem fitRef {v : Value} (h : v.isRef = true) {C : String} : fits (.object C) v = true := by rcases ref_cases h with rfl | ⟨_, rfl⟩ <;> rfl
end Own
end Jvm.Pilot.@@N@@
namespace Jvm.Pilot.@@N@@
open Jvm Jvm.ClassFile Sem Op Lib Jvm.Free Jvm.Stand Jvm.LawKit Jvm.RoadKit Bundle Jvm.Pilot.@@N@@.Jvm.D
theorem and255_chars (n : Int32) : ¬ nar .char ((n &&& (255 : Int32)).toUInt32.toUInt16.toUInt32.toInt32) < 0 ∧ ¬ (255 : Int32) < nar .char ((n &&& (255 : Int32)).toUInt32.toUInt16.toUInt32.toInt32) := by
  have h1 := c_mask n 255 8 (by decide) (by decide)
  have h2 := c_i2c (n &&& (255 : Int32))
  have h3 : nar .char ((n &&& (255 : Int32)).toUInt32.toUInt16.toUInt32.toInt32) = ((n &&& (255 : Int32)).toUInt32.toUInt16.toUInt32.toInt32) := by simp only [nar, UInt32.toUInt32_toInt32, UInt16.toUInt16_toUInt32]
  rw [h3, Int32.lt_iff_toInt_lt, Int32.lt_iff_toInt_lt]
  have e0 : (0 : Int32).toInt = 0 := rfl
  have e1 : (255 : Int32).toInt = 255 := rfl
  rw [e0, e1]
  have e2 : ((2 ^ 8 : Nat) : Int) = 256 := rfl
  rw [e2] at h1
  omega
set_option maxHeartbeats 4000000 in
theorem own_ef0 (m : MethodId) (x0 : Int32) : entryFrame m #[(.int x0)] 1 = mkF m 0 #[.val (.int x0)] [] := by first | rfl | (simp [entryFrame, mkF, argsToLocals, Value.category]; done)
theorem own_pn1 : plainName "java/lang/StringLatin1" = true := by first | (simp [plainName, overriddenIn]; done) | decide +kernel
theorem own_d2 : decode jdk_43_method_3_code 0 = .ok (.iload_n 0, 1) := by decide +kernel
theorem own_d3 : decode jdk_43_method_3_code 1 = .ok (.sipush 255, 3) := by decide +kernel
theorem own_d4 : decode jdk_43_method_3_code 4 = .ok (.if_icmp .gt 7, 3) := by decide +kernel
theorem own_d5 : decode jdk_43_method_3_code 7 = .ok (.iconst 1, 1) := by decide +kernel
theorem own_d6 : decode jdk_43_method_3_code 8 = .ok (.goto 4, 3) := by decide +kernel
theorem own_d7 : decode jdk_43_method_3_code 12 = .ok (.ireturn, 1) := by decide +kernel
set_option maxHeartbeats 4000000 in
theorem own_ef8 (m : MethodId) (x0 : Int32) : entryFrame m #[(.int x0)] 1 = mkF m 0 #[.val (.int x0)] [] := by first | rfl | (simp [entryFrame, mkF, argsToLocals, Value.category]; done)
theorem own_d9 : decode jdk_43_method_46_code 0 = .ok (.iconst 1, 1) := by decide +kernel
theorem own_d10 : decode jdk_43_method_46_code 1 = .ok (.newarray .byte, 2) := by decide +kernel
theorem own_d11 : decode jdk_43_method_46_code 3 = .ok (.dup, 1) := by decide +kernel
theorem own_d12 : decode jdk_43_method_46_code 4 = .ok (.iconst 0, 1) := by decide +kernel
theorem own_d13 : decode jdk_43_method_46_code 5 = .ok (.iload_n 0, 1) := by decide +kernel
theorem own_d14 : decode jdk_43_method_46_code 6 = .ok (.i2b, 1) := by decide +kernel
theorem own_d15 : decode jdk_43_method_46_code 7 = .ok (.bastore, 1) := by decide +kernel
theorem own_d16 : decode jdk_43_method_46_code 8 = .ok (.areturn, 1) := by decide +kernel
set_option maxHeartbeats 4000000 in
theorem own_ef17 (m : MethodId) (x0 : Addr) (x1 : Addr) (x2 : Int32) : entryFrame m #[(.ref x0), (.ref x1), (.int x2)] 3 = mkF m 0 #[.val (.ref x0), .val (.ref x1), .val (.int x2)] [] := by first | rfl | (simp [entryFrame, mkF, argsToLocals, Value.category]; done)
theorem own_pn18 : plainName "java/lang/String" = true := by first | (simp [plainName, overriddenIn]; done) | decide +kernel
theorem own_d19 : decode jdk_42_method_151_code 0 = .ok (.aload_n 0, 1) := by decide +kernel
theorem own_d20 : decode jdk_42_method_151_code 1 = .ok (.invokespecial 1, 3) := by decide +kernel
theorem own_d21 : decode jdk_42_method_151_code 4 = .ok (.aload_n 0, 1) := by decide +kernel
theorem own_d22 : decode jdk_42_method_151_code 5 = .ok (.aload_n 1, 1) := by decide +kernel
theorem own_d23 : decode jdk_42_method_151_code 6 = .ok (.putfield 9, 3) := by decide +kernel
theorem own_d24 : decode jdk_42_method_151_code 9 = .ok (.aload_n 0, 1) := by decide +kernel
theorem own_d25 : decode jdk_42_method_151_code 10 = .ok (.iload_n 2, 1) := by decide +kernel
theorem own_d26 : decode jdk_42_method_151_code 11 = .ok (.putfield 15, 3) := by decide +kernel
theorem own_d27 : decode jdk_42_method_151_code 14 = .ok (.return_, 1) := by decide +kernel
set_option maxHeartbeats 4000000 in
theorem own_ef28 (m : MethodId) (x0 : Int32) : entryFrame m #[(.int x0)] 1 = mkF m 0 #[.val (.int x0)] [] := by first | rfl | (simp [entryFrame, mkF, argsToLocals, Value.category]; done)
theorem own_d29 : decode jdk_42_method_139_code 0 = .ok (.getstatic 38, 3) := by decide +kernel
theorem own_d30 : decode jdk_42_method_139_code 3 = .ok (.ifCond .eq 23, 3) := by decide +kernel
theorem own_d31 : decode jdk_42_method_139_code 6 = .ok (.iload_n 0, 1) := by decide +kernel
theorem own_d32 : decode jdk_42_method_139_code 7 = .ok (.invokestatic 1015, 3) := by decide +kernel
theorem own_pd33 : parseMethodDescriptor "(C)Z" = some ⟨[.char], some .boolean⟩ := by decide +kernel
theorem own_d34 : decode jdk_42_method_139_code 10 = .ok (.ifCond .eq 16, 3) := by decide +kernel
theorem own_d35 : decode jdk_42_method_139_code 13 = .ok (.new 10, 3) := by decide +kernel
theorem own_d36 : decode jdk_42_method_139_code 16 = .ok (.dup, 1) := by decide +kernel
theorem own_d37 : decode jdk_42_method_139_code 17 = .ok (.iload_n 0, 1) := by decide +kernel
theorem own_d38 : decode jdk_42_method_139_code 18 = .ok (.invokestatic 1018, 3) := by decide +kernel
theorem own_pd39 : parseMethodDescriptor "(C)[B" = some ⟨[.char], some (.array .byte)⟩ := by decide +kernel
theorem own_d40 : decode jdk_42_method_139_code 21 = .ok (.iconst 0, 1) := by decide +kernel
theorem own_d41 : decode jdk_42_method_139_code 22 = .ok (.invokespecial 209, 3) := by decide +kernel
theorem own_pd42 : parseMethodDescriptor "([BB)V" = some ⟨[(.array .byte), .byte], none⟩ := by decide +kernel
theorem own_d43 : decode jdk_42_method_139_code 25 = .ok (.areturn, 1) := by decide +kernel
set_option maxHeartbeats 4000000 in
theorem own_ef44 (m : MethodId) (x0 : Addr) : entryFrame m #[(.ref x0)] 1 = mkF m 0 #[.val (.ref x0)] [] := by first | rfl | (simp [entryFrame, mkF, argsToLocals, Value.category]; done)
theorem own_pn45 : plainName "java/lang/Record" = true := by first | (simp [plainName, overriddenIn]; done) | decide +kernel
theorem own_d46 : decode jdk_30_method_1_code 0 = .ok (.aload_n 0, 1) := by decide +kernel
theorem own_d47 : decode jdk_30_method_1_code 1 = .ok (.invokespecial 1, 3) := by decide +kernel
theorem own_d48 : decode jdk_30_method_1_code 4 = .ok (.return_, 1) := by decide +kernel
set_option maxHeartbeats 4000000 in
theorem own_ef49 (m : MethodId) (x0 : Addr) (x1 : Addr) : entryFrame m #[(.ref x0), (.ref x1)] 2 = mkF m 0 #[.val (.ref x0), .val (.ref x1)] [] := by first | rfl | (simp [entryFrame, mkF, argsToLocals, Value.category]; done)
theorem own_pn50 : plainName "java/util/Objects" = true := by first | (simp [plainName, overriddenIn]; done) | decide +kernel
theorem own_d51 : decode jdk_31_method_11_code 0 = .ok (.aload_n 0, 1) := by decide +kernel
theorem own_d52 : decode jdk_31_method_11_code 1 = .ok (.ifnonnull 12, 3) := by decide +kernel
theorem own_d53 : decode jdk_31_method_11_code 13 = .ok (.aload_n 0, 1) := by decide +kernel
theorem own_d54 : decode jdk_31_method_11_code 14 = .ok (.areturn, 1) := by decide +kernel
set_option maxHeartbeats 4000000 in
theorem own_ef55 (m : MethodId) (x0 : Addr) (x1 : Addr) (x2 : Addr) : entryFrame m #[(.ref x0), (.ref x1), (.ref x2)] 3 = mkF m 0 #[.val (.ref x0), .val (.ref x1), .val (.ref x2)] [] := by first | rfl | (simp [entryFrame, mkF, argsToLocals, Value.category]; done)
theorem own_pn56 : plainName "com/example/subsume/subsume/axioms/AtomicConcept" = true := by first | (simp [plainName, overriddenIn]; done) | decide +kernel
theorem own_d57 : decode prog_6_method_1_code 0 = .ok (.aload_n 0, 1) := by decide +kernel
theorem own_d58 : decode prog_6_method_1_code 1 = .ok (.invokespecial 1, 3) := by decide +kernel
theorem own_pd59 : parseMethodDescriptor "()V" = some ⟨[], none⟩ := by decide +kernel
theorem own_d60 : decode prog_6_method_1_code 4 = .ok (.aload_n 1, 1) := by decide +kernel
theorem own_d61 : decode prog_6_method_1_code 5 = .ok (.ldc 7, 2) := by decide +kernel
theorem own_pd62 : parseMethodDescriptor "(Ljava/lang/Object;Ljava/lang/String;)Ljava/lang/Object;" = some ⟨[(.object "java/lang/Object"), (.object "java/lang/String")], some (.object "java/lang/Object")⟩ := by decide +kernel
theorem own_d63 : decode prog_6_method_1_code 7 = .ok (.invokestatic 9, 3) := by decide +kernel
theorem own_d64 : decode prog_6_method_1_code 10 = .ok (.pop, 1) := by decide +kernel
theorem own_d65 : decode prog_6_method_1_code 11 = .ok (.aload_n 2, 1) := by decide +kernel
theorem own_d66 : decode prog_6_method_1_code 12 = .ok (.ldc 15, 2) := by decide +kernel
theorem own_d67 : decode prog_6_method_1_code 14 = .ok (.invokestatic 9, 3) := by decide +kernel
theorem own_d68 : decode prog_6_method_1_code 17 = .ok (.pop, 1) := by decide +kernel
theorem own_d69 : decode prog_6_method_1_code 18 = .ok (.aload_n 0, 1) := by decide +kernel
theorem own_d70 : decode prog_6_method_1_code 19 = .ok (.aload_n 1, 1) := by decide +kernel
theorem own_d71 : decode prog_6_method_1_code 20 = .ok (.putfield 17, 3) := by decide +kernel
theorem own_d72 : decode prog_6_method_1_code 23 = .ok (.aload_n 0, 1) := by decide +kernel
theorem own_d73 : decode prog_6_method_1_code 24 = .ok (.aload_n 2, 1) := by decide +kernel
theorem own_d74 : decode prog_6_method_1_code 25 = .ok (.putfield 22, 3) := by decide +kernel
theorem own_d75 : decode prog_6_method_1_code 28 = .ok (.return_, 1) := by decide +kernel
set_option maxHeartbeats 4000000 in
theorem own_ef76 (m : MethodId) (x0 : Int32) : entryFrame m #[(.int x0)] 1 = mkF m 0 #[.val (.int x0)] [] := by first | rfl | (simp [entryFrame, mkF, argsToLocals, Value.category]; done)
theorem own_pn77 : plainName "com/example/subsume/subsume/axioms/AtomicConceptIsNominalPinLaw" = true := by first | (simp [plainName, overriddenIn]; done) | decide +kernel
theorem own_d78 : decode method_2_code 0 = .ok (.iload_n 0, 1) := by decide +kernel
theorem own_d79 : decode method_2_code 1 = .ok (.ifCond .ne 7, 3) := by decide +kernel
theorem own_d80 : decode method_2_code 4 = .ok (.getstatic 7, 3) := by decide +kernel
theorem own_d81 : decode method_2_code 7 = .ok (.areturn, 1) := by decide +kernel
theorem own_d82 : decode method_2_code 8 = .ok (.iload_n 0, 1) := by decide +kernel
theorem own_d83 : decode method_2_code 9 = .ok (.iconst 1, 1) := by decide +kernel
theorem own_d84 : decode method_2_code 10 = .ok (.if_icmp .ne 7, 3) := by decide +kernel
theorem own_d85 : decode method_2_code 13 = .ok (.getstatic 13, 3) := by decide +kernel
theorem own_d86 : decode method_2_code 16 = .ok (.areturn, 1) := by decide +kernel
theorem own_d87 : decode method_2_code 17 = .ok (.getstatic 16, 3) := by decide +kernel
theorem own_d88 : decode method_2_code 20 = .ok (.areturn, 1) := by decide +kernel
set_option maxHeartbeats 4000000 in
theorem own_ef89 (m : MethodId) (x0 : Int32) (x1 : Int32) (x2 : Int32) : entryFrame m #[(.int x0), (.int x1), (.int x2)] 5 = mkF m 0 #[.val (.int x0), .val (.int x1), .val (.int x2), .unset, .unset] [] := by first | rfl | (simp [entryFrame, mkF, argsToLocals, Value.category]; done)
theorem own_d90 : decode method_3_code 0 = .ok (.iload_n 0, 1) := by decide +kernel
theorem own_d91 : decode method_3_code 1 = .ok (.iconst 3, 1) := by decide +kernel
theorem own_d92 : decode method_3_code 2 = .ok (.iand, 1) := by decide +kernel
theorem own_d93 : decode method_3_code 3 = .ok (.istore_n 3, 1) := by decide +kernel
theorem own_d94 : decode method_3_code 4 = .ok (.iload_n 3, 1) := by decide +kernel
theorem own_d95 : decode method_3_code 5 = .ok (.ifCond .ne 6, 3) := by decide +kernel
theorem own_d96 : decode method_3_code 8 = .ok (.ldc 19, 2) := by decide +kernel
theorem own_d97 : decode method_3_code 10 = .ok (.areturn, 1) := by decide +kernel
theorem own_d98 : decode method_3_code 11 = .ok (.iload_n 3, 1) := by decide +kernel
theorem own_d99 : decode method_3_code 12 = .ok (.iconst 1, 1) := by decide +kernel
theorem own_d100 : decode method_3_code 13 = .ok (.if_icmp .ne 13, 3) := by decide +kernel
theorem own_d101 : decode method_3_code 16 = .ok (.iload_n 1, 1) := by decide +kernel
theorem own_d102 : decode method_3_code 17 = .ok (.sipush 255, 3) := by decide +kernel
theorem own_d103 : decode method_3_code 20 = .ok (.iand, 1) := by decide +kernel
theorem own_d104 : decode method_3_code 21 = .ok (.i2c, 1) := by decide +kernel
theorem own_d105 : decode method_3_code 22 = .ok (.invokestatic 21, 3) := by decide +kernel
theorem own_pd106 : parseMethodDescriptor "(C)Ljava/lang/String;" = some ⟨[.char], some (.object "java/lang/String")⟩ := by decide +kernel
theorem own_d107 : decode method_3_code 25 = .ok (.areturn, 1) := by decide +kernel
theorem own_d108 : decode method_3_code 26 = .ok (.iconst 2, 1) := by decide +kernel
theorem own_d109 : decode method_3_code 27 = .ok (.newarray .char, 2) := by decide +kernel
theorem own_d110 : decode method_3_code 29 = .ok (.astore 4, 2) := by decide +kernel
theorem own_d111 : decode method_3_code 31 = .ok (.aload 4, 2) := by decide +kernel
theorem own_d112 : decode method_3_code 33 = .ok (.iconst 0, 1) := by decide +kernel
theorem own_d113 : decode method_3_code 34 = .ok (.iload_n 1, 1) := by decide +kernel
theorem own_d114 : decode method_3_code 35 = .ok (.sipush 255, 3) := by decide +kernel
theorem own_d115 : decode method_3_code 38 = .ok (.iand, 1) := by decide +kernel
theorem own_d116 : decode method_3_code 39 = .ok (.i2c, 1) := by decide +kernel
theorem own_d117 : decode method_3_code 40 = .ok (.castore, 1) := by decide +kernel
theorem own_d118 : decode method_3_code 41 = .ok (.aload 4, 2) := by decide +kernel
theorem own_d119 : decode method_3_code 43 = .ok (.iconst 1, 1) := by decide +kernel
theorem own_d120 : decode method_3_code 44 = .ok (.iload_n 2, 1) := by decide +kernel
theorem own_d121 : decode method_3_code 45 = .ok (.sipush 255, 3) := by decide +kernel
theorem own_d122 : decode method_3_code 48 = .ok (.iand, 1) := by decide +kernel
theorem own_d123 : decode method_3_code 49 = .ok (.i2c, 1) := by decide +kernel
theorem own_d124 : decode method_3_code 50 = .ok (.castore, 1) := by decide +kernel
theorem own_d125 : decode method_3_code 51 = .ok (.new 22, 3) := by decide +kernel
theorem own_d126 : decode method_3_code 54 = .ok (.dup, 1) := by decide +kernel
theorem own_d127 : decode method_3_code 55 = .ok (.aload 4, 2) := by decide +kernel
theorem own_d128 : decode method_3_code 57 = .ok (.invokespecial 27, 3) := by decide +kernel
theorem own_pd129 : parseMethodDescriptor "([C)V" = some ⟨[(.array .char)], none⟩ := by decide +kernel
theorem own_d130 : decode method_3_code 60 = .ok (.areturn, 1) := by decide +kernel
set_option maxHeartbeats 4000000 in
theorem own_ef131 (m : MethodId) (x0 : Addr) : entryFrame m #[(.ref x0)] 1 = mkF m 0 #[.val (.ref x0)] [] := by first | rfl | (simp [entryFrame, mkF, argsToLocals, Value.category]; done)
theorem own_d132 : decode prog_6_method_5_code 0 = .ok (.aload_n 0, 1) := by decide +kernel
theorem own_d133 : decode prog_6_method_5_code 1 = .ok (.getfield 22, 3) := by decide +kernel
theorem own_d134 : decode prog_6_method_5_code 4 = .ok (.getstatic 46, 3) := by decide +kernel
theorem own_d135 : decode prog_6_method_5_code 7 = .ok (.if_acmp .ne 7, 3) := by decide +kernel
theorem own_d136 : decode prog_6_method_5_code 10 = .ok (.iconst 1, 1) := by decide +kernel
theorem own_d137 : decode prog_6_method_5_code 11 = .ok (.goto 4, 3) := by decide +kernel
theorem own_d138 : decode prog_6_method_5_code 15 = .ok (.ireturn, 1) := by decide +kernel
theorem own_d139 : decode prog_6_method_5_code 14 = .ok (.iconst 0, 1) := by decide +kernel
set_option maxHeartbeats 4000000 in
theorem own_ef140 (m : MethodId) (x0 : Int32) (x1 : Int32) (x2 : Int32) (x3 : Int32) : entryFrame m #[(.int x0), (.int x1), (.int x2), (.int x3)] maxLocals = mkF m 0 #[.val (.int x0), .val (.int x1), .val (.int x2), .val (.int x3), .unset, .unset, .unset, .unset, .unset] [] := by first | (simp [entryFrame, mkF, argsToLocals, Value.category, maxLocals]; done) | rfl
theorem own_pd141 : parseMethodDescriptor "(I)Lcom/example/subsume/subsume/axioms/AtomicConcept$Kind;" = some ⟨[.int], some (.object "com/example/subsume/subsume/axioms/AtomicConcept$Kind")⟩ := by decide +kernel
theorem own_pd142 : parseMethodDescriptor "(III)Ljava/lang/String;" = some ⟨[.int, .int, .int], some (.object "java/lang/String")⟩ := by decide +kernel
theorem own_pd143 : parseMethodDescriptor "(Ljava/lang/String;Lcom/example/subsume/subsume/axioms/AtomicConcept$Kind;)V" = some ⟨[(.object "java/lang/String"), (.object "com/example/subsume/subsume/axioms/AtomicConcept$Kind")], none⟩ := by decide +kernel
theorem own_pd144 : parseMethodDescriptor "()Z" = some ⟨[], some .boolean⟩ := by decide +kernel
theorem own_ord {args : Array Value} {s : State} {t t' : Term} {a b : Addr} {x y : Int32} {C n d : String} (e : t.eval args s none [] s = some (.ref a)) (e' : t'.eval args s none [] s = some (.ref b)) (h : (Jvm.Cond.eq (.field t C n d) (.int x)).value args s none s [] = some true) (h' : (Jvm.Cond.eq (.field t' C n d) (.int y)).value args s none s [] = some true) (hne : x ≠ y) : a ≠ b := fun q => by
  subst q
  have f1 : (Term.field t C n d).eval args s none [] s = s.fieldOf? a C n d := fld_at e
  have f2 : (Term.field t' C n d).eval args s none [] s = s.fieldOf? a C n d := fld_at e'
  have g1 : (Term.int x).eval args s none [] s = some (.int x) := rfl
  have g2 : (Term.int y).eval args s none [] s = some (.int y) := rfl
  cases hv : s.fieldOf? a C n d with
  | none => rw [hv] at f1; simp only [Cond.value, f1] at h; cases h
  | some v =>
    rw [hv] at f1 f2
    cases v with
    | int z => exact hne ((gotT (Cond.eq_ints f1 g1) h).symm.trans (gotT (Cond.eq_ints f2 g2) h'))
    | _ => simp only [Cond.value, f1, g1] at h; cases h
def own_EL : List (String × Nat) := []
theorem own_EW {Z : State} {a0 : Array Value} (hw : ∀ d ∈ tables_1, d.before a0 Z = true) : EW Z a0 own_EL := EW.nil
set_option maxRecDepth 65536 in
theorem own_sa : ∀ d ∈ Bundle.stringAtoms, d ∈ tables_1 := by decide +kernel
def QSame (u : Value) (h0 : Heap) (n0 : Nat) (v : Option Value) (h : Heap) (L : List Loc) : Prop := v = some u ∧ Fr n0 L ∧ h = h0
def StrIs (Z : State) (h : Heap) (a : Addr) (cs : List Int32) : Prop := Exa Z h a "java/lang/String" ∧ Fld Z h a "java/lang/String" "coder" "B" (.int 0) ∧ (∀ c ∈ cs, ¬ c < 0 ∧ ¬ (255 : Int32) < c) ∧ cs.length ≤ 4000 ∧ ∃ (t : Addr) (kb : ClassId), Fld Z h a "java/lang/String" "value" "[B" (.ref t) ∧ Arv Z h t kb .byte (Int32.ofNat cs.length) ((cs.map fun c => c.toInt8.toInt32).map Value.int) (.int 0)
theorem StrIs.keep0 {Z : State} {h h' : Heap} {a : Addr} {cs : List Int32} (S : StrIs Z h a cs) (K : Keep h h' []) : StrIs Z h' a cs := by
  obtain ⟨E, C, hp, hl, t, kb, F, V⟩ := S
  exact ⟨E.keep K, C.keep K nin0, hp, hl, t, kb, F.keep K nin0, V.keep K nin0⟩
theorem StrIs.keepX {Z : State} {h h' : Heap} {a x : Addr} {cs : List Int32} {C : String} {n : Nat} {a0 : Array Value} (S : StrIs Z h a cs) (K : Keep h h' [x]) (E' : Exa Z h x C) (w : (Jvm.Cond.instantiable C n).before a0 Z = true) (hne : C ≠ "java/lang/String") : StrIs Z h' a cs := by
  obtain ⟨E, C', hp, hl, t, kb, F, V⟩ := S
  have q1 : a ≠ x := (Exa.ne E' E hne).symm
  have q2 : t ≠ x := (Exa.neArv E' V w).symm
  exact ⟨E.keep K, C'.keep K (ninS q1 nin0), hp, hl, t, kb, F.keep K (ninS q1 nin0), V.keep K (ninS q2 nin0)⟩
theorem StrIs.keepN {Z : State} {h h' : Heap} {a x : Addr} {cs : List Int32} {n : Nat} {a0 : Array Value} (S : StrIs Z h a cs) (K : Keep h h' [x]) (E' : Exa Z h x "java/lang/String") (F' : Fld Z h x "java/lang/String" "value" "[B" .null) (w : (Jvm.Cond.instantiable "java/lang/String" n).before a0 Z = true) : StrIs Z h' a cs := by
  obtain ⟨E, C', hp, hl, t, kb, F, V⟩ := S
  have q1 : a ≠ x := Fld.ne F F' (by simp)
  have q2 : t ≠ x := (Exa.neArv E' V w).symm
  exact ⟨E.keep K, C'.keep K (ninS q1 nin0), hp, hl, t, kb, F.keep K (ninS q1 nin0), V.keep K (ninS q2 nin0)⟩
theorem StrIs.lt {Z : State} {h : Heap} {a : Addr} {cs : List Int32} (S : StrIs Z h a cs) : a < h.size := S.1.lt
theorem nar_char_id {c : Int32} (h : ¬ c < 0 ∧ ¬ (255 : Int32) < c) : nar .char c = c := by
  have q := c_i2c c
  show c.toUInt32.toUInt16.toUInt32.toInt32 = c
  rw [Int32.lt_iff_toInt_lt, Int32.lt_iff_toInt_lt] at h
  have e0 : (0 : Int32).toInt = 0 := rfl
  have e1 : (255 : Int32).toInt = 255 := rfl
  rw [e0, e1] at h
  apply Int32.toInt_inj.mp
  omega
theorem nar_char2 (x : Int32) : nar .char ((x).toUInt32.toUInt16.toUInt32.toInt32) = ((x).toUInt32.toUInt16.toUInt32.toInt32) := by simp only [nar, UInt32.toUInt32_toInt32, UInt16.toUInt16_toUInt32]
theorem own_eq {x : Int32} {kN kI kM : Addr} (h : x = 2) : (if (if x = 0 then kN else if x = 1 then kI else kM) = kM then (1 : Int32) else 0) = 1 := by subst h; rw [if_neg (show ¬ (2 : Int32) = 0 by decide), if_neg (show ¬ (2 : Int32) = 1 by decide), if_pos rfl]
theorem own_ne (p0 : Int32) {kN kI kM : Addr} (h1 : kN ≠ kM) (h2 : kI ≠ kM) (h : ¬ ((p0 &&& (2147483647 : Int32)) % (3 : Int32)) = 2) : (if (if ((p0 &&& (2147483647 : Int32)) % (3 : Int32)) = 0 then kN else if ((p0 &&& (2147483647 : Int32)) % (3 : Int32)) = 1 then kI else kM) = kM then (1 : Int32) else 0) = 0 := by
  have q1 := (c_and p0 2147483647 (by decide)).1
  have q2 := (c_irem (p0 &&& (2147483647 : Int32)) 3 3 rfl).1 q1
  by_cases g0 : ((p0 &&& (2147483647 : Int32)) % (3 : Int32)) = 0
  · rw [if_pos g0, if_neg h1]
  · by_cases g1 : ((p0 &&& (2147483647 : Int32)) % (3 : Int32)) = 1
    · rw [if_neg g0, if_pos g1, if_neg h2]
    · exfalso
      rw [← Int32.toInt_inj] at h g0 g1
      have e0 : (0 : Int32).toInt = 0 := rfl
      have e1 : (1 : Int32).toInt = 1 := rfl
      have e2 : (2 : Int32).toInt = 2 := rfl
      omega
set_option maxRecDepth 65536 in
set_option maxHeartbeats 40000000 in
theorem rmCanEnc (l : Launch) (Z : State) (a0 : Array Value) (hw : ∀ d ∈ tables_1, d.before a0 Z = true) (x : Int32) (h0 : Heap) (n0 : Nat) (Z0 : n0 ≤ h0.size) (hx1 : ¬ x < 0) (hx2 : ¬ (255 : Int32) < x) :
    MetFree l (⟨"java/lang/StringLatin1", "canEncode", "(C)Z"⟩ : MethodName) (head1 [Jvm.Cond.code (⟨"java/lang/StringLatin1", "canEncode", "(C)Z"⟩ : MethodName) jdk_43_method_3_code 1 (some .boolean)] ({ frames := 0, cells := 0, slots := 0, locals := 0 } : Room)) (fun aa U => aa = #[(.int x)] ∧ Z.Warmed39 U.vm ∧ U.heap = h0) (fun _ _ _ _ _ => True) (fun _ U o U' => ∃ v L, o = .returned v ∧ QSame (.int 1) h0 n0 v U'.heap L ∧ FrameEnd U o U' L ({ frames := 0, cells := 0, slots := 0, locals := 0 } : Room).cells ({ frames := 0, cells := 0, slots := 0, locals := 0 } : Room).slots) := by
  refine MetFree.of_bodySF (plainFor_of_name own_pn1) hisR ?_
  intro p e s m args below meth c s₁ Bd hml0 hP hK
  obtain ⟨rfl, hZ, hh⟩ := hP
  have hx := Bd.exec
  have hby := Bd.bytes
  have hml : c.maxLocals = 1 := hml0
  have hown : s.vm.findClass "java/lang/StringLatin1" = some m.cls := findClass_of_methodNamed Bd.named
  have hnm := (name_of_methodNamed Bd.named Bd.method).1
  have X0 : Stand p l e ({ frames := 0, cells := 0, slots := 0, locals := 0 } : Room) s m #[(.int x)] below meth c s₁ [] 0 0 := Stand.of_body Bd
  have e0 : s₁.heap = h0 := by rw [← hh, Bd.state]; rfl
  have N0 := Fr.nil n0
  have K0 : Keep h0 h0 [] := Keep.refl _ _
  show GoOn p e below (s₁.setTop (entryFrame m #[(.int x)] 1)) (PostN s (QSame (.int 1) h0 n0) ({ frames := 0, cells := 0, slots := 0, locals := 0 } : Room).cells ({ frames := 0, cells := 0, slots := 0, locals := 0 } : Room).slots)
  refine GoOn.step (fun tq kq => castTop (own_ef0 m x) kq) ?_
  show GoOn p e below (s₁.setTop (mkF m 0 #[.val (.int x)] [])) _
  refine GoOn.step (fun tq kq => XS.iloadN X0.here hx rfl (hb hby own_d2) rfl kq) ?_
  show GoOn p e below (s₁.setTop (mkF m 1 #[.val (.int x)] [(.int x)])) _
  refine GoOn.step (fun tq kq => XS.sipush X0.here hx rfl (hb hby own_d3) kq) ?_
  show GoOn p e below (s₁.setTop (mkF m 4 #[.val (.int x)] [(.int (255 : Int32)), (.int x)])) _
  refine GoOn.step (fun tq kq => XS.icmpNo X0.here hx rfl (hb hby own_d4) rfl (flt hx2).2.2.1 kq) ?_
  show GoOn p e below (s₁.setTop (mkF m 7 #[.val (.int x)] [])) _
  refine GoOn.step (fun tq kq => XS.iconst X0.here hx rfl (hb hby own_d5) kq) ?_
  show GoOn p e below (s₁.setTop (mkF m 8 #[.val (.int x)] [(.int (1 : Int32))])) _
  refine GoOn.step (fun tq kq => XS.goto X0.here hx rfl (pc0 := 8) (pc' := 12) rfl (hb hby own_d6) (by decide) (by decide) kq) ?_
  show GoOn p e below (s₁.setTop (mkF m 12 #[.val (.int x)] [(.int (1 : Int32))])) _
  refine GoOn.ret X0 Bd.notSynchronized (v := some (.int (nar .boolean (1 : Int32)))) (fun h => by rw [Bd.returns] at h; cases h) (fun fs hr => retN X0 hx (t := .boolean) Bd.returns (by simp) (hb hby own_d7) hr) (by decide) (by decide) ?_
  rw [e0]
  exact ⟨rfl, N0, rfl⟩
theorem nar_byte2 (x : Int32) : nar .byte (x.toInt8.toInt32) = x.toInt8.toInt32 := by simp [nar]
def QToB (Z : State) (x : Int32) (h0 : Heap) (n0 : Nat) (v : Option Value) (h : Heap) (L : List Loc) : Prop := ∃ (t : Addr) (kb : ClassId), v = some (.ref t) ∧ Fr n0 L ∧ Keep h0 h [] ∧ h0.size ≤ t ∧ Arv Z h t kb .byte (1 : Int32) [(.int (x.toInt8.toInt32))] (.int 0)
set_option maxRecDepth 65536 in
set_option maxHeartbeats 40000000 in
theorem rmToB (l : Launch) (Z : State) (a0 : Array Value) (hw : ∀ d ∈ tables_1, d.before a0 Z = true) (x : Int32) (h0 : Heap) (n0 : Nat) (Z0 : n0 ≤ h0.size) :
    MetFree l (⟨"java/lang/StringLatin1", "toBytes", "(C)[B"⟩ : MethodName) (head1 [Jvm.Cond.code (⟨"java/lang/StringLatin1", "toBytes", "(C)[B"⟩ : MethodName) jdk_43_method_46_code 1 (some (.array .byte))] ({ frames := 0, cells := 1, slots := 1, locals := 0 } : Room)) (fun aa U => aa = #[(.int x)] ∧ Z.Warmed39 U.vm ∧ U.heap = h0) (fun _ _ _ _ _ => True) (fun _ U o U' => ∃ v L, o = .returned v ∧ QToB Z x h0 n0 v U'.heap L ∧ FrameEnd U o U' L ({ frames := 0, cells := 1, slots := 1, locals := 0 } : Room).cells ({ frames := 0, cells := 1, slots := 1, locals := 0 } : Room).slots) := by
  refine MetFree.of_bodySF (plainFor_of_name own_pn1) hisR ?_
  intro p e s m args below meth c s₁ Bd hml0 hP hK
  obtain ⟨rfl, hZ, hh⟩ := hP
  have hx := Bd.exec
  have hby := Bd.bytes
  have hml : c.maxLocals = 1 := hml0
  have hown : s.vm.findClass "java/lang/StringLatin1" = some m.cls := findClass_of_methodNamed Bd.named
  have hnm := (name_of_methodNamed Bd.named Bd.method).1
  have X0 : Stand p l e ({ frames := 0, cells := 1, slots := 1, locals := 0 } : Room) s m #[(.int x)] below meth c s₁ [] 0 0 := Stand.of_body Bd
  have e0 : s₁.heap = h0 := by rw [← hh, Bd.state]; rfl
  have N0 := Fr.nil n0
  have K0 : Keep h0 h0 [] := Keep.refl _ _
  show GoOn p e below (s₁.setTop (entryFrame m #[(.int x)] 1)) (PostN s (QToB Z x h0 n0) ({ frames := 0, cells := 1, slots := 1, locals := 0 } : Room).cells ({ frames := 0, cells := 1, slots := 1, locals := 0 } : Room).slots)
  refine GoOn.step (fun tq kq => castTop (own_ef8 m x) kq) ?_
  show GoOn p e below (s₁.setTop (mkF m 0 #[.val (.int x)] [])) _
  refine GoOn.step (fun tq kq => XS.iconst X0.here hx rfl (hb hby own_d9) kq) ?_
  show GoOn p e below (s₁.setTop (mkF m 1 #[.val (.int x)] [(.int (1 : Int32))])) _
  obtain ⟨T1, h1, k1, X1, e1, Ex1, A1, st1⟩ := newP X0 hx hZ (hw _ (List.mem_of_getElem? (i := 30) rfl)) e0 (g := (mkF m 1 #[.val (.int x)] [(.int (1 : Int32))])) rfl (hb hby own_d10) rfl (by decide) (cap := 1) (by decide) (by decide) (by decide) (by decide)
  obtain ⟨t, g1⟩ : ∃ z, z = h0.size := ⟨_, rfl⟩
  rw [← g1] at A1 st1
  have gn2 : n0 ≤ t := Nat.le_trans Z0 (Nat.le_of_eq g1.symm)
  have sz3 : h0.size ≤ t := Nat.le_trans K0.1 (Nat.le_of_eq g1.symm)
  have Kx1 : Keep h0 h1 [] := (Keep.refl _ _).ext Ex1
  refine GoOn.step st1 ?_
  have Z4 : n0 ≤ h1.size := Nat.le_trans Z0 Kx1.1
  have K5 : Keep h0 h1 [] := K0.trans Kx1 (all0)
  have V6 : Arv Z h1 t k1 .byte (1 : Int32) [] (.int (0 : Int32)) := Arv.new A1 (by decide)
  show GoOn p e below (T1.setTop (mkF m 3 #[.val (.int x)] [(.ref t)])) _
  refine GoOn.step (fun tq kq => XS.dup X1.here hx rfl (hb hby own_d11) rfl rfl kq) ?_
  show GoOn p e below (T1.setTop (mkF m 4 #[.val (.int x)] [(.ref t), (.ref t)])) _
  refine GoOn.step (fun tq kq => XS.iconst X1.here hx rfl (hb hby own_d12) kq) ?_
  show GoOn p e below (T1.setTop (mkF m 5 #[.val (.int x)] [(.int (0 : Int32)), (.ref t), (.ref t)])) _
  refine GoOn.step (fun tq kq => XS.iloadN X1.here hx rfl (hb hby own_d13) rfl kq) ?_
  show GoOn p e below (T1.setTop (mkF m 6 #[.val (.int x)] [(.int x), (.int (0 : Int32)), (.ref t), (.ref t)])) _
  refine GoOn.step (fun tq kq => XS.i2b X1.here hx rfl (hb hby own_d14) rfl kq) ?_
  show GoOn p e below (T1.setTop (mkF m 7 #[.val (.int x)] [(.int ((x).toInt8.toInt32)), (.int (0 : Int32)), (.ref t), (.ref t)])) _
  have V8 : Arv Z h1 t k1 .byte (1 : Int32) [(.int (0 : Int32))] (.int (0 : Int32)) := V6.pad (pad_rep [] (.int (0 : Int32)) 1)
  obtain ⟨cq9, Aq9, qq9, Sq9, Mq9, Hq9, Uq9⟩ := id V8
  obtain ⟨T7, h7, X7, e7, W7, st7⟩ := stB X1 hx hZ e1 Aq9 (j := (0 : Int32)) (inb_of Sq9 ⟨(by decide : ¬ ((0 : Int32) < (0 : Int32))), (by decide : (0 : Int32) < (1 : Int32))⟩) (g := (mkF m 7 #[.val (.int x)] [(.int ((x).toInt8.toInt32)), (.int (0 : Int32)), (.ref t), (.ref t)])) rfl rfl (hb hby own_d15)
  have N10 := Fr.snoc X7 N0 gn2
  have V11 : Arv Z h7 t k1 .byte (1 : Int32) [(.int (nar .byte ((x).toInt8.toInt32)))] (.int (0 : Int32)) := Arv.set Aq9 qq9 Sq9 Mq9 Hq9 Uq9 (fits_nar_byte _) W7 0 rfl (Nat.le_of_ble_eq_true rfl)
  have Kx7 : Keep h1 h7 [t] := Keep.of_wr W7
  refine GoOn.step st7 ?_
  have Z12 : n0 ≤ h7.size := Nat.le_trans Z4 Kx7.1
  have K13 : Keep h0 h7 [] := K5.trans Kx7 ((allS (Or.inr sz3) all0))
  show GoOn p e below (T7.setTop (mkF m 8 #[.val (.int x)] [(.ref t)])) _
  rw [nar_byte2] at V11
  refine GoOn.ret X7 Bd.notSynchronized (v := some (.ref t)) (fun h => by rw [Bd.returns] at h; cases h) (fun fs hr => retOut X7 hx Bd.returns rfl (Or.inr (Or.inr (Or.inr (Or.inr ⟨rfl, rfl, rfl⟩)))) (hb hby own_d16) hr) (by decide) (by decide) ?_
  rw [e7]
  exact ⟨t, _, rfl, N10, K13, sz3, V11⟩
def QIBB (Z : State) (a t : Addr) (h0 : Heap) (n0 : Nat) (v : Option Value) (h : Heap) (L : List Loc) : Prop := v = none ∧ Fr n0 L ∧ Keep h0 h [a] ∧ Exa Z h a "java/lang/String" ∧ Fld Z h a "java/lang/String" "value" "[B" (.ref t) ∧ Fld Z h a "java/lang/String" "coder" "B" (.int 0)
set_option maxRecDepth 65536 in
set_option maxHeartbeats 40000000 in
theorem rmIBB (l : Launch) (Z : State) (a0 : Array Value) (hw : ∀ d ∈ tables_1, d.before a0 Z = true) (a t : Addr) (h0 : Heap) (n0 : Nat) (Z0 : n0 ≤ h0.size) (E0 : Exa Z h0 a "java/lang/String") (F0v : Fld Z h0 a "java/lang/String" "value" "[B" .null) (F0c : Fld Z h0 a "java/lang/String" "coder" "B" (.int (0 : Int32))) (ga : n0 ≤ a) :
    MetFree l (⟨"java/lang/String", "<init>", "([BB)V"⟩ : MethodName) (head1 [Jvm.Cond.code (⟨"java/lang/String", "<init>", "([BB)V"⟩ : MethodName) jdk_42_method_151_code 3 none] ({ frames := 1, cells := 0, slots := 0, locals := 12 } : Room)) (fun aa U => aa = #[(.ref a), (.ref t), (.int (0 : Int32))] ∧ Z.Warmed39 U.vm ∧ U.heap = h0) (fun _ _ _ _ _ => True) (fun _ U o U' => ∃ v L, o = .returned v ∧ QIBB Z a t h0 n0 v U'.heap L ∧ FrameEnd U o U' L ({ frames := 1, cells := 0, slots := 0, locals := 12 } : Room).cells ({ frames := 1, cells := 0, slots := 0, locals := 12 } : Room).slots) := by
  refine MetFree.of_bodySF (plainFor_of_name own_pn18) hisR ?_
  intro p e s m args below meth c s₁ Bd hml0 hP hK
  obtain ⟨rfl, hZ, hh⟩ := hP
  have hx := Bd.exec
  have hby := Bd.bytes
  have hml : c.maxLocals = 3 := hml0
  have hown : s.vm.findClass "java/lang/String" = some m.cls := findClass_of_methodNamed Bd.named
  have hnm := (name_of_methodNamed Bd.named Bd.method).1
  have X0 : Stand p l e ({ frames := 1, cells := 0, slots := 0, locals := 12 } : Room) s m #[(.ref a), (.ref t), (.int (0 : Int32))] below meth c s₁ [] 0 0 := Stand.of_body Bd
  have e0 : s₁.heap = h0 := by rw [← hh, Bd.state]; rfl
  have N0 := Fr.nil n0
  have K0 : Keep h0 h0 [] := Keep.refl _ _
  show GoOn p e below (s₁.setTop (entryFrame m #[(.ref a), (.ref t), (.int (0 : Int32))] 3)) (PostN s (QIBB Z a t h0 n0) ({ frames := 1, cells := 0, slots := 0, locals := 12 } : Room).cells ({ frames := 1, cells := 0, slots := 0, locals := 12 } : Room).slots)
  refine GoOn.step (fun tq kq => castTop (own_ef17 m a t (0 : Int32)) kq) ?_
  show GoOn p e below (s₁.setTop (mkF m 0 #[.val (.ref a), .val (.ref t), .val (.int (0 : Int32))] [])) _
  have K0a : Keep h0 h0 [a] := Keep.refl _ _
  refine GoOn.step (fun tq kq => XS.aloadN X0.here hx rfl (hb hby own_d19) rfl rfl kq) ?_
  show GoOn p e below (s₁.setTop (mkF m 1 #[.val (.ref a), .val (.ref t), .val (.int (0 : Int32))] [(.ref a)])) _
  obtain ⟨T14, X14, e14, st14⟩ := initO X0 hx hZ hown (hw _ (List.mem_of_getElem? (i := 22) rfl)) (hw _ (List.mem_of_getElem? (i := 23) rfl)) (hw _ (List.mem_of_getElem? (i := 24) rfl)) e0 (g := (mkF m 1 #[.val (.ref a), .val (.ref t), .val (.int (0 : Int32))] [(.ref a)])) rfl (by rw [hml]; rfl) rfl (hb hby own_d20) (by decide) (W := 0) (by show 2 * 0 + _ ≤ _; exact Nat.le_of_eq rfl) (by decide)
  refine GoOn.step st14 ?_
  show GoOn p e below (T14.setTop (mkF m 4 #[.val (.ref a), .val (.ref t), .val (.int (0 : Int32))] [])) _
  refine GoOn.step (fun tq kq => XS.aloadN X14.here hx rfl (hb hby own_d21) rfl rfl kq) ?_
  show GoOn p e below (T14.setTop (mkF m 5 #[.val (.ref a), .val (.ref t), .val (.int (0 : Int32))] [(.ref a)])) _
  refine GoOn.step (fun tq kq => XS.aloadN X14.here hx rfl (hb hby own_d22) rfl rfl kq) ?_
  show GoOn p e below (T14.setTop (mkF m 6 #[.val (.ref a), .val (.ref t), .val (.int (0 : Int32))] [(.ref t), (.ref a)])) _
  obtain ⟨T15, h15, X15, e15, W15, st15⟩ := putF X14 hx hZ hown (host := "") (Or.inl (hw _ (List.mem_of_getElem? (i := 39) rfl))) Via.refl e14 F0v E0 (Or.inr ⟨(hw _ (List.mem_of_getElem? (i := 40) rfl)), rfl, hnm⟩) (hw _ (List.mem_of_getElem? (i := 13) rfl)) (ty := (.array .byte)) (by decide) rfl rfl (g := (mkF m 6 #[.val (.ref a), .val (.ref t), .val (.int (0 : Int32))] [(.ref t), (.ref a)])) rfl rfl (hb hby own_d23)
  have N16 := Fr.snoc X15 N0 ga
  have Kx15 : Keep h0 h15 [a] := Keep.of_wr W15
  have F17 : Fld Z h15 a "java/lang/String" "value" "[B" (.ref t) := F0v.same W15
  have F18 : Fld Z h15 a "java/lang/String" "coder" "B" (.int (0 : Int32)) := F0c.other W15 (Or.inr (slot_ne (a0 := a0) (Or.inr (hw _ (List.mem_of_getElem? (i := 38) rfl))) (Or.inr (hw _ (List.mem_of_getElem? (i := 40) rfl))) (by decide) (t := .byte) (t' := (.array .byte)) (by decide) (by decide)))
  refine GoOn.step st15 ?_
  have E19 : Exa Z h15 a "java/lang/String" := E0.keep Kx15
  have Z22 : n0 ≤ h15.size := Nat.le_trans Z0 Kx15.1
  have K23 : Keep h0 h15 [a] := K0a.trans Kx15 ((allS (Or.inl (by simp)) all0))
  show GoOn p e below (T15.setTop (mkF m 9 #[.val (.ref a), .val (.ref t), .val (.int (0 : Int32))] [])) _
  refine GoOn.step (fun tq kq => XS.aloadN X15.here hx rfl (hb hby own_d24) rfl rfl kq) ?_
  show GoOn p e below (T15.setTop (mkF m 10 #[.val (.ref a), .val (.ref t), .val (.int (0 : Int32))] [(.ref a)])) _
  refine GoOn.step (fun tq kq => XS.iloadN X15.here hx rfl (hb hby own_d25) rfl kq) ?_
  show GoOn p e below (T15.setTop (mkF m 11 #[.val (.ref a), .val (.ref t), .val (.int (0 : Int32))] [(.int (0 : Int32)), (.ref a)])) _
  obtain ⟨T24, h24, X24, e24, W24, st24⟩ := putFN X15 hx hZ hown (hw _ (List.mem_of_getElem? (i := 37) rfl)) Via.refl e15 F18 E19 (Or.inr ⟨(hw _ (List.mem_of_getElem? (i := 38) rfl)), rfl, hnm⟩) (hw _ (List.mem_of_getElem? (i := 13) rfl)) (ty := .byte) (v' := (.int (nar .byte (0 : Int32)))) (by decide) rfl (fits_nar_byte _) (g := (mkF m 11 #[.val (.ref a), .val (.ref t), .val (.int (0 : Int32))] [(.int (0 : Int32)), (.ref a)])) rfl rfl (hb hby own_d26)
  have N25 := Fr.snoc X24 N16 ga
  have Kx24 : Keep h15 h24 [a] := Keep.of_wr W24
  have F26 : Fld Z h24 a "java/lang/String" "coder" "B" (.int (nar .byte (0 : Int32))) := F18.same W24
  have F27 : Fld Z h24 a "java/lang/String" "value" "[B" (.ref t) := F17.other W24 (Or.inr (slot_ne (a0 := a0) (Or.inr (hw _ (List.mem_of_getElem? (i := 40) rfl))) (Or.inr (hw _ (List.mem_of_getElem? (i := 38) rfl))) (by decide) (t := (.array .byte)) (t' := .byte) (by decide) (by decide)))
  refine GoOn.step st24 ?_
  have E28 : Exa Z h24 a "java/lang/String" := E19.keep Kx24
  have Z29 : n0 ≤ h24.size := Nat.le_trans Z22 Kx24.1
  have K30 : Keep h0 h24 [a] := K23.trans Kx24 ((allS (Or.inl (by simp)) all0))
  show GoOn p e below (T24.setTop (mkF m 14 #[.val (.ref a), .val (.ref t), .val (.int (0 : Int32))] [])) _
  refine GoOn.ret X24 Bd.notSynchronized (v := none) (fun _ => rfl) (fun fs hr => X24.returnOut hx Bd.returns (hb hby own_d27) hr) (by decide) (by decide) ?_
  rw [e24]
  exact ⟨rfl, N25, K30, E28, F27, F26⟩
def QValC (Z : State) (x : Int32) (h0 : Heap) (n0 : Nat) (v : Option Value) (h : Heap) (L : List Loc) : Prop := ∃ a : Addr, v = some (.ref a) ∧ Fr n0 L ∧ Keep h0 h [] ∧ h0.size ≤ a ∧ StrIs Z h a [x]
set_option maxRecDepth 65536 in
set_option maxHeartbeats 40000000 in
theorem rmValueOfC (l : Launch) (Z : State) (a0 : Array Value) (hw : ∀ d ∈ tables_1, d.before a0 Z = true) (x G1 : Int32) (h0 : Heap) (n0 : Nat) (Z0 : n0 ≤ h0.size) (hx1 : ¬ x < 0) (hx2 : ¬ (255 : Int32) < x) (SC : Sta Z Z.heap "java/lang/String" "COMPACT_STRINGS" "Z" (.int G1)) (PC : ¬ G1 = (0 : Int32)) (O0 : Old Z n0 h0) :
    MetFree l (⟨"java/lang/String", "valueOf", "(C)Ljava/lang/String;"⟩ : MethodName) (head1 [Jvm.Cond.code (⟨"java/lang/String", "valueOf", "(C)Ljava/lang/String;"⟩ : MethodName) jdk_42_method_139_code 1 (some (.object "java/lang/String"))] ({ frames := 2, cells := 2, slots := 5, locals := 27 } : Room)) (fun aa U => aa = #[(.int x)] ∧ Z.Warmed39 U.vm ∧ U.heap = h0) (fun _ _ _ _ _ => True) (fun _ U o U' => ∃ v L, o = .returned v ∧ QValC Z x h0 n0 v U'.heap L ∧ FrameEnd U o U' L ({ frames := 2, cells := 2, slots := 5, locals := 27 } : Room).cells ({ frames := 2, cells := 2, slots := 5, locals := 27 } : Room).slots) := by
  refine MetFree.of_bodySF (plainFor_of_name own_pn18) hisR ?_
  intro p e s m args below meth c s₁ Bd hml0 hP hK
  obtain ⟨rfl, hZ, hh⟩ := hP
  have hx := Bd.exec
  have hby := Bd.bytes
  have hml : c.maxLocals = 1 := hml0
  have hown : s.vm.findClass "java/lang/String" = some m.cls := findClass_of_methodNamed Bd.named
  have hnm := (name_of_methodNamed Bd.named Bd.method).1
  have X0 : Stand p l e ({ frames := 2, cells := 2, slots := 5, locals := 27 } : Room) s m #[(.int x)] below meth c s₁ [] 0 0 := Stand.of_body Bd
  have e0 : s₁.heap = h0 := by rw [← hh, Bd.state]; rfl
  have N0 := Fr.nil n0
  have K0 : Keep h0 h0 [] := Keep.refl _ _
  show GoOn p e below (s₁.setTop (entryFrame m #[(.int x)] 1)) (PostN s (QValC Z x h0 n0) ({ frames := 2, cells := 2, slots := 5, locals := 27 } : Room).cells ({ frames := 2, cells := 2, slots := 5, locals := 27 } : Room).slots)
  refine GoOn.step (fun tq kq => castTop (own_ef28 m x) kq) ?_
  show GoOn p e below (s₁.setTop (mkF m 0 #[.val (.int x)] [])) _
  obtain ⟨T33, X33, e33, st33⟩ := getS2 X0 hx hZ hown (host := "") (Or.inl (hw _ (List.mem_of_getElem? (i := 25) rfl))) Via.refl e0 (SC.ext O0.2) (g := (mkF m 0 #[.val (.int x)] [])) rfl (hb hby own_d29)
  refine GoOn.step st33 ?_
  show GoOn p e below (T33.setTop (mkF m 3 #[.val (.int x)] [(.int G1)])) _
  refine GoOn.step (fun tq kq => XS.ifNo X33.here hx rfl (hb hby own_d30) rfl ((if0 _ _).trans (feq PC).1) kq) ?_
  show GoOn p e below (T33.setTop (mkF m 6 #[.val (.int x)] [])) _
  refine GoOn.step (fun tq kq => XS.iloadN X33.here hx rfl (hb hby own_d31) rfl kq) ?_
  show GoOn p e below (T33.setTop (mkF m 7 #[.val (.int x)] [(.int x)])) _
  obtain ⟨_, _, ⟨T34, L34, k34, n34⟩, -, X34, ⟨Lc34, hQ34, l34, y34, z34⟩, st34⟩ := Jvm.LawKit.callS X33 hx (y := (⟨"java/lang/StringLatin1", "canEncode", "(C)Z"⟩ : MethodName)) hown (mvT hZ (hw _ (List.mem_of_getElem? (i := 78) rfl))) (mvT hZ (hw _ (List.mem_of_getElem? (i := 79) rfl))) (mvT hZ (hw _ (List.mem_of_getElem? (i := 80) rfl))) (mvT hZ (hw _ (List.mem_of_getElem? (i := 81) rfl))) (by decide) (backOf (W := 0) (rmCanEnc l Z a0 hw x h0 n0 Z0 hx1 hx2) hZ (hw _ (List.mem_of_getElem? (i := 81) rfl)) (hw _ (List.mem_of_getElem? (i := 80) rfl)) (by decide) (by decide)) (g := (mkF m 7 #[.val (.int x)] [(.int x)])) rfl (by rw [hml]; rfl) (argsL := [(.int x)]) (rest := []) (lenOf own_pd33 rfl) rfl (by show 2 * 0 + _ ≤ _; exact Nat.le_of_eq rfl) (hb hby own_d32) (fun _ _ => ⟨rfl, e33, (by decide : 0 + 0 ≤ _), (by decide : 0 + 0 ≤ _)⟩)
  dsimp only [Pt.U, Pt.locs, Pt.cells, Pt.slots] at X34 l34 y34 z34 st34 hQ34
  subst l34 y34 z34
  obtain ⟨rfl, N34, e34⟩ := hQ34
  refine GoOn.step st34 ?_
  have N35 := Fr.app N0 N34
  show GoOn p e below (T34.setTop (mkF m 10 #[.val (.int x)] [(.int (1 : Int32))])) _
  refine GoOn.step (fun tq kq => XS.ifNo X34.here hx rfl (hb hby own_d34) rfl ((if0 _ _).trans (feq (by decide)).1) kq) ?_
  show GoOn p e below (T34.setTop (mkF m 13 #[.val (.int x)] [])) _
  obtain ⟨T36, h36, X36, e36, Ex36, A36, Df36, -, st36⟩ := newO X34 hx hZ hown (hw _ (List.mem_of_getElem? (i := 82) rfl)) (hw _ (List.mem_of_getElem? (i := 13) rfl)) (hw _ (List.mem_of_getElem? (i := 14) rfl)) e34 (g := (mkF m 13 #[.val (.int x)] [])) rfl (hb hby own_d35) (by decide) (by decide)
  obtain ⟨sb, g36⟩ : ∃ z, z = h0.size := ⟨_, rfl⟩
  rw [← g36] at A36 Df36 st36
  have gn37 : n0 ≤ sb := Nat.le_trans Z0 (Nat.le_of_eq g36.symm)
  have sz38 : h0.size ≤ sb := Nat.le_trans K0.1 (Nat.le_of_eq g36.symm)
  have Kx36 : Keep h0 h36 [] := (Keep.refl _ _).ext Ex36
  refine GoOn.step st36 ?_
  have O39 : Old Z n0 h36 := O0.keep Kx36 all0
  have Z40 : n0 ≤ h36.size := Nat.le_trans Z0 Kx36.1
  have K41 : Keep h0 h36 [] := K0.trans Kx36 (all0)
  have F42 : Fld Z h36 sb "java/lang/String" "coder" "B" (.int (0 : Int32)) := Df36 (Or.inr (hw _ (List.mem_of_getElem? (i := 38) rfl))) (ty := .byte) (by decide)
  have F43 : Fld Z h36 sb "java/lang/String" "value" "[B" .null := Df36 (Or.inr (hw _ (List.mem_of_getElem? (i := 40) rfl))) (ty := (.array .byte)) (by decide)
  show GoOn p e below (T36.setTop (mkF m 16 #[.val (.int x)] [(.ref sb)])) _
  refine GoOn.step (fun tq kq => XS.dup X36.here hx rfl (hb hby own_d36) rfl rfl kq) ?_
  show GoOn p e below (T36.setTop (mkF m 17 #[.val (.int x)] [(.ref sb), (.ref sb)])) _
  refine GoOn.step (fun tq kq => XS.iloadN X36.here hx rfl (hb hby own_d37) rfl kq) ?_
  show GoOn p e below (T36.setTop (mkF m 18 #[.val (.int x)] [(.int x), (.ref sb), (.ref sb)])) _
  obtain ⟨_, _, ⟨T44, L44, k44, n44⟩, -, X44, ⟨Lc44, hQ44, l44, y44, z44⟩, st44⟩ := Jvm.LawKit.callS X36 hx (y := (⟨"java/lang/StringLatin1", "toBytes", "(C)[B"⟩ : MethodName)) hown (mvT hZ (hw _ (List.mem_of_getElem? (i := 83) rfl))) (mvT hZ (hw _ (List.mem_of_getElem? (i := 84) rfl))) (mvT hZ (hw _ (List.mem_of_getElem? (i := 80) rfl))) (mvT hZ (hw _ (List.mem_of_getElem? (i := 85) rfl))) (by decide) (backOf (W := 2) (rmToB l Z a0 hw x h36 n0 Z40) hZ (hw _ (List.mem_of_getElem? (i := 85) rfl)) (hw _ (List.mem_of_getElem? (i := 80) rfl)) (by decide) (by decide)) (g := (mkF m 18 #[.val (.int x)] [(.int x), (.ref sb), (.ref sb)])) rfl (by rw [hml]; rfl) (argsL := [(.int x)]) (rest := [(.ref sb), (.ref sb)]) (lenOf own_pd39 rfl) rfl (by show 2 * 0 + _ ≤ _; exact Nat.le_of_eq rfl) (hb hby own_d38) (fun _ _ => ⟨rfl, e36, (by decide : 1 + 1 ≤ _), (by decide : 4 + 1 ≤ _)⟩)
  dsimp only [Pt.U, Pt.locs, Pt.cells, Pt.slots] at X44 l44 y44 z44 st44 hQ44
  subst l44 y44 z44
  obtain ⟨t44, kb44, rfl, N44, K44, ge44, Va44⟩ := hQ44
  refine GoOn.step st44 ?_
  have N45 := Fr.app N35 N44
  have gn46 : n0 ≤ t44 := Nat.le_trans Z40 ge44
  have sz47 : h0.size ≤ t44 := Nat.le_trans K41.1 ge44
  have ne48 : sb ≠ t44 := Nat.ne_of_lt (Nat.lt_of_lt_of_le A36.lt ge44)
  have O49 : Old Z n0 T44.heap := O39.keep K44 all0
  have Z50 : n0 ≤ T44.heap.size := Nat.le_trans Z40 K44.1
  have K51 : Keep h0 T44.heap [] := K41.trans K44 (all0)
  have E52 : Exa Z T44.heap sb "java/lang/String" := A36.keep K44
  have F53 : Fld Z T44.heap sb "java/lang/String" "coder" "B" (.int (0 : Int32)) := F42.keep K44 nin0
  have F54 : Fld Z T44.heap sb "java/lang/String" "value" "[B" .null := F43.keep K44 nin0
  show GoOn p e below (T44.setTop (mkF m 21 #[.val (.int x)] [(.ref t44), (.ref sb), (.ref sb)])) _
  refine GoOn.step (fun tq kq => XS.iconst X44.here hx rfl (hb hby own_d40) kq) ?_
  show GoOn p e below (T44.setTop (mkF m 22 #[.val (.int x)] [(.int (0 : Int32)), (.ref t44), (.ref sb), (.ref sb)])) _
  obtain ⟨_, _, ⟨T55, L55, k55, n55⟩, -, X55, ⟨Lc55, hQ55, l55, y55, z55⟩, st55⟩ := X44.specialBack hx (y := (⟨"java/lang/String", "<init>", "([BB)V"⟩ : MethodName)) rfl hown (mvT hZ (hw _ (List.mem_of_getElem? (i := 86) rfl))) (mvT hZ (hw _ (List.mem_of_getElem? (i := 87) rfl))) (mvT hZ (hw _ (List.mem_of_getElem? (i := 88) rfl))) (by decide) (backOf (W := 1) (rmIBB l Z a0 hw sb t44 T44.heap n0 Z50 E52 F54 F53 gn37) hZ (hw _ (List.mem_of_getElem? (i := 88) rfl)) (hw _ (List.mem_of_getElem? (i := 14) rfl)) (by decide) (by decide)) (g := (mkF m 22 #[.val (.int x)] [(.int (0 : Int32)), (.ref t44), (.ref sb), (.ref sb)])) rfl (by rw [hml]; rfl) (Steps.refl _) (a := sb) (argsL := [(.ref t44), (.int (0 : Int32))]) (rest := [(.ref sb)]) (lenOf own_pd42 rfl) rfl (by show 2 * 0 + _ ≤ _; exact Nat.le_of_eq rfl) (hb hby own_d41) (fun _ _ => ⟨rfl, rfl, (by decide : 2 + 0 ≤ _), (by decide : 5 + 0 ≤ _)⟩)
  dsimp only [Pt.U, Pt.locs, Pt.cells, Pt.slots] at X55 l55 y55 z55 st55 hQ55
  subst l55 y55 z55
  obtain ⟨rfl, N55, K55, E55, Fv55, Fc55⟩ := hQ55
  refine GoOn.trans st55 ?_
  have N56 := Fr.app N45 N55
  have O57 : Old Z n0 T55.heap := O49.keep K55 (allS gn37 all0)
  have Z58 : n0 ≤ T55.heap.size := Nat.le_trans Z50 K55.1
  have K59 : Keep h0 T55.heap [] := K51.trans K55 ((allS (Or.inr sz38) all0))
  have E60 : Exa Z T55.heap sb "java/lang/String" := E52.keep K55
  have V63 : Arv Z T55.heap t44 kb44 .byte (1 : Int32) [(.int (x.toInt8.toInt32))] (.int 0) := Va44.keep K55 (ninS (Ne.symm ne48) nin0)
  show GoOn p e below (T55.setTop (mkF m 25 #[.val (.int x)] [(.ref sb)])) _
  refine GoOn.ret X55 Bd.notSynchronized (v := some (.ref sb)) (fun h => by rw [Bd.returns] at h; cases h) (fun fs hr => retOut X55 hx Bd.returns rfl (Or.inr (Or.inr (Or.inr (Or.inr ⟨rfl, rfl, rfl⟩)))) (hb hby own_d43) hr) (by decide) (by decide) ?_
  exact ⟨sb, rfl, N56, K59, sz38, E55, Fc55, (fun c hc => by simp only [List.mem_cons, List.not_mem_nil, or_false] at hc; subst hc; exact ⟨hx1, hx2⟩), (Nat.le_of_ble_eq_true rfl), t44, _, Fv55, V63⟩
def QNone (h0 : Heap) (n0 : Nat) (v : Option Value) (h : Heap) (L : List Loc) : Prop := v = none ∧ Fr n0 L ∧ h = h0
set_option maxRecDepth 65536 in
set_option maxHeartbeats 40000000 in
theorem rmRec (l : Launch) (Z : State) (a0 : Array Value) (hw : ∀ d ∈ tables_1, d.before a0 Z = true) (a : Addr) (h0 : Heap) (n0 : Nat) (Z0 : n0 ≤ h0.size) :
    MetFree l (⟨"java/lang/Record", "<init>", "()V"⟩ : MethodName) (head1 [Jvm.Cond.code (⟨"java/lang/Record", "<init>", "()V"⟩ : MethodName) jdk_30_method_1_code 1 none] ({ frames := 1, cells := 0, slots := 0, locals := 12 } : Room)) (fun aa U => aa = #[(.ref a)] ∧ Z.Warmed39 U.vm ∧ U.heap = h0) (fun _ _ _ _ _ => True) (fun _ U o U' => ∃ v L, o = .returned v ∧ QNone h0 n0 v U'.heap L ∧ FrameEnd U o U' L ({ frames := 1, cells := 0, slots := 0, locals := 12 } : Room).cells ({ frames := 1, cells := 0, slots := 0, locals := 12 } : Room).slots) := by
  refine MetFree.of_bodySF (plainFor_of_name own_pn45) hisR ?_
  intro p e s m args below meth c s₁ Bd hml0 hP hK
  obtain ⟨rfl, hZ, hh⟩ := hP
  have hx := Bd.exec
  have hby := Bd.bytes
  have hml : c.maxLocals = 1 := hml0
  have hown : s.vm.findClass "java/lang/Record" = some m.cls := findClass_of_methodNamed Bd.named
  have hnm := (name_of_methodNamed Bd.named Bd.method).1
  have X0 : Stand p l e ({ frames := 1, cells := 0, slots := 0, locals := 12 } : Room) s m #[(.ref a)] below meth c s₁ [] 0 0 := Stand.of_body Bd
  have e0 : s₁.heap = h0 := by rw [← hh, Bd.state]; rfl
  have N0 := Fr.nil n0
  have K0 : Keep h0 h0 [] := Keep.refl _ _
  show GoOn p e below (s₁.setTop (entryFrame m #[(.ref a)] 1)) (PostN s (QNone h0 n0) ({ frames := 1, cells := 0, slots := 0, locals := 12 } : Room).cells ({ frames := 1, cells := 0, slots := 0, locals := 12 } : Room).slots)
  refine GoOn.step (fun tq kq => castTop (own_ef44 m a) kq) ?_
  show GoOn p e below (s₁.setTop (mkF m 0 #[.val (.ref a)] [])) _
  refine GoOn.step (fun tq kq => XS.aloadN X0.here hx rfl (hb hby own_d46) rfl rfl kq) ?_
  show GoOn p e below (s₁.setTop (mkF m 1 #[.val (.ref a)] [(.ref a)])) _
  obtain ⟨T64, X64, e64, st64⟩ := initO X0 hx hZ hown (hw _ (List.mem_of_getElem? (i := 52) rfl)) (hw _ (List.mem_of_getElem? (i := 23) rfl)) (hw _ (List.mem_of_getElem? (i := 24) rfl)) e0 (g := (mkF m 1 #[.val (.ref a)] [(.ref a)])) rfl (by rw [hml]; rfl) rfl (hb hby own_d47) (by decide) (W := 0) (by show 2 * 0 + _ ≤ _; exact Nat.le_of_eq rfl) (by decide)
  refine GoOn.step st64 ?_
  show GoOn p e below (T64.setTop (mkF m 4 #[.val (.ref a)] [])) _
  refine GoOn.ret X64 Bd.notSynchronized (v := none) (fun _ => rfl) (fun fs hr => X64.returnOut hx Bd.returns (hb hby own_d48) hr) (by decide) (by decide) ?_
  rw [e64]
  exact ⟨rfl, N0, rfl⟩
set_option maxRecDepth 65536 in
set_option maxHeartbeats 40000000 in
theorem rmReq (l : Launch) (Z : State) (a0 : Array Value) (hw : ∀ d ∈ tables_1, d.before a0 Z = true) (a b : Addr) (h0 : Heap) (n0 : Nat) (Z0 : n0 ≤ h0.size) :
    MetFree l (⟨"java/util/Objects", "requireNonNull", "(Ljava/lang/Object;Ljava/lang/String;)Ljava/lang/Object;"⟩ : MethodName) (head1 [Jvm.Cond.code (⟨"java/util/Objects", "requireNonNull", "(Ljava/lang/Object;Ljava/lang/String;)Ljava/lang/Object;"⟩ : MethodName) jdk_31_method_11_code 2 (some (.object "java/lang/Object"))] ({ frames := 0, cells := 0, slots := 0, locals := 0 } : Room)) (fun aa U => aa = #[(.ref a), (.ref b)] ∧ Z.Warmed39 U.vm ∧ U.heap = h0) (fun _ _ _ _ _ => True) (fun _ U o U' => ∃ v L, o = .returned v ∧ QSame (.ref a) h0 n0 v U'.heap L ∧ FrameEnd U o U' L ({ frames := 0, cells := 0, slots := 0, locals := 0 } : Room).cells ({ frames := 0, cells := 0, slots := 0, locals := 0 } : Room).slots) := by
  refine MetFree.of_bodySF (plainFor_of_name own_pn50) hisR ?_
  intro p e s m args below meth c s₁ Bd hml0 hP hK
  obtain ⟨rfl, hZ, hh⟩ := hP
  have hx := Bd.exec
  have hby := Bd.bytes
  have hml : c.maxLocals = 2 := hml0
  have hown : s.vm.findClass "java/util/Objects" = some m.cls := findClass_of_methodNamed Bd.named
  have hnm := (name_of_methodNamed Bd.named Bd.method).1
  have X0 : Stand p l e ({ frames := 0, cells := 0, slots := 0, locals := 0 } : Room) s m #[(.ref a), (.ref b)] below meth c s₁ [] 0 0 := Stand.of_body Bd
  have e0 : s₁.heap = h0 := by rw [← hh, Bd.state]; rfl
  have N0 := Fr.nil n0
  have K0 : Keep h0 h0 [] := Keep.refl _ _
  show GoOn p e below (s₁.setTop (entryFrame m #[(.ref a), (.ref b)] 2)) (PostN s (QSame (.ref a) h0 n0) ({ frames := 0, cells := 0, slots := 0, locals := 0 } : Room).cells ({ frames := 0, cells := 0, slots := 0, locals := 0 } : Room).slots)
  refine GoOn.step (fun tq kq => castTop (own_ef49 m a b) kq) ?_
  show GoOn p e below (s₁.setTop (mkF m 0 #[.val (.ref a), .val (.ref b)] [])) _
  refine GoOn.step (fun tq kq => XS.aloadN X0.here hx rfl (hb hby own_d51) rfl rfl kq) ?_
  show GoOn p e below (s₁.setTop (mkF m 1 #[.val (.ref a), .val (.ref b)] [(.ref a)])) _
  refine GoOn.step (fun tq kq => XS.ifnonnullYes X0.here hx rfl (pc0 := 1) (pc' := 13) rfl (hb hby own_d52) rfl (by decide) (by decide) kq) ?_
  show GoOn p e below (s₁.setTop (mkF m 13 #[.val (.ref a), .val (.ref b)] [])) _
  refine GoOn.step (fun tq kq => XS.aloadN X0.here hx rfl (hb hby own_d53) rfl rfl kq) ?_
  show GoOn p e below (s₁.setTop (mkF m 14 #[.val (.ref a), .val (.ref b)] [(.ref a)])) _
  refine GoOn.ret X0 Bd.notSynchronized (v := some (.ref a)) (fun h => by rw [Bd.returns] at h; cases h) (fun fs hr => retOut X0 hx Bd.returns rfl (Or.inr (Or.inr (Or.inr (Or.inr ⟨rfl, rfl, rfl⟩)))) (hb hby own_d54) hr) (by decide) (by decide) ?_
  rw [e0]
  exact ⟨rfl, N0, rfl⟩
def QACI (Z : State) (a b1 b2 : Addr) (h0 : Heap) (n0 : Nat) (v : Option Value) (h : Heap) (L : List Loc) : Prop := v = none ∧ Fr n0 L ∧ Keep h0 h [a] ∧ Exa Z h a "com/example/subsume/subsume/axioms/AtomicConcept" ∧ Fld Z h a "com/example/subsume/subsume/axioms/AtomicConcept" "name" "Ljava/lang/String;" (.ref b1) ∧ Fld Z h a "com/example/subsume/subsume/axioms/AtomicConcept" "kind" "Lcom/example/subsume/subsume/axioms/AtomicConcept$Kind;" (.ref b2)
set_option maxRecDepth 65536 in
set_option maxHeartbeats 40000000 in
theorem rmACI (l : Launch) (Z : State) (a0 : Array Value) (hw : ∀ d ∈ tables_1, d.before a0 Z = true) (a b1 b2 : Addr) (h0 : Heap) (n0 : Nat) (Z0 : n0 ≤ h0.size) (E0 : Exa Z h0 a "com/example/subsume/subsume/axioms/AtomicConcept") (F0name : Fld Z h0 a "com/example/subsume/subsume/axioms/AtomicConcept" "name" "Ljava/lang/String;" .null) (F0kind : Fld Z h0 a "com/example/subsume/subsume/axioms/AtomicConcept" "kind" "Lcom/example/subsume/subsume/axioms/AtomicConcept$Kind;" .null) (ga : n0 ≤ a) :
    MetFree l (⟨"com/example/subsume/subsume/axioms/AtomicConcept", "<init>", "(Ljava/lang/String;Lcom/example/subsume/subsume/axioms/AtomicConcept$Kind;)V"⟩ : MethodName) (head1 [Jvm.Cond.code (⟨"com/example/subsume/subsume/axioms/AtomicConcept", "<init>", "(Ljava/lang/String;Lcom/example/subsume/subsume/axioms/AtomicConcept$Kind;)V"⟩ : MethodName) prog_6_method_1_code 3 none] ({ frames := 2, cells := 4, slots := 40, locals := 28 } : Room)) (fun aa U => aa = #[(.ref a), (.ref b1), (.ref b2)] ∧ Z.Warmed39 U.vm ∧ U.heap = h0 ∧ CHv Z own_EL U.vm h0) (fun _ _ _ _ _ => True) (fun _ U o U' => ∃ v L, o = .returned v ∧ QACI Z a b1 b2 h0 n0 v U'.heap L ∧ CHr Z own_EL U.vm U.heap U'.vm U'.heap ∧ ReturnedEndW U o U' L ({ frames := 2, cells := 4, slots := 40, locals := 28 } : Room).cells ({ frames := 2, cells := 4, slots := 40, locals := 28 } : Room).slots) := by
  refine MetFree.of_bodySF (plainFor_of_name own_pn56) hisR ?_
  intro p e s m args below meth c s₁ Bd hml0 hP hK
  obtain ⟨rfl, hZ, hh, hCH⟩ := hP
  have hx := Bd.exec
  have hby := Bd.bytes
  have hml : c.maxLocals = 3 := hml0
  have hown : s.vm.findClass "com/example/subsume/subsume/axioms/AtomicConcept" = some m.cls := findClass_of_methodNamed Bd.named
  have hnm := (name_of_methodNamed Bd.named Bd.method).1
  have X0 : Stand p l e ({ frames := 2, cells := 4, slots := 40, locals := 28 } : Room) s m #[(.ref a), (.ref b1), (.ref b2)] below meth c s₁ [] 0 0 := Stand.of_body Bd
  have e0 : s₁.heap = h0 := by rw [← hh, Bd.state]; rfl
  have N0 := Fr.nil n0
  have K0 : Keep h0 h0 [] := Keep.refl _ _
  show GoOn p e below (s₁.setTop (entryFrame m #[(.ref a), (.ref b1), (.ref b2)] 3)) (PostH Z own_EL s (QACI Z a b1 b2 h0 n0) ({ frames := 2, cells := 4, slots := 40, locals := 28 } : Room).cells ({ frames := 2, cells := 4, slots := 40, locals := 28 } : Room).slots)
  refine GoOn.step (fun tq kq => castTop (own_ef55 m a b1 b2) kq) ?_
  have hS0 : s.Since s.vm h0.size := (State.WarmedH.refl s).since _
  have hk0 : h0.size ≤ h0.size := Nat.le_refl _
  replace X0 : Stand p l e ({ frames := 2, cells := 4, slots := 40, locals := 28 } : Room) (s.setVm s.vm) m #[(.ref a), (.ref b1), (.ref b2)] below meth c s₁ [] 0 0 := X0
  replace hZ : Z.Warmed39 (s.setVm s.vm).vm := hZ
  replace hown : (s.setVm s.vm).vm.findClass "com/example/subsume/subsume/axioms/AtomicConcept" = some m.cls := hown
  have C0 : CHr Z own_EL s.vm h0 s.vm h0 := CHr.refl hCH
  have hEL : EW Z a0 own_EL := own_EW hw
  have wS : ∀ d ∈ Bundle.stringAtoms, d.before a0 Z = true := fun d hd => hw d (own_sa d hd)
  show GoOn p e below (s₁.setTop (mkF m 0 #[.val (.ref a), .val (.ref b1), .val (.ref b2)] [])) _
  have K0a : Keep h0 h0 [a] := Keep.refl _ _
  refine GoOn.step (fun tq kq => XS.aloadN X0.here hx rfl (hb hby own_d57) rfl rfl kq) ?_
  show GoOn p e below (s₁.setTop (mkF m 1 #[.val (.ref a), .val (.ref b1), .val (.ref b2)] [(.ref a)])) _
  obtain ⟨_, _, ⟨T65, L65, k65, n65⟩, -, X65, ⟨Lc65, hQ65, l65, y65, z65⟩, st65⟩ := X0.specialBack hx (y := (⟨"java/lang/Record", "<init>", "()V"⟩ : MethodName)) rfl hown (mvT hZ (hw _ (List.mem_of_getElem? (i := 47) rfl))) (mvT hZ (hw _ (List.mem_of_getElem? (i := 48) rfl))) (mvT hZ (hw _ (List.mem_of_getElem? (i := 51) rfl))) (by decide) (backOf (W := 0) (rmRec l Z a0 hw a h0 n0 Z0) hZ (hw _ (List.mem_of_getElem? (i := 51) rfl)) (hw _ (List.mem_of_getElem? (i := 50) rfl)) (by decide) (by decide)) (g := (mkF m 1 #[.val (.ref a), .val (.ref b1), .val (.ref b2)] [(.ref a)])) rfl (by rw [hml]; rfl) (Steps.refl _) (a := a) (argsL := []) (rest := []) (lenOf own_pd59 rfl) rfl (by show 2 * 0 + _ ≤ _; exact Nat.le_of_eq rfl) (hb hby own_d58) (fun _ _ => ⟨rfl, e0, (by decide : 0 + 0 ≤ _), (by decide : 0 + 0 ≤ _)⟩)
  dsimp only [Pt.U, Pt.locs, Pt.cells, Pt.slots] at X65 l65 y65 z65 st65 hQ65
  subst l65 y65 z65
  obtain ⟨rfl, N65, e65⟩ := hQ65
  refine GoOn.trans st65 ?_
  have N66 := Fr.app N0 N65
  show GoOn p e below (T65.setTop (mkF m 4 #[.val (.ref a), .val (.ref b1), .val (.ref b2)] [])) _
  refine GoOn.step (fun tq kq => XS.aloadN X65.here hx rfl (hb hby own_d60) rfl rfl kq) ?_
  show GoOn p e below (T65.setTop (mkF m 5 #[.val (.ref a), .val (.ref b1), .val (.ref b2)] [(.ref b1)])) _
  obtain ⟨lt67, T67, h67, k167, X67, e67, Ex67, hS67, hk67, hZ67, hown67, Cn67, Lt67, st67⟩ := ldcOH X65 hx hZ hown (hw _ (List.mem_of_getElem? (i := 53) rfl)) wS e65 hS0 hk0 hEL C0.1 (g := (mkF m 5 #[.val (.ref a), .val (.ref b1), .val (.ref b2)] [(.ref b1)])) rfl (hb hby own_d61) (n := 16) (by decide) (by decide) (by decide) (by decide)
  have Kx67 : Keep h0 h67 [] := (Keep.refl _ _).ext Ex67
  refine GoOn.step st67 ?_
  have E68 : Exa Z h67 a "com/example/subsume/subsume/axioms/AtomicConcept" := E0.keep Kx67
  have F69 : Fld Z h67 a "com/example/subsume/subsume/axioms/AtomicConcept" "name" "Ljava/lang/String;" .null := F0name.keep Kx67 nin0
  have F70 : Fld Z h67 a "com/example/subsume/subsume/axioms/AtomicConcept" "kind" "Lcom/example/subsume/subsume/axioms/AtomicConcept$Kind;" .null := F0kind.keep Kx67 nin0
  have Z71 : n0 ≤ h67.size := Nat.le_trans Z0 Kx67.1
  have C72 : CHr Z own_EL s.vm h0 T67.vm h67 := CHr.trans C0 Cn67
  have K73 : Keep h0 h67 [a] := K0a.trans Kx67 all0
  show GoOn p e below (T67.setTop (mkF m 7 #[.val (.ref a), .val (.ref b1), .val (.ref b2)] [(.ref lt67), (.ref b1)])) _
  obtain ⟨_, _, ⟨T74, L74, k74, n74⟩, -, X74, ⟨Lc74, hQ74, l74, y74, z74⟩, st74⟩ := Jvm.LawKit.callS X67 hx (y := (⟨"java/util/Objects", "requireNonNull", "(Ljava/lang/Object;Ljava/lang/String;)Ljava/lang/Object;"⟩ : MethodName)) hown67 (mvT hZ67 (hw _ (List.mem_of_getElem? (i := 56) rfl))) (mvT hZ67 (hw _ (List.mem_of_getElem? (i := 57) rfl))) (mvT hZ67 (hw _ (List.mem_of_getElem? (i := 58) rfl))) (mvT hZ67 (hw _ (List.mem_of_getElem? (i := 59) rfl))) (by decide) (backOf (W := 0) (rmReq l Z a0 hw b1 lt67 h67 n0 Z71) hZ67 (hw _ (List.mem_of_getElem? (i := 59) rfl)) (hw _ (List.mem_of_getElem? (i := 58) rfl)) (by decide) (by decide)) (g := (mkF m 7 #[.val (.ref a), .val (.ref b1), .val (.ref b2)] [(.ref lt67), (.ref b1)])) rfl (by rw [hml]; rfl) (argsL := [(.ref b1), (.ref lt67)]) (rest := []) (lenOf own_pd62 rfl) rfl (by show 2 * 0 + _ ≤ _; exact Nat.le_of_eq rfl) (hb hby own_d63) (fun _ _ => ⟨rfl, e67, (by decide : 2 + 0 ≤ _), (by decide : 20 + 0 ≤ _)⟩)
  dsimp only [Pt.U, Pt.locs, Pt.cells, Pt.slots] at X74 l74 y74 z74 st74 hQ74
  subst l74 y74 z74
  obtain ⟨rfl, N74, e74⟩ := hQ74
  refine GoOn.step st74 ?_
  have N75 := Fr.app N66 N74
  show GoOn p e below (T74.setTop (mkF m 10 #[.val (.ref a), .val (.ref b1), .val (.ref b2)] [(.ref b1)])) _
  refine GoOn.step (fun tq kq => XS.pop X74.here hx rfl (hb hby own_d64) rfl rfl kq) ?_
  show GoOn p e below (T74.setTop (mkF m 11 #[.val (.ref a), .val (.ref b1), .val (.ref b2)] [])) _
  refine GoOn.step (fun tq kq => XS.aloadN X74.here hx rfl (hb hby own_d65) rfl rfl kq) ?_
  show GoOn p e below (T74.setTop (mkF m 12 #[.val (.ref a), .val (.ref b1), .val (.ref b2)] [(.ref b2)])) _
  obtain ⟨lt76, T76, h76, k176, X76, e76, Ex76, hS76, hk76, hZ76, hown76, Cn76, Lt76, st76⟩ := ldcOH X74 hx hZ67 hown67 (hw _ (List.mem_of_getElem? (i := 60) rfl)) wS e74 hS67 hk67 hEL C72.1 (g := (mkF m 12 #[.val (.ref a), .val (.ref b1), .val (.ref b2)] [(.ref b2)])) rfl (hb hby own_d66) (n := 16) (by decide) (by decide) (by decide) (by decide)
  have Kx76 : Keep h67 h76 [] := (Keep.refl _ _).ext Ex76
  refine GoOn.step st76 ?_
  have E77 : Exa Z h76 a "com/example/subsume/subsume/axioms/AtomicConcept" := E68.keep Kx76
  have F78 : Fld Z h76 a "com/example/subsume/subsume/axioms/AtomicConcept" "name" "Ljava/lang/String;" .null := F69.keep Kx76 nin0
  have F79 : Fld Z h76 a "com/example/subsume/subsume/axioms/AtomicConcept" "kind" "Lcom/example/subsume/subsume/axioms/AtomicConcept$Kind;" .null := F70.keep Kx76 nin0
  have Z80 : n0 ≤ h76.size := Nat.le_trans Z71 Kx76.1
  have C81 : CHr Z own_EL s.vm h0 T76.vm h76 := CHr.trans C72 Cn76
  have K82 : Keep h0 h76 [a] := K73.trans Kx76 all0
  show GoOn p e below (T76.setTop (mkF m 14 #[.val (.ref a), .val (.ref b1), .val (.ref b2)] [(.ref lt76), (.ref b2)])) _
  obtain ⟨_, _, ⟨T83, L83, k83, n83⟩, -, X83, ⟨Lc83, hQ83, l83, y83, z83⟩, st83⟩ := Jvm.LawKit.callS X76 hx (y := (⟨"java/util/Objects", "requireNonNull", "(Ljava/lang/Object;Ljava/lang/String;)Ljava/lang/Object;"⟩ : MethodName)) hown76 (mvT hZ76 (hw _ (List.mem_of_getElem? (i := 56) rfl))) (mvT hZ76 (hw _ (List.mem_of_getElem? (i := 57) rfl))) (mvT hZ76 (hw _ (List.mem_of_getElem? (i := 58) rfl))) (mvT hZ76 (hw _ (List.mem_of_getElem? (i := 59) rfl))) (by decide) (backOf (W := 0) (rmReq l Z a0 hw b2 lt76 h76 n0 Z80) hZ76 (hw _ (List.mem_of_getElem? (i := 59) rfl)) (hw _ (List.mem_of_getElem? (i := 58) rfl)) (by decide) (by decide)) (g := (mkF m 14 #[.val (.ref a), .val (.ref b1), .val (.ref b2)] [(.ref lt76), (.ref b2)])) rfl (by rw [hml]; rfl) (argsL := [(.ref b2), (.ref lt76)]) (rest := []) (lenOf own_pd62 rfl) rfl (by show 2 * 0 + _ ≤ _; exact Nat.le_of_eq rfl) (hb hby own_d67) (fun _ _ => ⟨rfl, e76, (by decide : 4 + 0 ≤ _), (by decide : 40 + 0 ≤ _)⟩)
  dsimp only [Pt.U, Pt.locs, Pt.cells, Pt.slots] at X83 l83 y83 z83 st83 hQ83
  subst l83 y83 z83
  obtain ⟨rfl, N83, e83⟩ := hQ83
  refine GoOn.step st83 ?_
  have N84 := Fr.app N75 N83
  show GoOn p e below (T83.setTop (mkF m 17 #[.val (.ref a), .val (.ref b1), .val (.ref b2)] [(.ref b2)])) _
  refine GoOn.step (fun tq kq => XS.pop X83.here hx rfl (hb hby own_d68) rfl rfl kq) ?_
  show GoOn p e below (T83.setTop (mkF m 18 #[.val (.ref a), .val (.ref b1), .val (.ref b2)] [])) _
  refine GoOn.step (fun tq kq => XS.aloadN X83.here hx rfl (hb hby own_d69) rfl rfl kq) ?_
  show GoOn p e below (T83.setTop (mkF m 19 #[.val (.ref a), .val (.ref b1), .val (.ref b2)] [(.ref a)])) _
  refine GoOn.step (fun tq kq => XS.aloadN X83.here hx rfl (hb hby own_d70) rfl rfl kq) ?_
  show GoOn p e below (T83.setTop (mkF m 20 #[.val (.ref a), .val (.ref b1), .val (.ref b2)] [(.ref b1), (.ref a)])) _
  obtain ⟨T85, h85, X85, e85, W85, st85⟩ := putF X83 hx hZ76 hown76 (host := "") (Or.inl (hw _ (List.mem_of_getElem? (i := 61) rfl))) Via.refl e83 F78 E77 (Or.inr ⟨(hw _ (List.mem_of_getElem? (i := 62) rfl)), rfl, hnm⟩) (hw _ (List.mem_of_getElem? (i := 42) rfl)) (ty := (.object "java/lang/String")) (by decide) rfl rfl (g := (mkF m 20 #[.val (.ref a), .val (.ref b1), .val (.ref b2)] [(.ref b1), (.ref a)])) rfl rfl (hb hby own_d71)
  have N86 := Fr.snoc X85 N84 ga
  have Kx85 : Keep h76 h85 [a] := Keep.of_wr W85
  have F87 : Fld Z h85 a "com/example/subsume/subsume/axioms/AtomicConcept" "name" "Ljava/lang/String;" (.ref b1) := F78.same W85
  have F88 : Fld Z h85 a "com/example/subsume/subsume/axioms/AtomicConcept" "kind" "Lcom/example/subsume/subsume/axioms/AtomicConcept$Kind;" .null := F79.other W85 (Or.inr (slot_ne (a0 := a0) (Or.inr (hw _ (List.mem_of_getElem? (i := 64) rfl))) (Or.inr (hw _ (List.mem_of_getElem? (i := 62) rfl))) (by decide) (t := (.object "com/example/subsume/subsume/axioms/AtomicConcept$Kind")) (t' := (.object "java/lang/String")) (by decide) (by decide)))
  refine GoOn.step st85 ?_
  have E89 : Exa Z h85 a "com/example/subsume/subsume/axioms/AtomicConcept" := E77.keep Kx85
  have Z92 : n0 ≤ h85.size := Nat.le_trans Z80 Kx85.1
  have C93 : CHr Z own_EL s.vm h0 T76.vm h85 := CHr.trans C81 (CHr.keep Kx85 (allS (Safe.exa hZ76.alike E77 (by decide) (by decide)) all0) C81.1)
  have K94 : Keep h0 h85 [a] := K82.trans Kx85 ((allS (Or.inl (by simp)) all0))
  have hk95 := Nat.le_trans hk76 Kx85.1
  show GoOn p e below (T85.setTop (mkF m 23 #[.val (.ref a), .val (.ref b1), .val (.ref b2)] [])) _
  refine GoOn.step (fun tq kq => XS.aloadN X85.here hx rfl (hb hby own_d72) rfl rfl kq) ?_
  show GoOn p e below (T85.setTop (mkF m 24 #[.val (.ref a), .val (.ref b1), .val (.ref b2)] [(.ref a)])) _
  refine GoOn.step (fun tq kq => XS.aloadN X85.here hx rfl (hb hby own_d73) rfl rfl kq) ?_
  show GoOn p e below (T85.setTop (mkF m 25 #[.val (.ref a), .val (.ref b1), .val (.ref b2)] [(.ref b2), (.ref a)])) _
  obtain ⟨T96, h96, X96, e96, W96, st96⟩ := putF X85 hx hZ76 hown76 (host := "") (Or.inl (hw _ (List.mem_of_getElem? (i := 63) rfl))) Via.refl e85 F88 E89 (Or.inr ⟨(hw _ (List.mem_of_getElem? (i := 64) rfl)), rfl, hnm⟩) (hw _ (List.mem_of_getElem? (i := 42) rfl)) (ty := (.object "com/example/subsume/subsume/axioms/AtomicConcept$Kind")) (by decide) rfl rfl (g := (mkF m 25 #[.val (.ref a), .val (.ref b1), .val (.ref b2)] [(.ref b2), (.ref a)])) rfl rfl (hb hby own_d74)
  have N97 := Fr.snoc X96 N86 ga
  have Kx96 : Keep h85 h96 [a] := Keep.of_wr W96
  have F98 : Fld Z h96 a "com/example/subsume/subsume/axioms/AtomicConcept" "kind" "Lcom/example/subsume/subsume/axioms/AtomicConcept$Kind;" (.ref b2) := F88.same W96
  have F99 : Fld Z h96 a "com/example/subsume/subsume/axioms/AtomicConcept" "name" "Ljava/lang/String;" (.ref b1) := F87.other W96 (Or.inr (slot_ne (a0 := a0) (Or.inr (hw _ (List.mem_of_getElem? (i := 62) rfl))) (Or.inr (hw _ (List.mem_of_getElem? (i := 64) rfl))) (by decide) (t := (.object "java/lang/String")) (t' := (.object "com/example/subsume/subsume/axioms/AtomicConcept$Kind")) (by decide) (by decide)))
  refine GoOn.step st96 ?_
  have E100 : Exa Z h96 a "com/example/subsume/subsume/axioms/AtomicConcept" := E89.keep Kx96
  have Z101 : n0 ≤ h96.size := Nat.le_trans Z92 Kx96.1
  have C102 : CHr Z own_EL s.vm h0 T76.vm h96 := CHr.trans C93 (CHr.keep Kx96 (allS (Safe.exa hZ76.alike E89 (by decide) (by decide)) all0) C93.1)
  have K103 : Keep h0 h96 [a] := K94.trans Kx96 ((allS (Or.inl (by simp)) all0))
  have hk106 := Nat.le_trans hk95 Kx96.1
  show GoOn p e below (T96.setTop (mkF m 28 #[.val (.ref a), .val (.ref b1), .val (.ref b2)] [])) _
  refine GoOn.retH X96 hZ76 hS76 (hk106) hEL hh e96 C102 Bd.notSynchronized (v := none) (fun _ => rfl) (fun fs hr => X96.returnOut hx Bd.returns (hb hby own_d75) hr) (by decide) (by decide) ?_
  exact ⟨rfl, N97, K103, E100, F99, F98⟩
set_option maxRecDepth 65536 in
set_option maxHeartbeats 40000000 in
theorem rmKind (l : Launch) (Z : State) (a0 : Array Value) (hw : ∀ d ∈ tables_1, d.before a0 Z = true) (x : Int32) (kN kI kM : Addr) (h0 : Heap) (n0 : Nat) (Z0 : n0 ≤ h0.size) (SN : Sta Z Z.heap "com/example/subsume/subsume/axioms/AtomicConcept$Kind" "NAMED" "Lcom/example/subsume/subsume/axioms/AtomicConcept$Kind;" (.ref kN)) (SI : Sta Z Z.heap "com/example/subsume/subsume/axioms/AtomicConcept$Kind" "INTRODUCED" "Lcom/example/subsume/subsume/axioms/AtomicConcept$Kind;" (.ref kI)) (SM : Sta Z Z.heap "com/example/subsume/subsume/axioms/AtomicConcept$Kind" "NOMINAL" "Lcom/example/subsume/subsume/axioms/AtomicConcept$Kind;" (.ref kM)) (O0 : Old Z n0 h0) :
    MetFree l (⟨"com/example/subsume/subsume/axioms/AtomicConceptIsNominalPinLaw", "kindOf", "(I)Lcom/example/subsume/subsume/axioms/AtomicConcept$Kind;"⟩ : MethodName) (head1 [Jvm.Cond.code (⟨"com/example/subsume/subsume/axioms/AtomicConceptIsNominalPinLaw", "kindOf", "(I)Lcom/example/subsume/subsume/axioms/AtomicConcept$Kind;"⟩ : MethodName) method_2_code 1 (some (.object "com/example/subsume/subsume/axioms/AtomicConcept$Kind"))] ({ frames := 0, cells := 0, slots := 0, locals := 0 } : Room)) (fun aa U => aa = #[(.int x)] ∧ Z.Warmed39 U.vm ∧ U.heap = h0) (fun _ _ _ _ _ => True) (fun _ U o U' => ∃ v L, o = .returned v ∧ QSame (.ref (if x = 0 then kN else if x = 1 then kI else kM)) h0 n0 v U'.heap L ∧ FrameEnd U o U' L ({ frames := 0, cells := 0, slots := 0, locals := 0 } : Room).cells ({ frames := 0, cells := 0, slots := 0, locals := 0 } : Room).slots) := by
  refine MetFree.of_bodySF (plainFor_of_name own_pn77) hisR ?_
  intro p e s m args below meth c s₁ Bd hml0 hP hK
  obtain ⟨rfl, hZ, hh⟩ := hP
  have hx := Bd.exec
  have hby := Bd.bytes
  have hml : c.maxLocals = 1 := hml0
  have hown : s.vm.findClass "com/example/subsume/subsume/axioms/AtomicConceptIsNominalPinLaw" = some m.cls := findClass_of_methodNamed Bd.named
  have hnm := (name_of_methodNamed Bd.named Bd.method).1
  have X0 : Stand p l e ({ frames := 0, cells := 0, slots := 0, locals := 0 } : Room) s m #[(.int x)] below meth c s₁ [] 0 0 := Stand.of_body Bd
  have e0 : s₁.heap = h0 := by rw [← hh, Bd.state]; rfl
  have N0 := Fr.nil n0
  have K0 : Keep h0 h0 [] := Keep.refl _ _
  show GoOn p e below (s₁.setTop (entryFrame m #[(.int x)] 1)) (PostN s (QSame (.ref (if x = 0 then kN else if x = 1 then kI else kM)) h0 n0) ({ frames := 0, cells := 0, slots := 0, locals := 0 } : Room).cells ({ frames := 0, cells := 0, slots := 0, locals := 0 } : Room).slots)
  refine GoOn.step (fun tq kq => castTop (own_ef76 m x) kq) ?_
  show GoOn p e below (s₁.setTop (mkF m 0 #[.val (.int x)] [])) _
  refine GoOn.step (fun tq kq => XS.iloadN X0.here hx rfl (hb hby own_d78) rfl kq) ?_
  show GoOn p e below (s₁.setTop (mkF m 1 #[.val (.int x)] [(.int x)])) _
  by_cases hc107 : x = 0
  · skip
    refine GoOn.step (fun tq kq => XS.ifNo X0.here hx rfl (hb hby own_d79) rfl ((if0 _ _).trans (teq hc107).2) kq) ?_
    show GoOn p e below (s₁.setTop (mkF m 4 #[.val (.int x)] [])) _
    obtain ⟨T108, X108, e108, st108⟩ := getS2 X0 hx hZ hown (host := "") (Or.inl (hw _ (List.mem_of_getElem? (i := 5) rfl))) Via.refl e0 (SN.ext O0.2) (g := (mkF m 4 #[.val (.int x)] [])) rfl (hb hby own_d80)
    refine GoOn.step st108 ?_
    show GoOn p e below (T108.setTop (mkF m 7 #[.val (.int x)] [(.ref kN)])) _
    refine GoOn.ret X108 Bd.notSynchronized (v := some (.ref kN)) (fun h => by rw [Bd.returns] at h; cases h) (fun fs hr => retOut X108 hx Bd.returns rfl (Or.inr (Or.inr (Or.inr (Or.inr ⟨rfl, rfl, rfl⟩)))) (hb hby own_d81) hr) (by decide) (by decide) ?_
    rw [e108]
    exact ⟨by rw [if_pos hc107], N0, rfl⟩
  · skip
    refine GoOn.step (fun tq kq => XS.ifYes X0.here hx rfl (pc0 := 1) (pc' := 8) rfl (hb hby own_d79) rfl ((if0 _ _).trans (feq hc107).2) (by decide) (by decide) kq) ?_
    show GoOn p e below (s₁.setTop (mkF m 8 #[.val (.int x)] [])) _
    refine GoOn.step (fun tq kq => XS.iloadN X0.here hx rfl (hb hby own_d82) rfl kq) ?_
    show GoOn p e below (s₁.setTop (mkF m 9 #[.val (.int x)] [(.int x)])) _
    refine GoOn.step (fun tq kq => XS.iconst X0.here hx rfl (hb hby own_d83) kq) ?_
    show GoOn p e below (s₁.setTop (mkF m 10 #[.val (.int x)] [(.int (1 : Int32)), (.int x)])) _
    by_cases hc109 : x = (1 : Int32)
    · skip
      refine GoOn.step (fun tq kq => XS.icmpNo X0.here hx rfl (hb hby own_d84) rfl (teq hc109).2 kq) ?_
      show GoOn p e below (s₁.setTop (mkF m 13 #[.val (.int x)] [])) _
      obtain ⟨T110, X110, e110, st110⟩ := getS2 X0 hx hZ hown (host := "") (Or.inl (hw _ (List.mem_of_getElem? (i := 72) rfl))) Via.refl e0 (SI.ext O0.2) (g := (mkF m 13 #[.val (.int x)] [])) rfl (hb hby own_d85)
      refine GoOn.step st110 ?_
      show GoOn p e below (T110.setTop (mkF m 16 #[.val (.int x)] [(.ref kI)])) _
      refine GoOn.ret X110 Bd.notSynchronized (v := some (.ref kI)) (fun h => by rw [Bd.returns] at h; cases h) (fun fs hr => retOut X110 hx Bd.returns rfl (Or.inr (Or.inr (Or.inr (Or.inr ⟨rfl, rfl, rfl⟩)))) (hb hby own_d86) hr) (by decide) (by decide) ?_
      rw [e110]
      exact ⟨by rw [if_neg hc107, if_pos hc109], N0, rfl⟩
    · skip
      refine GoOn.step (fun tq kq => XS.icmpYes X0.here hx rfl (pc0 := 10) (pc' := 17) rfl (hb hby own_d84) rfl (feq hc109).2 (by decide) (by decide) kq) ?_
      show GoOn p e below (s₁.setTop (mkF m 17 #[.val (.int x)] [])) _
      obtain ⟨T111, X111, e111, st111⟩ := getS2 X0 hx hZ hown (host := "") (Or.inl (hw _ (List.mem_of_getElem? (i := 89) rfl))) Via.refl e0 (SM.ext O0.2) (g := (mkF m 17 #[.val (.int x)] [])) rfl (hb hby own_d87)
      refine GoOn.step st111 ?_
      show GoOn p e below (T111.setTop (mkF m 20 #[.val (.int x)] [(.ref kM)])) _
      refine GoOn.ret X111 Bd.notSynchronized (v := some (.ref kM)) (fun h => by rw [Bd.returns] at h; cases h) (fun fs hr => retOut X111 hx Bd.returns rfl (Or.inr (Or.inr (Or.inr (Or.inr ⟨rfl, rfl, rfl⟩)))) (hb hby own_d88) hr) (by decide) (by decide) ?_
      rw [e111]
      exact ⟨by rw [if_neg hc107, if_neg hc109], N0, rfl⟩
def QName (h0 : Heap) (n0 : Nat) (v : Option Value) (h : Heap) (L : List Loc) : Prop := ∃ a : Addr, v = some (.ref a) ∧ Fr n0 L ∧ Keep h0 h []
set_option maxRecDepth 65536 in
set_option maxHeartbeats 40000000 in
theorem rmName (l : Launch) (Z : State) (a0 : Array Value) (hw : ∀ d ∈ tables_1, d.before a0 Z = true) (s0 c0 c1 G1 : Int32) (h0 : Heap) (n0 : Nat) (Z0 : n0 ≤ h0.size) (SC : Sta Z Z.heap "java/lang/String" "COMPACT_STRINGS" "Z" (.int G1)) (PC : ¬ G1 = (0 : Int32)) (O0 : Old Z n0 h0) :
    MetFree l (⟨"com/example/subsume/subsume/axioms/AtomicConceptIsNominalPinLaw", "nameOf", "(III)Ljava/lang/String;"⟩ : MethodName) (head1 [Jvm.Cond.code (⟨"com/example/subsume/subsume/axioms/AtomicConceptIsNominalPinLaw", "nameOf", "(III)Ljava/lang/String;"⟩ : MethodName) method_3_code 5 (some (.object "java/lang/String"))] ({ frames := 4, cells := 3, slots := 8, locals := 66 } : Room)) (fun aa U => aa = #[(.int s0), (.int c0), (.int c1)] ∧ Z.Warmed39 U.vm ∧ U.heap = h0 ∧ CHv Z own_EL U.vm h0) (fun _ _ _ _ _ => True) (fun _ U o U' => ∃ v L, o = .returned v ∧ QName h0 n0 v U'.heap L ∧ CHr Z own_EL U.vm U.heap U'.vm U'.heap ∧ ReturnedEndW U o U' L ({ frames := 4, cells := 3, slots := 8, locals := 66 } : Room).cells ({ frames := 4, cells := 3, slots := 8, locals := 66 } : Room).slots) := by
  refine MetFree.of_bodySF (plainFor_of_name own_pn77) hisR ?_
  intro p e s m args below meth c s₁ Bd hml0 hP hK
  obtain ⟨rfl, hZ, hh, hCH⟩ := hP
  have hx := Bd.exec
  have hby := Bd.bytes
  have hml : c.maxLocals = 5 := hml0
  have hown : s.vm.findClass "com/example/subsume/subsume/axioms/AtomicConceptIsNominalPinLaw" = some m.cls := findClass_of_methodNamed Bd.named
  have hnm := (name_of_methodNamed Bd.named Bd.method).1
  have X0 : Stand p l e ({ frames := 4, cells := 3, slots := 8, locals := 66 } : Room) s m #[(.int s0), (.int c0), (.int c1)] below meth c s₁ [] 0 0 := Stand.of_body Bd
  have e0 : s₁.heap = h0 := by rw [← hh, Bd.state]; rfl
  have N0 := Fr.nil n0
  have K0 : Keep h0 h0 [] := Keep.refl _ _
  show GoOn p e below (s₁.setTop (entryFrame m #[(.int s0), (.int c0), (.int c1)] 5)) (PostH Z own_EL s (QName h0 n0) ({ frames := 4, cells := 3, slots := 8, locals := 66 } : Room).cells ({ frames := 4, cells := 3, slots := 8, locals := 66 } : Room).slots)
  refine GoOn.step (fun tq kq => castTop (own_ef89 m s0 c0 c1) kq) ?_
  have hS0 : s.Since s.vm h0.size := (State.WarmedH.refl s).since _
  have hk0 : h0.size ≤ h0.size := Nat.le_refl _
  replace X0 : Stand p l e ({ frames := 4, cells := 3, slots := 8, locals := 66 } : Room) (s.setVm s.vm) m #[(.int s0), (.int c0), (.int c1)] below meth c s₁ [] 0 0 := X0
  replace hZ : Z.Warmed39 (s.setVm s.vm).vm := hZ
  replace hown : (s.setVm s.vm).vm.findClass "com/example/subsume/subsume/axioms/AtomicConceptIsNominalPinLaw" = some m.cls := hown
  have C0 : CHr Z own_EL s.vm h0 s.vm h0 := CHr.refl hCH
  have hEL : EW Z a0 own_EL := own_EW hw
  have wS : ∀ d ∈ Bundle.stringAtoms, d.before a0 Z = true := fun d hd => hw d (own_sa d hd)
  show GoOn p e below (s₁.setTop (mkF m 0 #[.val (.int s0), .val (.int c0), .val (.int c1), .unset, .unset] [])) _
  have hws : ∀ d ∈ StrChars.Road.words, d.before a0 Z = true := fun d hd => hw d ((by decide +kernel : ∀ d ∈ StrChars.Road.words, d ∈ tables_1) d hd)
  refine GoOn.step (fun tq kq => XS.iloadN X0.here hx rfl (hb hby own_d90) rfl kq) ?_
  show GoOn p e below (s₁.setTop (mkF m 1 #[.val (.int s0), .val (.int c0), .val (.int c1), .unset, .unset] [(.int s0)])) _
  refine GoOn.step (fun tq kq => XS.iconst X0.here hx rfl (hb hby own_d91) kq) ?_
  show GoOn p e below (s₁.setTop (mkF m 2 #[.val (.int s0), .val (.int c0), .val (.int c1), .unset, .unset] [(.int (3 : Int32)), (.int s0)])) _
  refine GoOn.step (fun tq kq => XS.iand X0.here hx rfl (hb hby own_d92) rfl kq) ?_
  show GoOn p e below (s₁.setTop (mkF m 3 #[.val (.int s0), .val (.int c0), .val (.int c1), .unset, .unset] [(.int (s0 &&& (3 : Int32)))])) _
  refine GoOn.step (fun tq kq => XS.istoreN X0.here hx rfl (hb hby own_d93) rfl (l' := #[.val (.int s0), .val (.int c0), .val (.int c1), .val (.int (s0 &&& (3 : Int32))), .unset]) rfl kq) ?_
  show GoOn p e below (s₁.setTop (mkF m 4 #[.val (.int s0), .val (.int c0), .val (.int c1), .val (.int (s0 &&& (3 : Int32))), .unset] [])) _
  refine GoOn.step (fun tq kq => XS.iloadN X0.here hx rfl (hb hby own_d94) rfl kq) ?_
  show GoOn p e below (s₁.setTop (mkF m 5 #[.val (.int s0), .val (.int c0), .val (.int c1), .val (.int (s0 &&& (3 : Int32))), .unset] [(.int (s0 &&& (3 : Int32)))])) _
  by_cases hc112 : (s0 &&& (3 : Int32)) = 0
  · skip
    refine GoOn.step (fun tq kq => XS.ifNo X0.here hx rfl (hb hby own_d95) rfl ((if0 _ _).trans (teq hc112).2) kq) ?_
    show GoOn p e below (s₁.setTop (mkF m 8 #[.val (.int s0), .val (.int c0), .val (.int c1), .val (.int (s0 &&& (3 : Int32))), .unset] [])) _
    obtain ⟨lt113, T113, h113, k1113, X113, e113, Ex113, hS113, hk113, hZ113, hown113, Cn113, Lt113, st113⟩ := ldcOH X0 hx hZ hown (hw _ (List.mem_of_getElem? (i := 74) rfl)) wS e0 hS0 hk0 hEL C0.1 (g := (mkF m 8 #[.val (.int s0), .val (.int c0), .val (.int c1), .val (.int (s0 &&& (3 : Int32))), .unset] [])) rfl (hb hby own_d96) (n := 0) (by decide) (by decide) (by decide) (by decide)
    have Kx113 : Keep h0 h113 [] := (Keep.refl _ _).ext Ex113
    refine GoOn.step st113 ?_
    have O114 : Old Z n0 h113 := O0.keep Kx113 all0
    have Z115 : n0 ≤ h113.size := Nat.le_trans Z0 Kx113.1
    have K116 : Keep h0 h113 [] := K0.trans Kx113 all0
    have C117 : CHr Z own_EL s.vm h0 T113.vm h113 := CHr.trans C0 Cn113
    show GoOn p e below (T113.setTop (mkF m 10 #[.val (.int s0), .val (.int c0), .val (.int c1), .val (.int (s0 &&& (3 : Int32))), .unset] [(.ref lt113)])) _
    refine GoOn.retH X113 hZ113 hS113 (hk113) hEL hh e113 C117 Bd.notSynchronized (v := some (.ref lt113)) (fun h => by rw [Bd.returns] at h; cases h) (fun fs hr => retOut X113 hx Bd.returns rfl (Or.inr (Or.inr (Or.inr (Or.inr ⟨rfl, rfl, rfl⟩)))) (hb hby own_d97) hr) (by decide) (by decide) ?_
    exact ⟨_, rfl, N0, K116⟩
  · skip
    refine GoOn.step (fun tq kq => XS.ifYes X0.here hx rfl (pc0 := 5) (pc' := 11) rfl (hb hby own_d95) rfl ((if0 _ _).trans (feq hc112).2) (by decide) (by decide) kq) ?_
    show GoOn p e below (s₁.setTop (mkF m 11 #[.val (.int s0), .val (.int c0), .val (.int c1), .val (.int (s0 &&& (3 : Int32))), .unset] [])) _
    refine GoOn.step (fun tq kq => XS.iloadN X0.here hx rfl (hb hby own_d98) rfl kq) ?_
    show GoOn p e below (s₁.setTop (mkF m 12 #[.val (.int s0), .val (.int c0), .val (.int c1), .val (.int (s0 &&& (3 : Int32))), .unset] [(.int (s0 &&& (3 : Int32)))])) _
    refine GoOn.step (fun tq kq => XS.iconst X0.here hx rfl (hb hby own_d99) kq) ?_
    show GoOn p e below (s₁.setTop (mkF m 13 #[.val (.int s0), .val (.int c0), .val (.int c1), .val (.int (s0 &&& (3 : Int32))), .unset] [(.int (1 : Int32)), (.int (s0 &&& (3 : Int32)))])) _
    by_cases hc118 : (s0 &&& (3 : Int32)) = (1 : Int32)
    · skip
      refine GoOn.step (fun tq kq => XS.icmpNo X0.here hx rfl (hb hby own_d100) rfl (teq hc118).2 kq) ?_
      show GoOn p e below (s₁.setTop (mkF m 16 #[.val (.int s0), .val (.int c0), .val (.int c1), .val (.int (s0 &&& (3 : Int32))), .unset] [])) _
      refine GoOn.step (fun tq kq => XS.iloadN X0.here hx rfl (hb hby own_d101) rfl kq) ?_
      show GoOn p e below (s₁.setTop (mkF m 17 #[.val (.int s0), .val (.int c0), .val (.int c1), .val (.int (s0 &&& (3 : Int32))), .unset] [(.int c0)])) _
      refine GoOn.step (fun tq kq => XS.sipush X0.here hx rfl (hb hby own_d102) kq) ?_
      show GoOn p e below (s₁.setTop (mkF m 20 #[.val (.int s0), .val (.int c0), .val (.int c1), .val (.int (s0 &&& (3 : Int32))), .unset] [(.int (255 : Int32)), (.int c0)])) _
      refine GoOn.step (fun tq kq => XS.iand X0.here hx rfl (hb hby own_d103) rfl kq) ?_
      show GoOn p e below (s₁.setTop (mkF m 21 #[.val (.int s0), .val (.int c0), .val (.int c1), .val (.int (s0 &&& (3 : Int32))), .unset] [(.int (c0 &&& (255 : Int32)))])) _
      refine GoOn.step (fun tq kq => XS.i2c X0.here hx rfl (hb hby own_d104) rfl kq) ?_
      show GoOn p e below (s₁.setTop (mkF m 22 #[.val (.int s0), .val (.int c0), .val (.int c1), .val (.int (s0 &&& (3 : Int32))), .unset] [(.int (((c0 &&& (255 : Int32))).toUInt32.toUInt16.toUInt32.toInt32))])) _
      have hcx := and255_chars c0
      rw [nar_char2] at hcx
      obtain ⟨_, _, ⟨T119, L119, k119, n119⟩, -, X119, ⟨Lc119, hQ119, l119, y119, z119⟩, st119⟩ := Jvm.LawKit.callS X0 hx (y := (⟨"java/lang/String", "valueOf", "(C)Ljava/lang/String;"⟩ : MethodName)) hown (mvT hZ (hw _ (List.mem_of_getElem? (i := 75) rfl))) (mvT hZ (hw _ (List.mem_of_getElem? (i := 76) rfl))) (mvT hZ (hw _ (List.mem_of_getElem? (i := 14) rfl))) (mvT hZ (hw _ (List.mem_of_getElem? (i := 77) rfl))) (by decide) (backOf (W := 0) (rmValueOfC l Z a0 hw (((c0 &&& (255 : Int32))).toUInt32.toUInt16.toUInt32.toInt32) G1 h0 n0 Z0 hcx.1 hcx.2 SC PC O0) hZ (hw _ (List.mem_of_getElem? (i := 77) rfl)) (hw _ (List.mem_of_getElem? (i := 14) rfl)) (by decide) (by decide)) (g := (mkF m 22 #[.val (.int s0), .val (.int c0), .val (.int c1), .val (.int (s0 &&& (3 : Int32))), .unset] [(.int (((c0 &&& (255 : Int32))).toUInt32.toUInt16.toUInt32.toInt32))])) rfl (by rw [hml]; rfl) (argsL := [(.int (((c0 &&& (255 : Int32))).toUInt32.toUInt16.toUInt32.toInt32))]) (rest := []) (lenOf own_pd106 rfl) rfl (by show 2 * 0 + _ ≤ _; exact Nat.le_of_eq rfl) (hb hby own_d105) (fun _ _ => ⟨rfl, e0, (by decide : 0 + 2 ≤ _), (by decide : 0 + 5 ≤ _)⟩)
      dsimp only [Pt.U, Pt.locs, Pt.cells, Pt.slots] at X119 l119 y119 z119 st119 hQ119
      subst l119 y119 z119
      obtain ⟨sa119, rfl, N119, K119, ge119, S119⟩ := hQ119
      refine GoOn.step st119 ?_
      have N120 := Fr.app N0 N119
      have O121 : Old Z n0 T119.heap := O0.keep K119 all0
      have Z122 : n0 ≤ T119.heap.size := Nat.le_trans Z0 K119.1
      have K123 : Keep h0 T119.heap [] := K0.trans K119 (all0)
      have C124 : CHr Z own_EL s.vm h0 s.vm T119.heap := CHr.trans C0 (CHr.keep K119 all0 C0.1)
      have hk125 := Nat.le_trans hk0 K119.1
      show GoOn p e below (T119.setTop (mkF m 25 #[.val (.int s0), .val (.int c0), .val (.int c1), .val (.int (s0 &&& (3 : Int32))), .unset] [(.ref sa119)])) _
      refine GoOn.retH X119 hZ hS0 (hk125) hEL hh rfl C124 Bd.notSynchronized (v := some (.ref sa119)) (fun h => by rw [Bd.returns] at h; cases h) (fun fs hr => retOut X119 hx Bd.returns rfl (Or.inr (Or.inr (Or.inr (Or.inr ⟨rfl, rfl, rfl⟩)))) (hb hby own_d107) hr) (by decide) (by decide) ?_
      exact ⟨_, rfl, N120, K123⟩
    · skip
      refine GoOn.step (fun tq kq => XS.icmpYes X0.here hx rfl (pc0 := 13) (pc' := 26) rfl (hb hby own_d100) rfl (feq hc118).2 (by decide) (by decide) kq) ?_
      show GoOn p e below (s₁.setTop (mkF m 26 #[.val (.int s0), .val (.int c0), .val (.int c1), .val (.int (s0 &&& (3 : Int32))), .unset] [])) _
      refine GoOn.step (fun tq kq => XS.iconst X0.here hx rfl (hb hby own_d108) kq) ?_
      show GoOn p e below (s₁.setTop (mkF m 27 #[.val (.int s0), .val (.int c0), .val (.int c1), .val (.int (s0 &&& (3 : Int32))), .unset] [(.int (2 : Int32))])) _
      obtain ⟨T126, h126, k126, X126, e126, Ex126, A126, st126⟩ := newP X0 hx hZ (hw _ (List.mem_of_getElem? (i := 11) rfl)) e0 (g := (mkF m 27 #[.val (.int s0), .val (.int c0), .val (.int c1), .val (.int (s0 &&& (3 : Int32))), .unset] [(.int (2 : Int32))])) rfl (hb hby own_d109) rfl (by decide) (cap := 2) (by decide) (by decide) (by decide) (by decide)
      obtain ⟨ca, g126⟩ : ∃ z, z = h0.size := ⟨_, rfl⟩
      rw [← g126] at A126 st126
      have gn127 : n0 ≤ ca := Nat.le_trans Z0 (Nat.le_of_eq g126.symm)
      have sz128 : h0.size ≤ ca := Nat.le_trans K0.1 (Nat.le_of_eq g126.symm)
      have Kx126 : Keep h0 h126 [] := (Keep.refl _ _).ext Ex126
      refine GoOn.step st126 ?_
      have O129 : Old Z n0 h126 := O0.keep Kx126 all0
      have Z130 : n0 ≤ h126.size := Nat.le_trans Z0 Kx126.1
      have K131 : Keep h0 h126 [] := K0.trans Kx126 (all0)
      have C132 : CHr Z own_EL s.vm h0 s.vm h126 := CHr.trans C0 (CHr.keep Kx126 all0 C0.1)
      have hk133 := Nat.le_trans hk0 Kx126.1
      have V134 : Arv Z h126 ca k126 .char (2 : Int32) [] (.int (0 : Int32)) := Arv.new A126 (by decide)
      show GoOn p e below (T126.setTop (mkF m 29 #[.val (.int s0), .val (.int c0), .val (.int c1), .val (.int (s0 &&& (3 : Int32))), .unset] [(.ref ca)])) _
      refine GoOn.step (fun tq kq => XS.astore X126.here hx rfl (hb hby own_d110) rfl rfl (l' := #[.val (.int s0), .val (.int c0), .val (.int c1), .val (.int (s0 &&& (3 : Int32))), .val (.ref ca)]) rfl kq) ?_
      show GoOn p e below (T126.setTop (mkF m 31 #[.val (.int s0), .val (.int c0), .val (.int c1), .val (.int (s0 &&& (3 : Int32))), .val (.ref ca)] [])) _
      refine GoOn.step (fun tq kq => XS.aload X126.here hx rfl (hb hby own_d111) rfl rfl kq) ?_
      show GoOn p e below (T126.setTop (mkF m 33 #[.val (.int s0), .val (.int c0), .val (.int c1), .val (.int (s0 &&& (3 : Int32))), .val (.ref ca)] [(.ref ca)])) _
      refine GoOn.step (fun tq kq => XS.iconst X126.here hx rfl (hb hby own_d112) kq) ?_
      show GoOn p e below (T126.setTop (mkF m 34 #[.val (.int s0), .val (.int c0), .val (.int c1), .val (.int (s0 &&& (3 : Int32))), .val (.ref ca)] [(.int (0 : Int32)), (.ref ca)])) _
      refine GoOn.step (fun tq kq => XS.iloadN X126.here hx rfl (hb hby own_d113) rfl kq) ?_
      show GoOn p e below (T126.setTop (mkF m 35 #[.val (.int s0), .val (.int c0), .val (.int c1), .val (.int (s0 &&& (3 : Int32))), .val (.ref ca)] [(.int c0), (.int (0 : Int32)), (.ref ca)])) _
      refine GoOn.step (fun tq kq => XS.sipush X126.here hx rfl (hb hby own_d114) kq) ?_
      show GoOn p e below (T126.setTop (mkF m 38 #[.val (.int s0), .val (.int c0), .val (.int c1), .val (.int (s0 &&& (3 : Int32))), .val (.ref ca)] [(.int (255 : Int32)), (.int c0), (.int (0 : Int32)), (.ref ca)])) _
      refine GoOn.step (fun tq kq => XS.iand X126.here hx rfl (hb hby own_d115) rfl kq) ?_
      show GoOn p e below (T126.setTop (mkF m 39 #[.val (.int s0), .val (.int c0), .val (.int c1), .val (.int (s0 &&& (3 : Int32))), .val (.ref ca)] [(.int (c0 &&& (255 : Int32))), (.int (0 : Int32)), (.ref ca)])) _
      refine GoOn.step (fun tq kq => XS.i2c X126.here hx rfl (hb hby own_d116) rfl kq) ?_
      show GoOn p e below (T126.setTop (mkF m 40 #[.val (.int s0), .val (.int c0), .val (.int c1), .val (.int (s0 &&& (3 : Int32))), .val (.ref ca)] [(.int (((c0 &&& (255 : Int32))).toUInt32.toUInt16.toUInt32.toInt32)), (.int (0 : Int32)), (.ref ca)])) _
      have V136 : Arv Z h126 ca k126 .char (2 : Int32) [(.int (0 : Int32))] (.int (0 : Int32)) := V134.pad (pad_rep [] (.int (0 : Int32)) 1)
      obtain ⟨cq137, Aq137, qq137, Sq137, Mq137, Hq137, Uq137⟩ := id V136
      obtain ⟨T135, h135, X135, e135, W135, st135⟩ := stC X126 hx hZ e126 Aq137 (j := (0 : Int32)) (inb_of Sq137 ⟨(by decide : ¬ ((0 : Int32) < (0 : Int32))), (by decide : (0 : Int32) < (2 : Int32))⟩) (g := (mkF m 40 #[.val (.int s0), .val (.int c0), .val (.int c1), .val (.int (s0 &&& (3 : Int32))), .val (.ref ca)] [(.int (((c0 &&& (255 : Int32))).toUInt32.toUInt16.toUInt32.toInt32)), (.int (0 : Int32)), (.ref ca)])) rfl rfl (hb hby own_d117)
      have N138 := Fr.snoc X135 N0 gn127
      have V139 : Arv Z h135 ca k126 .char (2 : Int32) [(.int (nar .char (((c0 &&& (255 : Int32))).toUInt32.toUInt16.toUInt32.toInt32)))] (.int (0 : Int32)) := Arv.set Aq137 qq137 Sq137 Mq137 Hq137 Uq137 (fits_nar_char _) W135 0 rfl (Nat.le_of_ble_eq_true rfl)
      have Kx135 : Keep h126 h135 [ca] := Keep.of_wr W135
      refine GoOn.step st135 ?_
      have O140 : Old Z n0 h135 := O129.keep Kx135 (allS gn127 all0)
      have Z141 : n0 ≤ h135.size := Nat.le_trans Z130 Kx135.1
      have K142 : Keep h0 h135 [] := K131.trans Kx135 ((allS (Or.inr sz128) all0))
      have C143 : CHr Z own_EL s.vm h0 s.vm h135 := CHr.trans C132 (CHr.keep Kx135 (allS (Safe.arv hZ.alike V134 (by decide)) all0) C132.1)
      have hk144 := Nat.le_trans hk133 Kx135.1
      show GoOn p e below (T135.setTop (mkF m 41 #[.val (.int s0), .val (.int c0), .val (.int c1), .val (.int (s0 &&& (3 : Int32))), .val (.ref ca)] [])) _
      refine GoOn.step (fun tq kq => XS.aload X135.here hx rfl (hb hby own_d118) rfl rfl kq) ?_
      show GoOn p e below (T135.setTop (mkF m 43 #[.val (.int s0), .val (.int c0), .val (.int c1), .val (.int (s0 &&& (3 : Int32))), .val (.ref ca)] [(.ref ca)])) _
      refine GoOn.step (fun tq kq => XS.iconst X135.here hx rfl (hb hby own_d119) kq) ?_
      show GoOn p e below (T135.setTop (mkF m 44 #[.val (.int s0), .val (.int c0), .val (.int c1), .val (.int (s0 &&& (3 : Int32))), .val (.ref ca)] [(.int (1 : Int32)), (.ref ca)])) _
      refine GoOn.step (fun tq kq => XS.iloadN X135.here hx rfl (hb hby own_d120) rfl kq) ?_
      show GoOn p e below (T135.setTop (mkF m 45 #[.val (.int s0), .val (.int c0), .val (.int c1), .val (.int (s0 &&& (3 : Int32))), .val (.ref ca)] [(.int c1), (.int (1 : Int32)), (.ref ca)])) _
      refine GoOn.step (fun tq kq => XS.sipush X135.here hx rfl (hb hby own_d121) kq) ?_
      show GoOn p e below (T135.setTop (mkF m 48 #[.val (.int s0), .val (.int c0), .val (.int c1), .val (.int (s0 &&& (3 : Int32))), .val (.ref ca)] [(.int (255 : Int32)), (.int c1), (.int (1 : Int32)), (.ref ca)])) _
      refine GoOn.step (fun tq kq => XS.iand X135.here hx rfl (hb hby own_d122) rfl kq) ?_
      show GoOn p e below (T135.setTop (mkF m 49 #[.val (.int s0), .val (.int c0), .val (.int c1), .val (.int (s0 &&& (3 : Int32))), .val (.ref ca)] [(.int (c1 &&& (255 : Int32))), (.int (1 : Int32)), (.ref ca)])) _
      refine GoOn.step (fun tq kq => XS.i2c X135.here hx rfl (hb hby own_d123) rfl kq) ?_
      show GoOn p e below (T135.setTop (mkF m 50 #[.val (.int s0), .val (.int c0), .val (.int c1), .val (.int (s0 &&& (3 : Int32))), .val (.ref ca)] [(.int (((c1 &&& (255 : Int32))).toUInt32.toUInt16.toUInt32.toInt32)), (.int (1 : Int32)), (.ref ca)])) _
      have V146 : Arv Z h135 ca k126 .char (2 : Int32) [(.int (nar .char (((c0 &&& (255 : Int32))).toUInt32.toUInt16.toUInt32.toInt32))), (.int (0 : Int32))] (.int (0 : Int32)) := V139.pad (pad_rep [(.int (nar .char (((c0 &&& (255 : Int32))).toUInt32.toUInt16.toUInt32.toInt32)))] (.int (0 : Int32)) 1)
      obtain ⟨cq147, Aq147, qq147, Sq147, Mq147, Hq147, Uq147⟩ := id V146
      obtain ⟨T145, h145, X145, e145, W145, st145⟩ := stC X135 hx hZ e135 Aq147 (j := (1 : Int32)) (inb_of Sq147 ⟨(by decide : ¬ ((1 : Int32) < (0 : Int32))), (by decide : (1 : Int32) < (2 : Int32))⟩) (g := (mkF m 50 #[.val (.int s0), .val (.int c0), .val (.int c1), .val (.int (s0 &&& (3 : Int32))), .val (.ref ca)] [(.int (((c1 &&& (255 : Int32))).toUInt32.toUInt16.toUInt32.toInt32)), (.int (1 : Int32)), (.ref ca)])) rfl rfl (hb hby own_d124)
      have N148 := Fr.snoc X145 N138 gn127
      have V149 : Arv Z h145 ca k126 .char (2 : Int32) [(.int (nar .char (((c0 &&& (255 : Int32))).toUInt32.toUInt16.toUInt32.toInt32))), (.int (nar .char (((c1 &&& (255 : Int32))).toUInt32.toUInt16.toUInt32.toInt32)))] (.int (0 : Int32)) := Arv.set Aq147 qq147 Sq147 Mq147 Hq147 Uq147 (fits_nar_char _) W145 1 rfl (Nat.le_of_ble_eq_true rfl)
      have Kx145 : Keep h135 h145 [ca] := Keep.of_wr W145
      refine GoOn.step st145 ?_
      have O150 : Old Z n0 h145 := O140.keep Kx145 (allS gn127 all0)
      have Z151 : n0 ≤ h145.size := Nat.le_trans Z141 Kx145.1
      have K152 : Keep h0 h145 [] := K142.trans Kx145 ((allS (Or.inr sz128) all0))
      have C153 : CHr Z own_EL s.vm h0 s.vm h145 := CHr.trans C143 (CHr.keep Kx145 (allS (Safe.arv hZ.alike V139 (by decide)) all0) C143.1)
      have hk154 := Nat.le_trans hk144 Kx145.1
      show GoOn p e below (T145.setTop (mkF m 51 #[.val (.int s0), .val (.int c0), .val (.int c1), .val (.int (s0 &&& (3 : Int32))), .val (.ref ca)] [])) _
      obtain ⟨T155, h155, X155, e155, Ex155, A155, Df155, -, st155⟩ := newO X145 hx hZ hown (hw _ (List.mem_of_getElem? (i := 12) rfl)) (hw _ (List.mem_of_getElem? (i := 13) rfl)) (hw _ (List.mem_of_getElem? (i := 14) rfl)) e145 (g := (mkF m 51 #[.val (.int s0), .val (.int c0), .val (.int c1), .val (.int (s0 &&& (3 : Int32))), .val (.ref ca)] [])) rfl (hb hby own_d125) (by decide) (by decide)
      obtain ⟨sb, g155⟩ : ∃ z, z = h145.size := ⟨_, rfl⟩
      rw [← g155] at A155 Df155 st155
      have gn156 : n0 ≤ sb := Nat.le_trans Z151 (Nat.le_of_eq g155.symm)
      have sz157 : h0.size ≤ sb := Nat.le_trans K152.1 (Nat.le_of_eq g155.symm)
      have ne158 : ca ≠ sb := Nat.ne_of_lt (Nat.lt_of_lt_of_le V149.lt (Nat.le_of_eq g155.symm))
      have Kx155 : Keep h145 h155 [] := (Keep.refl _ _).ext Ex155
      refine GoOn.step st155 ?_
      have O159 : Old Z n0 h155 := O150.keep Kx155 all0
      have Z160 : n0 ≤ h155.size := Nat.le_trans Z151 Kx155.1
      have K161 : Keep h0 h155 [] := K152.trans Kx155 (all0)
      have C162 : CHr Z own_EL s.vm h0 s.vm h155 := CHr.trans C153 (CHr.keep Kx155 all0 C153.1)
      have V163 : Arv Z h155 ca k126 .char (2 : Int32) [(.int (nar .char (((c0 &&& (255 : Int32))).toUInt32.toUInt16.toUInt32.toInt32))), (.int (nar .char (((c1 &&& (255 : Int32))).toUInt32.toUInt16.toUInt32.toInt32)))] (.int (0 : Int32)) := V149.keep Kx155 nin0
      have hk164 := Nat.le_trans hk154 Kx155.1
      have F165 : Fld Z h155 sb "java/lang/String" "coder" "B" (.int (0 : Int32)) := Df155 (Or.inr (hw _ (List.mem_of_getElem? (i := 38) rfl))) (ty := .byte) (by decide)
      have F166 : Fld Z h155 sb "java/lang/String" "value" "[B" .null := Df155 (Or.inr (hw _ (List.mem_of_getElem? (i := 40) rfl))) (ty := (.array .byte)) (by decide)
      show GoOn p e below (T155.setTop (mkF m 54 #[.val (.int s0), .val (.int c0), .val (.int c1), .val (.int (s0 &&& (3 : Int32))), .val (.ref ca)] [(.ref sb)])) _
      refine GoOn.step (fun tq kq => XS.dup X155.here hx rfl (hb hby own_d126) rfl rfl kq) ?_
      show GoOn p e below (T155.setTop (mkF m 55 #[.val (.int s0), .val (.int c0), .val (.int c1), .val (.int (s0 &&& (3 : Int32))), .val (.ref ca)] [(.ref sb), (.ref sb)])) _
      refine GoOn.step (fun tq kq => XS.aload X155.here hx rfl (hb hby own_d127) rfl rfl kq) ?_
      show GoOn p e below (T155.setTop (mkF m 57 #[.val (.int s0), .val (.int c0), .val (.int c1), .val (.int (s0 &&& (3 : Int32))), .val (.ref ca)] [(.ref ca), (.ref sb), (.ref sb)])) _
      have hp167 : ∀ c ∈ ([(nar .char (((c0 &&& (255 : Int32))).toUInt32.toUInt16.toUInt32.toInt32)), (nar .char (((c1 &&& (255 : Int32))).toUInt32.toUInt16.toUInt32.toInt32))] : List Int32), ¬ c < 0 ∧ ¬ (255 : Int32) < c := by
        intro c hc
        simp only [List.mem_cons, List.not_mem_nil, or_false] at hc
        rcases hc with rfl | rfl
        · exact and255_chars _
        · exact and255_chars _
      obtain ⟨_, _, ⟨T168, L168, k168, n168⟩, -, X168, ⟨Lc168, hQ168, l168, y168, z168⟩, st168⟩ := X155.specialBack hx (y := (⟨"java/lang/String", "<init>", "([C)V"⟩ : MethodName)) rfl hown (mvT hZ (hw _ (List.mem_of_getElem? (i := 15) rfl))) (mvT hZ (hw _ (List.mem_of_getElem? (i := 16) rfl))) (mvT hZ (hw _ (List.mem_of_getElem? (i := 17) rfl))) (by decide) (StrChars.Road.backV (W := 1) hZ hws (kI := 4) (hw _ (List.mem_of_getElem? (i := 13) rfl)) (cs := ([(nar .char (((c0 &&& (255 : Int32))).toUInt32.toUInt16.toUInt32.toInt32)), (nar .char (((c1 &&& (255 : Int32))).toUInt32.toUInt16.toUInt32.toInt32))] : List Int32)) (bs := ([(nar .char (((c0 &&& (255 : Int32))).toUInt32.toUInt16.toUInt32.toInt32)), (nar .char (((c1 &&& (255 : Int32))).toUInt32.toUInt16.toUInt32.toInt32))] : List Int32).map (fun c => c.toInt8.toInt32)) (n := 2) gn156 Z160 A155 F166 F165 V163 (SC.ext O159.2) PC rfl rfl (by decide) (by decide) hp167 rfl (by decide) (by decide)) (g := (mkF m 57 #[.val (.int s0), .val (.int c0), .val (.int c1), .val (.int (s0 &&& (3 : Int32))), .val (.ref ca)] [(.ref ca), (.ref sb), (.ref sb)])) rfl (by rw [hml]; rfl) (Steps.refl _) (a := sb) (argsL := [(.ref ca)]) (rest := [(.ref sb)]) (lenOf own_pd129 rfl) rfl (by show 2 * 0 + _ ≤ _; exact Nat.le_of_eq rfl) (hb hby own_d128) (fun _ _ => ⟨rfl, e155, (by decide : 2 + 1 ≤ _), (by decide : 6 + 2 ≤ _)⟩)
      dsimp only [Pt.U, Pt.locs, Pt.cells, Pt.slots] at X168 l168 y168 z168 st168 hQ168
      subst l168 y168 z168
      obtain ⟨rfl, N168, K168, E168, Fc168, t168, kb168, u168, v168, w168, Fv168, Va168⟩ := hQ168
      refine GoOn.trans st168 ?_
      have N169 := Fr.app N148 N168
      have O170 : Old Z n0 T168.heap := O159.keep K168 (allS gn156 all0)
      have Z171 : n0 ≤ T168.heap.size := Nat.le_trans Z160 K168.1
      have K172 : Keep h0 T168.heap [] := K161.trans K168 ((allS (Or.inr sz157) all0))
      have C173 : CHr Z own_EL s.vm h0 s.vm T168.heap := CHr.trans C162 (CHr.keep K168 (allS (Safe.ofNull hZ.alike A155 F166) all0) C162.1)
      have V174 : Arv Z T168.heap ca k126 .char (2 : Int32) [(.int (nar .char (((c0 &&& (255 : Int32))).toUInt32.toUInt16.toUInt32.toInt32))), (.int (nar .char (((c1 &&& (255 : Int32))).toUInt32.toUInt16.toUInt32.toInt32)))] (.int (0 : Int32)) := V163.keep K168 (ninS ne158 nin0)
      have E175 : Exa Z T168.heap sb "java/lang/String" := A155.keep K168
      have hk178 := Nat.le_trans hk164 K168.1
      show GoOn p e below (T168.setTop (mkF m 60 #[.val (.int s0), .val (.int c0), .val (.int c1), .val (.int (s0 &&& (3 : Int32))), .val (.ref ca)] [(.ref sb)])) _
      refine GoOn.retH X168 hZ hS0 (hk178) hEL hh rfl C173 Bd.notSynchronized (v := some (.ref sb)) (fun h => by rw [Bd.returns] at h; cases h) (fun fs hr => retOut X168 hx Bd.returns rfl (Or.inr (Or.inr (Or.inr (Or.inr ⟨rfl, rfl, rfl⟩)))) (hb hby own_d130) hr) (by decide) (by decide) ?_
      exact ⟨_, rfl, N169, K172⟩
set_option maxRecDepth 65536 in
set_option maxHeartbeats 40000000 in
theorem rmNom (l : Launch) (Z : State) (a0 : Array Value) (hw : ∀ d ∈ tables_1, d.before a0 Z = true) (a k kM : Addr) (h0 : Heap) (n0 : Nat) (Z0 : n0 ≤ h0.size) (SM : Sta Z Z.heap "com/example/subsume/subsume/axioms/AtomicConcept$Kind" "NOMINAL" "Lcom/example/subsume/subsume/axioms/AtomicConcept$Kind;" (.ref kM)) (F0 : Fld Z h0 a "com/example/subsume/subsume/axioms/AtomicConcept" "kind" "Lcom/example/subsume/subsume/axioms/AtomicConcept$Kind;" (.ref k)) (O0 : Old Z n0 h0) :
    MetFree l (⟨"com/example/subsume/subsume/axioms/AtomicConcept", "isNominal", "()Z"⟩ : MethodName) (head1 [Jvm.Cond.code (⟨"com/example/subsume/subsume/axioms/AtomicConcept", "isNominal", "()Z"⟩ : MethodName) prog_6_method_5_code 1 (some .boolean)] ({ frames := 0, cells := 0, slots := 0, locals := 0 } : Room)) (fun aa U => aa = #[(.ref a)] ∧ Z.Warmed39 U.vm ∧ U.heap = h0) (fun _ _ _ _ _ => True) (fun _ U o U' => ∃ v L, o = .returned v ∧ QSame (.int (if k = kM then 1 else 0)) h0 n0 v U'.heap L ∧ FrameEnd U o U' L ({ frames := 0, cells := 0, slots := 0, locals := 0 } : Room).cells ({ frames := 0, cells := 0, slots := 0, locals := 0 } : Room).slots) := by
  refine MetFree.of_bodySF (plainFor_of_name own_pn56) hisR ?_
  intro p e s m args below meth c s₁ Bd hml0 hP hK
  obtain ⟨rfl, hZ, hh⟩ := hP
  have hx := Bd.exec
  have hby := Bd.bytes
  have hml : c.maxLocals = 1 := hml0
  have hown : s.vm.findClass "com/example/subsume/subsume/axioms/AtomicConcept" = some m.cls := findClass_of_methodNamed Bd.named
  have hnm := (name_of_methodNamed Bd.named Bd.method).1
  have X0 : Stand p l e ({ frames := 0, cells := 0, slots := 0, locals := 0 } : Room) s m #[(.ref a)] below meth c s₁ [] 0 0 := Stand.of_body Bd
  have e0 : s₁.heap = h0 := by rw [← hh, Bd.state]; rfl
  have N0 := Fr.nil n0
  have K0 : Keep h0 h0 [] := Keep.refl _ _
  show GoOn p e below (s₁.setTop (entryFrame m #[(.ref a)] 1)) (PostN s (QSame (.int (if k = kM then 1 else 0)) h0 n0) ({ frames := 0, cells := 0, slots := 0, locals := 0 } : Room).cells ({ frames := 0, cells := 0, slots := 0, locals := 0 } : Room).slots)
  refine GoOn.step (fun tq kq => castTop (own_ef131 m a) kq) ?_
  show GoOn p e below (s₁.setTop (mkF m 0 #[.val (.ref a)] [])) _
  refine GoOn.step (fun tq kq => XS.aloadN X0.here hx rfl (hb hby own_d132) rfl rfl kq) ?_
  show GoOn p e below (s₁.setTop (mkF m 1 #[.val (.ref a)] [(.ref a)])) _
  obtain ⟨T179, X179, e179, st179⟩ := getF X0 hx hZ hown (host := "") (Or.inl (hw _ (List.mem_of_getElem? (i := 63) rfl))) Via.refl e0 F0 (g := (mkF m 1 #[.val (.ref a)] [(.ref a)])) rfl rfl (hb hby own_d133)
  refine GoOn.step st179 ?_
  show GoOn p e below (T179.setTop (mkF m 4 #[.val (.ref a)] [(.ref k)])) _
  obtain ⟨T180, X180, e180, st180⟩ := getS2 X179 hx hZ hown (host := "") (Or.inl (hw _ (List.mem_of_getElem? (i := 70) rfl))) Via.refl e179 (SM.ext O0.2) (g := (mkF m 4 #[.val (.ref a)] [(.ref k)])) rfl (hb hby own_d134)
  refine GoOn.step st180 ?_
  show GoOn p e below (T180.setTop (mkF m 7 #[.val (.ref a)] [(.ref kM), (.ref k)])) _
  by_cases hc181 : k = kM
  · skip
    refine GoOn.step (fun tq kq => Jvm.RoadKit.acmp (g := (mkF m 7 #[.val (.ref a)] [(.ref kM), (.ref k)])) X180 hx rfl rfl rfl (pc0 := 7) (pc' := 10) (same := true) rfl (hb hby own_d135) rfl (decide_eq_true (congrArg Value.ref hc181)) (by decide) (by decide) kq) ?_
    show GoOn p e below (T180.setTop (mkF m 10 #[.val (.ref a)] [])) _
    refine GoOn.step (fun tq kq => XS.iconst X180.here hx rfl (hb hby own_d136) kq) ?_
    show GoOn p e below (T180.setTop (mkF m 11 #[.val (.ref a)] [(.int (1 : Int32))])) _
    refine GoOn.step (fun tq kq => XS.goto X180.here hx rfl (pc0 := 11) (pc' := 15) rfl (hb hby own_d137) (by decide) (by decide) kq) ?_
    show GoOn p e below (T180.setTop (mkF m 15 #[.val (.ref a)] [(.int (1 : Int32))])) _
    refine GoOn.ret X180 Bd.notSynchronized (v := some (.int (nar .boolean (1 : Int32)))) (fun h => by rw [Bd.returns] at h; cases h) (fun fs hr => retN X180 hx (t := .boolean) Bd.returns (by simp) (hb hby own_d138) hr) (by decide) (by decide) ?_
    rw [e180]
    exact ⟨by rw [if_pos hc181]; rfl, N0, rfl⟩
  · skip
    refine GoOn.step (fun tq kq => Jvm.RoadKit.acmp (g := (mkF m 7 #[.val (.ref a)] [(.ref kM), (.ref k)])) X180 hx rfl rfl rfl (pc0 := 7) (pc' := 14) (same := false) rfl (hb hby own_d135) rfl (decide_eq_false fun q => hc181 (Value.ref.inj q)) (by decide) (by decide) kq) ?_
    show GoOn p e below (T180.setTop (mkF m 14 #[.val (.ref a)] [])) _
    refine GoOn.step (fun tq kq => XS.iconst X180.here hx rfl (hb hby own_d139) kq) ?_
    show GoOn p e below (T180.setTop (mkF m 15 #[.val (.ref a)] [(.int (0 : Int32))])) _
    refine GoOn.ret X180 Bd.notSynchronized (v := some (.int (nar .boolean (0 : Int32)))) (fun h => by rw [Bd.returns] at h; cases h) (fun fs hr => retN X180 hx (t := .boolean) Bd.returns (by simp) (hb hby own_d138) hr) (by decide) (by decide) ?_
    rw [e180]
    exact ⟨by rw [if_neg hc181]; rfl, N0, rfl⟩
def QLaw (h0 : Heap) (n0 : Nat) (v : Option Value) (h : Heap) (L : List Loc) : Prop := v = some (.int 1) ∧ Fr n0 L
set_option maxRecDepth 65536 in
set_option maxHeartbeats 40000000 in
theorem rm0 (l : Launch) (Z : State) (a0 : Array Value) (hw : ∀ d ∈ tables_1, d.before a0 Z = true) (ws : List Jvm.Cond) (p0 p1 p2 p3 G1 : Int32) (kN kI kM : Addr) (h0 : Heap) (n0 : Nat) (Z0 : n0 ≤ h0.size) (SC : Sta Z Z.heap "java/lang/String" "COMPACT_STRINGS" "Z" (.int G1)) (PC : ¬ G1 = (0 : Int32)) (SN : Sta Z Z.heap "com/example/subsume/subsume/axioms/AtomicConcept$Kind" "NAMED" "Lcom/example/subsume/subsume/axioms/AtomicConcept$Kind;" (.ref kN)) (SI : Sta Z Z.heap "com/example/subsume/subsume/axioms/AtomicConcept$Kind" "INTRODUCED" "Lcom/example/subsume/subsume/axioms/AtomicConcept$Kind;" (.ref kI)) (SM : Sta Z Z.heap "com/example/subsume/subsume/axioms/AtomicConcept$Kind" "NOMINAL" "Lcom/example/subsume/subsume/axioms/AtomicConcept$Kind;" (.ref kM)) (hNM : kN ≠ kM) (hIM : kI ≠ kM) (O0 : Old Z n0 h0) :
    MetFree l x (head1 (Jvm.Cond.code x code maxLocals ret :: ws) room_1) (fun aa U => aa = #[(.int p0), (.int p1), (.int p2), (.int p3)] ∧ Z.Warmed39 U.vm ∧ U.heap = h0 ∧ CHv Z own_EL U.vm h0) (fun _ _ _ _ _ => True) (fun _ U o U' => ∃ v L, o = .returned v ∧ QLaw h0 n0 v U'.heap L ∧ CHr Z own_EL U.vm U.heap U'.vm U'.heap ∧ ReturnedEndW U o U' L 24 3200) := by
  refine MetFree.of_bodySF (plainFor_of_name own_pn77) hisR ?_
  intro p e s m args below meth c s₁ Bd hml0 hP hK
  obtain ⟨rfl, hZ, hh, hCH⟩ := hP
  have hx := Bd.exec
  have hby := Bd.bytes
  have hml : c.maxLocals = 9 := hml0
  have hown : s.vm.findClass "com/example/subsume/subsume/axioms/AtomicConceptIsNominalPinLaw" = some m.cls := findClass_of_methodNamed Bd.named
  have hnm := (name_of_methodNamed Bd.named Bd.method).1
  have X0 : Stand p l e room_1 s m #[(.int p0), (.int p1), (.int p2), (.int p3)] below meth c s₁ [] 0 0 := Stand.of_body Bd
  have e0 : s₁.heap = h0 := by rw [← hh, Bd.state]; rfl
  have N0 := Fr.nil n0
  have K0 : Keep h0 h0 [] := Keep.refl _ _
  show GoOn p e below (s₁.setTop (entryFrame m #[(.int p0), (.int p1), (.int p2), (.int p3)] maxLocals)) (PostH Z own_EL s (QLaw h0 n0) 24 3200)
  refine GoOn.step (fun tq kq => castTop (own_ef140 m p0 p1 p2 p3) kq) ?_
  have hS0 : s.Since s.vm h0.size := (State.WarmedH.refl s).since _
  have hk0 : h0.size ≤ h0.size := Nat.le_refl _
  replace X0 : Stand p l e room_1 (s.setVm s.vm) m #[(.int p0), (.int p1), (.int p2), (.int p3)] below meth c s₁ [] 0 0 := X0
  replace hZ : Z.Warmed39 (s.setVm s.vm).vm := hZ
  replace hown : (s.setVm s.vm).vm.findClass "com/example/subsume/subsume/axioms/AtomicConceptIsNominalPinLaw" = some m.cls := hown
  have C0 : CHr Z own_EL s.vm h0 s.vm h0 := CHr.refl hCH
  have hEL : EW Z a0 own_EL := own_EW hw
  have wS : ∀ d ∈ Bundle.stringAtoms, d.before a0 Z = true := fun d hd => hw d (own_sa d hd)
  show GoOn p e below (s₁.setTop (mkF m 0 #[.val (.int p0), .val (.int p1), .val (.int p2), .val (.int p3), .unset, .unset, .unset, .unset, .unset] [])) _
  refine GoOn.step (fun tq kq => XS.iloadN X0.here hx rfl (hb hby at_0) rfl kq) ?_
  show GoOn p e below (s₁.setTop (mkF m 1 #[.val (.int p0), .val (.int p1), .val (.int p2), .val (.int p3), .unset, .unset, .unset, .unset, .unset] [(.int p0)])) _
  refine GoOn.step (fun tq kq => X0.ldcInt hx hown (mvT hZ (hw _ (List.mem_of_getElem? (i := 0) rfl))) (g := (mkF m 1 #[.val (.int p0), .val (.int p1), .val (.int p2), .val (.int p3), .unset, .unset, .unset, .unset, .unset] [(.int p0)])) rfl (hb hby at_1) _ kq) ?_
  show GoOn p e below (s₁.setTop (mkF m 3 #[.val (.int p0), .val (.int p1), .val (.int p2), .val (.int p3), .unset, .unset, .unset, .unset, .unset] [(.int (2147483647 : Int32)), (.int p0)])) _
  refine GoOn.step (fun tq kq => XS.iand X0.here hx rfl (hb hby at_3) rfl kq) ?_
  show GoOn p e below (s₁.setTop (mkF m 4 #[.val (.int p0), .val (.int p1), .val (.int p2), .val (.int p3), .unset, .unset, .unset, .unset, .unset] [(.int (p0 &&& (2147483647 : Int32)))])) _
  refine GoOn.step (fun tq kq => XS.iconst X0.here hx rfl (hb hby at_4) kq) ?_
  show GoOn p e below (s₁.setTop (mkF m 5 #[.val (.int p0), .val (.int p1), .val (.int p2), .val (.int p3), .unset, .unset, .unset, .unset, .unset] [(.int (3 : Int32)), (.int (p0 &&& (2147483647 : Int32)))])) _
  refine GoOn.step (fun tq kq => Jvm.RoadKit.iremM (g := (mkF m 5 #[.val (.int p0), .val (.int p1), .val (.int p2), .val (.int p3), .unset, .unset, .unset, .unset, .unset] [(.int (3 : Int32)), (.int (p0 &&& (2147483647 : Int32)))])) X0 hx rfl (hb hby at_5) rfl (by decide) kq) ?_
  show GoOn p e below (s₁.setTop (mkF m 6 #[.val (.int p0), .val (.int p1), .val (.int p2), .val (.int p3), .unset, .unset, .unset, .unset, .unset] [(.int ((p0 &&& (2147483647 : Int32)) % (3 : Int32)))])) _
  refine GoOn.step (fun tq kq => XS.istore X0.here hx rfl (hb hby at_6) rfl (l' := #[.val (.int p0), .val (.int p1), .val (.int p2), .val (.int p3), .val (.int ((p0 &&& (2147483647 : Int32)) % (3 : Int32))), .unset, .unset, .unset, .unset]) rfl kq) ?_
  show GoOn p e below (s₁.setTop (mkF m 8 #[.val (.int p0), .val (.int p1), .val (.int p2), .val (.int p3), .val (.int ((p0 &&& (2147483647 : Int32)) % (3 : Int32))), .unset, .unset, .unset, .unset] [])) _
  refine GoOn.step (fun tq kq => XS.iload X0.here hx rfl (hb hby at_8) rfl kq) ?_
  show GoOn p e below (s₁.setTop (mkF m 10 #[.val (.int p0), .val (.int p1), .val (.int p2), .val (.int p3), .val (.int ((p0 &&& (2147483647 : Int32)) % (3 : Int32))), .unset, .unset, .unset, .unset] [(.int ((p0 &&& (2147483647 : Int32)) % (3 : Int32)))])) _
  obtain ⟨_, _, ⟨T182, L182, k182, n182⟩, -, X182, ⟨Lc182, hQ182, l182, y182, z182⟩, st182⟩ := Jvm.LawKit.callS X0 hx (y := (⟨"com/example/subsume/subsume/axioms/AtomicConceptIsNominalPinLaw", "kindOf", "(I)Lcom/example/subsume/subsume/axioms/AtomicConcept$Kind;"⟩ : MethodName)) hown (mvT hZ (hw _ (List.mem_of_getElem? (i := 1) rfl))) (mvT hZ (hw _ (List.mem_of_getElem? (i := 2) rfl))) (mvT hZ (hw _ (List.mem_of_getElem? (i := 3) rfl))) (mvT hZ (hw _ (List.mem_of_getElem? (i := 4) rfl))) (by decide) (backOf (W := 0) (rmKind l Z a0 hw ((p0 &&& (2147483647 : Int32)) % (3 : Int32)) kN kI kM h0 n0 Z0 SN SI SM O0) hZ (hw _ (List.mem_of_getElem? (i := 4) rfl)) (hw _ (List.mem_of_getElem? (i := 3) rfl)) (by decide) (by decide)) (g := (mkF m 10 #[.val (.int p0), .val (.int p1), .val (.int p2), .val (.int p3), .val (.int ((p0 &&& (2147483647 : Int32)) % (3 : Int32))), .unset, .unset, .unset, .unset] [(.int ((p0 &&& (2147483647 : Int32)) % (3 : Int32)))])) rfl (by rw [hml]; rfl) (argsL := [(.int ((p0 &&& (2147483647 : Int32)) % (3 : Int32)))]) (rest := []) (lenOf own_pd141 rfl) rfl (by show 2 * 0 + _ ≤ _; exact Nat.le_of_eq rfl) (hb hby at_10) (fun _ _ => ⟨rfl, e0, (by decide : 0 + 0 ≤ _), (by decide : 0 + 0 ≤ _)⟩)
  dsimp only [Pt.U, Pt.locs, Pt.cells, Pt.slots] at X182 l182 y182 z182 st182 hQ182
  subst l182 y182 z182
  obtain ⟨rfl, N182, e182⟩ := hQ182
  refine GoOn.step st182 ?_
  have N183 := Fr.app N0 N182
  show GoOn p e below (T182.setTop (mkF m 13 #[.val (.int p0), .val (.int p1), .val (.int p2), .val (.int p3), .val (.int ((p0 &&& (2147483647 : Int32)) % (3 : Int32))), .unset, .unset, .unset, .unset] [(.ref (if ((p0 &&& (2147483647 : Int32)) % (3 : Int32)) = 0 then kN else if ((p0 &&& (2147483647 : Int32)) % (3 : Int32)) = 1 then kI else kM))])) _
  refine GoOn.step (fun tq kq => XS.astore X182.here hx rfl (hb hby at_13) rfl rfl (l' := #[.val (.int p0), .val (.int p1), .val (.int p2), .val (.int p3), .val (.int ((p0 &&& (2147483647 : Int32)) % (3 : Int32))), .val (.ref (if ((p0 &&& (2147483647 : Int32)) % (3 : Int32)) = 0 then kN else if ((p0 &&& (2147483647 : Int32)) % (3 : Int32)) = 1 then kI else kM)), .unset, .unset, .unset]) rfl kq) ?_
  show GoOn p e below (T182.setTop (mkF m 15 #[.val (.int p0), .val (.int p1), .val (.int p2), .val (.int p3), .val (.int ((p0 &&& (2147483647 : Int32)) % (3 : Int32))), .val (.ref (if ((p0 &&& (2147483647 : Int32)) % (3 : Int32)) = 0 then kN else if ((p0 &&& (2147483647 : Int32)) % (3 : Int32)) = 1 then kI else kM)), .unset, .unset, .unset] [])) _
  refine GoOn.step (fun tq kq => XS.iloadN X182.here hx rfl (hb hby at_15) rfl kq) ?_
  show GoOn p e below (T182.setTop (mkF m 16 #[.val (.int p0), .val (.int p1), .val (.int p2), .val (.int p3), .val (.int ((p0 &&& (2147483647 : Int32)) % (3 : Int32))), .val (.ref (if ((p0 &&& (2147483647 : Int32)) % (3 : Int32)) = 0 then kN else if ((p0 &&& (2147483647 : Int32)) % (3 : Int32)) = 1 then kI else kM)), .unset, .unset, .unset] [(.int p1)])) _
  refine GoOn.step (fun tq kq => XS.iloadN X182.here hx rfl (hb hby at_16) rfl kq) ?_
  show GoOn p e below (T182.setTop (mkF m 17 #[.val (.int p0), .val (.int p1), .val (.int p2), .val (.int p3), .val (.int ((p0 &&& (2147483647 : Int32)) % (3 : Int32))), .val (.ref (if ((p0 &&& (2147483647 : Int32)) % (3 : Int32)) = 0 then kN else if ((p0 &&& (2147483647 : Int32)) % (3 : Int32)) = 1 then kI else kM)), .unset, .unset, .unset] [(.int p2), (.int p1)])) _
  refine GoOn.step (fun tq kq => XS.iloadN X182.here hx rfl (hb hby at_17) rfl kq) ?_
  show GoOn p e below (T182.setTop (mkF m 18 #[.val (.int p0), .val (.int p1), .val (.int p2), .val (.int p3), .val (.int ((p0 &&& (2147483647 : Int32)) % (3 : Int32))), .val (.ref (if ((p0 &&& (2147483647 : Int32)) % (3 : Int32)) = 0 then kN else if ((p0 &&& (2147483647 : Int32)) % (3 : Int32)) = 1 then kI else kM)), .unset, .unset, .unset] [(.int p3), (.int p2), (.int p1)])) _
  obtain ⟨_, _, ⟨T184, L184, k184, n184⟩, -, X184, hS184, hg184, ⟨Lc184, hQ184, l184, y184, z184, Cn184⟩, st184⟩ := Jvm.RoadKit.callSS X182 hx (y := (⟨"com/example/subsume/subsume/axioms/AtomicConceptIsNominalPinLaw", "nameOf", "(III)Ljava/lang/String;"⟩ : MethodName)) hown (mvT hZ (hw _ (List.mem_of_getElem? (i := 8) rfl))) (mvT hZ (hw _ (List.mem_of_getElem? (i := 9) rfl))) (mvT hZ (hw _ (List.mem_of_getElem? (i := 3) rfl))) (mvT hZ (hw _ (List.mem_of_getElem? (i := 10) rfl))) (by decide) (backOfSH (W := 0) (rmName l Z a0 hw p1 p2 p3 G1 h0 n0 Z0 SC PC O0) hZ (hw _ (List.mem_of_getElem? (i := 10) rfl)) (hw _ (List.mem_of_getElem? (i := 3) rfl)) (by decide) (by decide) hEL C0.1) (g := (mkF m 18 #[.val (.int p0), .val (.int p1), .val (.int p2), .val (.int p3), .val (.int ((p0 &&& (2147483647 : Int32)) % (3 : Int32))), .val (.ref (if ((p0 &&& (2147483647 : Int32)) % (3 : Int32)) = 0 then kN else if ((p0 &&& (2147483647 : Int32)) % (3 : Int32)) = 1 then kI else kM)), .unset, .unset, .unset] [(.int p3), (.int p2), (.int p1)])) rfl (by rw [hml]; rfl) (argsL := [(.int p1), (.int p2), (.int p3)]) (rest := []) (lenOf own_pd142 rfl) rfl (by show 2 * 0 + _ ≤ _; exact Nat.le_of_eq rfl) (hb hby at_18) (fun _ _ => ⟨rfl, e182, (by decide : 0 + 3 ≤ _), (by decide : 0 + 8 ≤ _)⟩)
  dsimp only [Pt.U, Pt.locs, Pt.cells, Pt.slots] at X184 l184 y184 z184 st184 hQ184 hS184 hg184 Cn184
  subst l184 y184 z184
  obtain ⟨sa184, rfl, N184, K184⟩ := hQ184
  refine GoOn.trans st184 ?_
  replace X184 : Stand p l e _ (s.setVm T184.vm) m _ below meth c T184 _ _ _ := X184
  have hZ184 : Z.Warmed39 (s.setVm T184.vm).vm := State.Warmed39.trans (t := (s.setVm s.vm)) hZ hS184.1
  have hown184 : (s.setVm T184.vm).vm.findClass "com/example/subsume/subsume/axioms/AtomicConceptIsNominalPinLaw" = some m.cls := by rw [show (s.setVm T184.vm).vm = T184.vm from rfl, hS184.1.alike.findClass]; exact hown
  have hSn184 : s.Since T184.vm T184.heap.size := foldS hS0 (by rw [e182]; exact hk0) hS184 hg184
  have hk184 : T184.heap.size ≤ T184.heap.size := Nat.le_refl _
  have N185 := Fr.app N183 N184
  have O186 : Old Z n0 T184.heap := O0.keep K184 all0
  have Z187 : n0 ≤ T184.heap.size := Nat.le_trans Z0 K184.1
  have K188 : Keep h0 T184.heap [] := K0.trans K184 all0
  have C189 : CHr Z own_EL s.vm h0 T184.vm T184.heap := CHr.trans C0 Cn184
  show GoOn p e below (T184.setTop (mkF m 21 #[.val (.int p0), .val (.int p1), .val (.int p2), .val (.int p3), .val (.int ((p0 &&& (2147483647 : Int32)) % (3 : Int32))), .val (.ref (if ((p0 &&& (2147483647 : Int32)) % (3 : Int32)) = 0 then kN else if ((p0 &&& (2147483647 : Int32)) % (3 : Int32)) = 1 then kI else kM)), .unset, .unset, .unset] [(.ref sa184)])) _
  refine GoOn.step (fun tq kq => XS.astore X184.here hx rfl (hb hby at_21) rfl rfl (l' := #[.val (.int p0), .val (.int p1), .val (.int p2), .val (.int p3), .val (.int ((p0 &&& (2147483647 : Int32)) % (3 : Int32))), .val (.ref (if ((p0 &&& (2147483647 : Int32)) % (3 : Int32)) = 0 then kN else if ((p0 &&& (2147483647 : Int32)) % (3 : Int32)) = 1 then kI else kM)), .val (.ref sa184), .unset, .unset]) rfl kq) ?_
  show GoOn p e below (T184.setTop (mkF m 23 #[.val (.int p0), .val (.int p1), .val (.int p2), .val (.int p3), .val (.int ((p0 &&& (2147483647 : Int32)) % (3 : Int32))), .val (.ref (if ((p0 &&& (2147483647 : Int32)) % (3 : Int32)) = 0 then kN else if ((p0 &&& (2147483647 : Int32)) % (3 : Int32)) = 1 then kI else kM)), .val (.ref sa184), .unset, .unset] [])) _
  obtain ⟨T190, h190, X190, e190, Ex190, A190, Df190, -, st190⟩ := newO X184 hx hZ184 hown184 (hw _ (List.mem_of_getElem? (i := 41) rfl)) (hw _ (List.mem_of_getElem? (i := 42) rfl)) (hw _ (List.mem_of_getElem? (i := 43) rfl)) rfl (g := (mkF m 23 #[.val (.int p0), .val (.int p1), .val (.int p2), .val (.int p3), .val (.int ((p0 &&& (2147483647 : Int32)) % (3 : Int32))), .val (.ref (if ((p0 &&& (2147483647 : Int32)) % (3 : Int32)) = 0 then kN else if ((p0 &&& (2147483647 : Int32)) % (3 : Int32)) = 1 then kI else kM)), .val (.ref sa184), .unset, .unset] [])) rfl (hb hby at_23) (by decide) (by decide)
  obtain ⟨ac, g190⟩ : ∃ z, z = T184.heap.size := ⟨_, rfl⟩
  rw [← g190] at A190 Df190 st190
  have gn191 : n0 ≤ ac := Nat.le_trans Z187 (Nat.le_of_eq g190.symm)
  have sz192 : h0.size ≤ ac := Nat.le_trans K188.1 (Nat.le_of_eq g190.symm)
  have Kx190 : Keep T184.heap h190 [] := (Keep.refl _ _).ext Ex190
  refine GoOn.step st190 ?_
  have O193 : Old Z n0 h190 := O186.keep Kx190 all0
  have Z194 : n0 ≤ h190.size := Nat.le_trans Z187 Kx190.1
  have K195 : Keep h0 h190 [] := K188.trans Kx190 (all0)
  have C196 : CHr Z own_EL s.vm h0 T184.vm h190 := CHr.trans C189 (CHr.keep Kx190 all0 C189.1)
  have hk197 := Nat.le_trans hk184 Kx190.1
  have F198 : Fld Z h190 ac "com/example/subsume/subsume/axioms/AtomicConcept" "name" "Ljava/lang/String;" .null := Df190 (Or.inr (hw _ (List.mem_of_getElem? (i := 62) rfl))) (ty := (.object "java/lang/String")) (by decide)
  have F199 : Fld Z h190 ac "com/example/subsume/subsume/axioms/AtomicConcept" "kind" "Lcom/example/subsume/subsume/axioms/AtomicConcept$Kind;" .null := Df190 (Or.inr (hw _ (List.mem_of_getElem? (i := 64) rfl))) (ty := (.object "com/example/subsume/subsume/axioms/AtomicConcept$Kind")) (by decide)
  show GoOn p e below (T190.setTop (mkF m 26 #[.val (.int p0), .val (.int p1), .val (.int p2), .val (.int p3), .val (.int ((p0 &&& (2147483647 : Int32)) % (3 : Int32))), .val (.ref (if ((p0 &&& (2147483647 : Int32)) % (3 : Int32)) = 0 then kN else if ((p0 &&& (2147483647 : Int32)) % (3 : Int32)) = 1 then kI else kM)), .val (.ref sa184), .unset, .unset] [(.ref ac)])) _
  refine GoOn.step (fun tq kq => XS.dup X190.here hx rfl (hb hby at_26) rfl rfl kq) ?_
  show GoOn p e below (T190.setTop (mkF m 27 #[.val (.int p0), .val (.int p1), .val (.int p2), .val (.int p3), .val (.int ((p0 &&& (2147483647 : Int32)) % (3 : Int32))), .val (.ref (if ((p0 &&& (2147483647 : Int32)) % (3 : Int32)) = 0 then kN else if ((p0 &&& (2147483647 : Int32)) % (3 : Int32)) = 1 then kI else kM)), .val (.ref sa184), .unset, .unset] [(.ref ac), (.ref ac)])) _
  refine GoOn.step (fun tq kq => XS.aload X190.here hx rfl (hb hby at_27) rfl rfl kq) ?_
  show GoOn p e below (T190.setTop (mkF m 29 #[.val (.int p0), .val (.int p1), .val (.int p2), .val (.int p3), .val (.int ((p0 &&& (2147483647 : Int32)) % (3 : Int32))), .val (.ref (if ((p0 &&& (2147483647 : Int32)) % (3 : Int32)) = 0 then kN else if ((p0 &&& (2147483647 : Int32)) % (3 : Int32)) = 1 then kI else kM)), .val (.ref sa184), .unset, .unset] [(.ref sa184), (.ref ac), (.ref ac)])) _
  refine GoOn.step (fun tq kq => XS.aload X190.here hx rfl (hb hby at_29) rfl rfl kq) ?_
  show GoOn p e below (T190.setTop (mkF m 31 #[.val (.int p0), .val (.int p1), .val (.int p2), .val (.int p3), .val (.int ((p0 &&& (2147483647 : Int32)) % (3 : Int32))), .val (.ref (if ((p0 &&& (2147483647 : Int32)) % (3 : Int32)) = 0 then kN else if ((p0 &&& (2147483647 : Int32)) % (3 : Int32)) = 1 then kI else kM)), .val (.ref sa184), .unset, .unset] [(.ref (if ((p0 &&& (2147483647 : Int32)) % (3 : Int32)) = 0 then kN else if ((p0 &&& (2147483647 : Int32)) % (3 : Int32)) = 1 then kI else kM)), (.ref sa184), (.ref ac), (.ref ac)])) _
  obtain ⟨_, _, ⟨T200, L200, k200, n200⟩, -, X200, hS200, hg200, ⟨Lc200, hQ200, l200, y200, z200, Cn200⟩, st200⟩ := X190.specialBackS hx (y := (⟨"com/example/subsume/subsume/axioms/AtomicConcept", "<init>", "(Ljava/lang/String;Lcom/example/subsume/subsume/axioms/AtomicConcept$Kind;)V"⟩ : MethodName)) rfl hown184 (mvT hZ184 (hw _ (List.mem_of_getElem? (i := 44) rfl))) (mvT hZ184 (hw _ (List.mem_of_getElem? (i := 45) rfl))) (mvT hZ184 (hw _ (List.mem_of_getElem? (i := 46) rfl))) (by decide) (backOfSH (W := 1) (rmACI l Z a0 hw ac sa184 (if ((p0 &&& (2147483647 : Int32)) % (3 : Int32)) = 0 then kN else if ((p0 &&& (2147483647 : Int32)) % (3 : Int32)) = 1 then kI else kM) h190 n0 Z194 A190 F198 F199 gn191) hZ184 (hw _ (List.mem_of_getElem? (i := 46) rfl)) (hw _ (List.mem_of_getElem? (i := 43) rfl)) (by decide) (by decide) hEL C196.1) (g := (mkF m 31 #[.val (.int p0), .val (.int p1), .val (.int p2), .val (.int p3), .val (.int ((p0 &&& (2147483647 : Int32)) % (3 : Int32))), .val (.ref (if ((p0 &&& (2147483647 : Int32)) % (3 : Int32)) = 0 then kN else if ((p0 &&& (2147483647 : Int32)) % (3 : Int32)) = 1 then kI else kM)), .val (.ref sa184), .unset, .unset] [(.ref (if ((p0 &&& (2147483647 : Int32)) % (3 : Int32)) = 0 then kN else if ((p0 &&& (2147483647 : Int32)) % (3 : Int32)) = 1 then kI else kM)), (.ref sa184), (.ref ac), (.ref ac)])) rfl (by rw [hml]; rfl) (Steps.refl _) (a := ac) (argsL := [(.ref sa184), (.ref (if ((p0 &&& (2147483647 : Int32)) % (3 : Int32)) = 0 then kN else if ((p0 &&& (2147483647 : Int32)) % (3 : Int32)) = 1 then kI else kM))]) (rest := [(.ref ac)]) (lenOf own_pd143 rfl) rfl (by show 2 * 0 + _ ≤ _; exact Nat.le_of_eq rfl) (hb hby at_31) (fun _ _ => ⟨rfl, e190, (by decide : 4 + 4 ≤ _), (by decide : 10 + 40 ≤ _)⟩)
  dsimp only [Pt.U, Pt.locs, Pt.cells, Pt.slots] at X200 l200 y200 z200 st200 hQ200 hS200 hg200 Cn200
  subst l200 y200 z200
  obtain ⟨rfl, N200, K200, E200, Fa200, Fb200⟩ := hQ200
  refine GoOn.trans st200 ?_
  replace X200 : Stand p l e _ (s.setVm T200.vm) m _ below meth c T200 _ _ _ := X200
  have hZ200 : Z.Warmed39 (s.setVm T200.vm).vm := State.Warmed39.trans (t := (s.setVm T184.vm)) hZ184 hS200.1
  have hown200 : (s.setVm T200.vm).vm.findClass "com/example/subsume/subsume/axioms/AtomicConceptIsNominalPinLaw" = some m.cls := by rw [show (s.setVm T200.vm).vm = T200.vm from rfl, hS200.1.alike.findClass]; exact hown184
  have hSn200 : s.Since T200.vm T200.heap.size := foldS hSn184 (by rw [e190]; exact hk197) hS200 hg200
  have hk200 : T200.heap.size ≤ T200.heap.size := Nat.le_refl _
  have N201 := Fr.app N185 N200
  have O202 : Old Z n0 T200.heap := O193.keep K200 (allS gn191 all0)
  have Z203 : n0 ≤ T200.heap.size := Nat.le_trans Z194 K200.1
  have K204 : Keep h0 T200.heap [] := K195.trans K200 ((allS (Or.inr sz192) all0))
  have C205 : CHr Z own_EL s.vm h0 T200.vm T200.heap := CHr.trans C196 Cn200
  have E206 : Exa Z T200.heap ac "com/example/subsume/subsume/axioms/AtomicConcept" := A190.keep K200
  show GoOn p e below (T200.setTop (mkF m 34 #[.val (.int p0), .val (.int p1), .val (.int p2), .val (.int p3), .val (.int ((p0 &&& (2147483647 : Int32)) % (3 : Int32))), .val (.ref (if ((p0 &&& (2147483647 : Int32)) % (3 : Int32)) = 0 then kN else if ((p0 &&& (2147483647 : Int32)) % (3 : Int32)) = 1 then kI else kM)), .val (.ref sa184), .unset, .unset] [(.ref ac)])) _
  refine GoOn.step (fun tq kq => XS.astore X200.here hx rfl (hb hby at_34) rfl rfl (l' := #[.val (.int p0), .val (.int p1), .val (.int p2), .val (.int p3), .val (.int ((p0 &&& (2147483647 : Int32)) % (3 : Int32))), .val (.ref (if ((p0 &&& (2147483647 : Int32)) % (3 : Int32)) = 0 then kN else if ((p0 &&& (2147483647 : Int32)) % (3 : Int32)) = 1 then kI else kM)), .val (.ref sa184), .val (.ref ac), .unset]) rfl kq) ?_
  show GoOn p e below (T200.setTop (mkF m 36 #[.val (.int p0), .val (.int p1), .val (.int p2), .val (.int p3), .val (.int ((p0 &&& (2147483647 : Int32)) % (3 : Int32))), .val (.ref (if ((p0 &&& (2147483647 : Int32)) % (3 : Int32)) = 0 then kN else if ((p0 &&& (2147483647 : Int32)) % (3 : Int32)) = 1 then kI else kM)), .val (.ref sa184), .val (.ref ac), .unset] [])) _
  refine GoOn.step (fun tq kq => XS.iload X200.here hx rfl (hb hby at_36) rfl kq) ?_
  show GoOn p e below (T200.setTop (mkF m 38 #[.val (.int p0), .val (.int p1), .val (.int p2), .val (.int p3), .val (.int ((p0 &&& (2147483647 : Int32)) % (3 : Int32))), .val (.ref (if ((p0 &&& (2147483647 : Int32)) % (3 : Int32)) = 0 then kN else if ((p0 &&& (2147483647 : Int32)) % (3 : Int32)) = 1 then kI else kM)), .val (.ref sa184), .val (.ref ac), .unset] [(.int ((p0 &&& (2147483647 : Int32)) % (3 : Int32)))])) _
  refine GoOn.step (fun tq kq => XS.iconst X200.here hx rfl (hb hby at_38) kq) ?_
  show GoOn p e below (T200.setTop (mkF m 39 #[.val (.int p0), .val (.int p1), .val (.int p2), .val (.int p3), .val (.int ((p0 &&& (2147483647 : Int32)) % (3 : Int32))), .val (.ref (if ((p0 &&& (2147483647 : Int32)) % (3 : Int32)) = 0 then kN else if ((p0 &&& (2147483647 : Int32)) % (3 : Int32)) = 1 then kI else kM)), .val (.ref sa184), .val (.ref ac), .unset] [(.int (2 : Int32)), (.int ((p0 &&& (2147483647 : Int32)) % (3 : Int32)))])) _
  by_cases hc209 : ((p0 &&& (2147483647 : Int32)) % (3 : Int32)) = (2 : Int32)
  · skip
    refine GoOn.step (fun tq kq => XS.icmpNo X200.here hx rfl (hb hby at_39) rfl (teq hc209).2 kq) ?_
    show GoOn p e below (T200.setTop (mkF m 42 #[.val (.int p0), .val (.int p1), .val (.int p2), .val (.int p3), .val (.int ((p0 &&& (2147483647 : Int32)) % (3 : Int32))), .val (.ref (if ((p0 &&& (2147483647 : Int32)) % (3 : Int32)) = 0 then kN else if ((p0 &&& (2147483647 : Int32)) % (3 : Int32)) = 1 then kI else kM)), .val (.ref sa184), .val (.ref ac), .unset] [])) _
    refine GoOn.step (fun tq kq => XS.iconst X200.here hx rfl (hb hby at_42) kq) ?_
    show GoOn p e below (T200.setTop (mkF m 43 #[.val (.int p0), .val (.int p1), .val (.int p2), .val (.int p3), .val (.int ((p0 &&& (2147483647 : Int32)) % (3 : Int32))), .val (.ref (if ((p0 &&& (2147483647 : Int32)) % (3 : Int32)) = 0 then kN else if ((p0 &&& (2147483647 : Int32)) % (3 : Int32)) = 1 then kI else kM)), .val (.ref sa184), .val (.ref ac), .unset] [(.int (1 : Int32))])) _
    refine GoOn.step (fun tq kq => XS.goto X200.here hx rfl (pc0 := 43) (pc' := 47) rfl (hb hby at_43) (by decide) (by decide) kq) ?_
    show GoOn p e below (T200.setTop (mkF m 47 #[.val (.int p0), .val (.int p1), .val (.int p2), .val (.int p3), .val (.int ((p0 &&& (2147483647 : Int32)) % (3 : Int32))), .val (.ref (if ((p0 &&& (2147483647 : Int32)) % (3 : Int32)) = 0 then kN else if ((p0 &&& (2147483647 : Int32)) % (3 : Int32)) = 1 then kI else kM)), .val (.ref sa184), .val (.ref ac), .unset] [(.int (1 : Int32))])) _
    refine GoOn.step (fun tq kq => XS.istore X200.here hx rfl (hb hby at_47) rfl (l' := #[.val (.int p0), .val (.int p1), .val (.int p2), .val (.int p3), .val (.int ((p0 &&& (2147483647 : Int32)) % (3 : Int32))), .val (.ref (if ((p0 &&& (2147483647 : Int32)) % (3 : Int32)) = 0 then kN else if ((p0 &&& (2147483647 : Int32)) % (3 : Int32)) = 1 then kI else kM)), .val (.ref sa184), .val (.ref ac), .val (.int (1 : Int32))]) rfl kq) ?_
    show GoOn p e below (T200.setTop (mkF m 49 #[.val (.int p0), .val (.int p1), .val (.int p2), .val (.int p3), .val (.int ((p0 &&& (2147483647 : Int32)) % (3 : Int32))), .val (.ref (if ((p0 &&& (2147483647 : Int32)) % (3 : Int32)) = 0 then kN else if ((p0 &&& (2147483647 : Int32)) % (3 : Int32)) = 1 then kI else kM)), .val (.ref sa184), .val (.ref ac), .val (.int (1 : Int32))] [])) _
    refine GoOn.step (fun tq kq => XS.aload X200.here hx rfl (hb hby at_49) rfl rfl kq) ?_
    show GoOn p e below (T200.setTop (mkF m 51 #[.val (.int p0), .val (.int p1), .val (.int p2), .val (.int p3), .val (.int ((p0 &&& (2147483647 : Int32)) % (3 : Int32))), .val (.ref (if ((p0 &&& (2147483647 : Int32)) % (3 : Int32)) = 0 then kN else if ((p0 &&& (2147483647 : Int32)) % (3 : Int32)) = 1 then kI else kM)), .val (.ref sa184), .val (.ref ac), .val (.int (1 : Int32))] [(.ref ac)])) _
    obtain ⟨cqc211, kqc211, qac211, qbc211, qcc211⟩ := isOf hZ200 rfl E206
    obtain ⟨_, _, ⟨T210, L210, k210, n210⟩, -, X210, ⟨Lc210, hQ210, l210, y210, z210⟩, st210⟩ := X200.virtualBack hx (y := (⟨"com/example/subsume/subsume/axioms/AtomicConcept", "isNominal", "()Z"⟩ : MethodName)) (z := (⟨"com/example/subsume/subsume/axioms/AtomicConcept", "isNominal", "()Z"⟩ : MethodName)) hown200 (mvT hZ200 (hw _ (List.mem_of_getElem? (i := 65) rfl))) (mvT hZ200 (hw _ (List.mem_of_getElem? (i := 66) rfl))) (notFace_of_selects (args := #[]) (mvT hZ200 (hw _ (List.mem_of_getElem? (i := 68) rfl)))) (mvT hZ200 (hw _ (List.mem_of_getElem? (i := 68) rfl))) (mvT hZ200 (hw _ (List.mem_of_getElem? (i := 67) rfl))) (by decide) (backOf (W := 0) (rmNom l Z a0 hw ac (if ((p0 &&& (2147483647 : Int32)) % (3 : Int32)) = 0 then kN else if ((p0 &&& (2147483647 : Int32)) % (3 : Int32)) = 1 then kI else kM) kM T200.heap n0 Z203 SM Fb200 O202) hZ200 (hw _ (List.mem_of_getElem? (i := 69) rfl)) (hw _ (List.mem_of_getElem? (i := 43) rfl)) (by decide) (by decide)) qac211 qcc211 (g := (mkF m 51 #[.val (.int p0), .val (.int p1), .val (.int p2), .val (.int p3), .val (.int ((p0 &&& (2147483647 : Int32)) % (3 : Int32))), .val (.ref (if ((p0 &&& (2147483647 : Int32)) % (3 : Int32)) = 0 then kN else if ((p0 &&& (2147483647 : Int32)) % (3 : Int32)) = 1 then kI else kM)), .val (.ref sa184), .val (.ref ac), .val (.int (1 : Int32))] [(.ref ac)])) rfl (by rw [hml]; rfl) (Steps.refl _) (argsL := []) (rest := []) (lenOf own_pd144 rfl) rfl (by show 2 * 0 + _ ≤ _; exact Nat.le_of_eq rfl) (hb hby at_51) (fun _ _ => ⟨rfl, rfl, (by decide : 8 + 0 ≤ _), (by decide : 50 + 0 ≤ _)⟩)
    dsimp only [Pt.U, Pt.locs, Pt.cells, Pt.slots] at X210 l210 y210 z210 st210 hQ210
    subst l210 y210 z210
    obtain ⟨rfl, N210, e210⟩ := hQ210
    refine GoOn.trans st210 ?_
    have N212 := Fr.app N201 N210
    show GoOn p e below (T210.setTop (mkF m 54 #[.val (.int p0), .val (.int p1), .val (.int p2), .val (.int p3), .val (.int ((p0 &&& (2147483647 : Int32)) % (3 : Int32))), .val (.ref (if ((p0 &&& (2147483647 : Int32)) % (3 : Int32)) = 0 then kN else if ((p0 &&& (2147483647 : Int32)) % (3 : Int32)) = 1 then kI else kM)), .val (.ref sa184), .val (.ref ac), .val (.int (1 : Int32))] [(.int (if (if ((p0 &&& (2147483647 : Int32)) % (3 : Int32)) = 0 then kN else if ((p0 &&& (2147483647 : Int32)) % (3 : Int32)) = 1 then kI else kM) = kM then 1 else 0))])) _
    refine GoOn.step (fun tq kq => XS.iload X210.here hx rfl (hb hby at_54) rfl kq) ?_
    show GoOn p e below (T210.setTop (mkF m 56 #[.val (.int p0), .val (.int p1), .val (.int p2), .val (.int p3), .val (.int ((p0 &&& (2147483647 : Int32)) % (3 : Int32))), .val (.ref (if ((p0 &&& (2147483647 : Int32)) % (3 : Int32)) = 0 then kN else if ((p0 &&& (2147483647 : Int32)) % (3 : Int32)) = 1 then kI else kM)), .val (.ref sa184), .val (.ref ac), .val (.int (1 : Int32))] [(.int (1 : Int32)), (.int (if (if ((p0 &&& (2147483647 : Int32)) % (3 : Int32)) = 0 then kN else if ((p0 &&& (2147483647 : Int32)) % (3 : Int32)) = 1 then kI else kM) = kM then 1 else 0))])) _
    refine GoOn.step (fun tq kq => XS.icmpNo X210.here hx rfl (hb hby at_56) rfl (teq (own_eq hc209)).2 kq) ?_
    show GoOn p e below (T210.setTop (mkF m 59 #[.val (.int p0), .val (.int p1), .val (.int p2), .val (.int p3), .val (.int ((p0 &&& (2147483647 : Int32)) % (3 : Int32))), .val (.ref (if ((p0 &&& (2147483647 : Int32)) % (3 : Int32)) = 0 then kN else if ((p0 &&& (2147483647 : Int32)) % (3 : Int32)) = 1 then kI else kM)), .val (.ref sa184), .val (.ref ac), .val (.int (1 : Int32))] [])) _
    refine GoOn.step (fun tq kq => XS.iconst X210.here hx rfl (hb hby at_59) kq) ?_
    show GoOn p e below (T210.setTop (mkF m 60 #[.val (.int p0), .val (.int p1), .val (.int p2), .val (.int p3), .val (.int ((p0 &&& (2147483647 : Int32)) % (3 : Int32))), .val (.ref (if ((p0 &&& (2147483647 : Int32)) % (3 : Int32)) = 0 then kN else if ((p0 &&& (2147483647 : Int32)) % (3 : Int32)) = 1 then kI else kM)), .val (.ref sa184), .val (.ref ac), .val (.int (1 : Int32))] [(.int (1 : Int32))])) _
    refine GoOn.step (fun tq kq => XS.goto X210.here hx rfl (pc0 := 60) (pc' := 64) rfl (hb hby at_60) (by decide) (by decide) kq) ?_
    show GoOn p e below (T210.setTop (mkF m 64 #[.val (.int p0), .val (.int p1), .val (.int p2), .val (.int p3), .val (.int ((p0 &&& (2147483647 : Int32)) % (3 : Int32))), .val (.ref (if ((p0 &&& (2147483647 : Int32)) % (3 : Int32)) = 0 then kN else if ((p0 &&& (2147483647 : Int32)) % (3 : Int32)) = 1 then kI else kM)), .val (.ref sa184), .val (.ref ac), .val (.int (1 : Int32))] [(.int (1 : Int32))])) _
    refine GoOn.retH X210 hZ200 hSn200 (hk200) hEL hh e210 C205 Bd.notSynchronized (v := some (.int (nar .boolean (1 : Int32)))) (fun h => by rw [Bd.returns] at h; cases h) (fun fs hr => retN X210 hx (t := .boolean) Bd.returns (by simp) (hb hby at_64) hr) (by decide) (by decide) ?_
    exact ⟨rfl, N212⟩
  · skip
    refine GoOn.step (fun tq kq => XS.icmpYes X200.here hx rfl (pc0 := 39) (pc' := 46) rfl (hb hby at_39) rfl (feq hc209).2 (by decide) (by decide) kq) ?_
    show GoOn p e below (T200.setTop (mkF m 46 #[.val (.int p0), .val (.int p1), .val (.int p2), .val (.int p3), .val (.int ((p0 &&& (2147483647 : Int32)) % (3 : Int32))), .val (.ref (if ((p0 &&& (2147483647 : Int32)) % (3 : Int32)) = 0 then kN else if ((p0 &&& (2147483647 : Int32)) % (3 : Int32)) = 1 then kI else kM)), .val (.ref sa184), .val (.ref ac), .unset] [])) _
    refine GoOn.step (fun tq kq => XS.iconst X200.here hx rfl (hb hby at_46) kq) ?_
    show GoOn p e below (T200.setTop (mkF m 47 #[.val (.int p0), .val (.int p1), .val (.int p2), .val (.int p3), .val (.int ((p0 &&& (2147483647 : Int32)) % (3 : Int32))), .val (.ref (if ((p0 &&& (2147483647 : Int32)) % (3 : Int32)) = 0 then kN else if ((p0 &&& (2147483647 : Int32)) % (3 : Int32)) = 1 then kI else kM)), .val (.ref sa184), .val (.ref ac), .unset] [(.int (0 : Int32))])) _
    refine GoOn.step (fun tq kq => XS.istore X200.here hx rfl (hb hby at_47) rfl (l' := #[.val (.int p0), .val (.int p1), .val (.int p2), .val (.int p3), .val (.int ((p0 &&& (2147483647 : Int32)) % (3 : Int32))), .val (.ref (if ((p0 &&& (2147483647 : Int32)) % (3 : Int32)) = 0 then kN else if ((p0 &&& (2147483647 : Int32)) % (3 : Int32)) = 1 then kI else kM)), .val (.ref sa184), .val (.ref ac), .val (.int (0 : Int32))]) rfl kq) ?_
    show GoOn p e below (T200.setTop (mkF m 49 #[.val (.int p0), .val (.int p1), .val (.int p2), .val (.int p3), .val (.int ((p0 &&& (2147483647 : Int32)) % (3 : Int32))), .val (.ref (if ((p0 &&& (2147483647 : Int32)) % (3 : Int32)) = 0 then kN else if ((p0 &&& (2147483647 : Int32)) % (3 : Int32)) = 1 then kI else kM)), .val (.ref sa184), .val (.ref ac), .val (.int (0 : Int32))] [])) _
    refine GoOn.step (fun tq kq => XS.aload X200.here hx rfl (hb hby at_49) rfl rfl kq) ?_
    show GoOn p e below (T200.setTop (mkF m 51 #[.val (.int p0), .val (.int p1), .val (.int p2), .val (.int p3), .val (.int ((p0 &&& (2147483647 : Int32)) % (3 : Int32))), .val (.ref (if ((p0 &&& (2147483647 : Int32)) % (3 : Int32)) = 0 then kN else if ((p0 &&& (2147483647 : Int32)) % (3 : Int32)) = 1 then kI else kM)), .val (.ref sa184), .val (.ref ac), .val (.int (0 : Int32))] [(.ref ac)])) _
    obtain ⟨cqc214, kqc214, qac214, qbc214, qcc214⟩ := isOf hZ200 rfl E206
    obtain ⟨_, _, ⟨T213, L213, k213, n213⟩, -, X213, ⟨Lc213, hQ213, l213, y213, z213⟩, st213⟩ := X200.virtualBack hx (y := (⟨"com/example/subsume/subsume/axioms/AtomicConcept", "isNominal", "()Z"⟩ : MethodName)) (z := (⟨"com/example/subsume/subsume/axioms/AtomicConcept", "isNominal", "()Z"⟩ : MethodName)) hown200 (mvT hZ200 (hw _ (List.mem_of_getElem? (i := 65) rfl))) (mvT hZ200 (hw _ (List.mem_of_getElem? (i := 66) rfl))) (notFace_of_selects (args := #[]) (mvT hZ200 (hw _ (List.mem_of_getElem? (i := 68) rfl)))) (mvT hZ200 (hw _ (List.mem_of_getElem? (i := 68) rfl))) (mvT hZ200 (hw _ (List.mem_of_getElem? (i := 67) rfl))) (by decide) (backOf (W := 0) (rmNom l Z a0 hw ac (if ((p0 &&& (2147483647 : Int32)) % (3 : Int32)) = 0 then kN else if ((p0 &&& (2147483647 : Int32)) % (3 : Int32)) = 1 then kI else kM) kM T200.heap n0 Z203 SM Fb200 O202) hZ200 (hw _ (List.mem_of_getElem? (i := 69) rfl)) (hw _ (List.mem_of_getElem? (i := 43) rfl)) (by decide) (by decide)) qac214 qcc214 (g := (mkF m 51 #[.val (.int p0), .val (.int p1), .val (.int p2), .val (.int p3), .val (.int ((p0 &&& (2147483647 : Int32)) % (3 : Int32))), .val (.ref (if ((p0 &&& (2147483647 : Int32)) % (3 : Int32)) = 0 then kN else if ((p0 &&& (2147483647 : Int32)) % (3 : Int32)) = 1 then kI else kM)), .val (.ref sa184), .val (.ref ac), .val (.int (0 : Int32))] [(.ref ac)])) rfl (by rw [hml]; rfl) (Steps.refl _) (argsL := []) (rest := []) (lenOf own_pd144 rfl) rfl (by show 2 * 0 + _ ≤ _; exact Nat.le_of_eq rfl) (hb hby at_51) (fun _ _ => ⟨rfl, rfl, (by decide : 8 + 0 ≤ _), (by decide : 50 + 0 ≤ _)⟩)
    dsimp only [Pt.U, Pt.locs, Pt.cells, Pt.slots] at X213 l213 y213 z213 st213 hQ213
    subst l213 y213 z213
    obtain ⟨rfl, N213, e213⟩ := hQ213
    refine GoOn.trans st213 ?_
    have N215 := Fr.app N201 N213
    show GoOn p e below (T213.setTop (mkF m 54 #[.val (.int p0), .val (.int p1), .val (.int p2), .val (.int p3), .val (.int ((p0 &&& (2147483647 : Int32)) % (3 : Int32))), .val (.ref (if ((p0 &&& (2147483647 : Int32)) % (3 : Int32)) = 0 then kN else if ((p0 &&& (2147483647 : Int32)) % (3 : Int32)) = 1 then kI else kM)), .val (.ref sa184), .val (.ref ac), .val (.int (0 : Int32))] [(.int (if (if ((p0 &&& (2147483647 : Int32)) % (3 : Int32)) = 0 then kN else if ((p0 &&& (2147483647 : Int32)) % (3 : Int32)) = 1 then kI else kM) = kM then 1 else 0))])) _
    refine GoOn.step (fun tq kq => XS.iload X213.here hx rfl (hb hby at_54) rfl kq) ?_
    show GoOn p e below (T213.setTop (mkF m 56 #[.val (.int p0), .val (.int p1), .val (.int p2), .val (.int p3), .val (.int ((p0 &&& (2147483647 : Int32)) % (3 : Int32))), .val (.ref (if ((p0 &&& (2147483647 : Int32)) % (3 : Int32)) = 0 then kN else if ((p0 &&& (2147483647 : Int32)) % (3 : Int32)) = 1 then kI else kM)), .val (.ref sa184), .val (.ref ac), .val (.int (0 : Int32))] [(.int (0 : Int32)), (.int (if (if ((p0 &&& (2147483647 : Int32)) % (3 : Int32)) = 0 then kN else if ((p0 &&& (2147483647 : Int32)) % (3 : Int32)) = 1 then kI else kM) = kM then 1 else 0))])) _
    refine GoOn.step (fun tq kq => XS.icmpNo X213.here hx rfl (hb hby at_56) rfl (teq (own_ne p0 hNM hIM hc209)).2 kq) ?_
    show GoOn p e below (T213.setTop (mkF m 59 #[.val (.int p0), .val (.int p1), .val (.int p2), .val (.int p3), .val (.int ((p0 &&& (2147483647 : Int32)) % (3 : Int32))), .val (.ref (if ((p0 &&& (2147483647 : Int32)) % (3 : Int32)) = 0 then kN else if ((p0 &&& (2147483647 : Int32)) % (3 : Int32)) = 1 then kI else kM)), .val (.ref sa184), .val (.ref ac), .val (.int (0 : Int32))] [])) _
    refine GoOn.step (fun tq kq => XS.iconst X213.here hx rfl (hb hby at_59) kq) ?_
    show GoOn p e below (T213.setTop (mkF m 60 #[.val (.int p0), .val (.int p1), .val (.int p2), .val (.int p3), .val (.int ((p0 &&& (2147483647 : Int32)) % (3 : Int32))), .val (.ref (if ((p0 &&& (2147483647 : Int32)) % (3 : Int32)) = 0 then kN else if ((p0 &&& (2147483647 : Int32)) % (3 : Int32)) = 1 then kI else kM)), .val (.ref sa184), .val (.ref ac), .val (.int (0 : Int32))] [(.int (1 : Int32))])) _
    refine GoOn.step (fun tq kq => XS.goto X213.here hx rfl (pc0 := 60) (pc' := 64) rfl (hb hby at_60) (by decide) (by decide) kq) ?_
    show GoOn p e below (T213.setTop (mkF m 64 #[.val (.int p0), .val (.int p1), .val (.int p2), .val (.int p3), .val (.int ((p0 &&& (2147483647 : Int32)) % (3 : Int32))), .val (.ref (if ((p0 &&& (2147483647 : Int32)) % (3 : Int32)) = 0 then kN else if ((p0 &&& (2147483647 : Int32)) % (3 : Int32)) = 1 then kI else kM)), .val (.ref sa184), .val (.ref ac), .val (.int (0 : Int32))] [(.int (1 : Int32))])) _
    refine GoOn.retH X213 hZ200 hSn200 (hk200) hEL hh e213 C205 Bd.notSynchronized (v := some (.int (nar .boolean (1 : Int32)))) (fun h => by rw [Bd.returns] at h; cases h) (fun fs hr => retN X213 hx (t := .boolean) Bd.returns (by simp) (hb hby at_64) hr) (by decide) (by decide) ?_
    exact ⟨rfl, N215⟩
set_option maxRecDepth 65536 in
set_option maxHeartbeats 40000000 in
theorem comes_1 {Post : Tables → Env → Array Value → State → Outcome → State → Prop} (hpost : ∀ tb e args s v u, (limb_1_1.after args s (.returned v) u = true ∧ limb_1_2.after args s (.returned v) u = true ∧ True) → ReturnedEndW s (.returned v) u (Jvm.fieldLocs frame_1_writes args s ++ Jvm.arrayLocs frame_1_arrays args s ++ Jvm.staticLocs frame_1_statics s) 24 3200 → Post tb e args s (.returned v) u) :
    ArmFor flags0 classFile x code maxLocals ret World_1 tables_1 room_1 Calls_1 rest_1 Pre_1 Post := by
  intro l hfl _ _ p e ha hc hk s m args below hf hA hF happ hP
  obtain ⟨hcalls, hrest, hpre⟩ := hP
  obtain ⟨-, -, -, hnamed, -, -, -, hat⟩ := (Spec.applies_iff hf).mp happ
  obtain ⟨hg, hn⟩ := and_e (Cond.before_iff.mp (show (Jvm.Cond.and given_1 narrow_1).before args s = true from hpre))
  obtain ⟨hcount, hg0⟩ := and_e hg
  obtain ⟨ha0, hg1⟩ := and_e hg0
  obtain ⟨ha1, hg2⟩ := and_e hg1
  obtain ⟨ha2, hg3⟩ := and_e hg2
  obtain ⟨w0, w1, w2, w3, rfl⟩ : ∃ w0 w1 w2 w3 : Value, args = #[w0, w1, w2, w3] := by
    have hs : args.size = 4 := by simpa [Cond.value, given_1] using hcount
    obtain ⟨L⟩ := args
    match L, hs with
    | [w0, w1, w2, w3], _ => exact ⟨w0, w1, w2, w3, rfl⟩
  have hw := fun d (hd : d ∈ tables_1) => atoms_spec (ws := Jvm.Cond.code x code maxLocals ret :: tables_1) hat d (List.mem_cons_of_mem _ hd)
  have hfit : Fit s := fun {y c} hc i hi => by
    obtain ⟨ha, rfl⟩ := Array.getElem?_eq_some_iff.mp hc
    have q := List.all_eq_true.mp ((Array.all_eq_true_iff_forall_mem.mp hF) _ (Array.getElem_mem ha)) i (List.mem_range.mpr hi)
    simpa [Array.getElem?_eq_getElem hi] using q
  obtain ⟨hsets, hown0⟩ := atoms_of _ (rest_1_c_eq ▸ (show rest_1_c.before _ s = true from hrest))
  have hr0 := Cond.before_iff.mp hown0
  obtain ⟨i0, ei0⟩ := is_v ha0
  obtain rfl : w0 = (.int i0) := Option.some.inj ei0
  obtain ⟨i1, ei1⟩ := is_v ha1
  obtain rfl : w1 = (.int i1) := Option.some.inj ei1
  obtain ⟨i2, ei2⟩ := is_v ha2
  obtain rfl : w2 = (.int i2) := Option.some.inj ei2
  obtain ⟨i3, ei3⟩ := is_v hg3
  obtain rfl : w3 = (.int i3) := Option.some.inj ei3
  have n5 := not_v (Cond.before_iff.mp (hsets _ (List.mem_of_getElem? (i := 2) rfl)))
  obtain ⟨ic, ec⟩ := is_v (Cond.before_iff.mp (hsets _ (List.mem_of_getElem? (i := 1) rfl)))
  have SC : Sta s s.heap "java/lang/String" "COMPACT_STRINGS" "Z" (.int ic) := Sta.start ec (Or.inl (hsets _ (List.mem_of_getElem? (i := 0) rfl)))
  have PC : ¬ (ic = (0 : Int32)) := gotF (Cond.eq_ints ec (Term.int_eval (0))) n5
  obtain ⟨hxN, hn0⟩ := and_e hn
  obtain ⟨hxM, hn1⟩ := and_e hn0
  obtain ⟨hoN, hn2⟩ := and_e hn1
  obtain ⟨hoM, hn3⟩ := and_e hn2
  obtain ⟨hxI, hoI⟩ := and_e hn3
  obtain ⟨kN, eN⟩ := exa_v hxN
  obtain ⟨kI, eI⟩ := exa_v hxI
  obtain ⟨kM, eM⟩ := exa_v hxM
  have SN : Sta s s.heap "com/example/subsume/subsume/axioms/AtomicConcept$Kind" "NAMED" "Lcom/example/subsume/subsume/axioms/AtomicConcept$Kind;" (.ref kN) := Sta.start eN (Or.inr ⟨(hw _ (List.mem_of_getElem? (i := 6) rfl)), (hw _ (List.mem_of_getElem? (i := 7) rfl))⟩)
  have SM : Sta s s.heap "com/example/subsume/subsume/axioms/AtomicConcept$Kind" "NOMINAL" "Lcom/example/subsume/subsume/axioms/AtomicConcept$Kind;" (.ref kM) := Sta.start eM (Or.inr ⟨(hw _ (List.mem_of_getElem? (i := 6) rfl)), (hw _ (List.mem_of_getElem? (i := 71) rfl))⟩)
  have SI : Sta s s.heap "com/example/subsume/subsume/axioms/AtomicConcept$Kind" "INTRODUCED" "Lcom/example/subsume/subsume/axioms/AtomicConcept$Kind;" (.ref kI) := Sta.start eI (Or.inr ⟨(hw _ (List.mem_of_getElem? (i := 6) rfl)), (hw _ (List.mem_of_getElem? (i := 73) rfl))⟩)
  have hNM : kN ≠ kM := own_ord eN eM hoN hoM (by decide)
  have hIM : kI ≠ kM := own_ord eI eM hoI hoM (by decide)
  obtain ⟨n, o, h1, h2, h3, _, L, rfl, ⟨rfl, N⟩, hC, hq⟩ := rm0 l s _ hw tables_1 i0 i1 i2 i3 ic kN kI kM s.heap s.heap.size (Nat.le_refl _) SC PC SN SI SM hNM hIM (Old.start s) p e ha hc hk s m _ below hf ((Spec.applies_iff_loose hf).mp happ).1 ⟨rfl, State.Warmed39.refl s, rfl, (fun p hp => by cases hp)⟩ trivial
  refine ⟨n, _, h1, h2, h3, hpost _ _ _ _ _ _ ⟨Cond.after_iff.mpr rfl, Cond.after_iff.mpr (eq_i res_at (Term.int_eval (1)) rfl), trivial⟩ ⟨hq.1, hq.2.1, hq.2.2.1, (hq.2.2.2.sift fun y hy => Or.inr (N y hy)).mono (by decide) (by decide)⟩⟩
theorem main_1_1 : Claimed_1_1 := comes_1 fun _ _ _ _ _ _ h hF => ⟨h.1, hF⟩
theorem main_1_2 : Claimed_1_2 := comes_1 fun _ _ _ _ _ _ h hF => ⟨h.2.1, hF⟩
end Jvm.Pilot.@@N@@
namespace Jvm.Pilot.@@N@@
open Jvm Jvm.ClassFile Sem Op Lib Jvm.Free Jvm.Stand Jvm.Pilot.@@N@@.Jvm.D
/-! MADE BY PROGRAM (witnessworld.py) out of the Statement's table words and the real class files: 25 classes; the members and pool entries that the words name. The judged class is class 1, her method 3. -/
namespace start1
open Jvm.ClassFile
def u (s : String) : CpInfo := .utf8 (stringToUtf16 s)
/-- a pool by its gaps: so many unusable entries, then the entry; so many at the end -/
def gap : Nat → List CpInfo → List CpInfo
  | 0, r => r
  | n + 1, r => .unusable :: gap n r
def poolList (es : List (Nat × CpInfo)) (last : Nat) : List CpInfo := es.foldr (fun e r => gap e.1 (e.2 :: r)) (gap last [])
def pool (es : List (Nat × CpInfo)) (last : Nat) : Array CpInfo := ⟨poolList es last⟩
def fileOf (pool : Array CpInfo) (this : Nat) (attrs : Array Attribute := #[]) (ms : Array MethodInfo := #[]) (fl : Nat := 33) (sup : Nat := 0) (ifs : Array Nat := #[]) (fds : Array FieldInfo := #[]) : ClassFile where
  minorVersion := 0
  majorVersion := 65
  constantPool := pool
  accessFlags := fl
  thisClass := this
  superClass := sup
  interfaces := ifs
  fields := fds
  methods := ms
  attributes := attrs
def plain (name : String) (sup : Option ClassId) : Class where
  name := name
  kind := .ordinary
  loader := none
  accessFlags := 33
  super := sup
  interfaces := #[]
  cf := none
  fields := #[]
  methods := #[]
  instanceTypes := #[]
  staticTypes := #[]
  resolved := #[]
  callSites := []
  init := .initialized
  statics := none
  mirror := none

def pool0 : Array CpInfo := pool [(5, u "<init>"), (0, u "()V"), (1, .class_ 10), (1, u "java/lang/Object")] 113

def k0c0 : Code := { maxStack := 0, maxLocals := 1, code := object_method_1_code, exceptionTable := #[], attributes := #[] }
def k0m0 : Method := { name := "<init>", desc := "()V", sig := { parameters := [], returnType := none }, accessFlags := 1, code := some k0c0 }
/-- java/lang/Object -/
def k0 : Class := { plain "java/lang/Object" none with
  accessFlags := 33
  interfaces := #[]
  cf := some (fileOf pool0 8 #[] #[{ accessFlags := 1, nameIndex := 5, descriptorIndex := 6, attributes := #[] }] 33 0 #[] #[])
  fields := #[]
  methods := #[k0m0]
  instanceTypes := #[]
  staticTypes := #[]
  resolved := Array.replicate 124 none
  statics := none }

def pool1 : Array CpInfo := pool [(2, .class_ 4), (1, u "java/lang/Object"), (0, u "<init>"), (0, u "()V"), (0, .fieldref 8 9), (0, .class_ 10), (0, .nameAndType 11 12), (0, u "com/example/subsume/subsume/axioms/AtomicConcept$Kind"), (0, u "NAMED"), (0, u "Lcom/example/subsume/subsume/axioms/AtomicConcept$Kind;"), (0, .fieldref 8 14), (0, .nameAndType 15 12), (0, u "INTRODUCED"), (0, .fieldref 8 17), (0, .nameAndType 18 12), (0, u "NOMINAL"), (0, .string 20), (0, u ""), (0, .methodref 22 23), (0, .class_ 24), (0, .nameAndType 25 26), (0, u "java/lang/String"), (0, u "valueOf"), (0, u "(C)Ljava/lang/String;"), (0, .methodref 22 28), (0, .nameAndType 5 29), (0, u "([C)V"), (0, .integer 2147483647), (0, .methodref 32 33), (0, .class_ 34), (0, .nameAndType 35 36), (0, u "com/example/subsume/subsume/axioms/AtomicConceptIsNominalPinLaw"), (0, u "kindOf"), (0, u "(I)Lcom/example/subsume/subsume/axioms/AtomicConcept$Kind;"), (0, .methodref 32 38), (0, .nameAndType 39 40), (0, u "nameOf"), (0, u "(III)Ljava/lang/String;"), (0, .class_ 42), (0, u "com/example/subsume/subsume/axioms/AtomicConcept"), (0, .methodref 41 44), (0, .nameAndType 5 45), (0, u "(Ljava/lang/String;Lcom/example/subsume/subsume/axioms/AtomicConcept$Kind;)V"), (0, .methodref 41 47), (0, .nameAndType 48 49), (0, u "isNominal"), (0, u "()Z"), (3, u "law"), (0, u "(IIII)Z")] 4

def k1m0 : Method := { name := "<init>", desc := "()V", sig := { parameters := [], returnType := none }, accessFlags := 1, code := none }
def k1c1 : Code := { maxStack := 2, maxLocals := 1, code := method_2_code, exceptionTable := #[], attributes := #[] }
def k1m1 : Method := { name := "kindOf", desc := "(I)Lcom/example/subsume/subsume/axioms/AtomicConcept$Kind;", sig := { parameters := [.int], returnType := some (.object "com/example/subsume/subsume/axioms/AtomicConcept$Kind") }, accessFlags := 10, code := some k1c1 }
def k1c2 : Code := { maxStack := 4, maxLocals := 5, code := method_3_code, exceptionTable := #[], attributes := #[] }
def k1m2 : Method := { name := "nameOf", desc := "(III)Ljava/lang/String;", sig := { parameters := [.int, .int, .int], returnType := some (.object "java/lang/String") }, accessFlags := 10, code := some k1c2 }
def k1c3 : Code := { maxStack := 4, maxLocals := 9, code := code, exceptionTable := #[], attributes := #[] }
def k1m3 : Method := { name := "law", desc := "(IIII)Z", sig := { parameters := [.int, .int, .int, .int], returnType := some .boolean }, accessFlags := 9, code := some k1c3 }
/-- com/example/subsume/subsume/axioms/AtomicConceptIsNominalPinLaw -/
def k1 : Class := { plain "com/example/subsume/subsume/axioms/AtomicConceptIsNominalPinLaw" (some 0) with
  accessFlags := 49
  interfaces := #[]
  cf := some (fileOf pool1 32 #[] #[{ accessFlags := 1, nameIndex := 5, descriptorIndex := 6, attributes := #[] }, { accessFlags := 10, nameIndex := 35, descriptorIndex := 36, attributes := #[] }, { accessFlags := 10, nameIndex := 39, descriptorIndex := 40, attributes := #[] }, { accessFlags := 9, nameIndex := 53, descriptorIndex := 54, attributes := #[] }] 49 2 #[] #[])
  fields := #[]
  methods := #[k1m0, k1m1, k1m2, k1m3]
  instanceTypes := #[]
  staticTypes := #[]
  resolved := Array.replicate 59 none
  statics := none }

def pool2 : Array CpInfo := pool [(1, .class_ 2), (0, u "java/lang/constant/Constable"), (0, .class_ 4), (0, u "java/lang/Object")] 6

/-- java/lang/constant/Constable -/
def k2 : Class := { plain "java/lang/constant/Constable" (some 0) with
  accessFlags := 1537
  interfaces := #[]
  cf := some (fileOf pool2 1 #[] #[] 1537 3 #[] #[])
  fields := #[]
  methods := #[]
  instanceTypes := #[]
  staticTypes := #[]
  resolved := Array.replicate 11 none
  statics := none }

def pool3 : Array CpInfo := pool [(1, .class_ 2), (0, u "java/lang/Comparable"), (0, .class_ 4), (0, u "java/lang/Object")] 7

/-- java/lang/Comparable -/
def k3 : Class := { plain "java/lang/Comparable" (some 0) with
  accessFlags := 1537
  interfaces := #[]
  cf := some (fileOf pool3 1 #[] #[] 1537 3 #[] #[])
  fields := #[]
  methods := #[]
  instanceTypes := #[]
  staticTypes := #[]
  resolved := Array.replicate 12 none
  statics := none }

def pool4 : Array CpInfo := pool [(1, .class_ 2), (0, u "java/io/Serializable"), (0, .class_ 4), (0, u "java/lang/Object")] 2

/-- java/io/Serializable -/
def k4 : Class := { plain "java/io/Serializable" (some 0) with
  accessFlags := 1537
  interfaces := #[]
  cf := some (fileOf pool4 1 #[] #[] 1537 3 #[] #[])
  fields := #[]
  methods := #[]
  instanceTypes := #[]
  staticTypes := #[]
  resolved := Array.replicate 7 none
  statics := none }

def pool5 : Array CpInfo := pool [(2, .class_ 4), (1, u "java/lang/Enum"), (0, u "name"), (0, u "Ljava/lang/String;"), (2, u "ordinal"), (0, u "I"), (1, .class_ 14), (1, u "java/lang/Object"), (4, u "hash"), (86, .class_ 108), (1, u "java/lang/Enum$EnumDesc"), (2, .class_ 112), (0, u "java/lang/constant/Constable"), (0, .class_ 114), (0, u "java/lang/Comparable"), (0, .class_ 116), (0, u "java/io/Serializable")] 87

/-- java/lang/Enum -/
def k5 : Class := { plain "java/lang/Enum" (some 0) with
  accessFlags := 1057
  interfaces := #[2, 3, 4]
  cf := some (fileOf pool5 2 #[.nestMembers #[106]] #[] 1057 12 #[111, 113, 115] #[{ accessFlags := 18, nameIndex := 5, descriptorIndex := 6, attributes := #[] }, { accessFlags := 18, nameIndex := 9, descriptorIndex := 10, attributes := #[] }, { accessFlags := 2, nameIndex := 19, descriptorIndex := 10, attributes := #[] }])
  fields := #[{ name := "name", type := (.object "java/lang/String"), accessFlags := 18, slot := 0, constantValue := 0 }, { name := "ordinal", type := .int, accessFlags := 18, slot := 1, constantValue := 0 }, { name := "hash", type := .int, accessFlags := 2, slot := 2, constantValue := 0 }]
  methods := #[]
  instanceTypes := #[(.object "java/lang/String"), .int, .int]
  staticTypes := #[]
  resolved := Array.replicate 204 none
  statics := none }

def pool6 : Array CpInfo := pool [(1, .class_ 2), (0, u "com/example/subsume/subsume/axioms/AtomicConcept$Kind"), (2, u "NAMED"), (0, u "Lcom/example/subsume/subsume/axioms/AtomicConcept$Kind;"), (2, u "INTRODUCED"), (2, u "NOMINAL"), (2, u "$VALUES"), (0, u "[Lcom/example/subsume/subsume/axioms/AtomicConcept$Kind;"), (6, .class_ 25), (1, u "java/lang/Enum"), (26, .class_ 53), (0, u "com/example/subsume/subsume/axioms/AtomicConcept")] 2

/-- com/example/subsume/subsume/axioms/AtomicConcept$Kind -/
def k6 : Class := { plain "com/example/subsume/subsume/axioms/AtomicConcept$Kind" (some 5) with
  accessFlags := 16433
  interfaces := #[]
  cf := some (fileOf pool6 1 #[.nestHost 52] #[] 16433 23 #[] #[{ accessFlags := 16409, nameIndex := 5, descriptorIndex := 6, attributes := #[] }, { accessFlags := 16409, nameIndex := 9, descriptorIndex := 6, attributes := #[] }, { accessFlags := 16409, nameIndex := 12, descriptorIndex := 6, attributes := #[] }, { accessFlags := 4122, nameIndex := 15, descriptorIndex := 16, attributes := #[] }])
  fields := #[{ name := "NAMED", type := (.object "com/example/subsume/subsume/axioms/AtomicConcept$Kind"), accessFlags := 16409, slot := 0, constantValue := 0 }, { name := "INTRODUCED", type := (.object "com/example/subsume/subsume/axioms/AtomicConcept$Kind"), accessFlags := 16409, slot := 1, constantValue := 0 }, { name := "NOMINAL", type := (.object "com/example/subsume/subsume/axioms/AtomicConcept$Kind"), accessFlags := 16409, slot := 2, constantValue := 0 }, { name := "$VALUES", type := (.array (.object "com/example/subsume/subsume/axioms/AtomicConcept$Kind")), accessFlags := 4122, slot := 3, constantValue := 0 }]
  methods := #[]
  instanceTypes := #[(.object "java/lang/String"), .int, .int]
  staticTypes := #[(.object "com/example/subsume/subsume/axioms/AtomicConcept$Kind"), (.object "com/example/subsume/subsume/axioms/AtomicConcept$Kind"), (.object "com/example/subsume/subsume/axioms/AtomicConcept$Kind"), (.array (.object "com/example/subsume/subsume/axioms/AtomicConcept$Kind"))]
  resolved := Array.replicate 56 none
  statics := some 0 }

def pool7 : Array CpInfo := pool [(2, .class_ 4), (1, u "java/lang/CharSequence"), (42, .class_ 48), (0, u "java/lang/CharSequence$1CodePointIterator"), (10, .class_ 60), (0, u "java/lang/CharSequence$1CharIterator"), (5, .class_ 67), (0, u "java/lang/Object")] 63

/-- java/lang/CharSequence -/
def k7 : Class := { plain "java/lang/CharSequence" (some 0) with
  accessFlags := 1537
  interfaces := #[]
  cf := some (fileOf pool7 2 #[.nestMembers #[47, 59]] #[] 1537 66 #[] #[])
  fields := #[]
  methods := #[]
  instanceTypes := #[]
  staticTypes := #[]
  resolved := Array.replicate 131 none
  statics := none }

def pool8 : Array CpInfo := pool [(1, .class_ 2), (0, u "java/lang/constant/ConstantDesc"), (0, .class_ 4), (0, u "java/lang/Object")] 32

/-- java/lang/constant/ConstantDesc -/
def k8 : Class := { plain "java/lang/constant/ConstantDesc" (some 0) with
  accessFlags := 1537
  interfaces := #[]
  cf := some (fileOf pool8 1 #[] #[] 1537 3 #[] #[])
  fields := #[]
  methods := #[]
  instanceTypes := #[]
  staticTypes := #[]
  resolved := Array.replicate 37 none
  statics := none }

def pool9 : Array CpInfo := pool [(1, .methodref 2 3), (0, .class_ 4), (0, .nameAndType 5 6), (0, u "java/lang/Object"), (0, u "<init>"), (0, u "()V"), (2, .fieldref 10 11), (0, .class_ 12), (0, .nameAndType 13 14), (0, u "java/lang/String"), (0, u "value"), (0, u "[B"), (0, .fieldref 10 16), (0, .nameAndType 17 18), (0, u "coder"), (0, u "B"), (2, u "hash"), (0, u "I"), (2, u "hashIsZero"), (0, u "Z"), (0, .methodref 10 28), (0, .nameAndType 5 29), (0, u "([CIILjava/lang/Void;)V"), (8, .fieldref 10 39), (0, .nameAndType 40 26), (0, u "COMPACT_STRINGS"), (1, .class_ 44), (1, u "java/lang/StringUTF16"), (0, u "compress"), (1, .methodref 42 48), (0, .nameAndType 49 50), (0, u "coderFromArrayLen"), (0, u "([BI)B"), (2, u "toBytes"), (53, .class_ 109), (1, u "java/lang/StringLatin1"), (67, .methodref 42 178), (0, .nameAndType 45 179), (0, u "([CII)[B"), (29, .methodref 10 210), (0, .nameAndType 5 211), (0, u "([BB)V"), (157, u "(C)Z"), (205, .class_ 576), (0, u "java/lang/CharSequence"), (22, u "CASE_INSENSITIVE_ORDER"), (0, u "Ljava/util/Comparator;"), (181, u "valueOf"), (0, u "(C)Ljava/lang/String;"), (226, u "([C)V"), (4, .methodref 107 1016), (0, .nameAndType 1017 369), (0, u "canEncode"), (0, .methodref 107 1019), (0, .nameAndType 53 1020), (0, u "(C)[B"), (80, u "serialPersistentFields"), (0, u "[Ljava/io/ObjectStreamField;"), (0, .class_ 1104), (0, u "java/lang/String$CaseInsensitiveComparator"), (1, .class_ 1107), (0, u "java/io/Serializable"), (0, .class_ 1109), (0, u "java/lang/Comparable"), (0, .class_ 1111), (0, u "java/lang/constant/Constable"), (0, .class_ 1113), (0, u "java/lang/constant/ConstantDesc"), (2, u "serialVersionUID"), (0, u "J"), (3, u "REPL"), (0, u "C"), (2, u "LATIN1"), (1, u "UTF16")] 323

def k9m0 : Method := { name := "<init>", desc := "()V", sig := { parameters := [], returnType := none }, accessFlags := 1, code := none }
def k9c1 : Code := { maxStack := 5, maxLocals := 2, code := jdk_42_method_3_code, exceptionTable := #[], attributes := #[] }
def k9m1 : Method := { name := "<init>", desc := "([C)V", sig := { parameters := [(.array .char)], returnType := none }, accessFlags := 1, code := some k9c1 }
def k9c2 : Code := { maxStack := 4, maxLocals := 1, code := jdk_42_method_139_code, exceptionTable := #[], attributes := #[] }
def k9m2 : Method := { name := "valueOf", desc := "(C)Ljava/lang/String;", sig := { parameters := [.char], returnType := some (.object "java/lang/String") }, accessFlags := 9, code := some k9c2 }
def k9c3 : Code := { maxStack := 4, maxLocals := 6, code := jdk_42_method_149_code, exceptionTable := #[], attributes := #[] }
def k9m3 : Method := { name := "<init>", desc := "([CIILjava/lang/Void;)V", sig := { parameters := [(.array .char), .int, .int, (.object "java/lang/Void")], returnType := none }, accessFlags := 2, code := some k9c3 }
def k9c4 : Code := { maxStack := 2, maxLocals := 3, code := jdk_42_method_151_code, exceptionTable := #[], attributes := #[] }
def k9m4 : Method := { name := "<init>", desc := "([BB)V", sig := { parameters := [(.array .byte), .byte], returnType := none }, accessFlags := 0, code := some k9c4 }
/-- java/lang/String -/
def k9 : Class := { plain "java/lang/String" (some 0) with
  accessFlags := 49
  interfaces := #[4, 3, 7, 2, 8]
  cf := some (fileOf pool9 10 #[.nestMembers #[1103]] #[{ accessFlags := 1, nameIndex := 5, descriptorIndex := 6, attributes := #[] }, { accessFlags := 1, nameIndex := 5, descriptorIndex := 1010, attributes := #[] }, { accessFlags := 9, nameIndex := 782, descriptorIndex := 783, attributes := #[] }, { accessFlags := 2, nameIndex := 5, descriptorIndex := 29, attributes := #[] }, { accessFlags := 0, nameIndex := 5, descriptorIndex := 211, attributes := #[] }] 49 2 #[1106, 1108, 575, 1110, 1112] #[{ accessFlags := 18, nameIndex := 13, descriptorIndex := 14, attributes := #[] }, { accessFlags := 18, nameIndex := 17, descriptorIndex := 18, attributes := #[] }, { accessFlags := 2, nameIndex := 21, descriptorIndex := 22, attributes := #[] }, { accessFlags := 2, nameIndex := 25, descriptorIndex := 26, attributes := #[] }, { accessFlags := 26, nameIndex := 1116, descriptorIndex := 1117, attributes := #[] }, { accessFlags := 24, nameIndex := 40, descriptorIndex := 26, attributes := #[] }, { accessFlags := 26, nameIndex := 1101, descriptorIndex := 1102, attributes := #[] }, { accessFlags := 26, nameIndex := 1121, descriptorIndex := 1122, attributes := #[] }, { accessFlags := 25, nameIndex := 599, descriptorIndex := 600, attributes := #[] }, { accessFlags := 24, nameIndex := 1125, descriptorIndex := 18, attributes := #[] }, { accessFlags := 24, nameIndex := 1127, descriptorIndex := 18, attributes := #[] }])
  fields := #[{ name := "value", type := (.array .byte), accessFlags := 18, slot := 0, constantValue := 0 }, { name := "coder", type := .byte, accessFlags := 18, slot := 1, constantValue := 0 }, { name := "hash", type := .int, accessFlags := 2, slot := 2, constantValue := 0 }, { name := "hashIsZero", type := .boolean, accessFlags := 2, slot := 3, constantValue := 0 }, { name := "serialVersionUID", type := .long, accessFlags := 26, slot := 0, constantValue := 0 }, { name := "COMPACT_STRINGS", type := .boolean, accessFlags := 24, slot := 1, constantValue := 0 }, { name := "serialPersistentFields", type := (.array (.object "java/io/ObjectStreamField")), accessFlags := 26, slot := 2, constantValue := 0 }, { name := "REPL", type := .char, accessFlags := 26, slot := 3, constantValue := 0 }, { name := "CASE_INSENSITIVE_ORDER", type := (.object "java/util/Comparator"), accessFlags := 25, slot := 4, constantValue := 0 }, { name := "LATIN1", type := .byte, accessFlags := 24, slot := 5, constantValue := 0 }, { name := "UTF16", type := .byte, accessFlags := 24, slot := 6, constantValue := 0 }]
  methods := #[k9m0, k9m1, k9m2, k9m3, k9m4]
  instanceTypes := #[(.array .byte), .byte, .int, .boolean]
  staticTypes := #[.long, .boolean, (.array (.object "java/io/ObjectStreamField")), .char, (.object "java/util/Comparator"), .byte, .byte]
  resolved := Array.replicate 1451 none
  statics := some 1 }

def pool10 : Array CpInfo := pool [(6, .class_ 8), (1, u "java/lang/Object"), (0, u "<init>"), (0, u "()V"), (1, .class_ 14), (1, u "java/lang/StringUTF16"), (31, u "$assertionsDisabled"), (0, u "Z"), (13, u "HI_BYTE_SHIFT"), (0, u "I"), (2, u "LO_BYTE_SHIFT"), (49, .methodref 12 116), (0, .nameAndType 117 118), (0, u "compress"), (0, u "([CI[BII)I"), (3, u "([CII)[B"), (138, u "coderFromArrayLen"), (0, u "([BI)B"), (106, .class_ 371), (1, u "java/lang/StringUTF16$LinesSpliterator"), (58, u "MAX_LENGTH"), (196, .class_ 628), (0, u "java/lang/StringUTF16$CodePointsSpliterator"), (0, .class_ 630), (0, u "java/lang/StringUTF16$CharsSpliterator")] 4

def k10m0 : Method := { name := "<init>", desc := "()V", sig := { parameters := [], returnType := none }, accessFlags := 0, code := none }
def k10c1 : Code := { maxStack := 2, maxLocals := 2, code := jdk_52_method_15_code, exceptionTable := #[], attributes := #[] }
def k10m1 : Method := { name := "coderFromArrayLen", desc := "([BI)B", sig := { parameters := [(.array .byte), .int], returnType := some .byte }, accessFlags := 8, code := some k10c1 }
def k10c2 : Code := { maxStack := 5, maxLocals := 6, code := jdk_52_method_16_code, exceptionTable := #[], attributes := #[] }
def k10m2 : Method := { name := "compress", desc := "([CII)[B", sig := { parameters := [(.array .char), .int, .int], returnType := some (.array .byte) }, accessFlags := 9, code := some k10c2 }
def k10c3 : Code := { maxStack := 3, maxLocals := 7, code := jdk_52_method_21_code, exceptionTable := #[], attributes := #[] }
def k10m3 : Method := { name := "compress", desc := "([CI[BII)I", sig := { parameters := [(.array .char), .int, (.array .byte), .int, .int], returnType := some .int }, accessFlags := 9, code := some k10c3 }
/-- java/lang/StringUTF16 -/
def k10 : Class := { plain "java/lang/StringUTF16" (some 0) with
  accessFlags := 48
  interfaces := #[]
  cf := some (fileOf pool10 12 #[.nestMembers #[627, 629, 369]] #[{ accessFlags := 0, nameIndex := 9, descriptorIndex := 10, attributes := #[] }, { accessFlags := 8, nameIndex := 261, descriptorIndex := 262, attributes := #[] }, { accessFlags := 9, nameIndex := 117, descriptorIndex := 122, attributes := #[] }, { accessFlags := 9, nameIndex := 117, descriptorIndex := 118, attributes := #[] }] 48 6 #[] #[{ accessFlags := 26, nameIndex := 61, descriptorIndex := 62, attributes := #[] }, { accessFlags := 26, nameIndex := 65, descriptorIndex := 62, attributes := #[] }, { accessFlags := 24, nameIndex := 430, descriptorIndex := 62, attributes := #[] }, { accessFlags := 4120, nameIndex := 46, descriptorIndex := 47, attributes := #[] }])
  fields := #[{ name := "HI_BYTE_SHIFT", type := .int, accessFlags := 26, slot := 0, constantValue := 0 }, { name := "LO_BYTE_SHIFT", type := .int, accessFlags := 26, slot := 1, constantValue := 0 }, { name := "MAX_LENGTH", type := .int, accessFlags := 24, slot := 2, constantValue := 0 }, { name := "$assertionsDisabled", type := .boolean, accessFlags := 4120, slot := 3, constantValue := 0 }]
  methods := #[k10m0, k10m1, k10m2, k10m3]
  instanceTypes := #[]
  staticTypes := #[.int, .int, .int, .boolean]
  resolved := Array.replicate 635 none
  statics := none }

def pool11 : Array CpInfo := pool [(1, .methodref 2 3), (0, .class_ 4), (0, .nameAndType 5 6), (0, u "java/lang/Object"), (0, u "<init>"), (0, u "()V"), (0, .class_ 8), (0, u "java/lang/Record")] 13

def k11c0 : Code := { maxStack := 1, maxLocals := 1, code := jdk_30_method_1_code, exceptionTable := #[], attributes := #[] }
def k11m0 : Method := { name := "<init>", desc := "()V", sig := { parameters := [], returnType := none }, accessFlags := 4, code := some k11c0 }
/-- java/lang/Record -/
def k11 : Class := { plain "java/lang/Record" (some 0) with
  accessFlags := 1057
  interfaces := #[]
  cf := some (fileOf pool11 7 #[] #[{ accessFlags := 4, nameIndex := 5, descriptorIndex := 6, attributes := #[] }] 1057 2 #[] #[])
  fields := #[]
  methods := #[k11m0]
  instanceTypes := #[]
  staticTypes := #[]
  resolved := Array.replicate 22 none
  statics := none }

def pool12 : Array CpInfo := pool [(1, .class_ 2), (0, u "com/example/subsume/subsume/axioms/Concept$Top"), (5, .class_ 10), (1, u "com/example/subsume/subsume/axioms/Concept"), (0, u "TOP"), (0, u "Lcom/example/subsume/subsume/axioms/Concept;"), (0, .class_ 14), (0, u "com/example/subsume/subsume/axioms/Concept$Bottom"), (3, u "BOTTOM"), (0, .class_ 20), (0, u "java/lang/Object"), (6, .class_ 28), (0, u "com/example/subsume/subsume/axioms/Concept$AtMost"), (0, .class_ 30), (0, u "com/example/subsume/subsume/axioms/Concept$AtLeast"), (0, .class_ 32), (0, u "com/example/subsume/subsume/axioms/Concept$All"), (0, .class_ 34), (0, u "com/example/subsume/subsume/axioms/Concept$Or"), (0, .class_ 36), (0, u "com/example/subsume/subsume/axioms/Concept$And"), (0, .class_ 38), (0, u "com/example/subsume/subsume/axioms/Concept$Not")] 12

/-- com/example/subsume/subsume/axioms/Concept -/
def k12 : Class := { plain "com/example/subsume/subsume/axioms/Concept" (some 0) with
  accessFlags := 1537
  interfaces := #[]
  cf := some (fileOf pool12 8 #[.nestMembers #[27, 29, 31, 33, 35, 37, 13, 1]] #[] 1537 19 #[] #[{ accessFlags := 25, nameIndex := 11, descriptorIndex := 12, attributes := #[] }, { accessFlags := 25, nameIndex := 18, descriptorIndex := 12, attributes := #[] }])
  fields := #[{ name := "TOP", type := (.object "com/example/subsume/subsume/axioms/Concept"), accessFlags := 25, slot := 0, constantValue := 0 }, { name := "BOTTOM", type := (.object "com/example/subsume/subsume/axioms/Concept"), accessFlags := 25, slot := 1, constantValue := 0 }]
  methods := #[]
  instanceTypes := #[]
  staticTypes := #[(.object "com/example/subsume/subsume/axioms/Concept"), (.object "com/example/subsume/subsume/axioms/Concept")]
  resolved := Array.replicate 51 none
  statics := none }

def pool13 : Array CpInfo := pool [(1, .methodref 2 3), (0, .class_ 4), (0, .nameAndType 5 6), (0, u "java/lang/Record"), (0, u "<init>"), (0, u "()V"), (0, .string 8), (0, u "name"), (0, .methodref 10 11), (0, .class_ 12), (0, .nameAndType 13 14), (0, u "java/util/Objects"), (0, u "requireNonNull"), (0, u "(Ljava/lang/Object;Ljava/lang/String;)Ljava/lang/Object;"), (0, .string 16), (0, u "kind"), (0, .fieldref 18 19), (0, .class_ 20), (0, .nameAndType 8 21), (0, u "com/example/subsume/subsume/axioms/AtomicConcept"), (0, u "Ljava/lang/String;"), (0, .fieldref 18 23), (0, .nameAndType 16 24), (0, u "Lcom/example/subsume/subsume/axioms/AtomicConcept$Kind;"), (1, .class_ 28), (1, u "com/example/subsume/subsume/axioms/AtomicConcept$Kind"), (3, u "(Ljava/lang/String;Lcom/example/subsume/subsume/axioms/AtomicConcept$Kind;)V"), (13, .fieldref 26 47), (0, .nameAndType 48 24), (0, u "NOMINAL"), (34, .class_ 84), (0, u "com/example/subsume/subsume/axioms/Concept"), (9, u "isNominal"), (0, u "()Z")] 33

def k13c0 : Code := { maxStack := 2, maxLocals := 3, code := prog_6_method_1_code, exceptionTable := #[], attributes := #[] }
def k13m0 : Method := { name := "<init>", desc := "(Ljava/lang/String;Lcom/example/subsume/subsume/axioms/AtomicConcept$Kind;)V", sig := { parameters := [(.object "java/lang/String"), (.object "com/example/subsume/subsume/axioms/AtomicConcept$Kind")], returnType := none }, accessFlags := 1, code := some k13c0 }
def k13c1 : Code := { maxStack := 2, maxLocals := 1, code := prog_6_method_5_code, exceptionTable := #[], attributes := #[] }
def k13m1 : Method := { name := "isNominal", desc := "()Z", sig := { parameters := [], returnType := some .boolean }, accessFlags := 1, code := some k13c1 }
/-- com/example/subsume/subsume/axioms/AtomicConcept -/
def k13 : Class := { plain "com/example/subsume/subsume/axioms/AtomicConcept" (some 11) with
  accessFlags := 49
  interfaces := #[12]
  cf := some (fileOf pool13 18 #[.nestMembers #[26]] #[{ accessFlags := 1, nameIndex := 5, descriptorIndex := 32, attributes := #[] }, { accessFlags := 1, nameIndex := 94, descriptorIndex := 95, attributes := #[] }] 49 2 #[83] #[{ accessFlags := 18, nameIndex := 8, descriptorIndex := 21, attributes := #[] }, { accessFlags := 18, nameIndex := 16, descriptorIndex := 24, attributes := #[] }])
  fields := #[{ name := "name", type := (.object "java/lang/String"), accessFlags := 18, slot := 0, constantValue := 0 }, { name := "kind", type := (.object "com/example/subsume/subsume/axioms/AtomicConcept$Kind"), accessFlags := 18, slot := 1, constantValue := 0 }]
  methods := #[k13m0, k13m1]
  instanceTypes := #[(.object "java/lang/String"), (.object "com/example/subsume/subsume/axioms/AtomicConcept$Kind")]
  staticTypes := #[]
  resolved := Array.replicate 129 none
  statics := none }

def pool14 : Array CpInfo := pool [(2, .class_ 4), (1, u "java/lang/Object"), (0, u "<init>"), (0, u "()V"), (35, .class_ 44), (1, u "java/util/Objects"), (0, u "requireNonNull"), (48, u "(Ljava/lang/Object;Ljava/lang/String;)Ljava/lang/Object;")] 89

def k14m0 : Method := { name := "<init>", desc := "()V", sig := { parameters := [], returnType := none }, accessFlags := 2, code := none }
def k14c1 : Code := { maxStack := 3, maxLocals := 2, code := jdk_31_method_11_code, exceptionTable := #[], attributes := #[] }
def k14m1 : Method := { name := "requireNonNull", desc := "(Ljava/lang/Object;Ljava/lang/String;)Ljava/lang/Object;", sig := { parameters := [(.object "java/lang/Object"), (.object "java/lang/String")], returnType := some (.object "java/lang/Object") }, accessFlags := 9, code := some k14c1 }
/-- java/util/Objects -/
def k14 : Class := { plain "java/util/Objects" (some 0) with
  accessFlags := 49
  interfaces := #[]
  cf := some (fileOf pool14 42 #[] #[{ accessFlags := 2, nameIndex := 5, descriptorIndex := 6, attributes := #[] }, { accessFlags := 9, nameIndex := 45, descriptorIndex := 94, attributes := #[] }] 49 2 #[] #[])
  fields := #[]
  methods := #[k14m0, k14m1]
  instanceTypes := #[]
  staticTypes := #[]
  resolved := Array.replicate 184 none
  statics := none }

def pool15 : Array CpInfo := pool [(4, .class_ 6), (1, u "java/lang/Object"), (0, u "<init>"), (0, u "()V"), (5, .class_ 16), (1, u "java/lang/StringLatin1"), (73, u "canEncode"), (14, u "(C)Z"), (15, u "$assertionsDisabled"), (0, u "Z"), (98, .class_ 223), (1, u "java/lang/StringLatin1$LinesSpliterator"), (156, u "toBytes"), (1, u "(C)[B"), (7, .class_ 391), (0, u "java/lang/StringLatin1$CharsSpliterator")] 3

def k15m0 : Method := { name := "<init>", desc := "()V", sig := { parameters := [], returnType := none }, accessFlags := 0, code := none }
def k15c1 : Code := { maxStack := 2, maxLocals := 1, code := jdk_43_method_3_code, exceptionTable := #[], attributes := #[] }
def k15m1 : Method := { name := "canEncode", desc := "(C)Z", sig := { parameters := [.char], returnType := some .boolean }, accessFlags := 9, code := some k15c1 }
def k15c2 : Code := { maxStack := 4, maxLocals := 1, code := jdk_43_method_46_code, exceptionTable := #[], attributes := #[] }
def k15m2 : Method := { name := "toBytes", desc := "(C)[B", sig := { parameters := [.char], returnType := some (.array .byte) }, accessFlags := 9, code := some k15c2 }
/-- java/lang/StringLatin1 -/
def k15 : Class := { plain "java/lang/StringLatin1" (some 0) with
  accessFlags := 48
  interfaces := #[]
  cf := some (fileOf pool15 14 #[.nestMembers #[390, 221]] #[{ accessFlags := 0, nameIndex := 7, descriptorIndex := 8, attributes := #[] }, { accessFlags := 9, nameIndex := 90, descriptorIndex := 105, attributes := #[] }, { accessFlags := 9, nameIndex := 380, descriptorIndex := 382, attributes := #[] }] 48 4 #[] #[{ accessFlags := 4120, nameIndex := 121, descriptorIndex := 122, attributes := #[] }])
  fields := #[{ name := "$assertionsDisabled", type := .boolean, accessFlags := 4120, slot := 0, constantValue := 0 }]
  methods := #[k15m0, k15m1, k15m2]
  instanceTypes := #[]
  staticTypes := #[.boolean]
  resolved := Array.replicate 395 none
  statics := none }

def pool16 : Array CpInfo := pool [(2, .class_ 4), (1, u "java/lang/Object"), (0, u "<init>"), (0, u "()V"), (17, .class_ 26), (1, u "jdk/internal/util/Preconditions"), (28, .class_ 56), (0, u "jdk/internal/util/Preconditions$4"), (57, .class_ 115), (0, u "jdk/internal/util/Preconditions$1"), (7, u "SIOOBE_FORMATTER"), (0, u "Ljava/util/function/BiFunction;"), (0, .class_ 126), (0, u "jdk/internal/util/Preconditions$2"), (3, u "AIOOBE_FORMATTER"), (0, .class_ 132), (0, u "jdk/internal/util/Preconditions$3"), (3, u "IOOBE_FORMATTER")] 57

def k16m0 : Method := { name := "<init>", desc := "()V", sig := { parameters := [], returnType := none }, accessFlags := 1, code := none }
/-- jdk/internal/util/Preconditions -/
def k16 : Class := { plain "jdk/internal/util/Preconditions" (some 0) with
  accessFlags := 33
  interfaces := #[]
  cf := some (fileOf pool16 24 #[.nestMembers #[55, 131, 125, 114]] #[{ accessFlags := 1, nameIndex := 5, descriptorIndex := 6, attributes := #[] }] 33 2 #[] #[{ accessFlags := 25, nameIndex := 123, descriptorIndex := 124, attributes := #[] }, { accessFlags := 25, nameIndex := 130, descriptorIndex := 124, attributes := #[] }, { accessFlags := 25, nameIndex := 136, descriptorIndex := 124, attributes := #[] }])
  fields := #[{ name := "SIOOBE_FORMATTER", type := (.object "java/util/function/BiFunction"), accessFlags := 25, slot := 0, constantValue := 0 }, { name := "AIOOBE_FORMATTER", type := (.object "java/util/function/BiFunction"), accessFlags := 25, slot := 1, constantValue := 0 }, { name := "IOOBE_FORMATTER", type := (.object "java/util/function/BiFunction"), accessFlags := 25, slot := 2, constantValue := 0 }]
  methods := #[k16m0]
  instanceTypes := #[]
  staticTypes := #[(.object "java/util/function/BiFunction"), (.object "java/util/function/BiFunction"), (.object "java/util/function/BiFunction")]
  resolved := Array.replicate 194 none
  statics := some 2 }

def pool17 : Array CpInfo := pool [(9, u "<init>"), (6, .class_ 18), (1, u "java/lang/Object"), (0, u "()V"), (1, .class_ 23), (1, u "jdk/internal/util/ArraysSupport"), (0, u "LOG2_ARRAY_LONG_INDEX_SCALE"), (0, u "I"), (2, u "U"), (0, u "Ljdk/internal/misc/Unsafe;"), (8, u "BIG_ENDIAN"), (0, u "Z"), (8, u "LOG2_BYTE_BIT_SIZE"), (4, u "LOG2_ARRAY_INT_INDEX_SCALE"), (54, u "JLA"), (0, u "Ljdk/internal/access/JavaLangAccess;"), (11, u "LOG2_ARRAY_BOOLEAN_INDEX_SCALE"), (9, u "LOG2_ARRAY_BYTE_INDEX_SCALE"), (5, u "LOG2_ARRAY_CHAR_INDEX_SCALE"), (5, u "LOG2_ARRAY_SHORT_INDEX_SCALE"), (18, u "LOG2_ARRAY_FLOAT_INDEX_SCALE"), (24, u "LOG2_ARRAY_DOUBLE_INDEX_SCALE"), (89, u "T_BOOLEAN"), (2, u "T_CHAR"), (1, u "T_FLOAT"), (1, u "T_DOUBLE"), (1, u "T_BYTE"), (1, u "T_SHORT"), (1, u "T_INT"), (1, u "T_LONG"), (1, u "SOFT_MAX_ARRAY_LENGTH")] 83

def k17m0 : Method := { name := "<init>", desc := "()V", sig := { parameters := [], returnType := none }, accessFlags := 2, code := none }
/-- jdk/internal/util/ArraysSupport -/
def k17 : Class := { plain "jdk/internal/util/ArraysSupport" (some 0) with
  accessFlags := 33
  interfaces := #[]
  cf := some (fileOf pool17 21 #[] #[{ accessFlags := 2, nameIndex := 9, descriptorIndex := 19, attributes := #[] }] 33 16 #[] #[{ accessFlags := 24, nameIndex := 28, descriptorIndex := 29, attributes := #[] }, { accessFlags := 26, nameIndex := 38, descriptorIndex := 39, attributes := #[] }, { accessFlags := 25, nameIndex := 121, descriptorIndex := 25, attributes := #[] }, { accessFlags := 25, nameIndex := 131, descriptorIndex := 25, attributes := #[] }, { accessFlags := 25, nameIndex := 137, descriptorIndex := 25, attributes := #[] }, { accessFlags := 25, nameIndex := 143, descriptorIndex := 25, attributes := #[] }, { accessFlags := 25, nameIndex := 53, descriptorIndex := 25, attributes := #[] }, { accessFlags := 25, nameIndex := 24, descriptorIndex := 25, attributes := #[] }, { accessFlags := 25, nameIndex := 162, descriptorIndex := 25, attributes := #[] }, { accessFlags := 25, nameIndex := 187, descriptorIndex := 25, attributes := #[] }, { accessFlags := 26, nameIndex := 48, descriptorIndex := 25, attributes := #[] }, { accessFlags := 25, nameIndex := 277, descriptorIndex := 25, attributes := #[] }, { accessFlags := 25, nameIndex := 280, descriptorIndex := 25, attributes := #[] }, { accessFlags := 25, nameIndex := 282, descriptorIndex := 25, attributes := #[] }, { accessFlags := 25, nameIndex := 284, descriptorIndex := 25, attributes := #[] }, { accessFlags := 25, nameIndex := 286, descriptorIndex := 25, attributes := #[] }, { accessFlags := 25, nameIndex := 288, descriptorIndex := 25, attributes := #[] }, { accessFlags := 25, nameIndex := 290, descriptorIndex := 25, attributes := #[] }, { accessFlags := 25, nameIndex := 292, descriptorIndex := 25, attributes := #[] }, { accessFlags := 26, nameIndex := 108, descriptorIndex := 109, attributes := #[] }, { accessFlags := 25, nameIndex := 294, descriptorIndex := 25, attributes := #[] }])
  fields := #[{ name := "U", type := (.object "jdk/internal/misc/Unsafe"), accessFlags := 24, slot := 0, constantValue := 0 }, { name := "BIG_ENDIAN", type := .boolean, accessFlags := 26, slot := 1, constantValue := 0 }, { name := "LOG2_ARRAY_BOOLEAN_INDEX_SCALE", type := .int, accessFlags := 25, slot := 2, constantValue := 0 }, { name := "LOG2_ARRAY_BYTE_INDEX_SCALE", type := .int, accessFlags := 25, slot := 3, constantValue := 0 }, { name := "LOG2_ARRAY_CHAR_INDEX_SCALE", type := .int, accessFlags := 25, slot := 4, constantValue := 0 }, { name := "LOG2_ARRAY_SHORT_INDEX_SCALE", type := .int, accessFlags := 25, slot := 5, constantValue := 0 }, { name := "LOG2_ARRAY_INT_INDEX_SCALE", type := .int, accessFlags := 25, slot := 6, constantValue := 0 }, { name := "LOG2_ARRAY_LONG_INDEX_SCALE", type := .int, accessFlags := 25, slot := 7, constantValue := 0 }, { name := "LOG2_ARRAY_FLOAT_INDEX_SCALE", type := .int, accessFlags := 25, slot := 8, constantValue := 0 }, { name := "LOG2_ARRAY_DOUBLE_INDEX_SCALE", type := .int, accessFlags := 25, slot := 9, constantValue := 0 }, { name := "LOG2_BYTE_BIT_SIZE", type := .int, accessFlags := 26, slot := 10, constantValue := 0 }, { name := "T_BOOLEAN", type := .int, accessFlags := 25, slot := 11, constantValue := 0 }, { name := "T_CHAR", type := .int, accessFlags := 25, slot := 12, constantValue := 0 }, { name := "T_FLOAT", type := .int, accessFlags := 25, slot := 13, constantValue := 0 }, { name := "T_DOUBLE", type := .int, accessFlags := 25, slot := 14, constantValue := 0 }, { name := "T_BYTE", type := .int, accessFlags := 25, slot := 15, constantValue := 0 }, { name := "T_SHORT", type := .int, accessFlags := 25, slot := 16, constantValue := 0 }, { name := "T_INT", type := .int, accessFlags := 25, slot := 17, constantValue := 0 }, { name := "T_LONG", type := .int, accessFlags := 25, slot := 18, constantValue := 0 }, { name := "JLA", type := (.object "jdk/internal/access/JavaLangAccess"), accessFlags := 26, slot := 19, constantValue := 0 }, { name := "SOFT_MAX_ARRAY_LENGTH", type := .int, accessFlags := 25, slot := 20, constantValue := 0 }]
  methods := #[k17m0]
  instanceTypes := #[]
  staticTypes := #[(.object "jdk/internal/misc/Unsafe"), .boolean, .int, .int, .int, .int, .int, .int, .int, .int, .int, .int, .int, .int, .int, .int, .int, .int, .int, (.object "jdk/internal/access/JavaLangAccess"), .int]
  resolved := Array.replicate 378 none
  statics := none }

def pool18 : Array CpInfo := pool [(1, u "java/lang/Cloneable"), (0, .class_ 1), (0, u "java/lang/Object"), (0, .class_ 3)] 3

/-- java/lang/Cloneable -/
def k18 : Class := { plain "java/lang/Cloneable" (some 0) with
  accessFlags := 1537
  interfaces := #[]
  cf := some (fileOf pool18 2 #[] #[] 1537 4 #[] #[])
  fields := #[]
  methods := #[]
  instanceTypes := #[]
  staticTypes := #[]
  resolved := Array.replicate 8 none
  statics := none }

/-- the primitive byte -/
def k19 : Class := { plain "byte" none with kind := .primitive 'B', accessFlags := 0x411 }
/-- [B -/
def k20 : Class := { plain "[B" (some 0) with kind := .array 19 .byte, interfaces := #[18, 4], accessFlags := 1041 }

/-- the primitive char -/
def k21 : Class := { plain "char" none with kind := .primitive 'C', accessFlags := 0x411 }
/-- [C -/
def k22 : Class := { plain "[C" (some 0) with kind := .array 21 .char, interfaces := #[18, 4], accessFlags := 1041 }

/-- the primitive int -/
def k23 : Class := { plain "int" none with kind := .primitive 'I', accessFlags := 0x411 }
/-- [I -/
def k24 : Class := { plain "[I" (some 0) with kind := .array 23 .int, interfaces := #[18, 4], accessFlags := 1041 }

def heap : Heap := #[{ cls := 6, slots := #[.ref 3, .ref 4, .ref 5, .null], vm := .statics 6 },
  { cls := 9, slots := #[.long 0, .int 1, .null, .int 0, .null, .int 0, .int 0], vm := .statics 9 },
  { cls := 16, slots := #[.null, .null, .null], vm := .statics 16 },
  { cls := 6, slots := #[.null, .int 0, .int 0], vm := .none },
  { cls := 6, slots := #[.null, .int 1, .int 0], vm := .none },
  { cls := 6, slots := #[.null, .int 2, .int 0], vm := .none }]
def classes : Array Class := #[k0, k1, k2, k3, k4, k5, k6, k7, k8, k9, k10, k11, k12, k13, k14, k15, k16, k17, k18, k19, k20, k21, k22, k23, k24]
def interned : List (Array UInt16 × Addr) := []
def slotsUsed : Nat := 23
def theMethod : MethodId := ⟨1, 3⟩
def args0 : Array Value := #[.int 5, .int 5, .int 5, .int 5]
def aboutOver (below : List Frame) : State where
  vm := { classes := classes, interned := interned.toArray }
  heap := heap
  slotsUsed := slotsUsed
  threads := #[{ frames := .invoking theMethod args0 :: below }]
def below0 : List Frame := [.native { method := ⟨0, 0⟩, args := #[] }]
def about1 : State := aboutOver below0
def p0 : Program := .bare "" "" ""
def e0 : Env := launch0.env 0 0 0
theorem w_frames : about1.frames = Frame.invoking theMethod args0 :: below0 := rfl
set_option maxRecDepth 65536 in
theorem w_args : argsFit about1.vm theMethod args0 = true := by decide +kernel
set_option maxRecDepth 65536 in
theorem w_heap : heapFits about1 = true := by decide +kernel
set_option maxRecDepth 65536 in
theorem w_runnable : about1.curStatus? = some .runnable := by decide +kernel
set_option maxRecDepth 65536 in
theorem w_alone : about1.alone = true := by decide +kernel
set_option maxRecDepth 65536 in
theorem w_named : about1.methodNamed? x = some theMethod := by decide +kernel
set_option maxRecDepth 65536 in
theorem w_hears : about1.hears theMethod below0 = true := by decide +kernel
set_option maxRecDepth 65536 in
theorem w_ripe : about1.ripe theMethod args0 below0 = true := by decide +kernel
theorem w_running : about1.status = .running := rfl
set_option maxRecDepth 65536 in
theorem w_room : about1.hasRoom e0.platform room_1 = true :=
  launch0.hasRoom_least _ room_1 (by decide +kernel) (by decide +kernel) (by decide +kernel) (by decide +kernel) (by decide +kernel) (by decide +kernel)
theorem allAtoms_all (ts : List Jvm.Cond) (a : Array Jvm.Value) (st : Jvm.State) : (allAtoms ts).before a st = ts.all (fun c => c.before a st) := by
  induction ts with
  | nil => rfl
  | cons c t ih =>
    show (Jvm.Cond.and c (allAtoms t)).before a st = _
    rw [Jvm.Cond.before_and, ih, List.all_cons]
def words1 : List Jvm.Cond := Jvm.Cond.code x code maxLocals ret :: tables_1
/-- a 'code' word, met by the world's own term for the bytes: nothing is compared byte by byte -/
theorem code_word {y : MethodName} {bytes : ByteArray} {mx : Nat} {rt : Option FieldType} {a : Array Value} {s : State} {m : MethodId} {meth : Method} {c : Code} (h1 : s.methodNamed? y = some m) (h2 : s.vm.method? m = some meth) (h3 : meth.code = some c) (h4 : c.code = bytes)
    (h5 : (c.maxLocals == mx && c.exceptionTable.isEmpty && decide (c.maxStack ≤ mostOperands) && decide (meth.sig.returnType = rt) && !meth.locks && decide (parseMethodDescriptor y.desc = some meth.sig)) = true) : (Jvm.Cond.code y bytes mx rt).before a s = true := by
  simp only [Bool.and_eq_true, beq_iff_eq, Bool.not_eq_true', decide_eq_true_eq] at h5
  obtain ⟨⟨⟨⟨⟨g1, g2⟩, g3⟩, g4⟩, g5⟩, g6⟩ := h5
  simp [Cond.before, Cond.holds, Cond.value, h1, h2, h3, h4, g1, g2, g3, g4, g5, g6]
def isCode : Jvm.Cond → Bool
  | .code _ _ _ _ => true
  | _ => false
theorem all_split {L : List Jvm.Cond} {P : Jvm.Cond → Bool} (h1 : L.all (fun c => isCode c || P c) = true) (h2 : ∀ c ∈ L.filter isCode, P c = true) : L.all P = true := by
  refine List.all_eq_true.mpr fun c hc => ?_
  have h := List.all_eq_true.mp h1 c hc
  rcases Bool.eq_false_or_eq_true (isCode c) with hi | hi
  · exact h2 c (List.mem_filter.mpr ⟨hc, hi⟩)
  · simpa [hi] using h
set_option maxRecDepth 65536 in
theorem w_c0 : (Jvm.Cond.code x code maxLocals ret).before args0 about1 = true := code_word (m := ⟨1, 3⟩) (meth := k1m3) (c := k1c3) (by decide +kernel) rfl rfl rfl (by decide +kernel)
set_option maxRecDepth 65536 in
theorem w_c1 : (Jvm.Cond.code ({ cls := "com/example/subsume/subsume/axioms/AtomicConceptIsNominalPinLaw", name := "kindOf", desc := "(I)Lcom/example/subsume/subsume/axioms/AtomicConcept$Kind;" } : Jvm.MethodName) method_2_code (1 : Nat) (Option.some (Jvm.ClassFile.FieldType.object "com/example/subsume/subsume/axioms/AtomicConcept$Kind"))).before args0 about1 = true := code_word (m := ⟨1, 1⟩) (meth := k1m1) (c := k1c1) (by decide +kernel) rfl rfl rfl (by decide +kernel)
set_option maxRecDepth 65536 in
theorem w_c2 : (Jvm.Cond.code ({ cls := "com/example/subsume/subsume/axioms/AtomicConceptIsNominalPinLaw", name := "nameOf", desc := "(III)Ljava/lang/String;" } : Jvm.MethodName) method_3_code (5 : Nat) (Option.some (Jvm.ClassFile.FieldType.object "java/lang/String"))).before args0 about1 = true := code_word (m := ⟨1, 2⟩) (meth := k1m2) (c := k1c2) (by decide +kernel) rfl rfl rfl (by decide +kernel)
set_option maxRecDepth 65536 in
theorem w_c3 : (Jvm.Cond.code ({ cls := "java/lang/String", name := "<init>", desc := "([C)V" } : Jvm.MethodName) jdk_42_method_3_code (2 : Nat) (Option.none : Option Jvm.ClassFile.FieldType)).before args0 about1 = true := code_word (m := ⟨9, 1⟩) (meth := k9m1) (c := k9c1) (by decide +kernel) rfl rfl rfl (by decide +kernel)
set_option maxRecDepth 65536 in
theorem w_c4 : (Jvm.Cond.code ({ cls := "java/lang/String", name := "<init>", desc := "([CIILjava/lang/Void;)V" } : Jvm.MethodName) jdk_42_method_149_code (6 : Nat) (Option.none : Option Jvm.ClassFile.FieldType)).before args0 about1 = true := code_word (m := ⟨9, 3⟩) (meth := k9m3) (c := k9c3) (by decide +kernel) rfl rfl rfl (by decide +kernel)
set_option maxRecDepth 65536 in
theorem w_c5 : (Jvm.Cond.code ({ cls := "java/lang/Object", name := "<init>", desc := "()V" } : Jvm.MethodName) object_method_1_code (1 : Nat) (Option.none : Option Jvm.ClassFile.FieldType)).before args0 about1 = true := code_word (m := ⟨0, 0⟩) (meth := k0m0) (c := k0c0) (by decide +kernel) rfl rfl rfl (by decide +kernel)
set_option maxRecDepth 65536 in
theorem w_c6 : (Jvm.Cond.code ({ cls := "java/lang/StringUTF16", name := "compress", desc := "([CII)[B" } : Jvm.MethodName) jdk_52_method_16_code (6 : Nat) (Option.some (Jvm.ClassFile.FieldType.array Jvm.ClassFile.FieldType.byte))).before args0 about1 = true := code_word (m := ⟨10, 2⟩) (meth := k10m2) (c := k10c2) (by decide +kernel) rfl rfl rfl (by decide +kernel)
set_option maxRecDepth 65536 in
theorem w_c7 : (Jvm.Cond.code ({ cls := "java/lang/StringUTF16", name := "compress", desc := "([CI[BII)I" } : Jvm.MethodName) jdk_52_method_21_code (7 : Nat) (Option.some Jvm.ClassFile.FieldType.int)).before args0 about1 = true := code_word (m := ⟨10, 3⟩) (meth := k10m3) (c := k10c3) (by decide +kernel) rfl rfl rfl (by decide +kernel)
set_option maxRecDepth 65536 in
theorem w_c8 : (Jvm.Cond.code ({ cls := "java/lang/StringUTF16", name := "coderFromArrayLen", desc := "([BI)B" } : Jvm.MethodName) jdk_52_method_15_code (2 : Nat) (Option.some Jvm.ClassFile.FieldType.byte)).before args0 about1 = true := code_word (m := ⟨10, 1⟩) (meth := k10m1) (c := k10c1) (by decide +kernel) rfl rfl rfl (by decide +kernel)
set_option maxRecDepth 65536 in
theorem w_c9 : (Jvm.Cond.code ({ cls := "com/example/subsume/subsume/axioms/AtomicConcept", name := "<init>", desc := "(Ljava/lang/String;Lcom/example/subsume/subsume/axioms/AtomicConcept$Kind;)V" } : Jvm.MethodName) prog_6_method_1_code (3 : Nat) (Option.none : Option Jvm.ClassFile.FieldType)).before args0 about1 = true := code_word (m := ⟨13, 0⟩) (meth := k13m0) (c := k13c0) (by decide +kernel) rfl rfl rfl (by decide +kernel)
set_option maxRecDepth 65536 in
theorem w_c10 : (Jvm.Cond.code ({ cls := "java/lang/Record", name := "<init>", desc := "()V" } : Jvm.MethodName) jdk_30_method_1_code (1 : Nat) (Option.none : Option Jvm.ClassFile.FieldType)).before args0 about1 = true := code_word (m := ⟨11, 0⟩) (meth := k11m0) (c := k11c0) (by decide +kernel) rfl rfl rfl (by decide +kernel)
set_option maxRecDepth 65536 in
theorem w_c11 : (Jvm.Cond.code ({ cls := "java/util/Objects", name := "requireNonNull", desc := "(Ljava/lang/Object;Ljava/lang/String;)Ljava/lang/Object;" } : Jvm.MethodName) jdk_31_method_11_code (2 : Nat) (Option.some (Jvm.ClassFile.FieldType.object "java/lang/Object"))).before args0 about1 = true := code_word (m := ⟨14, 1⟩) (meth := k14m1) (c := k14c1) (by decide +kernel) rfl rfl rfl (by decide +kernel)
set_option maxRecDepth 65536 in
theorem w_c12 : (Jvm.Cond.code ({ cls := "com/example/subsume/subsume/axioms/AtomicConcept", name := "isNominal", desc := "()Z" } : Jvm.MethodName) prog_6_method_5_code (1 : Nat) (Option.some Jvm.ClassFile.FieldType.boolean)).before args0 about1 = true := code_word (m := ⟨13, 1⟩) (meth := k13m1) (c := k13c1) (by decide +kernel) rfl rfl rfl (by decide +kernel)
set_option maxRecDepth 65536 in
theorem w_c13 : (Jvm.Cond.code ({ cls := "java/lang/String", name := "valueOf", desc := "(C)Ljava/lang/String;" } : Jvm.MethodName) jdk_42_method_139_code (1 : Nat) (Option.some (Jvm.ClassFile.FieldType.object "java/lang/String"))).before args0 about1 = true := code_word (m := ⟨9, 2⟩) (meth := k9m2) (c := k9c2) (by decide +kernel) rfl rfl rfl (by decide +kernel)
set_option maxRecDepth 65536 in
theorem w_c14 : (Jvm.Cond.code ({ cls := "java/lang/StringLatin1", name := "canEncode", desc := "(C)Z" } : Jvm.MethodName) jdk_43_method_3_code (1 : Nat) (Option.some Jvm.ClassFile.FieldType.boolean)).before args0 about1 = true := code_word (m := ⟨15, 1⟩) (meth := k15m1) (c := k15c1) (by decide +kernel) rfl rfl rfl (by decide +kernel)
set_option maxRecDepth 65536 in
theorem w_c15 : (Jvm.Cond.code ({ cls := "java/lang/StringLatin1", name := "toBytes", desc := "(C)[B" } : Jvm.MethodName) jdk_43_method_46_code (1 : Nat) (Option.some (Jvm.ClassFile.FieldType.array Jvm.ClassFile.FieldType.byte))).before args0 about1 = true := code_word (m := ⟨15, 2⟩) (meth := k15m2) (c := k15c2) (by decide +kernel) rfl rfl rfl (by decide +kernel)
set_option maxRecDepth 65536 in
theorem w_c16 : (Jvm.Cond.code ({ cls := "java/lang/String", name := "<init>", desc := "([BB)V" } : Jvm.MethodName) jdk_42_method_151_code (3 : Nat) (Option.none : Option Jvm.ClassFile.FieldType)).before args0 about1 = true := code_word (m := ⟨9, 4⟩) (meth := k9m4) (c := k9c4) (by decide +kernel) rfl rfl rfl (by decide +kernel)
def codes1 : List Jvm.Cond := [Jvm.Cond.code x code maxLocals ret, Jvm.Cond.code ({ cls := "com/example/subsume/subsume/axioms/AtomicConceptIsNominalPinLaw", name := "kindOf", desc := "(I)Lcom/example/subsume/subsume/axioms/AtomicConcept$Kind;" } : Jvm.MethodName) method_2_code (1 : Nat) (Option.some (Jvm.ClassFile.FieldType.object "com/example/subsume/subsume/axioms/AtomicConcept$Kind")), Jvm.Cond.code ({ cls := "com/example/subsume/subsume/axioms/AtomicConceptIsNominalPinLaw", name := "nameOf", desc := "(III)Ljava/lang/String;" } : Jvm.MethodName) method_3_code (5 : Nat) (Option.some (Jvm.ClassFile.FieldType.object "java/lang/String")), Jvm.Cond.code ({ cls := "java/lang/String", name := "<init>", desc := "([C)V" } : Jvm.MethodName) jdk_42_method_3_code (2 : Nat) (Option.none : Option Jvm.ClassFile.FieldType), Jvm.Cond.code ({ cls := "java/lang/String", name := "<init>", desc := "([CIILjava/lang/Void;)V" } : Jvm.MethodName) jdk_42_method_149_code (6 : Nat) (Option.none : Option Jvm.ClassFile.FieldType), Jvm.Cond.code ({ cls := "java/lang/Object", name := "<init>", desc := "()V" } : Jvm.MethodName) object_method_1_code (1 : Nat) (Option.none : Option Jvm.ClassFile.FieldType), Jvm.Cond.code ({ cls := "java/lang/StringUTF16", name := "compress", desc := "([CII)[B" } : Jvm.MethodName) jdk_52_method_16_code (6 : Nat) (Option.some (Jvm.ClassFile.FieldType.array Jvm.ClassFile.FieldType.byte)), Jvm.Cond.code ({ cls := "java/lang/StringUTF16", name := "compress", desc := "([CI[BII)I" } : Jvm.MethodName) jdk_52_method_21_code (7 : Nat) (Option.some Jvm.ClassFile.FieldType.int), Jvm.Cond.code ({ cls := "java/lang/StringUTF16", name := "coderFromArrayLen", desc := "([BI)B" } : Jvm.MethodName) jdk_52_method_15_code (2 : Nat) (Option.some Jvm.ClassFile.FieldType.byte), Jvm.Cond.code ({ cls := "com/example/subsume/subsume/axioms/AtomicConcept", name := "<init>", desc := "(Ljava/lang/String;Lcom/example/subsume/subsume/axioms/AtomicConcept$Kind;)V" } : Jvm.MethodName) prog_6_method_1_code (3 : Nat) (Option.none : Option Jvm.ClassFile.FieldType), Jvm.Cond.code ({ cls := "java/lang/Record", name := "<init>", desc := "()V" } : Jvm.MethodName) jdk_30_method_1_code (1 : Nat) (Option.none : Option Jvm.ClassFile.FieldType), Jvm.Cond.code ({ cls := "java/util/Objects", name := "requireNonNull", desc := "(Ljava/lang/Object;Ljava/lang/String;)Ljava/lang/Object;" } : Jvm.MethodName) jdk_31_method_11_code (2 : Nat) (Option.some (Jvm.ClassFile.FieldType.object "java/lang/Object")), Jvm.Cond.code ({ cls := "com/example/subsume/subsume/axioms/AtomicConcept", name := "isNominal", desc := "()Z" } : Jvm.MethodName) prog_6_method_5_code (1 : Nat) (Option.some Jvm.ClassFile.FieldType.boolean), Jvm.Cond.code ({ cls := "java/lang/String", name := "valueOf", desc := "(C)Ljava/lang/String;" } : Jvm.MethodName) jdk_42_method_139_code (1 : Nat) (Option.some (Jvm.ClassFile.FieldType.object "java/lang/String")), Jvm.Cond.code ({ cls := "java/lang/StringLatin1", name := "canEncode", desc := "(C)Z" } : Jvm.MethodName) jdk_43_method_3_code (1 : Nat) (Option.some Jvm.ClassFile.FieldType.boolean), Jvm.Cond.code ({ cls := "java/lang/StringLatin1", name := "toBytes", desc := "(C)[B" } : Jvm.MethodName) jdk_43_method_46_code (1 : Nat) (Option.some (Jvm.ClassFile.FieldType.array Jvm.ClassFile.FieldType.byte)), Jvm.Cond.code ({ cls := "java/lang/String", name := "<init>", desc := "([BB)V" } : Jvm.MethodName) jdk_42_method_151_code (3 : Nat) (Option.none : Option Jvm.ClassFile.FieldType)]
set_option maxRecDepth 65536 in
theorem codes_eq : words1.filter isCode = codes1 := rfl
theorem w_codes : ∀ c ∈ words1.filter isCode, c.before args0 about1 = true := by
  rw [codes_eq]
  intro c hc
  simp only [codes1, List.mem_cons, List.not_mem_nil, or_false] at hc
  rcases hc with rfl | rfl | rfl | rfl | rfl | rfl | rfl | rfl | rfl | rfl | rfl | rfl | rfl | rfl | rfl | rfl | rfl
  · exact w_c0
  · exact w_c1
  · exact w_c2
  · exact w_c3
  · exact w_c4
  · exact w_c5
  · exact w_c6
  · exact w_c7
  · exact w_c8
  · exact w_c9
  · exact w_c10
  · exact w_c11
  · exact w_c12
  · exact w_c13
  · exact w_c14
  · exact w_c15
  · exact w_c16
set_option maxRecDepth 65536 in
theorem w_t1 : (words1.take 24).all (fun c => isCode c || c.before args0 about1) = true := by decide +kernel
set_option maxRecDepth 65536 in
theorem w_t2 : ((words1.drop 24).take 24).all (fun c => isCode c || c.before args0 about1) = true := by decide +kernel
set_option maxRecDepth 65536 in
theorem w_t3 : (((words1.drop 24).drop 24).take 24).all (fun c => isCode c || c.before args0 about1) = true := by decide +kernel
set_option maxRecDepth 65536 in
theorem w_t4 : (((words1.drop 24).drop 24).drop 24).all (fun c => isCode c || c.before args0 about1) = true := by decide +kernel
theorem w_tables : (allAtoms (Jvm.Cond.code x code maxLocals ret :: tables_1)).before args0 about1 = true := by
  rw [allAtoms_all]
  show words1.all (fun c => c.before args0 about1) = true
  refine all_split ?_ w_codes
  rw [← List.take_append_drop 24 words1, List.all_append, w_t1, ← List.take_append_drop 24 (words1.drop 24), List.all_append, w_t2, ← List.take_append_drop 24 ((words1.drop 24).drop 24), List.all_append, w_t3, w_t4]
  rfl
set_option maxRecDepth 65536 in
theorem w_rest : rest_1_c.before args0 about1 = true := by decide +kernel
set_option maxRecDepth 65536 in
theorem w_case : (Jvm.Cond.and given_1 narrow_1).before args0 about1 = true := by decide +kernel
theorem w_applies : (headSpec (Jvm.Cond.code x code maxLocals ret :: tables_1) room_1).applies x e0.platform about1 = true :=
  (Spec.applies_iff w_frames).mpr ⟨w_running, w_runnable, w_alone, w_named, w_hears, w_ripe, w_room, w_tables⟩
theorem atStart : AtStart classFile x code maxLocals ret World_1 tables_1 room_1 Calls_1 rest_1 Pre_1 launch0 p0 e0 about1 theMethod args0 below0 :=
  ⟨lists_1, trivial, launch0.admits_env _ _ _, launch0.least_env, fairChoices_fair.cas, fairChoices_fair.clock, w_frames, w_args, w_heap, w_applies, trivial, w_rest, w_case⟩
end start1
theorem witness_1 : WitnessClaimed_1 := ⟨start1.p0, start1.e0, start1.about1, start1.theMethod, start1.args0, start1.below0, start1.atStart⟩
end Jvm.Pilot.@@N@@
