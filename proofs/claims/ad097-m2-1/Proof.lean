import JvmDerived
import JvmDerived.Pilot.@@N@@Statement
import JvmDerived.Pilot.@@N@@Code
set_option linter.unusedVariables false
set_option linter.unusedSimpArgs false
/- laws to paste: Road.backV, Road.eqW, Road.codOf (cut by pick.py; bodies as the Statement names them) -/
namespace Jvm.Pilot.@@N@@
namespace StrChars
open Jvm Sem ClassFile Op Lib Jvm.Stand Jvm.Free.XT Jvm.Free.ALB Jvm.Free.JM Jvm.Free
open Jvm.Lib.Cold (StaticIs)
/-- a char array whose places are chars -/
def Ch (a : Addr) (A : Cell) (U : State) : Prop := Arr .char a A U ∧ Typed .char A
theorem Ch.mv {a : Addr} {A : Cell} {U U' : State} (h : Ch a A U) (hal : U.vm.Alike U'.vm) (hh : U'.heap = U.heap) : Ch a A U' := ⟨h.1.mv hal hh, h.2⟩
theorem Ch.keep {a : Addr} {A : Cell} {U U' : State} (h : Ch a A U) (hal : U.vm.Alike U'.vm) (hk : U'.heap[a]? = some A) : Ch a A U' := ⟨h.1.keep hal hk, h.2⟩
/-- what place i of a char[]'s cell holds -/
def cv (A : Cell) (i : Nat) : Int32 := match A.slots[i]? with | some (.int x) => x | _ => 0
theorem Ch.get {a : Addr} {A : Cell} {U : State} (h : Ch a A U) {i : Nat} (hi : i < A.slots.size) : A.slots[i]? = some (.int (cv A i)) := by
  have e := Array.getElem?_eq_getElem hi
  have f := h.2 i _ e
  unfold cv; rw [e]
  generalize A.slots[i] = v at f
  cases v <;> simp [fits] at f ⊢
/-- the byte that i2b leaves of a char -/
def lo8 (x : Int32) : Int32 := x.toInt8.toInt32
theorem fits_lo8 (y : Int32) : fits .byte (.int (lo8 y)) = true := by
  have h1 := y.toInt8.le_toInt
  have h2 := y.toInt8.toInt_lt
  simp only [lo8, fits, Bool.and_eq_true, decide_eq_true_eq, Int32.le_iff_toInt_le, Int8.toInt_toInt32, show (-128 : Int32).toInt = -128 from by decide, show (127 : Int32).toInt = 127 from by decide]
  omega
/-- A' is A but that each place j of lo .. hi - 1 holds f j -/
def Laid (A A' : Cell) (lo hi : Nat) (f : Nat → Value) : Prop := A'.cls = A.cls ∧ A'.vm = A.vm ∧ A'.slots.size = A.slots.size ∧ ∀ i, A'.slots[i]? = if lo ≤ i ∧ i < hi then some (f i) else A.slots[i]?
theorem Laid.zero (A : Cell) (lo : Nat) (f : Nat → Value) : Laid A A lo (lo + 0) f := ⟨rfl, rfl, rfl, fun i => by rw [if_neg (by omega)]⟩
theorem Laid.step {A Ak : Cell} {lo k : Nat} {f : Nat → Value} {v : Value} (h : Laid A Ak lo k f) (hlo : lo ≤ k) (hk : k < Ak.slots.size) (hv : v = f k) : Laid A (Ak.setSlot k v) lo (k + 1) f := by
  refine ⟨h.1, h.2.1, by simpa [Cell.setSlot] using h.2.2.1, fun i => ?_⟩
  by_cases e : k = i
  · subst e; rw [Cell.slots_setSlot_self v hk, if_pos (by omega), hv]
  · rw [Cell.slots_setSlot_ne v e, h.2.2.2 i]
    by_cases q : lo ≤ i ∧ i < k
    · rw [if_pos q, if_pos (by omega)]
    · rw [if_neg q, if_neg (by omega)]
def U16 : String := "java/lang/StringUTF16"
namespace Cmp5
def yN : MethodName := ⟨"java/lang/StringUTF16", "compress", "([CI[BII)I"⟩
abbrev yB : ByteArray := jdk_52_method_21_code
theorem d0 : decode yB 0 = .ok (.iconst 0, 1) := by decide +kernel
theorem d1 : decode yB 1 = .ok (.istore 5, 2) := by decide +kernel
theorem d3 : decode yB 3 = .ok (.iload 5, 2) := by decide +kernel
theorem d5 : decode yB 5 = .ok (.iload 4, 2) := by decide +kernel
theorem d7 : decode yB 7 = .ok (.if_icmp (.ge) 37, 3) := by decide +kernel
theorem d10 : decode yB 10 = .ok (.aload_n 0, 1) := by decide +kernel
theorem d11 : decode yB 11 = .ok (.iload_n 1, 1) := by decide +kernel
theorem d12 : decode yB 12 = .ok (.caload, 1) := by decide +kernel
theorem d13 : decode yB 13 = .ok (.istore 6, 2) := by decide +kernel
theorem d15 : decode yB 15 = .ok (.iload 6, 2) := by decide +kernel
theorem d17 : decode yB 17 = .ok (.sipush 255, 3) := by decide +kernel
theorem d20 : decode yB 20 = .ok (.if_icmp (.le) 6, 3) := by decide +kernel
theorem d26 : decode yB 26 = .ok (.aload_n 2, 1) := by decide +kernel
theorem d27 : decode yB 27 = .ok (.iload_n 3, 1) := by decide +kernel
theorem d28 : decode yB 28 = .ok (.iload 6, 2) := by decide +kernel
theorem d30 : decode yB 30 = .ok (.i2b, 1) := by decide +kernel
theorem d31 : decode yB 31 = .ok (.bastore, 1) := by decide +kernel
theorem d32 : decode yB 32 = .ok (.iinc 1 1, 3) := by decide +kernel
theorem d35 : decode yB 35 = .ok (.iinc 3 1, 3) := by decide +kernel
theorem d38 : decode yB 38 = .ok (.iinc 5 1, 3) := by decide +kernel
theorem d41 : decode yB 41 = .ok (.goto (-38), 3) := by decide +kernel
theorem d44 : decode yB 44 = .ok (.iload 4, 2) := by decide +kernel
theorem d46 : decode yB 46 = .ok (.ireturn, 1) := by decide +kernel
def site : List Cond := []
def tab : Cond := tabOf yN yB 7 (some .int) site
def P (b : Addr) (A : Cell) (d : Addr) (B : Cell) (o q len : Nat) (args : Array Value) (s : State) : Prop := args = #[.ref b, .int (Int32.ofNat o), .ref d, .int (Int32.ofNat q), .int (Int32.ofNat len)] ∧ Ch b A s ∧ Arr .byte d B s ∧ b ≠ d ∧ o + len ≤ A.slots.size ∧ q + len ≤ B.slots.size ∧ ∀ i, i < len → ¬ 255 < cv A (o + i)
def E (b : Addr) (A : Cell) (d : Addr) (B : Cell) (o q len : Nat) (r : Option Value) (s u : State) : Prop := r = some (.int (Int32.ofNat len)) ∧ ∃ B', Put d B' s u ∧ Laid B B' q (q + len) (fun j => Value.int (lo8 (cv A (o + (j - q)))))
/-- no char of the range above 255: len; the places written hold each char's low byte -/
theorem law (l : Launch) (b : Addr) (A : Cell) (d : Addr) (B : Cell) (o q len : Nat) : Law l yN 5 5 0 0 yB 7 (some .int) site (P b A d B o q len) (E b A d B o q len) (copyLocs d q len) 0 0 := by
  refine Law.of_walk (plainFor_of_name (by decide +kernel)) (by decide +kernel) (by decide +kernel) (by decide) (fun _ _ h => by rw [h.1]; rfl) (fun _ U U' hal hh h => ⟨h.1, h.2.1.mv hal hh, h.2.2.1.mv hal hh, h.2.2.2⟩) (fun r U U' V V' h1 hal h2 h => ⟨h.1, h.2.elim fun B' q => ⟨B', q.1.mv h1 h2, q.2⟩⟩) ?_
  intro p e s m args below meth c s₁ X0 hexec hbytes hml hret hlk hnm hown hh0 W hP
  obtain ⟨rfl, hA, hB, hne, l1, l2, hp⟩ := hP
  have c1 : Steps p.tables e below (s₁.setTop (entryFrame m #[.ref b, .int (Int32.ofNat o), .ref d, .int (Int32.ofNat q), .int (Int32.ofNat len)] 7)) (s₁.setTop (mkF m 0 #[.val (.ref b), .val (.int (Int32.ofNat o)), .val (.ref d), .val (.int (Int32.ofNat q)), .val (.int (Int32.ofNat len)), .unset, .unset] [])) := entry rfl
  have hA0 := hA.1.mv X0.warmed.alike hh0
  have hB0 := hB.mv X0.warmed.alike hh0
  have a31 := hA.1.2.2.2
  have c2 : Steps p.tables e below (s₁.setTop (entryFrame m #[.ref b, .int (Int32.ofNat o), .ref d, .int (Int32.ofNat q), .int (Int32.ofNat len)] 7)) (s₁.setTop (mkF m 3 #[.val (.ref b), .val (.int (Int32.ofNat o)), .val (.ref d), .val (.int (Int32.ofNat q)), .val (.int (Int32.ofNat len)), .val (.int 0), .unset] [])) := c1.trans (by
    refine iconstV X0.here hexec rfl 0 (hb hbytes d0) (by decide) ?_
    refine XS.istore X0.here hexec rfl (hb hbytes d1) rfl rfl ?_
    exact Steps.refl _)
  have loop : ∀ (r i : Nat), i + r = len → ∀ (z : Slot), (z = .unset ∨ ∃ w, z = .val w ∧ w.category = 1) → ∀ (Tl : State) (Bk : Cell), Stand p l e { frames := 0, locals := 0, cells := 0, slots := 0 } s m #[.ref b, .int (Int32.ofNat o), .ref d, .int (Int32.ofNat q), .int (Int32.ofNat len)] below meth c Tl ([] ++ copyLocs d q i) 0 0 → Put d Bk s₁ Tl → Laid B Bk q (q + i) (fun j => Value.int (lo8 (cv A (o + (j - q))))) →
      Steps p.tables e below (s₁.setTop (entryFrame m #[.ref b, .int (Int32.ofNat o), .ref d, .int (Int32.ofNat q), .int (Int32.ofNat len)] 7)) (Tl.setTop (mkF m 3 #[.val (.ref b), .val (.int (Int32.ofNat (o + i))), .val (.ref d), .val (.int (Int32.ofNat (q + i))), .val (.int (Int32.ofNat len)), .val (.int (Int32.ofNat i)), z] [])) → ∃ (T' : State) (B' : Cell) (z' : Slot), Stand p l e { frames := 0, locals := 0, cells := 0, slots := 0 } s m #[.ref b, .int (Int32.ofNat o), .ref d, .int (Int32.ofNat q), .int (Int32.ofNat len)] below meth c T' ([] ++ copyLocs d q len) 0 0 ∧ Put d B' s₁ T' ∧ Laid B B' q (q + len) (fun j => Value.int (lo8 (cv A (o + (j - q))))) ∧
      Steps p.tables e below (s₁.setTop (entryFrame m #[.ref b, .int (Int32.ofNat o), .ref d, .int (Int32.ofNat q), .int (Int32.ofNat len)] 7)) (T'.setTop (mkF m 3 #[.val (.ref b), .val (.int (Int32.ofNat (o + len))), .val (.ref d), .val (.int (Int32.ofNat (q + len))), .val (.int (Int32.ofNat len)), .val (.int (Int32.ofNat len)), z'] [])) := by
    intro r
    induction r with
    | zero =>
      intro i hi z hz Tl Bk Xl pl fl cl
      have hil : i = len := by omega
      rw [hil] at Xl fl cl
      exact ⟨Tl, Bk, z, Xl, pl, fl, cl⟩
    | succ r ih =>
      intro i hi z hz Tl Bk Xl pl fl cl
      have all := X0.warmed.alike.symm.trans Xl.warmed.alike
      have hAl := hA0.keep all (pl.other hne hA0.1)
      have hBk := hB0.like all pl.1 fl.1 fl.2.1 fl.2.2.1
      have hlt : q + i < Bk.slots.size := by rw [fl.2.2.1]; omega
      have c3 : Steps p.tables e below (s₁.setTop (entryFrame m #[.ref b, .int (Int32.ofNat o), .ref d, .int (Int32.ofNat q), .int (Int32.ofNat len)] 7)) (Tl.setTop (mkF m 12 #[.val (.ref b), .val (.int (Int32.ofNat (o + i))), .val (.ref d), .val (.int (Int32.ofNat (q + i))), .val (.int (Int32.ofNat len)), .val (.int (Int32.ofNat i)), z] [.int (Int32.ofNat (o + i)), .ref b])) := cl.trans (by
        refine XS.iload Xl.here hexec rfl (hb hbytes d3) rfl ?_
        refine XS.iload Xl.here hexec rfl (hb hbytes d5) rfl ?_
        refine XS.icmpNo Xl.here hexec rfl (hb hbytes d7) rfl (ii_ge_f (lt32 (by omega) (by omega))) ?_
        refine XS.aloadN Xl.here hexec rfl (hb hbytes d10) rfl rfl ?_
        refine XS.iloadN Xl.here hexec rfl (hb hbytes d11) rfl ?_
        exact Steps.refl _)
      have c4 : Steps p.tables e below (s₁.setTop (entryFrame m #[.ref b, .int (Int32.ofNat o), .ref d, .int (Int32.ofNat q), .int (Int32.ofNat len)] 7)) (Tl.setTop (mkF m 13 #[.val (.ref b), .val (.int (Int32.ofNat (o + i))), .val (.ref d), .val (.int (Int32.ofNat (q + i))), .val (.int (Int32.ofNat len)), .val (.int (Int32.ofNat i)), z] [.int (cv A (o + i))])) := c3.trans (by
        refine Xl.aget hexec hAl rfl (hA.get (i := o + i) (by omega)) rfl rfl (hb hbytes d12) ?_
        exact Steps.refl _)
      have c5 : Steps p.tables e below (s₁.setTop (entryFrame m #[.ref b, .int (Int32.ofNat o), .ref d, .int (Int32.ofNat q), .int (Int32.ofNat len)] 7)) (Tl.setTop (mkF m 15 #[.val (.ref b), .val (.int (Int32.ofNat (o + i))), .val (.ref d), .val (.int (Int32.ofNat (q + i))), .val (.int (Int32.ofNat len)), .val (.int (Int32.ofNat i)), .val (.int (cv A (o + i)))] [])) := c4.trans (by
        refine XS.istoreS Xl.here hexec rfl (hb hbytes d13) rfl rfl hz ?_
        exact Steps.refl _)
      have c6 : Steps p.tables e below (s₁.setTop (entryFrame m #[.ref b, .int (Int32.ofNat o), .ref d, .int (Int32.ofNat q), .int (Int32.ofNat len)] 7)) (Tl.setTop (mkF m 31 #[.val (.ref b), .val (.int (Int32.ofNat (o + i))), .val (.ref d), .val (.int (Int32.ofNat (q + i))), .val (.int (Int32.ofNat len)), .val (.int (Int32.ofNat i)), .val (.int (cv A (o + i)))] [.int (lo8 (cv A (o + i))), .int (Int32.ofNat (q + i)), .ref d])) := c5.trans (by
        refine XS.iload Xl.here hexec rfl (hb hbytes d15) rfl ?_
        refine sipushV Xl.here hexec rfl 255 (hb hbytes d17) (by decide) ?_
        refine XS.icmpYes Xl.here hexec rfl (pc0 := 20) rfl (hb hbytes d20) rfl (ii_le_t (hp i (by omega))) (by decide) rfl ?_
        refine XS.aloadN Xl.here hexec rfl (hb hbytes d26) rfl rfl ?_
        refine XS.iloadN Xl.here hexec rfl (hb hbytes d27) rfl ?_
        refine XS.iload Xl.here hexec rfl (hb hbytes d28) rfl ?_
        refine i2b Xl.here hexec rfl (hb hbytes d30) rfl ?_
        exact Steps.refl _)
      obtain ⟨T7, X7, p7, st7⟩ := Xl.aput hexec hBk rfl hlt rfl (fits_lo8 (cv A (o + i))) (g := (mkF m 31 #[.val (.ref b), .val (.int (Int32.ofNat (o + i))), .val (.ref d), .val (.int (Int32.ofNat (q + i))), .val (.int (Int32.ofNat len)), .val (.int (Int32.ofNat i)), .val (.int (cv A (o + i)))] [.int (lo8 (cv A (o + i))), .int (Int32.ofNat (q + i)), .ref d])) rfl (rest := []) rfl (hb hbytes d31)
      have c8 : Steps p.tables e below (s₁.setTop (entryFrame m #[.ref b, .int (Int32.ofNat o), .ref d, .int (Int32.ofNat q), .int (Int32.ofNat len)] 7)) (T7.setTop (mkF m 32 #[.val (.ref b), .val (.int (Int32.ofNat (o + i))), .val (.ref d), .val (.int (Int32.ofNat (q + i))), .val (.int (Int32.ofNat len)), .val (.int (Int32.ofNat i)), .val (.int (cv A (o + i)))] [])) := c6.trans (st7 _ (Steps.refl _))
      have c9 : Steps p.tables e below (s₁.setTop (entryFrame m #[.ref b, .int (Int32.ofNat o), .ref d, .int (Int32.ofNat q), .int (Int32.ofNat len)] 7)) (T7.setTop (mkF m 3 #[.val (.ref b), .val (.int (Int32.ofNat (o + i) + 1)), .val (.ref d), .val (.int (Int32.ofNat (q + i) + 1)), .val (.int (Int32.ofNat len)), .val (.int (Int32.ofNat i + 1)), .val (.int (cv A (o + i)))] [])) := c8.trans (by
        refine iincV X7.here hexec rfl 1 (hb hbytes d32) (by decide) rfl rfl ?_
        refine iincV X7.here hexec rfl 1 (hb hbytes d35) (by decide) rfl rfl ?_
        refine iincV X7.here hexec rfl 1 (hb hbytes d38) (by decide) rfl rfl ?_
        refine XS.goto X7.here hexec rfl (pc0 := 41) rfl (hb hbytes d41) (by decide) rfl ?_
        exact Steps.refl _)
      have c10 : Steps p.tables e below (s₁.setTop (entryFrame m #[.ref b, .int (Int32.ofNat o), .ref d, .int (Int32.ofNat q), .int (Int32.ofNat len)] 7)) (T7.setTop (mkF m 3 #[.val (.ref b), .val (.int (Int32.ofNat (o + (i + 1)))), .val (.ref d), .val (.int (Int32.ofNat (q + (i + 1)))), .val (.int (Int32.ofNat len)), .val (.int (Int32.ofNat (i + 1))), .val (.int (cv A (o + i)))] [])) := by
        have := c9
        rw [succ32, succ32, succ32] at this
        exact this
      exact ih (i + 1) (by omega) _ (Or.inr ⟨_, rfl, rfl⟩) T7 _ (by rw [copyLocs_step, ← List.append_assoc]; exact X7) (pl.trans p7) (fl.step (by omega) hlt (by simp)) c10
  obtain ⟨T9, B9, z9, X9, p9, f9, g9⟩ := loop len 0 (by omega) .unset (Or.inl rfl) s₁ B (by simpa [copyLocs] using X0) ⟨hB0.1, fun _ _ => rfl, rfl⟩ (Laid.zero _ _ _) c2
  have c11 : Steps p.tables e below (s₁.setTop (entryFrame m #[.ref b, .int (Int32.ofNat o), .ref d, .int (Int32.ofNat q), .int (Int32.ofNat len)] 7)) (T9.setTop (mkF m 46 #[.val (.ref b), .val (.int (Int32.ofNat (o + len))), .val (.ref d), .val (.int (Int32.ofNat (q + len))), .val (.int (Int32.ofNat len)), .val (.int (Int32.ofNat len)), z9] [.int (Int32.ofNat len)])) := g9.trans (by
    refine XS.iload X9.here hexec rfl (hb hbytes d3) rfl ?_
    refine XS.iload X9.here hexec rfl (hb hbytes d5) rfl ?_
    refine XS.icmpYes X9.here hexec rfl (pc0 := 7) rfl (hb hbytes d7) rfl (ii_ge_t (nlt32 (by omega) (Nat.le_refl _))) (by decide) rfl ?_
    refine XS.iload X9.here hexec rfl (hb hbytes d44) rfl ?_
    exact Steps.refl _)
  exact ⟨T9, some (.int (Int32.ofNat len)), _, _, _, X9, by simp, rfl, rfl, (fun h => by cases h), ⟨rfl, B9, p9.from hh0, f9⟩, fun fs hl => c11.trans (X9.ireturnOut hexec hret rfl (Or.inl rfl) (hb hbytes d46) hl)⟩
end Cmp5
namespace Cmp3
def yN : MethodName := ⟨"java/lang/StringUTF16", "compress", "([CII)[B"⟩
abbrev yB : ByteArray := jdk_52_method_16_code
theorem d0 : decode yB 0 = .ok (.iload_n 2, 1) := by decide +kernel
theorem d1 : decode yB 1 = .ok (.newarray .byte, 2) := by decide +kernel
theorem d3 : decode yB 3 = .ok (.astore_n 3, 1) := by decide +kernel
theorem d4 : decode yB 4 = .ok (.aload_n 0, 1) := by decide +kernel
theorem d5 : decode yB 5 = .ok (.iload_n 1, 1) := by decide +kernel
theorem d6 : decode yB 6 = .ok (.aload_n 3, 1) := by decide +kernel
theorem d7 : decode yB 7 = .ok (.iconst 0, 1) := by decide +kernel
theorem d8 : decode yB 8 = .ok (.iload_n 2, 1) := by decide +kernel
theorem d9 : decode yB 9 = .ok (.invokestatic 115, 3) := by decide +kernel
theorem d12 : decode yB 12 = .ok (.istore 4, 2) := by decide +kernel
theorem d14 : decode yB 14 = .ok (.iload 4, 2) := by decide +kernel
theorem d16 : decode yB 16 = .ok (.iload_n 2, 1) := by decide +kernel
theorem d17 : decode yB 17 = .ok (.if_icmp (.eq) 40, 3) := by decide +kernel
theorem d57 : decode yB 57 = .ok (.aload_n 3, 1) := by decide +kernel
theorem d58 : decode yB 58 = .ok (.areturn, 1) := by decide +kernel
def site : List Cond := [.arrayClass .byte, Cmp5.tab] ++ staticW U16 115 Cmp5.yN
def tab : Cond := tabOf yN yB 6 (some (.array .byte)) site
def P (b : Addr) (A : Cell) (o len : Nat) (args : Array Value) (s : State) : Prop := args = #[.ref b, .int (Int32.ofNat o), .int (Int32.ofNat len)] ∧ Ch b A s ∧ o + len ≤ A.slots.size ∧ len ≤ 536870912 ∧ ∀ i, i < len → ¬ 255 < cv A (o + i)
def E (b : Addr) (A : Cell) (o len : Nat) (r : Option Value) (s u : State) : Prop := NewArr .byte "[B" len (fun j => .int (lo8 (cv A (o + j)))) r s u ∧ u.heap.size = s.heap.size + 1
/-- no char of the range above 255: a new byte[] of their low bytes -/
theorem law (l : Launch) (b : Addr) (A : Cell) (o len : Nat) : Law l yN 3 3 1 18 yB 6 (some (.array .byte)) site (P b A o len) (E b A o len) [] 1 len := by
  refine Law.of_walk (plainFor_of_name (by decide +kernel)) (by decide +kernel) (by decide +kernel) (by decide) (fun _ _ h => by rw [h.1]; rfl) (fun _ U U' hal hh h => ⟨h.1, h.2.1.mv hal hh, h.2.2⟩) (fun r U U' V V' h1 hal h2 h => ⟨NewArr.mv r U U' V V' h1 hal h2 h.1, by rw [h1, h2]; exact h.2⟩) ?_
  intro p e s m args below meth c s₁ X0 hexec hbytes hml hret hlk hnm hown hh0 W hP
  obtain ⟨rfl, hA, l1, l2, hp⟩ := hP
  have a31 := hA.1.2.2.2
  have c1 : Steps p.tables e below (s₁.setTop (entryFrame m #[.ref b, .int (Int32.ofNat o), .int (Int32.ofNat len)] 6)) (s₁.setTop (mkF m 0 #[.val (.ref b), .val (.int (Int32.ofNat o)), .val (.int (Int32.ofNat len)), .unset, .unset, .unset] [])) := entry rfl
  have c2 : Steps p.tables e below (s₁.setTop (entryFrame m #[.ref b, .int (Int32.ofNat o), .int (Int32.ofNat len)] 6)) (s₁.setTop (mkF m 1 #[.val (.ref b), .val (.int (Int32.ofNat o)), .val (.int (Int32.ofNat len)), .unset, .unset, .unset] [.int (Int32.ofNat len)])) := c1.trans (by
    refine XS.iloadN X0.here hexec rfl (hb hbytes d0) rfl ?_
    exact Steps.refl _)
  obtain ⟨T3, B3, X3, ba3, bs3, bv3, bh3, bf3, st3⟩ := X0.anew hexec (atype := .byte) (wk W (.arrayClass .byte)) rfl (by show len * 1 ≤ _; omega) (by omega) (g := (mkF m 1 #[.val (.ref b), .val (.int (Int32.ofNat o)), .val (.int (Int32.ofNat len)), .unset, .unset, .unset] [.int (Int32.ofNat len)])) rfl (hb hbytes d1) (rest := []) rfl (Nat.le_refl _) (by show 0 + len ≤ len; omega)
  rw [hh0] at ba3 st3
  have kp3 : XT.Kept s T3 := (XT.Kept.of_eq hh0).push bh3
  have hA3 := hA.keep X3.warmed.alike (kp3 _ _ hA.1.1)
  have hne : b ≠ s.heap.size := hA.1.ne
  have c4 : Steps p.tables e below (s₁.setTop (entryFrame m #[.ref b, .int (Int32.ofNat o), .int (Int32.ofNat len)] 6)) (T3.setTop (mkF m 3 #[.val (.ref b), .val (.int (Int32.ofNat o)), .val (.int (Int32.ofNat len)), .unset, .unset, .unset] [.ref s.heap.size])) := c2.trans (st3 _ (Steps.refl _))
  have c5 : Steps p.tables e below (s₁.setTop (entryFrame m #[.ref b, .int (Int32.ofNat o), .int (Int32.ofNat len)] 6)) (T3.setTop (mkF m 9 #[.val (.ref b), .val (.int (Int32.ofNat o)), .val (.int (Int32.ofNat len)), .val (.ref s.heap.size), .unset, .unset] [.int (Int32.ofNat len), .int 0, .ref s.heap.size, .int (Int32.ofNat o), .ref b])) := c4.trans (by
    refine XS.astoreN X3.here hexec rfl (hb hbytes d3) rfl rfl rfl ?_
    refine XS.aloadN X3.here hexec rfl (hb hbytes d4) rfl rfl ?_
    refine XS.iloadN X3.here hexec rfl (hb hbytes d5) rfl ?_
    refine XS.aloadN X3.here hexec rfl (hb hbytes d6) rfl rfl ?_
    refine iconstV X3.here hexec rfl 0 (hb hbytes d7) (by decide) ?_
    refine XS.iloadN X3.here hexec rfl (hb hbytes d8) rfl ?_
    exact Steps.refl _)
  obtain ⟨v6, T6, X6, E6, g6⟩ := X3.callS hexec (Cmp5.law l b A s.heap.size B3 o 0 len) hown (wks W (staticW U16 115 Cmp5.yN)) (wk W Cmp5.tab) (W := 0) (Nat.le_of_ble_eq_true rfl) (Nat.le_of_ble_eq_true rfl) (Nat.le_refl _) (by show 0 + len + 0 ≤ len; omega) (g := (mkF m 9 #[.val (.ref b), .val (.int (Int32.ofNat o)), .val (.int (Int32.ofNat len)), .val (.ref s.heap.size), .unset, .unset] [.int (Int32.ofNat len), .int (Int32.ofNat 0), .ref s.heap.size, .int (Int32.ofNat o), .ref b])) rfl (by rw [hml]; rfl) c5 (argsL := [.ref b, .int (Int32.ofNat o), .ref s.heap.size, .int (Int32.ofNat 0), .int (Int32.ofNat len)]) (rest := []) rfl rfl (by show 2 * 0 + 0 ≤ _; decide) (hb hbytes d9) (⟨rfl, hA3, ba3, hne, l1, by rw [bs3]; simp, hp⟩)
  obtain ⟨rfl, B6, p6, f6⟩ := E6
  have c7 : Steps p.tables e below (s₁.setTop (entryFrame m #[.ref b, .int (Int32.ofNat o), .int (Int32.ofNat len)] 6)) (T6.setTop (mkF m 12 #[.val (.ref b), .val (.int (Int32.ofNat o)), .val (.int (Int32.ofNat len)), .val (.ref s.heap.size), .unset, .unset] [.int (Int32.ofNat len)])) := g6
  have c8 : Steps p.tables e below (s₁.setTop (entryFrame m #[.ref b, .int (Int32.ofNat o), .int (Int32.ofNat len)] 6)) (T6.setTop (mkF m 58 #[.val (.ref b), .val (.int (Int32.ofNat o)), .val (.int (Int32.ofNat len)), .val (.ref s.heap.size), .val (.int (Int32.ofNat len)), .unset] [.ref s.heap.size])) := c7.trans (by
    refine XS.istore X6.here hexec rfl (hb hbytes d12) rfl rfl ?_
    refine XS.iload X6.here hexec rfl (hb hbytes d14) rfl ?_
    refine XS.iloadN X6.here hexec rfl (hb hbytes d16) rfl ?_
    refine XS.icmpYes X6.here hexec rfl (pc0 := 17) rfl (hb hbytes d17) rfl (ii_eq_t rfl) (by decide) rfl ?_
    refine XS.aloadN X6.here hexec rfl (hb hbytes d57) rfl rfl ?_
    exact Steps.refl _)
  have X8 := X6.wide (L' := []) (cells' := 1) (slots' := len) (fun x hx hlt => by
    simp only [List.nil_append, copyLocs, List.mem_map, List.mem_range] at hx
    obtain ⟨i, -, rfl⟩ := hx
    exact absurd hlt (Nat.lt_irrefl _)) (Nat.le_refl _) (by omega)
  exact ⟨T6, some (.ref s.heap.size), _, _, _, X8, rfl, rfl, rfl, (fun h => by cases h), ⟨⟨rfl, B6, ba3.like (X3.warmed.alike.symm.trans X6.warmed.alike) p6.1 f6.1 f6.2.1 f6.2.2.1, f6.2.1.trans bv3, by rw [X6.warmed.alike.findClass, f6.1]; exact bf3, by rw [f6.2.2.1, bs3]; simp, fun j hj => by rw [f6.2.2.2 j, if_pos (by omega)]; rfl, kp3.put p6 (Nat.le_refl _)⟩, by rw [p6.2.2, bh3, hh0]; simp⟩, fun fs hl => c8.trans (X8.areturnOut hexec rfl hret rfl (hb hbytes d58) hl)⟩
end Cmp3
namespace CodL
def yN : MethodName := ⟨"java/lang/StringUTF16", "coderFromArrayLen", "([BI)B"⟩
abbrev yB : ByteArray := jdk_52_method_15_code
theorem d0 : decode yB 0 = .ok (.iload_n 1, 1) := by decide +kernel
theorem d1 : decode yB 1 = .ok (.aload_n 0, 1) := by decide +kernel
theorem d2 : decode yB 2 = .ok (.arraylength, 1) := by decide +kernel
theorem d3 : decode yB 3 = .ok (.isub, 1) := by decide +kernel
theorem d4 : decode yB 4 = .ok (.bipush 31, 2) := by decide +kernel
theorem d6 : decode yB 6 = .ok (.iushr, 1) := by decide +kernel
theorem d7 : decode yB 7 = .ok (.i2b, 1) := by decide +kernel
theorem d8 : decode yB 8 = .ok (.ireturn, 1) := by decide +kernel
def site : List Cond := []
def tab : Cond := tabOf yN yB 2 (some .byte) site
def P (d : Addr) (B : Cell) (args : Array Value) (s : State) : Prop := args = #[.ref d, .int (Int32.ofNat B.slots.size)] ∧ Arr .byte d B s
def E (r : Option Value) (s u : State) : Prop := XT.PureE (some (.int 0)) r s u
/-- an array as long as the number of chars: LATIN1 -/
theorem law (l : Launch) (d : Addr) (B : Cell) : Law l yN 2 2 0 0 yB 2 (some .byte) site (P d B) E [] 0 0 := by
  refine Law.of_walk (plainFor_of_name (by decide +kernel)) (by decide +kernel) (by decide +kernel) (by decide) (fun _ _ h => by rw [h.1]; rfl) (fun _ U U' hal hh h => ⟨h.1, h.2.mv hal hh⟩) (fun r U U' V V' h1 hal h2 h => XT.PureE.mv r U U' V V' h1 hal h2 h) ?_
  intro p e s m args below meth c s₁ X0 hexec hbytes hml hret hlk hnm hown hh0 W hP
  obtain ⟨rfl, hB⟩ := hP
  have hB0 := hB.mv X0.warmed.alike hh0
  have c1 : Steps p.tables e below (s₁.setTop (entryFrame m #[.ref d, .int (Int32.ofNat B.slots.size)] 2)) (s₁.setTop (mkF m 0 #[.val (.ref d), .val (.int (Int32.ofNat B.slots.size))] [])) := entry rfl
  have c2 : Steps p.tables e below (s₁.setTop (entryFrame m #[.ref d, .int (Int32.ofNat B.slots.size)] 2)) (s₁.setTop (mkF m 2 #[.val (.ref d), .val (.int (Int32.ofNat B.slots.size))] [.ref d, .int (Int32.ofNat B.slots.size)])) := c1.trans (by
    refine XS.iloadN X0.here hexec rfl (hb hbytes d0) rfl ?_
    refine XS.aloadN X0.here hexec rfl (hb hbytes d1) rfl rfl ?_
    exact Steps.refl _)
  have c3 : Steps p.tables e below (s₁.setTop (entryFrame m #[.ref d, .int (Int32.ofNat B.slots.size)] 2)) (s₁.setTop (mkF m 8 #[.val (.ref d), .val (.int (Int32.ofNat B.slots.size))] [.int (lo8 (ushr (Int32.ofNat B.slots.size - Int32.ofNat B.slots.size) 31))])) := c2.trans (by
    refine X0.alen hexec hB0 rfl rfl (hb hbytes d2) ?_
    refine XS.isub X0.here hexec rfl (hb hbytes d3) rfl ?_
    refine bipushV X0.here hexec rfl 31 (hb hbytes d4) (by decide) ?_
    refine iushr X0.here hexec rfl (hb hbytes d6) rfl ?_
    refine i2b X0.here hexec rfl (hb hbytes d7) rfl ?_
    exact Steps.refl _)
  have e0 : lo8 (ushr (Int32.ofNat B.slots.size - Int32.ofNat B.slots.size) 31) = 0 := by rw [Int32.sub_self]; decide
  rw [e0] at c3
  exact ⟨s₁, some (.int 0), _, _, _, X0, rfl, rfl, rfl, (fun h => by cases h), ⟨rfl, hh0⟩, fun fs hl => c3.trans (X0.ireturnOut hexec hret rfl (Or.inr (Or.inr (Or.inl rfl))) (hb hbytes d8) hl)⟩
end CodL
/-- the String at a is Latin-1 over a new byte[] (the heap's one new cell): the low bytes of the len chars of A from o on; every cell but a is kept -/
def Got (a : Addr) (D : Cell) (fV fC : Field) (A : Cell) (o len : Nat) (r : Option Value) (s u : State) : Prop := r = none ∧ ∃ D' V : Cell, Blank "java/lang/String" a D' u ∧ Same D D' [fV.slot, fC.slot] ∧ D'.slots[fV.slot]? = some (.ref s.heap.size) ∧ D'.slots[fC.slot]? = some (.int 0) ∧ Arr .byte s.heap.size V u ∧ V.vm = .none ∧ u.vm.findClass "[B" = some V.cls ∧ V.slots.size = len ∧ (∀ j, j < len → V.slots[j]? = some (.int (lo8 (cv A (o + j))))) ∧ (∀ (y : Addr) (c : Cell), y ≠ a → s.heap[y]? = some c → u.heap[y]? = some c) ∧ u.heap.size = s.heap.size + 1
theorem Got.mv {a : Addr} {D A : Cell} {fV fC : Field} {o len : Nat} : ∀ r (U U' V V' : State), U'.heap = U.heap → V.vm.Alike V'.vm → V'.heap = V.heap → Got a D fV fC A o len r U V → Got a D fV fC A o len r U' V' :=
  fun r U U' V V' h1 hal h2 ⟨e0, D', X, a1, a2, a3, a4, a5, a6, a7, a8, a9, a10, a11⟩ => ⟨e0, D', X, a1.mv hal h2, a2, by rw [h1]; exact a3, a4, by rw [h1]; exact a5.mv hal h2, a6, by rw [hal.findClass]; exact a7, a8, a9, by rw [h1, h2]; exact a10, by rw [h1, h2]; exact a11⟩
namespace New4
def yN : MethodName := ⟨"java/lang/String", "<init>", "([CIILjava/lang/Void;)V"⟩
abbrev yB : ByteArray := jdk_42_method_149_code
theorem d0 : decode yB 0 = .ok (.aload_n 0, 1) := by decide +kernel
theorem d1 : decode yB 1 = .ok (.invokespecial 1, 3) := by decide +kernel
theorem d4 : decode yB 4 = .ok (.iload_n 3, 1) := by decide +kernel
theorem d5 : decode yB 5 = .ok (.ifCond (.ne) 22, 3) := by decide +kernel
theorem d27 : decode yB 27 = .ok (.getstatic 38, 3) := by decide +kernel
theorem d30 : decode yB 30 = .ok (.ifCond (.eq) 28, 3) := by decide +kernel
theorem d33 : decode yB 33 = .ok (.aload_n 1, 1) := by decide +kernel
theorem d34 : decode yB 34 = .ok (.iload_n 2, 1) := by decide +kernel
theorem d35 : decode yB 35 = .ok (.iload_n 3, 1) := by decide +kernel
theorem d36 : decode yB 36 = .ok (.invokestatic 177, 3) := by decide +kernel
theorem d39 : decode yB 39 = .ok (.astore 5, 2) := by decide +kernel
theorem d41 : decode yB 41 = .ok (.aload_n 0, 1) := by decide +kernel
theorem d42 : decode yB 42 = .ok (.aload 5, 2) := by decide +kernel
theorem d44 : decode yB 44 = .ok (.iload_n 3, 1) := by decide +kernel
theorem d45 : decode yB 45 = .ok (.invokestatic 47, 3) := by decide +kernel
theorem d48 : decode yB 48 = .ok (.putfield 15, 3) := by decide +kernel
theorem d51 : decode yB 51 = .ok (.aload_n 0, 1) := by decide +kernel
theorem d52 : decode yB 52 = .ok (.aload 5, 2) := by decide +kernel
theorem d54 : decode yB 54 = .ok (.putfield 9, 3) := by decide +kernel
theorem d57 : decode yB 57 = .ok (.return_, 1) := by decide +kernel
def site : List Cond := [.fieldLink "java/lang/String" 38 "java/lang/String" "COMPACT_STRINGS" "Z", Cmp3.tab, CodL.tab, .laysFinal "java/lang/String" "java/lang/String" "value" "[B", .fieldLink "java/lang/String" 9 "java/lang/String" "value" "[B", .laysFinal "java/lang/String" "java/lang/String" "coder" "B", .fieldLink "java/lang/String" 15 "java/lang/String" "coder" "B"] ++ objW "java/lang/String" 1 ++ staticW "java/lang/String" 177 Cmp3.yN ++ staticW "java/lang/String" 47 CodL.yN
def tab : Cond := tabOf yN yB 6 none site
def P (a : Addr) (D : Cell) (fV fC : Field) (b : Addr) (A : Cell) (z : Int32) (o len : Nat) (args : Array Value) (s : State) : Prop := args = #[.ref a, .ref b, .int (Int32.ofNat o), .int (Int32.ofNat len), .null] ∧ Blank "java/lang/String" a D s ∧ Found "java/lang/String" "value" "[B" fV s ∧ Found "java/lang/String" "coder" "B" fC s ∧ Ch b A s ∧ StaticIs s "java/lang/String" "COMPACT_STRINGS" "Z" (.int z) ∧ ¬ z = 0 ∧ 0 < len ∧ o + len ≤ A.slots.size ∧ len ≤ 536870912 ∧ ∀ i, i < len → ¬ 255 < cv A (o + i)
def E (a : Addr) (D : Cell) (fV fC : Field) (A : Cell) (o len : Nat) (r : Option Value) (s u : State) : Prop := Got a D fV fC A o len r s u
/-- len > 0, no char of the range above 255: a Latin-1 String of their low bytes -/
theorem law (l : Launch) (a : Addr) (D : Cell) (fV fC : Field) (b : Addr) (A : Cell) (z : Int32) (o len : Nat) : Law l yN 5 4 2 35 yB 6 none site (P a D fV fC b A z o len) (E a D fV fC A o len) [⟨a, fC.slot⟩, ⟨a, fV.slot⟩] 1 len := by
  refine Law.of_walk (plainFor_of_name (by decide +kernel)) (by decide +kernel) (by decide +kernel) (by decide) (fun _ _ h => by rw [h.1]; rfl) (fun _ U U' hal hh h => ⟨h.1, h.2.1.mv hal hh, h.2.2.1.al hal, h.2.2.2.1.al hal, h.2.2.2.2.1.mv hal hh, h.2.2.2.2.2.1.there hal hh, h.2.2.2.2.2.2⟩) (fun r U U' V V' h1 hal h2 h => Got.mv r U U' V V' h1 hal h2 h) ?_
  intro p e s m args below meth c s₁ X0 hexec hbytes hml hret hlk hnm hown hh0 W hP
  obtain ⟨rfl, hB, f1, f2, hA, s1, hz, l0, l1, l2, hp⟩ := hP
  have a31 := hA.1.2.2.2
  have c1 : Steps p.tables e below (s₁.setTop (entryFrame m #[.ref a, .ref b, .int (Int32.ofNat o), .int (Int32.ofNat len), .null] 6)) (s₁.setTop (mkF m 0 #[.val (.ref a), .val (.ref b), .val (.int (Int32.ofNat o)), .val (.int (Int32.ofNat len)), .val .null, .unset] [])) := entry rfl
  have c2 : Steps p.tables e below (s₁.setTop (entryFrame m #[.ref a, .ref b, .int (Int32.ofNat o), .int (Int32.ofNat len), .null] 6)) (s₁.setTop (mkF m 1 #[.val (.ref a), .val (.ref b), .val (.int (Int32.ofNat o)), .val (.int (Int32.ofNat len)), .val .null, .unset] [.ref a])) := c1.trans (by
    refine XS.aloadN X0.here hexec rfl (hb hbytes d0) rfl rfl ?_
    exact Steps.refl _)
  obtain ⟨T3, X3, q3, st3⟩ := X0.oinit hexec hown (wks W (objW "java/lang/String" 1)) (g := (mkF m 1 #[.val (.ref a), .val (.ref b), .val (.int (Int32.ofNat o)), .val (.int (Int32.ofNat len)), .val .null, .unset] [.ref a])) rfl (by rw [hml]; rfl) (rest := []) rfl (hb hbytes d1) (W := 0) (by show 2 * 0 + 0 ≤ _; decide) (Nat.le_of_ble_eq_true rfl) (Nat.le_of_ble_eq_true rfl)
  have hh3 := q3.trans hh0
  have c4 : Steps p.tables e below (s₁.setTop (entryFrame m #[.ref a, .ref b, .int (Int32.ofNat o), .int (Int32.ofNat len), .null] 6)) (T3.setTop (mkF m 27 #[.val (.ref a), .val (.ref b), .val (.int (Int32.ofNat o)), .val (.int (Int32.ofNat len)), .val .null, .unset] [])) := (c2.trans (st3 _ (Steps.refl _))).trans (by
    refine XS.iloadN X3.here hexec rfl (hb hbytes d4) rfl ?_
    refine XS.ifYes X3.here hexec rfl (pc0 := 5) rfl (hb hbytes d5) rfl (i0_ne_t (nz32 (by omega) l0)) (by decide) rfl ?_
    exact Steps.refl _)
  obtain ⟨T5, X5, q5, st5⟩ := X3.sget hexec hown (wk W (.fieldLink "java/lang/String" 38 "java/lang/String" "COMPACT_STRINGS" "Z")) s1 (fun _ _ h => by rw [hh3]; exact h) (g := (mkF m 27 #[.val (.ref a), .val (.ref b), .val (.int (Int32.ofNat o)), .val (.int (Int32.ofNat len)), .val .null, .unset] [])) rfl (hb hbytes d27)
  have hh5 := q5.trans hh3
  have c6 : Steps p.tables e below (s₁.setTop (entryFrame m #[.ref a, .ref b, .int (Int32.ofNat o), .int (Int32.ofNat len), .null] 6)) (T5.setTop (mkF m 30 #[.val (.ref a), .val (.ref b), .val (.int (Int32.ofNat o)), .val (.int (Int32.ofNat len)), .val .null, .unset] [.int z])) := c4.trans (st5 _ (Steps.refl _))
  have c7 : Steps p.tables e below (s₁.setTop (entryFrame m #[.ref a, .ref b, .int (Int32.ofNat o), .int (Int32.ofNat len), .null] 6)) (T5.setTop (mkF m 36 #[.val (.ref a), .val (.ref b), .val (.int (Int32.ofNat o)), .val (.int (Int32.ofNat len)), .val .null, .unset] [.int (Int32.ofNat len), .int (Int32.ofNat o), .ref b])) := c6.trans (by
    refine XS.ifNo X5.here hexec rfl (hb hbytes d30) rfl (i0_eq_f hz) ?_
    refine XS.aloadN X5.here hexec rfl (hb hbytes d33) rfl rfl ?_
    refine XS.iloadN X5.here hexec rfl (hb hbytes d34) rfl ?_
    refine XS.iloadN X5.here hexec rfl (hb hbytes d35) rfl ?_
    exact Steps.refl _)
  obtain ⟨v8, T8, X8, E8, g8⟩ := X5.callS hexec (Cmp3.law l b A o len) hown (wks W (staticW "java/lang/String" 177 Cmp3.yN)) (wk W Cmp3.tab) (W := 0) (Nat.le_of_ble_eq_true rfl) (Nat.le_of_ble_eq_true rfl) (Nat.le_refl _) (by show 0 + len ≤ len; omega) (g := (mkF m 36 #[.val (.ref a), .val (.ref b), .val (.int (Int32.ofNat o)), .val (.int (Int32.ofNat len)), .val .null, .unset] [.int (Int32.ofNat len), .int (Int32.ofNat o), .ref b])) rfl (by rw [hml]; rfl) c7 (argsL := [.ref b, .int (Int32.ofNat o), .int (Int32.ofNat len)]) (rest := []) rfl rfl (by show 2 * 0 + 0 ≤ _; decide) (hb hbytes d36) (⟨rfl, hA.mv X5.warmed.alike hh5, l1, l2, hp⟩)
  obtain ⟨e8, z8⟩ := E8
  obtain ⟨rfl, N, n1, n2, n3, n4, n5, n6⟩ := NewArr.mv _ T5 s _ _ hh5.symm (Vm.Alike.refl _) rfl e8
  rw [hh5] at z8
  have hB1 := hB.keep X8.warmed.alike (n6 _ _ hB.1)
  have hne : s.heap.size ≠ a := (Nat.ne_of_lt (Array.getElem?_eq_some_iff.mp hB.1).1).symm
  have c9 : Steps p.tables e below (s₁.setTop (entryFrame m #[.ref a, .ref b, .int (Int32.ofNat o), .int (Int32.ofNat len), .null] 6)) (T8.setTop (mkF m 39 #[.val (.ref a), .val (.ref b), .val (.int (Int32.ofNat o)), .val (.int (Int32.ofNat len)), .val .null, .unset] [.ref s.heap.size])) := g8
  have c10 : Steps p.tables e below (s₁.setTop (entryFrame m #[.ref a, .ref b, .int (Int32.ofNat o), .int (Int32.ofNat len), .null] 6)) (T8.setTop (mkF m 45 #[.val (.ref a), .val (.ref b), .val (.int (Int32.ofNat o)), .val (.int (Int32.ofNat len)), .val .null, .val (.ref s.heap.size)] [.int (Int32.ofNat N.slots.size), .ref s.heap.size, .ref a])) := by
    have hc : Steps p.tables e below (s₁.setTop (entryFrame m #[.ref a, .ref b, .int (Int32.ofNat o), .int (Int32.ofNat len), .null] 6)) (T8.setTop (mkF m 45 #[.val (.ref a), .val (.ref b), .val (.int (Int32.ofNat o)), .val (.int (Int32.ofNat len)), .val .null, .val (.ref s.heap.size)] [.int (Int32.ofNat len), .ref s.heap.size, .ref a])) := c9.trans (by
      refine XS.astore X8.here hexec rfl (hb hbytes d39) rfl rfl rfl ?_
      refine XS.aloadN X8.here hexec rfl (hb hbytes d41) rfl rfl ?_
      refine XS.aload X8.here hexec rfl (hb hbytes d42) rfl rfl ?_
      refine XS.iloadN X8.here hexec rfl (hb hbytes d44) rfl ?_
      exact Steps.refl _)
    rw [n4]; exact hc
  obtain ⟨v11, T11, X11, E11, g11⟩ := X8.callS hexec (CodL.law l s.heap.size N) hown (wks W (staticW "java/lang/String" 47 CodL.yN)) (wk W CodL.tab) (W := 1) (Nat.le_of_ble_eq_true rfl) (Nat.le_of_ble_eq_true rfl) (Nat.le_refl _) (by show 0 + len + 0 ≤ len; omega) (g := (mkF m 45 #[.val (.ref a), .val (.ref b), .val (.int (Int32.ofNat o)), .val (.int (Int32.ofNat len)), .val .null, .val (.ref s.heap.size)] [.int (Int32.ofNat N.slots.size), .ref s.heap.size, .ref a])) rfl (by rw [hml]; rfl) c10 (argsL := [.ref s.heap.size, .int (Int32.ofNat N.slots.size)]) (rest := [.ref a]) rfl rfl (by show 2 * 0 + (1 + 0) ≤ _; decide) (hb hbytes d45) (⟨rfl, n1⟩)
  obtain ⟨rfl, q11⟩ := E11
  have hB11 := hB1.mv (X8.warmed.alike.symm.trans X11.warmed.alike) q11
  have c12 : Steps p.tables e below (s₁.setTop (entryFrame m #[.ref a, .ref b, .int (Int32.ofNat o), .int (Int32.ofNat len), .null] 6)) (T11.setTop (mkF m 48 #[.val (.ref a), .val (.ref b), .val (.int (Int32.ofNat o)), .val (.int (Int32.ofNat len)), .val .null, .val (.ref s.heap.size)] [.int 0, .ref a])) := g11
  obtain ⟨T13, X13, p13, bl13, sl13, st13⟩ := X11.finit hexec hown (wk W (.fieldLink "java/lang/String" 15 "java/lang/String" "coder" "B")) (Or.inr ⟨_, (wk W (.laysFinal "java/lang/String" "java/lang/String" "coder" "B"))⟩) (Or.inl ⟨rfl, hnm⟩) f2 (Or.inl rfl) hB11 (t := .byte) (by decide +kernel) rfl (g := (mkF m 48 #[.val (.ref a), .val (.ref b), .val (.int (Int32.ofNat o)), .val (.int (Int32.ofNat len)), .val .null, .val (.ref s.heap.size)] [.int 0, .ref a])) rfl (rest := []) rfl (hb hbytes d48)
  have c14 : Steps p.tables e below (s₁.setTop (entryFrame m #[.ref a, .ref b, .int (Int32.ofNat o), .int (Int32.ofNat len), .null] 6)) (T13.setTop (mkF m 54 #[.val (.ref a), .val (.ref b), .val (.int (Int32.ofNat o)), .val (.int (Int32.ofNat len)), .val .null, .val (.ref s.heap.size)] [.ref s.heap.size, .ref a])) := (c12.trans (st13 _ (Steps.refl _))).trans (by
    refine XS.aloadN X13.here hexec rfl (hb hbytes d51) rfl rfl ?_
    refine XS.aload X13.here hexec rfl (hb hbytes d52) rfl rfl ?_
    exact Steps.refl _)
  obtain ⟨T15, X15, p15, bl15, sl15, st15⟩ := X13.finit hexec hown (wk W (.fieldLink "java/lang/String" 9 "java/lang/String" "value" "[B")) (Or.inr ⟨_, (wk W (.laysFinal "java/lang/String" "java/lang/String" "value" "[B"))⟩) (Or.inl ⟨rfl, hnm⟩) f1 (Or.inl rfl) bl13 (t := (.array .byte)) (by decide +kernel) rfl (g := (mkF m 54 #[.val (.ref a), .val (.ref b), .val (.int (Int32.ofNat o)), .val (.int (Int32.ofNat len)), .val .null, .val (.ref s.heap.size)] [.ref s.heap.size, .ref a])) rfl (rest := []) rfl (hb hbytes d54)
  have c16 : Steps p.tables e below (s₁.setTop (entryFrame m #[.ref a, .ref b, .int (Int32.ofNat o), .int (Int32.ofNat len), .null] 6)) (T15.setTop (mkF m 57 #[.val (.ref a), .val (.ref b), .val (.int (Int32.ofNat o)), .val (.int (Int32.ofNat len)), .val .null, .val (.ref s.heap.size)] [])) := c14.trans (st15 _ (Steps.refl _))
  have ap := apart (Or.inr ⟨_, (wk W (.laysFinal "java/lang/String" "java/lang/String" "value" "[B"))⟩) (Or.inr ⟨_, (wk W (.laysFinal "java/lang/String" "java/lang/String" "coder" "B"))⟩) f1 f2 (t₁ := .array .byte) (t₂ := .byte) (by decide +kernel) (by decide +kernel) (by decide)
  have al := X8.warmed.alike.symm.trans X15.warmed.alike
  have n7 : T11.heap[s.heap.size]? = some N := by rw [q11]; exact n1.1
  exact ⟨T15, none, _, _, _, X15, by simp, rfl, by omega, (fun _ => rfl), ⟨rfl, _, N, bl15, ((Same.refl D _).set _ (by simp)).set _ (by simp), sl15, (Cell.slots_setSlot_ne _ ap).trans sl13, n1.keep al (p15.other hne (p13.other hne n7)), n2, by rw [al.findClass]; exact n3, n4, n5, fun y c h1 h2 => p15.other h1 (p13.other h1 (by rw [q11]; exact n6 y c h2)), by rw [p15.2.2, p13.2.2, q11]; exact z8⟩, fun fs hl => c16.trans (X15.returnOut hexec hret (hb hbytes d57) hl)⟩
end New4
namespace New1
def yN : MethodName := ⟨"java/lang/String", "<init>", "([C)V"⟩
abbrev yB : ByteArray := jdk_42_method_3_code
theorem d0 : decode yB 0 = .ok (.aload_n 0, 1) := by decide +kernel
theorem d1 : decode yB 1 = .ok (.aload_n 1, 1) := by decide +kernel
theorem d2 : decode yB 2 = .ok (.iconst 0, 1) := by decide +kernel
theorem d3 : decode yB 3 = .ok (.aload_n 1, 1) := by decide +kernel
theorem d4 : decode yB 4 = .ok (.arraylength, 1) := by decide +kernel
theorem d5 : decode yB 5 = .ok (.aconst_null, 1) := by decide +kernel
theorem d6 : decode yB 6 = .ok (.invokespecial 27, 3) := by decide +kernel
theorem d9 : decode yB 9 = .ok (.return_, 1) := by decide +kernel
def site : List Cond := [New4.tab] ++ initW "java/lang/String" 27 New4.yN
def tab : Cond := tabOf yN yB 2 none site
def P (a : Addr) (D : Cell) (fV fC : Field) (b : Addr) (A : Cell) (z : Int32) (args : Array Value) (s : State) : Prop := args = #[.ref a, .ref b] ∧ Blank "java/lang/String" a D s ∧ Found "java/lang/String" "value" "[B" fV s ∧ Found "java/lang/String" "coder" "B" fC s ∧ Ch b A s ∧ StaticIs s "java/lang/String" "COMPACT_STRINGS" "Z" (.int z) ∧ ¬ z = 0 ∧ 0 < A.slots.size ∧ A.slots.size ≤ 536870912 ∧ ∀ i, i < A.slots.size → ¬ 255 < cv A i
def E (a : Addr) (D : Cell) (fV fC : Field) (A : Cell) (r : Option Value) (s u : State) : Prop := Got a D fV fC A 0 A.slots.size r s u
/-- new String(chars), not empty, no char above 255: a Latin-1 String of their low bytes -/
theorem law (l : Launch) (a : Addr) (D : Cell) (fV fC : Field) (b : Addr) (A : Cell) (z : Int32) : Law l yN 2 1 3 52 yB 2 none site (P a D fV fC b A z) (E a D fV fC A) [⟨a, fC.slot⟩, ⟨a, fV.slot⟩] 1 A.slots.size := by
  refine Law.of_walk (plainFor_of_name (by decide +kernel)) (by decide +kernel) (by decide +kernel) (by decide) (fun _ _ h => by rw [h.1]; rfl) (fun _ U U' hal hh h => ⟨h.1, h.2.1.mv hal hh, h.2.2.1.al hal, h.2.2.2.1.al hal, h.2.2.2.2.1.mv hal hh, h.2.2.2.2.2.1.there hal hh, h.2.2.2.2.2.2⟩) (fun r U U' V V' h1 hal h2 h => Got.mv r U U' V V' h1 hal h2 h) ?_
  intro p e s m args below meth c s₁ X0 hexec hbytes hml hret hlk hnm hown hh0 W hP
  obtain ⟨rfl, hB, f1, f2, hA, s1, hz, l0, l2, hp⟩ := hP
  have c1 : Steps p.tables e below (s₁.setTop (entryFrame m #[.ref a, .ref b] 2)) (s₁.setTop (mkF m 0 #[.val (.ref a), .val (.ref b)] [])) := entry rfl
  have c2 : Steps p.tables e below (s₁.setTop (entryFrame m #[.ref a, .ref b] 2)) (s₁.setTop (mkF m 6 #[.val (.ref a), .val (.ref b)] [.null, .int (Int32.ofNat A.slots.size), .int 0, .ref b, .ref a])) := c1.trans (by
    refine XS.aloadN X0.here hexec rfl (hb hbytes d0) rfl rfl ?_
    refine XS.aloadN X0.here hexec rfl (hb hbytes d1) rfl rfl ?_
    refine iconstV X0.here hexec rfl 0 (hb hbytes d2) (by decide) ?_
    refine XS.aloadN X0.here hexec rfl (hb hbytes d3) rfl rfl ?_
    refine X0.alen hexec (hA.1.mv X0.warmed.alike hh0) rfl rfl (hb hbytes d4) ?_
    refine XS.aconstNull X0.here hexec rfl (hb hbytes d5) ?_
    exact Steps.refl _)
  obtain ⟨v3, T3, X3, E3, g3⟩ := X0.callN hexec (New4.law l a D fV fC b A z 0 A.slots.size) rfl hown (wks W (initW "java/lang/String" 27 New4.yN)) (W New4.tab (by simp only [site, List.mem_cons, List.mem_append, true_or, or_true])) (W := 0) (Nat.le_of_ble_eq_true rfl) (Nat.le_of_ble_eq_true rfl) (Nat.le_refl _) (by show 0 + A.slots.size ≤ A.slots.size; omega) (g := (mkF m 6 #[.val (.ref a), .val (.ref b)] [.null, .int (Int32.ofNat A.slots.size), .int (Int32.ofNat 0), .ref b, .ref a])) rfl (by rw [hml]; rfl) c2 (argsL := [.ref b, .int (Int32.ofNat 0), .int (Int32.ofNat A.slots.size), .null]) (rest := []) rfl rfl (by show 2 * 0 + 0 ≤ _; decide) (hb hbytes d6) (⟨rfl, hB.mv X0.warmed.alike hh0, f1.al X0.warmed.alike, f2.al X0.warmed.alike, hA.mv X0.warmed.alike hh0, s1.there X0.warmed.alike hh0, hz, l0, by omega, l2, fun i hi => by rw [Nat.zero_add]; exact hp i hi⟩)
  have e0 := Got.mv _ s₁ s _ _ hh0.symm (Vm.Alike.refl _) rfl E3
  obtain rfl := e0.1
  have c4 : Steps p.tables e below (s₁.setTop (entryFrame m #[.ref a, .ref b] 2)) (T3.setTop (mkF m 9 #[.val (.ref a), .val (.ref b)] [])) := g3
  exact ⟨T3, none, _, _, _, X3, by simp, rfl, by omega, (fun _ => rfl), e0, fun fs hl => c4.trans (X3.returnOut hexec hret (hb hbytes d9) hl)⟩
theorem pays {l : Launch} {R : Room} {p : Program} {e : Env} {below : List Frame} {s : State} {sargs : Array Value} {len W : Nat} (a : Addr) (D : Cell) (fV fC : Field) (b : Addr) (A : Cell) (z : Int32) (htab : tab.before sargs s = true) (hfr : 4 ≤ R.frames) (hlo : W + 65 ≤ R.locals) :
    Back l R p e below s sargs yN len W (fun A₁ a₁ => A₁.cells + 1 ≤ R.cells ∧ A₁.slots + A.slots.size ≤ R.slots ∧ P a D fV fC b A z a₁ A₁.U) (fun A₁ _ v₁ B₁ => E a D fV fC A v₁ A₁.U B₁.U ∧ B₁.locs = A₁.locs ++ [⟨a, fC.slot⟩, ⟨a, fV.slot⟩] ∧ B₁.cells = A₁.cells + 1 ∧ B₁.slots = A₁.slots + A.slots.size) :=
  (law l a D fV fC b A z).pays htab hfr (by omega)
end New1
/-- the byte, read back as charAt reads it, is the char -/
theorem lo8_mask {x : Int32} (h0 : ¬ x < 0) (h1 : ¬ 255 < x) : lo8 x &&& 255 = x := by
  have t : ∀ k : Fin 256, lo8 (Int32.ofNat k.val) &&& 255 = Int32.ofNat k.val := by decide +kernel
  rw [Int32.lt_iff_toInt_lt] at h0 h1
  have e0 : (0 : Int32).toInt = 0 := rfl
  have e1 : (255 : Int32).toInt = 255 := rfl
  obtain ⟨k, hk⟩ : ∃ k : Nat, x.toInt = k := ⟨x.toInt.toNat, by omega⟩
  have hx : x = Int32.ofNat k := Int32.toInt_inj.mp (by rw [hk, Int32.toInt_ofNat_small (by omega)])
  rw [hx]
  exact t ⟨k, by omega⟩
end StrChars
namespace StrChars.Road
open Jvm Sem ClassFile Op Lib Jvm.Stand Jvm.Free Jvm.Free.XT
open Jvm.Lib.Cold (StaticIs)
abbrev ST : String := "java/lang/String"
/-- every table word that New1's law asks, flat -/
abbrev words : List Jvm.Cond := [.code New1.yN New1.yB 2 none, .initialized ST, .methodLink ST 27 New4.yN, .instanceMethod New4.yN,
  .code New4.yN New4.yB 6 none, .fieldLink ST 38 ST "COMPACT_STRINGS" "Z", .laysFinal ST ST "value" "[B", .fieldLink ST 9 ST "value" "[B", .laysFinal ST ST "coder" "B", .fieldLink ST 15 ST "coder" "B",
  .methodLink ST 1 Lib.objectInit, .instanceMethod Lib.objectInit, .code Lib.objectInit ⟨#[0xb1]⟩ 1 none, .methodLink ST 177 Cmp3.yN, .static Cmp3.yN, .methodLink ST 47 CodL.yN, .static CodL.yN,
  .code Cmp3.yN Cmp3.yB 6 (some (.array .byte)), .initialized U16, .arrayClass .byte, .methodLink U16 115 Cmp5.yN, .static Cmp5.yN, .code Cmp5.yN Cmp5.yB 7 (some .int), .code CodL.yN CodL.yB 2 (some .byte)]
theorem tab_of {a : Array Value} {s : State} (h : ∀ w ∈ words, w.before a s = true) : New1.tab.before a s = true := by
  have h5 : Cmp5.tab.before a s = true := unparts (wk h (.code Cmp5.yN Cmp5.yB 7 (some .int))) (wks h (.initialized Cmp5.yN.cls :: Cmp5.site))
  have hc : CodL.tab.before a s = true := unparts (wk h (.code CodL.yN CodL.yB 2 (some .byte))) (wks h (.initialized CodL.yN.cls :: CodL.site))
  have q5 : ∀ w ∈ Cmp5.tab :: words, w.before a s = true := fun w hw => (List.mem_cons.mp hw).elim (fun e => e ▸ h5) (h w)
  have h3 : Cmp3.tab.before a s = true := unparts (wk q5 (.code Cmp3.yN Cmp3.yB 6 (some (.array .byte)))) (wks q5 (.initialized Cmp3.yN.cls :: Cmp3.site))
  have q3 : ∀ w ∈ Cmp3.tab :: CodL.tab :: words, w.before a s = true := fun w hw => (List.mem_cons.mp hw).elim (fun e => e ▸ h3) fun hw => (List.mem_cons.mp hw).elim (fun e => e ▸ hc) (h w)
  have h4 : New4.tab.before a s = true := unparts (wk q3 (.code New4.yN New4.yB 6 none)) (wks q3 (.initialized New4.yN.cls :: New4.site))
  have q4 : ∀ w ∈ New4.tab :: words, w.before a s = true := fun w hw => (List.mem_cons.mp hw).elim (fun e => e ▸ h4) (h w)
  exact unparts (wk q4 (.code New1.yN New1.yB 2 none)) (wks q4 (.initialized New1.yN.cls :: New1.site))
/-- the words ride from the start Z to the walk's own state -/
theorem moved {Z s : State} {a0 args : Array Value} (hZ : Z.Warmed39 s.vm) (hw : ∀ d ∈ words, d.before a0 Z = true) : ∀ d ∈ words, d.before args s = true := fun d hd => by
  have q := hw d hd
  have t : ∀ d ∈ words, d = .arrayClass .byte ∨ (d.onTables && d.keepsFace) = true := by decide +kernel
  rcases t d hd with rfl | t
  · exact RoadKit.mvA hZ q
  · exact RoadKit.mv hZ q t
/-- WHAT COMES BACK, over the tables of the start Z: h the heap at the call, h' behind it -/
def Q (Z : State) (x : Addr) (A : Cell) (h : Heap) (v : Option Value) (h' : Heap) (L : List Loc) : Prop := v = none ∧ (∀ y ∈ L, y.base = x) ∧ RoadKit.Keep h h' [x] ∧ h'.size = h.size + 1 ∧ RoadKit.Exa Z h' x ST ∧ RoadKit.Fld Z h' x ST "value" "[B" (.ref h.size) ∧ RoadKit.Fld Z h' x ST "coder" "B" (.int 0) ∧
  (∃ V : Cell, RoadKit.Arr Z h' h.size V .byte ∧ V.vm = .none ∧ Z.vm.findClass "[B" = some V.cls ∧ V.slots.size = A.slots.size ∧ ∀ j, j < A.slots.size → V.slots[j]? = some (.int (lo8 (cv A j)))) ∧
  ∀ (O n d : String) (w : Value), RoadKit.Fld Z h x O n d w → RoadKit.slotOf Z O n d ≠ RoadKit.slotOf Z ST "value" "[B" → RoadKit.slotOf Z O n d ≠ RoadKit.slotOf Z ST "coder" "B" → RoadKit.Fld Z h' x O n d w
/-- **new String(chars) AT A CALL, IN THE ROAD'S FORM**: for specialBack behind newO: x the fresh String, b the char[] with the cell A -/
theorem back {p : Program} {l : Launch} {e : Env} {R : Room} {s : State} {args : Array Value} {below : List Frame} {len W : Nat} {Z : State} {a0 : Array Value} {h : Heap} (hZ : Z.Warmed39 s.vm) (hw : ∀ d ∈ words, d.before a0 Z = true) {kI : Nat} (wi : (Jvm.Cond.instantiable ST kI).before a0 Z = true)
    {x b : Addr} {A : Cell} {z : Int32} {v0 c0 : Value} (E : RoadKit.Exa Z h x ST) (V : RoadKit.Fld Z h x ST "value" "[B" v0) (C : RoadKit.Fld Z h x ST "coder" "B" c0) (K : RoadKit.Arr Z h b A .char) (hty : Typed .char A) (S : RoadKit.Sta Z h ST "COMPACT_STRINGS" "Z" (.int z)) (hz : ¬ z = 0)
    (l0 : 0 < A.slots.size) (l2 : A.slots.size ≤ 536870912) (hp : ∀ i, i < A.slots.size → ¬ 255 < cv A i) (hfr : 4 ≤ R.frames) (hlo : W + 65 ≤ R.locals) :
    Back l R p e below s args New1.yN len W (fun P a => a = #[.ref x, .ref b] ∧ P.U.heap = h ∧ P.cells + 1 ≤ R.cells ∧ P.slots + A.slots.size ≤ R.slots)
      (fun P _ v B => ∃ L, Q Z x A h v B.U.heap L ∧ B.locs = P.locs ++ L ∧ B.cells = P.cells + 1 ∧ B.slots = P.slots + A.slots.size) := by
  intro m meth c P g ig mk a X hg hsize hdg hW hn hp'
  obtain ⟨rfl, rfl, r1, r2⟩ := hp'
  have al : Z.vm.Alike P.U.vm := hZ.alike.trans X.warmed.alike
  obtain ⟨D, cfV, kV, iV, fV, hD, gV, stV, knV, obV, asV, slV⟩ := id V
  obtain ⟨D', cfC, kC, iC, fC, hD', gC, stC, -, -, asC, slC⟩ := id C
  cases hD.symm.trans hD'
  obtain ⟨D2, kD, e1, e2, e3, e4, e5⟩ := id E
  cases hD.symm.trans e1
  obtain ⟨c2, k2, i1, i2, i3, -⟩ := Cond.instantiable_spec wi
  cases e2.symm.trans i1
  cases e3.symm.trans i2
  obtain ⟨kU, u1, u2⟩ := al.2.2 _ _ e3
  have hB : Blank ST x D P.U := ⟨hD, ⟨knV, fun q hq => by rw [hq] at obV; cases obV⟩, by rw [al.findClass]; exact e2, kU, u1, by rw [u2]; exact i3, by rw [u2]; exact e5 i3⟩
  have F1 : Found ST "value" "[B" fV P.U := ⟨SBG.found_only al ⟨cfV, kV, iV, gV⟩, stV⟩
  have F2 : Found ST "coder" "B" fC P.U := ⟨SBG.found_only al ⟨cfC, kC, iC, gC⟩, stC⟩
  have hA : Ch b A P.U := ⟨⟨K.1, State.isArrayOf_alike al K.2.1, K.2.2, by omega⟩, hty⟩
  have hS : StaticIs P.U ST "COMPACT_STRINGS" "Z" (.int z) := by
    obtain ⟨cfS, iS, kS, fS, st, cS, t1, t2, t3, t4, t5, t6, t7⟩ := S
    exact StaticIs.there (s := { Z with heap := P.U.heap }) ⟨cfS, iS, kS, fS, st, cS, t1, t2, t3, t4, t5, (fun q => by rw [q] at t6; cases t6), t7⟩ al rfl
  obtain ⟨v, B, X', ⟨⟨hv, E', V', q1, q2, q3, q4, q5, q6, q7, q8, q9, q10, q11⟩, hl, hc, hs⟩, st⟩ := New1.pays x D fV fC b A z (tab_of (moved hZ hw)) hfr hlo m meth c P g ig mk _ X hg hsize hdg hW hn ⟨r1, r2, rfl, hB, F1, F2, hA, hS, hz, l0, l2, hp⟩
  have al' : Z.vm.Alike B.U.vm := hZ.alike.trans X'.warmed.alike
  have hsz : E'.slots.size = D.slots.size := by
    obtain ⟨-, -, -, kB, w1, w2, w3⟩ := q1
    obtain ⟨kB', y1, y2⟩ := al'.2.2 _ _ e3
    rw [q2.2.1] at w1
    cases w1.symm.trans y1
    rw [w3, e5 i3, y2]
  refine ⟨v, B, X', ⟨_, ⟨hv, ?_, ⟨by omega, fun y cy hy hn' => q10 y cy (by simpa using hn') hy, fun y cy hy => ?_⟩, q11, ⟨E', _, q1.1, by rw [q2.2.1]; exact e2, by rw [q2.2.1]; exact e3, by rw [q2.1]; exact obV, fun _ => by rw [hsz]; exact e5 i3⟩,
    ⟨E', cfV, kV, iV, fV, q1.1, gV, stV, by rw [q2.1]; exact knV, by rw [q2.1]; exact obV, by rw [q2.2.1]; exact asV, q3⟩, ⟨E', cfC, kC, iC, fC, q1.1, gC, stC, by rw [q2.1]; exact knV, by rw [q2.1]; exact obV, by rw [q2.2.1]; exact asC, q4⟩,
    ⟨V', ⟨q5.1, State.isArrayOf_alike al'.symm q5.2.1, q5.2.2.1⟩, q6, by rw [← al'.findClass]; exact q7, q8, fun j hj => by have := q9 j hj; rwa [Nat.zero_add] at this⟩, fun O n d w F n1 n2 => ?_⟩, hl, hc, hs⟩, st⟩
  · intro y hy
    simp only [List.mem_cons, List.not_mem_nil, or_false] at hy
    rcases hy with rfl | rfl <;> rfl
  · by_cases q : y = x
    · subst q
      cases hD.symm.trans hy
      exact ⟨E', q1.1, q2.2.1, q2.1, hsz⟩
    · exact ⟨cy, q10 y cy q hy, rfl, rfl, rfl⟩
  · obtain ⟨D3, cf, k, i, f, g1, g2, g3, g4, g5, g6, g7⟩ := F
    cases hD.symm.trans g1
    simp only [RoadKit.slotOf, g2, gV, gC, Option.map_some, Option.getD_some] at n1 n2
    exact ⟨E', cf, k, i, f, q1.1, g2, g3, by rw [q2.1]; exact g4, by rw [q2.1]; exact g5, by rw [q2.2.1]; exact g6, by rw [q2.2.2 f.slot (by simp [n1, n2])]; exact g7⟩
end StrChars.Road
namespace StrChars.Road
open Jvm Sem ClassFile Op Lib Jvm.Stand Jvm.Free Jvm.Free.XT
/-- WHAT COMES BACK, the byte[] as a list of values -/
def QA (Z : State) (x : Addr) (zn : Int32) (cs : List Int32) (h : Heap) (v : Option Value) (h' : Heap) (L : List Loc) : Prop := v = none ∧ (∀ y ∈ L, y.base = x) ∧ RoadKit.Keep h h' [x] ∧ h'.size = h.size + 1 ∧ RoadKit.Exa Z h' x ST ∧ RoadKit.Fld Z h' x ST "value" "[B" (.ref h.size) ∧ RoadKit.Fld Z h' x ST "coder" "B" (.int 0) ∧
  (∃ kb, Z.vm.findClass "[B" = some kb ∧ RoadKit.Arv Z h' h.size kb .byte zn (cs.map fun c => .int (lo8 c)) (.int 0)) ∧
  ∀ (O n d : String) (w : Value), RoadKit.Fld Z h x O n d w → RoadKit.slotOf Z O n d ≠ RoadKit.slotOf Z ST "value" "[B" → RoadKit.slotOf Z O n d ≠ RoadKit.slotOf Z ST "coder" "B" → RoadKit.Fld Z h' x O n d w
/-- **new String(chars) AT A CALL, THE ARRAYS AS LISTS**: the char[] at b holds cs, not empty, no char above 255 -/
theorem backArv {p : Program} {l : Launch} {e : Env} {R : Room} {s : State} {args : Array Value} {below : List Frame} {len W : Nat} {Z : State} {a0 : Array Value} {h : Heap} (hZ : Z.Warmed39 s.vm) (hw : ∀ d ∈ words, d.before a0 Z = true) {kI : Nat} (wi : (Jvm.Cond.instantiable ST kI).before a0 Z = true)
    {x b : Addr} {k : ClassId} {zn z : Int32} {cs : List Int32} {dv v0 c0 : Value} (E : RoadKit.Exa Z h x ST) (V : RoadKit.Fld Z h x ST "value" "[B" v0) (C : RoadKit.Fld Z h x ST "coder" "B" c0) (K : RoadKit.Arv Z h b k .char zn (cs.map Value.int) dv) (S : RoadKit.Sta Z h ST "COMPACT_STRINGS" "Z" (.int z)) (hz : ¬ z = 0)
    (hlen : zn.toNatClampNeg = cs.length) (h0 : 0 < cs.length) (hbig : cs.length ≤ 536870912) (hall : ∀ c ∈ cs, ¬ 255 < c) (hfr : 4 ≤ R.frames) (hlo : W + 65 ≤ R.locals) :
    Back l R p e below s args New1.yN len W (fun P a => a = #[.ref x, .ref b] ∧ P.U.heap = h ∧ P.cells + 1 ≤ R.cells ∧ P.slots + cs.length ≤ R.slots)
      (fun P _ v B => ∃ L, QA Z x zn cs h v B.U.heap L ∧ B.locs = P.locs ++ L ∧ B.cells = P.cells + 1 ∧ B.slots = P.slots + cs.length) := by
  obtain ⟨A, K1, K2, K3, K4, K5, K6⟩ := K
  have e : A.slots.size = cs.length := K3.trans hlen
  have hat : ∀ (i : Nat) (hi : i < cs.length), A.slots[i]? = some (.int cs[i]) := fun i hi => by rw [K5 i (by omega)]; simp [List.getD_eq_getElem?_getD, hi]
  have hcv : ∀ (i : Nat) (hi : i < cs.length), cv A i = cs[i] := fun i hi => by unfold cv; rw [hat i hi]
  have hty : Typed .char A := fun i v hv => by
    have hi : i < A.slots.size := (Array.getElem?_eq_some_iff.mp hv).1
    have q := K5 i hi
    rw [hv] at q
    rw [Option.some.inj q]
    exact K6 i hi
  refine Back.mono (back hZ hw wi E V C K1 hty S hz (by omega) (by omega) (fun i hi => by rw [hcv i (by omega)]; exact hall _ (List.getElem_mem _)) hfr hlo) (fun P a hp => ⟨hp.1, hp.2.1, hp.2.2.1, by rw [e]; exact hp.2.2.2⟩) (fun P a v B hp hq => ?_)
  obtain ⟨L, ⟨q1, q2, q3, q4, q5, q6, q7, ⟨V', v1, v2, v3, v4, v5⟩, q9⟩, hl, hc, hs⟩ := hq
  refine ⟨L, ⟨q1, q2, q3, q4, q5, q6, q7, ⟨V'.cls, v3, V', v1, rfl, by rw [v4, e, hlen], K4, fun i hi => ?_, fun i hi => ?_⟩, q9⟩, hl, hc, by rw [hs, e]⟩
  · have hi' : i < cs.length := by omega
    rw [v5 i (by omega), hcv i hi']; simp [List.getD_eq_getElem?_getD, hi']
  · have hi' : i < cs.length := by omega
    simp only [List.getD_eq_getElem?_getD, List.getElem?_map, List.getElem?_eq_getElem hi', Option.map_some, Option.getD_some]
    exact fits_lo8 _
end StrChars.Road
namespace StrChars.Road
open Jvm Sem ClassFile Op Lib Jvm.Stand Jvm.Free Jvm.Free.XT
/-- WHAT COMES BACK, in the writer's own shape -/
def QV (Z : State) (x : Addr) (N : Int32) (bs : List Int32) (h : Heap) (n0 : Nat) (v : Option Value) (h' : Heap) (L : List Loc) : Prop := v = none ∧ RoadKit.Fr n0 L ∧ RoadKit.Keep h h' [x] ∧ RoadKit.Exa Z h' x ST ∧ RoadKit.Fld Z h' x ST "coder" "B" (.int 0) ∧
  ∃ (t : Addr) (kb : ClassId), n0 ≤ t ∧ h.size ≤ t ∧ ¬ t = x ∧ RoadKit.Fld Z h' x ST "value" "[B" (.ref t) ∧ RoadKit.Arv Z h' t kb .byte N (bs.map Value.int) (.int 0)
/-- **new String(chars) AT A CALL, FOR THE WRITER**: a char[] of n known ints, each 0 to 255 -/
theorem backV {p : Program} {l : Launch} {e : Env} {R : Room} {s : State} {args : Array Value} {below : List Frame} {len W : Nat} {Z : State} {a0 : Array Value} {h : Heap} (hZ : Z.Warmed39 s.vm) (hw : ∀ d ∈ words, d.before a0 Z = true) {kI : Nat} (wi : (Jvm.Cond.instantiable ST kI).before a0 Z = true)
    {x b : Addr} {kC : ClassId} {cs bs : List Int32} {d v0 c0 : Value} {z N : Int32} {n n0 : Nat} (hx0 : n0 ≤ x) (hh0 : n0 ≤ h.size) (E : RoadKit.Exa Z h x ST) (V : RoadKit.Fld Z h x ST "value" "[B" v0) (C : RoadKit.Fld Z h x ST "coder" "B" c0) (K : RoadKit.Arv Z h b kC .char N (cs.map Value.int) d) (S : RoadKit.Sta Z h ST "COMPACT_STRINGS" "Z" (.int z)) (hz : ¬ z = 0)
    (hn : cs.length = n) (hN : N = Int32.ofNat n) (l0 : 0 < n) (l2 : n ≤ 4000) (hp : ∀ c ∈ cs, ¬ c < 0 ∧ ¬ (255 : Int32) < c) (hb : bs = cs.map (fun c => c.toInt8.toInt32)) (hfr : 4 ≤ R.frames) (hlo : W + 65 ≤ R.locals) :
    Back l R p e below s args (⟨"java/lang/String", "<init>", "([C)V"⟩ : MethodName) len W (fun P a => a = #[.ref x, .ref b] ∧ P.U.heap = h ∧ P.cells + 1 ≤ R.cells ∧ P.slots + n ≤ R.slots)
      (fun P _ v B => ∃ L, QV Z x N bs h n0 v B.U.heap L ∧ B.locs = P.locs ++ L ∧ B.cells = P.cells + 1 ∧ B.slots = P.slots + n) := by
  subst hn hN hb
  refine Back.mono (backArv hZ hw wi E V C K S hz (n32 (by omega)) l0 (by omega) (fun c hc => (hp c hc).2) hfr hlo) (fun P a hp => hp) (fun P a v B hp hq => ?_)
  obtain ⟨L, ⟨q1, q2, q3, q4, q5, q6, q7, ⟨kb, v1, v2⟩, q9⟩, hl, hc, hs⟩ := hq
  exact ⟨L, ⟨q1, fun y hy => by rw [q2 y hy]; exact hx0, q3, q5, q7, h.size, kb, hh0, Nat.le_refl _, Nat.ne_of_gt E.lt, q6, by rw [List.map_map]; exact v2⟩, hl, hc, hs⟩
end StrChars.Road
namespace StrChars
open Jvm Sem ClassFile Op Lib Jvm.Stand Jvm.Free.XT Jvm.Free.ALB Jvm.Free.JM Jvm.Free
open Jvm.Lib.Cold (StaticIs)
def hi8 (x : Int32) : Int32 := lo8 (x >>> ((8 : Int32) &&& 31))
/-- what StringUTF16.getChar makes of two bytes -/
def pairCh (u v : Int32) : Int32 := (((u &&& 255) <<< ((0 : Int32) &&& 31)) ||| ((v &&& 255) <<< ((8 : Int32) &&& 31))).toUInt32.toUInt16.toUInt32.toInt32
theorem lo8_and (x : Int32) : (lo8 x &&& 255).toBitVec.toNat = x.toBitVec.toNat % 256 := by
  have h : (lo8 x).toBitVec = (x.toBitVec.signExtend 8).signExtend 32 := by rw [lo8, Int8.toBitVec_toInt32, Int32.toBitVec_toInt8]
  rw [Int32.toBitVec_and, BitVec.toNat_and, h]
  have e : ((x.toBitVec.signExtend 8).signExtend 32).toNat % 256 = x.toBitVec.toNat % 256 := by
    rw [BitVec.toNat_signExtend]
    have hlt := x.toBitVec.isLt
    simp only [BitVec.toNat_setWidth, BitVec.toNat_signExtend]
    split <;> split <;> omega
  rw [← e]
  exact Nat.and_two_pow_sub_one_eq_mod _ 8
theorem pair_says {c : Int32} (h0 : ¬ c < 0) (h1 : ¬ 65535 < c) : pairCh (lo8 c) (hi8 c) = c := by
  rw [Int32.lt_iff_toInt_lt] at h0 h1
  have e0 : (0 : Int32).toInt = 0 := rfl
  have e1 : (65535 : Int32).toInt = 65535 := rfl
  have hc : c.toInt = c.toBitVec.toNat := by
    have := c.toBitVec.isLt
    have e : c.toInt = c.toBitVec.toInt := rfl
    rw [e] at h0 h1
    rw [e]
    rw [BitVec.toInt_eq_toNat_cond] at h0 h1 ⊢
    split at h0 <;> split <;> omega
  have hn : c.toBitVec.toNat < 65536 := by omega
  have a1 := lo8_and c
  have a2 : (hi8 c &&& 255).toBitVec.toNat = c.toBitVec.toNat / 256 := by
    rw [hi8, lo8_and]
    have e : ((8 : Int32) &&& 31) = 8 := by decide
    rw [e, Int32.toBitVec_shiftRight]
    have e2 : ((8 : Int32).toBitVec.smod 32) = 8#32 := by decide
    rw [e2, BitVec.sshiftRight_eq', BitVec.toNat_sshiftRight_of_msb_false (by rw [BitVec.msb_eq_false_iff_two_mul_lt]; omega)]
    show c.toBitVec.toNat >>> 8 % 256 = _
    rw [Nat.shiftRight_eq_div_pow]
    omega
  unfold pairCh
  apply Int32.toBitVec_inj.mp
  apply BitVec.eq_of_toNat_eq
  have f0 : ((0 : Int32) &&& 31) = 0 := by decide
  have f8 : ((8 : Int32) &&& 31) = 8 := by decide
  rw [f0, f8]
  have g : (((lo8 c &&& 255) <<< (0 : Int32)) ||| ((hi8 c &&& 255) <<< (8 : Int32))).toBitVec.toNat = c.toBitVec.toNat := by
    rw [Int32.toBitVec_or, Int32.toBitVec_shiftLeft, Int32.toBitVec_shiftLeft]
    have s0 : ((0 : Int32).toBitVec.smod 32) = 0#32 := by decide
    have s8 : ((8 : Int32).toBitVec.smod 32) = 8#32 := by decide
    rw [s0, s8, BitVec.toNat_or]
    simp only [BitVec.shiftLeft_eq', BitVec.toNat_shiftLeft, a1, a2]
    show (c.toBitVec.toNat % 256) <<< 0 % 2 ^ 32 ||| (c.toBitVec.toNat / 256) <<< 8 % 2 ^ 32 = _
    rw [Nat.shiftLeft_zero, Nat.mod_eq_of_lt (show c.toBitVec.toNat % 256 < 2 ^ 32 by omega), Nat.mod_eq_of_lt (show (c.toBitVec.toNat / 256) <<< 8 < 2 ^ 32 by rw [Nat.shiftLeft_eq]; omega), Nat.or_comm, ← Nat.shiftLeft_add_eq_or_of_lt (by omega), Nat.shiftLeft_eq]
    omega
  show BitVec.toNat (((((lo8 c &&& 255) <<< (0 : Int32)) ||| ((hi8 c &&& 255) <<< (8 : Int32))).toBitVec.setWidth 16).setWidth 32) = _
  rw [BitVec.toNat_setWidth, BitVec.toNat_setWidth, g]
  omega
end StrChars
namespace StrChars
open Jvm Sem ClassFile Op Lib Jvm.Stand Jvm.Free.XT Jvm.Free.ALB Jvm.Free.JM Jvm.Free
open Jvm.Lib.Cold (StaticIs)
/-- the array's cell V codes the n chars f 0 .. f (n - 1) by the coder cd, as the JDK does: coder 1 just where some char is above 255 -/
def Cod (cd : Int32) (n : Nat) (f : Nat → Int32) (V : Cell) : Prop := (cd = 0 ∧ V.slots.size = n ∧ ∀ j, j < n → V.slots[j]? = some (.int (lo8 (f j))) ∧ ¬ 255 < f j) ∨ (cd = 1 ∧ V.slots.size = 2 * n ∧ (∀ j, j < n → V.slots[2 * j]? = some (.int (lo8 (f j))) ∧ V.slots[2 * j + 1]? = some (.int (hi8 (f j)))) ∧ ∃ j, j < n ∧ 255 < f j)
/-- **x is a String of the n chars f 0 .. f (n - 1)**, Latin-1 or UTF-16; its array at t has the cell V -/
def Txt (x t : Addr) (V : Cell) (cd : Int32) (n : Nat) (f : Nat → Int32) (U : State) : Prop := Exact "java/lang/String" x U ∧ Has x "java/lang/String" "value" "[B" (.ref t) U ∧ Has x "java/lang/String" "coder" "B" (.int cd) U ∧ XT.Arr .byte t V U ∧ Cod cd n f V ∧ ∀ j, j < n → ¬ f j < 0 ∧ ¬ 65535 < f j
theorem Txt.mv {x t : Addr} {V : Cell} {cd : Int32} {n : Nat} {f : Nat → Int32} {U U' : State} (h : Txt x t V cd n f U) (hal : U.vm.Alike U'.vm) (hh : U'.heap = U.heap) : Txt x t V cd n f U' := ⟨h.1.mv hal hh, h.2.1.mv hal hh, h.2.2.1.mv hal hh, h.2.2.2.1.mv hal hh, h.2.2.2.2⟩
end StrChars
namespace StrChars.Road
open Jvm Sem ClassFile Op Lib Jvm.Stand Jvm.Free Jvm.Free.XT
open Jvm.Lib.Cold (StaticIs)
theorem consq {a : Array Value} {s : State} {c : Jvm.Cond} {L : List Jvm.Cond} (h0 : c.before a s = true) (h : ∀ w ∈ L, w.before a s = true) : ∀ w ∈ c :: L, w.before a s = true := fun w hw => (List.mem_cons.mp hw).elim (fun e => e ▸ h0) (h w)
/-- the bytes of the chars cs, low before high -/
def wideBytes : List Int32 → List Value
  | [] => []
  | c :: cs => .int (lo8 c) :: .int (hi8 c) :: wideBytes cs
theorem wide_lo (d : Value) : ∀ (cs : List Int32) (j : Nat), j < cs.length → (wideBytes cs).getD (2 * j) d = .int (lo8 (cs.getD j 0))
  | [], j, h => absurd h (Nat.not_lt_zero j)
  | c :: cs, 0, _ => rfl
  | c :: cs, j + 1, h => by
    have q := wide_lo d cs j (by simpa using h)
    rw [show 2 * (j + 1) = 2 * j + 1 + 1 from by omega]
    simpa [wideBytes] using q
theorem wide_hi (d : Value) : ∀ (cs : List Int32) (j : Nat), j < cs.length → (wideBytes cs).getD (2 * j + 1) d = .int (hi8 (cs.getD j 0))
  | [], j, h => absurd h (Nat.not_lt_zero j)
  | c :: cs, 0, _ => rfl
  | c :: cs, j + 1, h => by
    have q := wide_hi d cs j (by simpa using h)
    rw [show 2 * (j + 1) + 1 = 2 * j + 1 + 1 + 1 from by omega]
    simpa [wideBytes] using q
theorem low_at (d : Value) (cs : List Int32) (j : Nat) (h : j < cs.length) : (cs.map fun c => Value.int (lo8 c)).getD j d = .int (lo8 (cs.getD j 0)) := by
  simp [List.getD_eq_getElem?_getD, h]
/-- an array of N2 bytes vs codes the chars cs by the coder cd -/
def CodA (cs : List Int32) (cd N2 : Int32) (vs : List Value) : Prop := (cd = 0 ∧ N2 = Int32.ofNat cs.length ∧ vs = (cs.map fun c => Value.int (lo8 c)) ∧ ∀ c ∈ cs, ¬ 255 < c) ∨ (cd = 1 ∧ N2 = Int32.ofNat (2 * cs.length) ∧ vs = wideBytes cs ∧ ∃ c ∈ cs, 255 < c)
theorem CodA.cod {cs : List Int32} {cd N2 : Int32} {vs : List Value} {V : Cell} (h : CodA cs cd N2 vs) (hn : 2 * cs.length < 2 ^ 31) (hs : V.slots.size = N2.toNatClampNeg) (hv : RoadKit.Has V vs (.int 0)) : Cod cd cs.length (fun j => cs.getD j 0) V := by
  rcases h with ⟨rfl, rfl, rfl, h⟩ | ⟨rfl, rfl, rfl, c, hc, hw⟩
  · rw [n32 (by omega)] at hs
    exact Or.inl ⟨rfl, hs, fun j hj => ⟨by rw [hv j (by omega), low_at _ _ _ hj], by
      have e : cs.getD j 0 = cs[j] := by simp [List.getD_eq_getElem?_getD, hj]
      show ¬ 255 < cs.getD j 0
      rw [e]; exact h _ (List.getElem_mem _)⟩⟩
  · rw [n32 (by omega)] at hs
    obtain ⟨j, hj, rfl⟩ := List.getElem_of_mem hc
    exact Or.inr ⟨rfl, hs, fun j hj => ⟨by rw [hv _ (by omega), wide_lo _ _ _ hj], by rw [hv _ (by omega), wide_hi _ _ _ hj]⟩, j, hj, by
      have e : cs.getD j 0 = cs[j] := by simp [List.getD_eq_getElem?_getD, hj]
      show 255 < cs.getD j 0
      rw [e]; exact hw⟩
/-- an object of exactly java/lang/String, its two fields found: as the laws ask it -/
theorem strObj {Z U : State} {a0 : Array Value} {kI : Nat} (wi : (Jvm.Cond.instantiable ST kI).before a0 Z = true) (al : Z.vm.Alike U.vm) {x : Addr} {v0 c0 : Value} (E : RoadKit.Exa Z U.heap x ST) (V : RoadKit.Fld Z U.heap x ST "value" "[B" v0) (C : RoadKit.Fld Z U.heap x ST "coder" "B" c0) :
    ∃ (D : Cell) (fV fC : Field), Blank ST x D U ∧ Found ST "value" "[B" fV U ∧ Found ST "coder" "B" fC U ∧ D.slots[fV.slot]? = some v0 ∧ D.slots[fC.slot]? = some c0 ∧ RoadKit.slotOf Z ST "value" "[B" = fV.slot ∧ RoadKit.slotOf Z ST "coder" "B" = fC.slot := by
  obtain ⟨D, cfV, kV, iV, fV, hD, gV, stV, knV, obV, asV, slV⟩ := V
  obtain ⟨D', cfC, kC, iC, fC, hD', gC, stC, -, -, asC, slC⟩ := C
  cases hD.symm.trans hD'
  obtain ⟨D2, kD, e1, e2, e3, e4, e5⟩ := E
  cases hD.symm.trans e1
  obtain ⟨c2, k2, i1, i2, i3, -⟩ := Cond.instantiable_spec wi
  cases e2.symm.trans i1
  cases e3.symm.trans i2
  obtain ⟨kU, u1, u2⟩ := al.2.2 _ _ e3
  exact ⟨D, fV, fC, ⟨hD, ⟨knV, fun q hq => by rw [hq] at obV; cases obV⟩, by rw [al.findClass]; exact e2, kU, u1, by rw [u2]; exact i3, by rw [u2]; exact e5 i3⟩, ⟨SBG.found_only al ⟨cfV, kV, iV, gV⟩, stV⟩, ⟨SBG.found_only al ⟨cfC, kC, iC, gC⟩, stC⟩, slV, slC, by simp [RoadKit.slotOf, gV], by simp [RoadKit.slotOf, gC]⟩
theorem sta_is {Z U : State} (al : Z.vm.Alike U.vm) {C n d : String} {v : Value} (S : RoadKit.Sta Z U.heap C n d v) : StaticIs U C n d v := by
  obtain ⟨cfS, iS, kS, fS, st, cS, t1, t2, t3, t4, t5, t6, t7⟩ := S
  exact StaticIs.there (s := { Z with heap := U.heap }) ⟨cfS, iS, kS, fS, st, cS, t1, t2, t3, t4, t5, (fun q => by rw [q] at t6; cases t6), t7⟩ al rfl
end StrChars.Road
namespace StrChars
open Jvm Sem ClassFile Op Lib Jvm.Stand Jvm.Free.XT Jvm.Free.ALB Jvm.Free.JM Jvm.Free
open Jvm.Lib.Cold (StaticIs)
/-- what place i of a byte[]'s cell holds -/
def yv (A : Cell) (i : Nat) : Int32 := match A.slots[i]? with | some (.int x) => x | _ => 0
theorem yv_get {a : Addr} {A : Cell} {U : State} (h : XT.Arr .byte a A U) (ht : Typed .byte A) {i : Nat} (hi : i < A.slots.size) : A.slots[i]? = some (.int (yv A i)) := by
  have e := Array.getElem?_eq_getElem hi
  have f := ht i _ e
  unfold yv; rw [e]
  generalize A.slots[i] = v at f
  cases v <;> simp [fits] at f ⊢
/-- the two arrays are equal, place for place -/
def EqC (A B : Cell) : Prop := A.slots.size = B.slots.size ∧ ∀ i, i < A.slots.size → yv A i = yv B i
/-- a boolean that says whether p -/
def Says01 (q : Prop) (r : Option Value) (s u : State) : Prop := ∃ v : Int32, r = some (.int v) ∧ u.heap = s.heap ∧ ((v = 1 ∧ q) ∨ (v = 0 ∧ ¬ q))
theorem Says01.mv {q : Prop} : ∀ r (U U' V V' : State), U'.heap = U.heap → V.vm.Alike V'.vm → V'.heap = V.heap → Says01 q r U V → Says01 q r U' V' :=
  fun r U U' V V' h1 _ h2 ⟨v, a, b, c⟩ => ⟨v, a, by rw [h1, h2]; exact b, c⟩
namespace LEq
def yN : MethodName := ⟨"java/lang/StringLatin1", "equals", "([B[B)Z"⟩
abbrev yB : ByteArray := jdk_43_method_13_code
theorem d0 : decode yB 0 = .ok (.aload_n 0, 1) := by decide +kernel
theorem d1 : decode yB 1 = .ok (.arraylength, 1) := by decide +kernel
theorem d2 : decode yB 2 = .ok (.aload_n 1, 1) := by decide +kernel
theorem d3 : decode yB 3 = .ok (.arraylength, 1) := by decide +kernel
theorem d4 : decode yB 4 = .ok (.if_icmp (.ne) 30, 3) := by decide +kernel
theorem d7 : decode yB 7 = .ok (.iconst 0, 1) := by decide +kernel
theorem d8 : decode yB 8 = .ok (.istore_n 2, 1) := by decide +kernel
theorem d9 : decode yB 9 = .ok (.iload_n 2, 1) := by decide +kernel
theorem d10 : decode yB 10 = .ok (.aload_n 0, 1) := by decide +kernel
theorem d11 : decode yB 11 = .ok (.arraylength, 1) := by decide +kernel
theorem d12 : decode yB 12 = .ok (.if_icmp (.ge) 20, 3) := by decide +kernel
theorem d15 : decode yB 15 = .ok (.aload_n 0, 1) := by decide +kernel
theorem d16 : decode yB 16 = .ok (.iload_n 2, 1) := by decide +kernel
theorem d17 : decode yB 17 = .ok (.baload, 1) := by decide +kernel
theorem d18 : decode yB 18 = .ok (.aload_n 1, 1) := by decide +kernel
theorem d19 : decode yB 19 = .ok (.iload_n 2, 1) := by decide +kernel
theorem d20 : decode yB 20 = .ok (.baload, 1) := by decide +kernel
theorem d21 : decode yB 21 = .ok (.if_icmp (.eq) 5, 3) := by decide +kernel
theorem d24 : decode yB 24 = .ok (.iconst 0, 1) := by decide +kernel
theorem d25 : decode yB 25 = .ok (.ireturn, 1) := by decide +kernel
theorem d26 : decode yB 26 = .ok (.iinc 2 1, 3) := by decide +kernel
theorem d29 : decode yB 29 = .ok (.goto (-20), 3) := by decide +kernel
theorem d32 : decode yB 32 = .ok (.iconst 1, 1) := by decide +kernel
theorem d33 : decode yB 33 = .ok (.ireturn, 1) := by decide +kernel
theorem d34 : decode yB 34 = .ok (.iconst 0, 1) := by decide +kernel
theorem d35 : decode yB 35 = .ok (.ireturn, 1) := by decide +kernel
def site : List Cond := []
def tab : Cond := tabOf yN yB 3 (some .boolean) site
def P (a : Addr) (A : Cell) (b : Addr) (B : Cell) (args : Array Value) (s : State) : Prop := args = #[.ref a, .ref b] ∧ XT.Arr .byte a A s ∧ Typed .byte A ∧ XT.Arr .byte b B s ∧ Typed .byte B
/-- whether two byte[] are equal, place for place -/
theorem law (l : Launch) (a : Addr) (A : Cell) (b : Addr) (B : Cell) : Law l yN 2 2 0 0 yB 3 (some .boolean) site (P a A b B) (Says01 (EqC A B)) [] 0 0 := by
  refine Law.of_walk (plainFor_of_name (by decide +kernel)) (by decide +kernel) (by decide +kernel) (by decide) (fun _ _ h => by rw [h.1]; rfl) (fun _ U U' hal hh h => ⟨h.1, h.2.1.mv hal hh, h.2.2.1, h.2.2.2.1.mv hal hh, h.2.2.2.2⟩) (fun r U U' V V' h1 hal h2 h => Says01.mv r U U' V V' h1 hal h2 h) ?_
  intro p e s m args below meth c s₁ X0 hexec hbytes hml hret hlk hnm hown hh0 W hP
  obtain ⟨rfl, hA, tA, hB, tB⟩ := hP
  have a31 := hA.2.2.2
  have b31 := hB.2.2.2
  have hA0 := hA.mv X0.warmed.alike hh0
  have hB0 := hB.mv X0.warmed.alike hh0
  have c1 : Steps p.tables e below (s₁.setTop (entryFrame m #[.ref a, .ref b] 3)) (s₁.setTop (mkF m 0 #[.val (.ref a), .val (.ref b), .unset] [])) := entry rfl
  have c2 : Steps p.tables e below (s₁.setTop (entryFrame m #[.ref a, .ref b] 3)) (s₁.setTop (mkF m 4 #[.val (.ref a), .val (.ref b), .unset] [.int (Int32.ofNat B.slots.size), .int (Int32.ofNat A.slots.size)])) := c1.trans (by
    refine XS.aloadN X0.here hexec rfl (hb hbytes d0) rfl rfl ?_
    refine X0.alen hexec hA0 rfl rfl (hb hbytes d1) ?_
    refine XS.aloadN X0.here hexec rfl (hb hbytes d2) rfl rfl ?_
    refine X0.alen hexec hB0 rfl rfl (hb hbytes d3) ?_
    exact Steps.refl _)
  by_cases hs : A.slots.size = B.slots.size
  · have c3 : Steps p.tables e below (s₁.setTop (entryFrame m #[.ref a, .ref b] 3)) (s₁.setTop (mkF m 9 #[.val (.ref a), .val (.ref b), .val (.int 0)] [])) := c2.trans (by
      refine XS.icmpNo X0.here hexec rfl (hb hbytes d4) rfl (ii_ne_f (by rw [hs])) ?_
      refine iconstV X0.here hexec rfl 0 (hb hbytes d7) (by decide) ?_
      refine XS.istoreN X0.here hexec rfl (hb hbytes d8) rfl rfl ?_
      exact Steps.refl _)
    have loop : ∀ (r i : Nat), i + r = A.slots.size → (∀ j, j < i → yv A j = yv B j) → Steps p.tables e below (s₁.setTop (entryFrame m #[.ref a, .ref b] 3)) (s₁.setTop (mkF m 9 #[.val (.ref a), .val (.ref b), .val (.int (Int32.ofNat i))] [])) → ∃ (pc : Nat) (Ls : Array Slot) (v : Int32), (pc = 25 ∨ pc = 33) ∧ ((v = 1 ∧ EqC A B) ∨ (v = 0 ∧ ¬ EqC A B)) ∧ Steps p.tables e below (s₁.setTop (entryFrame m #[.ref a, .ref b] 3)) (s₁.setTop (mkF m pc Ls [.int v])) := by
      intro r
      induction r with
      | zero =>
        intro i hi he cl
        exact ⟨33, _, 1, Or.inr rfl, Or.inl ⟨rfl, hs, fun j hj => he j (by omega)⟩, cl.trans (by
          refine XS.iloadN X0.here hexec rfl (hb hbytes d9) rfl ?_
          refine XS.aloadN X0.here hexec rfl (hb hbytes d10) rfl rfl ?_
          refine X0.alen hexec hA0 rfl rfl (hb hbytes d11) ?_
          refine XS.icmpYes X0.here hexec rfl (pc0 := 12) rfl (hb hbytes d12) rfl (ii_ge_t (nlt32 (by omega) (by omega))) (by decide) rfl ?_
          refine iconstV X0.here hexec rfl 1 (hb hbytes d32) (by decide) ?_
          exact Steps.refl _)⟩
      | succ r ih =>
        intro i hi he cl
        have c4 : Steps p.tables e below (s₁.setTop (entryFrame m #[.ref a, .ref b] 3)) (s₁.setTop (mkF m 21 #[.val (.ref a), .val (.ref b), .val (.int (Int32.ofNat i))] [.int (yv B i), .int (yv A i)])) := cl.trans (by
          refine XS.iloadN X0.here hexec rfl (hb hbytes d9) rfl ?_
          refine XS.aloadN X0.here hexec rfl (hb hbytes d10) rfl rfl ?_
          refine X0.alen hexec hA0 rfl rfl (hb hbytes d11) ?_
          refine XS.icmpNo X0.here hexec rfl (hb hbytes d12) rfl (ii_ge_f (lt32 (by omega) (by omega))) ?_
          refine XS.aloadN X0.here hexec rfl (hb hbytes d15) rfl rfl ?_
          refine XS.iloadN X0.here hexec rfl (hb hbytes d16) rfl ?_
          refine X0.aget hexec hA0 rfl (yv_get hA tA (i := i) (by omega)) rfl rfl (hb hbytes d17) ?_
          refine XS.aloadN X0.here hexec rfl (hb hbytes d18) rfl rfl ?_
          refine XS.iloadN X0.here hexec rfl (hb hbytes d19) rfl ?_
          refine X0.aget hexec hB0 rfl (yv_get hB tB (i := i) (by omega)) rfl rfl (hb hbytes d20) ?_
          exact Steps.refl _)
        by_cases hv : yv A i = yv B i
        · have c5 : Steps p.tables e below (s₁.setTop (entryFrame m #[.ref a, .ref b] 3)) (s₁.setTop (mkF m 9 #[.val (.ref a), .val (.ref b), .val (.int (Int32.ofNat i + 1))] [])) := c4.trans (by
            refine XS.icmpYes X0.here hexec rfl (pc0 := 21) rfl (hb hbytes d21) rfl (ii_eq_t hv) (by decide) rfl ?_
            refine iincV X0.here hexec rfl 1 (hb hbytes d26) (by decide) rfl rfl ?_
            refine XS.goto X0.here hexec rfl (pc0 := 29) rfl (hb hbytes d29) (by decide) rfl ?_
            exact Steps.refl _)
          rw [succ32] at c5
          exact ih (i + 1) (by omega) (fun j hj => by
            by_cases e : j = i
            · rw [e]; exact hv
            · exact he j (by omega)) c5
        · exact ⟨25, _, 0, Or.inl rfl, Or.inr ⟨rfl, fun q => hv (q.2 i (by omega))⟩, c4.trans (by
            refine XS.icmpNo X0.here hexec rfl (hb hbytes d21) rfl (ii_eq_f hv) ?_
            refine iconstV X0.here hexec rfl 0 (hb hbytes d24) (by decide) ?_
            exact Steps.refl _)⟩
    obtain ⟨pc, Ls, v, hpc, hv, cz⟩ := loop A.slots.size 0 (by omega) (fun j hj => absurd hj (Nat.not_lt_zero j)) c3
    have nv : narrow .boolean (.int v) = .int v := by rcases hv with ⟨rfl, -⟩ | ⟨rfl, -⟩ <;> rfl
    rcases hpc with rfl | rfl
    · exact ⟨s₁, some (.int v), _, _, _, X0, rfl, rfl, rfl, (fun h => by cases h), ⟨v, rfl, hh0, hv⟩, fun fs hl => cz.trans (X0.ireturnOut hexec hret nv (Or.inr (Or.inl rfl)) (hb hbytes d25) hl)⟩
    · exact ⟨s₁, some (.int v), _, _, _, X0, rfl, rfl, rfl, (fun h => by cases h), ⟨v, rfl, hh0, hv⟩, fun fs hl => cz.trans (X0.ireturnOut hexec hret nv (Or.inr (Or.inl rfl)) (hb hbytes d33) hl)⟩
  · have c3 : Steps p.tables e below (s₁.setTop (entryFrame m #[.ref a, .ref b] 3)) (s₁.setTop (mkF m 35 #[.val (.ref a), .val (.ref b), .unset] [.int 0])) := c2.trans (by
      refine XS.icmpYes X0.here hexec rfl (pc0 := 4) rfl (hb hbytes d4) rfl (ii_ne_t (ne32 a31 b31 hs)) (by decide) rfl ?_
      refine iconstV X0.here hexec rfl 0 (hb hbytes d34) (by decide) ?_
      exact Steps.refl _)
    exact ⟨s₁, some (.int 0), _, _, _, X0, rfl, rfl, rfl, (fun h => by cases h), ⟨0, rfl, hh0, Or.inr ⟨rfl, fun q => hs q.1⟩⟩, fun fs hl => c3.trans (X0.ireturnOut hexec hret rfl (Or.inr (Or.inl rfl)) (hb hbytes d35) hl)⟩
end LEq
theorem Cod.ty {cd : Int32} {n : Nat} {f : Nat → Int32} {V : Cell} (h : Cod cd n f V) : Typed .byte V := fun i v hv => by
  have hi : i < V.slots.size := (Array.getElem?_eq_some_iff.mp hv).1
  rcases h with ⟨-, k1, k2⟩ | ⟨-, k1, k2, -⟩
  · rw [(k2 i (by omega)).1] at hv; cases hv; exact fits_lo8 _
  · rcases Nat.mod_two_eq_zero_or_one i with e | e
    · obtain ⟨j, rfl⟩ : ∃ j, i = 2 * j := ⟨i / 2, by omega⟩
      rw [(k2 j (by omega)).1] at hv; cases hv; exact fits_lo8 _
    · obtain ⟨j, rfl⟩ : ∃ j, i = 2 * j + 1 := ⟨i / 2, by omega⟩
      rw [(k2 j (by omega)).2] at hv; cases hv; exact fits_lo8 _
/-- the same text -/
def SameT (n : Nat) (f : Nat → Int32) (k : Nat) (g : Nat → Int32) : Prop := n = k ∧ ∀ j, j < n → f j = g j
theorem lo8_inj {x y : Int32} (h0 : ¬ x < 0) (h1 : ¬ 255 < x) (k0 : ¬ y < 0) (k1 : ¬ 255 < y) (h : lo8 x = lo8 y) : x = y := by
  rw [← lo8_mask h0 h1, ← lo8_mask k0 k1, h]
/-- arrays coded by one coder are equal just where the texts are -/
theorem Cod.eqv {cd : Int32} {n k : Nat} {f g : Nat → Int32} {V V' : Cell} (h : Cod cd n f V) (h' : Cod cd k g V') (hf : ∀ j, j < n → ¬ f j < 0 ∧ ¬ 65535 < f j) (hg : ∀ j, j < k → ¬ g j < 0 ∧ ¬ 65535 < g j) : EqC V V' ↔ SameT n f k g := by
  have yvv : ∀ {W : Cell} {i : Nat} {x : Int32}, W.slots[i]? = some (.int x) → yv W i = x := fun q => by unfold yv; rw [q]
  rcases h with ⟨rfl, k1, k2⟩ | ⟨rfl, k1, k2, -⟩
  · rcases h' with ⟨-, m1, m2⟩ | ⟨e, -⟩
    · constructor
      · rintro ⟨e1, e2⟩
        refine ⟨by omega, fun j hj => ?_⟩
        have q := e2 j (by omega)
        rw [yvv (k2 j hj).1, yvv (m2 j (by omega)).1] at q
        exact lo8_inj (hf j hj).1 (k2 j hj).2 (hg j (by omega)).1 (m2 j (by omega)).2 q
      · rintro ⟨rfl, e2⟩
        refine ⟨by omega, fun j hj => ?_⟩
        rw [yvv (k2 j (by omega)).1, yvv (m2 j (by omega)).1, e2 j (by omega)]
    · exact absurd e (by decide)
  · rcases h' with ⟨e, -⟩ | ⟨-, m1, m2, -⟩
    · exact absurd e (by decide)
    · constructor
      · rintro ⟨e1, e2⟩
        refine ⟨by omega, fun j hj => ?_⟩
        have q1 := e2 (2 * j) (by omega)
        have q2 := e2 (2 * j + 1) (by omega)
        rw [yvv (k2 j hj).1, yvv (m2 j (by omega)).1] at q1
        rw [yvv (k2 j hj).2, yvv (m2 j (by omega)).2] at q2
        rw [← pair_says (hf j hj).1 (hf j hj).2, ← pair_says (hg j (by omega)).1 (hg j (by omega)).2, q1, q2]
      · rintro ⟨rfl, e2⟩
        refine ⟨by omega, fun i hi => ?_⟩
        rcases Nat.mod_two_eq_zero_or_one i with e | e
        · obtain ⟨j, rfl⟩ : ∃ j, i = 2 * j := ⟨i / 2, by omega⟩
          rw [yvv (k2 j (by omega)).1, yvv (m2 j (by omega)).1, e2 j (by omega)]
        · obtain ⟨j, rfl⟩ : ∃ j, i = 2 * j + 1 := ⟨i / 2, by omega⟩
          rw [yvv (k2 j (by omega)).2, yvv (m2 j (by omega)).2, e2 j (by omega)]
/-- two codings differ: so do the texts -/
theorem Cod.dif {cd cd' : Int32} {n k : Nat} {f g : Nat → Int32} {V V' : Cell} (h : Cod cd n f V) (h' : Cod cd' k g V') (hne : ¬ cd = cd') : ¬ SameT n f k g := by
  rintro ⟨rfl, e⟩
  rcases h with ⟨rfl, -, k2⟩ | ⟨rfl, -, -, j, hj, hw⟩
  · rcases h' with ⟨rfl, -⟩ | ⟨-, -, -, j, hj, hw⟩
    · exact hne rfl
    · exact (k2 j hj).2 (by rw [e j hj]; exact hw)
  · rcases h' with ⟨-, -, m2⟩ | ⟨rfl, -⟩
    · exact (m2 j hj).2 (by rw [← e j hj]; exact hw)
    · exact hne rfl
/-- an object of exactly C is an instance of C -/
theorem cinst {p : Program} {l : Launch} {e : Env} {R : Room} {s : State} {m : MethodId} {args : Array Value} {below : List Frame} {meth : Method} {c : Code} {T : State} {locs : List Loc} {cells slots : Nat} (X : Stand p l e R s m args below meth c T locs cells slots) (hexec : p.tables.exec = Jvm.exec) {own C : String} {index : Nat} (hown : s.vm.findClass own = some m.cls) (hlink : (Cond.classLink own index C).before args s = true) {a : Addr} (hE : Exact C a T)
    {g : JFrame} (hg : g.method = m) {rest : List Value} (hstack : g.stack = .ref a :: rest) (hdg : decode c.code g.pc = .ok (.instanceof index, 3)) :
    ∃ T', Stand p l e R s m args below meth c T' locs cells slots ∧ T'.heap = T.heap ∧ ∀ target, Steps p.tables e below (T'.setTop { g with pc := g.pc + 3, stack := .int 1 :: rest }) target → Steps p.tables e below (T.setTop g) target := by
  obtain ⟨cB, h1, D, h2, h3, h4⟩ := hE
  have h1' : s.vm.findClass C = some cB := by rw [← X.warmed.alike.findClass]; exact h1
  obtain ⟨vm', X', st⟩ := X.instanceofYes hexec hown hlink h2 h4 h1' (by rw [h3]; exact Jvm.Free.SB.assignable_self _ _) hg hstack hdg
  exact ⟨_, X', rfl, st⟩
theorem cself {p : Program} {l : Launch} {e : Env} {R : Room} {s : State} {m : MethodId} {args : Array Value} {below : List Frame} {meth : Method} {c : Code} {T : State} {locs : List Loc} {cells slots : Nat} (X : Stand p l e R s m args below meth c T locs cells slots) (hexec : p.tables.exec = Jvm.exec) {own C : String} {index : Nat} (hown : s.vm.findClass own = some m.cls) (hlink : (Cond.classLink own index C).before args s = true) {a : Addr} (hE : Exact C a T)
    {g : JFrame} (hg : g.method = m) {rest : List Value} (hstack : g.stack = .ref a :: rest) (hdg : decode c.code g.pc = .ok (.checkcast index, 3)) :
    ∃ T', Stand p l e R s m args below meth c T' locs cells slots ∧ T'.heap = T.heap ∧ ∀ target, Steps p.tables e below (T'.setTop { g with pc := g.pc + 3, stack := .ref a :: rest }) target → Steps p.tables e below (T.setTop g) target := by
  obtain ⟨cB, h1, D, h2, h3, h4⟩ := hE
  have h1' : s.vm.findClass C = some cB := by rw [← X.warmed.alike.findClass]; exact h1
  obtain ⟨vm', X', st⟩ := X.checkcastYes hexec hown hlink h2 h4 h1' (by rw [h3]; exact Jvm.Free.SB.assignable_self _ _) hg hstack hdg
  exact ⟨_, X', rfl, fun t h => st t (by rw [← hstack] at h; exact h)⟩
namespace SEq
def yN : MethodName := ⟨"java/lang/String", "equals", "(Ljava/lang/Object;)Z"⟩
abbrev yB : ByteArray := jdk_42_method_66_code
theorem d0 : decode yB 0 = .ok (.aload_n 0, 1) := by decide +kernel
theorem d1 : decode yB 1 = .ok (.aload_n 1, 1) := by decide +kernel
theorem d2 : decode yB 2 = .ok (.if_acmp (.ne) 5, 3) := by decide +kernel
theorem d5 : decode yB 5 = .ok (.iconst 1, 1) := by decide +kernel
theorem d6 : decode yB 6 = .ok (.ireturn, 1) := by decide +kernel
theorem d7 : decode yB 7 = .ok (.aload_n 1, 1) := by decide +kernel
theorem d8 : decode yB 8 = .ok (.instanceof 10, 3) := by decide +kernel
theorem d11 : decode yB 11 = .ok (.ifCond (.eq) 43, 3) := by decide +kernel
theorem d14 : decode yB 14 = .ok (.aload_n 1, 1) := by decide +kernel
theorem d15 : decode yB 15 = .ok (.checkcast 10, 3) := by decide +kernel
theorem d18 : decode yB 18 = .ok (.astore_n 2, 1) := by decide +kernel
theorem d19 : decode yB 19 = .ok (.getstatic 38, 3) := by decide +kernel
theorem d22 : decode yB 22 = .ok (.ifCond (.eq) 14, 3) := by decide +kernel
theorem d25 : decode yB 25 = .ok (.aload_n 0, 1) := by decide +kernel
theorem d26 : decode yB 26 = .ok (.getfield 15, 3) := by decide +kernel
theorem d29 : decode yB 29 = .ok (.aload_n 2, 1) := by decide +kernel
theorem d30 : decode yB 30 = .ok (.getfield 15, 3) := by decide +kernel
theorem d33 : decode yB 33 = .ok (.if_icmp (.ne) 21, 3) := by decide +kernel
theorem d36 : decode yB 36 = .ok (.aload_n 0, 1) := by decide +kernel
theorem d37 : decode yB 37 = .ok (.getfield 9, 3) := by decide +kernel
theorem d40 : decode yB 40 = .ok (.aload_n 2, 1) := by decide +kernel
theorem d41 : decode yB 41 = .ok (.getfield 9, 3) := by decide +kernel
theorem d44 : decode yB 44 = .ok (.invokestatic 541, 3) := by decide +kernel
theorem d47 : decode yB 47 = .ok (.ifCond (.eq) 7, 3) := by decide +kernel
theorem d50 : decode yB 50 = .ok (.iconst 1, 1) := by decide +kernel
theorem d51 : decode yB 51 = .ok (.goto 4, 3) := by decide +kernel
theorem d54 : decode yB 54 = .ok (.iconst 0, 1) := by decide +kernel
theorem d55 : decode yB 55 = .ok (.ireturn, 1) := by decide +kernel
def site : List Cond := [.classLink "java/lang/String" 10 "java/lang/String", .fieldLink "java/lang/String" 38 "java/lang/String" "COMPACT_STRINGS" "Z", .fieldLink "java/lang/String" 15 "java/lang/String" "coder" "B", .fieldLink "java/lang/String" 9 "java/lang/String" "value" "[B", LEq.tab] ++ staticW "java/lang/String" 541 LEq.yN
def tab : Cond := tabOf yN yB 3 (some .boolean) site
def P (x t : Addr) (V : Cell) (cd : Int32) (n : Nat) (f : Nat → Int32) (y t' : Addr) (V' : Cell) (cd' : Int32) (k : Nat) (g : Nat → Int32) (z : Int32) (args : Array Value) (s : State) : Prop := args = #[.ref x, .ref y] ∧ Txt x t V cd n f s ∧ Txt y t' V' cd' k g s ∧ StaticIs s "java/lang/String" "COMPACT_STRINGS" "Z" (.int z) ∧ ¬ z = 0
/-- equals(Object) of two Strings: whether the texts are the same -/
theorem law (l : Launch) (x t : Addr) (V : Cell) (cd : Int32) (n : Nat) (f : Nat → Int32) (y t' : Addr) (V' : Cell) (cd' : Int32) (k : Nat) (g : Nat → Int32) (z : Int32) : Law l yN 2 1 1 14 yB 3 (some .boolean) site (P x t V cd n f y t' V' cd' k g z) (Says01 (SameT n f k g)) [] 0 0 := by
  refine Law.of_walk (plainFor_of_name (by decide +kernel)) (by decide +kernel) (by decide +kernel) (by decide) (fun _ _ h => by rw [h.1]; rfl) (fun _ U U' hal hh h => ⟨h.1, h.2.1.mv hal hh, h.2.2.1.mv hal hh, h.2.2.2.1.there hal hh, h.2.2.2.2⟩) (fun r U U' V V' h1 hal h2 h => Says01.mv r U U' V V' h1 hal h2 h) ?_
  intro p e s m args below meth c s₁ X0 hexec hbytes hml hret hlk hnm hown hh0 W hP
  obtain ⟨rfl, hx, hy, s1, hz⟩ := hP
  have c1 : Steps p.tables e below (s₁.setTop (entryFrame m #[.ref x, .ref y] 3)) (s₁.setTop (mkF m 2 #[.val (.ref x), .val (.ref y), .unset] [.ref y, .ref x])) := Steps.trans (entry rfl) (by
    show Steps p.tables e below (s₁.setTop (mkF m 0 #[.val (.ref x), .val (.ref y), .unset] [])) _
    refine XS.aloadN X0.here hexec rfl (hb hbytes d0) rfl rfl ?_
    refine XS.aloadN X0.here hexec rfl (hb hbytes d1) rfl rfl ?_
    exact Steps.refl _)
  by_cases hxy : x = y
  · have c2 : Steps p.tables e below (s₁.setTop (entryFrame m #[.ref x, .ref y] 3)) (s₁.setTop (mkF m 6 #[.val (.ref x), .val (.ref y), .unset] [.int 1])) := c1.trans (by
      refine acmpNo X0.here hexec rfl (hb hbytes d2) rfl rfl rfl (by simp [acmp, hxy]) ?_
      refine iconstV X0.here hexec rfl 1 (hb hbytes d5) (by decide) ?_
      exact Steps.refl _)
    subst hxy
    have ec : cd = cd' := by
      obtain ⟨D, fd, a1, a2, a3⟩ := hx.2.2.1
      obtain ⟨D', fd', b1, b2, b3⟩ := hy.2.2.1
      cases a1.symm.trans b1
      obtain ⟨q1, q2, q3, q4⟩ := a2.1
      obtain ⟨r1, r2, r3, r4⟩ := b2.1
      cases q4.symm.trans r4
      cases a3.symm.trans b3; rfl
    have et : t = t' := by
      obtain ⟨D, fd, a1, a2, a3⟩ := hx.2.1
      obtain ⟨D', fd', b1, b2, b3⟩ := hy.2.1
      cases a1.symm.trans b1
      obtain ⟨q1, q2, q3, q4⟩ := a2.1
      obtain ⟨r1, r2, r3, r4⟩ := b2.1
      cases q4.symm.trans r4
      cases a3.symm.trans b3; rfl
    subst ec et
    have ev : V = V' := by cases hx.2.2.2.1.1.symm.trans hy.2.2.2.1.1; rfl
    subst ev
    have hs : SameT n f k g := (Cod.eqv hx.2.2.2.2.1 hy.2.2.2.2.1 hx.2.2.2.2.2 hy.2.2.2.2.2).mp ⟨rfl, fun _ _ => rfl⟩
    exact ⟨s₁, some (.int 1), _, _, _, X0, rfl, rfl, rfl, (fun h => by cases h), ⟨1, rfl, hh0, Or.inl ⟨rfl, hs⟩⟩, fun fs hl => c2.trans (X0.ireturnOut hexec hret rfl (Or.inr (Or.inl rfl)) (hb hbytes d6) hl)⟩
  · have c2 : Steps p.tables e below (s₁.setTop (entryFrame m #[.ref x, .ref y] 3)) (s₁.setTop (mkF m 8 #[.val (.ref x), .val (.ref y), .unset] [.ref y])) := c1.trans (by
      refine acmpYes X0.here hexec rfl (pc0 := 2) rfl (hb hbytes d2) rfl rfl rfl (by simp [acmp, hxy]) (by decide) rfl ?_
      refine XS.aloadN X0.here hexec rfl (hb hbytes d7) rfl rfl ?_
      exact Steps.refl _)
    obtain ⟨T3, X3, q3, st3⟩ := cinst X0 hexec hown (wk W (.classLink "java/lang/String" 10 "java/lang/String")) (hy.mv X0.warmed.alike hh0).1 (g := (mkF m 8 #[.val (.ref x), .val (.ref y), .unset] [.ref y])) rfl (rest := []) rfl (hb hbytes d8)
    have hh3 := q3.trans hh0
    have c4 : Steps p.tables e below (s₁.setTop (entryFrame m #[.ref x, .ref y] 3)) (T3.setTop (mkF m 15 #[.val (.ref x), .val (.ref y), .unset] [.ref y])) := (c2.trans (st3 _ (Steps.refl _))).trans (by
      refine XS.ifNo X3.here hexec rfl (hb hbytes d11) rfl (i0_eq_f (by decide)) ?_
      refine XS.aloadN X3.here hexec rfl (hb hbytes d14) rfl rfl ?_
      exact Steps.refl _)
    obtain ⟨T5, X5, q5, st5⟩ := cself X3 hexec hown (wk W (.classLink "java/lang/String" 10 "java/lang/String")) (hy.mv X3.warmed.alike hh3).1 (g := (mkF m 15 #[.val (.ref x), .val (.ref y), .unset] [.ref y])) rfl (rest := []) rfl (hb hbytes d15)
    have hh5 := q5.trans hh3
    have c6 : Steps p.tables e below (s₁.setTop (entryFrame m #[.ref x, .ref y] 3)) (T5.setTop (mkF m 19 #[.val (.ref x), .val (.ref y), .val (.ref y)] [])) := (c4.trans (st5 _ (Steps.refl _))).trans (by
      refine XS.astoreN X5.here hexec rfl (hb hbytes d18) rfl rfl rfl ?_
      exact Steps.refl _)
    obtain ⟨T7, X7, q7, st7⟩ := X5.sget hexec hown (wk W (.fieldLink "java/lang/String" 38 "java/lang/String" "COMPACT_STRINGS" "Z")) s1 (fun _ _ h => by rw [hh5]; exact h) (g := (mkF m 19 #[.val (.ref x), .val (.ref y), .val (.ref y)] [])) rfl (hb hbytes d19)
    have hh7 := q7.trans hh5
    have c8 : Steps p.tables e below (s₁.setTop (entryFrame m #[.ref x, .ref y] 3)) (T7.setTop (mkF m 26 #[.val (.ref x), .val (.ref y), .val (.ref y)] [.ref x])) := (c6.trans (st7 _ (Steps.refl _))).trans (by
      refine XS.ifNo X7.here hexec rfl (hb hbytes d22) rfl (i0_eq_f hz) ?_
      refine XS.aloadN X7.here hexec rfl (hb hbytes d25) rfl rfl ?_
      exact Steps.refl _)
    obtain ⟨T9, X9, q9, st9⟩ := X7.hget hexec hown (wk W (.fieldLink "java/lang/String" 15 "java/lang/String" "coder" "B")) (hx.mv X7.warmed.alike hh7).2.2.1 (g := (mkF m 26 #[.val (.ref x), .val (.ref y), .val (.ref y)] [.ref x])) rfl (rest := []) rfl (hb hbytes d26)
    have hh9 := q9.trans hh7
    have c10 : Steps p.tables e below (s₁.setTop (entryFrame m #[.ref x, .ref y] 3)) (T9.setTop (mkF m 30 #[.val (.ref x), .val (.ref y), .val (.ref y)] [.ref y, .int cd])) := (c8.trans (st9 _ (Steps.refl _))).trans (by
      refine XS.aloadN X9.here hexec rfl (hb hbytes d29) rfl rfl ?_
      exact Steps.refl _)
    obtain ⟨T11, X11, q11, st11⟩ := X9.hget hexec hown (wk W (.fieldLink "java/lang/String" 15 "java/lang/String" "coder" "B")) (hy.mv X9.warmed.alike hh9).2.2.1 (g := (mkF m 30 #[.val (.ref x), .val (.ref y), .val (.ref y)] [.ref y, .int cd])) rfl (rest := [.int cd]) rfl (hb hbytes d30)
    have hh11 := q11.trans hh9
    have c12 : Steps p.tables e below (s₁.setTop (entryFrame m #[.ref x, .ref y] 3)) (T11.setTop (mkF m 33 #[.val (.ref x), .val (.ref y), .val (.ref y)] [.int cd', .int cd])) := c10.trans (st11 _ (Steps.refl _))
    by_cases hcd : cd = cd'
    · subst hcd
      have c13 : Steps p.tables e below (s₁.setTop (entryFrame m #[.ref x, .ref y] 3)) (T11.setTop (mkF m 37 #[.val (.ref x), .val (.ref y), .val (.ref y)] [.ref x])) := c12.trans (by
        refine XS.icmpNo X11.here hexec rfl (hb hbytes d33) rfl (ii_ne_f rfl) ?_
        refine XS.aloadN X11.here hexec rfl (hb hbytes d36) rfl rfl ?_
        exact Steps.refl _)
      obtain ⟨T14, X14, q14, st14⟩ := X11.hget hexec hown (wk W (.fieldLink "java/lang/String" 9 "java/lang/String" "value" "[B")) (hx.mv X11.warmed.alike hh11).2.1 (g := (mkF m 37 #[.val (.ref x), .val (.ref y), .val (.ref y)] [.ref x])) rfl (rest := []) rfl (hb hbytes d37)
      have hh14 := q14.trans hh11
      have c15 : Steps p.tables e below (s₁.setTop (entryFrame m #[.ref x, .ref y] 3)) (T14.setTop (mkF m 41 #[.val (.ref x), .val (.ref y), .val (.ref y)] [.ref y, .ref t])) := (c13.trans (st14 _ (Steps.refl _))).trans (by
        refine XS.aloadN X14.here hexec rfl (hb hbytes d40) rfl rfl ?_
        exact Steps.refl _)
      obtain ⟨T16, X16, q16, st16⟩ := X14.hget hexec hown (wk W (.fieldLink "java/lang/String" 9 "java/lang/String" "value" "[B")) (hy.mv X14.warmed.alike hh14).2.1 (g := (mkF m 41 #[.val (.ref x), .val (.ref y), .val (.ref y)] [.ref y, .ref t])) rfl (rest := [.ref t]) rfl (hb hbytes d41)
      have hh16 := q16.trans hh14
      have c17 : Steps p.tables e below (s₁.setTop (entryFrame m #[.ref x, .ref y] 3)) (T16.setTop (mkF m 44 #[.val (.ref x), .val (.ref y), .val (.ref y)] [.ref t', .ref t])) := c15.trans (st16 _ (Steps.refl _))
      obtain ⟨v18, T18, X18, E18, g18⟩ := X16.callS hexec (LEq.law l t V t' V') hown (wks W (staticW "java/lang/String" 541 LEq.yN)) (wk W LEq.tab) (W := 0) (Nat.le_of_ble_eq_true rfl) (Nat.le_of_ble_eq_true rfl) (Nat.le_refl _) (Nat.le_refl _) (g := (mkF m 44 #[.val (.ref x), .val (.ref y), .val (.ref y)] [.ref t', .ref t])) rfl (by rw [hml]; rfl) c17 (argsL := [.ref t, .ref t']) (rest := []) rfl rfl (by show 2 * 0 + 0 ≤ _; decide) (hb hbytes d44) (⟨rfl, hx.2.2.2.1.mv X16.warmed.alike hh16, hx.2.2.2.2.1.ty, hy.2.2.2.1.mv X16.warmed.alike hh16, hy.2.2.2.2.1.ty⟩)
      obtain ⟨v, rfl, q18, hv⟩ := E18
      have iff := Cod.eqv hx.2.2.2.2.1 hy.2.2.2.2.1 hx.2.2.2.2.2 hy.2.2.2.2.2
      rcases hv with ⟨rfl, he⟩ | ⟨rfl, he⟩
      · have c19 : Steps p.tables e below (s₁.setTop (entryFrame m #[.ref x, .ref y] 3)) (T18.setTop (mkF m 55 #[.val (.ref x), .val (.ref y), .val (.ref y)] [.int 1])) := Steps.trans g18 (by
          refine XS.ifNo X18.here hexec rfl (hb hbytes d47) rfl (i0_eq_f (by decide)) ?_
          refine iconstV X18.here hexec rfl 1 (hb hbytes d50) (by decide) ?_
          refine XS.goto X18.here hexec rfl (pc0 := 51) rfl (hb hbytes d51) (by decide) rfl ?_
          exact Steps.refl _)
        exact ⟨T18, some (.int 1), _, _, _, X18, rfl, rfl, rfl, (fun h => by cases h), ⟨1, rfl, q18.trans hh16, Or.inl ⟨rfl, iff.mp he⟩⟩, fun fs hl => c19.trans (X18.ireturnOut hexec hret rfl (Or.inr (Or.inl rfl)) (hb hbytes d55) hl)⟩
      · have c19 : Steps p.tables e below (s₁.setTop (entryFrame m #[.ref x, .ref y] 3)) (T18.setTop (mkF m 55 #[.val (.ref x), .val (.ref y), .val (.ref y)] [.int 0])) := Steps.trans g18 (by
          refine XS.ifYes X18.here hexec rfl (pc0 := 47) rfl (hb hbytes d47) rfl (i0_eq_t rfl) (by decide) rfl ?_
          refine iconstV X18.here hexec rfl 0 (hb hbytes d54) (by decide) ?_
          exact Steps.refl _)
        exact ⟨T18, some (.int 0), _, _, _, X18, rfl, rfl, rfl, (fun h => by cases h), ⟨0, rfl, q18.trans hh16, Or.inr ⟨rfl, fun q => he (iff.mpr q)⟩⟩, fun fs hl => c19.trans (X18.ireturnOut hexec hret rfl (Or.inr (Or.inl rfl)) (hb hbytes d55) hl)⟩
    · have c13 : Steps p.tables e below (s₁.setTop (entryFrame m #[.ref x, .ref y] 3)) (T11.setTop (mkF m 55 #[.val (.ref x), .val (.ref y), .val (.ref y)] [.int 0])) := c12.trans (by
        refine XS.icmpYes X11.here hexec rfl (pc0 := 33) rfl (hb hbytes d33) rfl (ii_ne_t hcd) (by decide) rfl ?_
        refine iconstV X11.here hexec rfl 0 (hb hbytes d54) (by decide) ?_
        exact Steps.refl _)
      exact ⟨T11, some (.int 0), _, _, _, X11, rfl, rfl, rfl, (fun h => by cases h), ⟨0, rfl, hh11, Or.inr ⟨rfl, Cod.dif hx.2.2.2.2.1 hy.2.2.2.2.1 hcd⟩⟩, fun fs hl => c13.trans (X11.ireturnOut hexec hret rfl (Or.inr (Or.inl rfl)) (hb hbytes d55) hl)⟩
theorem pays {l : Launch} {R : Room} {p : Program} {e : Env} {below : List Frame} {s : State} {sargs : Array Value} {len W : Nat} (x t : Addr) (V : Cell) (cd : Int32) (n : Nat) (f : Nat → Int32) (y t' : Addr) (V' : Cell) (cd' : Int32) (k : Nat) (g : Nat → Int32) (z : Int32) (htab : tab.before sargs s = true) (hfr : 2 ≤ R.frames) (hlo : W + 28 ≤ R.locals) :
    Back l R p e below s sargs yN len W (fun A₁ a₁ => A₁.cells + 0 ≤ R.cells ∧ A₁.slots + 0 ≤ R.slots ∧ P x t V cd n f y t' V' cd' k g z a₁ A₁.U) (fun A₁ _ v₁ B₁ => Says01 (SameT n f k g) v₁ A₁.U B₁.U ∧ B₁.locs = A₁.locs ++ [] ∧ B₁.cells = A₁.cells + 0 ∧ B₁.slots = A₁.slots + 0) :=
  (law l x t V cd n f y t' V' cd' k g z).pays htab hfr (by omega)
end SEq
end StrChars
namespace StrChars.Road
open Jvm Sem ClassFile Op Lib Jvm.Stand Jvm.Free Jvm.Free.XT
open Jvm.Lib.Cold (StaticIs)
/-- the words of String.equals(Object) -/
abbrev wordsEq : List Jvm.Cond := [.code SEq.yN SEq.yB 3 (some .boolean), .initialized ST, .classLink ST 10 ST, .fieldLink ST 38 ST "COMPACT_STRINGS" "Z", .fieldLink ST 15 ST "coder" "B", .fieldLink ST 9 ST "value" "[B", .methodLink ST 541 LEq.yN, .static LEq.yN, .code LEq.yN LEq.yB 3 (some .boolean), .initialized "java/lang/StringLatin1"]
theorem tabEq_of {a : Array Value} {s : State} (h : ∀ w ∈ wordsEq, w.before a s = true) : SEq.tab.before a s = true := by
  have hl : LEq.tab.before a s = true := unparts (wk h (.code LEq.yN LEq.yB 3 (some .boolean))) (wks h (.initialized LEq.yN.cls :: LEq.site))
  have q := consq hl h
  exact unparts (wk q (.code SEq.yN SEq.yB 3 (some .boolean))) (wks q (.initialized SEq.yN.cls :: SEq.site))
theorem movedEq {Z s : State} {a0 args : Array Value} (hZ : Z.Warmed39 s.vm) (hw : ∀ d ∈ wordsEq, d.before a0 Z = true) : ∀ d ∈ wordsEq, d.before args s = true := fun d hd => by
  have t : ∀ d ∈ wordsEq, (d.onTables && d.keepsFace) = true := by decide +kernel
  exact RoadKit.mv hZ (hw d hd) (t d hd)
/-- the road's facts of a String, as the laws ask it -/
theorem txt_of {Z U : State} {a0 : Array Value} {kI : Nat} (wi : (Jvm.Cond.instantiable ST kI).before a0 Z = true) (al : Z.vm.Alike U.vm) {x t : Addr} {kb : ClassId} {cs : List Int32} {cd N2 : Int32} {vs : List Value} (E : RoadKit.Exa Z U.heap x ST) (V : RoadKit.Fld Z U.heap x ST "value" "[B" (.ref t)) (C : RoadKit.Fld Z U.heap x ST "coder" "B" (.int cd)) (K : RoadKit.Arv Z U.heap t kb .byte N2 vs (.int 0)) (hc : CodA cs cd N2 vs) (hb : ∀ c ∈ cs, ¬ c < 0 ∧ ¬ (65535 : Int32) < c) (l2 : cs.length ≤ 4000) :
    ∃ A, Txt x t A cd cs.length (fun j => cs.getD j 0) U := by
  obtain ⟨A, K1, K2, K3, K4, K5, K6⟩ := K
  have hcod := hc.cod (by omega) K3 K5
  obtain ⟨D, fV, fC, hB, F1, F2, g1, g2, -, -⟩ := strObj wi al E V C
  exact ⟨A, ⟨_, hB.2.2.1, D, hB.1, rfl, by cases q : D.vm <;> first | rfl | exact absurd q (hB.2.1.2 _)⟩, Has.of hB F1 g1, Has.of hB F2 g2, ⟨K1.1, State.isArrayOf_alike al K1.2.1, K1.2.2, by rcases hcod with ⟨-, q, -⟩ | ⟨-, q, -⟩ <;> omega⟩, hcod, fun j hj => by
    have e : cs.getD j 0 = cs[j] := by simp [List.getD_eq_getElem?_getD, hj]
    show ¬ cs.getD j 0 < 0 ∧ ¬ 65535 < cs.getD j 0
    rw [e]; exact hb _ (List.getElem_mem _)⟩
theorem same_list (cs ds : List Int32) : SameT cs.length (fun j => cs.getD j 0) ds.length (fun j => ds.getD j 0) ↔ cs = ds := by
  constructor
  · rintro ⟨e, q⟩
    refine List.ext_getElem e fun j h1 h2 => ?_
    have := q j h1
    simpa [List.getD_eq_getElem?_getD, h1, h2] using this
  · rintro rfl
    exact ⟨rfl, fun _ _ => rfl⟩
/-- **equals(Object) OF TWO SUCH STRINGS**: 1 just where the chars are the same -/
theorem eqW {p : Program} {l : Launch} {e : Env} {R : Room} {s : State} {args : Array Value} {below : List Frame} {len W : Nat} {Z : State} {a0 : Array Value} {h : Heap} (hZ : Z.Warmed39 s.vm) (hw : ∀ d ∈ wordsEq, d.before a0 Z = true) {kI : Nat} (wi : (Jvm.Cond.instantiable ST kI).before a0 Z = true)
    {x t : Addr} {kb : ClassId} {cs : List Int32} {cd N2 : Int32} {vs : List Value} (E : RoadKit.Exa Z h x ST) (V : RoadKit.Fld Z h x ST "value" "[B" (.ref t)) (C : RoadKit.Fld Z h x ST "coder" "B" (.int cd)) (K : RoadKit.Arv Z h t kb .byte N2 vs (.int 0)) (hc : CodA cs cd N2 vs) (hb : ∀ c ∈ cs, ¬ c < 0 ∧ ¬ (65535 : Int32) < c) (l2 : cs.length ≤ 4000)
    {y t' : Addr} {kb' : ClassId} {ds : List Int32} {cd' N2' : Int32} {vs' : List Value} (E' : RoadKit.Exa Z h y ST) (V' : RoadKit.Fld Z h y ST "value" "[B" (.ref t')) (C' : RoadKit.Fld Z h y ST "coder" "B" (.int cd')) (K' : RoadKit.Arv Z h t' kb' .byte N2' vs' (.int 0)) (hc' : CodA ds cd' N2' vs') (hb' : ∀ c ∈ ds, ¬ c < 0 ∧ ¬ (65535 : Int32) < c) (l2' : ds.length ≤ 4000)
    {z : Int32} (S : RoadKit.Sta Z h ST "COMPACT_STRINGS" "Z" (.int z)) (hz : ¬ z = 0) (hfr : 2 ≤ R.frames) (hlo : W + 28 ≤ R.locals) :
    Back l R p e below s args (⟨"java/lang/String", "equals", "(Ljava/lang/Object;)Z"⟩ : MethodName) len W (fun P a => a = #[.ref x, .ref y] ∧ P.U.heap = h ∧ P.cells + 0 ≤ R.cells ∧ P.slots + 0 ≤ R.slots)
      (fun P _ v B => ∃ L, (((v = some (.int 1) ∧ cs = ds) ∨ (v = some (.int 0) ∧ ¬ cs = ds)) ∧ L = [] ∧ B.U.heap = h) ∧ B.locs = P.locs ++ L ∧ B.cells = P.cells + 0 ∧ B.slots = P.slots + 0) := by
  intro m meth c P g ig mk a X hg hsize hdg hW hn hp'
  obtain ⟨rfl, rfl, r1, r2⟩ := hp'
  have al : Z.vm.Alike P.U.vm := hZ.alike.trans X.warmed.alike
  obtain ⟨A, hx⟩ := txt_of wi al E V C K hc hb l2
  obtain ⟨A', hy⟩ := txt_of wi al E' V' C' K' hc' hb' l2'
  obtain ⟨v, B, X', ⟨⟨w, hv, hh, hq⟩, hl, hk, hs⟩, st⟩ := SEq.pays x t A cd cs.length (fun j => cs.getD j 0) y t' A' cd' ds.length (fun j => ds.getD j 0) z (tabEq_of (movedEq hZ hw)) hfr hlo m meth c P g ig mk _ X hg hsize hdg hW hn ⟨r1, r2, rfl, hx, hy, sta_is al S, hz⟩
  refine ⟨v, B, X', ⟨[], ⟨?_, rfl, hh⟩, hl, hk, hs⟩, st⟩
  rcases hq with ⟨rfl, q⟩ | ⟨rfl, q⟩
  · exact Or.inl ⟨hv, (same_list cs ds).mp q⟩
  · exact Or.inr ⟨hv, fun e => q ((same_list cs ds).mpr e)⟩
end StrChars.Road
namespace StrChars.Road
open Jvm Sem ClassFile Op Lib Jvm.Stand Jvm.Free Jvm.Free.XT
open Jvm.Lib.Cold (StaticIs)
/-- what backV says of its String, as the contracts of this text ask it: cs's low bytes, coder 0 -/
theorem codOf {cs : List Int32} {n : Nat} (hn : cs.length = n) (hb : ∀ c ∈ cs, ¬ 255 < c) : CodA cs 0 (Int32.ofNat n) ((cs.map lo8).map Value.int) := Or.inl ⟨rfl, by rw [hn], by simp [List.map_map, Function.comp_def], hb⟩
end StrChars.Road
end Jvm.Pilot.@@N@@
namespace Jvm.RoadKit
open Sem ClassFile Op Lib Jvm.Stand Jvm.Free Jvm.LawKit
section New
variable {p : Program} {l : Launch} {e : Env} {R : Room} {s : State} {m : MethodId} {args : Array Value} {below : List Frame} {meth : Method} {c : Code} {T : State} {locs : List Loc} {cells slots : Nat}
theorem retI (X : Stand p l e R s m args below meth c T locs cells slots) (hx : p.tables.exec = Jvm.exec) {pc : Nat} {Ls : Array Slot} {z : Int32} {rest : List Value} (hret : meth.sig.returnType = some .int) (hd : decode c.code pc = .ok (.ireturn, 1)) {fs : List Frame}
    (hl : ∀ (f : JFrame) (acts : List Action), f.method = m → f.locked = none → f.entered = [] → (doReturn e (T.setTop f) acts (some (.int z))).1 = T.setFrames fs) : Steps p.tables e below (T.setTop (mkF m pc Ls (.int z :: rest))) (T.setFrames fs) :=
  retOut X hx hret rfl (Or.inl ⟨rfl, Or.inl rfl, _, rfl⟩) hd hl
end New
end Jvm.RoadKit
namespace Jvm.Pilot.@@N@@
open Jvm Jvm.ClassFile Sem Op Lib Jvm.Free Jvm.Stand Jvm.LawKit Jvm.RoadKit Bundle Jvm.Pilot.@@N@@.Jvm.D
section Own
variable {p : Program} {l : Launch} {e : Env} {R : Room} {s : State} {m : MethodId} {args : Array Value} {below : List Frame} {meth : Method} {c : Code} {T : State} {locs : List Loc} {cells slots : Nat}
/-- from this state the invocation comes to its end, and Q holds there -/
def GoOn (p : Program) (e : Env) (below : List Frame) (S : State) (Q : Outcome → State → Prop) : Prop := ∃ s₂ o, Steps p.tables e below S s₂ ∧ s₂.status = .running ∧ Ended s₂ below o ∧ Q o s₂
theorem GoOn.step {S S' : State} {Q : Outcome → State → Prop} (h : ∀ t, Steps p.tables e below S' t → Steps p.tables e below S t) (k : GoOn p e below S' Q) : GoOn p e below S Q := by
  obtain ⟨s2, o, h1, h2, h3, h4⟩ := k
  exact ⟨s2, o, h _ h1, h2, h3, h4⟩
theorem GoOn.trans {S S' : State} {Q : Outcome → State → Prop} (h : Steps p.tables e below S S') (k : GoOn p e below S' Q) : GoOn p e below S Q := GoOn.step (fun _ q => Steps.trans h q) k
def PostN (s : State) (Qp : Option Value → Heap → List Loc → Prop) (k n : Nat) (o : Outcome) (U' : State) : Prop := ∃ v L, o = .returned v ∧ Qp v U'.heap L ∧ FrameEnd s o U' L k n
def PostW (s : State) (Qp : Option Value → Heap → List Loc → Prop) (k n : Nat) (o : Outcome) (U' : State) : Prop := ∃ v L, o = .returned v ∧ Qp v U'.heap L ∧ ReturnedEndW s o U' L k n
theorem GoOn.ret (X : Stand p l e R s m args below meth c T locs cells slots) (hlk : meth.locks = false) {v : Option Value} (hv : meth.sig.returnType = none → v = none) {S : State}
    (st : ∀ fs, (∀ (f : JFrame) (acts : List Action), f.method = m → f.locked = none → f.entered = [] → (doReturn e (T.setTop f) acts v).1 = T.setFrames fs) → Steps p.tables e below S (T.setFrames fs)) {k n : Nat} (hk : cells ≤ k) (hn : slots ≤ n)
    {Qp : Option Value → Heap → List Loc → Prop} (q : Qp v T.heap locs) : GoOn p e below S (PostN s Qp k n) := by
  obtain ⟨fs, hr, hrun, hended, hW, hsame⟩ := X.leave hv hlk
  exact ⟨_, _, st fs hr, hrun, hended, v, _, rfl, q, ⟨_, rfl⟩, hW, hsame.mono hk hn⟩
theorem GoOn.retW {vm1 : Vm} {k1 : Nat} (X : Stand p l e R (s.setVm vm1) m args below meth c T locs cells slots) (hS : s.Since vm1 k1) (h1 : k1 ≤ T.heap.size) (hlk : meth.locks = false) {v : Option Value} (hv : meth.sig.returnType = none → v = none) {S : State}
    (st : ∀ fs, (∀ (f : JFrame) (acts : List Action), f.method = m → f.locked = none → f.entered = [] → (doReturn e (T.setTop f) acts v).1 = T.setFrames fs) → Steps p.tables e below S (T.setFrames fs)) {k n : Nat} (hk : cells ≤ k) (hn : slots ≤ n)
    {Qp : Option Value → Heap → List Loc → Prop} (q : Qp v T.heap locs) : GoOn p e below S (PostW s Qp k n) := by
  obtain ⟨fs, hr, hrun, hended, h4, h5, h6, h7⟩ := X.leaveW hS h1 hv hlk
  exact ⟨_, _, st fs hr, hrun, hended, v, _, rfl, q, h4, h5, h6, h7.mono hk hn⟩
def PostH (Z : State) (EL : List (String × Nat)) (s : State) (Qp : Option Value → Heap → List Loc → Prop) (k n : Nat) (o : Outcome) (U' : State) : Prop := ∃ v L, o = .returned v ∧ Qp v U'.heap L ∧ CHr Z EL s.vm s.heap U'.vm U'.heap ∧ ReturnedEndW s o U' L k n
theorem GoOn.retH {Z : State} {a0 : Array Value} {EL : List (String × Nat)} {h0 h : Heap} {vm1 : Vm} {k1 : Nat} (X : Stand p l e R (s.setVm vm1) m args below meth c T locs cells slots) (hZ : Z.Warmed39 (s.setVm vm1).vm) (hS : s.Since vm1 k1) (h1 : k1 ≤ h.size) (hEL : EW Z a0 EL) (hh : s.heap = h0) (eT : T.heap = h) (C : CHr Z EL s.vm h0 vm1 h) (hlk : meth.locks = false) {v : Option Value} (hv : meth.sig.returnType = none → v = none) {S : State}
    (st : ∀ fs, (∀ (f : JFrame) (acts : List Action), f.method = m → f.locked = none → f.entered = [] → (doReturn e (T.setTop f) acts v).1 = T.setFrames fs) → Steps p.tables e below S (T.setFrames fs)) {k n : Nat} (hk : cells ≤ k) (hn : slots ≤ n)
    {Qp : Option Value → Heap → List Loc → Prop} (q : Qp v h locs) : GoOn p e below S (PostH Z EL s Qp k n) := by
  subst hh eT
  obtain ⟨fs, hr, hrun, hended, h4, h5, h6, h7⟩ := X.leaveW hS h1 hv hlk
  have q2 := CHr.trans C (CHv.at X hZ hEL C.1)
  exact ⟨_, _, st fs hr, hrun, hended, v, _, rfl, q, q2, h4, h5, h6, h7.mono hk hn⟩
theorem Safe.arv {Z : State} {EL : List (String × Nat)} {vm : Vm} {h : Heap} {x : Addr} {kc : ClassId} {ty : FieldType} {z : Int32} {vs : List Value} {dv : Value} (hal : Z.vm.Alike vm) (V : Arv Z h x kc ty z vs dv) (ht : ty ≠ .byte) : Safe Z EL vm h x := by
  obtain ⟨cl, A, -⟩ := V
  exact Safe.arr hal A ht
theorem Safe.ofNull {Z : State} {EL : List (String × Nat)} {vm : Vm} {h : Heap} {x : Addr} (hal : Z.vm.Alike vm) (E : Exa Z h x "java/lang/String") (F : Fld Z h x "java/lang/String" "value" "[B" .null) : Safe Z EL vm h x := fun B => by
  obtain ⟨p, -, u, a, -, q, -, S, rfl | rfl⟩ := B
  · obtain ⟨cell, cf, k, i, f, h1, h2, h3, -, -, -, h7⟩ := F
    cases (show h[q.sa]? = some q.sC from S.ha).symm.trans h1
    obtain ⟨cS, ⟨⟨-, -, -, ⟨c1, k1, i1, f1, -⟩, -, -, -, v1, -⟩, -⟩, -⟩ := S
    obtain ⟨k3, e3, -⟩ := State.fieldFound?_setVm (s := Z) hal h2
    have e4 := (show (Wst Z vm h).fieldFound? _ _ _ = _ from e3).symm.trans f1
    simp only [Option.some.injEq, Prod.mk.injEq] at e4
    rw [← e4.2.2.2, h7] at v1
    cases v1
  · obtain ⟨cell, k, e1, e2, e3, -, -⟩ := E
    cases (show h[q.sd]? = some q.SA from S.hd).symm.trans e1
    obtain ⟨cS, -, -, f, -⟩ := S
    rw [show (Wst Z vm h).vm = vm from rfl, hal.findClass] at f
    obtain ⟨k1, q1, q2⟩ := Vm.findClass_spec f
    obtain ⟨k2, q3, q4⟩ := Vm.findClass_spec e2
    cases q1.symm.trans q3
    exact absurd (q2.symm.trans q4) (by decide)
theorem alenA {Z : State} {h : Heap} (X : Stand p l e R s m args below meth c T locs cells slots) (hx : p.tables.exec = Jvm.exec) (hZ : Z.Warmed39 s.vm) (eT : T.heap = h) {a : Addr} {k : ClassId} {ty : FieldType} {z : Int32} {vs : List Value} {d : Value} (V : Arv Z h a k ty z vs d) {g : JFrame} (hg : g.method = m) {rest : List Value} (hs : g.stack = .ref a :: rest) (hd : decode c.code g.pc = .ok (.arraylength, 1)) :
    ∀ target, Steps p.tables e below (T.setTop { g with pc := g.pc + 1, stack := .int z :: rest }) target → Steps p.tables e below (T.setTop g) target := fun t q => by
  obtain ⟨cl, A, -, S, M, -, -⟩ := V
  exact X.arraylength hx (by rw [eT]; exact A.1) (State.isArrayOf_alike hZ.alike A.2.1) hg hs hd t (by rw [len_of S M]; exact q)
theorem refCat {v : Value} (h : v.isRef = true) : v.category = 1 := by rcases ref_cases h with rfl | ⟨_, rfl⟩ <;> rfl
theorem own_catR (a : Addr) : (Value.ref a).category = 1 := rfl
theorem own_catI (a : Int32) : (Value.int a).category = 1 := rfl
theorem own_catJ (a : Int64) : (Value.long a).category = 2 := rfl
theorem own_catN : Value.null.category = 1 := rfl
theorem narRef {v : Value} (h : v.isRef = true) {t : FieldType} : narrow t v = v := by rcases ref_cases h with rfl | ⟨_, rfl⟩ <;> cases t <;> rfl
theorem fitRef {v : Value} (h : v.isRef = true) {C : String} : fits (.object C) v = true := by rcases ref_cases h with rfl | ⟨_, rfl⟩ <;> rfl
end Own
end Jvm.Pilot.@@N@@
namespace Jvm.Pilot.@@N@@
open Jvm Jvm.ClassFile Sem Op Lib Jvm.Free Jvm.Stand Jvm.LawKit Jvm.RoadKit Bundle Jvm.Pilot.@@N@@.Jvm.D
theorem and255_chars (n : Int32) : ¬ nar .char ((n &&& (255 : Int32)).toUInt32.toUInt16.toUInt32.toInt32) < 0 ∧ ¬ (255 : Int32) < nar .char ((n &&& (255 : Int32)).toUInt32.toUInt16.toUInt32.toInt32) := by
  have h1 := c_mask n 255 8 (by decide) (by decide)
  have h2 := c_i2c (n &&& (255 : Int32))
  have h3 : nar .char ((n &&& (255 : Int32)).toUInt32.toUInt16.toUInt32.toInt32) = ((n &&& (255 : Int32)).toUInt32.toUInt16.toUInt32.toInt32) := by simp only [nar, UInt32.toUInt32_toInt32, UInt16.toUInt16_toUInt32]
  rw [h3, Int32.lt_iff_toInt_lt, Int32.lt_iff_toInt_lt]
  have e0 : (0 : Int32).toInt = 0 := rfl
  have e1 : (255 : Int32).toInt = 255 := rfl
  rw [e0, e1]
  have e2 : ((2 ^ 8 : Nat) : Int) = 256 := rfl
  rw [e2] at h1
  omega
set_option maxHeartbeats 4000000 in
theorem own_ef0 (m : MethodId) (x0 : Addr) (x1 : Addr) (x2 : Int32) (x3 : Int32) : entryFrame m #[(.ref x0), (.ref x1), (.int x2), (.int x3), .null] 6 = mkF m 0 #[.val (.ref x0), .val (.ref x1), .val (.int x2), .val (.int x3), .val .null, .unset] [] := by first | rfl | (simp [entryFrame, mkF, argsToLocals, Value.category]; done)
theorem own_pn1 : plainName "java/lang/String" = true := by first | (simp [plainName, overriddenIn]; done) | decide +kernel
theorem own_d2 : decode jdk_42_method_149_code 0 = .ok (.aload_n 0, 1) := by decide +kernel
theorem own_d3 : decode jdk_42_method_149_code 1 = .ok (.invokespecial 1, 3) := by decide +kernel
theorem own_d4 : decode jdk_42_method_149_code 4 = .ok (.iload_n 3, 1) := by decide +kernel
theorem own_d5 : decode jdk_42_method_149_code 5 = .ok (.ifCond .ne 22, 3) := by decide +kernel
theorem own_d6 : decode jdk_42_method_149_code 8 = .ok (.aload_n 0, 1) := by decide +kernel
theorem own_d7 : decode jdk_42_method_149_code 9 = .ok (.ldc 7, 2) := by decide +kernel
theorem own_d8 : decode jdk_42_method_149_code 11 = .ok (.getfield 9, 3) := by decide +kernel
theorem own_d9 : decode jdk_42_method_149_code 14 = .ok (.putfield 9, 3) := by decide +kernel
theorem own_d10 : decode jdk_42_method_149_code 17 = .ok (.aload_n 0, 1) := by decide +kernel
theorem own_d11 : decode jdk_42_method_149_code 18 = .ok (.ldc 7, 2) := by decide +kernel
theorem own_d12 : decode jdk_42_method_149_code 20 = .ok (.getfield 15, 3) := by decide +kernel
theorem own_d13 : decode jdk_42_method_149_code 23 = .ok (.putfield 15, 3) := by decide +kernel
theorem own_d14 : decode jdk_42_method_149_code 26 = .ok (.return_, 1) := by decide +kernel
set_option maxHeartbeats 4000000 in
theorem own_ef15 (m : MethodId) (x0 : Addr) (x1 : Addr) : entryFrame m #[(.ref x0), (.ref x1)] 2 = mkF m 0 #[.val (.ref x0), .val (.ref x1)] [] := by first | rfl | (simp [entryFrame, mkF, argsToLocals, Value.category]; done)
theorem own_d16 : decode jdk_42_method_3_code 0 = .ok (.aload_n 0, 1) := by decide +kernel
theorem own_d17 : decode jdk_42_method_3_code 1 = .ok (.aload_n 1, 1) := by decide +kernel
theorem own_d18 : decode jdk_42_method_3_code 2 = .ok (.iconst 0, 1) := by decide +kernel
theorem own_d19 : decode jdk_42_method_3_code 3 = .ok (.aload_n 1, 1) := by decide +kernel
theorem own_d20 : decode jdk_42_method_3_code 4 = .ok (.arraylength, 1) := by decide +kernel
theorem own_d21 : decode jdk_42_method_3_code 5 = .ok (.aconst_null, 1) := by decide +kernel
theorem own_d22 : decode jdk_42_method_3_code 6 = .ok (.invokespecial 27, 3) := by decide +kernel
theorem own_pd23 : parseMethodDescriptor "([CIILjava/lang/Void;)V" = some ⟨[(.array .char), .int, .int, (.object "java/lang/Void")], none⟩ := by decide +kernel
theorem own_d24 : decode jdk_42_method_3_code 9 = .ok (.return_, 1) := by decide +kernel
set_option maxHeartbeats 4000000 in
theorem own_ef25 (m : MethodId) (x0 : Int32) (x1 : Int32) (x2 : Int32) : entryFrame m #[(.int x0), (.int x1), (.int x2)] 3 = mkF m 0 #[.val (.int x0), .val (.int x1), .val (.int x2)] [] := by first | rfl | (simp [entryFrame, mkF, argsToLocals, Value.category]; done)
theorem own_pn26 : plainName "com/example/subsume/subsume/axioms/AtomicConceptEqualsPinLaw" = true := by first | (simp [plainName, overriddenIn]; done) | decide +kernel
theorem own_d27 : decode method_2_code 0 = .ok (.iload_n 0, 1) := by decide +kernel
theorem own_d28 : decode method_2_code 1 = .ok (.ifCond .ne 14, 3) := by decide +kernel
theorem own_d29 : decode method_2_code 4 = .ok (.new 7, 3) := by decide +kernel
theorem own_d30 : decode method_2_code 7 = .ok (.dup, 1) := by decide +kernel
theorem own_d31 : decode method_2_code 8 = .ok (.iconst 0, 1) := by decide +kernel
theorem own_d32 : decode method_2_code 9 = .ok (.newarray .char, 2) := by decide +kernel
theorem own_d33 : decode method_2_code 11 = .ok (.invokespecial 9, 3) := by decide +kernel
theorem own_pd34 : parseMethodDescriptor "([C)V" = some ⟨[(.array .char)], none⟩ := by decide +kernel
theorem own_d35 : decode method_2_code 14 = .ok (.areturn, 1) := by decide +kernel
theorem own_d36 : decode method_2_code 15 = .ok (.iload_n 0, 1) := by decide +kernel
theorem own_d37 : decode method_2_code 16 = .ok (.iconst 1, 1) := by decide +kernel
theorem own_d38 : decode method_2_code 17 = .ok (.if_icmp .ne 18, 3) := by decide +kernel
theorem own_d39 : decode method_2_code 20 = .ok (.new 7, 3) := by decide +kernel
theorem own_d40 : decode method_2_code 23 = .ok (.dup, 1) := by decide +kernel
theorem own_d41 : decode method_2_code 24 = .ok (.iconst 1, 1) := by decide +kernel
theorem own_d42 : decode method_2_code 25 = .ok (.newarray .char, 2) := by decide +kernel
theorem own_d43 : decode method_2_code 27 = .ok (.dup, 1) := by decide +kernel
theorem own_d44 : decode method_2_code 28 = .ok (.iconst 0, 1) := by decide +kernel
theorem own_d45 : decode method_2_code 29 = .ok (.iload_n 1, 1) := by decide +kernel
theorem own_d46 : decode method_2_code 30 = .ok (.castore, 1) := by decide +kernel
theorem own_d47 : decode method_2_code 31 = .ok (.invokespecial 9, 3) := by decide +kernel
theorem own_d48 : decode method_2_code 34 = .ok (.areturn, 1) := by decide +kernel
theorem own_d49 : decode method_2_code 35 = .ok (.new 7, 3) := by decide +kernel
theorem own_d50 : decode method_2_code 38 = .ok (.dup, 1) := by decide +kernel
theorem own_d51 : decode method_2_code 39 = .ok (.iconst 2, 1) := by decide +kernel
theorem own_d52 : decode method_2_code 40 = .ok (.newarray .char, 2) := by decide +kernel
theorem own_d53 : decode method_2_code 42 = .ok (.dup, 1) := by decide +kernel
theorem own_d54 : decode method_2_code 43 = .ok (.iconst 0, 1) := by decide +kernel
theorem own_d55 : decode method_2_code 44 = .ok (.iload_n 1, 1) := by decide +kernel
theorem own_d56 : decode method_2_code 45 = .ok (.castore, 1) := by decide +kernel
theorem own_d57 : decode method_2_code 46 = .ok (.dup, 1) := by decide +kernel
theorem own_d58 : decode method_2_code 47 = .ok (.iconst 1, 1) := by decide +kernel
theorem own_d59 : decode method_2_code 48 = .ok (.iload_n 2, 1) := by decide +kernel
theorem own_d60 : decode method_2_code 49 = .ok (.castore, 1) := by decide +kernel
theorem own_d61 : decode method_2_code 50 = .ok (.invokespecial 9, 3) := by decide +kernel
theorem own_d62 : decode method_2_code 53 = .ok (.areturn, 1) := by decide +kernel
set_option maxHeartbeats 4000000 in
theorem own_ef63 (m : MethodId) (x0 : Addr) : entryFrame m #[(.ref x0)] 1 = mkF m 0 #[.val (.ref x0)] [] := by first | rfl | (simp [entryFrame, mkF, argsToLocals, Value.category]; done)
theorem own_pn64 : plainName "java/lang/Record" = true := by first | (simp [plainName, overriddenIn]; done) | decide +kernel
theorem own_d65 : decode jdk_30_method_1_code 0 = .ok (.aload_n 0, 1) := by decide +kernel
theorem own_d66 : decode jdk_30_method_1_code 1 = .ok (.invokespecial 1, 3) := by decide +kernel
theorem own_d67 : decode jdk_30_method_1_code 4 = .ok (.return_, 1) := by decide +kernel
set_option maxHeartbeats 4000000 in
theorem own_ef68 (m : MethodId) (x0 : Addr) (x1 : Addr) : entryFrame m #[(.ref x0), (.ref x1)] 2 = mkF m 0 #[.val (.ref x0), .val (.ref x1)] [] := by first | rfl | (simp [entryFrame, mkF, argsToLocals, Value.category]; done)
theorem own_pn69 : plainName "java/util/Objects" = true := by first | (simp [plainName, overriddenIn]; done) | decide +kernel
theorem own_d70 : decode jdk_31_method_11_code 0 = .ok (.aload_n 0, 1) := by decide +kernel
theorem own_d71 : decode jdk_31_method_11_code 1 = .ok (.ifnonnull 12, 3) := by decide +kernel
theorem own_d72 : decode jdk_31_method_11_code 13 = .ok (.aload_n 0, 1) := by decide +kernel
theorem own_d73 : decode jdk_31_method_11_code 14 = .ok (.areturn, 1) := by decide +kernel
set_option maxHeartbeats 4000000 in
theorem own_ef74 (m : MethodId) (x0 : Addr) (x1 : Addr) (x2 : Addr) : entryFrame m #[(.ref x0), (.ref x1), (.ref x2)] 3 = mkF m 0 #[.val (.ref x0), .val (.ref x1), .val (.ref x2)] [] := by first | rfl | (simp [entryFrame, mkF, argsToLocals, Value.category]; done)
theorem own_pn75 : plainName "com/example/subsume/subsume/axioms/AtomicConcept" = true := by first | (simp [plainName, overriddenIn]; done) | decide +kernel
theorem own_d76 : decode prog_6_method_1_code 0 = .ok (.aload_n 0, 1) := by decide +kernel
theorem own_d77 : decode prog_6_method_1_code 1 = .ok (.invokespecial 1, 3) := by decide +kernel
theorem own_pd78 : parseMethodDescriptor "()V" = some ⟨[], none⟩ := by decide +kernel
theorem own_d79 : decode prog_6_method_1_code 4 = .ok (.aload_n 1, 1) := by decide +kernel
theorem own_d80 : decode prog_6_method_1_code 5 = .ok (.ldc 7, 2) := by decide +kernel
theorem own_pd81 : parseMethodDescriptor "(Ljava/lang/Object;Ljava/lang/String;)Ljava/lang/Object;" = some ⟨[(.object "java/lang/Object"), (.object "java/lang/String")], some (.object "java/lang/Object")⟩ := by decide +kernel
theorem own_d82 : decode prog_6_method_1_code 7 = .ok (.invokestatic 9, 3) := by decide +kernel
theorem own_d83 : decode prog_6_method_1_code 10 = .ok (.pop, 1) := by decide +kernel
theorem own_d84 : decode prog_6_method_1_code 11 = .ok (.aload_n 2, 1) := by decide +kernel
theorem own_d85 : decode prog_6_method_1_code 12 = .ok (.ldc 15, 2) := by decide +kernel
theorem own_d86 : decode prog_6_method_1_code 14 = .ok (.invokestatic 9, 3) := by decide +kernel
theorem own_d87 : decode prog_6_method_1_code 17 = .ok (.pop, 1) := by decide +kernel
theorem own_d88 : decode prog_6_method_1_code 18 = .ok (.aload_n 0, 1) := by decide +kernel
theorem own_d89 : decode prog_6_method_1_code 19 = .ok (.aload_n 1, 1) := by decide +kernel
theorem own_d90 : decode prog_6_method_1_code 20 = .ok (.putfield 17, 3) := by decide +kernel
theorem own_d91 : decode prog_6_method_1_code 23 = .ok (.aload_n 0, 1) := by decide +kernel
theorem own_d92 : decode prog_6_method_1_code 24 = .ok (.aload_n 2, 1) := by decide +kernel
theorem own_d93 : decode prog_6_method_1_code 25 = .ok (.putfield 22, 3) := by decide +kernel
theorem own_d94 : decode prog_6_method_1_code 28 = .ok (.return_, 1) := by decide +kernel
set_option maxHeartbeats 4000000 in
theorem own_ef95 (m : MethodId) (x0 : Addr) : entryFrame m #[(.ref x0), .null] 3 = mkF m 0 #[.val (.ref x0), .val .null, .unset] [] := by first | rfl | (simp [entryFrame, mkF, argsToLocals, Value.category]; done)
theorem own_d96 : decode prog_6_method_7_code 0 = .ok (.aload_n 1, 1) := by decide +kernel
theorem own_d97 : decode prog_6_method_7_code 1 = .ok (.instanceof 18, 3) := by decide +kernel
theorem own_d98 : decode prog_6_method_7_code 4 = .ok (.ifCond .eq 37, 3) := by decide +kernel
theorem own_d99 : decode prog_6_method_7_code 41 = .ok (.iconst 0, 1) := by decide +kernel
theorem own_d100 : decode prog_6_method_7_code 42 = .ok (.ireturn, 1) := by decide +kernel
set_option maxHeartbeats 4000000 in
theorem own_ef101 (m : MethodId) (x0 : Addr) (x1 : Addr) : entryFrame m #[(.ref x0), (.ref x1)] 3 = mkF m 0 #[.val (.ref x0), .val (.ref x1), .unset] [] := by first | rfl | (simp [entryFrame, mkF, argsToLocals, Value.category]; done)
theorem own_d102 : decode prog_6_method_7_code 7 = .ok (.aload_n 1, 1) := by decide +kernel
theorem own_d103 : decode prog_6_method_7_code 8 = .ok (.checkcast 18, 3) := by decide +kernel
theorem own_d104 : decode prog_6_method_7_code 11 = .ok (.astore_n 2, 1) := by decide +kernel
theorem own_d105 : decode prog_6_method_7_code 12 = .ok (.aload_n 0, 1) := by decide +kernel
theorem own_d106 : decode prog_6_method_7_code 13 = .ok (.getfield 17, 3) := by decide +kernel
theorem own_d107 : decode prog_6_method_7_code 16 = .ok (.aload_n 2, 1) := by decide +kernel
theorem own_d108 : decode prog_6_method_7_code 17 = .ok (.getfield 17, 3) := by decide +kernel
theorem own_pd109 : parseMethodDescriptor "(Ljava/lang/Object;)Z" = some ⟨[(.object "java/lang/Object")], some .boolean⟩ := by decide +kernel
theorem own_d110 : decode prog_6_method_7_code 20 = .ok (.invokevirtual 64, 3) := by decide +kernel
theorem own_d111 : decode prog_6_method_7_code 23 = .ok (.ifCond .eq 18, 3) := by decide +kernel
theorem own_d112 : decode prog_6_method_7_code 26 = .ok (.aload_n 0, 1) := by decide +kernel
theorem own_d113 : decode prog_6_method_7_code 27 = .ok (.getfield 22, 3) := by decide +kernel
theorem own_d114 : decode prog_6_method_7_code 30 = .ok (.aload_n 2, 1) := by decide +kernel
theorem own_d115 : decode prog_6_method_7_code 31 = .ok (.getfield 22, 3) := by decide +kernel
theorem own_d116 : decode prog_6_method_7_code 34 = .ok (.if_acmp .ne 7, 3) := by decide +kernel
theorem own_d117 : decode prog_6_method_7_code 37 = .ok (.iconst 1, 1) := by decide +kernel
theorem own_d118 : decode prog_6_method_7_code 38 = .ok (.goto 4, 3) := by decide +kernel
set_option maxHeartbeats 4000000 in
theorem own_ef119 (m : MethodId) (x0 : Int32) (x1 : Int32) (x2 : Int32) : entryFrame m #[(.int x0), (.int x1), (.int x2)] maxLocals = mkF m 0 #[.val (.int x0), .val (.int x1), .val (.int x2), .unset, .unset, .unset, .unset, .unset, .unset, .unset, .unset, .unset, .unset, .unset, .unset, .unset, .unset, .unset, .unset, .unset, .unset, .unset] [] := by first | (simp [entryFrame, mkF, argsToLocals, Value.category, maxLocals]; done) | rfl
theorem own_pd120 : parseMethodDescriptor "(ICC)Ljava/lang/String;" = some ⟨[.int, .char, .char], some (.object "java/lang/String")⟩ := by decide +kernel
theorem own_pd121 : parseMethodDescriptor "(Ljava/lang/String;Lcom/example/subsume/subsume/axioms/AtomicConcept$Kind;)V" = some ⟨[(.object "java/lang/String"), (.object "com/example/subsume/subsume/axioms/AtomicConcept$Kind")], none⟩ := by decide +kernel
theorem own_ord {args : Array Value} {s : State} {t t' : Term} {a b : Addr} {x y : Int32} {C n d : String} (e : t.eval args s none [] s = some (.ref a)) (e' : t'.eval args s none [] s = some (.ref b)) (h : (Jvm.Cond.eq (.field t C n d) (.int x)).value args s none s [] = some true) (h' : (Jvm.Cond.eq (.field t' C n d) (.int y)).value args s none s [] = some true) (hne : x ≠ y) : a ≠ b := fun q => by
  subst q
  have f1 : (Term.field t C n d).eval args s none [] s = s.fieldOf? a C n d := fld_at e
  have f2 : (Term.field t' C n d).eval args s none [] s = s.fieldOf? a C n d := fld_at e'
  have g1 : (Term.int x).eval args s none [] s = some (.int x) := rfl
  have g2 : (Term.int y).eval args s none [] s = some (.int y) := rfl
  cases hv : s.fieldOf? a C n d with
  | none => rw [hv] at f1; simp only [Cond.value, f1] at h; cases h
  | some v =>
    rw [hv] at f1 f2
    cases v with
    | int z => exact hne ((gotT (Cond.eq_ints f1 g1) h).symm.trans (gotT (Cond.eq_ints f2 g2) h'))
    | _ => simp only [Cond.value, f1, g1] at h; cases h
def own_EL : List (String × Nat) := [("com/example/subsume/subsume/axioms/AtomicConcept", 7), ("com/example/subsume/subsume/axioms/AtomicConcept", 15), ("java/lang/String", 7)]
theorem own_EW {Z : State} {a0 : Array Value} (hw : ∀ d ∈ tables_1, d.before a0 Z = true) : EW Z a0 own_EL := EW.cons (hw _ (List.mem_of_getElem? (i := 59) rfl)) (by decide) (EW.cons (hw _ (List.mem_of_getElem? (i := 64) rfl)) (by decide) (EW.cons (hw _ (List.mem_of_getElem? (i := 44) rfl)) (by decide) (EW.nil)))
set_option maxRecDepth 65536 in
theorem own_sa : ∀ d ∈ Bundle.stringAtoms, d ∈ tables_1 := by decide +kernel
def QSame (u : Value) (h0 : Heap) (n0 : Nat) (v : Option Value) (h : Heap) (L : List Loc) : Prop := v = some u ∧ Fr n0 L ∧ h = h0
def StrIs (Z : State) (h : Heap) (a : Addr) (cs : List Int32) : Prop := Exa Z h a "java/lang/String" ∧ Fld Z h a "java/lang/String" "coder" "B" (.int 0) ∧ (∀ c ∈ cs, ¬ c < 0 ∧ ¬ (255 : Int32) < c) ∧ cs.length ≤ 4000 ∧ ∃ (t : Addr) (kb : ClassId), Fld Z h a "java/lang/String" "value" "[B" (.ref t) ∧ Arv Z h t kb .byte (Int32.ofNat cs.length) ((cs.map fun c => c.toInt8.toInt32).map Value.int) (.int 0)
theorem StrIs.keep0 {Z : State} {h h' : Heap} {a : Addr} {cs : List Int32} (S : StrIs Z h a cs) (K : Keep h h' []) : StrIs Z h' a cs := by
  obtain ⟨E, C, hp, hl, t, kb, F, V⟩ := S
  exact ⟨E.keep K, C.keep K nin0, hp, hl, t, kb, F.keep K nin0, V.keep K nin0⟩
theorem StrIs.keepX {Z : State} {h h' : Heap} {a x : Addr} {cs : List Int32} {C : String} {n : Nat} {a0 : Array Value} (S : StrIs Z h a cs) (K : Keep h h' [x]) (E' : Exa Z h x C) (w : (Jvm.Cond.instantiable C n).before a0 Z = true) (hne : C ≠ "java/lang/String") : StrIs Z h' a cs := by
  obtain ⟨E, C', hp, hl, t, kb, F, V⟩ := S
  have q1 : a ≠ x := (Exa.ne E' E hne).symm
  have q2 : t ≠ x := (Exa.neArv E' V w).symm
  exact ⟨E.keep K, C'.keep K (ninS q1 nin0), hp, hl, t, kb, F.keep K (ninS q1 nin0), V.keep K (ninS q2 nin0)⟩
theorem StrIs.keepN {Z : State} {h h' : Heap} {a x : Addr} {cs : List Int32} {n : Nat} {a0 : Array Value} (S : StrIs Z h a cs) (K : Keep h h' [x]) (E' : Exa Z h x "java/lang/String") (F' : Fld Z h x "java/lang/String" "value" "[B" .null) (w : (Jvm.Cond.instantiable "java/lang/String" n).before a0 Z = true) : StrIs Z h' a cs := by
  obtain ⟨E, C', hp, hl, t, kb, F, V⟩ := S
  have q1 : a ≠ x := Fld.ne F F' (by simp)
  have q2 : t ≠ x := (Exa.neArv E' V w).symm
  exact ⟨E.keep K, C'.keep K (ninS q1 nin0), hp, hl, t, kb, F.keep K (ninS q1 nin0), V.keep K (ninS q2 nin0)⟩
theorem StrIs.lt {Z : State} {h : Heap} {a : Addr} {cs : List Int32} (S : StrIs Z h a cs) : a < h.size := S.1.lt
theorem nar_char_id {c : Int32} (h : ¬ c < 0 ∧ ¬ (255 : Int32) < c) : nar .char c = c := by
  have q := c_i2c c
  show c.toUInt32.toUInt16.toUInt32.toInt32 = c
  rw [Int32.lt_iff_toInt_lt, Int32.lt_iff_toInt_lt] at h
  have e0 : (0 : Int32).toInt = 0 := rfl
  have e1 : (255 : Int32).toInt = 255 := rfl
  rw [e0, e1] at h
  apply Int32.toInt_inj.mp
  omega
theorem own_up (cs : List Int32) (h : ∀ c ∈ cs, ¬ c < 0 ∧ ¬ (255 : Int32) < c) : ∀ c ∈ cs, ¬ c < 0 ∧ ¬ (65535 : Int32) < c := fun c hc => ⟨(h c hc).1, fun q => (h c hc).2 (by rw [Int32.lt_iff_toInt_lt] at q ⊢; have e1 : (65535 : Int32).toInt = 65535 := rfl; have e2 : (255 : Int32).toInt = 255 := rfl; omega)⟩
theorem own_eqS {p : Program} {l : Launch} {e : Env} {R : Room} {s : State} {args : Array Value} {below : List Frame} {len W : Nat} {Z : State} {a0 : Array Value} {h : Heap} {n0 : Nat} (hZ : Z.Warmed39 s.vm) (hw : ∀ d ∈ StrChars.Road.wordsEq, d.before a0 Z = true) {kI : Nat} (wi : (Jvm.Cond.instantiable "java/lang/String" kI).before a0 Z = true)
    {x y : Addr} {cs ds : List Int32} (A : StrIs Z h x cs) (B : StrIs Z h y ds) {z : Int32} (S : Sta Z h "java/lang/String" "COMPACT_STRINGS" "Z" (.int z)) (hz : ¬ z = 0) (hfr : 2 ≤ R.frames) (hlo : W + 28 ≤ R.locals) :
    Back l R p e below s args (⟨"java/lang/String", "equals", "(Ljava/lang/Object;)Z"⟩ : MethodName) len W (fun P a => a = #[.ref x, .ref y] ∧ P.U.heap = h ∧ P.cells + 0 ≤ R.cells ∧ P.slots + 0 ≤ R.slots)
      (fun P _ v B => ∃ L, QSame (.int (if cs = ds then 1 else 0)) h n0 v B.U.heap L ∧ B.locs = P.locs ++ L ∧ B.cells = P.cells + 0 ∧ B.slots = P.slots + 0) := by
  obtain ⟨E, C, hp, hl, t, kb, F, V⟩ := A
  obtain ⟨E', C', hp', hl', t', kb', F', V'⟩ := B
  refine Back.mono (StrChars.Road.eqW hZ hw wi E F C V (StrChars.Road.codOf rfl fun c hc => (hp c hc).2) (own_up _ hp) hl E' F' C' V' (StrChars.Road.codOf rfl fun c hc => (hp' c hc).2) (own_up _ hp') hl' S hz hfr hlo) (fun P a hp => hp) (fun P a v B hp hq => ?_)
  obtain ⟨L, ⟨hc, rfl, hh⟩, h1, h2, h3⟩ := hq
  refine ⟨[], ⟨?_, Fr.nil _, hh⟩, h1, h2, h3⟩
  rcases hc with ⟨rfl, q⟩ | ⟨rfl, q⟩
  · rw [if_pos q]
  · rw [if_neg q]
theorem nar_char2 (x : Int32) : nar .char ((x).toUInt32.toUInt16.toUInt32.toInt32) = ((x).toUInt32.toUInt16.toUInt32.toInt32) := by simp only [nar, UInt32.toUInt32_toInt32, UInt16.toUInt16_toUInt32]
theorem own_mkE {rl il r0 r1 i0 i1 : Int32} (h : rl = il) (a : rl < 1 ∨ r0 = i0) (b : rl < 2 ∨ r1 = i1) (hr : rl = 0 ∨ rl = 1 ∨ rl = 2) : (if rl = 0 then ([] : List Int32) else if rl = 1 then [r0] else [r0, r1]) = (if il = 0 then ([] : List Int32) else if il = 1 then [i0] else [i0, i1]) := by
  subst h
  rcases hr with rfl | rfl | rfl
  · rfl
  · rcases a with a | rfl
    · exact absurd a (by decide)
    · rfl
  · rcases a with a | rfl
    · exact absurd a (by decide)
    · rcases b with b | rfl
      · exact absurd b (by decide)
      · rfl
theorem own_mkN1 {rl il r0 r1 i0 i1 : Int32} (hr : rl = 0 ∨ rl = 1 ∨ rl = 2) (hi : il = 0 ∨ il = 1 ∨ il = 2) (h : ¬ rl = il) : ¬ (if rl = 0 then ([] : List Int32) else if rl = 1 then [r0] else [r0, r1]) = (if il = 0 then ([] : List Int32) else if il = 1 then [i0] else [i0, i1]) := by
  rcases hr with rfl | rfl | rfl <;> rcases hi with rfl | rfl | rfl <;> simp at h ⊢
theorem own_mkN2 {rl il r0 r1 i0 i1 : Int32} (hr : rl = 0 ∨ rl = 1 ∨ rl = 2) (h : rl = il) (a : ¬ rl < 1) (b : ¬ r0 = i0) : ¬ (if rl = 0 then ([] : List Int32) else if rl = 1 then [r0] else [r0, r1]) = (if il = 0 then ([] : List Int32) else if il = 1 then [i0] else [i0, i1]) := by
  subst h
  rcases hr with rfl | rfl | rfl
  · exact absurd (by decide) a
  · intro q; simp at q; exact b q
  · intro q; simp at q; exact b q.1
theorem own_mkN3 {rl il r0 r1 i0 i1 : Int32} (hr : rl = 0 ∨ rl = 1 ∨ rl = 2) (h : rl = il) (a : ¬ rl < 2) (b : ¬ r1 = i1) : ¬ (if rl = 0 then ([] : List Int32) else if rl = 1 then [r0] else [r0, r1]) = (if il = 0 then ([] : List Int32) else if il = 1 then [i0] else [i0, i1]) := by
  subst h
  rcases hr with rfl | rfl | rfl
  · exact absurd (by decide) a
  · exact absurd (by decide) a
  · intro q; simp at q; exact b q.2
theorem own_and3 (x : Int32) : (x &&& (3 : Int32)) = 0 ∨ (x &&& (3 : Int32)) = 1 ∨ (x &&& (3 : Int32)) = 2 ∨ (x &&& (3 : Int32)) = 3 := by
  have q := c_and x 3 (by decide)
  simp only [← Int32.toInt_inj]
  have e0 : (0 : Int32).toInt = 0 := rfl
  have e1 : (1 : Int32).toInt = 1 := rfl
  have e2 : (2 : Int32).toInt = 2 := rfl
  have e3 : (3 : Int32).toInt = 3 := rfl
  omega
theorem own_rem3 (x : Int32) : ((x &&& (3 : Int32)) % (3 : Int32)) = 0 ∨ ((x &&& (3 : Int32)) % (3 : Int32)) = 1 ∨ ((x &&& (3 : Int32)) % (3 : Int32)) = 2 := by
  rcases own_and3 x with h | h | h | h <;> rw [h] <;> decide
theorem own_c255 (n : Int32) : ¬ ((n &&& (255 : Int32)).toUInt32.toUInt16.toUInt32.toInt32) < 0 ∧ ¬ (255 : Int32) < ((n &&& (255 : Int32)).toUInt32.toUInt16.toUInt32.toInt32) := by
  have h := and255_chars n
  rw [nar_char2] at h
  exact h
theorem own_noinst {Z : State} {a0 : Array Value} {C S K : String} {n : Nat} (w : (Jvm.Cond.superclass C S).before a0 Z = true) (w0 : (Jvm.Cond.noSuperclass S).before a0 Z = true) (wi : (Jvm.Cond.instantiable K n).before a0 Z = true) (h1 : C ≠ K) (h2 : S ≠ K) : ∃ c t, Z.vm.findClass C = some c ∧ Z.vm.findClass K = some t ∧ Z.vm.assignable c t = false := by
  obtain ⟨t, kt, g0, g2, g5, g6, -, -⟩ := Cond.instantiable_spec wi
  obtain ⟨o, ko, o1, o2, o3, -, -⟩ := Cond.noSuperclass_spec w0
  obtain ⟨c, h0⟩ := found_sup w
  obtain ⟨p, k, kp, q1, q2, q3, q4, q5, -, q7⟩ := Cond.superclass_spec h0 w
  cases q1.symm.trans o1
  have ne1 := ids_ne h0 g0 h1
  have ne2 := ids_ne o1 g0 h2
  have n2 : ∀ fuel, Z.vm.isSubclassAux fuel o t = false := fun fuel => by
    cases fuel with
    | zero => rfl
    | succ f => simp [Vm.isSubclassAux, ne2, o2, o3]
  have n3 : ∀ fuel, Z.vm.isSubclassAux fuel c t = false := fun fuel => by
    cases fuel with
    | zero => rfl
    | succ f => simp [Vm.isSubclassAux, ne1, q2, q4, n2]
  have g7 : kt.isInterface = false := by
    cases hq : kt.isInterface
    · rfl
    · simp [hq] at g6
  refine ⟨c, t, h0, g0, ?_⟩
  show Z.vm.assignableAux (255 + 1) c t = false
  simp [Vm.assignableAux, ne1, q2, g2, q5, g5, g7, Vm.isSubclass, n3]
theorem own_kt {a b : Int32} {kN kI kM : Addr} (hNI : kN ≠ kI) (hNM : kN ≠ kM) (hIM : kI ≠ kM) (ha : a = 0 ∨ a = 1 ∨ a = 2) (hb : b = 0 ∨ b = 1 ∨ b = 2) : (if a = 0 then kN else if a = 1 then kI else kM) = (if b = 0 then kN else if b = 1 then kI else kM) ↔ a = b := by
  have e1 : ¬ (1 : Int32) = 0 := by decide
  have e2 : ¬ (2 : Int32) = 0 := by decide
  have e3 : ¬ (2 : Int32) = 1 := by decide
  rcases ha with rfl | rfl | rfl <;> rcases hb with rfl | rfl | rfl <;> simp [e1, e2, e3, hNI, hNM, hIM, hNI.symm, hNM.symm, hIM.symm]
theorem own_at3 {j : Int32} {kN kI kM : Addr} (h : j = 0 ∨ j = 1 ∨ j = 2) : ([(.ref kN), (.ref kI), (.ref kM)] : List Value).getD j.toNatClampNeg .null = .ref (if j = 0 then kN else if j = 1 then kI else kM) := by
  rcases h with rfl | rfl | rfl <;> rfl
theorem own_in3 {j : Int32} (h : j = 0 ∨ j = 1 ∨ j = 2) : ¬ j < 0 ∧ j < 3 := by rcases h with rfl | rfl | rfl <;> decide
theorem own_if2 {P : Prop} [Decidable P] {ex : Int32} (h : (ex = 1 ∧ P) ∨ (ex = 0 ∧ ¬ P)) : (if P then (1 : Int32) else 0) = ex := by
  rcases h with ⟨rfl, h⟩ | ⟨rfl, h⟩
  · exact if_pos h
  · exact if_neg h
def QS0 (Z : State) (a : Addr) (h0 : Heap) (n0 : Nat) (v : Option Value) (h : Heap) (L : List Loc) : Prop := v = none ∧ Fr n0 L ∧ Keep h0 h [a] ∧ StrIs Z h a []
set_option maxRecDepth 65536 in
set_option maxHeartbeats 40000000 in
theorem rmS0b (l : Launch) (Z : State) (a0 : Array Value) (hw : ∀ d ∈ tables_1, d.before a0 Z = true) (a ca : Addr) (h0 : Heap) (n0 : Nat) (Z0 : n0 ≤ h0.size) (E0 : Exa Z h0 a "java/lang/String") (F0v : Fld Z h0 a "java/lang/String" "value" "[B" .null) (F0c : Fld Z h0 a "java/lang/String" "coder" "B" (.int (0 : Int32))) (ga : n0 ≤ a) :
    MetFree l (⟨"java/lang/String", "<init>", "([CIILjava/lang/Void;)V"⟩ : MethodName) (head1 [Jvm.Cond.code (⟨"java/lang/String", "<init>", "([CIILjava/lang/Void;)V"⟩ : MethodName) jdk_42_method_149_code 6 none] ({ frames := 1, cells := 4, slots := 8, locals := 12 } : Room)) (fun aa U => aa = #[(.ref a), (.ref ca), (.int (0 : Int32)), (.int (0 : Int32)), .null] ∧ Z.Warmed39 U.vm ∧ U.heap = h0 ∧ CHv Z own_EL U.vm h0) (fun _ _ _ _ _ => True) (fun _ U o U' => ∃ v L, o = .returned v ∧ QS0 Z a h0 n0 v U'.heap L ∧ CHr Z own_EL U.vm U.heap U'.vm U'.heap ∧ ReturnedEndW U o U' L ({ frames := 1, cells := 4, slots := 8, locals := 12 } : Room).cells ({ frames := 1, cells := 4, slots := 8, locals := 12 } : Room).slots) := by
  refine MetFree.of_bodySF (plainFor_of_name own_pn1) hisR ?_
  intro p e s m args below meth c s₁ Bd hml0 hP hK
  obtain ⟨rfl, hZ, hh, hCH⟩ := hP
  have hx := Bd.exec
  have hby := Bd.bytes
  have hml : c.maxLocals = 6 := hml0
  have hown : s.vm.findClass "java/lang/String" = some m.cls := findClass_of_methodNamed Bd.named
  have hnm := (name_of_methodNamed Bd.named Bd.method).1
  have X0 : Stand p l e ({ frames := 1, cells := 4, slots := 8, locals := 12 } : Room) s m #[(.ref a), (.ref ca), (.int (0 : Int32)), (.int (0 : Int32)), .null] below meth c s₁ [] 0 0 := Stand.of_body Bd
  have e0 : s₁.heap = h0 := by rw [← hh, Bd.state]; rfl
  have N0 := Fr.nil n0
  have K0 : Keep h0 h0 [] := Keep.refl _ _
  show GoOn p e below (s₁.setTop (entryFrame m #[(.ref a), (.ref ca), (.int (0 : Int32)), (.int (0 : Int32)), .null] 6)) (PostH Z own_EL s (QS0 Z a h0 n0) ({ frames := 1, cells := 4, slots := 8, locals := 12 } : Room).cells ({ frames := 1, cells := 4, slots := 8, locals := 12 } : Room).slots)
  refine GoOn.step (fun tq kq => castTop (own_ef0 m a ca (0 : Int32) (0 : Int32)) kq) ?_
  have hS0 : s.Since s.vm h0.size := (State.WarmedH.refl s).since _
  have hk0 : h0.size ≤ h0.size := Nat.le_refl _
  replace X0 : Stand p l e ({ frames := 1, cells := 4, slots := 8, locals := 12 } : Room) (s.setVm s.vm) m #[(.ref a), (.ref ca), (.int (0 : Int32)), (.int (0 : Int32)), .null] below meth c s₁ [] 0 0 := X0
  replace hZ : Z.Warmed39 (s.setVm s.vm).vm := hZ
  replace hown : (s.setVm s.vm).vm.findClass "java/lang/String" = some m.cls := hown
  have C0 : CHr Z own_EL s.vm h0 s.vm h0 := CHr.refl hCH
  have hEL : EW Z a0 own_EL := own_EW hw
  have wS : ∀ d ∈ Bundle.stringAtoms, d.before a0 Z = true := fun d hd => hw d (own_sa d hd)
  show GoOn p e below (s₁.setTop (mkF m 0 #[.val (.ref a), .val (.ref ca), .val (.int (0 : Int32)), .val (.int (0 : Int32)), .val .null, .unset] [])) _
  have K0a : Keep h0 h0 [a] := Keep.refl _ _
  have Sf1 : Safe Z own_EL s.vm h0 a := (Safe.ofNull hZ.alike E0 F0v)
  refine GoOn.step (fun tq kq => XS.aloadN X0.here hx rfl (hb hby own_d2) rfl rfl kq) ?_
  show GoOn p e below (s₁.setTop (mkF m 1 #[.val (.ref a), .val (.ref ca), .val (.int (0 : Int32)), .val (.int (0 : Int32)), .val .null, .unset] [(.ref a)])) _
  obtain ⟨T2, X2, e2, st2⟩ := initO X0 hx hZ hown (hw _ (List.mem_of_getElem? (i := 25) rfl)) (hw _ (List.mem_of_getElem? (i := 26) rfl)) (hw _ (List.mem_of_getElem? (i := 27) rfl)) e0 (g := (mkF m 1 #[.val (.ref a), .val (.ref ca), .val (.int (0 : Int32)), .val (.int (0 : Int32)), .val .null, .unset] [(.ref a)])) rfl (by rw [hml]; rfl) rfl (hb hby own_d3) (by decide) (W := 0) (by show 2 * 0 + _ ≤ _; exact Nat.le_of_eq rfl) (by decide)
  refine GoOn.step st2 ?_
  show GoOn p e below (T2.setTop (mkF m 4 #[.val (.ref a), .val (.ref ca), .val (.int (0 : Int32)), .val (.int (0 : Int32)), .val .null, .unset] [])) _
  refine GoOn.step (fun tq kq => XS.iloadN X2.here hx rfl (hb hby own_d4) rfl kq) ?_
  show GoOn p e below (T2.setTop (mkF m 5 #[.val (.ref a), .val (.ref ca), .val (.int (0 : Int32)), .val (.int (0 : Int32)), .val .null, .unset] [(.int (0 : Int32))])) _
  refine GoOn.step (fun tq kq => XS.ifNo X2.here hx rfl (hb hby own_d5) rfl ((if0 _ _).trans (teq rfl).2) kq) ?_
  show GoOn p e below (T2.setTop (mkF m 8 #[.val (.ref a), .val (.ref ca), .val (.int (0 : Int32)), .val (.int (0 : Int32)), .val .null, .unset] [])) _
  refine GoOn.step (fun tq kq => XS.aloadN X2.here hx rfl (hb hby own_d6) rfl rfl kq) ?_
  show GoOn p e below (T2.setTop (mkF m 9 #[.val (.ref a), .val (.ref ca), .val (.int (0 : Int32)), .val (.int (0 : Int32)), .val .null, .unset] [(.ref a)])) _
  obtain ⟨lt3, T3, h3, k13, lb3, kb3, X3, e3, Ex3, hS3, hk3, hZ3, hown3, El3, Flc3, Flv3, Al3, lla3, llb3, Cn3, Lt3, Ns3, st3⟩ := ldcCH X2 hx hZ hown (hw _ (List.mem_of_getElem? (i := 44) rfl)) wS e2 hS0 hk0 hEL (by decide) C0.1 (vs := []) (z := (0 : Int32)) (by decide) (by decide) (by decide) (g := (mkF m 9 #[.val (.ref a), .val (.ref ca), .val (.int (0 : Int32)), .val (.int (0 : Int32)), .val .null, .unset] [(.ref a)])) rfl (hb hby own_d7) (n := 0) (by decide) (by decide) (by decide) (by decide)
  have Kx3 : Keep h0 h3 [] := (Keep.refl _ _).ext Ex3
  refine GoOn.step st3 ?_
  have E4 : Exa Z h3 a "java/lang/String" := E0.keep Kx3
  have F5 : Fld Z h3 a "java/lang/String" "value" "[B" .null := F0v.keep Kx3 nin0
  have F6 : Fld Z h3 a "java/lang/String" "coder" "B" (.int (0 : Int32)) := F0c.keep Kx3 nin0
  have Z7 : n0 ≤ h3.size := Nat.le_trans Z0 Kx3.1
  have C8 : CHr Z own_EL s.vm h0 T3.vm h3 := CHr.trans C0 Cn3
  have K9 : Keep h0 h3 [a] := K0a.trans Kx3 all0
  have Sf10 : Safe Z own_EL T3.vm h3 a := CHr.safe Cn3 E0.lt Sf1
  have ne11 : a ≠ lt3 := (Ns3 _ Sf10).1
  have ne12 : a ≠ lb3 := (Ns3 _ Sf10).2
  show GoOn p e below (T3.setTop (mkF m 11 #[.val (.ref a), .val (.ref ca), .val (.int (0 : Int32)), .val (.int (0 : Int32)), .val .null, .unset] [(.ref lt3), (.ref a)])) _
  obtain ⟨T13, X13, e13, st13⟩ := getF X3 hx hZ3 hown3 (host := "") (Or.inl (hw _ (List.mem_of_getElem? (i := 42) rfl))) Via.refl e3 Flv3 (g := (mkF m 11 #[.val (.ref a), .val (.ref ca), .val (.int (0 : Int32)), .val (.int (0 : Int32)), .val .null, .unset] [(.ref lt3), (.ref a)])) rfl rfl (hb hby own_d8)
  refine GoOn.step st13 ?_
  show GoOn p e below (T13.setTop (mkF m 14 #[.val (.ref a), .val (.ref ca), .val (.int (0 : Int32)), .val (.int (0 : Int32)), .val .null, .unset] [(.ref lb3), (.ref a)])) _
  obtain ⟨T14, h14, X14, e14, W14, st14⟩ := putF X13 hx hZ3 hown3 (host := "") (Or.inl (hw _ (List.mem_of_getElem? (i := 42) rfl))) Via.refl e13 F5 E4 (Or.inr ⟨(hw _ (List.mem_of_getElem? (i := 43) rfl)), rfl, hnm⟩) (hw _ (List.mem_of_getElem? (i := 15) rfl)) (ty := (.array .byte)) (by decide) rfl rfl (g := (mkF m 14 #[.val (.ref a), .val (.ref ca), .val (.int (0 : Int32)), .val (.int (0 : Int32)), .val .null, .unset] [(.ref lb3), (.ref a)])) rfl rfl (hb hby own_d9)
  have N15 := Fr.snoc X14 N0 ga
  have Kx14 : Keep h3 h14 [a] := Keep.of_wr W14
  have F16 : Fld Z h14 a "java/lang/String" "value" "[B" (.ref lb3) := F5.same W14
  have F17 : Fld Z h14 a "java/lang/String" "coder" "B" (.int (0 : Int32)) := F6.other W14 (Or.inr (slot_ne (a0 := a0) (Or.inr (hw _ (List.mem_of_getElem? (i := 41) rfl))) (Or.inr (hw _ (List.mem_of_getElem? (i := 43) rfl))) (by decide) (t := .byte) (t' := (.array .byte)) (by decide) (by decide)))
  refine GoOn.step st14 ?_
  have E18 : Exa Z h14 a "java/lang/String" := E4.keep Kx14
  have Z21 : n0 ≤ h14.size := Nat.le_trans Z7 Kx14.1
  have C22 : CHr Z own_EL s.vm h0 T3.vm h14 := CHr.trans C8 (CHr.keep Kx14 (allS Sf10 all0) C8.1)
  have K23 : Keep h0 h14 [a] := K9.trans Kx14 ((allS (Or.inl (by simp)) all0))
  have Sf24 : Safe Z own_EL T3.vm h14 a := Safe.keep Kx14 (allS Sf10 all0) C8.1 Sf10
  have E25 : Exa Z h14 lt3 "java/lang/String" := El3.keep Kx14
  have F26 : Fld Z h14 lt3 "java/lang/String" "coder" "B" (.int 0) := Flc3.keep Kx14 (ninS (Ne.symm ne11) nin0)
  have F27 : Fld Z h14 lt3 "java/lang/String" "value" "[B" (.ref lb3) := Flv3.keep Kx14 (ninS (Ne.symm ne11) nin0)
  have V28 : Arv Z h14 lb3 kb3 .byte (0 : Int32) [] (.int 0) := Al3.keep Kx14 (ninS (Ne.symm ne12) nin0)
  have hk29 := Nat.le_trans hk3 Kx14.1
  show GoOn p e below (T14.setTop (mkF m 17 #[.val (.ref a), .val (.ref ca), .val (.int (0 : Int32)), .val (.int (0 : Int32)), .val .null, .unset] [])) _
  refine GoOn.step (fun tq kq => XS.aloadN X14.here hx rfl (hb hby own_d10) rfl rfl kq) ?_
  show GoOn p e below (T14.setTop (mkF m 18 #[.val (.ref a), .val (.ref ca), .val (.int (0 : Int32)), .val (.int (0 : Int32)), .val .null, .unset] [(.ref a)])) _
  obtain ⟨lt30, T30, h30, k130, lb30, kb30, X30, e30, Ex30, hS30, hk30, hZ30, hown30, El30, Flc30, Flv30, Al30, lla30, llb30, Cn30, Lt30, Ns30, st30⟩ := ldcCH X14 hx hZ3 hown3 (hw _ (List.mem_of_getElem? (i := 44) rfl)) wS e14 hS3 hk29 hEL (by decide) C22.1 (vs := []) (z := (0 : Int32)) (by decide) (by decide) (by decide) (g := (mkF m 18 #[.val (.ref a), .val (.ref ca), .val (.int (0 : Int32)), .val (.int (0 : Int32)), .val .null, .unset] [(.ref a)])) rfl (hb hby own_d11) (n := 0) (by decide) (by decide) (by decide) (by decide)
  have Kx30 : Keep h14 h30 [] := (Keep.refl _ _).ext Ex30
  refine GoOn.step st30 ?_
  have E31 : Exa Z h30 a "java/lang/String" := E18.keep Kx30
  have Z32 : n0 ≤ h30.size := Nat.le_trans Z21 Kx30.1
  have C33 : CHr Z own_EL s.vm h0 T30.vm h30 := CHr.trans C22 Cn30
  have K34 : Keep h0 h30 [a] := K23.trans Kx30 all0
  have Sf35 : Safe Z own_EL T30.vm h30 a := CHr.safe Cn30 E18.lt Sf24
  have E36 : Exa Z h30 lt3 "java/lang/String" := E25.keep Kx30
  have F37 : Fld Z h30 lt3 "java/lang/String" "coder" "B" (.int 0) := F26.keep Kx30 nin0
  have F38 : Fld Z h30 lt3 "java/lang/String" "value" "[B" (.ref lb3) := F27.keep Kx30 nin0
  have V39 : Arv Z h30 lb3 kb3 .byte (0 : Int32) [] (.int 0) := V28.keep Kx30 nin0
  have F40 : Fld Z h30 a "java/lang/String" "value" "[B" (.ref lb3) := F16.keep Kx30 nin0
  have F41 : Fld Z h30 a "java/lang/String" "coder" "B" (.int (0 : Int32)) := F17.keep Kx30 nin0
  have ne42 : a ≠ lt30 := (Ns30 _ Sf35).1
  have ne43 : a ≠ lb30 := (Ns30 _ Sf35).2
  show GoOn p e below (T30.setTop (mkF m 20 #[.val (.ref a), .val (.ref ca), .val (.int (0 : Int32)), .val (.int (0 : Int32)), .val .null, .unset] [(.ref lt30), (.ref a)])) _
  obtain ⟨T44, X44, e44, st44⟩ := getF X30 hx hZ30 hown30 (host := "") (Or.inl (hw _ (List.mem_of_getElem? (i := 40) rfl))) Via.refl e30 Flc30 (g := (mkF m 20 #[.val (.ref a), .val (.ref ca), .val (.int (0 : Int32)), .val (.int (0 : Int32)), .val .null, .unset] [(.ref lt30), (.ref a)])) rfl rfl (hb hby own_d12)
  refine GoOn.step st44 ?_
  show GoOn p e below (T44.setTop (mkF m 23 #[.val (.ref a), .val (.ref ca), .val (.int (0 : Int32)), .val (.int (0 : Int32)), .val .null, .unset] [(.int 0), (.ref a)])) _
  obtain ⟨T45, h45, X45, e45, W45, st45⟩ := putFN X44 hx hZ30 hown30 (hw _ (List.mem_of_getElem? (i := 40) rfl)) Via.refl e44 F41 E31 (Or.inr ⟨(hw _ (List.mem_of_getElem? (i := 41) rfl)), rfl, hnm⟩) (hw _ (List.mem_of_getElem? (i := 15) rfl)) (ty := .byte) (v' := (.int (nar .byte 0))) (by decide) rfl (fits_nar_byte _) (g := (mkF m 23 #[.val (.ref a), .val (.ref ca), .val (.int (0 : Int32)), .val (.int (0 : Int32)), .val .null, .unset] [(.int 0), (.ref a)])) rfl rfl (hb hby own_d13)
  have N46 := Fr.snoc X45 N15 ga
  have Kx45 : Keep h30 h45 [a] := Keep.of_wr W45
  have F47 : Fld Z h45 a "java/lang/String" "coder" "B" (.int (nar .byte 0)) := F41.same W45
  have F48 : Fld Z h45 a "java/lang/String" "value" "[B" (.ref lb3) := F40.other W45 (Or.inr (slot_ne (a0 := a0) (Or.inr (hw _ (List.mem_of_getElem? (i := 43) rfl))) (Or.inr (hw _ (List.mem_of_getElem? (i := 41) rfl))) (by decide) (t := (.array .byte)) (t' := .byte) (by decide) (by decide)))
  refine GoOn.step st45 ?_
  have E49 : Exa Z h45 a "java/lang/String" := E31.keep Kx45
  have Z50 : n0 ≤ h45.size := Nat.le_trans Z32 Kx45.1
  have C51 : CHr Z own_EL s.vm h0 T30.vm h45 := CHr.trans C33 (CHr.keep Kx45 (allS Sf35 all0) C33.1)
  have K52 : Keep h0 h45 [a] := K34.trans Kx45 ((allS (Or.inl (by simp)) all0))
  have Sf53 : Safe Z own_EL T30.vm h45 a := Safe.keep Kx45 (allS Sf35 all0) C33.1 Sf35
  have E54 : Exa Z h45 lt3 "java/lang/String" := E36.keep Kx45
  have F55 : Fld Z h45 lt3 "java/lang/String" "coder" "B" (.int 0) := F37.keep Kx45 (ninS (Ne.symm ne11) nin0)
  have F56 : Fld Z h45 lt3 "java/lang/String" "value" "[B" (.ref lb3) := F38.keep Kx45 (ninS (Ne.symm ne11) nin0)
  have V57 : Arv Z h45 lb3 kb3 .byte (0 : Int32) [] (.int 0) := V39.keep Kx45 (ninS (Ne.symm ne12) nin0)
  have E60 : Exa Z h45 lt30 "java/lang/String" := El30.keep Kx45
  have F61 : Fld Z h45 lt30 "java/lang/String" "coder" "B" (.int 0) := Flc30.keep Kx45 (ninS (Ne.symm ne42) nin0)
  have F62 : Fld Z h45 lt30 "java/lang/String" "value" "[B" (.ref lb30) := Flv30.keep Kx45 (ninS (Ne.symm ne42) nin0)
  have V63 : Arv Z h45 lb30 kb30 .byte (0 : Int32) [] (.int 0) := Al30.keep Kx45 (ninS (Ne.symm ne43) nin0)
  have hk64 := Nat.le_trans hk30 Kx45.1
  show GoOn p e below (T45.setTop (mkF m 26 #[.val (.ref a), .val (.ref ca), .val (.int (0 : Int32)), .val (.int (0 : Int32)), .val .null, .unset] [])) _
  refine GoOn.retH X45 hZ30 hS30 (hk64) hEL hh e45 C51 Bd.notSynchronized (v := none) (fun _ => rfl) (fun fs hr => X45.returnOut hx Bd.returns (hb hby own_d14) hr) (by decide) (by decide) ?_
  exact ⟨rfl, N46, K52, E49, F47, (fun c hc => by cases hc), (Nat.le_of_ble_eq_true rfl), lb3, kb3, F48, V57⟩
set_option maxRecDepth 65536 in
set_option maxHeartbeats 40000000 in
theorem rmS0 (l : Launch) (Z : State) (a0 : Array Value) (hw : ∀ d ∈ tables_1, d.before a0 Z = true) (a ca : Addr) (kc : ClassId) (h0 : Heap) (n0 : Nat) (Z0 : n0 ≤ h0.size) (E0 : Exa Z h0 a "java/lang/String") (F0v : Fld Z h0 a "java/lang/String" "value" "[B" .null) (F0c : Fld Z h0 a "java/lang/String" "coder" "B" (.int (0 : Int32))) (ga : n0 ≤ a) (V0 : Arv Z h0 ca kc .char (0 : Int32) [] (.int (0 : Int32))) (nac : a ≠ ca) :
    MetFree l (⟨"java/lang/String", "<init>", "([C)V"⟩ : MethodName) (head1 [Jvm.Cond.code (⟨"java/lang/String", "<init>", "([C)V"⟩ : MethodName) jdk_42_method_3_code 2 none] ({ frames := 2, cells := 4, slots := 8, locals := 29 } : Room)) (fun aa U => aa = #[(.ref a), (.ref ca)] ∧ Z.Warmed39 U.vm ∧ U.heap = h0 ∧ CHv Z own_EL U.vm h0) (fun _ _ _ _ _ => True) (fun _ U o U' => ∃ v L, o = .returned v ∧ QS0 Z a h0 n0 v U'.heap L ∧ CHr Z own_EL U.vm U.heap U'.vm U'.heap ∧ ReturnedEndW U o U' L ({ frames := 2, cells := 4, slots := 8, locals := 29 } : Room).cells ({ frames := 2, cells := 4, slots := 8, locals := 29 } : Room).slots) := by
  refine MetFree.of_bodySF (plainFor_of_name own_pn1) hisR ?_
  intro p e s m args below meth c s₁ Bd hml0 hP hK
  obtain ⟨rfl, hZ, hh, hCH⟩ := hP
  have hx := Bd.exec
  have hby := Bd.bytes
  have hml : c.maxLocals = 2 := hml0
  have hown : s.vm.findClass "java/lang/String" = some m.cls := findClass_of_methodNamed Bd.named
  have hnm := (name_of_methodNamed Bd.named Bd.method).1
  have X0 : Stand p l e ({ frames := 2, cells := 4, slots := 8, locals := 29 } : Room) s m #[(.ref a), (.ref ca)] below meth c s₁ [] 0 0 := Stand.of_body Bd
  have e0 : s₁.heap = h0 := by rw [← hh, Bd.state]; rfl
  have N0 := Fr.nil n0
  have K0 : Keep h0 h0 [] := Keep.refl _ _
  show GoOn p e below (s₁.setTop (entryFrame m #[(.ref a), (.ref ca)] 2)) (PostH Z own_EL s (QS0 Z a h0 n0) ({ frames := 2, cells := 4, slots := 8, locals := 29 } : Room).cells ({ frames := 2, cells := 4, slots := 8, locals := 29 } : Room).slots)
  refine GoOn.step (fun tq kq => castTop (own_ef15 m a ca) kq) ?_
  have hS0 : s.Since s.vm h0.size := (State.WarmedH.refl s).since _
  have hk0 : h0.size ≤ h0.size := Nat.le_refl _
  replace X0 : Stand p l e ({ frames := 2, cells := 4, slots := 8, locals := 29 } : Room) (s.setVm s.vm) m #[(.ref a), (.ref ca)] below meth c s₁ [] 0 0 := X0
  replace hZ : Z.Warmed39 (s.setVm s.vm).vm := hZ
  replace hown : (s.setVm s.vm).vm.findClass "java/lang/String" = some m.cls := hown
  have C0 : CHr Z own_EL s.vm h0 s.vm h0 := CHr.refl hCH
  have hEL : EW Z a0 own_EL := own_EW hw
  have wS : ∀ d ∈ Bundle.stringAtoms, d.before a0 Z = true := fun d hd => hw d (own_sa d hd)
  show GoOn p e below (s₁.setTop (mkF m 0 #[.val (.ref a), .val (.ref ca)] [])) _
  have K0a : Keep h0 h0 [a] := Keep.refl _ _
  refine GoOn.step (fun tq kq => XS.aloadN X0.here hx rfl (hb hby own_d16) rfl rfl kq) ?_
  show GoOn p e below (s₁.setTop (mkF m 1 #[.val (.ref a), .val (.ref ca)] [(.ref a)])) _
  refine GoOn.step (fun tq kq => XS.aloadN X0.here hx rfl (hb hby own_d17) rfl rfl kq) ?_
  show GoOn p e below (s₁.setTop (mkF m 2 #[.val (.ref a), .val (.ref ca)] [(.ref ca), (.ref a)])) _
  refine GoOn.step (fun tq kq => XS.iconst X0.here hx rfl (hb hby own_d18) kq) ?_
  show GoOn p e below (s₁.setTop (mkF m 3 #[.val (.ref a), .val (.ref ca)] [(.int (0 : Int32)), (.ref ca), (.ref a)])) _
  refine GoOn.step (fun tq kq => XS.aloadN X0.here hx rfl (hb hby own_d19) rfl rfl kq) ?_
  show GoOn p e below (s₁.setTop (mkF m 4 #[.val (.ref a), .val (.ref ca)] [(.ref ca), (.int (0 : Int32)), (.ref ca), (.ref a)])) _
  refine GoOn.step (fun tq kq => alenA X0 hx hZ e0 V0 (g := (mkF m 4 #[.val (.ref a), .val (.ref ca)] [(.ref ca), (.int (0 : Int32)), (.ref ca), (.ref a)])) rfl rfl (hb hby own_d20) _ kq) ?_
  show GoOn p e below (s₁.setTop (mkF m 5 #[.val (.ref a), .val (.ref ca)] [(.int (0 : Int32)), (.int (0 : Int32)), (.ref ca), (.ref a)])) _
  refine GoOn.step (fun tq kq => XS.aconstNull X0.here hx rfl (hb hby own_d21) kq) ?_
  show GoOn p e below (s₁.setTop (mkF m 6 #[.val (.ref a), .val (.ref ca)] [.null, (.int (0 : Int32)), (.int (0 : Int32)), (.ref ca), (.ref a)])) _
  obtain ⟨_, _, ⟨T65, L65, k65, n65⟩, -, X65, hS65, hg65, ⟨Lc65, hQ65, l65, y65, z65, Cn65⟩, st65⟩ := X0.specialBackS hx (y := (⟨"java/lang/String", "<init>", "([CIILjava/lang/Void;)V"⟩ : MethodName)) rfl hown (mvT hZ (hw _ (List.mem_of_getElem? (i := 21) rfl))) (mvT hZ (hw _ (List.mem_of_getElem? (i := 22) rfl))) (mvT hZ (hw _ (List.mem_of_getElem? (i := 24) rfl))) (by decide) (backOfSH (W := 0) (rmS0b l Z a0 hw a ca h0 n0 Z0 E0 F0v F0c ga) hZ (hw _ (List.mem_of_getElem? (i := 24) rfl)) (hw _ (List.mem_of_getElem? (i := 16) rfl)) (by decide) (by decide) hEL C0.1) (g := (mkF m 6 #[.val (.ref a), .val (.ref ca)] [.null, (.int (0 : Int32)), (.int (0 : Int32)), (.ref ca), (.ref a)])) rfl (by rw [hml]; rfl) (Steps.refl _) (a := a) (argsL := [(.ref ca), (.int (0 : Int32)), (.int (0 : Int32)), .null]) (rest := []) (lenOf own_pd23 rfl) rfl (by show 2 * 0 + _ ≤ _; exact Nat.le_of_eq rfl) (hb hby own_d22) (fun _ _ => ⟨rfl, e0, (by decide : 0 + 4 ≤ _), (by decide : 0 + 8 ≤ _)⟩)
  dsimp only [Pt.U, Pt.locs, Pt.cells, Pt.slots] at X65 l65 y65 z65 st65 hQ65 hS65 hg65 Cn65
  subst l65 y65 z65
  obtain ⟨rfl, N65, K65, S65⟩ := hQ65
  refine GoOn.trans st65 ?_
  replace X65 : Stand p l e _ (s.setVm T65.vm) m _ below meth c T65 _ _ _ := X65
  have hZ65 : Z.Warmed39 (s.setVm T65.vm).vm := State.Warmed39.trans (t := (s.setVm s.vm)) hZ hS65.1
  have hown65 : (s.setVm T65.vm).vm.findClass "java/lang/String" = some m.cls := by rw [show (s.setVm T65.vm).vm = T65.vm from rfl, hS65.1.alike.findClass]; exact hown
  have hSn65 : s.Since T65.vm T65.heap.size := foldS hS0 (by rw [e0]; exact hk0) hS65 hg65
  have hk65 : T65.heap.size ≤ T65.heap.size := Nat.le_refl _
  have N66 := Fr.app N0 N65
  have E67 : Exa Z T65.heap a "java/lang/String" := E0.keep K65
  have V70 : Arv Z T65.heap ca kc .char (0 : Int32) [] (.int (0 : Int32)) := V0.keep K65 (ninS (Ne.symm nac) nin0)
  have Z71 : n0 ≤ T65.heap.size := Nat.le_trans Z0 K65.1
  have C72 : CHr Z own_EL s.vm h0 T65.vm T65.heap := CHr.trans C0 Cn65
  have K73 : Keep h0 T65.heap [a] := K0a.trans K65 ((allS (Or.inl (by simp)) all0))
  show GoOn p e below (T65.setTop (mkF m 9 #[.val (.ref a), .val (.ref ca)] [])) _
  refine GoOn.retH X65 hZ65 hSn65 (hk65) hEL hh rfl C72 Bd.notSynchronized (v := none) (fun _ => rfl) (fun fs hr => X65.returnOut hx Bd.returns (hb hby own_d24) hr) (by decide) (by decide) ?_
  exact ⟨rfl, N66, K73, S65⟩
def QMk (Z : State) (len c0 c1 : Int32) (h0 : Heap) (n0 : Nat) (v : Option Value) (h : Heap) (L : List Loc) : Prop := ∃ a : Addr, v = some (.ref a) ∧ Fr n0 L ∧ Keep h0 h [] ∧ StrIs Z h a (if len = 0 then ([] : List Int32) else if len = 1 then [c0] else [c0, c1])
set_option maxRecDepth 65536 in
set_option maxHeartbeats 40000000 in
theorem rmMk (l : Launch) (Z : State) (a0 : Array Value) (hw : ∀ d ∈ tables_1, d.before a0 Z = true) (len c0 c1 G1 : Int32) (h0 : Heap) (n0 : Nat) (Z0 : n0 ≤ h0.size) (hb0 : ¬ c0 < 0 ∧ ¬ (255 : Int32) < c0) (hb1 : ¬ c1 < 0 ∧ ¬ (255 : Int32) < c1) (SC : Sta Z Z.heap "java/lang/String" "COMPACT_STRINGS" "Z" (.int G1)) (PC : ¬ G1 = (0 : Int32)) (O0 : Old Z n0 h0) :
    MetFree l (⟨"com/example/subsume/subsume/axioms/AtomicConceptEqualsPinLaw", "mk", "(ICC)Ljava/lang/String;"⟩ : MethodName) (head1 [Jvm.Cond.code (⟨"com/example/subsume/subsume/axioms/AtomicConceptEqualsPinLaw", "mk", "(ICC)Ljava/lang/String;"⟩ : MethodName) method_2_code 3 (some (.object "java/lang/String"))] ({ frames := 4, cells := 6, slots := 12, locals := 66 } : Room)) (fun aa U => aa = #[(.int len), (.int c0), (.int c1)] ∧ Z.Warmed39 U.vm ∧ U.heap = h0 ∧ CHv Z own_EL U.vm h0) (fun _ _ _ _ _ => True) (fun _ U o U' => ∃ v L, o = .returned v ∧ QMk Z len c0 c1 h0 n0 v U'.heap L ∧ CHr Z own_EL U.vm U.heap U'.vm U'.heap ∧ ReturnedEndW U o U' L ({ frames := 4, cells := 6, slots := 12, locals := 66 } : Room).cells ({ frames := 4, cells := 6, slots := 12, locals := 66 } : Room).slots) := by
  refine MetFree.of_bodySF (plainFor_of_name own_pn26) hisR ?_
  intro p e s m args below meth c s₁ Bd hml0 hP hK
  obtain ⟨rfl, hZ, hh, hCH⟩ := hP
  have hx := Bd.exec
  have hby := Bd.bytes
  have hml : c.maxLocals = 3 := hml0
  have hown : s.vm.findClass "com/example/subsume/subsume/axioms/AtomicConceptEqualsPinLaw" = some m.cls := findClass_of_methodNamed Bd.named
  have hnm := (name_of_methodNamed Bd.named Bd.method).1
  have X0 : Stand p l e ({ frames := 4, cells := 6, slots := 12, locals := 66 } : Room) s m #[(.int len), (.int c0), (.int c1)] below meth c s₁ [] 0 0 := Stand.of_body Bd
  have e0 : s₁.heap = h0 := by rw [← hh, Bd.state]; rfl
  have N0 := Fr.nil n0
  have K0 : Keep h0 h0 [] := Keep.refl _ _
  show GoOn p e below (s₁.setTop (entryFrame m #[(.int len), (.int c0), (.int c1)] 3)) (PostH Z own_EL s (QMk Z len c0 c1 h0 n0) ({ frames := 4, cells := 6, slots := 12, locals := 66 } : Room).cells ({ frames := 4, cells := 6, slots := 12, locals := 66 } : Room).slots)
  refine GoOn.step (fun tq kq => castTop (own_ef25 m len c0 c1) kq) ?_
  have hS0 : s.Since s.vm h0.size := (State.WarmedH.refl s).since _
  have hk0 : h0.size ≤ h0.size := Nat.le_refl _
  replace X0 : Stand p l e ({ frames := 4, cells := 6, slots := 12, locals := 66 } : Room) (s.setVm s.vm) m #[(.int len), (.int c0), (.int c1)] below meth c s₁ [] 0 0 := X0
  replace hZ : Z.Warmed39 (s.setVm s.vm).vm := hZ
  replace hown : (s.setVm s.vm).vm.findClass "com/example/subsume/subsume/axioms/AtomicConceptEqualsPinLaw" = some m.cls := hown
  have C0 : CHr Z own_EL s.vm h0 s.vm h0 := CHr.refl hCH
  have hEL : EW Z a0 own_EL := own_EW hw
  have wS : ∀ d ∈ Bundle.stringAtoms, d.before a0 Z = true := fun d hd => hw d (own_sa d hd)
  show GoOn p e below (s₁.setTop (mkF m 0 #[.val (.int len), .val (.int c0), .val (.int c1)] [])) _
  have hws : ∀ d ∈ StrChars.Road.words, d.before a0 Z = true := fun d hd => hw d ((by decide +kernel : ∀ d ∈ StrChars.Road.words, d ∈ tables_1) d hd)
  refine GoOn.step (fun tq kq => XS.iloadN X0.here hx rfl (hb hby own_d27) rfl kq) ?_
  show GoOn p e below (s₁.setTop (mkF m 1 #[.val (.int len), .val (.int c0), .val (.int c1)] [(.int len)])) _
  by_cases hc74 : len = 0
  · skip
    refine GoOn.step (fun tq kq => XS.ifNo X0.here hx rfl (hb hby own_d28) rfl ((if0 _ _).trans (teq hc74).2) kq) ?_
    show GoOn p e below (s₁.setTop (mkF m 4 #[.val (.int len), .val (.int c0), .val (.int c1)] [])) _
    obtain ⟨T75, h75, X75, e75, Ex75, A75, Df75, -, st75⟩ := newO X0 hx hZ hown (hw _ (List.mem_of_getElem? (i := 14) rfl)) (hw _ (List.mem_of_getElem? (i := 15) rfl)) (hw _ (List.mem_of_getElem? (i := 16) rfl)) e0 (g := (mkF m 4 #[.val (.int len), .val (.int c0), .val (.int c1)] [])) rfl (hb hby own_d29) (by decide) (by decide)
    obtain ⟨sb, g75⟩ : ∃ z, z = h0.size := ⟨_, rfl⟩
    rw [← g75] at A75 Df75 st75
    have gn76 : n0 ≤ sb := Nat.le_trans Z0 (Nat.le_of_eq g75.symm)
    have sz77 : h0.size ≤ sb := Nat.le_trans K0.1 (Nat.le_of_eq g75.symm)
    have Kx75 : Keep h0 h75 [] := (Keep.refl _ _).ext Ex75
    refine GoOn.step st75 ?_
    have O78 : Old Z n0 h75 := O0.keep Kx75 all0
    have Z79 : n0 ≤ h75.size := Nat.le_trans Z0 Kx75.1
    have K80 : Keep h0 h75 [] := K0.trans Kx75 (all0)
    have C81 : CHr Z own_EL s.vm h0 s.vm h75 := CHr.trans C0 (CHr.keep Kx75 all0 C0.1)
    have hk82 := Nat.le_trans hk0 Kx75.1
    have F83 : Fld Z h75 sb "java/lang/String" "coder" "B" (.int (0 : Int32)) := Df75 (Or.inr (hw _ (List.mem_of_getElem? (i := 41) rfl))) (ty := .byte) (by decide)
    have F84 : Fld Z h75 sb "java/lang/String" "value" "[B" .null := Df75 (Or.inr (hw _ (List.mem_of_getElem? (i := 43) rfl))) (ty := (.array .byte)) (by decide)
    show GoOn p e below (T75.setTop (mkF m 7 #[.val (.int len), .val (.int c0), .val (.int c1)] [(.ref sb)])) _
    refine GoOn.step (fun tq kq => XS.dup X75.here hx rfl (hb hby own_d30) rfl rfl kq) ?_
    show GoOn p e below (T75.setTop (mkF m 8 #[.val (.int len), .val (.int c0), .val (.int c1)] [(.ref sb), (.ref sb)])) _
    refine GoOn.step (fun tq kq => XS.iconst X75.here hx rfl (hb hby own_d31) kq) ?_
    show GoOn p e below (T75.setTop (mkF m 9 #[.val (.int len), .val (.int c0), .val (.int c1)] [(.int (0 : Int32)), (.ref sb), (.ref sb)])) _
    obtain ⟨T85, h85, k85, X85, e85, Ex85, A85, st85⟩ := newP X75 hx hZ (hw _ (List.mem_of_getElem? (i := 17) rfl)) e75 (g := (mkF m 9 #[.val (.int len), .val (.int c0), .val (.int c1)] [(.int (0 : Int32)), (.ref sb), (.ref sb)])) rfl (hb hby own_d32) rfl (by decide) (cap := 0) (by decide) (by decide) (by decide) (by decide)
    obtain ⟨ca, g85⟩ : ∃ z, z = h75.size := ⟨_, rfl⟩
    rw [← g85] at A85 st85
    have gn86 : n0 ≤ ca := Nat.le_trans Z79 (Nat.le_of_eq g85.symm)
    have sz87 : h0.size ≤ ca := Nat.le_trans K80.1 (Nat.le_of_eq g85.symm)
    have ne88 : sb ≠ ca := Nat.ne_of_lt (Nat.lt_of_lt_of_le A75.lt (Nat.le_of_eq g85.symm))
    have Kx85 : Keep h75 h85 [] := (Keep.refl _ _).ext Ex85
    refine GoOn.step st85 ?_
    have O89 : Old Z n0 h85 := O78.keep Kx85 all0
    have Z90 : n0 ≤ h85.size := Nat.le_trans Z79 Kx85.1
    have K91 : Keep h0 h85 [] := K80.trans Kx85 (all0)
    have C92 : CHr Z own_EL s.vm h0 s.vm h85 := CHr.trans C81 (CHr.keep Kx85 all0 C81.1)
    have E93 : Exa Z h85 sb "java/lang/String" := A75.keep Kx85
    have F94 : Fld Z h85 sb "java/lang/String" "coder" "B" (.int (0 : Int32)) := F83.keep Kx85 nin0
    have F95 : Fld Z h85 sb "java/lang/String" "value" "[B" .null := F84.keep Kx85 nin0
    have hk96 := Nat.le_trans hk82 Kx85.1
    have V97 : Arv Z h85 ca k85 .char (0 : Int32) [] (.int (0 : Int32)) := Arv.new A85 (by decide)
    show GoOn p e below (T85.setTop (mkF m 11 #[.val (.int len), .val (.int c0), .val (.int c1)] [(.ref ca), (.ref sb), (.ref sb)])) _
    obtain ⟨_, _, ⟨T98, L98, k98, n98⟩, -, X98, hS98, hg98, ⟨Lc98, hQ98, l98, y98, z98, Cn98⟩, st98⟩ := X85.specialBackS hx (y := (⟨"java/lang/String", "<init>", "([C)V"⟩ : MethodName)) rfl hown (mvT hZ (hw _ (List.mem_of_getElem? (i := 18) rfl))) (mvT hZ (hw _ (List.mem_of_getElem? (i := 19) rfl))) (mvT hZ (hw _ (List.mem_of_getElem? (i := 20) rfl))) (by decide) (backOfSH (W := 1) (rmS0 l Z a0 hw sb ca k85 h85 n0 Z90 E93 F95 F94 gn76 V97 ne88) hZ (hw _ (List.mem_of_getElem? (i := 20) rfl)) (hw _ (List.mem_of_getElem? (i := 16) rfl)) (by decide) (by decide) hEL C92.1) (g := (mkF m 11 #[.val (.int len), .val (.int c0), .val (.int c1)] [(.ref ca), (.ref sb), (.ref sb)])) rfl (by rw [hml]; rfl) (Steps.refl _) (a := sb) (argsL := [(.ref ca)]) (rest := [(.ref sb)]) (lenOf own_pd34 rfl) rfl (by show 2 * 0 + _ ≤ _; exact Nat.le_of_eq rfl) (hb hby own_d33) (fun _ _ => ⟨rfl, e85, (by decide : 2 + 4 ≤ _), (by decide : 4 + 8 ≤ _)⟩)
    dsimp only [Pt.U, Pt.locs, Pt.cells, Pt.slots] at X98 l98 y98 z98 st98 hQ98 hS98 hg98 Cn98
    subst l98 y98 z98
    obtain ⟨rfl, N98, K98, S98⟩ := hQ98
    refine GoOn.trans st98 ?_
    replace X98 : Stand p l e _ (s.setVm T98.vm) m _ below meth c T98 _ _ _ := X98
    have hZ98 : Z.Warmed39 (s.setVm T98.vm).vm := State.Warmed39.trans (t := (s.setVm s.vm)) hZ hS98.1
    have hown98 : (s.setVm T98.vm).vm.findClass "com/example/subsume/subsume/axioms/AtomicConceptEqualsPinLaw" = some m.cls := by rw [show (s.setVm T98.vm).vm = T98.vm from rfl, hS98.1.alike.findClass]; exact hown
    have hSn98 : s.Since T98.vm T98.heap.size := foldS hS0 (by rw [e85]; exact hk96) hS98 hg98
    have hk98 : T98.heap.size ≤ T98.heap.size := Nat.le_refl _
    have N99 := Fr.app N0 N98
    have O100 : Old Z n0 T98.heap := O89.keep K98 (allS gn76 all0)
    have Z101 : n0 ≤ T98.heap.size := Nat.le_trans Z90 K98.1
    have K102 : Keep h0 T98.heap [] := K91.trans K98 ((allS (Or.inr sz77) all0))
    have C103 : CHr Z own_EL s.vm h0 T98.vm T98.heap := CHr.trans C92 Cn98
    have E104 : Exa Z T98.heap sb "java/lang/String" := E93.keep K98
    have V107 : Arv Z T98.heap ca k85 .char (0 : Int32) [] (.int (0 : Int32)) := V97.keep K98 (ninS (Ne.symm ne88) nin0)
    show GoOn p e below (T98.setTop (mkF m 14 #[.val (.int len), .val (.int c0), .val (.int c1)] [(.ref sb)])) _
    refine GoOn.retH X98 hZ98 hSn98 (hk98) hEL hh rfl C103 Bd.notSynchronized (v := some (.ref sb)) (fun h => by rw [Bd.returns] at h; cases h) (fun fs hr => retOut X98 hx Bd.returns rfl (Or.inr (Or.inr (Or.inr (Or.inr ⟨rfl, rfl, rfl⟩)))) (hb hby own_d35) hr) (by decide) (by decide) ?_
    exact ⟨_, rfl, N99, K102, by rw [if_pos hc74]; exact S98⟩
  · skip
    refine GoOn.step (fun tq kq => XS.ifYes X0.here hx rfl (pc0 := 1) (pc' := 15) rfl (hb hby own_d28) rfl ((if0 _ _).trans (feq hc74).2) (by decide) (by decide) kq) ?_
    show GoOn p e below (s₁.setTop (mkF m 15 #[.val (.int len), .val (.int c0), .val (.int c1)] [])) _
    refine GoOn.step (fun tq kq => XS.iloadN X0.here hx rfl (hb hby own_d36) rfl kq) ?_
    show GoOn p e below (s₁.setTop (mkF m 16 #[.val (.int len), .val (.int c0), .val (.int c1)] [(.int len)])) _
    refine GoOn.step (fun tq kq => XS.iconst X0.here hx rfl (hb hby own_d37) kq) ?_
    show GoOn p e below (s₁.setTop (mkF m 17 #[.val (.int len), .val (.int c0), .val (.int c1)] [(.int (1 : Int32)), (.int len)])) _
    by_cases hc108 : len = (1 : Int32)
    · skip
      refine GoOn.step (fun tq kq => XS.icmpNo X0.here hx rfl (hb hby own_d38) rfl (teq hc108).2 kq) ?_
      show GoOn p e below (s₁.setTop (mkF m 20 #[.val (.int len), .val (.int c0), .val (.int c1)] [])) _
      obtain ⟨T109, h109, X109, e109, Ex109, A109, Df109, -, st109⟩ := newO X0 hx hZ hown (hw _ (List.mem_of_getElem? (i := 14) rfl)) (hw _ (List.mem_of_getElem? (i := 15) rfl)) (hw _ (List.mem_of_getElem? (i := 16) rfl)) e0 (g := (mkF m 20 #[.val (.int len), .val (.int c0), .val (.int c1)] [])) rfl (hb hby own_d39) (by decide) (by decide)
      obtain ⟨sb, g109⟩ : ∃ z, z = h0.size := ⟨_, rfl⟩
      rw [← g109] at A109 Df109 st109
      have gn110 : n0 ≤ sb := Nat.le_trans Z0 (Nat.le_of_eq g109.symm)
      have sz111 : h0.size ≤ sb := Nat.le_trans K0.1 (Nat.le_of_eq g109.symm)
      have Kx109 : Keep h0 h109 [] := (Keep.refl _ _).ext Ex109
      refine GoOn.step st109 ?_
      have O112 : Old Z n0 h109 := O0.keep Kx109 all0
      have Z113 : n0 ≤ h109.size := Nat.le_trans Z0 Kx109.1
      have K114 : Keep h0 h109 [] := K0.trans Kx109 (all0)
      have C115 : CHr Z own_EL s.vm h0 s.vm h109 := CHr.trans C0 (CHr.keep Kx109 all0 C0.1)
      have hk116 := Nat.le_trans hk0 Kx109.1
      have F117 : Fld Z h109 sb "java/lang/String" "coder" "B" (.int (0 : Int32)) := Df109 (Or.inr (hw _ (List.mem_of_getElem? (i := 41) rfl))) (ty := .byte) (by decide)
      have F118 : Fld Z h109 sb "java/lang/String" "value" "[B" .null := Df109 (Or.inr (hw _ (List.mem_of_getElem? (i := 43) rfl))) (ty := (.array .byte)) (by decide)
      show GoOn p e below (T109.setTop (mkF m 23 #[.val (.int len), .val (.int c0), .val (.int c1)] [(.ref sb)])) _
      refine GoOn.step (fun tq kq => XS.dup X109.here hx rfl (hb hby own_d40) rfl rfl kq) ?_
      show GoOn p e below (T109.setTop (mkF m 24 #[.val (.int len), .val (.int c0), .val (.int c1)] [(.ref sb), (.ref sb)])) _
      refine GoOn.step (fun tq kq => XS.iconst X109.here hx rfl (hb hby own_d41) kq) ?_
      show GoOn p e below (T109.setTop (mkF m 25 #[.val (.int len), .val (.int c0), .val (.int c1)] [(.int (1 : Int32)), (.ref sb), (.ref sb)])) _
      obtain ⟨T119, h119, k119, X119, e119, Ex119, A119, st119⟩ := newP X109 hx hZ (hw _ (List.mem_of_getElem? (i := 17) rfl)) e109 (g := (mkF m 25 #[.val (.int len), .val (.int c0), .val (.int c1)] [(.int (1 : Int32)), (.ref sb), (.ref sb)])) rfl (hb hby own_d42) rfl (by decide) (cap := 1) (by decide) (by decide) (by decide) (by decide)
      obtain ⟨ca, g119⟩ : ∃ z, z = h109.size := ⟨_, rfl⟩
      rw [← g119] at A119 st119
      have gn120 : n0 ≤ ca := Nat.le_trans Z113 (Nat.le_of_eq g119.symm)
      have sz121 : h0.size ≤ ca := Nat.le_trans K114.1 (Nat.le_of_eq g119.symm)
      have ne122 : sb ≠ ca := Nat.ne_of_lt (Nat.lt_of_lt_of_le A109.lt (Nat.le_of_eq g119.symm))
      have Kx119 : Keep h109 h119 [] := (Keep.refl _ _).ext Ex119
      refine GoOn.step st119 ?_
      have O123 : Old Z n0 h119 := O112.keep Kx119 all0
      have Z124 : n0 ≤ h119.size := Nat.le_trans Z113 Kx119.1
      have K125 : Keep h0 h119 [] := K114.trans Kx119 (all0)
      have C126 : CHr Z own_EL s.vm h0 s.vm h119 := CHr.trans C115 (CHr.keep Kx119 all0 C115.1)
      have E127 : Exa Z h119 sb "java/lang/String" := A109.keep Kx119
      have F128 : Fld Z h119 sb "java/lang/String" "coder" "B" (.int (0 : Int32)) := F117.keep Kx119 nin0
      have F129 : Fld Z h119 sb "java/lang/String" "value" "[B" .null := F118.keep Kx119 nin0
      have hk130 := Nat.le_trans hk116 Kx119.1
      have V131 : Arv Z h119 ca k119 .char (1 : Int32) [] (.int (0 : Int32)) := Arv.new A119 (by decide)
      show GoOn p e below (T119.setTop (mkF m 27 #[.val (.int len), .val (.int c0), .val (.int c1)] [(.ref ca), (.ref sb), (.ref sb)])) _
      refine GoOn.step (fun tq kq => XS.dup X119.here hx rfl (hb hby own_d43) rfl rfl kq) ?_
      show GoOn p e below (T119.setTop (mkF m 28 #[.val (.int len), .val (.int c0), .val (.int c1)] [(.ref ca), (.ref ca), (.ref sb), (.ref sb)])) _
      refine GoOn.step (fun tq kq => XS.iconst X119.here hx rfl (hb hby own_d44) kq) ?_
      show GoOn p e below (T119.setTop (mkF m 29 #[.val (.int len), .val (.int c0), .val (.int c1)] [(.int (0 : Int32)), (.ref ca), (.ref ca), (.ref sb), (.ref sb)])) _
      refine GoOn.step (fun tq kq => XS.iloadN X119.here hx rfl (hb hby own_d45) rfl kq) ?_
      show GoOn p e below (T119.setTop (mkF m 30 #[.val (.int len), .val (.int c0), .val (.int c1)] [(.int c0), (.int (0 : Int32)), (.ref ca), (.ref ca), (.ref sb), (.ref sb)])) _
      have V133 : Arv Z h119 ca k119 .char (1 : Int32) [(.int (0 : Int32))] (.int (0 : Int32)) := V131.pad (pad_rep [] (.int (0 : Int32)) 1)
      obtain ⟨cq134, Aq134, qq134, Sq134, Mq134, Hq134, Uq134⟩ := id V133
      obtain ⟨T132, h132, X132, e132, W132, st132⟩ := stC X119 hx hZ e119 Aq134 (j := (0 : Int32)) (inb_of Sq134 ⟨(by decide : ¬ ((0 : Int32) < (0 : Int32))), (by decide : (0 : Int32) < (1 : Int32))⟩) (g := (mkF m 30 #[.val (.int len), .val (.int c0), .val (.int c1)] [(.int c0), (.int (0 : Int32)), (.ref ca), (.ref ca), (.ref sb), (.ref sb)])) rfl rfl (hb hby own_d46)
      have N135 := Fr.snoc X132 N0 gn120
      have V136 : Arv Z h132 ca k119 .char (1 : Int32) [(.int (nar .char c0))] (.int (0 : Int32)) := Arv.set Aq134 qq134 Sq134 Mq134 Hq134 Uq134 (fits_nar_char _) W132 0 rfl (Nat.le_of_ble_eq_true rfl)
      have Kx132 : Keep h119 h132 [ca] := Keep.of_wr W132
      refine GoOn.step st132 ?_
      have O137 : Old Z n0 h132 := O123.keep Kx132 (allS gn120 all0)
      have Z138 : n0 ≤ h132.size := Nat.le_trans Z124 Kx132.1
      have K139 : Keep h0 h132 [] := K125.trans Kx132 ((allS (Or.inr sz121) all0))
      have C140 : CHr Z own_EL s.vm h0 s.vm h132 := CHr.trans C126 (CHr.keep Kx132 (allS (Safe.arv hZ.alike V131 (by decide)) all0) C126.1)
      have E141 : Exa Z h132 sb "java/lang/String" := E127.keep Kx132
      have F142 : Fld Z h132 sb "java/lang/String" "coder" "B" (.int (0 : Int32)) := F128.keep Kx132 (ninS ne122 nin0)
      have F143 : Fld Z h132 sb "java/lang/String" "value" "[B" .null := F129.keep Kx132 (ninS ne122 nin0)
      have hk144 := Nat.le_trans hk130 Kx132.1
      show GoOn p e below (T132.setTop (mkF m 31 #[.val (.int len), .val (.int c0), .val (.int c1)] [(.ref ca), (.ref sb), (.ref sb)])) _
      rw [nar_char_id hb0] at V136
      have hp145 : ∀ c ∈ ([c0] : List Int32), ¬ c < 0 ∧ ¬ (255 : Int32) < c := by
        intro c hc
        simp only [List.mem_cons, List.not_mem_nil, or_false] at hc
        rcases hc with rfl
        · exact hb0
      obtain ⟨_, _, ⟨T146, L146, k146, n146⟩, -, X146, ⟨Lc146, hQ146, l146, y146, z146⟩, st146⟩ := X132.specialBack hx (y := (⟨"java/lang/String", "<init>", "([C)V"⟩ : MethodName)) rfl hown (mvT hZ (hw _ (List.mem_of_getElem? (i := 18) rfl))) (mvT hZ (hw _ (List.mem_of_getElem? (i := 19) rfl))) (mvT hZ (hw _ (List.mem_of_getElem? (i := 20) rfl))) (by decide) (StrChars.Road.backV (W := 1) hZ hws (kI := 4) (hw _ (List.mem_of_getElem? (i := 15) rfl)) (cs := ([c0] : List Int32)) (bs := ([c0] : List Int32).map (fun c => c.toInt8.toInt32)) (n := 1) gn110 Z138 E141 F143 F142 V136 (SC.ext O137.2) PC rfl rfl (by decide) (by decide) hp145 rfl (by decide) (by decide)) (g := (mkF m 31 #[.val (.int len), .val (.int c0), .val (.int c1)] [(.ref ca), (.ref sb), (.ref sb)])) rfl (by rw [hml]; rfl) (Steps.refl _) (a := sb) (argsL := [(.ref ca)]) (rest := [(.ref sb)]) (lenOf own_pd34 rfl) rfl (by show 2 * 0 + _ ≤ _; exact Nat.le_of_eq rfl) (hb hby own_d47) (fun _ _ => ⟨rfl, e132, (by decide : 2 + 1 ≤ _), (by decide : 5 + 1 ≤ _)⟩)
      dsimp only [Pt.U, Pt.locs, Pt.cells, Pt.slots] at X146 l146 y146 z146 st146 hQ146
      subst l146 y146 z146
      obtain ⟨rfl, N146, K146, E146, Fc146, t146, kb146, u146, v146, w146, Fv146, Va146⟩ := hQ146
      refine GoOn.trans st146 ?_
      have N147 := Fr.app N135 N146
      have O148 : Old Z n0 T146.heap := O137.keep K146 (allS gn110 all0)
      have Z149 : n0 ≤ T146.heap.size := Nat.le_trans Z138 K146.1
      have K150 : Keep h0 T146.heap [] := K139.trans K146 ((allS (Or.inr sz111) all0))
      have C151 : CHr Z own_EL s.vm h0 s.vm T146.heap := CHr.trans C140 (CHr.keep K146 (allS (Safe.ofNull hZ.alike E141 F143) all0) C140.1)
      have E152 : Exa Z T146.heap sb "java/lang/String" := E141.keep K146
      have V155 : Arv Z T146.heap ca k119 .char (1 : Int32) [(.int c0)] (.int (0 : Int32)) := V136.keep K146 (ninS (Ne.symm ne122) nin0)
      have hk156 := Nat.le_trans hk144 K146.1
      show GoOn p e below (T146.setTop (mkF m 34 #[.val (.int len), .val (.int c0), .val (.int c1)] [(.ref sb)])) _
      have Sr157 : StrIs Z T146.heap sb ([c0] : List Int32) := ⟨E146, Fc146, hp145, (Nat.le_of_ble_eq_true rfl), t146, kb146, Fv146, Va146⟩
      refine GoOn.retH X146 hZ hS0 (hk156) hEL hh rfl C151 Bd.notSynchronized (v := some (.ref sb)) (fun h => by rw [Bd.returns] at h; cases h) (fun fs hr => retOut X146 hx Bd.returns rfl (Or.inr (Or.inr (Or.inr (Or.inr ⟨rfl, rfl, rfl⟩)))) (hb hby own_d48) hr) (by decide) (by decide) ?_
      exact ⟨_, rfl, N147, K150, by rw [if_neg hc74, if_pos hc108]; exact Sr157⟩
    · skip
      refine GoOn.step (fun tq kq => XS.icmpYes X0.here hx rfl (pc0 := 17) (pc' := 35) rfl (hb hby own_d38) rfl (feq hc108).2 (by decide) (by decide) kq) ?_
      show GoOn p e below (s₁.setTop (mkF m 35 #[.val (.int len), .val (.int c0), .val (.int c1)] [])) _
      obtain ⟨T158, h158, X158, e158, Ex158, A158, Df158, -, st158⟩ := newO X0 hx hZ hown (hw _ (List.mem_of_getElem? (i := 14) rfl)) (hw _ (List.mem_of_getElem? (i := 15) rfl)) (hw _ (List.mem_of_getElem? (i := 16) rfl)) e0 (g := (mkF m 35 #[.val (.int len), .val (.int c0), .val (.int c1)] [])) rfl (hb hby own_d49) (by decide) (by decide)
      obtain ⟨sb, g158⟩ : ∃ z, z = h0.size := ⟨_, rfl⟩
      rw [← g158] at A158 Df158 st158
      have gn159 : n0 ≤ sb := Nat.le_trans Z0 (Nat.le_of_eq g158.symm)
      have sz160 : h0.size ≤ sb := Nat.le_trans K0.1 (Nat.le_of_eq g158.symm)
      have Kx158 : Keep h0 h158 [] := (Keep.refl _ _).ext Ex158
      refine GoOn.step st158 ?_
      have O161 : Old Z n0 h158 := O0.keep Kx158 all0
      have Z162 : n0 ≤ h158.size := Nat.le_trans Z0 Kx158.1
      have K163 : Keep h0 h158 [] := K0.trans Kx158 (all0)
      have C164 : CHr Z own_EL s.vm h0 s.vm h158 := CHr.trans C0 (CHr.keep Kx158 all0 C0.1)
      have hk165 := Nat.le_trans hk0 Kx158.1
      have F166 : Fld Z h158 sb "java/lang/String" "coder" "B" (.int (0 : Int32)) := Df158 (Or.inr (hw _ (List.mem_of_getElem? (i := 41) rfl))) (ty := .byte) (by decide)
      have F167 : Fld Z h158 sb "java/lang/String" "value" "[B" .null := Df158 (Or.inr (hw _ (List.mem_of_getElem? (i := 43) rfl))) (ty := (.array .byte)) (by decide)
      show GoOn p e below (T158.setTop (mkF m 38 #[.val (.int len), .val (.int c0), .val (.int c1)] [(.ref sb)])) _
      refine GoOn.step (fun tq kq => XS.dup X158.here hx rfl (hb hby own_d50) rfl rfl kq) ?_
      show GoOn p e below (T158.setTop (mkF m 39 #[.val (.int len), .val (.int c0), .val (.int c1)] [(.ref sb), (.ref sb)])) _
      refine GoOn.step (fun tq kq => XS.iconst X158.here hx rfl (hb hby own_d51) kq) ?_
      show GoOn p e below (T158.setTop (mkF m 40 #[.val (.int len), .val (.int c0), .val (.int c1)] [(.int (2 : Int32)), (.ref sb), (.ref sb)])) _
      obtain ⟨T168, h168, k168, X168, e168, Ex168, A168, st168⟩ := newP X158 hx hZ (hw _ (List.mem_of_getElem? (i := 17) rfl)) e158 (g := (mkF m 40 #[.val (.int len), .val (.int c0), .val (.int c1)] [(.int (2 : Int32)), (.ref sb), (.ref sb)])) rfl (hb hby own_d52) rfl (by decide) (cap := 2) (by decide) (by decide) (by decide) (by decide)
      obtain ⟨ca, g168⟩ : ∃ z, z = h158.size := ⟨_, rfl⟩
      rw [← g168] at A168 st168
      have gn169 : n0 ≤ ca := Nat.le_trans Z162 (Nat.le_of_eq g168.symm)
      have sz170 : h0.size ≤ ca := Nat.le_trans K163.1 (Nat.le_of_eq g168.symm)
      have ne171 : sb ≠ ca := Nat.ne_of_lt (Nat.lt_of_lt_of_le A158.lt (Nat.le_of_eq g168.symm))
      have Kx168 : Keep h158 h168 [] := (Keep.refl _ _).ext Ex168
      refine GoOn.step st168 ?_
      have O172 : Old Z n0 h168 := O161.keep Kx168 all0
      have Z173 : n0 ≤ h168.size := Nat.le_trans Z162 Kx168.1
      have K174 : Keep h0 h168 [] := K163.trans Kx168 (all0)
      have C175 : CHr Z own_EL s.vm h0 s.vm h168 := CHr.trans C164 (CHr.keep Kx168 all0 C164.1)
      have E176 : Exa Z h168 sb "java/lang/String" := A158.keep Kx168
      have F177 : Fld Z h168 sb "java/lang/String" "coder" "B" (.int (0 : Int32)) := F166.keep Kx168 nin0
      have F178 : Fld Z h168 sb "java/lang/String" "value" "[B" .null := F167.keep Kx168 nin0
      have hk179 := Nat.le_trans hk165 Kx168.1
      have V180 : Arv Z h168 ca k168 .char (2 : Int32) [] (.int (0 : Int32)) := Arv.new A168 (by decide)
      show GoOn p e below (T168.setTop (mkF m 42 #[.val (.int len), .val (.int c0), .val (.int c1)] [(.ref ca), (.ref sb), (.ref sb)])) _
      refine GoOn.step (fun tq kq => XS.dup X168.here hx rfl (hb hby own_d53) rfl rfl kq) ?_
      show GoOn p e below (T168.setTop (mkF m 43 #[.val (.int len), .val (.int c0), .val (.int c1)] [(.ref ca), (.ref ca), (.ref sb), (.ref sb)])) _
      refine GoOn.step (fun tq kq => XS.iconst X168.here hx rfl (hb hby own_d54) kq) ?_
      show GoOn p e below (T168.setTop (mkF m 44 #[.val (.int len), .val (.int c0), .val (.int c1)] [(.int (0 : Int32)), (.ref ca), (.ref ca), (.ref sb), (.ref sb)])) _
      refine GoOn.step (fun tq kq => XS.iloadN X168.here hx rfl (hb hby own_d55) rfl kq) ?_
      show GoOn p e below (T168.setTop (mkF m 45 #[.val (.int len), .val (.int c0), .val (.int c1)] [(.int c0), (.int (0 : Int32)), (.ref ca), (.ref ca), (.ref sb), (.ref sb)])) _
      have V182 : Arv Z h168 ca k168 .char (2 : Int32) [(.int (0 : Int32))] (.int (0 : Int32)) := V180.pad (pad_rep [] (.int (0 : Int32)) 1)
      obtain ⟨cq183, Aq183, qq183, Sq183, Mq183, Hq183, Uq183⟩ := id V182
      obtain ⟨T181, h181, X181, e181, W181, st181⟩ := stC X168 hx hZ e168 Aq183 (j := (0 : Int32)) (inb_of Sq183 ⟨(by decide : ¬ ((0 : Int32) < (0 : Int32))), (by decide : (0 : Int32) < (2 : Int32))⟩) (g := (mkF m 45 #[.val (.int len), .val (.int c0), .val (.int c1)] [(.int c0), (.int (0 : Int32)), (.ref ca), (.ref ca), (.ref sb), (.ref sb)])) rfl rfl (hb hby own_d56)
      have N184 := Fr.snoc X181 N0 gn169
      have V185 : Arv Z h181 ca k168 .char (2 : Int32) [(.int (nar .char c0))] (.int (0 : Int32)) := Arv.set Aq183 qq183 Sq183 Mq183 Hq183 Uq183 (fits_nar_char _) W181 0 rfl (Nat.le_of_ble_eq_true rfl)
      have Kx181 : Keep h168 h181 [ca] := Keep.of_wr W181
      refine GoOn.step st181 ?_
      have O186 : Old Z n0 h181 := O172.keep Kx181 (allS gn169 all0)
      have Z187 : n0 ≤ h181.size := Nat.le_trans Z173 Kx181.1
      have K188 : Keep h0 h181 [] := K174.trans Kx181 ((allS (Or.inr sz170) all0))
      have C189 : CHr Z own_EL s.vm h0 s.vm h181 := CHr.trans C175 (CHr.keep Kx181 (allS (Safe.arv hZ.alike V180 (by decide)) all0) C175.1)
      have E190 : Exa Z h181 sb "java/lang/String" := E176.keep Kx181
      have F191 : Fld Z h181 sb "java/lang/String" "coder" "B" (.int (0 : Int32)) := F177.keep Kx181 (ninS ne171 nin0)
      have F192 : Fld Z h181 sb "java/lang/String" "value" "[B" .null := F178.keep Kx181 (ninS ne171 nin0)
      have hk193 := Nat.le_trans hk179 Kx181.1
      show GoOn p e below (T181.setTop (mkF m 46 #[.val (.int len), .val (.int c0), .val (.int c1)] [(.ref ca), (.ref sb), (.ref sb)])) _
      refine GoOn.step (fun tq kq => XS.dup X181.here hx rfl (hb hby own_d57) rfl rfl kq) ?_
      show GoOn p e below (T181.setTop (mkF m 47 #[.val (.int len), .val (.int c0), .val (.int c1)] [(.ref ca), (.ref ca), (.ref sb), (.ref sb)])) _
      refine GoOn.step (fun tq kq => XS.iconst X181.here hx rfl (hb hby own_d58) kq) ?_
      show GoOn p e below (T181.setTop (mkF m 48 #[.val (.int len), .val (.int c0), .val (.int c1)] [(.int (1 : Int32)), (.ref ca), (.ref ca), (.ref sb), (.ref sb)])) _
      refine GoOn.step (fun tq kq => XS.iloadN X181.here hx rfl (hb hby own_d59) rfl kq) ?_
      show GoOn p e below (T181.setTop (mkF m 49 #[.val (.int len), .val (.int c0), .val (.int c1)] [(.int c1), (.int (1 : Int32)), (.ref ca), (.ref ca), (.ref sb), (.ref sb)])) _
      have V195 : Arv Z h181 ca k168 .char (2 : Int32) [(.int (nar .char c0)), (.int (0 : Int32))] (.int (0 : Int32)) := V185.pad (pad_rep [(.int (nar .char c0))] (.int (0 : Int32)) 1)
      obtain ⟨cq196, Aq196, qq196, Sq196, Mq196, Hq196, Uq196⟩ := id V195
      obtain ⟨T194, h194, X194, e194, W194, st194⟩ := stC X181 hx hZ e181 Aq196 (j := (1 : Int32)) (inb_of Sq196 ⟨(by decide : ¬ ((1 : Int32) < (0 : Int32))), (by decide : (1 : Int32) < (2 : Int32))⟩) (g := (mkF m 49 #[.val (.int len), .val (.int c0), .val (.int c1)] [(.int c1), (.int (1 : Int32)), (.ref ca), (.ref ca), (.ref sb), (.ref sb)])) rfl rfl (hb hby own_d60)
      have N197 := Fr.snoc X194 N184 gn169
      have V198 : Arv Z h194 ca k168 .char (2 : Int32) [(.int (nar .char c0)), (.int (nar .char c1))] (.int (0 : Int32)) := Arv.set Aq196 qq196 Sq196 Mq196 Hq196 Uq196 (fits_nar_char _) W194 1 rfl (Nat.le_of_ble_eq_true rfl)
      have Kx194 : Keep h181 h194 [ca] := Keep.of_wr W194
      refine GoOn.step st194 ?_
      have O199 : Old Z n0 h194 := O186.keep Kx194 (allS gn169 all0)
      have Z200 : n0 ≤ h194.size := Nat.le_trans Z187 Kx194.1
      have K201 : Keep h0 h194 [] := K188.trans Kx194 ((allS (Or.inr sz170) all0))
      have C202 : CHr Z own_EL s.vm h0 s.vm h194 := CHr.trans C189 (CHr.keep Kx194 (allS (Safe.arv hZ.alike V185 (by decide)) all0) C189.1)
      have E203 : Exa Z h194 sb "java/lang/String" := E190.keep Kx194
      have F204 : Fld Z h194 sb "java/lang/String" "coder" "B" (.int (0 : Int32)) := F191.keep Kx194 (ninS ne171 nin0)
      have F205 : Fld Z h194 sb "java/lang/String" "value" "[B" .null := F192.keep Kx194 (ninS ne171 nin0)
      have hk206 := Nat.le_trans hk193 Kx194.1
      show GoOn p e below (T194.setTop (mkF m 50 #[.val (.int len), .val (.int c0), .val (.int c1)] [(.ref ca), (.ref sb), (.ref sb)])) _
      rw [nar_char_id hb0] at V198
      rw [nar_char_id hb1] at V198
      have hp207 : ∀ c ∈ ([c0, c1] : List Int32), ¬ c < 0 ∧ ¬ (255 : Int32) < c := by
        intro c hc
        simp only [List.mem_cons, List.not_mem_nil, or_false] at hc
        rcases hc with rfl | rfl
        · exact hb0
        · exact hb1
      obtain ⟨_, _, ⟨T208, L208, k208, n208⟩, -, X208, ⟨Lc208, hQ208, l208, y208, z208⟩, st208⟩ := X194.specialBack hx (y := (⟨"java/lang/String", "<init>", "([C)V"⟩ : MethodName)) rfl hown (mvT hZ (hw _ (List.mem_of_getElem? (i := 18) rfl))) (mvT hZ (hw _ (List.mem_of_getElem? (i := 19) rfl))) (mvT hZ (hw _ (List.mem_of_getElem? (i := 20) rfl))) (by decide) (StrChars.Road.backV (W := 1) hZ hws (kI := 4) (hw _ (List.mem_of_getElem? (i := 15) rfl)) (cs := ([c0, c1] : List Int32)) (bs := ([c0, c1] : List Int32).map (fun c => c.toInt8.toInt32)) (n := 2) gn159 Z200 E203 F205 F204 V198 (SC.ext O199.2) PC rfl rfl (by decide) (by decide) hp207 rfl (by decide) (by decide)) (g := (mkF m 50 #[.val (.int len), .val (.int c0), .val (.int c1)] [(.ref ca), (.ref sb), (.ref sb)])) rfl (by rw [hml]; rfl) (Steps.refl _) (a := sb) (argsL := [(.ref ca)]) (rest := [(.ref sb)]) (lenOf own_pd34 rfl) rfl (by show 2 * 0 + _ ≤ _; exact Nat.le_of_eq rfl) (hb hby own_d61) (fun _ _ => ⟨rfl, e194, (by decide : 2 + 1 ≤ _), (by decide : 6 + 2 ≤ _)⟩)
      dsimp only [Pt.U, Pt.locs, Pt.cells, Pt.slots] at X208 l208 y208 z208 st208 hQ208
      subst l208 y208 z208
      obtain ⟨rfl, N208, K208, E208, Fc208, t208, kb208, u208, v208, w208, Fv208, Va208⟩ := hQ208
      refine GoOn.trans st208 ?_
      have N209 := Fr.app N197 N208
      have O210 : Old Z n0 T208.heap := O199.keep K208 (allS gn159 all0)
      have Z211 : n0 ≤ T208.heap.size := Nat.le_trans Z200 K208.1
      have K212 : Keep h0 T208.heap [] := K201.trans K208 ((allS (Or.inr sz160) all0))
      have C213 : CHr Z own_EL s.vm h0 s.vm T208.heap := CHr.trans C202 (CHr.keep K208 (allS (Safe.ofNull hZ.alike E203 F205) all0) C202.1)
      have E214 : Exa Z T208.heap sb "java/lang/String" := E203.keep K208
      have V217 : Arv Z T208.heap ca k168 .char (2 : Int32) [(.int c0), (.int c1)] (.int (0 : Int32)) := V198.keep K208 (ninS (Ne.symm ne171) nin0)
      have hk218 := Nat.le_trans hk206 K208.1
      show GoOn p e below (T208.setTop (mkF m 53 #[.val (.int len), .val (.int c0), .val (.int c1)] [(.ref sb)])) _
      have Sr219 : StrIs Z T208.heap sb ([c0, c1] : List Int32) := ⟨E208, Fc208, hp207, (Nat.le_of_ble_eq_true rfl), t208, kb208, Fv208, Va208⟩
      refine GoOn.retH X208 hZ hS0 (hk218) hEL hh rfl C213 Bd.notSynchronized (v := some (.ref sb)) (fun h => by rw [Bd.returns] at h; cases h) (fun fs hr => retOut X208 hx Bd.returns rfl (Or.inr (Or.inr (Or.inr (Or.inr ⟨rfl, rfl, rfl⟩)))) (hb hby own_d62) hr) (by decide) (by decide) ?_
      exact ⟨_, rfl, N209, K212, by rw [if_neg hc74, if_neg hc108]; exact Sr219⟩
def QNone (h0 : Heap) (n0 : Nat) (v : Option Value) (h : Heap) (L : List Loc) : Prop := v = none ∧ Fr n0 L ∧ h = h0
set_option maxRecDepth 65536 in
set_option maxHeartbeats 40000000 in
theorem rmRec (l : Launch) (Z : State) (a0 : Array Value) (hw : ∀ d ∈ tables_1, d.before a0 Z = true) (a : Addr) (h0 : Heap) (n0 : Nat) (Z0 : n0 ≤ h0.size) :
    MetFree l (⟨"java/lang/Record", "<init>", "()V"⟩ : MethodName) (head1 [Jvm.Cond.code (⟨"java/lang/Record", "<init>", "()V"⟩ : MethodName) jdk_30_method_1_code 1 none] ({ frames := 1, cells := 0, slots := 0, locals := 12 } : Room)) (fun aa U => aa = #[(.ref a)] ∧ Z.Warmed39 U.vm ∧ U.heap = h0) (fun _ _ _ _ _ => True) (fun _ U o U' => ∃ v L, o = .returned v ∧ QNone h0 n0 v U'.heap L ∧ FrameEnd U o U' L ({ frames := 1, cells := 0, slots := 0, locals := 12 } : Room).cells ({ frames := 1, cells := 0, slots := 0, locals := 12 } : Room).slots) := by
  refine MetFree.of_bodySF (plainFor_of_name own_pn64) hisR ?_
  intro p e s m args below meth c s₁ Bd hml0 hP hK
  obtain ⟨rfl, hZ, hh⟩ := hP
  have hx := Bd.exec
  have hby := Bd.bytes
  have hml : c.maxLocals = 1 := hml0
  have hown : s.vm.findClass "java/lang/Record" = some m.cls := findClass_of_methodNamed Bd.named
  have hnm := (name_of_methodNamed Bd.named Bd.method).1
  have X0 : Stand p l e ({ frames := 1, cells := 0, slots := 0, locals := 12 } : Room) s m #[(.ref a)] below meth c s₁ [] 0 0 := Stand.of_body Bd
  have e0 : s₁.heap = h0 := by rw [← hh, Bd.state]; rfl
  have N0 := Fr.nil n0
  have K0 : Keep h0 h0 [] := Keep.refl _ _
  show GoOn p e below (s₁.setTop (entryFrame m #[(.ref a)] 1)) (PostN s (QNone h0 n0) ({ frames := 1, cells := 0, slots := 0, locals := 12 } : Room).cells ({ frames := 1, cells := 0, slots := 0, locals := 12 } : Room).slots)
  refine GoOn.step (fun tq kq => castTop (own_ef63 m a) kq) ?_
  show GoOn p e below (s₁.setTop (mkF m 0 #[.val (.ref a)] [])) _
  refine GoOn.step (fun tq kq => XS.aloadN X0.here hx rfl (hb hby own_d65) rfl rfl kq) ?_
  show GoOn p e below (s₁.setTop (mkF m 1 #[.val (.ref a)] [(.ref a)])) _
  obtain ⟨T220, X220, e220, st220⟩ := initO X0 hx hZ hown (hw _ (List.mem_of_getElem? (i := 58) rfl)) (hw _ (List.mem_of_getElem? (i := 26) rfl)) (hw _ (List.mem_of_getElem? (i := 27) rfl)) e0 (g := (mkF m 1 #[.val (.ref a)] [(.ref a)])) rfl (by rw [hml]; rfl) rfl (hb hby own_d66) (by decide) (W := 0) (by show 2 * 0 + _ ≤ _; exact Nat.le_of_eq rfl) (by decide)
  refine GoOn.step st220 ?_
  show GoOn p e below (T220.setTop (mkF m 4 #[.val (.ref a)] [])) _
  refine GoOn.ret X220 Bd.notSynchronized (v := none) (fun _ => rfl) (fun fs hr => X220.returnOut hx Bd.returns (hb hby own_d67) hr) (by decide) (by decide) ?_
  rw [e220]
  exact ⟨rfl, N0, rfl⟩
set_option maxRecDepth 65536 in
set_option maxHeartbeats 40000000 in
theorem rmReq (l : Launch) (Z : State) (a0 : Array Value) (hw : ∀ d ∈ tables_1, d.before a0 Z = true) (a b : Addr) (h0 : Heap) (n0 : Nat) (Z0 : n0 ≤ h0.size) :
    MetFree l (⟨"java/util/Objects", "requireNonNull", "(Ljava/lang/Object;Ljava/lang/String;)Ljava/lang/Object;"⟩ : MethodName) (head1 [Jvm.Cond.code (⟨"java/util/Objects", "requireNonNull", "(Ljava/lang/Object;Ljava/lang/String;)Ljava/lang/Object;"⟩ : MethodName) jdk_31_method_11_code 2 (some (.object "java/lang/Object"))] ({ frames := 0, cells := 0, slots := 0, locals := 0 } : Room)) (fun aa U => aa = #[(.ref a), (.ref b)] ∧ Z.Warmed39 U.vm ∧ U.heap = h0) (fun _ _ _ _ _ => True) (fun _ U o U' => ∃ v L, o = .returned v ∧ QSame (.ref a) h0 n0 v U'.heap L ∧ FrameEnd U o U' L ({ frames := 0, cells := 0, slots := 0, locals := 0 } : Room).cells ({ frames := 0, cells := 0, slots := 0, locals := 0 } : Room).slots) := by
  refine MetFree.of_bodySF (plainFor_of_name own_pn69) hisR ?_
  intro p e s m args below meth c s₁ Bd hml0 hP hK
  obtain ⟨rfl, hZ, hh⟩ := hP
  have hx := Bd.exec
  have hby := Bd.bytes
  have hml : c.maxLocals = 2 := hml0
  have hown : s.vm.findClass "java/util/Objects" = some m.cls := findClass_of_methodNamed Bd.named
  have hnm := (name_of_methodNamed Bd.named Bd.method).1
  have X0 : Stand p l e ({ frames := 0, cells := 0, slots := 0, locals := 0 } : Room) s m #[(.ref a), (.ref b)] below meth c s₁ [] 0 0 := Stand.of_body Bd
  have e0 : s₁.heap = h0 := by rw [← hh, Bd.state]; rfl
  have N0 := Fr.nil n0
  have K0 : Keep h0 h0 [] := Keep.refl _ _
  show GoOn p e below (s₁.setTop (entryFrame m #[(.ref a), (.ref b)] 2)) (PostN s (QSame (.ref a) h0 n0) ({ frames := 0, cells := 0, slots := 0, locals := 0 } : Room).cells ({ frames := 0, cells := 0, slots := 0, locals := 0 } : Room).slots)
  refine GoOn.step (fun tq kq => castTop (own_ef68 m a b) kq) ?_
  show GoOn p e below (s₁.setTop (mkF m 0 #[.val (.ref a), .val (.ref b)] [])) _
  refine GoOn.step (fun tq kq => XS.aloadN X0.here hx rfl (hb hby own_d70) rfl rfl kq) ?_
  show GoOn p e below (s₁.setTop (mkF m 1 #[.val (.ref a), .val (.ref b)] [(.ref a)])) _
  refine GoOn.step (fun tq kq => XS.ifnonnullYes X0.here hx rfl (pc0 := 1) (pc' := 13) rfl (hb hby own_d71) rfl (by decide) (by decide) kq) ?_
  show GoOn p e below (s₁.setTop (mkF m 13 #[.val (.ref a), .val (.ref b)] [])) _
  refine GoOn.step (fun tq kq => XS.aloadN X0.here hx rfl (hb hby own_d72) rfl rfl kq) ?_
  show GoOn p e below (s₁.setTop (mkF m 14 #[.val (.ref a), .val (.ref b)] [(.ref a)])) _
  refine GoOn.ret X0 Bd.notSynchronized (v := some (.ref a)) (fun h => by rw [Bd.returns] at h; cases h) (fun fs hr => retOut X0 hx Bd.returns rfl (Or.inr (Or.inr (Or.inr (Or.inr ⟨rfl, rfl, rfl⟩)))) (hb hby own_d73) hr) (by decide) (by decide) ?_
  rw [e0]
  exact ⟨rfl, N0, rfl⟩
def QACI (Z : State) (a b1 b2 : Addr) (h0 : Heap) (n0 : Nat) (v : Option Value) (h : Heap) (L : List Loc) : Prop := v = none ∧ Fr n0 L ∧ Keep h0 h [a] ∧ Exa Z h a "com/example/subsume/subsume/axioms/AtomicConcept" ∧ Fld Z h a "com/example/subsume/subsume/axioms/AtomicConcept" "name" "Ljava/lang/String;" (.ref b1) ∧ Fld Z h a "com/example/subsume/subsume/axioms/AtomicConcept" "kind" "Lcom/example/subsume/subsume/axioms/AtomicConcept$Kind;" (.ref b2)
set_option maxRecDepth 65536 in
set_option maxHeartbeats 40000000 in
theorem rmACI (l : Launch) (Z : State) (a0 : Array Value) (hw : ∀ d ∈ tables_1, d.before a0 Z = true) (a b1 b2 : Addr) (h0 : Heap) (n0 : Nat) (Z0 : n0 ≤ h0.size) (E0 : Exa Z h0 a "com/example/subsume/subsume/axioms/AtomicConcept") (F0name : Fld Z h0 a "com/example/subsume/subsume/axioms/AtomicConcept" "name" "Ljava/lang/String;" .null) (F0kind : Fld Z h0 a "com/example/subsume/subsume/axioms/AtomicConcept" "kind" "Lcom/example/subsume/subsume/axioms/AtomicConcept$Kind;" .null) (ga : n0 ≤ a) :
    MetFree l (⟨"com/example/subsume/subsume/axioms/AtomicConcept", "<init>", "(Ljava/lang/String;Lcom/example/subsume/subsume/axioms/AtomicConcept$Kind;)V"⟩ : MethodName) (head1 [Jvm.Cond.code (⟨"com/example/subsume/subsume/axioms/AtomicConcept", "<init>", "(Ljava/lang/String;Lcom/example/subsume/subsume/axioms/AtomicConcept$Kind;)V"⟩ : MethodName) prog_6_method_1_code 3 none] ({ frames := 2, cells := 4, slots := 40, locals := 28 } : Room)) (fun aa U => aa = #[(.ref a), (.ref b1), (.ref b2)] ∧ Z.Warmed39 U.vm ∧ U.heap = h0 ∧ CHv Z own_EL U.vm h0) (fun _ _ _ _ _ => True) (fun _ U o U' => ∃ v L, o = .returned v ∧ QACI Z a b1 b2 h0 n0 v U'.heap L ∧ CHr Z own_EL U.vm U.heap U'.vm U'.heap ∧ ReturnedEndW U o U' L ({ frames := 2, cells := 4, slots := 40, locals := 28 } : Room).cells ({ frames := 2, cells := 4, slots := 40, locals := 28 } : Room).slots) := by
  refine MetFree.of_bodySF (plainFor_of_name own_pn75) hisR ?_
  intro p e s m args below meth c s₁ Bd hml0 hP hK
  obtain ⟨rfl, hZ, hh, hCH⟩ := hP
  have hx := Bd.exec
  have hby := Bd.bytes
  have hml : c.maxLocals = 3 := hml0
  have hown : s.vm.findClass "com/example/subsume/subsume/axioms/AtomicConcept" = some m.cls := findClass_of_methodNamed Bd.named
  have hnm := (name_of_methodNamed Bd.named Bd.method).1
  have X0 : Stand p l e ({ frames := 2, cells := 4, slots := 40, locals := 28 } : Room) s m #[(.ref a), (.ref b1), (.ref b2)] below meth c s₁ [] 0 0 := Stand.of_body Bd
  have e0 : s₁.heap = h0 := by rw [← hh, Bd.state]; rfl
  have N0 := Fr.nil n0
  have K0 : Keep h0 h0 [] := Keep.refl _ _
  show GoOn p e below (s₁.setTop (entryFrame m #[(.ref a), (.ref b1), (.ref b2)] 3)) (PostH Z own_EL s (QACI Z a b1 b2 h0 n0) ({ frames := 2, cells := 4, slots := 40, locals := 28 } : Room).cells ({ frames := 2, cells := 4, slots := 40, locals := 28 } : Room).slots)
  refine GoOn.step (fun tq kq => castTop (own_ef74 m a b1 b2) kq) ?_
  have hS0 : s.Since s.vm h0.size := (State.WarmedH.refl s).since _
  have hk0 : h0.size ≤ h0.size := Nat.le_refl _
  replace X0 : Stand p l e ({ frames := 2, cells := 4, slots := 40, locals := 28 } : Room) (s.setVm s.vm) m #[(.ref a), (.ref b1), (.ref b2)] below meth c s₁ [] 0 0 := X0
  replace hZ : Z.Warmed39 (s.setVm s.vm).vm := hZ
  replace hown : (s.setVm s.vm).vm.findClass "com/example/subsume/subsume/axioms/AtomicConcept" = some m.cls := hown
  have C0 : CHr Z own_EL s.vm h0 s.vm h0 := CHr.refl hCH
  have hEL : EW Z a0 own_EL := own_EW hw
  have wS : ∀ d ∈ Bundle.stringAtoms, d.before a0 Z = true := fun d hd => hw d (own_sa d hd)
  show GoOn p e below (s₁.setTop (mkF m 0 #[.val (.ref a), .val (.ref b1), .val (.ref b2)] [])) _
  have K0a : Keep h0 h0 [a] := Keep.refl _ _
  refine GoOn.step (fun tq kq => XS.aloadN X0.here hx rfl (hb hby own_d76) rfl rfl kq) ?_
  show GoOn p e below (s₁.setTop (mkF m 1 #[.val (.ref a), .val (.ref b1), .val (.ref b2)] [(.ref a)])) _
  obtain ⟨_, _, ⟨T221, L221, k221, n221⟩, -, X221, ⟨Lc221, hQ221, l221, y221, z221⟩, st221⟩ := X0.specialBack hx (y := (⟨"java/lang/Record", "<init>", "()V"⟩ : MethodName)) rfl hown (mvT hZ (hw _ (List.mem_of_getElem? (i := 53) rfl))) (mvT hZ (hw _ (List.mem_of_getElem? (i := 54) rfl))) (mvT hZ (hw _ (List.mem_of_getElem? (i := 57) rfl))) (by decide) (backOf (W := 0) (rmRec l Z a0 hw a h0 n0 Z0) hZ (hw _ (List.mem_of_getElem? (i := 57) rfl)) (hw _ (List.mem_of_getElem? (i := 56) rfl)) (by decide) (by decide)) (g := (mkF m 1 #[.val (.ref a), .val (.ref b1), .val (.ref b2)] [(.ref a)])) rfl (by rw [hml]; rfl) (Steps.refl _) (a := a) (argsL := []) (rest := []) (lenOf own_pd78 rfl) rfl (by show 2 * 0 + _ ≤ _; exact Nat.le_of_eq rfl) (hb hby own_d77) (fun _ _ => ⟨rfl, e0, (by decide : 0 + 0 ≤ _), (by decide : 0 + 0 ≤ _)⟩)
  dsimp only [Pt.U, Pt.locs, Pt.cells, Pt.slots] at X221 l221 y221 z221 st221 hQ221
  subst l221 y221 z221
  obtain ⟨rfl, N221, e221⟩ := hQ221
  refine GoOn.trans st221 ?_
  have N222 := Fr.app N0 N221
  show GoOn p e below (T221.setTop (mkF m 4 #[.val (.ref a), .val (.ref b1), .val (.ref b2)] [])) _
  refine GoOn.step (fun tq kq => XS.aloadN X221.here hx rfl (hb hby own_d79) rfl rfl kq) ?_
  show GoOn p e below (T221.setTop (mkF m 5 #[.val (.ref a), .val (.ref b1), .val (.ref b2)] [(.ref b1)])) _
  obtain ⟨lt223, T223, h223, k1223, X223, e223, Ex223, hS223, hk223, hZ223, hown223, Cn223, Lt223, st223⟩ := ldcOH X221 hx hZ hown (hw _ (List.mem_of_getElem? (i := 59) rfl)) wS e221 hS0 hk0 hEL C0.1 (g := (mkF m 5 #[.val (.ref a), .val (.ref b1), .val (.ref b2)] [(.ref b1)])) rfl (hb hby own_d80) (n := 16) (by decide) (by decide) (by decide) (by decide)
  have Kx223 : Keep h0 h223 [] := (Keep.refl _ _).ext Ex223
  refine GoOn.step st223 ?_
  have E224 : Exa Z h223 a "com/example/subsume/subsume/axioms/AtomicConcept" := E0.keep Kx223
  have F225 : Fld Z h223 a "com/example/subsume/subsume/axioms/AtomicConcept" "name" "Ljava/lang/String;" .null := F0name.keep Kx223 nin0
  have F226 : Fld Z h223 a "com/example/subsume/subsume/axioms/AtomicConcept" "kind" "Lcom/example/subsume/subsume/axioms/AtomicConcept$Kind;" .null := F0kind.keep Kx223 nin0
  have Z227 : n0 ≤ h223.size := Nat.le_trans Z0 Kx223.1
  have C228 : CHr Z own_EL s.vm h0 T223.vm h223 := CHr.trans C0 Cn223
  have K229 : Keep h0 h223 [a] := K0a.trans Kx223 all0
  show GoOn p e below (T223.setTop (mkF m 7 #[.val (.ref a), .val (.ref b1), .val (.ref b2)] [(.ref lt223), (.ref b1)])) _
  obtain ⟨_, _, ⟨T230, L230, k230, n230⟩, -, X230, ⟨Lc230, hQ230, l230, y230, z230⟩, st230⟩ := Jvm.LawKit.callS X223 hx (y := (⟨"java/util/Objects", "requireNonNull", "(Ljava/lang/Object;Ljava/lang/String;)Ljava/lang/Object;"⟩ : MethodName)) hown223 (mvT hZ223 (hw _ (List.mem_of_getElem? (i := 60) rfl))) (mvT hZ223 (hw _ (List.mem_of_getElem? (i := 61) rfl))) (mvT hZ223 (hw _ (List.mem_of_getElem? (i := 62) rfl))) (mvT hZ223 (hw _ (List.mem_of_getElem? (i := 63) rfl))) (by decide) (backOf (W := 0) (rmReq l Z a0 hw b1 lt223 h223 n0 Z227) hZ223 (hw _ (List.mem_of_getElem? (i := 63) rfl)) (hw _ (List.mem_of_getElem? (i := 62) rfl)) (by decide) (by decide)) (g := (mkF m 7 #[.val (.ref a), .val (.ref b1), .val (.ref b2)] [(.ref lt223), (.ref b1)])) rfl (by rw [hml]; rfl) (argsL := [(.ref b1), (.ref lt223)]) (rest := []) (lenOf own_pd81 rfl) rfl (by show 2 * 0 + _ ≤ _; exact Nat.le_of_eq rfl) (hb hby own_d82) (fun _ _ => ⟨rfl, e223, (by decide : 2 + 0 ≤ _), (by decide : 20 + 0 ≤ _)⟩)
  dsimp only [Pt.U, Pt.locs, Pt.cells, Pt.slots] at X230 l230 y230 z230 st230 hQ230
  subst l230 y230 z230
  obtain ⟨rfl, N230, e230⟩ := hQ230
  refine GoOn.step st230 ?_
  have N231 := Fr.app N222 N230
  show GoOn p e below (T230.setTop (mkF m 10 #[.val (.ref a), .val (.ref b1), .val (.ref b2)] [(.ref b1)])) _
  refine GoOn.step (fun tq kq => XS.pop X230.here hx rfl (hb hby own_d83) rfl rfl kq) ?_
  show GoOn p e below (T230.setTop (mkF m 11 #[.val (.ref a), .val (.ref b1), .val (.ref b2)] [])) _
  refine GoOn.step (fun tq kq => XS.aloadN X230.here hx rfl (hb hby own_d84) rfl rfl kq) ?_
  show GoOn p e below (T230.setTop (mkF m 12 #[.val (.ref a), .val (.ref b1), .val (.ref b2)] [(.ref b2)])) _
  obtain ⟨lt232, T232, h232, k1232, X232, e232, Ex232, hS232, hk232, hZ232, hown232, Cn232, Lt232, st232⟩ := ldcOH X230 hx hZ223 hown223 (hw _ (List.mem_of_getElem? (i := 64) rfl)) wS e230 hS223 hk223 hEL C228.1 (g := (mkF m 12 #[.val (.ref a), .val (.ref b1), .val (.ref b2)] [(.ref b2)])) rfl (hb hby own_d85) (n := 16) (by decide) (by decide) (by decide) (by decide)
  have Kx232 : Keep h223 h232 [] := (Keep.refl _ _).ext Ex232
  refine GoOn.step st232 ?_
  have E233 : Exa Z h232 a "com/example/subsume/subsume/axioms/AtomicConcept" := E224.keep Kx232
  have F234 : Fld Z h232 a "com/example/subsume/subsume/axioms/AtomicConcept" "name" "Ljava/lang/String;" .null := F225.keep Kx232 nin0
  have F235 : Fld Z h232 a "com/example/subsume/subsume/axioms/AtomicConcept" "kind" "Lcom/example/subsume/subsume/axioms/AtomicConcept$Kind;" .null := F226.keep Kx232 nin0
  have Z236 : n0 ≤ h232.size := Nat.le_trans Z227 Kx232.1
  have C237 : CHr Z own_EL s.vm h0 T232.vm h232 := CHr.trans C228 Cn232
  have K238 : Keep h0 h232 [a] := K229.trans Kx232 all0
  show GoOn p e below (T232.setTop (mkF m 14 #[.val (.ref a), .val (.ref b1), .val (.ref b2)] [(.ref lt232), (.ref b2)])) _
  obtain ⟨_, _, ⟨T239, L239, k239, n239⟩, -, X239, ⟨Lc239, hQ239, l239, y239, z239⟩, st239⟩ := Jvm.LawKit.callS X232 hx (y := (⟨"java/util/Objects", "requireNonNull", "(Ljava/lang/Object;Ljava/lang/String;)Ljava/lang/Object;"⟩ : MethodName)) hown232 (mvT hZ232 (hw _ (List.mem_of_getElem? (i := 60) rfl))) (mvT hZ232 (hw _ (List.mem_of_getElem? (i := 61) rfl))) (mvT hZ232 (hw _ (List.mem_of_getElem? (i := 62) rfl))) (mvT hZ232 (hw _ (List.mem_of_getElem? (i := 63) rfl))) (by decide) (backOf (W := 0) (rmReq l Z a0 hw b2 lt232 h232 n0 Z236) hZ232 (hw _ (List.mem_of_getElem? (i := 63) rfl)) (hw _ (List.mem_of_getElem? (i := 62) rfl)) (by decide) (by decide)) (g := (mkF m 14 #[.val (.ref a), .val (.ref b1), .val (.ref b2)] [(.ref lt232), (.ref b2)])) rfl (by rw [hml]; rfl) (argsL := [(.ref b2), (.ref lt232)]) (rest := []) (lenOf own_pd81 rfl) rfl (by show 2 * 0 + _ ≤ _; exact Nat.le_of_eq rfl) (hb hby own_d86) (fun _ _ => ⟨rfl, e232, (by decide : 4 + 0 ≤ _), (by decide : 40 + 0 ≤ _)⟩)
  dsimp only [Pt.U, Pt.locs, Pt.cells, Pt.slots] at X239 l239 y239 z239 st239 hQ239
  subst l239 y239 z239
  obtain ⟨rfl, N239, e239⟩ := hQ239
  refine GoOn.step st239 ?_
  have N240 := Fr.app N231 N239
  show GoOn p e below (T239.setTop (mkF m 17 #[.val (.ref a), .val (.ref b1), .val (.ref b2)] [(.ref b2)])) _
  refine GoOn.step (fun tq kq => XS.pop X239.here hx rfl (hb hby own_d87) rfl rfl kq) ?_
  show GoOn p e below (T239.setTop (mkF m 18 #[.val (.ref a), .val (.ref b1), .val (.ref b2)] [])) _
  refine GoOn.step (fun tq kq => XS.aloadN X239.here hx rfl (hb hby own_d88) rfl rfl kq) ?_
  show GoOn p e below (T239.setTop (mkF m 19 #[.val (.ref a), .val (.ref b1), .val (.ref b2)] [(.ref a)])) _
  refine GoOn.step (fun tq kq => XS.aloadN X239.here hx rfl (hb hby own_d89) rfl rfl kq) ?_
  show GoOn p e below (T239.setTop (mkF m 20 #[.val (.ref a), .val (.ref b1), .val (.ref b2)] [(.ref b1), (.ref a)])) _
  obtain ⟨T241, h241, X241, e241, W241, st241⟩ := putF X239 hx hZ232 hown232 (host := "") (Or.inl (hw _ (List.mem_of_getElem? (i := 65) rfl))) Via.refl e239 F234 E233 (Or.inr ⟨(hw _ (List.mem_of_getElem? (i := 66) rfl)), rfl, hnm⟩) (hw _ (List.mem_of_getElem? (i := 48) rfl)) (ty := (.object "java/lang/String")) (by decide) rfl rfl (g := (mkF m 20 #[.val (.ref a), .val (.ref b1), .val (.ref b2)] [(.ref b1), (.ref a)])) rfl rfl (hb hby own_d90)
  have N242 := Fr.snoc X241 N240 ga
  have Kx241 : Keep h232 h241 [a] := Keep.of_wr W241
  have F243 : Fld Z h241 a "com/example/subsume/subsume/axioms/AtomicConcept" "name" "Ljava/lang/String;" (.ref b1) := F234.same W241
  have F244 : Fld Z h241 a "com/example/subsume/subsume/axioms/AtomicConcept" "kind" "Lcom/example/subsume/subsume/axioms/AtomicConcept$Kind;" .null := F235.other W241 (Or.inr (slot_ne (a0 := a0) (Or.inr (hw _ (List.mem_of_getElem? (i := 68) rfl))) (Or.inr (hw _ (List.mem_of_getElem? (i := 66) rfl))) (by decide) (t := (.object "com/example/subsume/subsume/axioms/AtomicConcept$Kind")) (t' := (.object "java/lang/String")) (by decide) (by decide)))
  refine GoOn.step st241 ?_
  have E245 : Exa Z h241 a "com/example/subsume/subsume/axioms/AtomicConcept" := E233.keep Kx241
  have Z248 : n0 ≤ h241.size := Nat.le_trans Z236 Kx241.1
  have C249 : CHr Z own_EL s.vm h0 T232.vm h241 := CHr.trans C237 (CHr.keep Kx241 (allS (Safe.exa hZ232.alike E233 (by decide) (by decide)) all0) C237.1)
  have K250 : Keep h0 h241 [a] := K238.trans Kx241 ((allS (Or.inl (by simp)) all0))
  have hk251 := Nat.le_trans hk232 Kx241.1
  show GoOn p e below (T241.setTop (mkF m 23 #[.val (.ref a), .val (.ref b1), .val (.ref b2)] [])) _
  refine GoOn.step (fun tq kq => XS.aloadN X241.here hx rfl (hb hby own_d91) rfl rfl kq) ?_
  show GoOn p e below (T241.setTop (mkF m 24 #[.val (.ref a), .val (.ref b1), .val (.ref b2)] [(.ref a)])) _
  refine GoOn.step (fun tq kq => XS.aloadN X241.here hx rfl (hb hby own_d92) rfl rfl kq) ?_
  show GoOn p e below (T241.setTop (mkF m 25 #[.val (.ref a), .val (.ref b1), .val (.ref b2)] [(.ref b2), (.ref a)])) _
  obtain ⟨T252, h252, X252, e252, W252, st252⟩ := putF X241 hx hZ232 hown232 (host := "") (Or.inl (hw _ (List.mem_of_getElem? (i := 67) rfl))) Via.refl e241 F244 E245 (Or.inr ⟨(hw _ (List.mem_of_getElem? (i := 68) rfl)), rfl, hnm⟩) (hw _ (List.mem_of_getElem? (i := 48) rfl)) (ty := (.object "com/example/subsume/subsume/axioms/AtomicConcept$Kind")) (by decide) rfl rfl (g := (mkF m 25 #[.val (.ref a), .val (.ref b1), .val (.ref b2)] [(.ref b2), (.ref a)])) rfl rfl (hb hby own_d93)
  have N253 := Fr.snoc X252 N242 ga
  have Kx252 : Keep h241 h252 [a] := Keep.of_wr W252
  have F254 : Fld Z h252 a "com/example/subsume/subsume/axioms/AtomicConcept" "kind" "Lcom/example/subsume/subsume/axioms/AtomicConcept$Kind;" (.ref b2) := F244.same W252
  have F255 : Fld Z h252 a "com/example/subsume/subsume/axioms/AtomicConcept" "name" "Ljava/lang/String;" (.ref b1) := F243.other W252 (Or.inr (slot_ne (a0 := a0) (Or.inr (hw _ (List.mem_of_getElem? (i := 66) rfl))) (Or.inr (hw _ (List.mem_of_getElem? (i := 68) rfl))) (by decide) (t := (.object "java/lang/String")) (t' := (.object "com/example/subsume/subsume/axioms/AtomicConcept$Kind")) (by decide) (by decide)))
  refine GoOn.step st252 ?_
  have E256 : Exa Z h252 a "com/example/subsume/subsume/axioms/AtomicConcept" := E245.keep Kx252
  have Z257 : n0 ≤ h252.size := Nat.le_trans Z248 Kx252.1
  have C258 : CHr Z own_EL s.vm h0 T232.vm h252 := CHr.trans C249 (CHr.keep Kx252 (allS (Safe.exa hZ232.alike E245 (by decide) (by decide)) all0) C249.1)
  have K259 : Keep h0 h252 [a] := K250.trans Kx252 ((allS (Or.inl (by simp)) all0))
  have hk262 := Nat.le_trans hk251 Kx252.1
  show GoOn p e below (T252.setTop (mkF m 28 #[.val (.ref a), .val (.ref b1), .val (.ref b2)] [])) _
  refine GoOn.retH X252 hZ232 hS232 (hk262) hEL hh e252 C258 Bd.notSynchronized (v := none) (fun _ => rfl) (fun fs hr => X252.returnOut hx Bd.returns (hb hby own_d94) hr) (by decide) (by decide) ?_
  exact ⟨rfl, N253, K259, E256, F255, F254⟩
set_option maxRecDepth 65536 in
set_option maxHeartbeats 40000000 in
theorem rmTE0 (l : Launch) (Z : State) (a0 : Array Value) (hw : ∀ d ∈ tables_1, d.before a0 Z = true) (a : Addr) (h0 : Heap) (n0 : Nat) (Z0 : n0 ≤ h0.size) :
    MetFree l (⟨"com/example/subsume/subsume/axioms/AtomicConcept", "equals", "(Ljava/lang/Object;)Z"⟩ : MethodName) (head1 [Jvm.Cond.code (⟨"com/example/subsume/subsume/axioms/AtomicConcept", "equals", "(Ljava/lang/Object;)Z"⟩ : MethodName) prog_6_method_7_code 3 (some .boolean)] ({ frames := 0, cells := 0, slots := 0, locals := 0 } : Room)) (fun aa U => aa = #[(.ref a), .null] ∧ Z.Warmed39 U.vm ∧ U.heap = h0) (fun _ _ _ _ _ => True) (fun _ U o U' => ∃ v L, o = .returned v ∧ QSame (.int 0) h0 n0 v U'.heap L ∧ FrameEnd U o U' L ({ frames := 0, cells := 0, slots := 0, locals := 0 } : Room).cells ({ frames := 0, cells := 0, slots := 0, locals := 0 } : Room).slots) := by
  refine MetFree.of_bodySF (plainFor_of_name own_pn75) hisR ?_
  intro p e s m args below meth c s₁ Bd hml0 hP hK
  obtain ⟨rfl, hZ, hh⟩ := hP
  have hx := Bd.exec
  have hby := Bd.bytes
  have hml : c.maxLocals = 3 := hml0
  have hown : s.vm.findClass "com/example/subsume/subsume/axioms/AtomicConcept" = some m.cls := findClass_of_methodNamed Bd.named
  have hnm := (name_of_methodNamed Bd.named Bd.method).1
  have X0 : Stand p l e ({ frames := 0, cells := 0, slots := 0, locals := 0 } : Room) s m #[(.ref a), .null] below meth c s₁ [] 0 0 := Stand.of_body Bd
  have e0 : s₁.heap = h0 := by rw [← hh, Bd.state]; rfl
  have N0 := Fr.nil n0
  have K0 : Keep h0 h0 [] := Keep.refl _ _
  show GoOn p e below (s₁.setTop (entryFrame m #[(.ref a), .null] 3)) (PostN s (QSame (.int 0) h0 n0) ({ frames := 0, cells := 0, slots := 0, locals := 0 } : Room).cells ({ frames := 0, cells := 0, slots := 0, locals := 0 } : Room).slots)
  refine GoOn.step (fun tq kq => castTop (own_ef95 m a) kq) ?_
  show GoOn p e below (s₁.setTop (mkF m 0 #[.val (.ref a), .val .null, .unset] [])) _
  refine GoOn.step (fun tq kq => XS.aloadN X0.here hx rfl (hb hby own_d96) rfl rfl kq) ?_
  show GoOn p e below (s₁.setTop (mkF m 1 #[.val (.ref a), .val .null, .unset] [.null])) _
  refine GoOn.step (fun tq kq => X0.instanceofNull hx (g := (mkF m 1 #[.val (.ref a), .val .null, .unset] [.null])) rfl rfl (hb hby own_d97) _ kq) ?_
  show GoOn p e below (s₁.setTop (mkF m 4 #[.val (.ref a), .val .null, .unset] [(.int (0 : Int32))])) _
  refine GoOn.step (fun tq kq => XS.ifYes X0.here hx rfl (pc0 := 4) (pc' := 41) rfl (hb hby own_d98) rfl ((if0 _ _).trans (teq rfl).1) (by decide) (by decide) kq) ?_
  show GoOn p e below (s₁.setTop (mkF m 41 #[.val (.ref a), .val .null, .unset] [])) _
  refine GoOn.step (fun tq kq => XS.iconst X0.here hx rfl (hb hby own_d99) kq) ?_
  show GoOn p e below (s₁.setTop (mkF m 42 #[.val (.ref a), .val .null, .unset] [(.int (0 : Int32))])) _
  refine GoOn.ret X0 Bd.notSynchronized (v := some (.int (nar .boolean (0 : Int32)))) (fun h => by rw [Bd.returns] at h; cases h) (fun fs hr => retN X0 hx (t := .boolean) Bd.returns (by simp) (hb hby own_d100) hr) (by decide) (by decide) ?_
  rw [e0]
  exact ⟨rfl, N0, rfl⟩
set_option maxRecDepth 65536 in
set_option maxHeartbeats 40000000 in
theorem rmTE1 (l : Launch) (Z : State) (a0 : Array Value) (hw : ∀ d ∈ tables_1, d.before a0 Z = true) (a b : Addr) (h0 : Heap) (n0 : Nat) (Z0 : n0 ≤ h0.size) (EB : Exa Z h0 b "java/lang/String") :
    MetFree l (⟨"com/example/subsume/subsume/axioms/AtomicConcept", "equals", "(Ljava/lang/Object;)Z"⟩ : MethodName) (head1 [Jvm.Cond.code (⟨"com/example/subsume/subsume/axioms/AtomicConcept", "equals", "(Ljava/lang/Object;)Z"⟩ : MethodName) prog_6_method_7_code 3 (some .boolean)] ({ frames := 0, cells := 0, slots := 0, locals := 0 } : Room)) (fun aa U => aa = #[(.ref a), (.ref b)] ∧ Z.Warmed39 U.vm ∧ U.heap = h0) (fun _ _ _ _ _ => True) (fun _ U o U' => ∃ v L, o = .returned v ∧ QSame (.int 0) h0 n0 v U'.heap L ∧ FrameEnd U o U' L ({ frames := 0, cells := 0, slots := 0, locals := 0 } : Room).cells ({ frames := 0, cells := 0, slots := 0, locals := 0 } : Room).slots) := by
  refine MetFree.of_bodySF (plainFor_of_name own_pn75) hisR ?_
  intro p e s m args below meth c s₁ Bd hml0 hP hK
  obtain ⟨rfl, hZ, hh⟩ := hP
  have hx := Bd.exec
  have hby := Bd.bytes
  have hml : c.maxLocals = 3 := hml0
  have hown : s.vm.findClass "com/example/subsume/subsume/axioms/AtomicConcept" = some m.cls := findClass_of_methodNamed Bd.named
  have hnm := (name_of_methodNamed Bd.named Bd.method).1
  have X0 : Stand p l e ({ frames := 0, cells := 0, slots := 0, locals := 0 } : Room) s m #[(.ref a), (.ref b)] below meth c s₁ [] 0 0 := Stand.of_body Bd
  have e0 : s₁.heap = h0 := by rw [← hh, Bd.state]; rfl
  have N0 := Fr.nil n0
  have K0 : Keep h0 h0 [] := Keep.refl _ _
  show GoOn p e below (s₁.setTop (entryFrame m #[(.ref a), (.ref b)] 3)) (PostN s (QSame (.int 0) h0 n0) ({ frames := 0, cells := 0, slots := 0, locals := 0 } : Room).cells ({ frames := 0, cells := 0, slots := 0, locals := 0 } : Room).slots)
  refine GoOn.step (fun tq kq => castTop (own_ef101 m a b) kq) ?_
  show GoOn p e below (s₁.setTop (mkF m 0 #[.val (.ref a), .val (.ref b), .unset] [])) _
  refine GoOn.step (fun tq kq => XS.aloadN X0.here hx rfl (hb hby own_d96) rfl rfl kq) ?_
  show GoOn p e below (s₁.setTop (mkF m 1 #[.val (.ref a), .val (.ref b), .unset] [(.ref b)])) _
  obtain ⟨T264, X264, e264, st264⟩ := instNo X0 hx hZ hown (hw _ (List.mem_of_getElem? (i := 74) rfl)) e0 EB (own_noinst (hw _ (List.mem_of_getElem? (i := 86) rfl)) (hw _ (List.mem_of_getElem? (i := 87) rfl)) (hw _ (List.mem_of_getElem? (i := 48) rfl)) (by decide) (by decide)) (g := (mkF m 1 #[.val (.ref a), .val (.ref b), .unset] [(.ref b)])) rfl rfl (hb hby own_d97)
  refine GoOn.step st264 ?_
  show GoOn p e below (T264.setTop (mkF m 4 #[.val (.ref a), .val (.ref b), .unset] [(.int (0 : Int32))])) _
  refine GoOn.step (fun tq kq => XS.ifYes X264.here hx rfl (pc0 := 4) (pc' := 41) rfl (hb hby own_d98) rfl ((if0 _ _).trans (teq rfl).1) (by decide) (by decide) kq) ?_
  show GoOn p e below (T264.setTop (mkF m 41 #[.val (.ref a), .val (.ref b), .unset] [])) _
  refine GoOn.step (fun tq kq => XS.iconst X264.here hx rfl (hb hby own_d99) kq) ?_
  show GoOn p e below (T264.setTop (mkF m 42 #[.val (.ref a), .val (.ref b), .unset] [(.int (0 : Int32))])) _
  refine GoOn.ret X264 Bd.notSynchronized (v := some (.int (nar .boolean (0 : Int32)))) (fun h => by rw [Bd.returns] at h; cases h) (fun fs hr => retN X264 hx (t := .boolean) Bd.returns (by simp) (hb hby own_d100) hr) (by decide) (by decide) ?_
  rw [e264]
  exact ⟨rfl, N0, rfl⟩
set_option maxRecDepth 65536 in
set_option maxHeartbeats 40000000 in
theorem rmTE2 (l : Launch) (Z : State) (a0 : Array Value) (hw : ∀ d ∈ tables_1, d.before a0 Z = true) (a b n1 k1 n2 k2 : Addr) (cs es : List Int32) (G1 : Int32) (h0 : Heap) (n0 : Nat) (Z0 : n0 ≤ h0.size) (SC : Sta Z Z.heap "java/lang/String" "COMPACT_STRINGS" "Z" (.int G1)) (PC : ¬ G1 = (0 : Int32)) (EB : Exa Z h0 b "com/example/subsume/subsume/axioms/AtomicConcept") (Fan1 : Fld Z h0 a "com/example/subsume/subsume/axioms/AtomicConcept" "name" "Ljava/lang/String;" (.ref n1)) (Fak1 : Fld Z h0 a "com/example/subsume/subsume/axioms/AtomicConcept" "kind" "Lcom/example/subsume/subsume/axioms/AtomicConcept$Kind;" (.ref k1)) (Fbn2 : Fld Z h0 b "com/example/subsume/subsume/axioms/AtomicConcept" "name" "Ljava/lang/String;" (.ref n2)) (Fbk2 : Fld Z h0 b "com/example/subsume/subsume/axioms/AtomicConcept" "kind" "Lcom/example/subsume/subsume/axioms/AtomicConcept$Kind;" (.ref k2)) (S1 : StrIs Z h0 n1 cs) (S3 : StrIs Z h0 n2 es) (O0 : Old Z n0 h0) :
    MetFree l (⟨"com/example/subsume/subsume/axioms/AtomicConcept", "equals", "(Ljava/lang/Object;)Z"⟩ : MethodName) (head1 [Jvm.Cond.code (⟨"com/example/subsume/subsume/axioms/AtomicConcept", "equals", "(Ljava/lang/Object;)Z"⟩ : MethodName) prog_6_method_7_code 3 (some .boolean)] ({ frames := 2, cells := 0, slots := 0, locals := 28 } : Room)) (fun aa U => aa = #[(.ref a), (.ref b)] ∧ Z.Warmed39 U.vm ∧ U.heap = h0) (fun _ _ _ _ _ => True) (fun _ U o U' => ∃ v L, o = .returned v ∧ QSame (.int (if cs = es ∧ k1 = k2 then 1 else 0)) h0 n0 v U'.heap L ∧ FrameEnd U o U' L ({ frames := 2, cells := 0, slots := 0, locals := 28 } : Room).cells ({ frames := 2, cells := 0, slots := 0, locals := 28 } : Room).slots) := by
  refine MetFree.of_bodySF (plainFor_of_name own_pn75) hisR ?_
  intro p e s m args below meth c s₁ Bd hml0 hP hK
  obtain ⟨rfl, hZ, hh⟩ := hP
  have hx := Bd.exec
  have hby := Bd.bytes
  have hml : c.maxLocals = 3 := hml0
  have hown : s.vm.findClass "com/example/subsume/subsume/axioms/AtomicConcept" = some m.cls := findClass_of_methodNamed Bd.named
  have hnm := (name_of_methodNamed Bd.named Bd.method).1
  have X0 : Stand p l e ({ frames := 2, cells := 0, slots := 0, locals := 28 } : Room) s m #[(.ref a), (.ref b)] below meth c s₁ [] 0 0 := Stand.of_body Bd
  have e0 : s₁.heap = h0 := by rw [← hh, Bd.state]; rfl
  have N0 := Fr.nil n0
  have K0 : Keep h0 h0 [] := Keep.refl _ _
  show GoOn p e below (s₁.setTop (entryFrame m #[(.ref a), (.ref b)] 3)) (PostN s (QSame (.int (if cs = es ∧ k1 = k2 then 1 else 0)) h0 n0) ({ frames := 2, cells := 0, slots := 0, locals := 28 } : Room).cells ({ frames := 2, cells := 0, slots := 0, locals := 28 } : Room).slots)
  refine GoOn.step (fun tq kq => castTop (own_ef101 m a b) kq) ?_
  show GoOn p e below (s₁.setTop (mkF m 0 #[.val (.ref a), .val (.ref b), .unset] [])) _
  have hws : ∀ d ∈ StrChars.Road.wordsEq, d.before a0 Z = true := fun d hd => hw d ((by decide +kernel : ∀ d ∈ StrChars.Road.wordsEq, d ∈ tables_1) d hd)
  have heq := hws
  refine GoOn.step (fun tq kq => XS.aloadN X0.here hx rfl (hb hby own_d96) rfl rfl kq) ?_
  show GoOn p e below (s₁.setTop (mkF m 1 #[.val (.ref a), .val (.ref b), .unset] [(.ref b)])) _
  obtain ⟨T265, X265, e265, st265⟩ := instY X0 hx hZ hown (hw _ (List.mem_of_getElem? (i := 74) rfl)) e0 (Ins.self EB) (g := (mkF m 1 #[.val (.ref a), .val (.ref b), .unset] [(.ref b)])) rfl rfl (hb hby own_d97)
  refine GoOn.step st265 ?_
  show GoOn p e below (T265.setTop (mkF m 4 #[.val (.ref a), .val (.ref b), .unset] [(.int (1 : Int32))])) _
  refine GoOn.step (fun tq kq => XS.ifNo X265.here hx rfl (hb hby own_d98) rfl ((if0 _ _).trans (feq (by decide)).1) kq) ?_
  show GoOn p e below (T265.setTop (mkF m 7 #[.val (.ref a), .val (.ref b), .unset] [])) _
  refine GoOn.step (fun tq kq => XS.aloadN X265.here hx rfl (hb hby own_d102) rfl rfl kq) ?_
  show GoOn p e below (T265.setTop (mkF m 8 #[.val (.ref a), .val (.ref b), .unset] [(.ref b)])) _
  obtain ⟨T266, X266, e266, st266⟩ := castY X265 hx hZ hown (hw _ (List.mem_of_getElem? (i := 74) rfl)) e265 (Ins.self EB) (g := (mkF m 8 #[.val (.ref a), .val (.ref b), .unset] [(.ref b)])) rfl rfl (hb hby own_d103)
  refine GoOn.step st266 ?_
  show GoOn p e below (T266.setTop (mkF m 11 #[.val (.ref a), .val (.ref b), .unset] [(.ref b)])) _
  refine GoOn.step (fun tq kq => XS.astoreN X266.here hx rfl (hb hby own_d104) rfl rfl (l' := #[.val (.ref a), .val (.ref b), .val (.ref b)]) rfl kq) ?_
  show GoOn p e below (T266.setTop (mkF m 12 #[.val (.ref a), .val (.ref b), .val (.ref b)] [])) _
  refine GoOn.step (fun tq kq => XS.aloadN X266.here hx rfl (hb hby own_d105) rfl rfl kq) ?_
  show GoOn p e below (T266.setTop (mkF m 13 #[.val (.ref a), .val (.ref b), .val (.ref b)] [(.ref a)])) _
  obtain ⟨T267, X267, e267, st267⟩ := getF X266 hx hZ hown (host := "") (Or.inl (hw _ (List.mem_of_getElem? (i := 65) rfl))) Via.refl e266 Fan1 (g := (mkF m 13 #[.val (.ref a), .val (.ref b), .val (.ref b)] [(.ref a)])) rfl rfl (hb hby own_d106)
  refine GoOn.step st267 ?_
  show GoOn p e below (T267.setTop (mkF m 16 #[.val (.ref a), .val (.ref b), .val (.ref b)] [(.ref n1)])) _
  refine GoOn.step (fun tq kq => XS.aloadN X267.here hx rfl (hb hby own_d107) rfl rfl kq) ?_
  show GoOn p e below (T267.setTop (mkF m 17 #[.val (.ref a), .val (.ref b), .val (.ref b)] [(.ref b), (.ref n1)])) _
  obtain ⟨T268, X268, e268, st268⟩ := getF X267 hx hZ hown (host := "") (Or.inl (hw _ (List.mem_of_getElem? (i := 65) rfl))) Via.refl e267 Fbn2 (g := (mkF m 17 #[.val (.ref a), .val (.ref b), .val (.ref b)] [(.ref b), (.ref n1)])) rfl rfl (hb hby own_d108)
  refine GoOn.step st268 ?_
  show GoOn p e below (T268.setTop (mkF m 20 #[.val (.ref a), .val (.ref b), .val (.ref b)] [(.ref n2), (.ref n1)])) _
  obtain ⟨cqc270, kqc270, qac270, qbc270, qcc270⟩ := isOf hZ e268 S1.1
  obtain ⟨_, _, ⟨T269, L269, k269, n269⟩, -, X269, ⟨Lc269, hQ269, l269, y269, z269⟩, st269⟩ := X268.virtualBack hx (y := (⟨"java/lang/String", "equals", "(Ljava/lang/Object;)Z"⟩ : MethodName)) (z := (⟨"java/lang/String", "equals", "(Ljava/lang/Object;)Z"⟩ : MethodName)) hown (mvT hZ (hw _ (List.mem_of_getElem? (i := 76) rfl))) (mvT hZ (hw _ (List.mem_of_getElem? (i := 77) rfl))) (notFace_of_selects (args := #[]) (mvT hZ (hw _ (List.mem_of_getElem? (i := 79) rfl)))) (mvT hZ (hw _ (List.mem_of_getElem? (i := 79) rfl))) (mvT hZ (hw _ (List.mem_of_getElem? (i := 78) rfl))) (by decide) (own_eqS (n0 := n0) (W := 0) hZ heq (kI := 4) (hw _ (List.mem_of_getElem? (i := 15) rfl)) S1 S3 (SC.ext O0.2) PC (by decide) (by decide)) qac270 qcc270 (g := (mkF m 20 #[.val (.ref a), .val (.ref b), .val (.ref b)] [(.ref n2), (.ref n1)])) rfl (by rw [hml]; rfl) (Steps.refl _) (argsL := [(.ref n2)]) (rest := []) (lenOf own_pd109 rfl) rfl (by show 2 * 0 + _ ≤ _; exact Nat.le_of_eq rfl) (hb hby own_d110) (fun _ _ => ⟨rfl, e268, (by decide : 0 + 0 ≤ _), (by decide : 0 + 0 ≤ _)⟩)
  dsimp only [Pt.U, Pt.locs, Pt.cells, Pt.slots] at X269 l269 y269 z269 st269 hQ269
  subst l269 y269 z269
  obtain ⟨rfl, N269, e269⟩ := hQ269
  refine GoOn.trans st269 ?_
  have N271 := Fr.app N0 N269
  show GoOn p e below (T269.setTop (mkF m 23 #[.val (.ref a), .val (.ref b), .val (.ref b)] [(.int (if cs = es then 1 else 0))])) _
  by_cases hc272 : cs = es
  · skip
    refine GoOn.step (fun tq kq => XS.ifNo X269.here hx rfl (hb hby own_d111) rfl ((if0 _ _).trans (feq (by rw [if_pos hc272]; decide)).1) kq) ?_
    show GoOn p e below (T269.setTop (mkF m 26 #[.val (.ref a), .val (.ref b), .val (.ref b)] [])) _
    refine GoOn.step (fun tq kq => XS.aloadN X269.here hx rfl (hb hby own_d112) rfl rfl kq) ?_
    show GoOn p e below (T269.setTop (mkF m 27 #[.val (.ref a), .val (.ref b), .val (.ref b)] [(.ref a)])) _
    obtain ⟨T273, X273, e273, st273⟩ := getF X269 hx hZ hown (host := "") (Or.inl (hw _ (List.mem_of_getElem? (i := 67) rfl))) Via.refl e269 Fak1 (g := (mkF m 27 #[.val (.ref a), .val (.ref b), .val (.ref b)] [(.ref a)])) rfl rfl (hb hby own_d113)
    refine GoOn.step st273 ?_
    show GoOn p e below (T273.setTop (mkF m 30 #[.val (.ref a), .val (.ref b), .val (.ref b)] [(.ref k1)])) _
    refine GoOn.step (fun tq kq => XS.aloadN X273.here hx rfl (hb hby own_d114) rfl rfl kq) ?_
    show GoOn p e below (T273.setTop (mkF m 31 #[.val (.ref a), .val (.ref b), .val (.ref b)] [(.ref b), (.ref k1)])) _
    obtain ⟨T274, X274, e274, st274⟩ := getF X273 hx hZ hown (host := "") (Or.inl (hw _ (List.mem_of_getElem? (i := 67) rfl))) Via.refl e273 Fbk2 (g := (mkF m 31 #[.val (.ref a), .val (.ref b), .val (.ref b)] [(.ref b), (.ref k1)])) rfl rfl (hb hby own_d115)
    refine GoOn.step st274 ?_
    show GoOn p e below (T274.setTop (mkF m 34 #[.val (.ref a), .val (.ref b), .val (.ref b)] [(.ref k2), (.ref k1)])) _
    by_cases hc275 : k1 = k2
    · skip
      refine GoOn.step (fun tq kq => Jvm.RoadKit.acmp (g := (mkF m 34 #[.val (.ref a), .val (.ref b), .val (.ref b)] [(.ref k2), (.ref k1)])) X274 hx rfl rfl rfl (pc0 := 34) (pc' := 37) (same := true) rfl (hb hby own_d116) rfl (decide_eq_true (congrArg Value.ref hc275)) (by decide) (by decide) kq) ?_
      show GoOn p e below (T274.setTop (mkF m 37 #[.val (.ref a), .val (.ref b), .val (.ref b)] [])) _
      refine GoOn.step (fun tq kq => XS.iconst X274.here hx rfl (hb hby own_d117) kq) ?_
      show GoOn p e below (T274.setTop (mkF m 38 #[.val (.ref a), .val (.ref b), .val (.ref b)] [(.int (1 : Int32))])) _
      refine GoOn.step (fun tq kq => XS.goto X274.here hx rfl (pc0 := 38) (pc' := 42) rfl (hb hby own_d118) (by decide) (by decide) kq) ?_
      show GoOn p e below (T274.setTop (mkF m 42 #[.val (.ref a), .val (.ref b), .val (.ref b)] [(.int (1 : Int32))])) _
      refine GoOn.ret X274 Bd.notSynchronized (v := some (.int (nar .boolean (1 : Int32)))) (fun h => by rw [Bd.returns] at h; cases h) (fun fs hr => retN X274 hx (t := .boolean) Bd.returns (by simp) (hb hby own_d100) hr) (by decide) (by decide) ?_
      rw [e274]
      exact ⟨by rw [if_pos ⟨hc272, hc275⟩]; rfl, N271, rfl⟩
    · skip
      refine GoOn.step (fun tq kq => Jvm.RoadKit.acmp (g := (mkF m 34 #[.val (.ref a), .val (.ref b), .val (.ref b)] [(.ref k2), (.ref k1)])) X274 hx rfl rfl rfl (pc0 := 34) (pc' := 41) (same := false) rfl (hb hby own_d116) rfl (decide_eq_false fun q => hc275 (Value.ref.inj q)) (by decide) (by decide) kq) ?_
      show GoOn p e below (T274.setTop (mkF m 41 #[.val (.ref a), .val (.ref b), .val (.ref b)] [])) _
      refine GoOn.step (fun tq kq => XS.iconst X274.here hx rfl (hb hby own_d99) kq) ?_
      show GoOn p e below (T274.setTop (mkF m 42 #[.val (.ref a), .val (.ref b), .val (.ref b)] [(.int (0 : Int32))])) _
      refine GoOn.ret X274 Bd.notSynchronized (v := some (.int (nar .boolean (0 : Int32)))) (fun h => by rw [Bd.returns] at h; cases h) (fun fs hr => retN X274 hx (t := .boolean) Bd.returns (by simp) (hb hby own_d100) hr) (by decide) (by decide) ?_
      rw [e274]
      exact ⟨by rw [if_neg (fun q => hc275 q.2)]; rfl, N271, rfl⟩
  · skip
    refine GoOn.step (fun tq kq => XS.ifYes X269.here hx rfl (pc0 := 23) (pc' := 41) rfl (hb hby own_d111) rfl ((if0 _ _).trans (teq (if_neg hc272)).1) (by decide) (by decide) kq) ?_
    show GoOn p e below (T269.setTop (mkF m 41 #[.val (.ref a), .val (.ref b), .val (.ref b)] [])) _
    refine GoOn.step (fun tq kq => XS.iconst X269.here hx rfl (hb hby own_d99) kq) ?_
    show GoOn p e below (T269.setTop (mkF m 42 #[.val (.ref a), .val (.ref b), .val (.ref b)] [(.int (0 : Int32))])) _
    refine GoOn.ret X269 Bd.notSynchronized (v := some (.int (nar .boolean (0 : Int32)))) (fun h => by rw [Bd.returns] at h; cases h) (fun fs hr => retN X269 hx (t := .boolean) Bd.returns (by simp) (hb hby own_d100) hr) (by decide) (by decide) ?_
    rw [e269]
    exact ⟨by rw [if_neg (fun q => hc272 q.1)]; rfl, N271, rfl⟩
def QLaw (h0 : Heap) (n0 : Nat) (v : Option Value) (h : Heap) (L : List Loc) : Prop := v = some (.int 1) ∧ Fr n0 L
set_option maxRecDepth 65536 in
set_option maxHeartbeats 40000000 in
theorem rm0 (l : Launch) (Z : State) (a0 : Array Value) (hw : ∀ d ∈ tables_1, d.before a0 Z = true) (ws : List Jvm.Cond) (p0 p1 p2 G1 : Int32) (kN kI kM : Addr) (h0 : Heap) (n0 : Nat) (Z0 : n0 ≤ h0.size) (SC : Sta Z Z.heap "java/lang/String" "COMPACT_STRINGS" "Z" (.int G1)) (PC : ¬ G1 = (0 : Int32)) (SN : Sta Z Z.heap "com/example/subsume/subsume/axioms/AtomicConcept$Kind" "NAMED" "Lcom/example/subsume/subsume/axioms/AtomicConcept$Kind;" (.ref kN)) (SI : Sta Z Z.heap "com/example/subsume/subsume/axioms/AtomicConcept$Kind" "INTRODUCED" "Lcom/example/subsume/subsume/axioms/AtomicConcept$Kind;" (.ref kI)) (SM : Sta Z Z.heap "com/example/subsume/subsume/axioms/AtomicConcept$Kind" "NOMINAL" "Lcom/example/subsume/subsume/axioms/AtomicConcept$Kind;" (.ref kM)) (EN : Exa Z Z.heap kN "com/example/subsume/subsume/axioms/AtomicConcept$Kind") (EI : Exa Z Z.heap kI "com/example/subsume/subsume/axioms/AtomicConcept$Kind") (EM : Exa Z Z.heap kM "com/example/subsume/subsume/axioms/AtomicConcept$Kind") (hNI : kN ≠ kI) (hNM : kN ≠ kM) (hIM : kI ≠ kM) (O0 : Old Z n0 h0) :
    MetFree l x (head1 (Jvm.Cond.code x code maxLocals ret :: ws) room_1) (fun aa U => aa = #[(.int p0), (.int p1), (.int p2)] ∧ Z.Warmed39 U.vm ∧ U.heap = h0 ∧ CHv Z own_EL U.vm h0) (fun _ _ _ _ _ => True) (fun _ U o U' => ∃ v L, o = .returned v ∧ QLaw h0 n0 v U'.heap L ∧ CHr Z own_EL U.vm U.heap U'.vm U'.heap ∧ ReturnedEndW U o U' L 32 3200) := by
  refine MetFree.of_bodySF (plainFor_of_name own_pn26) hisR ?_
  intro p e s m args below meth c s₁ Bd hml0 hP hK
  obtain ⟨rfl, hZ, hh, hCH⟩ := hP
  have hx := Bd.exec
  have hby := Bd.bytes
  have hml : c.maxLocals = 22 := hml0
  have hown : s.vm.findClass "com/example/subsume/subsume/axioms/AtomicConceptEqualsPinLaw" = some m.cls := findClass_of_methodNamed Bd.named
  have hnm := (name_of_methodNamed Bd.named Bd.method).1
  have X0 : Stand p l e room_1 s m #[(.int p0), (.int p1), (.int p2)] below meth c s₁ [] 0 0 := Stand.of_body Bd
  have e0 : s₁.heap = h0 := by rw [← hh, Bd.state]; rfl
  have N0 := Fr.nil n0
  have K0 : Keep h0 h0 [] := Keep.refl _ _
  show GoOn p e below (s₁.setTop (entryFrame m #[(.int p0), (.int p1), (.int p2)] maxLocals)) (PostH Z own_EL s (QLaw h0 n0) 32 3200)
  refine GoOn.step (fun tq kq => castTop (own_ef119 m p0 p1 p2) kq) ?_
  have hS0 : s.Since s.vm h0.size := (State.WarmedH.refl s).since _
  have hk0 : h0.size ≤ h0.size := Nat.le_refl _
  replace X0 : Stand p l e room_1 (s.setVm s.vm) m #[(.int p0), (.int p1), (.int p2)] below meth c s₁ [] 0 0 := X0
  replace hZ : Z.Warmed39 (s.setVm s.vm).vm := hZ
  replace hown : (s.setVm s.vm).vm.findClass "com/example/subsume/subsume/axioms/AtomicConceptEqualsPinLaw" = some m.cls := hown
  have C0 : CHr Z own_EL s.vm h0 s.vm h0 := CHr.refl hCH
  have hEL : EW Z a0 own_EL := own_EW hw
  have wS : ∀ d ∈ Bundle.stringAtoms, d.before a0 Z = true := fun d hd => hw d (own_sa d hd)
  show GoOn p e below (s₁.setTop (mkF m 0 #[.val (.int p0), .val (.int p1), .val (.int p2), .unset, .unset, .unset, .unset, .unset, .unset, .unset, .unset, .unset, .unset, .unset, .unset, .unset, .unset, .unset, .unset, .unset, .unset, .unset] [])) _
  have J113 : ∀ (vj277 : Vm) (kj277 : Nat) (Tj277 : State) (lj277 : List Loc) (hj277 : Heap) (r0 r1 s0 s1 md i0 i1 rl il : Int32) (Xj277 : Stand p l e room_1 (s.setVm vj277) m #[(.int p0), (.int p1), (.int p2)] below meth c Tj277 lj277 0 0) (ej277 : Tj277.heap = hj277) (Nj277 : Fr n0 lj277) (hZj277 : Z.Warmed39 (s.setVm vj277).vm) (hownj277 : (s.setVm vj277).vm.findClass "com/example/subsume/subsume/axioms/AtomicConceptEqualsPinLaw" = some m.cls) (hSj277 : s.Since vj277 kj277) (hkj277 : kj277 ≤ hj277.size) (Cj277 : CHr Z own_EL s.vm h0 vj277 hj277) (Zj277 : n0 ≤ hj277.size) (Kj277 : Keep h0 hj277 []) (O276 : Old Z n0 hj277) (hr0 : ¬ r0 < 0 ∧ ¬ (255 : Int32) < r0) (hr1 : ¬ r1 < 0 ∧ ¬ (255 : Int32) < r1) (hs0 : ¬ s0 < 0 ∧ ¬ (255 : Int32) < s0) (hs1 : ¬ s1 < 0 ∧ ¬ (255 : Int32) < s1) (hi0 : ¬ i0 < 0 ∧ ¬ (255 : Int32) < i0) (hi1 : ¬ i1 < 0 ∧ ¬ (255 : Int32) < i1) (hrl : rl = 0 ∨ rl = 1 ∨ rl = 2) (hil : il = 0 ∨ il = 1 ∨ il = 2), GoOn p e below (Tj277.setTop (mkF m 113 #[.val (.int p0), .val (.int p1), .val (.int p2), .val (.int r0), .val (.int r1), .val (.int s0), .val (.int s1), .val (.int md), .val (.int i0), .val (.int i1), .val (.int rl), .unset, .unset, .unset, .unset, .unset, .unset, .unset, .unset, .unset, .unset, .unset] [(.int il)])) (PostH Z own_EL s (QLaw h0 n0) 32 3200) := by
    intro vj277 kj277 Tj277 lj277 hj277 r0 r1 s0 s1 md i0 i1 rl il Xj277 ej277 Nj277 hZj277 hownj277 hSj277 hkj277 Cj277 Zj277 Kj277 O276 hr0 hr1 hs0 hs1 hi0 hi1 hrl hil
    refine GoOn.step (fun tq kq => XS.istore Xj277.here hx rfl (hb hby at_113) rfl (l' := #[.val (.int p0), .val (.int p1), .val (.int p2), .val (.int r0), .val (.int r1), .val (.int s0), .val (.int s1), .val (.int md), .val (.int i0), .val (.int i1), .val (.int rl), .val (.int il), .unset, .unset, .unset, .unset, .unset, .unset, .unset, .unset, .unset, .unset]) rfl kq) ?_
    show GoOn p e below (Tj277.setTop (mkF m 115 #[.val (.int p0), .val (.int p1), .val (.int p2), .val (.int r0), .val (.int r1), .val (.int s0), .val (.int s1), .val (.int md), .val (.int i0), .val (.int i1), .val (.int rl), .val (.int il), .unset, .unset, .unset, .unset, .unset, .unset, .unset, .unset, .unset, .unset] [])) _
    refine GoOn.step (fun tq kq => XS.iloadN Xj277.here hx rfl (hb hby at_115) rfl kq) ?_
    show GoOn p e below (Tj277.setTop (mkF m 116 #[.val (.int p0), .val (.int p1), .val (.int p2), .val (.int r0), .val (.int r1), .val (.int s0), .val (.int s1), .val (.int md), .val (.int i0), .val (.int i1), .val (.int rl), .val (.int il), .unset, .unset, .unset, .unset, .unset, .unset, .unset, .unset, .unset, .unset] [(.int p2)])) _
    refine GoOn.step (fun tq kq => XS.bipush Xj277.here hx rfl (hb hby at_116) kq) ?_
    show GoOn p e below (Tj277.setTop (mkF m 118 #[.val (.int p0), .val (.int p1), .val (.int p2), .val (.int r0), .val (.int r1), .val (.int s0), .val (.int s1), .val (.int md), .val (.int i0), .val (.int i1), .val (.int rl), .val (.int il), .unset, .unset, .unset, .unset, .unset, .unset, .unset, .unset, .unset, .unset] [(.int (8 : Int32)), (.int p2)])) _
    refine GoOn.step (fun tq kq => XS.iushr Xj277.here hx rfl (hb hby at_118) rfl kq) ?_
    show GoOn p e below (Tj277.setTop (mkF m 119 #[.val (.int p0), .val (.int p1), .val (.int p2), .val (.int r0), .val (.int r1), .val (.int s0), .val (.int s1), .val (.int md), .val (.int i0), .val (.int i1), .val (.int rl), .val (.int il), .unset, .unset, .unset, .unset, .unset, .unset, .unset, .unset, .unset, .unset] [(.int (((p2).toUInt32 >>> ((8 : Int32) &&& 31).toUInt32).toInt32))])) _
    refine GoOn.step (fun tq kq => XS.iconst Xj277.here hx rfl (hb hby at_119) kq) ?_
    show GoOn p e below (Tj277.setTop (mkF m 120 #[.val (.int p0), .val (.int p1), .val (.int p2), .val (.int r0), .val (.int r1), .val (.int s0), .val (.int s1), .val (.int md), .val (.int i0), .val (.int i1), .val (.int rl), .val (.int il), .unset, .unset, .unset, .unset, .unset, .unset, .unset, .unset, .unset, .unset] [(.int (3 : Int32)), (.int (((p2).toUInt32 >>> ((8 : Int32) &&& 31).toUInt32).toInt32))])) _
    refine GoOn.step (fun tq kq => XS.iand Xj277.here hx rfl (hb hby at_120) rfl kq) ?_
    show GoOn p e below (Tj277.setTop (mkF m 121 #[.val (.int p0), .val (.int p1), .val (.int p2), .val (.int r0), .val (.int r1), .val (.int s0), .val (.int s1), .val (.int md), .val (.int i0), .val (.int i1), .val (.int rl), .val (.int il), .unset, .unset, .unset, .unset, .unset, .unset, .unset, .unset, .unset, .unset] [(.int ((((p2).toUInt32 >>> ((8 : Int32) &&& 31).toUInt32).toInt32) &&& (3 : Int32)))])) _
    refine GoOn.step (fun tq kq => XS.iconst Xj277.here hx rfl (hb hby at_121) kq) ?_
    show GoOn p e below (Tj277.setTop (mkF m 122 #[.val (.int p0), .val (.int p1), .val (.int p2), .val (.int r0), .val (.int r1), .val (.int s0), .val (.int s1), .val (.int md), .val (.int i0), .val (.int i1), .val (.int rl), .val (.int il), .unset, .unset, .unset, .unset, .unset, .unset, .unset, .unset, .unset, .unset] [(.int (3 : Int32)), (.int ((((p2).toUInt32 >>> ((8 : Int32) &&& 31).toUInt32).toInt32) &&& (3 : Int32)))])) _
    refine GoOn.step (fun tq kq => Jvm.RoadKit.iremM (g := (mkF m 122 #[.val (.int p0), .val (.int p1), .val (.int p2), .val (.int r0), .val (.int r1), .val (.int s0), .val (.int s1), .val (.int md), .val (.int i0), .val (.int i1), .val (.int rl), .val (.int il), .unset, .unset, .unset, .unset, .unset, .unset, .unset, .unset, .unset, .unset] [(.int (3 : Int32)), (.int ((((p2).toUInt32 >>> ((8 : Int32) &&& 31).toUInt32).toInt32) &&& (3 : Int32)))])) Xj277 hx rfl (hb hby at_122) rfl (by decide) kq) ?_
    show GoOn p e below (Tj277.setTop (mkF m 123 #[.val (.int p0), .val (.int p1), .val (.int p2), .val (.int r0), .val (.int r1), .val (.int s0), .val (.int s1), .val (.int md), .val (.int i0), .val (.int i1), .val (.int rl), .val (.int il), .unset, .unset, .unset, .unset, .unset, .unset, .unset, .unset, .unset, .unset] [(.int (((((p2).toUInt32 >>> ((8 : Int32) &&& 31).toUInt32).toInt32) &&& (3 : Int32)) % (3 : Int32)))])) _
    refine GoOn.step (fun tq kq => XS.istore Xj277.here hx rfl (hb hby at_123) rfl (l' := #[.val (.int p0), .val (.int p1), .val (.int p2), .val (.int r0), .val (.int r1), .val (.int s0), .val (.int s1), .val (.int md), .val (.int i0), .val (.int i1), .val (.int rl), .val (.int il), .val (.int (((((p2).toUInt32 >>> ((8 : Int32) &&& 31).toUInt32).toInt32) &&& (3 : Int32)) % (3 : Int32))), .unset, .unset, .unset, .unset, .unset, .unset, .unset, .unset, .unset]) rfl kq) ?_
    show GoOn p e below (Tj277.setTop (mkF m 125 #[.val (.int p0), .val (.int p1), .val (.int p2), .val (.int r0), .val (.int r1), .val (.int s0), .val (.int s1), .val (.int md), .val (.int i0), .val (.int i1), .val (.int rl), .val (.int il), .val (.int (((((p2).toUInt32 >>> ((8 : Int32) &&& 31).toUInt32).toInt32) &&& (3 : Int32)) % (3 : Int32))), .unset, .unset, .unset, .unset, .unset, .unset, .unset, .unset, .unset] [])) _
    have hka := own_rem3 (((p2).toUInt32 >>> ((8 : Int32) &&& 31).toUInt32).toInt32)
    generalize hgka : (((((p2).toUInt32 >>> ((8 : Int32) &&& 31).toUInt32).toInt32) &&& (3 : Int32)) % (3 : Int32)) = ka
    show GoOn p e below (Tj277.setTop (mkF m 125 #[.val (.int p0), .val (.int p1), .val (.int p2), .val (.int r0), .val (.int r1), .val (.int s0), .val (.int s1), .val (.int md), .val (.int i0), .val (.int i1), .val (.int rl), .val (.int il), .val (.int ka), .unset, .unset, .unset, .unset, .unset, .unset, .unset, .unset, .unset] [])) _
    rw [hgka] at hka
    refine GoOn.step (fun tq kq => XS.iloadN Xj277.here hx rfl (hb hby at_125) rfl kq) ?_
    show GoOn p e below (Tj277.setTop (mkF m 126 #[.val (.int p0), .val (.int p1), .val (.int p2), .val (.int r0), .val (.int r1), .val (.int s0), .val (.int s1), .val (.int md), .val (.int i0), .val (.int i1), .val (.int rl), .val (.int il), .val (.int ka), .unset, .unset, .unset, .unset, .unset, .unset, .unset, .unset, .unset] [(.int p2)])) _
    refine GoOn.step (fun tq kq => XS.bipush Xj277.here hx rfl (hb hby at_126) kq) ?_
    show GoOn p e below (Tj277.setTop (mkF m 128 #[.val (.int p0), .val (.int p1), .val (.int p2), .val (.int r0), .val (.int r1), .val (.int s0), .val (.int s1), .val (.int md), .val (.int i0), .val (.int i1), .val (.int rl), .val (.int il), .val (.int ka), .unset, .unset, .unset, .unset, .unset, .unset, .unset, .unset, .unset] [(.int (10 : Int32)), (.int p2)])) _
    refine GoOn.step (fun tq kq => XS.iushr Xj277.here hx rfl (hb hby at_128) rfl kq) ?_
    show GoOn p e below (Tj277.setTop (mkF m 129 #[.val (.int p0), .val (.int p1), .val (.int p2), .val (.int r0), .val (.int r1), .val (.int s0), .val (.int s1), .val (.int md), .val (.int i0), .val (.int i1), .val (.int rl), .val (.int il), .val (.int ka), .unset, .unset, .unset, .unset, .unset, .unset, .unset, .unset, .unset] [(.int (((p2).toUInt32 >>> ((10 : Int32) &&& 31).toUInt32).toInt32))])) _
    refine GoOn.step (fun tq kq => XS.iconst Xj277.here hx rfl (hb hby at_129) kq) ?_
    show GoOn p e below (Tj277.setTop (mkF m 130 #[.val (.int p0), .val (.int p1), .val (.int p2), .val (.int r0), .val (.int r1), .val (.int s0), .val (.int s1), .val (.int md), .val (.int i0), .val (.int i1), .val (.int rl), .val (.int il), .val (.int ka), .unset, .unset, .unset, .unset, .unset, .unset, .unset, .unset, .unset] [(.int (3 : Int32)), (.int (((p2).toUInt32 >>> ((10 : Int32) &&& 31).toUInt32).toInt32))])) _
    refine GoOn.step (fun tq kq => XS.iand Xj277.here hx rfl (hb hby at_130) rfl kq) ?_
    show GoOn p e below (Tj277.setTop (mkF m 131 #[.val (.int p0), .val (.int p1), .val (.int p2), .val (.int r0), .val (.int r1), .val (.int s0), .val (.int s1), .val (.int md), .val (.int i0), .val (.int i1), .val (.int rl), .val (.int il), .val (.int ka), .unset, .unset, .unset, .unset, .unset, .unset, .unset, .unset, .unset] [(.int ((((p2).toUInt32 >>> ((10 : Int32) &&& 31).toUInt32).toInt32) &&& (3 : Int32)))])) _
    refine GoOn.step (fun tq kq => XS.iconst Xj277.here hx rfl (hb hby at_131) kq) ?_
    show GoOn p e below (Tj277.setTop (mkF m 132 #[.val (.int p0), .val (.int p1), .val (.int p2), .val (.int r0), .val (.int r1), .val (.int s0), .val (.int s1), .val (.int md), .val (.int i0), .val (.int i1), .val (.int rl), .val (.int il), .val (.int ka), .unset, .unset, .unset, .unset, .unset, .unset, .unset, .unset, .unset] [(.int (3 : Int32)), (.int ((((p2).toUInt32 >>> ((10 : Int32) &&& 31).toUInt32).toInt32) &&& (3 : Int32)))])) _
    refine GoOn.step (fun tq kq => Jvm.RoadKit.iremM (g := (mkF m 132 #[.val (.int p0), .val (.int p1), .val (.int p2), .val (.int r0), .val (.int r1), .val (.int s0), .val (.int s1), .val (.int md), .val (.int i0), .val (.int i1), .val (.int rl), .val (.int il), .val (.int ka), .unset, .unset, .unset, .unset, .unset, .unset, .unset, .unset, .unset] [(.int (3 : Int32)), (.int ((((p2).toUInt32 >>> ((10 : Int32) &&& 31).toUInt32).toInt32) &&& (3 : Int32)))])) Xj277 hx rfl (hb hby at_132) rfl (by decide) kq) ?_
    show GoOn p e below (Tj277.setTop (mkF m 133 #[.val (.int p0), .val (.int p1), .val (.int p2), .val (.int r0), .val (.int r1), .val (.int s0), .val (.int s1), .val (.int md), .val (.int i0), .val (.int i1), .val (.int rl), .val (.int il), .val (.int ka), .unset, .unset, .unset, .unset, .unset, .unset, .unset, .unset, .unset] [(.int (((((p2).toUInt32 >>> ((10 : Int32) &&& 31).toUInt32).toInt32) &&& (3 : Int32)) % (3 : Int32)))])) _
    refine GoOn.step (fun tq kq => XS.istore Xj277.here hx rfl (hb hby at_133) rfl (l' := #[.val (.int p0), .val (.int p1), .val (.int p2), .val (.int r0), .val (.int r1), .val (.int s0), .val (.int s1), .val (.int md), .val (.int i0), .val (.int i1), .val (.int rl), .val (.int il), .val (.int ka), .val (.int (((((p2).toUInt32 >>> ((10 : Int32) &&& 31).toUInt32).toInt32) &&& (3 : Int32)) % (3 : Int32))), .unset, .unset, .unset, .unset, .unset, .unset, .unset, .unset]) rfl kq) ?_
    show GoOn p e below (Tj277.setTop (mkF m 135 #[.val (.int p0), .val (.int p1), .val (.int p2), .val (.int r0), .val (.int r1), .val (.int s0), .val (.int s1), .val (.int md), .val (.int i0), .val (.int i1), .val (.int rl), .val (.int il), .val (.int ka), .val (.int (((((p2).toUInt32 >>> ((10 : Int32) &&& 31).toUInt32).toInt32) &&& (3 : Int32)) % (3 : Int32))), .unset, .unset, .unset, .unset, .unset, .unset, .unset, .unset] [])) _
    have hkb := own_rem3 (((p2).toUInt32 >>> ((10 : Int32) &&& 31).toUInt32).toInt32)
    generalize hgkb : (((((p2).toUInt32 >>> ((10 : Int32) &&& 31).toUInt32).toInt32) &&& (3 : Int32)) % (3 : Int32)) = kb
    show GoOn p e below (Tj277.setTop (mkF m 135 #[.val (.int p0), .val (.int p1), .val (.int p2), .val (.int r0), .val (.int r1), .val (.int s0), .val (.int s1), .val (.int md), .val (.int i0), .val (.int i1), .val (.int rl), .val (.int il), .val (.int ka), .val (.int kb), .unset, .unset, .unset, .unset, .unset, .unset, .unset, .unset] [])) _
    rw [hgkb] at hkb
    refine GoOn.step (fun tq kq => XS.iconst Xj277.here hx rfl (hb hby at_135) kq) ?_
    show GoOn p e below (Tj277.setTop (mkF m 136 #[.val (.int p0), .val (.int p1), .val (.int p2), .val (.int r0), .val (.int r1), .val (.int s0), .val (.int s1), .val (.int md), .val (.int i0), .val (.int i1), .val (.int rl), .val (.int il), .val (.int ka), .val (.int kb), .unset, .unset, .unset, .unset, .unset, .unset, .unset, .unset] [(.int (3 : Int32))])) _
    obtain ⟨T278, h278, k278, X278, e278, Ex278, A278, Ov278, st278⟩ := newR Xj277 hx hZj277 hownj277 (hw _ (List.mem_of_getElem? (i := 0) rfl)) (hw _ (List.mem_of_getElem? (i := 1) rfl)) ej277 (g := (mkF m 136 #[.val (.int p0), .val (.int p1), .val (.int p2), .val (.int r0), .val (.int r1), .val (.int s0), .val (.int s1), .val (.int md), .val (.int i0), .val (.int i1), .val (.int rl), .val (.int il), .val (.int ka), .val (.int kb), .unset, .unset, .unset, .unset, .unset, .unset, .unset, .unset] [(.int (3 : Int32))])) rfl (hb hby at_136) rfl (by decide) (cap := 3) (by decide) (by decide) (by decide) (by decide)
    obtain ⟨ar, g278⟩ : ∃ z, z = hj277.size := ⟨_, rfl⟩
    rw [← g278] at A278 st278
    have gn279 : n0 ≤ ar := Nat.le_trans Zj277 (Nat.le_of_eq g278.symm)
    have sz280 : h0.size ≤ ar := Nat.le_trans Kj277.1 (Nat.le_of_eq g278.symm)
    have Kx278 : Keep hj277 h278 [] := (Keep.refl _ _).ext Ex278
    refine GoOn.step st278 ?_
    have Z281 : n0 ≤ h278.size := Nat.le_trans Zj277 Kx278.1
    have K282 : Keep h0 h278 [] := Kj277.trans Kx278 (all0)
    have O283 : Old Z n0 h278 := O276.keep Kx278 all0
    have C284 : CHr Z own_EL s.vm h0 vj277 h278 := CHr.trans Cj277 (CHr.keep Kx278 all0 Cj277.1)
    have hk285 := Nat.le_trans hkj277 Kx278.1
    have V286 : Arv Z h278 ar k278 (.object "com/example/subsume/subsume/axioms/AtomicConcept$Kind") (3 : Int32) [] .null := Arv.new A278 (by decide)
    show GoOn p e below (T278.setTop (mkF m 139 #[.val (.int p0), .val (.int p1), .val (.int p2), .val (.int r0), .val (.int r1), .val (.int s0), .val (.int s1), .val (.int md), .val (.int i0), .val (.int i1), .val (.int rl), .val (.int il), .val (.int ka), .val (.int kb), .unset, .unset, .unset, .unset, .unset, .unset, .unset, .unset] [(.ref ar)])) _
    refine GoOn.step (fun tq kq => XS.dup X278.here hx rfl (hb hby at_139) rfl rfl kq) ?_
    show GoOn p e below (T278.setTop (mkF m 140 #[.val (.int p0), .val (.int p1), .val (.int p2), .val (.int r0), .val (.int r1), .val (.int s0), .val (.int s1), .val (.int md), .val (.int i0), .val (.int i1), .val (.int rl), .val (.int il), .val (.int ka), .val (.int kb), .unset, .unset, .unset, .unset, .unset, .unset, .unset, .unset] [(.ref ar), (.ref ar)])) _
    refine GoOn.step (fun tq kq => XS.iconst X278.here hx rfl (hb hby at_140) kq) ?_
    show GoOn p e below (T278.setTop (mkF m 141 #[.val (.int p0), .val (.int p1), .val (.int p2), .val (.int r0), .val (.int r1), .val (.int s0), .val (.int s1), .val (.int md), .val (.int i0), .val (.int i1), .val (.int rl), .val (.int il), .val (.int ka), .val (.int kb), .unset, .unset, .unset, .unset, .unset, .unset, .unset, .unset] [(.int (0 : Int32)), (.ref ar), (.ref ar)])) _
    obtain ⟨T287, X287, e287, st287⟩ := getS2 X278 hx hZj277 hownj277 (host := "") (Or.inl (hw _ (List.mem_of_getElem? (i := 2) rfl))) Via.refl e278 (SN.ext O283.2) (g := (mkF m 141 #[.val (.int p0), .val (.int p1), .val (.int p2), .val (.int r0), .val (.int r1), .val (.int s0), .val (.int s1), .val (.int md), .val (.int i0), .val (.int i1), .val (.int rl), .val (.int il), .val (.int ka), .val (.int kb), .unset, .unset, .unset, .unset, .unset, .unset, .unset, .unset] [(.int (0 : Int32)), (.ref ar), (.ref ar)])) rfl (hb hby at_141)
    refine GoOn.step st287 ?_
    show GoOn p e below (T287.setTop (mkF m 144 #[.val (.int p0), .val (.int p1), .val (.int p2), .val (.int r0), .val (.int r1), .val (.int s0), .val (.int s1), .val (.int md), .val (.int i0), .val (.int i1), .val (.int rl), .val (.int il), .val (.int ka), .val (.int kb), .unset, .unset, .unset, .unset, .unset, .unset, .unset, .unset] [(.ref kN), (.int (0 : Int32)), (.ref ar), (.ref ar)])) _
    have V289 : Arv Z h278 ar k278 (.object "com/example/subsume/subsume/axioms/AtomicConcept$Kind") (3 : Int32) [.null] .null := V286.pad (pad_rep [] .null 1)
    obtain ⟨cq290, Aq290, qq290, Sq290, Mq290, Hq290, Uq290⟩ := id V289
    obtain ⟨T288, h288, X288, e288, W288, st288⟩ := stR X287 hx hZj277 e287 Aq290 (j := (0 : Int32)) (inb_of Sq290 ⟨(by decide : ¬ ((0 : Int32) < (0 : Int32))), (by decide : (0 : Int32) < (3 : Int32))⟩) rfl (Sto.ofV Aq290 qq290 Ov278 (Ins.self (EN.ext O283.2))) (g := (mkF m 144 #[.val (.int p0), .val (.int p1), .val (.int p2), .val (.int r0), .val (.int r1), .val (.int s0), .val (.int s1), .val (.int md), .val (.int i0), .val (.int i1), .val (.int rl), .val (.int il), .val (.int ka), .val (.int kb), .unset, .unset, .unset, .unset, .unset, .unset, .unset, .unset] [(.ref kN), (.int (0 : Int32)), (.ref ar), (.ref ar)])) rfl rfl (hb hby at_144)
    have N291 := Fr.snoc X288 Nj277 gn279
    have V292 : Arv Z h288 ar k278 (.object "com/example/subsume/subsume/axioms/AtomicConcept$Kind") (3 : Int32) [(.ref kN)] .null := Arv.set Aq290 qq290 Sq290 Mq290 Hq290 Uq290 rfl W288 0 rfl (Nat.le_of_ble_eq_true rfl)
    have Kx288 : Keep h278 h288 [ar] := Keep.of_wr W288
    refine GoOn.step st288 ?_
    have Z293 : n0 ≤ h288.size := Nat.le_trans Z281 Kx288.1
    have K294 : Keep h0 h288 [] := K282.trans Kx288 ((allS (Or.inr sz280) all0))
    have O295 : Old Z n0 h288 := O283.keep Kx288 (allS gn279 all0)
    have C296 : CHr Z own_EL s.vm h0 vj277 h288 := CHr.trans C284 (CHr.keep Kx288 (allS (Safe.arv hZj277.alike V286 (by decide)) all0) C284.1)
    have hk297 := Nat.le_trans hk285 Kx288.1
    show GoOn p e below (T288.setTop (mkF m 145 #[.val (.int p0), .val (.int p1), .val (.int p2), .val (.int r0), .val (.int r1), .val (.int s0), .val (.int s1), .val (.int md), .val (.int i0), .val (.int i1), .val (.int rl), .val (.int il), .val (.int ka), .val (.int kb), .unset, .unset, .unset, .unset, .unset, .unset, .unset, .unset] [(.ref ar)])) _
    refine GoOn.step (fun tq kq => XS.dup X288.here hx rfl (hb hby at_145) rfl rfl kq) ?_
    show GoOn p e below (T288.setTop (mkF m 146 #[.val (.int p0), .val (.int p1), .val (.int p2), .val (.int r0), .val (.int r1), .val (.int s0), .val (.int s1), .val (.int md), .val (.int i0), .val (.int i1), .val (.int rl), .val (.int il), .val (.int ka), .val (.int kb), .unset, .unset, .unset, .unset, .unset, .unset, .unset, .unset] [(.ref ar), (.ref ar)])) _
    refine GoOn.step (fun tq kq => XS.iconst X288.here hx rfl (hb hby at_146) kq) ?_
    show GoOn p e below (T288.setTop (mkF m 147 #[.val (.int p0), .val (.int p1), .val (.int p2), .val (.int r0), .val (.int r1), .val (.int s0), .val (.int s1), .val (.int md), .val (.int i0), .val (.int i1), .val (.int rl), .val (.int il), .val (.int ka), .val (.int kb), .unset, .unset, .unset, .unset, .unset, .unset, .unset, .unset] [(.int (1 : Int32)), (.ref ar), (.ref ar)])) _
    obtain ⟨T298, X298, e298, st298⟩ := getS2 X288 hx hZj277 hownj277 (host := "") (Or.inl (hw _ (List.mem_of_getElem? (i := 6) rfl))) Via.refl e288 (SI.ext O295.2) (g := (mkF m 147 #[.val (.int p0), .val (.int p1), .val (.int p2), .val (.int r0), .val (.int r1), .val (.int s0), .val (.int s1), .val (.int md), .val (.int i0), .val (.int i1), .val (.int rl), .val (.int il), .val (.int ka), .val (.int kb), .unset, .unset, .unset, .unset, .unset, .unset, .unset, .unset] [(.int (1 : Int32)), (.ref ar), (.ref ar)])) rfl (hb hby at_147)
    refine GoOn.step st298 ?_
    show GoOn p e below (T298.setTop (mkF m 150 #[.val (.int p0), .val (.int p1), .val (.int p2), .val (.int r0), .val (.int r1), .val (.int s0), .val (.int s1), .val (.int md), .val (.int i0), .val (.int i1), .val (.int rl), .val (.int il), .val (.int ka), .val (.int kb), .unset, .unset, .unset, .unset, .unset, .unset, .unset, .unset] [(.ref kI), (.int (1 : Int32)), (.ref ar), (.ref ar)])) _
    have V300 : Arv Z h288 ar k278 (.object "com/example/subsume/subsume/axioms/AtomicConcept$Kind") (3 : Int32) [(.ref kN), .null] .null := V292.pad (pad_rep [(.ref kN)] .null 1)
    obtain ⟨cq301, Aq301, qq301, Sq301, Mq301, Hq301, Uq301⟩ := id V300
    obtain ⟨T299, h299, X299, e299, W299, st299⟩ := stR X298 hx hZj277 e298 Aq301 (j := (1 : Int32)) (inb_of Sq301 ⟨(by decide : ¬ ((1 : Int32) < (0 : Int32))), (by decide : (1 : Int32) < (3 : Int32))⟩) rfl (Sto.ofV Aq301 qq301 Ov278 (Ins.self (EI.ext O295.2))) (g := (mkF m 150 #[.val (.int p0), .val (.int p1), .val (.int p2), .val (.int r0), .val (.int r1), .val (.int s0), .val (.int s1), .val (.int md), .val (.int i0), .val (.int i1), .val (.int rl), .val (.int il), .val (.int ka), .val (.int kb), .unset, .unset, .unset, .unset, .unset, .unset, .unset, .unset] [(.ref kI), (.int (1 : Int32)), (.ref ar), (.ref ar)])) rfl rfl (hb hby at_150)
    have N302 := Fr.snoc X299 N291 gn279
    have V303 : Arv Z h299 ar k278 (.object "com/example/subsume/subsume/axioms/AtomicConcept$Kind") (3 : Int32) [(.ref kN), (.ref kI)] .null := Arv.set Aq301 qq301 Sq301 Mq301 Hq301 Uq301 rfl W299 1 rfl (Nat.le_of_ble_eq_true rfl)
    have Kx299 : Keep h288 h299 [ar] := Keep.of_wr W299
    refine GoOn.step st299 ?_
    have Z304 : n0 ≤ h299.size := Nat.le_trans Z293 Kx299.1
    have K305 : Keep h0 h299 [] := K294.trans Kx299 ((allS (Or.inr sz280) all0))
    have O306 : Old Z n0 h299 := O295.keep Kx299 (allS gn279 all0)
    have C307 : CHr Z own_EL s.vm h0 vj277 h299 := CHr.trans C296 (CHr.keep Kx299 (allS (Safe.arv hZj277.alike V292 (by decide)) all0) C296.1)
    have hk308 := Nat.le_trans hk297 Kx299.1
    show GoOn p e below (T299.setTop (mkF m 151 #[.val (.int p0), .val (.int p1), .val (.int p2), .val (.int r0), .val (.int r1), .val (.int s0), .val (.int s1), .val (.int md), .val (.int i0), .val (.int i1), .val (.int rl), .val (.int il), .val (.int ka), .val (.int kb), .unset, .unset, .unset, .unset, .unset, .unset, .unset, .unset] [(.ref ar)])) _
    refine GoOn.step (fun tq kq => XS.dup X299.here hx rfl (hb hby at_151) rfl rfl kq) ?_
    show GoOn p e below (T299.setTop (mkF m 152 #[.val (.int p0), .val (.int p1), .val (.int p2), .val (.int r0), .val (.int r1), .val (.int s0), .val (.int s1), .val (.int md), .val (.int i0), .val (.int i1), .val (.int rl), .val (.int il), .val (.int ka), .val (.int kb), .unset, .unset, .unset, .unset, .unset, .unset, .unset, .unset] [(.ref ar), (.ref ar)])) _
    refine GoOn.step (fun tq kq => XS.iconst X299.here hx rfl (hb hby at_152) kq) ?_
    show GoOn p e below (T299.setTop (mkF m 153 #[.val (.int p0), .val (.int p1), .val (.int p2), .val (.int r0), .val (.int r1), .val (.int s0), .val (.int s1), .val (.int md), .val (.int i0), .val (.int i1), .val (.int rl), .val (.int il), .val (.int ka), .val (.int kb), .unset, .unset, .unset, .unset, .unset, .unset, .unset, .unset] [(.int (2 : Int32)), (.ref ar), (.ref ar)])) _
    obtain ⟨T309, X309, e309, st309⟩ := getS2 X299 hx hZj277 hownj277 (host := "") (Or.inl (hw _ (List.mem_of_getElem? (i := 8) rfl))) Via.refl e299 (SM.ext O306.2) (g := (mkF m 153 #[.val (.int p0), .val (.int p1), .val (.int p2), .val (.int r0), .val (.int r1), .val (.int s0), .val (.int s1), .val (.int md), .val (.int i0), .val (.int i1), .val (.int rl), .val (.int il), .val (.int ka), .val (.int kb), .unset, .unset, .unset, .unset, .unset, .unset, .unset, .unset] [(.int (2 : Int32)), (.ref ar), (.ref ar)])) rfl (hb hby at_153)
    refine GoOn.step st309 ?_
    show GoOn p e below (T309.setTop (mkF m 156 #[.val (.int p0), .val (.int p1), .val (.int p2), .val (.int r0), .val (.int r1), .val (.int s0), .val (.int s1), .val (.int md), .val (.int i0), .val (.int i1), .val (.int rl), .val (.int il), .val (.int ka), .val (.int kb), .unset, .unset, .unset, .unset, .unset, .unset, .unset, .unset] [(.ref kM), (.int (2 : Int32)), (.ref ar), (.ref ar)])) _
    have V311 : Arv Z h299 ar k278 (.object "com/example/subsume/subsume/axioms/AtomicConcept$Kind") (3 : Int32) [(.ref kN), (.ref kI), .null] .null := V303.pad (pad_rep [(.ref kN), (.ref kI)] .null 1)
    obtain ⟨cq312, Aq312, qq312, Sq312, Mq312, Hq312, Uq312⟩ := id V311
    obtain ⟨T310, h310, X310, e310, W310, st310⟩ := stR X309 hx hZj277 e309 Aq312 (j := (2 : Int32)) (inb_of Sq312 ⟨(by decide : ¬ ((2 : Int32) < (0 : Int32))), (by decide : (2 : Int32) < (3 : Int32))⟩) rfl (Sto.ofV Aq312 qq312 Ov278 (Ins.self (EM.ext O306.2))) (g := (mkF m 156 #[.val (.int p0), .val (.int p1), .val (.int p2), .val (.int r0), .val (.int r1), .val (.int s0), .val (.int s1), .val (.int md), .val (.int i0), .val (.int i1), .val (.int rl), .val (.int il), .val (.int ka), .val (.int kb), .unset, .unset, .unset, .unset, .unset, .unset, .unset, .unset] [(.ref kM), (.int (2 : Int32)), (.ref ar), (.ref ar)])) rfl rfl (hb hby at_156)
    have N313 := Fr.snoc X310 N302 gn279
    have V314 : Arv Z h310 ar k278 (.object "com/example/subsume/subsume/axioms/AtomicConcept$Kind") (3 : Int32) [(.ref kN), (.ref kI), (.ref kM)] .null := Arv.set Aq312 qq312 Sq312 Mq312 Hq312 Uq312 rfl W310 2 rfl (Nat.le_of_ble_eq_true rfl)
    have Kx310 : Keep h299 h310 [ar] := Keep.of_wr W310
    refine GoOn.step st310 ?_
    have Z315 : n0 ≤ h310.size := Nat.le_trans Z304 Kx310.1
    have K316 : Keep h0 h310 [] := K305.trans Kx310 ((allS (Or.inr sz280) all0))
    have O317 : Old Z n0 h310 := O306.keep Kx310 (allS gn279 all0)
    have C318 : CHr Z own_EL s.vm h0 vj277 h310 := CHr.trans C307 (CHr.keep Kx310 (allS (Safe.arv hZj277.alike V303 (by decide)) all0) C307.1)
    have hk319 := Nat.le_trans hk308 Kx310.1
    show GoOn p e below (T310.setTop (mkF m 157 #[.val (.int p0), .val (.int p1), .val (.int p2), .val (.int r0), .val (.int r1), .val (.int s0), .val (.int s1), .val (.int md), .val (.int i0), .val (.int i1), .val (.int rl), .val (.int il), .val (.int ka), .val (.int kb), .unset, .unset, .unset, .unset, .unset, .unset, .unset, .unset] [(.ref ar)])) _
    refine GoOn.step (fun tq kq => XS.astore X310.here hx rfl (hb hby at_157) rfl rfl (l' := #[.val (.int p0), .val (.int p1), .val (.int p2), .val (.int r0), .val (.int r1), .val (.int s0), .val (.int s1), .val (.int md), .val (.int i0), .val (.int i1), .val (.int rl), .val (.int il), .val (.int ka), .val (.int kb), .val (.ref ar), .unset, .unset, .unset, .unset, .unset, .unset, .unset]) rfl kq) ?_
    show GoOn p e below (T310.setTop (mkF m 159 #[.val (.int p0), .val (.int p1), .val (.int p2), .val (.int r0), .val (.int r1), .val (.int s0), .val (.int s1), .val (.int md), .val (.int i0), .val (.int i1), .val (.int rl), .val (.int il), .val (.int ka), .val (.int kb), .val (.ref ar), .unset, .unset, .unset, .unset, .unset, .unset, .unset] [])) _
    refine GoOn.step (fun tq kq => XS.iload X310.here hx rfl (hb hby at_159) rfl kq) ?_
    show GoOn p e below (T310.setTop (mkF m 161 #[.val (.int p0), .val (.int p1), .val (.int p2), .val (.int r0), .val (.int r1), .val (.int s0), .val (.int s1), .val (.int md), .val (.int i0), .val (.int i1), .val (.int rl), .val (.int il), .val (.int ka), .val (.int kb), .val (.ref ar), .unset, .unset, .unset, .unset, .unset, .unset, .unset] [(.int rl)])) _
    refine GoOn.step (fun tq kq => XS.iloadN X310.here hx rfl (hb hby at_161) rfl kq) ?_
    show GoOn p e below (T310.setTop (mkF m 162 #[.val (.int p0), .val (.int p1), .val (.int p2), .val (.int r0), .val (.int r1), .val (.int s0), .val (.int s1), .val (.int md), .val (.int i0), .val (.int i1), .val (.int rl), .val (.int il), .val (.int ka), .val (.int kb), .val (.ref ar), .unset, .unset, .unset, .unset, .unset, .unset, .unset] [(.int r0), (.int rl)])) _
    refine GoOn.step (fun tq kq => XS.iload X310.here hx rfl (hb hby at_162) rfl kq) ?_
    show GoOn p e below (T310.setTop (mkF m 164 #[.val (.int p0), .val (.int p1), .val (.int p2), .val (.int r0), .val (.int r1), .val (.int s0), .val (.int s1), .val (.int md), .val (.int i0), .val (.int i1), .val (.int rl), .val (.int il), .val (.int ka), .val (.int kb), .val (.ref ar), .unset, .unset, .unset, .unset, .unset, .unset, .unset] [(.int r1), (.int r0), (.int rl)])) _
    obtain ⟨_, _, ⟨T320, L320, k320, n320⟩, -, X320, hS320, hg320, ⟨Lc320, hQ320, l320, y320, z320, Cn320⟩, st320⟩ := Jvm.RoadKit.callSS X310 hx (y := (⟨"com/example/subsume/subsume/axioms/AtomicConceptEqualsPinLaw", "mk", "(ICC)Ljava/lang/String;"⟩ : MethodName)) hownj277 (mvT hZj277 (hw _ (List.mem_of_getElem? (i := 10) rfl))) (mvT hZj277 (hw _ (List.mem_of_getElem? (i := 11) rfl))) (mvT hZj277 (hw _ (List.mem_of_getElem? (i := 12) rfl))) (mvT hZj277 (hw _ (List.mem_of_getElem? (i := 13) rfl))) (by decide) (backOfSH (W := 0) (rmMk l Z a0 hw rl r0 r1 G1 h310 n0 Z315 hr0 hr1 SC PC O317) hZj277 (hw _ (List.mem_of_getElem? (i := 13) rfl)) (hw _ (List.mem_of_getElem? (i := 12) rfl)) (by decide) (by decide) hEL C318.1) (g := (mkF m 164 #[.val (.int p0), .val (.int p1), .val (.int p2), .val (.int r0), .val (.int r1), .val (.int s0), .val (.int s1), .val (.int md), .val (.int i0), .val (.int i1), .val (.int rl), .val (.int il), .val (.int ka), .val (.int kb), .val (.ref ar), .unset, .unset, .unset, .unset, .unset, .unset, .unset] [(.int r1), (.int r0), (.int rl)])) rfl (by rw [hml]; rfl) (argsL := [(.int rl), (.int r0), (.int r1)]) (rest := []) (lenOf own_pd120 rfl) rfl (by show 2 * 0 + _ ≤ _; exact Nat.le_of_eq rfl) (hb hby at_164) (fun _ _ => ⟨rfl, e310, (by decide : 1 + 6 ≤ _), (by decide : 3 + 12 ≤ _)⟩)
    dsimp only [Pt.U, Pt.locs, Pt.cells, Pt.slots] at X320 l320 y320 z320 st320 hQ320 hS320 hg320 Cn320
    subst l320 y320 z320
    obtain ⟨sa320, rfl, N320, K320, S320⟩ := hQ320
    refine GoOn.trans st320 ?_
    replace X320 : Stand p l e _ (s.setVm T320.vm) m _ below meth c T320 _ _ _ := X320
    have hZ320 : Z.Warmed39 (s.setVm T320.vm).vm := State.Warmed39.trans (t := (s.setVm vj277)) hZj277 hS320.1
    have hown320 : (s.setVm T320.vm).vm.findClass "com/example/subsume/subsume/axioms/AtomicConceptEqualsPinLaw" = some m.cls := by rw [show (s.setVm T320.vm).vm = T320.vm from rfl, hS320.1.alike.findClass]; exact hownj277
    have hSn320 : s.Since T320.vm T320.heap.size := foldS hSj277 (by rw [e310]; exact hk319) hS320 hg320
    have hk320 : T320.heap.size ≤ T320.heap.size := Nat.le_refl _
    have N321 := Fr.app N313 N320
    have Z322 : n0 ≤ T320.heap.size := Nat.le_trans Z315 K320.1
    have K323 : Keep h0 T320.heap [] := K316.trans K320 all0
    have O324 : Old Z n0 T320.heap := O317.keep K320 all0
    have C325 : CHr Z own_EL s.vm h0 T320.vm T320.heap := CHr.trans C318 Cn320
    have V326 : Arv Z T320.heap ar k278 (.object "com/example/subsume/subsume/axioms/AtomicConcept$Kind") (3 : Int32) [(.ref kN), (.ref kI), (.ref kM)] .null := V314.keep K320 nin0
    show GoOn p e below (T320.setTop (mkF m 167 #[.val (.int p0), .val (.int p1), .val (.int p2), .val (.int r0), .val (.int r1), .val (.int s0), .val (.int s1), .val (.int md), .val (.int i0), .val (.int i1), .val (.int rl), .val (.int il), .val (.int ka), .val (.int kb), .val (.ref ar), .unset, .unset, .unset, .unset, .unset, .unset, .unset] [(.ref sa320)])) _
    refine GoOn.step (fun tq kq => XS.astore X320.here hx rfl (hb hby at_167) rfl rfl (l' := #[.val (.int p0), .val (.int p1), .val (.int p2), .val (.int r0), .val (.int r1), .val (.int s0), .val (.int s1), .val (.int md), .val (.int i0), .val (.int i1), .val (.int rl), .val (.int il), .val (.int ka), .val (.int kb), .val (.ref ar), .val (.ref sa320), .unset, .unset, .unset, .unset, .unset, .unset]) rfl kq) ?_
    show GoOn p e below (T320.setTop (mkF m 169 #[.val (.int p0), .val (.int p1), .val (.int p2), .val (.int r0), .val (.int r1), .val (.int s0), .val (.int s1), .val (.int md), .val (.int i0), .val (.int i1), .val (.int rl), .val (.int il), .val (.int ka), .val (.int kb), .val (.ref ar), .val (.ref sa320), .unset, .unset, .unset, .unset, .unset, .unset] [])) _
    refine GoOn.step (fun tq kq => XS.iload X320.here hx rfl (hb hby at_169) rfl kq) ?_
    show GoOn p e below (T320.setTop (mkF m 171 #[.val (.int p0), .val (.int p1), .val (.int p2), .val (.int r0), .val (.int r1), .val (.int s0), .val (.int s1), .val (.int md), .val (.int i0), .val (.int i1), .val (.int rl), .val (.int il), .val (.int ka), .val (.int kb), .val (.ref ar), .val (.ref sa320), .unset, .unset, .unset, .unset, .unset, .unset] [(.int il)])) _
    refine GoOn.step (fun tq kq => XS.iload X320.here hx rfl (hb hby at_171) rfl kq) ?_
    show GoOn p e below (T320.setTop (mkF m 173 #[.val (.int p0), .val (.int p1), .val (.int p2), .val (.int r0), .val (.int r1), .val (.int s0), .val (.int s1), .val (.int md), .val (.int i0), .val (.int i1), .val (.int rl), .val (.int il), .val (.int ka), .val (.int kb), .val (.ref ar), .val (.ref sa320), .unset, .unset, .unset, .unset, .unset, .unset] [(.int i0), (.int il)])) _
    refine GoOn.step (fun tq kq => XS.iload X320.here hx rfl (hb hby at_173) rfl kq) ?_
    show GoOn p e below (T320.setTop (mkF m 175 #[.val (.int p0), .val (.int p1), .val (.int p2), .val (.int r0), .val (.int r1), .val (.int s0), .val (.int s1), .val (.int md), .val (.int i0), .val (.int i1), .val (.int rl), .val (.int il), .val (.int ka), .val (.int kb), .val (.ref ar), .val (.ref sa320), .unset, .unset, .unset, .unset, .unset, .unset] [(.int i1), (.int i0), (.int il)])) _
    obtain ⟨_, _, ⟨T327, L327, k327, n327⟩, -, X327, hS327, hg327, ⟨Lc327, hQ327, l327, y327, z327, Cn327⟩, st327⟩ := Jvm.RoadKit.callSS X320 hx (y := (⟨"com/example/subsume/subsume/axioms/AtomicConceptEqualsPinLaw", "mk", "(ICC)Ljava/lang/String;"⟩ : MethodName)) hown320 (mvT hZ320 (hw _ (List.mem_of_getElem? (i := 10) rfl))) (mvT hZ320 (hw _ (List.mem_of_getElem? (i := 11) rfl))) (mvT hZ320 (hw _ (List.mem_of_getElem? (i := 12) rfl))) (mvT hZ320 (hw _ (List.mem_of_getElem? (i := 13) rfl))) (by decide) (backOfSH (W := 0) (rmMk l Z a0 hw il i0 i1 G1 T320.heap n0 Z322 hi0 hi1 SC PC O324) hZ320 (hw _ (List.mem_of_getElem? (i := 13) rfl)) (hw _ (List.mem_of_getElem? (i := 12) rfl)) (by decide) (by decide) hEL C325.1) (g := (mkF m 175 #[.val (.int p0), .val (.int p1), .val (.int p2), .val (.int r0), .val (.int r1), .val (.int s0), .val (.int s1), .val (.int md), .val (.int i0), .val (.int i1), .val (.int rl), .val (.int il), .val (.int ka), .val (.int kb), .val (.ref ar), .val (.ref sa320), .unset, .unset, .unset, .unset, .unset, .unset] [(.int i1), (.int i0), (.int il)])) rfl (by rw [hml]; rfl) (argsL := [(.int il), (.int i0), (.int i1)]) (rest := []) (lenOf own_pd120 rfl) rfl (by show 2 * 0 + _ ≤ _; exact Nat.le_of_eq rfl) (hb hby at_175) (fun _ _ => ⟨rfl, rfl, (by decide : 7 + 6 ≤ _), (by decide : 15 + 12 ≤ _)⟩)
    dsimp only [Pt.U, Pt.locs, Pt.cells, Pt.slots] at X327 l327 y327 z327 st327 hQ327 hS327 hg327 Cn327
    subst l327 y327 z327
    obtain ⟨sa327, rfl, N327, K327, S327⟩ := hQ327
    refine GoOn.trans st327 ?_
    replace X327 : Stand p l e _ (s.setVm T327.vm) m _ below meth c T327 _ _ _ := X327
    have hZ327 : Z.Warmed39 (s.setVm T327.vm).vm := State.Warmed39.trans (t := (s.setVm T320.vm)) hZ320 hS327.1
    have hown327 : (s.setVm T327.vm).vm.findClass "com/example/subsume/subsume/axioms/AtomicConceptEqualsPinLaw" = some m.cls := by rw [show (s.setVm T327.vm).vm = T327.vm from rfl, hS327.1.alike.findClass]; exact hown320
    have hSn327 : s.Since T327.vm T327.heap.size := foldS hSn320 hk320 hS327 hg327
    have hk327 : T327.heap.size ≤ T327.heap.size := Nat.le_refl _
    have N328 := Fr.app N321 N327
    have Z329 : n0 ≤ T327.heap.size := Nat.le_trans Z322 K327.1
    have K330 : Keep h0 T327.heap [] := K323.trans K327 all0
    have O331 : Old Z n0 T327.heap := O324.keep K327 all0
    have C332 : CHr Z own_EL s.vm h0 T327.vm T327.heap := CHr.trans C325 Cn327
    have V333 : Arv Z T327.heap ar k278 (.object "com/example/subsume/subsume/axioms/AtomicConcept$Kind") (3 : Int32) [(.ref kN), (.ref kI), (.ref kM)] .null := V326.keep K327 nin0
    have Sr334 : StrIs Z T327.heap sa320 (if rl = 0 then ([] : List Int32) else if rl = 1 then [r0] else [r0, r1]) := S320.keep0 K327
    show GoOn p e below (T327.setTop (mkF m 178 #[.val (.int p0), .val (.int p1), .val (.int p2), .val (.int r0), .val (.int r1), .val (.int s0), .val (.int s1), .val (.int md), .val (.int i0), .val (.int i1), .val (.int rl), .val (.int il), .val (.int ka), .val (.int kb), .val (.ref ar), .val (.ref sa320), .unset, .unset, .unset, .unset, .unset, .unset] [(.ref sa327)])) _
    refine GoOn.step (fun tq kq => XS.astore X327.here hx rfl (hb hby at_178) rfl rfl (l' := #[.val (.int p0), .val (.int p1), .val (.int p2), .val (.int r0), .val (.int r1), .val (.int s0), .val (.int s1), .val (.int md), .val (.int i0), .val (.int i1), .val (.int rl), .val (.int il), .val (.int ka), .val (.int kb), .val (.ref ar), .val (.ref sa320), .val (.ref sa327), .unset, .unset, .unset, .unset, .unset]) rfl kq) ?_
    show GoOn p e below (T327.setTop (mkF m 180 #[.val (.int p0), .val (.int p1), .val (.int p2), .val (.int r0), .val (.int r1), .val (.int s0), .val (.int s1), .val (.int md), .val (.int i0), .val (.int i1), .val (.int rl), .val (.int il), .val (.int ka), .val (.int kb), .val (.ref ar), .val (.ref sa320), .val (.ref sa327), .unset, .unset, .unset, .unset, .unset] [])) _
    obtain ⟨T335, h335, X335, e335, Ex335, A335, Df335, -, st335⟩ := newO X327 hx hZ327 hown327 (hw _ (List.mem_of_getElem? (i := 47) rfl)) (hw _ (List.mem_of_getElem? (i := 48) rfl)) (hw _ (List.mem_of_getElem? (i := 49) rfl)) rfl (g := (mkF m 180 #[.val (.int p0), .val (.int p1), .val (.int p2), .val (.int r0), .val (.int r1), .val (.int s0), .val (.int s1), .val (.int md), .val (.int i0), .val (.int i1), .val (.int rl), .val (.int il), .val (.int ka), .val (.int kb), .val (.ref ar), .val (.ref sa320), .val (.ref sa327), .unset, .unset, .unset, .unset, .unset] [])) rfl (hb hby at_180) (by decide) (by decide)
    obtain ⟨x, g335⟩ : ∃ z, z = T327.heap.size := ⟨_, rfl⟩
    rw [← g335] at A335 Df335 st335
    have gn336 : n0 ≤ x := Nat.le_trans Z329 (Nat.le_of_eq g335.symm)
    have sz337 : h0.size ≤ x := Nat.le_trans K330.1 (Nat.le_of_eq g335.symm)
    have ne338 : ar ≠ x := Nat.ne_of_lt (Nat.lt_of_lt_of_le V333.lt (Nat.le_of_eq g335.symm))
    have Kx335 : Keep T327.heap h335 [] := (Keep.refl _ _).ext Ex335
    refine GoOn.step st335 ?_
    have Z339 : n0 ≤ h335.size := Nat.le_trans Z329 Kx335.1
    have K340 : Keep h0 h335 [] := K330.trans Kx335 (all0)
    have O341 : Old Z n0 h335 := O331.keep Kx335 all0
    have C342 : CHr Z own_EL s.vm h0 T327.vm h335 := CHr.trans C332 (CHr.keep Kx335 all0 C332.1)
    have V343 : Arv Z h335 ar k278 (.object "com/example/subsume/subsume/axioms/AtomicConcept$Kind") (3 : Int32) [(.ref kN), (.ref kI), (.ref kM)] .null := V333.keep Kx335 nin0
    have Sr344 : StrIs Z h335 sa320 (if rl = 0 then ([] : List Int32) else if rl = 1 then [r0] else [r0, r1]) := Sr334.keep0 Kx335
    have Sr345 : StrIs Z h335 sa327 (if il = 0 then ([] : List Int32) else if il = 1 then [i0] else [i0, i1]) := S327.keep0 Kx335
    have hk346 := Nat.le_trans hk327 Kx335.1
    have F347 : Fld Z h335 x "com/example/subsume/subsume/axioms/AtomicConcept" "name" "Ljava/lang/String;" .null := Df335 (Or.inr (hw _ (List.mem_of_getElem? (i := 66) rfl))) (ty := (.object "java/lang/String")) (by decide)
    have F348 : Fld Z h335 x "com/example/subsume/subsume/axioms/AtomicConcept" "kind" "Lcom/example/subsume/subsume/axioms/AtomicConcept$Kind;" .null := Df335 (Or.inr (hw _ (List.mem_of_getElem? (i := 68) rfl))) (ty := (.object "com/example/subsume/subsume/axioms/AtomicConcept$Kind")) (by decide)
    show GoOn p e below (T335.setTop (mkF m 183 #[.val (.int p0), .val (.int p1), .val (.int p2), .val (.int r0), .val (.int r1), .val (.int s0), .val (.int s1), .val (.int md), .val (.int i0), .val (.int i1), .val (.int rl), .val (.int il), .val (.int ka), .val (.int kb), .val (.ref ar), .val (.ref sa320), .val (.ref sa327), .unset, .unset, .unset, .unset, .unset] [(.ref x)])) _
    refine GoOn.step (fun tq kq => XS.dup X335.here hx rfl (hb hby at_183) rfl rfl kq) ?_
    show GoOn p e below (T335.setTop (mkF m 184 #[.val (.int p0), .val (.int p1), .val (.int p2), .val (.int r0), .val (.int r1), .val (.int s0), .val (.int s1), .val (.int md), .val (.int i0), .val (.int i1), .val (.int rl), .val (.int il), .val (.int ka), .val (.int kb), .val (.ref ar), .val (.ref sa320), .val (.ref sa327), .unset, .unset, .unset, .unset, .unset] [(.ref x), (.ref x)])) _
    refine GoOn.step (fun tq kq => XS.aload X335.here hx rfl (hb hby at_184) rfl rfl kq) ?_
    show GoOn p e below (T335.setTop (mkF m 186 #[.val (.int p0), .val (.int p1), .val (.int p2), .val (.int r0), .val (.int r1), .val (.int s0), .val (.int s1), .val (.int md), .val (.int i0), .val (.int i1), .val (.int rl), .val (.int il), .val (.int ka), .val (.int kb), .val (.ref ar), .val (.ref sa320), .val (.ref sa327), .unset, .unset, .unset, .unset, .unset] [(.ref sa320), (.ref x), (.ref x)])) _
    refine GoOn.step (fun tq kq => XS.aload X335.here hx rfl (hb hby at_186) rfl rfl kq) ?_
    show GoOn p e below (T335.setTop (mkF m 188 #[.val (.int p0), .val (.int p1), .val (.int p2), .val (.int r0), .val (.int r1), .val (.int s0), .val (.int s1), .val (.int md), .val (.int i0), .val (.int i1), .val (.int rl), .val (.int il), .val (.int ka), .val (.int kb), .val (.ref ar), .val (.ref sa320), .val (.ref sa327), .unset, .unset, .unset, .unset, .unset] [(.ref ar), (.ref sa320), (.ref x), (.ref x)])) _
    refine GoOn.step (fun tq kq => XS.iload X335.here hx rfl (hb hby at_188) rfl kq) ?_
    show GoOn p e below (T335.setTop (mkF m 190 #[.val (.int p0), .val (.int p1), .val (.int p2), .val (.int r0), .val (.int r1), .val (.int s0), .val (.int s1), .val (.int md), .val (.int i0), .val (.int i1), .val (.int rl), .val (.int il), .val (.int ka), .val (.int kb), .val (.ref ar), .val (.ref sa320), .val (.ref sa327), .unset, .unset, .unset, .unset, .unset] [(.int ka), (.ref ar), (.ref sa320), (.ref x), (.ref x)])) _
    obtain ⟨cq349, Aq349, qq349, Sq349, Mq349, Hq349, Uq349⟩ := id V343
    refine GoOn.step (fun tq kq => X335.aaload hx (j := ka) (v := (.ref (if ka = 0 then kN else if ka = 1 then kI else kM))) (by rw [e335]; exact Aq349.1) (State.isArrayOf_alike hZ327.alike Aq349.2.1) rfl Aq349.2.2 (inb_of Sq349 (own_in3 hka)) (Hq349.at (inb_of Sq349 (own_in3 hka)) (own_at3 hka)) (g := (mkF m 190 #[.val (.int p0), .val (.int p1), .val (.int p2), .val (.int r0), .val (.int r1), .val (.int s0), .val (.int s1), .val (.int md), .val (.int i0), .val (.int i1), .val (.int rl), .val (.int il), .val (.int ka), .val (.int kb), .val (.ref ar), .val (.ref sa320), .val (.ref sa327), .unset, .unset, .unset, .unset, .unset] [(.int ka), (.ref ar), (.ref sa320), (.ref x), (.ref x)])) rfl rfl (hb hby at_190) _ kq) ?_
    show GoOn p e below (T335.setTop (mkF m 191 #[.val (.int p0), .val (.int p1), .val (.int p2), .val (.int r0), .val (.int r1), .val (.int s0), .val (.int s1), .val (.int md), .val (.int i0), .val (.int i1), .val (.int rl), .val (.int il), .val (.int ka), .val (.int kb), .val (.ref ar), .val (.ref sa320), .val (.ref sa327), .unset, .unset, .unset, .unset, .unset] [(.ref (if ka = 0 then kN else if ka = 1 then kI else kM)), (.ref sa320), (.ref x), (.ref x)])) _
    obtain ⟨_, _, ⟨T350, L350, k350, n350⟩, -, X350, hS350, hg350, ⟨Lc350, hQ350, l350, y350, z350, Cn350⟩, st350⟩ := X335.specialBackS hx (y := (⟨"com/example/subsume/subsume/axioms/AtomicConcept", "<init>", "(Ljava/lang/String;Lcom/example/subsume/subsume/axioms/AtomicConcept$Kind;)V"⟩ : MethodName)) rfl hown327 (mvT hZ327 (hw _ (List.mem_of_getElem? (i := 50) rfl))) (mvT hZ327 (hw _ (List.mem_of_getElem? (i := 51) rfl))) (mvT hZ327 (hw _ (List.mem_of_getElem? (i := 52) rfl))) (by decide) (backOfSH (W := 1) (rmACI l Z a0 hw x sa320 (if ka = 0 then kN else if ka = 1 then kI else kM) h335 n0 Z339 A335 F347 F348 gn336) hZ327 (hw _ (List.mem_of_getElem? (i := 52) rfl)) (hw _ (List.mem_of_getElem? (i := 49) rfl)) (by decide) (by decide) hEL C342.1) (g := (mkF m 191 #[.val (.int p0), .val (.int p1), .val (.int p2), .val (.int r0), .val (.int r1), .val (.int s0), .val (.int s1), .val (.int md), .val (.int i0), .val (.int i1), .val (.int rl), .val (.int il), .val (.int ka), .val (.int kb), .val (.ref ar), .val (.ref sa320), .val (.ref sa327), .unset, .unset, .unset, .unset, .unset] [(.ref (if ka = 0 then kN else if ka = 1 then kI else kM)), (.ref sa320), (.ref x), (.ref x)])) rfl (by rw [hml]; rfl) (Steps.refl _) (a := x) (argsL := [(.ref sa320), (.ref (if ka = 0 then kN else if ka = 1 then kI else kM))]) (rest := [(.ref x)]) (lenOf own_pd121 rfl) rfl (by show 2 * 0 + _ ≤ _; exact Nat.le_of_eq rfl) (hb hby at_191) (fun _ _ => ⟨rfl, e335, (by decide : 14 + 4 ≤ _), (by decide : 29 + 40 ≤ _)⟩)
    dsimp only [Pt.U, Pt.locs, Pt.cells, Pt.slots] at X350 l350 y350 z350 st350 hQ350 hS350 hg350 Cn350
    subst l350 y350 z350
    obtain ⟨rfl, N350, K350, E350, Fa350, Fb350⟩ := hQ350
    refine GoOn.trans st350 ?_
    replace X350 : Stand p l e _ (s.setVm T350.vm) m _ below meth c T350 _ _ _ := X350
    have hZ350 : Z.Warmed39 (s.setVm T350.vm).vm := State.Warmed39.trans (t := (s.setVm T327.vm)) hZ327 hS350.1
    have hown350 : (s.setVm T350.vm).vm.findClass "com/example/subsume/subsume/axioms/AtomicConceptEqualsPinLaw" = some m.cls := by rw [show (s.setVm T350.vm).vm = T350.vm from rfl, hS350.1.alike.findClass]; exact hown327
    have hSn350 : s.Since T350.vm T350.heap.size := foldS hSn327 (by rw [e335]; exact hk346) hS350 hg350
    have hk350 : T350.heap.size ≤ T350.heap.size := Nat.le_refl _
    have N351 := Fr.app N328 N350
    have Z352 : n0 ≤ T350.heap.size := Nat.le_trans Z339 K350.1
    have K353 : Keep h0 T350.heap [] := K340.trans K350 ((allS (Or.inr sz337) all0))
    have O354 : Old Z n0 T350.heap := O341.keep K350 (allS gn336 all0)
    have C355 : CHr Z own_EL s.vm h0 T350.vm T350.heap := CHr.trans C342 Cn350
    have V356 : Arv Z T350.heap ar k278 (.object "com/example/subsume/subsume/axioms/AtomicConcept$Kind") (3 : Int32) [(.ref kN), (.ref kI), (.ref kM)] .null := V343.keep K350 (ninS ne338 nin0)
    have Sr357 : StrIs Z T350.heap sa320 (if rl = 0 then ([] : List Int32) else if rl = 1 then [r0] else [r0, r1]) := Sr344.keepX K350 A335 (hw _ (List.mem_of_getElem? (i := 48) rfl)) (by decide)
    have Sr358 : StrIs Z T350.heap sa327 (if il = 0 then ([] : List Int32) else if il = 1 then [i0] else [i0, i1]) := Sr345.keepX K350 A335 (hw _ (List.mem_of_getElem? (i := 48) rfl)) (by decide)
    have E359 : Exa Z T350.heap x "com/example/subsume/subsume/axioms/AtomicConcept" := A335.keep K350
    show GoOn p e below (T350.setTop (mkF m 194 #[.val (.int p0), .val (.int p1), .val (.int p2), .val (.int r0), .val (.int r1), .val (.int s0), .val (.int s1), .val (.int md), .val (.int i0), .val (.int i1), .val (.int rl), .val (.int il), .val (.int ka), .val (.int kb), .val (.ref ar), .val (.ref sa320), .val (.ref sa327), .unset, .unset, .unset, .unset, .unset] [(.ref x)])) _
    refine GoOn.step (fun tq kq => XS.astore X350.here hx rfl (hb hby at_194) rfl rfl (l' := #[.val (.int p0), .val (.int p1), .val (.int p2), .val (.int r0), .val (.int r1), .val (.int s0), .val (.int s1), .val (.int md), .val (.int i0), .val (.int i1), .val (.int rl), .val (.int il), .val (.int ka), .val (.int kb), .val (.ref ar), .val (.ref sa320), .val (.ref sa327), .val (.ref x), .unset, .unset, .unset, .unset]) rfl kq) ?_
    show GoOn p e below (T350.setTop (mkF m 196 #[.val (.int p0), .val (.int p1), .val (.int p2), .val (.int r0), .val (.int r1), .val (.int s0), .val (.int s1), .val (.int md), .val (.int i0), .val (.int i1), .val (.int rl), .val (.int il), .val (.int ka), .val (.int kb), .val (.ref ar), .val (.ref sa320), .val (.ref sa327), .val (.ref x), .unset, .unset, .unset, .unset] [])) _
    obtain ⟨T362, h362, X362, e362, Ex362, A362, Df362, -, st362⟩ := newO X350 hx hZ350 hown350 (hw _ (List.mem_of_getElem? (i := 47) rfl)) (hw _ (List.mem_of_getElem? (i := 48) rfl)) (hw _ (List.mem_of_getElem? (i := 49) rfl)) rfl (g := (mkF m 196 #[.val (.int p0), .val (.int p1), .val (.int p2), .val (.int r0), .val (.int r1), .val (.int s0), .val (.int s1), .val (.int md), .val (.int i0), .val (.int i1), .val (.int rl), .val (.int il), .val (.int ka), .val (.int kb), .val (.ref ar), .val (.ref sa320), .val (.ref sa327), .val (.ref x), .unset, .unset, .unset, .unset] [])) rfl (hb hby at_196) (by decide) (by decide)
    obtain ⟨y, g362⟩ : ∃ z, z = T350.heap.size := ⟨_, rfl⟩
    rw [← g362] at A362 Df362 st362
    have gn363 : n0 ≤ y := Nat.le_trans Z352 (Nat.le_of_eq g362.symm)
    have sz364 : h0.size ≤ y := Nat.le_trans K353.1 (Nat.le_of_eq g362.symm)
    have ne365 : ar ≠ y := Nat.ne_of_lt (Nat.lt_of_lt_of_le V356.lt (Nat.le_of_eq g362.symm))
    have ne366 : x ≠ y := Nat.ne_of_lt (Nat.lt_of_lt_of_le E359.lt (Nat.le_of_eq g362.symm))
    have Kx362 : Keep T350.heap h362 [] := (Keep.refl _ _).ext Ex362
    refine GoOn.step st362 ?_
    have Z367 : n0 ≤ h362.size := Nat.le_trans Z352 Kx362.1
    have K368 : Keep h0 h362 [] := K353.trans Kx362 (all0)
    have O369 : Old Z n0 h362 := O354.keep Kx362 all0
    have C370 : CHr Z own_EL s.vm h0 T350.vm h362 := CHr.trans C355 (CHr.keep Kx362 all0 C355.1)
    have V371 : Arv Z h362 ar k278 (.object "com/example/subsume/subsume/axioms/AtomicConcept$Kind") (3 : Int32) [(.ref kN), (.ref kI), (.ref kM)] .null := V356.keep Kx362 nin0
    have Sr372 : StrIs Z h362 sa320 (if rl = 0 then ([] : List Int32) else if rl = 1 then [r0] else [r0, r1]) := Sr357.keep0 Kx362
    have Sr373 : StrIs Z h362 sa327 (if il = 0 then ([] : List Int32) else if il = 1 then [i0] else [i0, i1]) := Sr358.keep0 Kx362
    have E374 : Exa Z h362 x "com/example/subsume/subsume/axioms/AtomicConcept" := E359.keep Kx362
    have F375 : Fld Z h362 x "com/example/subsume/subsume/axioms/AtomicConcept" "name" "Ljava/lang/String;" (.ref sa320) := Fa350.keep Kx362 nin0
    have F376 : Fld Z h362 x "com/example/subsume/subsume/axioms/AtomicConcept" "kind" "Lcom/example/subsume/subsume/axioms/AtomicConcept$Kind;" (.ref (if ka = 0 then kN else if ka = 1 then kI else kM)) := Fb350.keep Kx362 nin0
    have hk377 := Nat.le_trans hk350 Kx362.1
    have F378 : Fld Z h362 y "com/example/subsume/subsume/axioms/AtomicConcept" "name" "Ljava/lang/String;" .null := Df362 (Or.inr (hw _ (List.mem_of_getElem? (i := 66) rfl))) (ty := (.object "java/lang/String")) (by decide)
    have F379 : Fld Z h362 y "com/example/subsume/subsume/axioms/AtomicConcept" "kind" "Lcom/example/subsume/subsume/axioms/AtomicConcept$Kind;" .null := Df362 (Or.inr (hw _ (List.mem_of_getElem? (i := 68) rfl))) (ty := (.object "com/example/subsume/subsume/axioms/AtomicConcept$Kind")) (by decide)
    show GoOn p e below (T362.setTop (mkF m 199 #[.val (.int p0), .val (.int p1), .val (.int p2), .val (.int r0), .val (.int r1), .val (.int s0), .val (.int s1), .val (.int md), .val (.int i0), .val (.int i1), .val (.int rl), .val (.int il), .val (.int ka), .val (.int kb), .val (.ref ar), .val (.ref sa320), .val (.ref sa327), .val (.ref x), .unset, .unset, .unset, .unset] [(.ref y)])) _
    refine GoOn.step (fun tq kq => XS.dup X362.here hx rfl (hb hby at_199) rfl rfl kq) ?_
    show GoOn p e below (T362.setTop (mkF m 200 #[.val (.int p0), .val (.int p1), .val (.int p2), .val (.int r0), .val (.int r1), .val (.int s0), .val (.int s1), .val (.int md), .val (.int i0), .val (.int i1), .val (.int rl), .val (.int il), .val (.int ka), .val (.int kb), .val (.ref ar), .val (.ref sa320), .val (.ref sa327), .val (.ref x), .unset, .unset, .unset, .unset] [(.ref y), (.ref y)])) _
    refine GoOn.step (fun tq kq => XS.aload X362.here hx rfl (hb hby at_200) rfl rfl kq) ?_
    show GoOn p e below (T362.setTop (mkF m 202 #[.val (.int p0), .val (.int p1), .val (.int p2), .val (.int r0), .val (.int r1), .val (.int s0), .val (.int s1), .val (.int md), .val (.int i0), .val (.int i1), .val (.int rl), .val (.int il), .val (.int ka), .val (.int kb), .val (.ref ar), .val (.ref sa320), .val (.ref sa327), .val (.ref x), .unset, .unset, .unset, .unset] [(.ref sa327), (.ref y), (.ref y)])) _
    refine GoOn.step (fun tq kq => XS.aload X362.here hx rfl (hb hby at_202) rfl rfl kq) ?_
    show GoOn p e below (T362.setTop (mkF m 204 #[.val (.int p0), .val (.int p1), .val (.int p2), .val (.int r0), .val (.int r1), .val (.int s0), .val (.int s1), .val (.int md), .val (.int i0), .val (.int i1), .val (.int rl), .val (.int il), .val (.int ka), .val (.int kb), .val (.ref ar), .val (.ref sa320), .val (.ref sa327), .val (.ref x), .unset, .unset, .unset, .unset] [(.ref ar), (.ref sa327), (.ref y), (.ref y)])) _
    refine GoOn.step (fun tq kq => XS.iload X362.here hx rfl (hb hby at_204) rfl kq) ?_
    show GoOn p e below (T362.setTop (mkF m 206 #[.val (.int p0), .val (.int p1), .val (.int p2), .val (.int r0), .val (.int r1), .val (.int s0), .val (.int s1), .val (.int md), .val (.int i0), .val (.int i1), .val (.int rl), .val (.int il), .val (.int ka), .val (.int kb), .val (.ref ar), .val (.ref sa320), .val (.ref sa327), .val (.ref x), .unset, .unset, .unset, .unset] [(.int kb), (.ref ar), (.ref sa327), (.ref y), (.ref y)])) _
    obtain ⟨cq380, Aq380, qq380, Sq380, Mq380, Hq380, Uq380⟩ := id V371
    refine GoOn.step (fun tq kq => X362.aaload hx (j := kb) (v := (.ref (if kb = 0 then kN else if kb = 1 then kI else kM))) (by rw [e362]; exact Aq380.1) (State.isArrayOf_alike hZ350.alike Aq380.2.1) rfl Aq380.2.2 (inb_of Sq380 (own_in3 hkb)) (Hq380.at (inb_of Sq380 (own_in3 hkb)) (own_at3 hkb)) (g := (mkF m 206 #[.val (.int p0), .val (.int p1), .val (.int p2), .val (.int r0), .val (.int r1), .val (.int s0), .val (.int s1), .val (.int md), .val (.int i0), .val (.int i1), .val (.int rl), .val (.int il), .val (.int ka), .val (.int kb), .val (.ref ar), .val (.ref sa320), .val (.ref sa327), .val (.ref x), .unset, .unset, .unset, .unset] [(.int kb), (.ref ar), (.ref sa327), (.ref y), (.ref y)])) rfl rfl (hb hby at_206) _ kq) ?_
    show GoOn p e below (T362.setTop (mkF m 207 #[.val (.int p0), .val (.int p1), .val (.int p2), .val (.int r0), .val (.int r1), .val (.int s0), .val (.int s1), .val (.int md), .val (.int i0), .val (.int i1), .val (.int rl), .val (.int il), .val (.int ka), .val (.int kb), .val (.ref ar), .val (.ref sa320), .val (.ref sa327), .val (.ref x), .unset, .unset, .unset, .unset] [(.ref (if kb = 0 then kN else if kb = 1 then kI else kM)), (.ref sa327), (.ref y), (.ref y)])) _
    obtain ⟨_, _, ⟨T381, L381, k381, n381⟩, -, X381, hS381, hg381, ⟨Lc381, hQ381, l381, y381, z381, Cn381⟩, st381⟩ := X362.specialBackS hx (y := (⟨"com/example/subsume/subsume/axioms/AtomicConcept", "<init>", "(Ljava/lang/String;Lcom/example/subsume/subsume/axioms/AtomicConcept$Kind;)V"⟩ : MethodName)) rfl hown350 (mvT hZ350 (hw _ (List.mem_of_getElem? (i := 50) rfl))) (mvT hZ350 (hw _ (List.mem_of_getElem? (i := 51) rfl))) (mvT hZ350 (hw _ (List.mem_of_getElem? (i := 52) rfl))) (by decide) (backOfSH (W := 1) (rmACI l Z a0 hw y sa327 (if kb = 0 then kN else if kb = 1 then kI else kM) h362 n0 Z367 A362 F378 F379 gn363) hZ350 (hw _ (List.mem_of_getElem? (i := 52) rfl)) (hw _ (List.mem_of_getElem? (i := 49) rfl)) (by decide) (by decide) hEL C370.1) (g := (mkF m 207 #[.val (.int p0), .val (.int p1), .val (.int p2), .val (.int r0), .val (.int r1), .val (.int s0), .val (.int s1), .val (.int md), .val (.int i0), .val (.int i1), .val (.int rl), .val (.int il), .val (.int ka), .val (.int kb), .val (.ref ar), .val (.ref sa320), .val (.ref sa327), .val (.ref x), .unset, .unset, .unset, .unset] [(.ref (if kb = 0 then kN else if kb = 1 then kI else kM)), (.ref sa327), (.ref y), (.ref y)])) rfl (by rw [hml]; rfl) (Steps.refl _) (a := y) (argsL := [(.ref sa327), (.ref (if kb = 0 then kN else if kb = 1 then kI else kM))]) (rest := [(.ref y)]) (lenOf own_pd121 rfl) rfl (by show 2 * 0 + _ ≤ _; exact Nat.le_of_eq rfl) (hb hby at_207) (fun _ _ => ⟨rfl, e362, (by decide : 19 + 4 ≤ _), (by decide : 71 + 40 ≤ _)⟩)
    dsimp only [Pt.U, Pt.locs, Pt.cells, Pt.slots] at X381 l381 y381 z381 st381 hQ381 hS381 hg381 Cn381
    subst l381 y381 z381
    obtain ⟨rfl, N381, K381, E381, Fa381, Fb381⟩ := hQ381
    refine GoOn.trans st381 ?_
    replace X381 : Stand p l e _ (s.setVm T381.vm) m _ below meth c T381 _ _ _ := X381
    have hZ381 : Z.Warmed39 (s.setVm T381.vm).vm := State.Warmed39.trans (t := (s.setVm T350.vm)) hZ350 hS381.1
    have hown381 : (s.setVm T381.vm).vm.findClass "com/example/subsume/subsume/axioms/AtomicConceptEqualsPinLaw" = some m.cls := by rw [show (s.setVm T381.vm).vm = T381.vm from rfl, hS381.1.alike.findClass]; exact hown350
    have hSn381 : s.Since T381.vm T381.heap.size := foldS hSn350 (by rw [e362]; exact hk377) hS381 hg381
    have hk381 : T381.heap.size ≤ T381.heap.size := Nat.le_refl _
    have N382 := Fr.app N351 N381
    have Z383 : n0 ≤ T381.heap.size := Nat.le_trans Z367 K381.1
    have K384 : Keep h0 T381.heap [] := K368.trans K381 ((allS (Or.inr sz364) all0))
    have O385 : Old Z n0 T381.heap := O369.keep K381 (allS gn363 all0)
    have C386 : CHr Z own_EL s.vm h0 T381.vm T381.heap := CHr.trans C370 Cn381
    have V387 : Arv Z T381.heap ar k278 (.object "com/example/subsume/subsume/axioms/AtomicConcept$Kind") (3 : Int32) [(.ref kN), (.ref kI), (.ref kM)] .null := V371.keep K381 (ninS ne365 nin0)
    have Sr388 : StrIs Z T381.heap sa320 (if rl = 0 then ([] : List Int32) else if rl = 1 then [r0] else [r0, r1]) := Sr372.keepX K381 A362 (hw _ (List.mem_of_getElem? (i := 48) rfl)) (by decide)
    have Sr389 : StrIs Z T381.heap sa327 (if il = 0 then ([] : List Int32) else if il = 1 then [i0] else [i0, i1]) := Sr373.keepX K381 A362 (hw _ (List.mem_of_getElem? (i := 48) rfl)) (by decide)
    have E390 : Exa Z T381.heap x "com/example/subsume/subsume/axioms/AtomicConcept" := E374.keep K381
    have F391 : Fld Z T381.heap x "com/example/subsume/subsume/axioms/AtomicConcept" "name" "Ljava/lang/String;" (.ref sa320) := F375.keep K381 (ninS ne366 nin0)
    have F392 : Fld Z T381.heap x "com/example/subsume/subsume/axioms/AtomicConcept" "kind" "Lcom/example/subsume/subsume/axioms/AtomicConcept$Kind;" (.ref (if ka = 0 then kN else if ka = 1 then kI else kM)) := F376.keep K381 (ninS ne366 nin0)
    have E393 : Exa Z T381.heap y "com/example/subsume/subsume/axioms/AtomicConcept" := A362.keep K381
    show GoOn p e below (T381.setTop (mkF m 210 #[.val (.int p0), .val (.int p1), .val (.int p2), .val (.int r0), .val (.int r1), .val (.int s0), .val (.int s1), .val (.int md), .val (.int i0), .val (.int i1), .val (.int rl), .val (.int il), .val (.int ka), .val (.int kb), .val (.ref ar), .val (.ref sa320), .val (.ref sa327), .val (.ref x), .unset, .unset, .unset, .unset] [(.ref y)])) _
    refine GoOn.step (fun tq kq => XS.astore X381.here hx rfl (hb hby at_210) rfl rfl (l' := #[.val (.int p0), .val (.int p1), .val (.int p2), .val (.int r0), .val (.int r1), .val (.int s0), .val (.int s1), .val (.int md), .val (.int i0), .val (.int i1), .val (.int rl), .val (.int il), .val (.int ka), .val (.int kb), .val (.ref ar), .val (.ref sa320), .val (.ref sa327), .val (.ref x), .val (.ref y), .unset, .unset, .unset]) rfl kq) ?_
    show GoOn p e below (T381.setTop (mkF m 212 #[.val (.int p0), .val (.int p1), .val (.int p2), .val (.int r0), .val (.int r1), .val (.int s0), .val (.int s1), .val (.int md), .val (.int i0), .val (.int i1), .val (.int rl), .val (.int il), .val (.int ka), .val (.int kb), .val (.ref ar), .val (.ref sa320), .val (.ref sa327), .val (.ref x), .val (.ref y), .unset, .unset, .unset] [])) _
    refine GoOn.step (fun tq kq => XS.iload X381.here hx rfl (hb hby at_212) rfl kq) ?_
    show GoOn p e below (T381.setTop (mkF m 214 #[.val (.int p0), .val (.int p1), .val (.int p2), .val (.int r0), .val (.int r1), .val (.int s0), .val (.int s1), .val (.int md), .val (.int i0), .val (.int i1), .val (.int rl), .val (.int il), .val (.int ka), .val (.int kb), .val (.ref ar), .val (.ref sa320), .val (.ref sa327), .val (.ref x), .val (.ref y), .unset, .unset, .unset] [(.int rl)])) _
    refine GoOn.step (fun tq kq => XS.iload X381.here hx rfl (hb hby at_214) rfl kq) ?_
    show GoOn p e below (T381.setTop (mkF m 216 #[.val (.int p0), .val (.int p1), .val (.int p2), .val (.int r0), .val (.int r1), .val (.int s0), .val (.int s1), .val (.int md), .val (.int i0), .val (.int i1), .val (.int rl), .val (.int il), .val (.int ka), .val (.int kb), .val (.ref ar), .val (.ref sa320), .val (.ref sa327), .val (.ref x), .val (.ref y), .unset, .unset, .unset] [(.int il), (.int rl)])) _
    have J268 : ∀ (vj405 : Vm) (kj405 : Nat) (Tj405 : State) (lj405 : List Loc) (hj405 : Heap) (sn ex : Int32) (Xj405 : Stand p l e room_1 (s.setVm vj405) m #[(.int p0), (.int p1), (.int p2)] below meth c Tj405 lj405 23 111) (ej405 : Tj405.heap = hj405) (Nj405 : Fr n0 lj405) (hZj405 : Z.Warmed39 (s.setVm vj405).vm) (hownj405 : (s.setVm vj405).vm.findClass "com/example/subsume/subsume/axioms/AtomicConceptEqualsPinLaw" = some m.cls) (hSj405 : s.Since vj405 kj405) (hkj405 : kj405 ≤ hj405.size) (Cj405 : CHr Z own_EL s.vm h0 vj405 hj405) (Zj405 : n0 ≤ hj405.size) (Kj405 : Keep h0 hj405 []) (O396 : Old Z n0 hj405) (E397 : Exa Z hj405 x "com/example/subsume/subsume/axioms/AtomicConcept") (E398 : Exa Z hj405 y "com/example/subsume/subsume/axioms/AtomicConcept") (F399 : Fld Z hj405 x "com/example/subsume/subsume/axioms/AtomicConcept" "name" "Ljava/lang/String;" (.ref sa320)) (F400 : Fld Z hj405 x "com/example/subsume/subsume/axioms/AtomicConcept" "kind" "Lcom/example/subsume/subsume/axioms/AtomicConcept$Kind;" (.ref (if ka = 0 then kN else if ka = 1 then kI else kM))) (F401 : Fld Z hj405 y "com/example/subsume/subsume/axioms/AtomicConcept" "name" "Ljava/lang/String;" (.ref sa327)) (F402 : Fld Z hj405 y "com/example/subsume/subsume/axioms/AtomicConcept" "kind" "Lcom/example/subsume/subsume/axioms/AtomicConcept$Kind;" (.ref (if kb = 0 then kN else if kb = 1 then kI else kM))) (Sr403 : StrIs Z hj405 sa320 (if rl = 0 then ([] : List Int32) else if rl = 1 then [r0] else [r0, r1])) (Sr404 : StrIs Z hj405 sa327 (if il = 0 then ([] : List Int32) else if il = 1 then [i0] else [i0, i1])) (hex : (ex = 1 ∧ ((if rl = 0 then ([] : List Int32) else if rl = 1 then [r0] else [r0, r1]) = (if il = 0 then ([] : List Int32) else if il = 1 then [i0] else [i0, i1]) ∧ (if ka = 0 then kN else if ka = 1 then kI else kM) = (if kb = 0 then kN else if kb = 1 then kI else kM))) ∨ (ex = 0 ∧ ¬ ((if rl = 0 then ([] : List Int32) else if rl = 1 then [r0] else [r0, r1]) = (if il = 0 then ([] : List Int32) else if il = 1 then [i0] else [i0, i1]) ∧ (if ka = 0 then kN else if ka = 1 then kI else kM) = (if kb = 0 then kN else if kb = 1 then kI else kM)))), GoOn p e below (Tj405.setTop (mkF m 268 #[.val (.int p0), .val (.int p1), .val (.int p2), .val (.int r0), .val (.int r1), .val (.int s0), .val (.int s1), .val (.int md), .val (.int i0), .val (.int i1), .val (.int rl), .val (.int il), .val (.int ka), .val (.int kb), .val (.ref ar), .val (.ref sa320), .val (.ref sa327), .val (.ref x), .val (.ref y), .val (.int sn), .unset, .unset] [(.int ex)])) (PostH Z own_EL s (QLaw h0 n0) 32 3200) := by
      intro vj405 kj405 Tj405 lj405 hj405 sn ex Xj405 ej405 Nj405 hZj405 hownj405 hSj405 hkj405 Cj405 Zj405 Kj405 O396 E397 E398 F399 F400 F401 F402 Sr403 Sr404 hex
      refine GoOn.step (fun tq kq => XS.istore Xj405.here hx rfl (hb hby at_268) rfl (l' := #[.val (.int p0), .val (.int p1), .val (.int p2), .val (.int r0), .val (.int r1), .val (.int s0), .val (.int s1), .val (.int md), .val (.int i0), .val (.int i1), .val (.int rl), .val (.int il), .val (.int ka), .val (.int kb), .val (.ref ar), .val (.ref sa320), .val (.ref sa327), .val (.ref x), .val (.ref y), .val (.int sn), .val (.int ex), .unset]) rfl kq) ?_
      show GoOn p e below (Tj405.setTop (mkF m 270 #[.val (.int p0), .val (.int p1), .val (.int p2), .val (.int r0), .val (.int r1), .val (.int s0), .val (.int s1), .val (.int md), .val (.int i0), .val (.int i1), .val (.int rl), .val (.int il), .val (.int ka), .val (.int kb), .val (.ref ar), .val (.ref sa320), .val (.ref sa327), .val (.ref x), .val (.ref y), .val (.int sn), .val (.int ex), .unset] [])) _
      refine GoOn.step (fun tq kq => XS.aconstNull Xj405.here hx rfl (hb hby at_270) kq) ?_
      show GoOn p e below (Tj405.setTop (mkF m 271 #[.val (.int p0), .val (.int p1), .val (.int p2), .val (.int r0), .val (.int r1), .val (.int s0), .val (.int s1), .val (.int md), .val (.int i0), .val (.int i1), .val (.int rl), .val (.int il), .val (.int ka), .val (.int kb), .val (.ref ar), .val (.ref sa320), .val (.ref sa327), .val (.ref x), .val (.ref y), .val (.int sn), .val (.int ex), .unset] [.null])) _
      refine GoOn.step (fun tq kq => XS.astore Xj405.here hx rfl (hb hby at_271) rfl rfl (l' := #[.val (.int p0), .val (.int p1), .val (.int p2), .val (.int r0), .val (.int r1), .val (.int s0), .val (.int s1), .val (.int md), .val (.int i0), .val (.int i1), .val (.int rl), .val (.int il), .val (.int ka), .val (.int kb), .val (.ref ar), .val (.ref sa320), .val (.ref sa327), .val (.ref x), .val (.ref y), .val (.int sn), .val (.int ex), .val .null]) rfl kq) ?_
      show GoOn p e below (Tj405.setTop (mkF m 273 #[.val (.int p0), .val (.int p1), .val (.int p2), .val (.int r0), .val (.int r1), .val (.int s0), .val (.int s1), .val (.int md), .val (.int i0), .val (.int i1), .val (.int rl), .val (.int il), .val (.int ka), .val (.int kb), .val (.ref ar), .val (.ref sa320), .val (.ref sa327), .val (.ref x), .val (.ref y), .val (.int sn), .val (.int ex), .val .null] [])) _
      refine GoOn.step (fun tq kq => XS.aload Xj405.here hx rfl (hb hby at_273) rfl rfl kq) ?_
      show GoOn p e below (Tj405.setTop (mkF m 275 #[.val (.int p0), .val (.int p1), .val (.int p2), .val (.int r0), .val (.int r1), .val (.int s0), .val (.int s1), .val (.int md), .val (.int i0), .val (.int i1), .val (.int rl), .val (.int il), .val (.int ka), .val (.int kb), .val (.ref ar), .val (.ref sa320), .val (.ref sa327), .val (.ref x), .val (.ref y), .val (.int sn), .val (.int ex), .val .null] [(.ref x)])) _
      refine GoOn.step (fun tq kq => XS.aload Xj405.here hx rfl (hb hby at_275) rfl rfl kq) ?_
      show GoOn p e below (Tj405.setTop (mkF m 277 #[.val (.int p0), .val (.int p1), .val (.int p2), .val (.int r0), .val (.int r1), .val (.int s0), .val (.int s1), .val (.int md), .val (.int i0), .val (.int i1), .val (.int rl), .val (.int il), .val (.int ka), .val (.int kb), .val (.ref ar), .val (.ref sa320), .val (.ref sa327), .val (.ref x), .val (.ref y), .val (.int sn), .val (.int ex), .val .null] [(.ref y), (.ref x)])) _
      obtain ⟨cqc407, kqc407, qac407, qbc407, qcc407⟩ := isOf hZj405 ej405 E397
      obtain ⟨_, _, ⟨T406, L406, k406, n406⟩, -, X406, ⟨Lc406, hQ406, l406, y406, z406⟩, st406⟩ := Xj405.virtualBack hx (y := (⟨"com/example/subsume/subsume/axioms/AtomicConcept", "equals", "(Ljava/lang/Object;)Z"⟩ : MethodName)) (z := (⟨"com/example/subsume/subsume/axioms/AtomicConcept", "equals", "(Ljava/lang/Object;)Z"⟩ : MethodName)) hownj405 (mvT hZj405 (hw _ (List.mem_of_getElem? (i := 69) rfl))) (mvT hZj405 (hw _ (List.mem_of_getElem? (i := 70) rfl))) (notFace_of_selects (args := #[]) (mvT hZj405 (hw _ (List.mem_of_getElem? (i := 72) rfl)))) (mvT hZj405 (hw _ (List.mem_of_getElem? (i := 72) rfl))) (mvT hZj405 (hw _ (List.mem_of_getElem? (i := 71) rfl))) (by decide) (backOf (W := 0) (rmTE2 l Z a0 hw x y sa320 (if ka = 0 then kN else if ka = 1 then kI else kM) sa327 (if kb = 0 then kN else if kb = 1 then kI else kM) (if rl = 0 then ([] : List Int32) else if rl = 1 then [r0] else [r0, r1]) (if il = 0 then ([] : List Int32) else if il = 1 then [i0] else [i0, i1]) G1 hj405 n0 Zj405 SC PC E398 F399 F400 F401 F402 Sr403 Sr404 O396) hZj405 (hw _ (List.mem_of_getElem? (i := 73) rfl)) (hw _ (List.mem_of_getElem? (i := 49) rfl)) (by decide) (by decide)) qac407 qcc407 (g := (mkF m 277 #[.val (.int p0), .val (.int p1), .val (.int p2), .val (.int r0), .val (.int r1), .val (.int s0), .val (.int s1), .val (.int md), .val (.int i0), .val (.int i1), .val (.int rl), .val (.int il), .val (.int ka), .val (.int kb), .val (.ref ar), .val (.ref sa320), .val (.ref sa327), .val (.ref x), .val (.ref y), .val (.int sn), .val (.int ex), .val .null] [(.ref y), (.ref x)])) rfl (by rw [hml]; rfl) (Steps.refl _) (argsL := [(.ref y)]) (rest := []) (lenOf own_pd109 rfl) rfl (by show 2 * 0 + _ ≤ _; exact Nat.le_of_eq rfl) (hb hby at_277) (fun _ _ => ⟨rfl, ej405, (by decide : 23 + 0 ≤ _), (by decide : 111 + 0 ≤ _)⟩)
      dsimp only [Pt.U, Pt.locs, Pt.cells, Pt.slots] at X406 l406 y406 z406 st406 hQ406
      subst l406 y406 z406
      obtain ⟨rfl, N406, e406⟩ := hQ406
      refine GoOn.trans st406 ?_
      have N408 := Fr.app Nj405 N406
      show GoOn p e below (T406.setTop (mkF m 280 #[.val (.int p0), .val (.int p1), .val (.int p2), .val (.int r0), .val (.int r1), .val (.int s0), .val (.int s1), .val (.int md), .val (.int i0), .val (.int i1), .val (.int rl), .val (.int il), .val (.int ka), .val (.int kb), .val (.ref ar), .val (.ref sa320), .val (.ref sa327), .val (.ref x), .val (.ref y), .val (.int sn), .val (.int ex), .val .null] [(.int (if (if rl = 0 then ([] : List Int32) else if rl = 1 then [r0] else [r0, r1]) = (if il = 0 then ([] : List Int32) else if il = 1 then [i0] else [i0, i1]) ∧ (if ka = 0 then kN else if ka = 1 then kI else kM) = (if kb = 0 then kN else if kb = 1 then kI else kM) then 1 else 0))])) _
      refine GoOn.step (fun tq kq => XS.iload X406.here hx rfl (hb hby at_280) rfl kq) ?_
      show GoOn p e below (T406.setTop (mkF m 282 #[.val (.int p0), .val (.int p1), .val (.int p2), .val (.int r0), .val (.int r1), .val (.int s0), .val (.int s1), .val (.int md), .val (.int i0), .val (.int i1), .val (.int rl), .val (.int il), .val (.int ka), .val (.int kb), .val (.ref ar), .val (.ref sa320), .val (.ref sa327), .val (.ref x), .val (.ref y), .val (.int sn), .val (.int ex), .val .null] [(.int ex), (.int (if (if rl = 0 then ([] : List Int32) else if rl = 1 then [r0] else [r0, r1]) = (if il = 0 then ([] : List Int32) else if il = 1 then [i0] else [i0, i1]) ∧ (if ka = 0 then kN else if ka = 1 then kI else kM) = (if kb = 0 then kN else if kb = 1 then kI else kM) then 1 else 0))])) _
      refine GoOn.step (fun tq kq => XS.icmpNo X406.here hx rfl (hb hby at_282) rfl (teq (own_if2 hex)).2 kq) ?_
      show GoOn p e below (T406.setTop (mkF m 285 #[.val (.int p0), .val (.int p1), .val (.int p2), .val (.int r0), .val (.int r1), .val (.int s0), .val (.int s1), .val (.int md), .val (.int i0), .val (.int i1), .val (.int rl), .val (.int il), .val (.int ka), .val (.int kb), .val (.ref ar), .val (.ref sa320), .val (.ref sa327), .val (.ref x), .val (.ref y), .val (.int sn), .val (.int ex), .val .null] [])) _
      refine GoOn.step (fun tq kq => XS.aload X406.here hx rfl (hb hby at_285) rfl rfl kq) ?_
      show GoOn p e below (T406.setTop (mkF m 287 #[.val (.int p0), .val (.int p1), .val (.int p2), .val (.int r0), .val (.int r1), .val (.int s0), .val (.int s1), .val (.int md), .val (.int i0), .val (.int i1), .val (.int rl), .val (.int il), .val (.int ka), .val (.int kb), .val (.ref ar), .val (.ref sa320), .val (.ref sa327), .val (.ref x), .val (.ref y), .val (.int sn), .val (.int ex), .val .null] [(.ref y)])) _
      refine GoOn.step (fun tq kq => XS.aload X406.here hx rfl (hb hby at_287) rfl rfl kq) ?_
      show GoOn p e below (T406.setTop (mkF m 289 #[.val (.int p0), .val (.int p1), .val (.int p2), .val (.int r0), .val (.int r1), .val (.int s0), .val (.int s1), .val (.int md), .val (.int i0), .val (.int i1), .val (.int rl), .val (.int il), .val (.int ka), .val (.int kb), .val (.ref ar), .val (.ref sa320), .val (.ref sa327), .val (.ref x), .val (.ref y), .val (.int sn), .val (.int ex), .val .null] [(.ref x), (.ref y)])) _
      obtain ⟨cqc410, kqc410, qac410, qbc410, qcc410⟩ := isOf hZj405 e406 E398
      obtain ⟨_, _, ⟨T409, L409, k409, n409⟩, -, X409, ⟨Lc409, hQ409, l409, y409, z409⟩, st409⟩ := X406.virtualBack hx (y := (⟨"com/example/subsume/subsume/axioms/AtomicConcept", "equals", "(Ljava/lang/Object;)Z"⟩ : MethodName)) (z := (⟨"com/example/subsume/subsume/axioms/AtomicConcept", "equals", "(Ljava/lang/Object;)Z"⟩ : MethodName)) hownj405 (mvT hZj405 (hw _ (List.mem_of_getElem? (i := 69) rfl))) (mvT hZj405 (hw _ (List.mem_of_getElem? (i := 70) rfl))) (notFace_of_selects (args := #[]) (mvT hZj405 (hw _ (List.mem_of_getElem? (i := 72) rfl)))) (mvT hZj405 (hw _ (List.mem_of_getElem? (i := 72) rfl))) (mvT hZj405 (hw _ (List.mem_of_getElem? (i := 71) rfl))) (by decide) (backOf (W := 0) (rmTE2 l Z a0 hw y x sa327 (if kb = 0 then kN else if kb = 1 then kI else kM) sa320 (if ka = 0 then kN else if ka = 1 then kI else kM) (if il = 0 then ([] : List Int32) else if il = 1 then [i0] else [i0, i1]) (if rl = 0 then ([] : List Int32) else if rl = 1 then [r0] else [r0, r1]) G1 hj405 n0 Zj405 SC PC E397 F401 F402 F399 F400 Sr404 Sr403 O396) hZj405 (hw _ (List.mem_of_getElem? (i := 73) rfl)) (hw _ (List.mem_of_getElem? (i := 49) rfl)) (by decide) (by decide)) qac410 qcc410 (g := (mkF m 289 #[.val (.int p0), .val (.int p1), .val (.int p2), .val (.int r0), .val (.int r1), .val (.int s0), .val (.int s1), .val (.int md), .val (.int i0), .val (.int i1), .val (.int rl), .val (.int il), .val (.int ka), .val (.int kb), .val (.ref ar), .val (.ref sa320), .val (.ref sa327), .val (.ref x), .val (.ref y), .val (.int sn), .val (.int ex), .val .null] [(.ref x), (.ref y)])) rfl (by rw [hml]; rfl) (Steps.refl _) (argsL := [(.ref x)]) (rest := []) (lenOf own_pd109 rfl) rfl (by show 2 * 0 + _ ≤ _; exact Nat.le_of_eq rfl) (hb hby at_289) (fun _ _ => ⟨rfl, e406, (by decide : 23 + 0 ≤ _), (by decide : 111 + 0 ≤ _)⟩)
      dsimp only [Pt.U, Pt.locs, Pt.cells, Pt.slots] at X409 l409 y409 z409 st409 hQ409
      subst l409 y409 z409
      obtain ⟨rfl, N409, e409⟩ := hQ409
      refine GoOn.trans st409 ?_
      have N411 := Fr.app N408 N409
      show GoOn p e below (T409.setTop (mkF m 292 #[.val (.int p0), .val (.int p1), .val (.int p2), .val (.int r0), .val (.int r1), .val (.int s0), .val (.int s1), .val (.int md), .val (.int i0), .val (.int i1), .val (.int rl), .val (.int il), .val (.int ka), .val (.int kb), .val (.ref ar), .val (.ref sa320), .val (.ref sa327), .val (.ref x), .val (.ref y), .val (.int sn), .val (.int ex), .val .null] [(.int (if (if il = 0 then ([] : List Int32) else if il = 1 then [i0] else [i0, i1]) = (if rl = 0 then ([] : List Int32) else if rl = 1 then [r0] else [r0, r1]) ∧ (if kb = 0 then kN else if kb = 1 then kI else kM) = (if ka = 0 then kN else if ka = 1 then kI else kM) then 1 else 0))])) _
      refine GoOn.step (fun tq kq => XS.iload X409.here hx rfl (hb hby at_292) rfl kq) ?_
      show GoOn p e below (T409.setTop (mkF m 294 #[.val (.int p0), .val (.int p1), .val (.int p2), .val (.int r0), .val (.int r1), .val (.int s0), .val (.int s1), .val (.int md), .val (.int i0), .val (.int i1), .val (.int rl), .val (.int il), .val (.int ka), .val (.int kb), .val (.ref ar), .val (.ref sa320), .val (.ref sa327), .val (.ref x), .val (.ref y), .val (.int sn), .val (.int ex), .val .null] [(.int ex), (.int (if (if il = 0 then ([] : List Int32) else if il = 1 then [i0] else [i0, i1]) = (if rl = 0 then ([] : List Int32) else if rl = 1 then [r0] else [r0, r1]) ∧ (if kb = 0 then kN else if kb = 1 then kI else kM) = (if ka = 0 then kN else if ka = 1 then kI else kM) then 1 else 0))])) _
      refine GoOn.step (fun tq kq => XS.icmpNo X409.here hx rfl (hb hby at_294) rfl (teq (own_if2 (hex.imp (fun q => ⟨q.1, q.2.1.symm, q.2.2.symm⟩) (fun q => ⟨q.1, fun r => q.2 ⟨r.1.symm, r.2.symm⟩⟩)))).2 kq) ?_
      show GoOn p e below (T409.setTop (mkF m 297 #[.val (.int p0), .val (.int p1), .val (.int p2), .val (.int r0), .val (.int r1), .val (.int s0), .val (.int s1), .val (.int md), .val (.int i0), .val (.int i1), .val (.int rl), .val (.int il), .val (.int ka), .val (.int kb), .val (.ref ar), .val (.ref sa320), .val (.ref sa327), .val (.ref x), .val (.ref y), .val (.int sn), .val (.int ex), .val .null] [])) _
      refine GoOn.step (fun tq kq => XS.aload X409.here hx rfl (hb hby at_297) rfl rfl kq) ?_
      show GoOn p e below (T409.setTop (mkF m 299 #[.val (.int p0), .val (.int p1), .val (.int p2), .val (.int r0), .val (.int r1), .val (.int s0), .val (.int s1), .val (.int md), .val (.int i0), .val (.int i1), .val (.int rl), .val (.int il), .val (.int ka), .val (.int kb), .val (.ref ar), .val (.ref sa320), .val (.ref sa327), .val (.ref x), .val (.ref y), .val (.int sn), .val (.int ex), .val .null] [(.ref x)])) _
      refine GoOn.step (fun tq kq => XS.aload X409.here hx rfl (hb hby at_299) rfl rfl kq) ?_
      show GoOn p e below (T409.setTop (mkF m 301 #[.val (.int p0), .val (.int p1), .val (.int p2), .val (.int r0), .val (.int r1), .val (.int s0), .val (.int s1), .val (.int md), .val (.int i0), .val (.int i1), .val (.int rl), .val (.int il), .val (.int ka), .val (.int kb), .val (.ref ar), .val (.ref sa320), .val (.ref sa327), .val (.ref x), .val (.ref y), .val (.int sn), .val (.int ex), .val .null] [(.ref x), (.ref x)])) _
      obtain ⟨cqc413, kqc413, qac413, qbc413, qcc413⟩ := isOf hZj405 e409 E397
      obtain ⟨_, _, ⟨T412, L412, k412, n412⟩, -, X412, ⟨Lc412, hQ412, l412, y412, z412⟩, st412⟩ := X409.virtualBack hx (y := (⟨"com/example/subsume/subsume/axioms/AtomicConcept", "equals", "(Ljava/lang/Object;)Z"⟩ : MethodName)) (z := (⟨"com/example/subsume/subsume/axioms/AtomicConcept", "equals", "(Ljava/lang/Object;)Z"⟩ : MethodName)) hownj405 (mvT hZj405 (hw _ (List.mem_of_getElem? (i := 69) rfl))) (mvT hZj405 (hw _ (List.mem_of_getElem? (i := 70) rfl))) (notFace_of_selects (args := #[]) (mvT hZj405 (hw _ (List.mem_of_getElem? (i := 72) rfl)))) (mvT hZj405 (hw _ (List.mem_of_getElem? (i := 72) rfl))) (mvT hZj405 (hw _ (List.mem_of_getElem? (i := 71) rfl))) (by decide) (backOf (W := 0) (rmTE2 l Z a0 hw x x sa320 (if ka = 0 then kN else if ka = 1 then kI else kM) sa320 (if ka = 0 then kN else if ka = 1 then kI else kM) (if rl = 0 then ([] : List Int32) else if rl = 1 then [r0] else [r0, r1]) (if rl = 0 then ([] : List Int32) else if rl = 1 then [r0] else [r0, r1]) G1 hj405 n0 Zj405 SC PC E397 F399 F400 F399 F400 Sr403 Sr403 O396) hZj405 (hw _ (List.mem_of_getElem? (i := 73) rfl)) (hw _ (List.mem_of_getElem? (i := 49) rfl)) (by decide) (by decide)) qac413 qcc413 (g := (mkF m 301 #[.val (.int p0), .val (.int p1), .val (.int p2), .val (.int r0), .val (.int r1), .val (.int s0), .val (.int s1), .val (.int md), .val (.int i0), .val (.int i1), .val (.int rl), .val (.int il), .val (.int ka), .val (.int kb), .val (.ref ar), .val (.ref sa320), .val (.ref sa327), .val (.ref x), .val (.ref y), .val (.int sn), .val (.int ex), .val .null] [(.ref x), (.ref x)])) rfl (by rw [hml]; rfl) (Steps.refl _) (argsL := [(.ref x)]) (rest := []) (lenOf own_pd109 rfl) rfl (by show 2 * 0 + _ ≤ _; exact Nat.le_of_eq rfl) (hb hby at_301) (fun _ _ => ⟨rfl, e409, (by decide : 23 + 0 ≤ _), (by decide : 111 + 0 ≤ _)⟩)
      dsimp only [Pt.U, Pt.locs, Pt.cells, Pt.slots] at X412 l412 y412 z412 st412 hQ412
      subst l412 y412 z412
      obtain ⟨rfl, N412, e412⟩ := hQ412
      refine GoOn.trans st412 ?_
      have N414 := Fr.app N411 N412
      show GoOn p e below (T412.setTop (mkF m 304 #[.val (.int p0), .val (.int p1), .val (.int p2), .val (.int r0), .val (.int r1), .val (.int s0), .val (.int s1), .val (.int md), .val (.int i0), .val (.int i1), .val (.int rl), .val (.int il), .val (.int ka), .val (.int kb), .val (.ref ar), .val (.ref sa320), .val (.ref sa327), .val (.ref x), .val (.ref y), .val (.int sn), .val (.int ex), .val .null] [(.int (if (if rl = 0 then ([] : List Int32) else if rl = 1 then [r0] else [r0, r1]) = (if rl = 0 then ([] : List Int32) else if rl = 1 then [r0] else [r0, r1]) ∧ (if ka = 0 then kN else if ka = 1 then kI else kM) = (if ka = 0 then kN else if ka = 1 then kI else kM) then 1 else 0))])) _
      refine GoOn.step (fun tq kq => XS.ifNo X412.here hx rfl (hb hby at_304) rfl ((if0 _ _).trans (feq (by rw [if_pos ⟨rfl, rfl⟩]; decide)).1) kq) ?_
      show GoOn p e below (T412.setTop (mkF m 307 #[.val (.int p0), .val (.int p1), .val (.int p2), .val (.int r0), .val (.int r1), .val (.int s0), .val (.int s1), .val (.int md), .val (.int i0), .val (.int i1), .val (.int rl), .val (.int il), .val (.int ka), .val (.int kb), .val (.ref ar), .val (.ref sa320), .val (.ref sa327), .val (.ref x), .val (.ref y), .val (.int sn), .val (.int ex), .val .null] [])) _
      refine GoOn.step (fun tq kq => XS.aload X412.here hx rfl (hb hby at_307) rfl rfl kq) ?_
      show GoOn p e below (T412.setTop (mkF m 309 #[.val (.int p0), .val (.int p1), .val (.int p2), .val (.int r0), .val (.int r1), .val (.int s0), .val (.int s1), .val (.int md), .val (.int i0), .val (.int i1), .val (.int rl), .val (.int il), .val (.int ka), .val (.int kb), .val (.ref ar), .val (.ref sa320), .val (.ref sa327), .val (.ref x), .val (.ref y), .val (.int sn), .val (.int ex), .val .null] [(.ref x)])) _
      refine GoOn.step (fun tq kq => XS.aload X412.here hx rfl (hb hby at_309) rfl rfl kq) ?_
      show GoOn p e below (T412.setTop (mkF m 311 #[.val (.int p0), .val (.int p1), .val (.int p2), .val (.int r0), .val (.int r1), .val (.int s0), .val (.int s1), .val (.int md), .val (.int i0), .val (.int i1), .val (.int rl), .val (.int il), .val (.int ka), .val (.int kb), .val (.ref ar), .val (.ref sa320), .val (.ref sa327), .val (.ref x), .val (.ref y), .val (.int sn), .val (.int ex), .val .null] [.null, (.ref x)])) _
      obtain ⟨cqc416, kqc416, qac416, qbc416, qcc416⟩ := isOf hZj405 e412 E397
      obtain ⟨_, _, ⟨T415, L415, k415, n415⟩, -, X415, ⟨Lc415, hQ415, l415, y415, z415⟩, st415⟩ := X412.virtualBack hx (y := (⟨"com/example/subsume/subsume/axioms/AtomicConcept", "equals", "(Ljava/lang/Object;)Z"⟩ : MethodName)) (z := (⟨"com/example/subsume/subsume/axioms/AtomicConcept", "equals", "(Ljava/lang/Object;)Z"⟩ : MethodName)) hownj405 (mvT hZj405 (hw _ (List.mem_of_getElem? (i := 69) rfl))) (mvT hZj405 (hw _ (List.mem_of_getElem? (i := 70) rfl))) (notFace_of_selects (args := #[]) (mvT hZj405 (hw _ (List.mem_of_getElem? (i := 72) rfl)))) (mvT hZj405 (hw _ (List.mem_of_getElem? (i := 72) rfl))) (mvT hZj405 (hw _ (List.mem_of_getElem? (i := 71) rfl))) (by decide) (backOf (W := 0) (rmTE0 l Z a0 hw x hj405 n0 Zj405) hZj405 (hw _ (List.mem_of_getElem? (i := 73) rfl)) (hw _ (List.mem_of_getElem? (i := 49) rfl)) (by decide) (by decide)) qac416 qcc416 (g := (mkF m 311 #[.val (.int p0), .val (.int p1), .val (.int p2), .val (.int r0), .val (.int r1), .val (.int s0), .val (.int s1), .val (.int md), .val (.int i0), .val (.int i1), .val (.int rl), .val (.int il), .val (.int ka), .val (.int kb), .val (.ref ar), .val (.ref sa320), .val (.ref sa327), .val (.ref x), .val (.ref y), .val (.int sn), .val (.int ex), .val .null] [.null, (.ref x)])) rfl (by rw [hml]; rfl) (Steps.refl _) (argsL := [.null]) (rest := []) (lenOf own_pd109 rfl) rfl (by show 2 * 0 + _ ≤ _; exact Nat.le_of_eq rfl) (hb hby at_311) (fun _ _ => ⟨rfl, e412, (by decide : 23 + 0 ≤ _), (by decide : 111 + 0 ≤ _)⟩)
      dsimp only [Pt.U, Pt.locs, Pt.cells, Pt.slots] at X415 l415 y415 z415 st415 hQ415
      subst l415 y415 z415
      obtain ⟨rfl, N415, e415⟩ := hQ415
      refine GoOn.trans st415 ?_
      have N417 := Fr.app N414 N415
      show GoOn p e below (T415.setTop (mkF m 314 #[.val (.int p0), .val (.int p1), .val (.int p2), .val (.int r0), .val (.int r1), .val (.int s0), .val (.int s1), .val (.int md), .val (.int i0), .val (.int i1), .val (.int rl), .val (.int il), .val (.int ka), .val (.int kb), .val (.ref ar), .val (.ref sa320), .val (.ref sa327), .val (.ref x), .val (.ref y), .val (.int sn), .val (.int ex), .val .null] [(.int (0 : Int32))])) _
      refine GoOn.step (fun tq kq => XS.ifNo X415.here hx rfl (hb hby at_314) rfl ((if0 _ _).trans (teq rfl).2) kq) ?_
      show GoOn p e below (T415.setTop (mkF m 317 #[.val (.int p0), .val (.int p1), .val (.int p2), .val (.int r0), .val (.int r1), .val (.int s0), .val (.int s1), .val (.int md), .val (.int i0), .val (.int i1), .val (.int rl), .val (.int il), .val (.int ka), .val (.int kb), .val (.ref ar), .val (.ref sa320), .val (.ref sa327), .val (.ref x), .val (.ref y), .val (.int sn), .val (.int ex), .val .null] [])) _
      refine GoOn.step (fun tq kq => XS.aload X415.here hx rfl (hb hby at_317) rfl rfl kq) ?_
      show GoOn p e below (T415.setTop (mkF m 319 #[.val (.int p0), .val (.int p1), .val (.int p2), .val (.int r0), .val (.int r1), .val (.int s0), .val (.int s1), .val (.int md), .val (.int i0), .val (.int i1), .val (.int rl), .val (.int il), .val (.int ka), .val (.int kb), .val (.ref ar), .val (.ref sa320), .val (.ref sa327), .val (.ref x), .val (.ref y), .val (.int sn), .val (.int ex), .val .null] [(.ref x)])) _
      refine GoOn.step (fun tq kq => XS.aload X415.here hx rfl (hb hby at_319) rfl rfl kq) ?_
      show GoOn p e below (T415.setTop (mkF m 321 #[.val (.int p0), .val (.int p1), .val (.int p2), .val (.int r0), .val (.int r1), .val (.int s0), .val (.int s1), .val (.int md), .val (.int i0), .val (.int i1), .val (.int rl), .val (.int il), .val (.int ka), .val (.int kb), .val (.ref ar), .val (.ref sa320), .val (.ref sa327), .val (.ref x), .val (.ref y), .val (.int sn), .val (.int ex), .val .null] [(.ref sa320), (.ref x)])) _
      obtain ⟨cqc419, kqc419, qac419, qbc419, qcc419⟩ := isOf hZj405 e415 E397
      obtain ⟨_, _, ⟨T418, L418, k418, n418⟩, -, X418, ⟨Lc418, hQ418, l418, y418, z418⟩, st418⟩ := X415.virtualBack hx (y := (⟨"com/example/subsume/subsume/axioms/AtomicConcept", "equals", "(Ljava/lang/Object;)Z"⟩ : MethodName)) (z := (⟨"com/example/subsume/subsume/axioms/AtomicConcept", "equals", "(Ljava/lang/Object;)Z"⟩ : MethodName)) hownj405 (mvT hZj405 (hw _ (List.mem_of_getElem? (i := 69) rfl))) (mvT hZj405 (hw _ (List.mem_of_getElem? (i := 70) rfl))) (notFace_of_selects (args := #[]) (mvT hZj405 (hw _ (List.mem_of_getElem? (i := 72) rfl)))) (mvT hZj405 (hw _ (List.mem_of_getElem? (i := 72) rfl))) (mvT hZj405 (hw _ (List.mem_of_getElem? (i := 71) rfl))) (by decide) (backOf (W := 0) (rmTE1 l Z a0 hw x sa320 hj405 n0 Zj405 Sr403.1) hZj405 (hw _ (List.mem_of_getElem? (i := 73) rfl)) (hw _ (List.mem_of_getElem? (i := 49) rfl)) (by decide) (by decide)) qac419 qcc419 (g := (mkF m 321 #[.val (.int p0), .val (.int p1), .val (.int p2), .val (.int r0), .val (.int r1), .val (.int s0), .val (.int s1), .val (.int md), .val (.int i0), .val (.int i1), .val (.int rl), .val (.int il), .val (.int ka), .val (.int kb), .val (.ref ar), .val (.ref sa320), .val (.ref sa327), .val (.ref x), .val (.ref y), .val (.int sn), .val (.int ex), .val .null] [(.ref sa320), (.ref x)])) rfl (by rw [hml]; rfl) (Steps.refl _) (argsL := [(.ref sa320)]) (rest := []) (lenOf own_pd109 rfl) rfl (by show 2 * 0 + _ ≤ _; exact Nat.le_of_eq rfl) (hb hby at_321) (fun _ _ => ⟨rfl, e415, (by decide : 23 + 0 ≤ _), (by decide : 111 + 0 ≤ _)⟩)
      dsimp only [Pt.U, Pt.locs, Pt.cells, Pt.slots] at X418 l418 y418 z418 st418 hQ418
      subst l418 y418 z418
      obtain ⟨rfl, N418, e418⟩ := hQ418
      refine GoOn.trans st418 ?_
      have N420 := Fr.app N417 N418
      show GoOn p e below (T418.setTop (mkF m 324 #[.val (.int p0), .val (.int p1), .val (.int p2), .val (.int r0), .val (.int r1), .val (.int s0), .val (.int s1), .val (.int md), .val (.int i0), .val (.int i1), .val (.int rl), .val (.int il), .val (.int ka), .val (.int kb), .val (.ref ar), .val (.ref sa320), .val (.ref sa327), .val (.ref x), .val (.ref y), .val (.int sn), .val (.int ex), .val .null] [(.int (0 : Int32))])) _
      refine GoOn.step (fun tq kq => XS.ifNo X418.here hx rfl (hb hby at_324) rfl ((if0 _ _).trans (teq rfl).2) kq) ?_
      show GoOn p e below (T418.setTop (mkF m 327 #[.val (.int p0), .val (.int p1), .val (.int p2), .val (.int r0), .val (.int r1), .val (.int s0), .val (.int s1), .val (.int md), .val (.int i0), .val (.int i1), .val (.int rl), .val (.int il), .val (.int ka), .val (.int kb), .val (.ref ar), .val (.ref sa320), .val (.ref sa327), .val (.ref x), .val (.ref y), .val (.int sn), .val (.int ex), .val .null] [])) _
      refine GoOn.step (fun tq kq => XS.iconst X418.here hx rfl (hb hby at_327) kq) ?_
      show GoOn p e below (T418.setTop (mkF m 328 #[.val (.int p0), .val (.int p1), .val (.int p2), .val (.int r0), .val (.int r1), .val (.int s0), .val (.int s1), .val (.int md), .val (.int i0), .val (.int i1), .val (.int rl), .val (.int il), .val (.int ka), .val (.int kb), .val (.ref ar), .val (.ref sa320), .val (.ref sa327), .val (.ref x), .val (.ref y), .val (.int sn), .val (.int ex), .val .null] [(.int (1 : Int32))])) _
      refine GoOn.step (fun tq kq => XS.goto X418.here hx rfl (pc0 := 328) (pc' := 332) rfl (hb hby at_328) (by decide) (by decide) kq) ?_
      show GoOn p e below (T418.setTop (mkF m 332 #[.val (.int p0), .val (.int p1), .val (.int p2), .val (.int r0), .val (.int r1), .val (.int s0), .val (.int s1), .val (.int md), .val (.int i0), .val (.int i1), .val (.int rl), .val (.int il), .val (.int ka), .val (.int kb), .val (.ref ar), .val (.ref sa320), .val (.ref sa327), .val (.ref x), .val (.ref y), .val (.int sn), .val (.int ex), .val .null] [(.int (1 : Int32))])) _
      refine GoOn.retH X418 hZj405 hSj405 (hkj405) hEL hh e418 Cj405 Bd.notSynchronized (v := some (.int (nar .boolean (1 : Int32)))) (fun h => by rw [Bd.returns] at h; cases h) (fun fs hr => retN X418 hx (t := .boolean) Bd.returns (by simp) (hb hby at_332) hr) (by decide) (by decide) ?_
      exact ⟨rfl, N420⟩
    have J249 : ∀ (vj430 : Vm) (kj430 : Nat) (Tj430 : State) (lj430 : List Loc) (hj430 : Heap) (sn : Int32) (Xj430 : Stand p l e room_1 (s.setVm vj430) m #[(.int p0), (.int p1), (.int p2)] below meth c Tj430 lj430 23 111) (ej430 : Tj430.heap = hj430) (Nj430 : Fr n0 lj430) (hZj430 : Z.Warmed39 (s.setVm vj430).vm) (hownj430 : (s.setVm vj430).vm.findClass "com/example/subsume/subsume/axioms/AtomicConceptEqualsPinLaw" = some m.cls) (hSj430 : s.Since vj430 kj430) (hkj430 : kj430 ≤ hj430.size) (Cj430 : CHr Z own_EL s.vm h0 vj430 hj430) (Zj430 : n0 ≤ hj430.size) (Kj430 : Keep h0 hj430 []) (O421 : Old Z n0 hj430) (E422 : Exa Z hj430 x "com/example/subsume/subsume/axioms/AtomicConcept") (E423 : Exa Z hj430 y "com/example/subsume/subsume/axioms/AtomicConcept") (F424 : Fld Z hj430 x "com/example/subsume/subsume/axioms/AtomicConcept" "name" "Ljava/lang/String;" (.ref sa320)) (F425 : Fld Z hj430 x "com/example/subsume/subsume/axioms/AtomicConcept" "kind" "Lcom/example/subsume/subsume/axioms/AtomicConcept$Kind;" (.ref (if ka = 0 then kN else if ka = 1 then kI else kM))) (F426 : Fld Z hj430 y "com/example/subsume/subsume/axioms/AtomicConcept" "name" "Ljava/lang/String;" (.ref sa327)) (F427 : Fld Z hj430 y "com/example/subsume/subsume/axioms/AtomicConcept" "kind" "Lcom/example/subsume/subsume/axioms/AtomicConcept$Kind;" (.ref (if kb = 0 then kN else if kb = 1 then kI else kM))) (Sr428 : StrIs Z hj430 sa320 (if rl = 0 then ([] : List Int32) else if rl = 1 then [r0] else [r0, r1])) (Sr429 : StrIs Z hj430 sa327 (if il = 0 then ([] : List Int32) else if il = 1 then [i0] else [i0, i1])) (hsn : (sn = 1 ∧ (if rl = 0 then ([] : List Int32) else if rl = 1 then [r0] else [r0, r1]) = (if il = 0 then ([] : List Int32) else if il = 1 then [i0] else [i0, i1])) ∨ (sn = 0 ∧ ¬ (if rl = 0 then ([] : List Int32) else if rl = 1 then [r0] else [r0, r1]) = (if il = 0 then ([] : List Int32) else if il = 1 then [i0] else [i0, i1]))), GoOn p e below (Tj430.setTop (mkF m 249 #[.val (.int p0), .val (.int p1), .val (.int p2), .val (.int r0), .val (.int r1), .val (.int s0), .val (.int s1), .val (.int md), .val (.int i0), .val (.int i1), .val (.int rl), .val (.int il), .val (.int ka), .val (.int kb), .val (.ref ar), .val (.ref sa320), .val (.ref sa327), .val (.ref x), .val (.ref y), .unset, .unset, .unset] [(.int sn)])) (PostH Z own_EL s (QLaw h0 n0) 32 3200) := by
      intro vj430 kj430 Tj430 lj430 hj430 sn Xj430 ej430 Nj430 hZj430 hownj430 hSj430 hkj430 Cj430 Zj430 Kj430 O421 E422 E423 F424 F425 F426 F427 Sr428 Sr429 hsn
      refine GoOn.step (fun tq kq => XS.istore Xj430.here hx rfl (hb hby at_249) rfl (l' := #[.val (.int p0), .val (.int p1), .val (.int p2), .val (.int r0), .val (.int r1), .val (.int s0), .val (.int s1), .val (.int md), .val (.int i0), .val (.int i1), .val (.int rl), .val (.int il), .val (.int ka), .val (.int kb), .val (.ref ar), .val (.ref sa320), .val (.ref sa327), .val (.ref x), .val (.ref y), .val (.int sn), .unset, .unset]) rfl kq) ?_
      show GoOn p e below (Tj430.setTop (mkF m 251 #[.val (.int p0), .val (.int p1), .val (.int p2), .val (.int r0), .val (.int r1), .val (.int s0), .val (.int s1), .val (.int md), .val (.int i0), .val (.int i1), .val (.int rl), .val (.int il), .val (.int ka), .val (.int kb), .val (.ref ar), .val (.ref sa320), .val (.ref sa327), .val (.ref x), .val (.ref y), .val (.int sn), .unset, .unset] [])) _
      refine GoOn.step (fun tq kq => XS.iload Xj430.here hx rfl (hb hby at_251) rfl kq) ?_
      show GoOn p e below (Tj430.setTop (mkF m 253 #[.val (.int p0), .val (.int p1), .val (.int p2), .val (.int r0), .val (.int r1), .val (.int s0), .val (.int s1), .val (.int md), .val (.int i0), .val (.int i1), .val (.int rl), .val (.int il), .val (.int ka), .val (.int kb), .val (.ref ar), .val (.ref sa320), .val (.ref sa327), .val (.ref x), .val (.ref y), .val (.int sn), .unset, .unset] [(.int sn)])) _
      by_cases hc431 : sn = 0
      · skip
        refine GoOn.step (fun tq kq => XS.ifYes Xj430.here hx rfl (pc0 := 253) (pc' := 267) rfl (hb hby at_253) rfl ((if0 _ _).trans (teq hc431).1) (by decide) (by decide) kq) ?_
        show GoOn p e below (Tj430.setTop (mkF m 267 #[.val (.int p0), .val (.int p1), .val (.int p2), .val (.int r0), .val (.int r1), .val (.int s0), .val (.int s1), .val (.int md), .val (.int i0), .val (.int i1), .val (.int rl), .val (.int il), .val (.int ka), .val (.int kb), .val (.ref ar), .val (.ref sa320), .val (.ref sa327), .val (.ref x), .val (.ref y), .val (.int sn), .unset, .unset] [])) _
        refine GoOn.step (fun tq kq => XS.iconst Xj430.here hx rfl (hb hby at_267) kq) ?_
        show GoOn p e below (Tj430.setTop (mkF m 268 #[.val (.int p0), .val (.int p1), .val (.int p2), .val (.int r0), .val (.int r1), .val (.int s0), .val (.int s1), .val (.int md), .val (.int i0), .val (.int i1), .val (.int rl), .val (.int il), .val (.int ka), .val (.int kb), .val (.ref ar), .val (.ref sa320), .val (.ref sa327), .val (.ref x), .val (.ref y), .val (.int sn), .unset, .unset] [(.int (0 : Int32))])) _
        exact J268 _ _ _ _ _ sn 0 (Xj430.more (by decide) (by decide)) ej430 Nj430 hZj430 hownj430 hSj430 hkj430 Cj430 Zj430 Kj430 O421 E422 E423 F424 F425 F426 F427 Sr428 Sr429 (Or.inr ⟨rfl, fun q => (hsn.elim (fun r => absurd (hc431.symm.trans r.1) (by decide)) (fun r => r.2 q.1))⟩)
      · skip
        refine GoOn.step (fun tq kq => XS.ifNo Xj430.here hx rfl (hb hby at_253) rfl ((if0 _ _).trans (feq hc431).1) kq) ?_
        show GoOn p e below (Tj430.setTop (mkF m 256 #[.val (.int p0), .val (.int p1), .val (.int p2), .val (.int r0), .val (.int r1), .val (.int s0), .val (.int s1), .val (.int md), .val (.int i0), .val (.int i1), .val (.int rl), .val (.int il), .val (.int ka), .val (.int kb), .val (.ref ar), .val (.ref sa320), .val (.ref sa327), .val (.ref x), .val (.ref y), .val (.int sn), .unset, .unset] [])) _
        refine GoOn.step (fun tq kq => XS.iload Xj430.here hx rfl (hb hby at_256) rfl kq) ?_
        show GoOn p e below (Tj430.setTop (mkF m 258 #[.val (.int p0), .val (.int p1), .val (.int p2), .val (.int r0), .val (.int r1), .val (.int s0), .val (.int s1), .val (.int md), .val (.int i0), .val (.int i1), .val (.int rl), .val (.int il), .val (.int ka), .val (.int kb), .val (.ref ar), .val (.ref sa320), .val (.ref sa327), .val (.ref x), .val (.ref y), .val (.int sn), .unset, .unset] [(.int ka)])) _
        refine GoOn.step (fun tq kq => XS.iload Xj430.here hx rfl (hb hby at_258) rfl kq) ?_
        show GoOn p e below (Tj430.setTop (mkF m 260 #[.val (.int p0), .val (.int p1), .val (.int p2), .val (.int r0), .val (.int r1), .val (.int s0), .val (.int s1), .val (.int md), .val (.int i0), .val (.int i1), .val (.int rl), .val (.int il), .val (.int ka), .val (.int kb), .val (.ref ar), .val (.ref sa320), .val (.ref sa327), .val (.ref x), .val (.ref y), .val (.int sn), .unset, .unset] [(.int kb), (.int ka)])) _
        by_cases hc432 : ka = kb
        · skip
          refine GoOn.step (fun tq kq => XS.icmpNo Xj430.here hx rfl (hb hby at_260) rfl (teq hc432).2 kq) ?_
          show GoOn p e below (Tj430.setTop (mkF m 263 #[.val (.int p0), .val (.int p1), .val (.int p2), .val (.int r0), .val (.int r1), .val (.int s0), .val (.int s1), .val (.int md), .val (.int i0), .val (.int i1), .val (.int rl), .val (.int il), .val (.int ka), .val (.int kb), .val (.ref ar), .val (.ref sa320), .val (.ref sa327), .val (.ref x), .val (.ref y), .val (.int sn), .unset, .unset] [])) _
          refine GoOn.step (fun tq kq => XS.iconst Xj430.here hx rfl (hb hby at_263) kq) ?_
          show GoOn p e below (Tj430.setTop (mkF m 264 #[.val (.int p0), .val (.int p1), .val (.int p2), .val (.int r0), .val (.int r1), .val (.int s0), .val (.int s1), .val (.int md), .val (.int i0), .val (.int i1), .val (.int rl), .val (.int il), .val (.int ka), .val (.int kb), .val (.ref ar), .val (.ref sa320), .val (.ref sa327), .val (.ref x), .val (.ref y), .val (.int sn), .unset, .unset] [(.int (1 : Int32))])) _
          refine GoOn.step (fun tq kq => XS.goto Xj430.here hx rfl (pc0 := 264) (pc' := 268) rfl (hb hby at_264) (by decide) (by decide) kq) ?_
          show GoOn p e below (Tj430.setTop (mkF m 268 #[.val (.int p0), .val (.int p1), .val (.int p2), .val (.int r0), .val (.int r1), .val (.int s0), .val (.int s1), .val (.int md), .val (.int i0), .val (.int i1), .val (.int rl), .val (.int il), .val (.int ka), .val (.int kb), .val (.ref ar), .val (.ref sa320), .val (.ref sa327), .val (.ref x), .val (.ref y), .val (.int sn), .unset, .unset] [(.int (1 : Int32))])) _
          exact J268 _ _ _ _ _ sn 1 (Xj430.more (by decide) (by decide)) ej430 Nj430 hZj430 hownj430 hSj430 hkj430 Cj430 Zj430 Kj430 O421 E422 E423 F424 F425 F426 F427 Sr428 Sr429 (Or.inl ⟨rfl, hsn.elim (fun r => r.2) (fun r => absurd r.1 hc431), (own_kt hNI hNM hIM hka hkb).mpr hc432⟩)
        · skip
          refine GoOn.step (fun tq kq => XS.icmpYes Xj430.here hx rfl (pc0 := 260) (pc' := 267) rfl (hb hby at_260) rfl (feq hc432).2 (by decide) (by decide) kq) ?_
          show GoOn p e below (Tj430.setTop (mkF m 267 #[.val (.int p0), .val (.int p1), .val (.int p2), .val (.int r0), .val (.int r1), .val (.int s0), .val (.int s1), .val (.int md), .val (.int i0), .val (.int i1), .val (.int rl), .val (.int il), .val (.int ka), .val (.int kb), .val (.ref ar), .val (.ref sa320), .val (.ref sa327), .val (.ref x), .val (.ref y), .val (.int sn), .unset, .unset] [])) _
          refine GoOn.step (fun tq kq => XS.iconst Xj430.here hx rfl (hb hby at_267) kq) ?_
          show GoOn p e below (Tj430.setTop (mkF m 268 #[.val (.int p0), .val (.int p1), .val (.int p2), .val (.int r0), .val (.int r1), .val (.int s0), .val (.int s1), .val (.int md), .val (.int i0), .val (.int i1), .val (.int rl), .val (.int il), .val (.int ka), .val (.int kb), .val (.ref ar), .val (.ref sa320), .val (.ref sa327), .val (.ref x), .val (.ref y), .val (.int sn), .unset, .unset] [(.int (0 : Int32))])) _
          exact J268 _ _ _ _ _ sn 0 (Xj430.more (by decide) (by decide)) ej430 Nj430 hZj430 hownj430 hSj430 hkj430 Cj430 Zj430 Kj430 O421 E422 E423 F424 F425 F426 F427 Sr428 Sr429 (Or.inr ⟨rfl, fun q => hc432 ((own_kt hNI hNM hIM hka hkb).mp q.2)⟩)
    by_cases hc433 : rl = il
    · skip
      refine GoOn.step (fun tq kq => XS.icmpNo X381.here hx rfl (hb hby at_216) rfl (teq hc433).2 kq) ?_
      show GoOn p e below (T381.setTop (mkF m 219 #[.val (.int p0), .val (.int p1), .val (.int p2), .val (.int r0), .val (.int r1), .val (.int s0), .val (.int s1), .val (.int md), .val (.int i0), .val (.int i1), .val (.int rl), .val (.int il), .val (.int ka), .val (.int kb), .val (.ref ar), .val (.ref sa320), .val (.ref sa327), .val (.ref x), .val (.ref y), .unset, .unset, .unset] [])) _
      refine GoOn.step (fun tq kq => XS.iload X381.here hx rfl (hb hby at_219) rfl kq) ?_
      show GoOn p e below (T381.setTop (mkF m 221 #[.val (.int p0), .val (.int p1), .val (.int p2), .val (.int r0), .val (.int r1), .val (.int s0), .val (.int s1), .val (.int md), .val (.int i0), .val (.int i1), .val (.int rl), .val (.int il), .val (.int ka), .val (.int kb), .val (.ref ar), .val (.ref sa320), .val (.ref sa327), .val (.ref x), .val (.ref y), .unset, .unset, .unset] [(.int rl)])) _
      refine GoOn.step (fun tq kq => XS.iconst X381.here hx rfl (hb hby at_221) kq) ?_
      show GoOn p e below (T381.setTop (mkF m 222 #[.val (.int p0), .val (.int p1), .val (.int p2), .val (.int r0), .val (.int r1), .val (.int s0), .val (.int s1), .val (.int md), .val (.int i0), .val (.int i1), .val (.int rl), .val (.int il), .val (.int ka), .val (.int kb), .val (.ref ar), .val (.ref sa320), .val (.ref sa327), .val (.ref x), .val (.ref y), .unset, .unset, .unset] [(.int (1 : Int32)), (.int rl)])) _
      by_cases hc434 : rl < (1 : Int32)
      · skip
        refine GoOn.step (fun tq kq => XS.icmpYes X381.here hx rfl (pc0 := 222) (pc' := 231) rfl (hb hby at_222) rfl (tlt hc434).1 (by decide) (by decide) kq) ?_
        show GoOn p e below (T381.setTop (mkF m 231 #[.val (.int p0), .val (.int p1), .val (.int p2), .val (.int r0), .val (.int r1), .val (.int s0), .val (.int s1), .val (.int md), .val (.int i0), .val (.int i1), .val (.int rl), .val (.int il), .val (.int ka), .val (.int kb), .val (.ref ar), .val (.ref sa320), .val (.ref sa327), .val (.ref x), .val (.ref y), .unset, .unset, .unset] [])) _
        refine GoOn.step (fun tq kq => XS.iload X381.here hx rfl (hb hby at_231) rfl kq) ?_
        show GoOn p e below (T381.setTop (mkF m 233 #[.val (.int p0), .val (.int p1), .val (.int p2), .val (.int r0), .val (.int r1), .val (.int s0), .val (.int s1), .val (.int md), .val (.int i0), .val (.int i1), .val (.int rl), .val (.int il), .val (.int ka), .val (.int kb), .val (.ref ar), .val (.ref sa320), .val (.ref sa327), .val (.ref x), .val (.ref y), .unset, .unset, .unset] [(.int rl)])) _
        refine GoOn.step (fun tq kq => XS.iconst X381.here hx rfl (hb hby at_233) kq) ?_
        show GoOn p e below (T381.setTop (mkF m 234 #[.val (.int p0), .val (.int p1), .val (.int p2), .val (.int r0), .val (.int r1), .val (.int s0), .val (.int s1), .val (.int md), .val (.int i0), .val (.int i1), .val (.int rl), .val (.int il), .val (.int ka), .val (.int kb), .val (.ref ar), .val (.ref sa320), .val (.ref sa327), .val (.ref x), .val (.ref y), .unset, .unset, .unset] [(.int (2 : Int32)), (.int rl)])) _
        by_cases hc435 : rl < (2 : Int32)
        · skip
          refine GoOn.step (fun tq kq => XS.icmpYes X381.here hx rfl (pc0 := 234) (pc' := 244) rfl (hb hby at_234) rfl (tlt hc435).1 (by decide) (by decide) kq) ?_
          show GoOn p e below (T381.setTop (mkF m 244 #[.val (.int p0), .val (.int p1), .val (.int p2), .val (.int r0), .val (.int r1), .val (.int s0), .val (.int s1), .val (.int md), .val (.int i0), .val (.int i1), .val (.int rl), .val (.int il), .val (.int ka), .val (.int kb), .val (.ref ar), .val (.ref sa320), .val (.ref sa327), .val (.ref x), .val (.ref y), .unset, .unset, .unset] [])) _
          refine GoOn.step (fun tq kq => XS.iconst X381.here hx rfl (hb hby at_244) kq) ?_
          show GoOn p e below (T381.setTop (mkF m 245 #[.val (.int p0), .val (.int p1), .val (.int p2), .val (.int r0), .val (.int r1), .val (.int s0), .val (.int s1), .val (.int md), .val (.int i0), .val (.int i1), .val (.int rl), .val (.int il), .val (.int ka), .val (.int kb), .val (.ref ar), .val (.ref sa320), .val (.ref sa327), .val (.ref x), .val (.ref y), .unset, .unset, .unset] [(.int (1 : Int32))])) _
          refine GoOn.step (fun tq kq => XS.goto X381.here hx rfl (pc0 := 245) (pc' := 249) rfl (hb hby at_245) (by decide) (by decide) kq) ?_
          show GoOn p e below (T381.setTop (mkF m 249 #[.val (.int p0), .val (.int p1), .val (.int p2), .val (.int r0), .val (.int r1), .val (.int s0), .val (.int s1), .val (.int md), .val (.int i0), .val (.int i1), .val (.int rl), .val (.int il), .val (.int ka), .val (.int kb), .val (.ref ar), .val (.ref sa320), .val (.ref sa327), .val (.ref x), .val (.ref y), .unset, .unset, .unset] [(.int (1 : Int32))])) _
          exact J249 _ _ _ _ _ 1 (X381.more (by decide) (by decide)) rfl N382 hZ381 hown381 hSn381 hk381 C386 Z383 K384 O385 E390 E393 F391 F392 Fa381 Fb381 Sr388 Sr389 (Or.inl ⟨rfl, own_mkE hc433 (Or.inl hc434) (Or.inl hc435) hrl⟩)
        · skip
          refine GoOn.step (fun tq kq => XS.icmpNo X381.here hx rfl (hb hby at_234) rfl (flt hc435).1 kq) ?_
          show GoOn p e below (T381.setTop (mkF m 237 #[.val (.int p0), .val (.int p1), .val (.int p2), .val (.int r0), .val (.int r1), .val (.int s0), .val (.int s1), .val (.int md), .val (.int i0), .val (.int i1), .val (.int rl), .val (.int il), .val (.int ka), .val (.int kb), .val (.ref ar), .val (.ref sa320), .val (.ref sa327), .val (.ref x), .val (.ref y), .unset, .unset, .unset] [])) _
          refine GoOn.step (fun tq kq => XS.iload X381.here hx rfl (hb hby at_237) rfl kq) ?_
          show GoOn p e below (T381.setTop (mkF m 239 #[.val (.int p0), .val (.int p1), .val (.int p2), .val (.int r0), .val (.int r1), .val (.int s0), .val (.int s1), .val (.int md), .val (.int i0), .val (.int i1), .val (.int rl), .val (.int il), .val (.int ka), .val (.int kb), .val (.ref ar), .val (.ref sa320), .val (.ref sa327), .val (.ref x), .val (.ref y), .unset, .unset, .unset] [(.int r1)])) _
          refine GoOn.step (fun tq kq => XS.iload X381.here hx rfl (hb hby at_239) rfl kq) ?_
          show GoOn p e below (T381.setTop (mkF m 241 #[.val (.int p0), .val (.int p1), .val (.int p2), .val (.int r0), .val (.int r1), .val (.int s0), .val (.int s1), .val (.int md), .val (.int i0), .val (.int i1), .val (.int rl), .val (.int il), .val (.int ka), .val (.int kb), .val (.ref ar), .val (.ref sa320), .val (.ref sa327), .val (.ref x), .val (.ref y), .unset, .unset, .unset] [(.int i1), (.int r1)])) _
          by_cases hc436 : r1 = i1
          · skip
            refine GoOn.step (fun tq kq => XS.icmpNo X381.here hx rfl (hb hby at_241) rfl (teq hc436).2 kq) ?_
            show GoOn p e below (T381.setTop (mkF m 244 #[.val (.int p0), .val (.int p1), .val (.int p2), .val (.int r0), .val (.int r1), .val (.int s0), .val (.int s1), .val (.int md), .val (.int i0), .val (.int i1), .val (.int rl), .val (.int il), .val (.int ka), .val (.int kb), .val (.ref ar), .val (.ref sa320), .val (.ref sa327), .val (.ref x), .val (.ref y), .unset, .unset, .unset] [])) _
            refine GoOn.step (fun tq kq => XS.iconst X381.here hx rfl (hb hby at_244) kq) ?_
            show GoOn p e below (T381.setTop (mkF m 245 #[.val (.int p0), .val (.int p1), .val (.int p2), .val (.int r0), .val (.int r1), .val (.int s0), .val (.int s1), .val (.int md), .val (.int i0), .val (.int i1), .val (.int rl), .val (.int il), .val (.int ka), .val (.int kb), .val (.ref ar), .val (.ref sa320), .val (.ref sa327), .val (.ref x), .val (.ref y), .unset, .unset, .unset] [(.int (1 : Int32))])) _
            refine GoOn.step (fun tq kq => XS.goto X381.here hx rfl (pc0 := 245) (pc' := 249) rfl (hb hby at_245) (by decide) (by decide) kq) ?_
            show GoOn p e below (T381.setTop (mkF m 249 #[.val (.int p0), .val (.int p1), .val (.int p2), .val (.int r0), .val (.int r1), .val (.int s0), .val (.int s1), .val (.int md), .val (.int i0), .val (.int i1), .val (.int rl), .val (.int il), .val (.int ka), .val (.int kb), .val (.ref ar), .val (.ref sa320), .val (.ref sa327), .val (.ref x), .val (.ref y), .unset, .unset, .unset] [(.int (1 : Int32))])) _
            exact J249 _ _ _ _ _ 1 (X381.more (by decide) (by decide)) rfl N382 hZ381 hown381 hSn381 hk381 C386 Z383 K384 O385 E390 E393 F391 F392 Fa381 Fb381 Sr388 Sr389 (Or.inl ⟨rfl, own_mkE hc433 (Or.inl hc434) (Or.inr hc436) hrl⟩)
          · skip
            refine GoOn.step (fun tq kq => XS.icmpYes X381.here hx rfl (pc0 := 241) (pc' := 248) rfl (hb hby at_241) rfl (feq hc436).2 (by decide) (by decide) kq) ?_
            show GoOn p e below (T381.setTop (mkF m 248 #[.val (.int p0), .val (.int p1), .val (.int p2), .val (.int r0), .val (.int r1), .val (.int s0), .val (.int s1), .val (.int md), .val (.int i0), .val (.int i1), .val (.int rl), .val (.int il), .val (.int ka), .val (.int kb), .val (.ref ar), .val (.ref sa320), .val (.ref sa327), .val (.ref x), .val (.ref y), .unset, .unset, .unset] [])) _
            refine GoOn.step (fun tq kq => XS.iconst X381.here hx rfl (hb hby at_248) kq) ?_
            show GoOn p e below (T381.setTop (mkF m 249 #[.val (.int p0), .val (.int p1), .val (.int p2), .val (.int r0), .val (.int r1), .val (.int s0), .val (.int s1), .val (.int md), .val (.int i0), .val (.int i1), .val (.int rl), .val (.int il), .val (.int ka), .val (.int kb), .val (.ref ar), .val (.ref sa320), .val (.ref sa327), .val (.ref x), .val (.ref y), .unset, .unset, .unset] [(.int (0 : Int32))])) _
            exact J249 _ _ _ _ _ 0 (X381.more (by decide) (by decide)) rfl N382 hZ381 hown381 hSn381 hk381 C386 Z383 K384 O385 E390 E393 F391 F392 Fa381 Fb381 Sr388 Sr389 (Or.inr ⟨rfl, own_mkN3 hrl hc433 hc435 hc436⟩)
      · skip
        refine GoOn.step (fun tq kq => XS.icmpNo X381.here hx rfl (hb hby at_222) rfl (flt hc434).1 kq) ?_
        show GoOn p e below (T381.setTop (mkF m 225 #[.val (.int p0), .val (.int p1), .val (.int p2), .val (.int r0), .val (.int r1), .val (.int s0), .val (.int s1), .val (.int md), .val (.int i0), .val (.int i1), .val (.int rl), .val (.int il), .val (.int ka), .val (.int kb), .val (.ref ar), .val (.ref sa320), .val (.ref sa327), .val (.ref x), .val (.ref y), .unset, .unset, .unset] [])) _
        refine GoOn.step (fun tq kq => XS.iloadN X381.here hx rfl (hb hby at_225) rfl kq) ?_
        show GoOn p e below (T381.setTop (mkF m 226 #[.val (.int p0), .val (.int p1), .val (.int p2), .val (.int r0), .val (.int r1), .val (.int s0), .val (.int s1), .val (.int md), .val (.int i0), .val (.int i1), .val (.int rl), .val (.int il), .val (.int ka), .val (.int kb), .val (.ref ar), .val (.ref sa320), .val (.ref sa327), .val (.ref x), .val (.ref y), .unset, .unset, .unset] [(.int r0)])) _
        refine GoOn.step (fun tq kq => XS.iload X381.here hx rfl (hb hby at_226) rfl kq) ?_
        show GoOn p e below (T381.setTop (mkF m 228 #[.val (.int p0), .val (.int p1), .val (.int p2), .val (.int r0), .val (.int r1), .val (.int s0), .val (.int s1), .val (.int md), .val (.int i0), .val (.int i1), .val (.int rl), .val (.int il), .val (.int ka), .val (.int kb), .val (.ref ar), .val (.ref sa320), .val (.ref sa327), .val (.ref x), .val (.ref y), .unset, .unset, .unset] [(.int i0), (.int r0)])) _
        by_cases hc437 : r0 = i0
        · skip
          refine GoOn.step (fun tq kq => XS.icmpNo X381.here hx rfl (hb hby at_228) rfl (teq hc437).2 kq) ?_
          show GoOn p e below (T381.setTop (mkF m 231 #[.val (.int p0), .val (.int p1), .val (.int p2), .val (.int r0), .val (.int r1), .val (.int s0), .val (.int s1), .val (.int md), .val (.int i0), .val (.int i1), .val (.int rl), .val (.int il), .val (.int ka), .val (.int kb), .val (.ref ar), .val (.ref sa320), .val (.ref sa327), .val (.ref x), .val (.ref y), .unset, .unset, .unset] [])) _
          refine GoOn.step (fun tq kq => XS.iload X381.here hx rfl (hb hby at_231) rfl kq) ?_
          show GoOn p e below (T381.setTop (mkF m 233 #[.val (.int p0), .val (.int p1), .val (.int p2), .val (.int r0), .val (.int r1), .val (.int s0), .val (.int s1), .val (.int md), .val (.int i0), .val (.int i1), .val (.int rl), .val (.int il), .val (.int ka), .val (.int kb), .val (.ref ar), .val (.ref sa320), .val (.ref sa327), .val (.ref x), .val (.ref y), .unset, .unset, .unset] [(.int rl)])) _
          refine GoOn.step (fun tq kq => XS.iconst X381.here hx rfl (hb hby at_233) kq) ?_
          show GoOn p e below (T381.setTop (mkF m 234 #[.val (.int p0), .val (.int p1), .val (.int p2), .val (.int r0), .val (.int r1), .val (.int s0), .val (.int s1), .val (.int md), .val (.int i0), .val (.int i1), .val (.int rl), .val (.int il), .val (.int ka), .val (.int kb), .val (.ref ar), .val (.ref sa320), .val (.ref sa327), .val (.ref x), .val (.ref y), .unset, .unset, .unset] [(.int (2 : Int32)), (.int rl)])) _
          by_cases hc438 : rl < (2 : Int32)
          · skip
            refine GoOn.step (fun tq kq => XS.icmpYes X381.here hx rfl (pc0 := 234) (pc' := 244) rfl (hb hby at_234) rfl (tlt hc438).1 (by decide) (by decide) kq) ?_
            show GoOn p e below (T381.setTop (mkF m 244 #[.val (.int p0), .val (.int p1), .val (.int p2), .val (.int r0), .val (.int r1), .val (.int s0), .val (.int s1), .val (.int md), .val (.int i0), .val (.int i1), .val (.int rl), .val (.int il), .val (.int ka), .val (.int kb), .val (.ref ar), .val (.ref sa320), .val (.ref sa327), .val (.ref x), .val (.ref y), .unset, .unset, .unset] [])) _
            refine GoOn.step (fun tq kq => XS.iconst X381.here hx rfl (hb hby at_244) kq) ?_
            show GoOn p e below (T381.setTop (mkF m 245 #[.val (.int p0), .val (.int p1), .val (.int p2), .val (.int r0), .val (.int r1), .val (.int s0), .val (.int s1), .val (.int md), .val (.int i0), .val (.int i1), .val (.int rl), .val (.int il), .val (.int ka), .val (.int kb), .val (.ref ar), .val (.ref sa320), .val (.ref sa327), .val (.ref x), .val (.ref y), .unset, .unset, .unset] [(.int (1 : Int32))])) _
            refine GoOn.step (fun tq kq => XS.goto X381.here hx rfl (pc0 := 245) (pc' := 249) rfl (hb hby at_245) (by decide) (by decide) kq) ?_
            show GoOn p e below (T381.setTop (mkF m 249 #[.val (.int p0), .val (.int p1), .val (.int p2), .val (.int r0), .val (.int r1), .val (.int s0), .val (.int s1), .val (.int md), .val (.int i0), .val (.int i1), .val (.int rl), .val (.int il), .val (.int ka), .val (.int kb), .val (.ref ar), .val (.ref sa320), .val (.ref sa327), .val (.ref x), .val (.ref y), .unset, .unset, .unset] [(.int (1 : Int32))])) _
            exact J249 _ _ _ _ _ 1 (X381.more (by decide) (by decide)) rfl N382 hZ381 hown381 hSn381 hk381 C386 Z383 K384 O385 E390 E393 F391 F392 Fa381 Fb381 Sr388 Sr389 (Or.inl ⟨rfl, own_mkE hc433 (Or.inr hc437) (Or.inl hc438) hrl⟩)
          · skip
            refine GoOn.step (fun tq kq => XS.icmpNo X381.here hx rfl (hb hby at_234) rfl (flt hc438).1 kq) ?_
            show GoOn p e below (T381.setTop (mkF m 237 #[.val (.int p0), .val (.int p1), .val (.int p2), .val (.int r0), .val (.int r1), .val (.int s0), .val (.int s1), .val (.int md), .val (.int i0), .val (.int i1), .val (.int rl), .val (.int il), .val (.int ka), .val (.int kb), .val (.ref ar), .val (.ref sa320), .val (.ref sa327), .val (.ref x), .val (.ref y), .unset, .unset, .unset] [])) _
            refine GoOn.step (fun tq kq => XS.iload X381.here hx rfl (hb hby at_237) rfl kq) ?_
            show GoOn p e below (T381.setTop (mkF m 239 #[.val (.int p0), .val (.int p1), .val (.int p2), .val (.int r0), .val (.int r1), .val (.int s0), .val (.int s1), .val (.int md), .val (.int i0), .val (.int i1), .val (.int rl), .val (.int il), .val (.int ka), .val (.int kb), .val (.ref ar), .val (.ref sa320), .val (.ref sa327), .val (.ref x), .val (.ref y), .unset, .unset, .unset] [(.int r1)])) _
            refine GoOn.step (fun tq kq => XS.iload X381.here hx rfl (hb hby at_239) rfl kq) ?_
            show GoOn p e below (T381.setTop (mkF m 241 #[.val (.int p0), .val (.int p1), .val (.int p2), .val (.int r0), .val (.int r1), .val (.int s0), .val (.int s1), .val (.int md), .val (.int i0), .val (.int i1), .val (.int rl), .val (.int il), .val (.int ka), .val (.int kb), .val (.ref ar), .val (.ref sa320), .val (.ref sa327), .val (.ref x), .val (.ref y), .unset, .unset, .unset] [(.int i1), (.int r1)])) _
            by_cases hc439 : r1 = i1
            · skip
              refine GoOn.step (fun tq kq => XS.icmpNo X381.here hx rfl (hb hby at_241) rfl (teq hc439).2 kq) ?_
              show GoOn p e below (T381.setTop (mkF m 244 #[.val (.int p0), .val (.int p1), .val (.int p2), .val (.int r0), .val (.int r1), .val (.int s0), .val (.int s1), .val (.int md), .val (.int i0), .val (.int i1), .val (.int rl), .val (.int il), .val (.int ka), .val (.int kb), .val (.ref ar), .val (.ref sa320), .val (.ref sa327), .val (.ref x), .val (.ref y), .unset, .unset, .unset] [])) _
              refine GoOn.step (fun tq kq => XS.iconst X381.here hx rfl (hb hby at_244) kq) ?_
              show GoOn p e below (T381.setTop (mkF m 245 #[.val (.int p0), .val (.int p1), .val (.int p2), .val (.int r0), .val (.int r1), .val (.int s0), .val (.int s1), .val (.int md), .val (.int i0), .val (.int i1), .val (.int rl), .val (.int il), .val (.int ka), .val (.int kb), .val (.ref ar), .val (.ref sa320), .val (.ref sa327), .val (.ref x), .val (.ref y), .unset, .unset, .unset] [(.int (1 : Int32))])) _
              refine GoOn.step (fun tq kq => XS.goto X381.here hx rfl (pc0 := 245) (pc' := 249) rfl (hb hby at_245) (by decide) (by decide) kq) ?_
              show GoOn p e below (T381.setTop (mkF m 249 #[.val (.int p0), .val (.int p1), .val (.int p2), .val (.int r0), .val (.int r1), .val (.int s0), .val (.int s1), .val (.int md), .val (.int i0), .val (.int i1), .val (.int rl), .val (.int il), .val (.int ka), .val (.int kb), .val (.ref ar), .val (.ref sa320), .val (.ref sa327), .val (.ref x), .val (.ref y), .unset, .unset, .unset] [(.int (1 : Int32))])) _
              exact J249 _ _ _ _ _ 1 (X381.more (by decide) (by decide)) rfl N382 hZ381 hown381 hSn381 hk381 C386 Z383 K384 O385 E390 E393 F391 F392 Fa381 Fb381 Sr388 Sr389 (Or.inl ⟨rfl, own_mkE hc433 (Or.inr hc437) (Or.inr hc439) hrl⟩)
            · skip
              refine GoOn.step (fun tq kq => XS.icmpYes X381.here hx rfl (pc0 := 241) (pc' := 248) rfl (hb hby at_241) rfl (feq hc439).2 (by decide) (by decide) kq) ?_
              show GoOn p e below (T381.setTop (mkF m 248 #[.val (.int p0), .val (.int p1), .val (.int p2), .val (.int r0), .val (.int r1), .val (.int s0), .val (.int s1), .val (.int md), .val (.int i0), .val (.int i1), .val (.int rl), .val (.int il), .val (.int ka), .val (.int kb), .val (.ref ar), .val (.ref sa320), .val (.ref sa327), .val (.ref x), .val (.ref y), .unset, .unset, .unset] [])) _
              refine GoOn.step (fun tq kq => XS.iconst X381.here hx rfl (hb hby at_248) kq) ?_
              show GoOn p e below (T381.setTop (mkF m 249 #[.val (.int p0), .val (.int p1), .val (.int p2), .val (.int r0), .val (.int r1), .val (.int s0), .val (.int s1), .val (.int md), .val (.int i0), .val (.int i1), .val (.int rl), .val (.int il), .val (.int ka), .val (.int kb), .val (.ref ar), .val (.ref sa320), .val (.ref sa327), .val (.ref x), .val (.ref y), .unset, .unset, .unset] [(.int (0 : Int32))])) _
              exact J249 _ _ _ _ _ 0 (X381.more (by decide) (by decide)) rfl N382 hZ381 hown381 hSn381 hk381 C386 Z383 K384 O385 E390 E393 F391 F392 Fa381 Fb381 Sr388 Sr389 (Or.inr ⟨rfl, own_mkN3 hrl hc433 hc438 hc439⟩)
        · skip
          refine GoOn.step (fun tq kq => XS.icmpYes X381.here hx rfl (pc0 := 228) (pc' := 248) rfl (hb hby at_228) rfl (feq hc437).2 (by decide) (by decide) kq) ?_
          show GoOn p e below (T381.setTop (mkF m 248 #[.val (.int p0), .val (.int p1), .val (.int p2), .val (.int r0), .val (.int r1), .val (.int s0), .val (.int s1), .val (.int md), .val (.int i0), .val (.int i1), .val (.int rl), .val (.int il), .val (.int ka), .val (.int kb), .val (.ref ar), .val (.ref sa320), .val (.ref sa327), .val (.ref x), .val (.ref y), .unset, .unset, .unset] [])) _
          refine GoOn.step (fun tq kq => XS.iconst X381.here hx rfl (hb hby at_248) kq) ?_
          show GoOn p e below (T381.setTop (mkF m 249 #[.val (.int p0), .val (.int p1), .val (.int p2), .val (.int r0), .val (.int r1), .val (.int s0), .val (.int s1), .val (.int md), .val (.int i0), .val (.int i1), .val (.int rl), .val (.int il), .val (.int ka), .val (.int kb), .val (.ref ar), .val (.ref sa320), .val (.ref sa327), .val (.ref x), .val (.ref y), .unset, .unset, .unset] [(.int (0 : Int32))])) _
          exact J249 _ _ _ _ _ 0 (X381.more (by decide) (by decide)) rfl N382 hZ381 hown381 hSn381 hk381 C386 Z383 K384 O385 E390 E393 F391 F392 Fa381 Fb381 Sr388 Sr389 (Or.inr ⟨rfl, own_mkN2 hrl hc433 hc434 hc437⟩)
    · skip
      refine GoOn.step (fun tq kq => XS.icmpYes X381.here hx rfl (pc0 := 216) (pc' := 248) rfl (hb hby at_216) rfl (feq hc433).2 (by decide) (by decide) kq) ?_
      show GoOn p e below (T381.setTop (mkF m 248 #[.val (.int p0), .val (.int p1), .val (.int p2), .val (.int r0), .val (.int r1), .val (.int s0), .val (.int s1), .val (.int md), .val (.int i0), .val (.int i1), .val (.int rl), .val (.int il), .val (.int ka), .val (.int kb), .val (.ref ar), .val (.ref sa320), .val (.ref sa327), .val (.ref x), .val (.ref y), .unset, .unset, .unset] [])) _
      refine GoOn.step (fun tq kq => XS.iconst X381.here hx rfl (hb hby at_248) kq) ?_
      show GoOn p e below (T381.setTop (mkF m 249 #[.val (.int p0), .val (.int p1), .val (.int p2), .val (.int r0), .val (.int r1), .val (.int s0), .val (.int s1), .val (.int md), .val (.int i0), .val (.int i1), .val (.int rl), .val (.int il), .val (.int ka), .val (.int kb), .val (.ref ar), .val (.ref sa320), .val (.ref sa327), .val (.ref x), .val (.ref y), .unset, .unset, .unset] [(.int (0 : Int32))])) _
      exact J249 _ _ _ _ _ 0 (X381.more (by decide) (by decide)) rfl N382 hZ381 hown381 hSn381 hk381 C386 Z383 K384 O385 E390 E393 F391 F392 Fa381 Fb381 Sr388 Sr389 (Or.inr ⟨rfl, own_mkN1 hrl hil hc433⟩)
  have J83 : ∀ (vj441 : Vm) (kj441 : Nat) (Tj441 : State) (lj441 : List Loc) (hj441 : Heap) (r0 r1 s0 s1 md i0 i1 : Int32) (Xj441 : Stand p l e room_1 (s.setVm vj441) m #[(.int p0), (.int p1), (.int p2)] below meth c Tj441 lj441 0 0) (ej441 : Tj441.heap = hj441) (Nj441 : Fr n0 lj441) (hZj441 : Z.Warmed39 (s.setVm vj441).vm) (hownj441 : (s.setVm vj441).vm.findClass "com/example/subsume/subsume/axioms/AtomicConceptEqualsPinLaw" = some m.cls) (hSj441 : s.Since vj441 kj441) (hkj441 : kj441 ≤ hj441.size) (Cj441 : CHr Z own_EL s.vm h0 vj441 hj441) (Zj441 : n0 ≤ hj441.size) (Kj441 : Keep h0 hj441 []) (O440 : Old Z n0 hj441) (hr0 : ¬ r0 < 0 ∧ ¬ (255 : Int32) < r0) (hr1 : ¬ r1 < 0 ∧ ¬ (255 : Int32) < r1) (hs0 : ¬ s0 < 0 ∧ ¬ (255 : Int32) < s0) (hs1 : ¬ s1 < 0 ∧ ¬ (255 : Int32) < s1) (hi0 : ¬ i0 < 0 ∧ ¬ (255 : Int32) < i0) (hi1 : ¬ i1 < 0 ∧ ¬ (255 : Int32) < i1), GoOn p e below (Tj441.setTop (mkF m 83 #[.val (.int p0), .val (.int p1), .val (.int p2), .val (.int r0), .val (.int r1), .val (.int s0), .val (.int s1), .val (.int md), .val (.int i0), .unset, .unset, .unset, .unset, .unset, .unset, .unset, .unset, .unset, .unset, .unset, .unset, .unset] [(.int i1)])) (PostH Z own_EL s (QLaw h0 n0) 32 3200) := by
    intro vj441 kj441 Tj441 lj441 hj441 r0 r1 s0 s1 md i0 i1 Xj441 ej441 Nj441 hZj441 hownj441 hSj441 hkj441 Cj441 Zj441 Kj441 O440 hr0 hr1 hs0 hs1 hi0 hi1
    refine GoOn.step (fun tq kq => XS.istore Xj441.here hx rfl (hb hby at_83) rfl (l' := #[.val (.int p0), .val (.int p1), .val (.int p2), .val (.int r0), .val (.int r1), .val (.int s0), .val (.int s1), .val (.int md), .val (.int i0), .val (.int i1), .unset, .unset, .unset, .unset, .unset, .unset, .unset, .unset, .unset, .unset, .unset, .unset]) rfl kq) ?_
    show GoOn p e below (Tj441.setTop (mkF m 85 #[.val (.int p0), .val (.int p1), .val (.int p2), .val (.int r0), .val (.int r1), .val (.int s0), .val (.int s1), .val (.int md), .val (.int i0), .val (.int i1), .unset, .unset, .unset, .unset, .unset, .unset, .unset, .unset, .unset, .unset, .unset, .unset] [])) _
    refine GoOn.step (fun tq kq => XS.iloadN Xj441.here hx rfl (hb hby at_85) rfl kq) ?_
    show GoOn p e below (Tj441.setTop (mkF m 86 #[.val (.int p0), .val (.int p1), .val (.int p2), .val (.int r0), .val (.int r1), .val (.int s0), .val (.int s1), .val (.int md), .val (.int i0), .val (.int i1), .unset, .unset, .unset, .unset, .unset, .unset, .unset, .unset, .unset, .unset, .unset, .unset] [(.int p2)])) _
    refine GoOn.step (fun tq kq => XS.iconst Xj441.here hx rfl (hb hby at_86) kq) ?_
    show GoOn p e below (Tj441.setTop (mkF m 87 #[.val (.int p0), .val (.int p1), .val (.int p2), .val (.int r0), .val (.int r1), .val (.int s0), .val (.int s1), .val (.int md), .val (.int i0), .val (.int i1), .unset, .unset, .unset, .unset, .unset, .unset, .unset, .unset, .unset, .unset, .unset, .unset] [(.int (3 : Int32)), (.int p2)])) _
    refine GoOn.step (fun tq kq => XS.iand Xj441.here hx rfl (hb hby at_87) rfl kq) ?_
    show GoOn p e below (Tj441.setTop (mkF m 88 #[.val (.int p0), .val (.int p1), .val (.int p2), .val (.int r0), .val (.int r1), .val (.int s0), .val (.int s1), .val (.int md), .val (.int i0), .val (.int i1), .unset, .unset, .unset, .unset, .unset, .unset, .unset, .unset, .unset, .unset, .unset, .unset] [(.int (p2 &&& (3 : Int32)))])) _
    refine GoOn.step (fun tq kq => XS.iconst Xj441.here hx rfl (hb hby at_88) kq) ?_
    show GoOn p e below (Tj441.setTop (mkF m 89 #[.val (.int p0), .val (.int p1), .val (.int p2), .val (.int r0), .val (.int r1), .val (.int s0), .val (.int s1), .val (.int md), .val (.int i0), .val (.int i1), .unset, .unset, .unset, .unset, .unset, .unset, .unset, .unset, .unset, .unset, .unset, .unset] [(.int (3 : Int32)), (.int (p2 &&& (3 : Int32)))])) _
    refine GoOn.step (fun tq kq => Jvm.RoadKit.iremM (g := (mkF m 89 #[.val (.int p0), .val (.int p1), .val (.int p2), .val (.int r0), .val (.int r1), .val (.int s0), .val (.int s1), .val (.int md), .val (.int i0), .val (.int i1), .unset, .unset, .unset, .unset, .unset, .unset, .unset, .unset, .unset, .unset, .unset, .unset] [(.int (3 : Int32)), (.int (p2 &&& (3 : Int32)))])) Xj441 hx rfl (hb hby at_89) rfl (by decide) kq) ?_
    show GoOn p e below (Tj441.setTop (mkF m 90 #[.val (.int p0), .val (.int p1), .val (.int p2), .val (.int r0), .val (.int r1), .val (.int s0), .val (.int s1), .val (.int md), .val (.int i0), .val (.int i1), .unset, .unset, .unset, .unset, .unset, .unset, .unset, .unset, .unset, .unset, .unset, .unset] [(.int ((p2 &&& (3 : Int32)) % (3 : Int32)))])) _
    refine GoOn.step (fun tq kq => XS.istore Xj441.here hx rfl (hb hby at_90) rfl (l' := #[.val (.int p0), .val (.int p1), .val (.int p2), .val (.int r0), .val (.int r1), .val (.int s0), .val (.int s1), .val (.int md), .val (.int i0), .val (.int i1), .val (.int ((p2 &&& (3 : Int32)) % (3 : Int32))), .unset, .unset, .unset, .unset, .unset, .unset, .unset, .unset, .unset, .unset, .unset]) rfl kq) ?_
    show GoOn p e below (Tj441.setTop (mkF m 92 #[.val (.int p0), .val (.int p1), .val (.int p2), .val (.int r0), .val (.int r1), .val (.int s0), .val (.int s1), .val (.int md), .val (.int i0), .val (.int i1), .val (.int ((p2 &&& (3 : Int32)) % (3 : Int32))), .unset, .unset, .unset, .unset, .unset, .unset, .unset, .unset, .unset, .unset, .unset] [])) _
    have hrl := own_rem3 p2
    generalize hgrl : ((p2 &&& (3 : Int32)) % (3 : Int32)) = rl
    show GoOn p e below (Tj441.setTop (mkF m 92 #[.val (.int p0), .val (.int p1), .val (.int p2), .val (.int r0), .val (.int r1), .val (.int s0), .val (.int s1), .val (.int md), .val (.int i0), .val (.int i1), .val (.int rl), .unset, .unset, .unset, .unset, .unset, .unset, .unset, .unset, .unset, .unset, .unset] [])) _
    rw [hgrl] at hrl
    refine GoOn.step (fun tq kq => XS.iloadN Xj441.here hx rfl (hb hby at_92) rfl kq) ?_
    show GoOn p e below (Tj441.setTop (mkF m 93 #[.val (.int p0), .val (.int p1), .val (.int p2), .val (.int r0), .val (.int r1), .val (.int s0), .val (.int s1), .val (.int md), .val (.int i0), .val (.int i1), .val (.int rl), .unset, .unset, .unset, .unset, .unset, .unset, .unset, .unset, .unset, .unset, .unset] [(.int p2)])) _
    refine GoOn.step (fun tq kq => XS.bipush Xj441.here hx rfl (hb hby at_93) kq) ?_
    show GoOn p e below (Tj441.setTop (mkF m 95 #[.val (.int p0), .val (.int p1), .val (.int p2), .val (.int r0), .val (.int r1), .val (.int s0), .val (.int s1), .val (.int md), .val (.int i0), .val (.int i1), .val (.int rl), .unset, .unset, .unset, .unset, .unset, .unset, .unset, .unset, .unset, .unset, .unset] [(.int (6 : Int32)), (.int p2)])) _
    refine GoOn.step (fun tq kq => XS.iushr Xj441.here hx rfl (hb hby at_95) rfl kq) ?_
    show GoOn p e below (Tj441.setTop (mkF m 96 #[.val (.int p0), .val (.int p1), .val (.int p2), .val (.int r0), .val (.int r1), .val (.int s0), .val (.int s1), .val (.int md), .val (.int i0), .val (.int i1), .val (.int rl), .unset, .unset, .unset, .unset, .unset, .unset, .unset, .unset, .unset, .unset, .unset] [(.int (((p2).toUInt32 >>> ((6 : Int32) &&& 31).toUInt32).toInt32))])) _
    refine GoOn.step (fun tq kq => XS.iconst Xj441.here hx rfl (hb hby at_96) kq) ?_
    show GoOn p e below (Tj441.setTop (mkF m 97 #[.val (.int p0), .val (.int p1), .val (.int p2), .val (.int r0), .val (.int r1), .val (.int s0), .val (.int s1), .val (.int md), .val (.int i0), .val (.int i1), .val (.int rl), .unset, .unset, .unset, .unset, .unset, .unset, .unset, .unset, .unset, .unset, .unset] [(.int (1 : Int32)), (.int (((p2).toUInt32 >>> ((6 : Int32) &&& 31).toUInt32).toInt32))])) _
    refine GoOn.step (fun tq kq => XS.iand Xj441.here hx rfl (hb hby at_97) rfl kq) ?_
    show GoOn p e below (Tj441.setTop (mkF m 98 #[.val (.int p0), .val (.int p1), .val (.int p2), .val (.int r0), .val (.int r1), .val (.int s0), .val (.int s1), .val (.int md), .val (.int i0), .val (.int i1), .val (.int rl), .unset, .unset, .unset, .unset, .unset, .unset, .unset, .unset, .unset, .unset, .unset] [(.int ((((p2).toUInt32 >>> ((6 : Int32) &&& 31).toUInt32).toInt32) &&& (1 : Int32)))])) _
    by_cases hc442 : ((((p2).toUInt32 >>> ((6 : Int32) &&& 31).toUInt32).toInt32) &&& (1 : Int32)) = 0
    · skip
      refine GoOn.step (fun tq kq => XS.ifYes Xj441.here hx rfl (pc0 := 98) (pc' := 106) rfl (hb hby at_98) rfl ((if0 _ _).trans (teq hc442).1) (by decide) (by decide) kq) ?_
      show GoOn p e below (Tj441.setTop (mkF m 106 #[.val (.int p0), .val (.int p1), .val (.int p2), .val (.int r0), .val (.int r1), .val (.int s0), .val (.int s1), .val (.int md), .val (.int i0), .val (.int i1), .val (.int rl), .unset, .unset, .unset, .unset, .unset, .unset, .unset, .unset, .unset, .unset, .unset] [])) _
      refine GoOn.step (fun tq kq => XS.iloadN Xj441.here hx rfl (hb hby at_106) rfl kq) ?_
      show GoOn p e below (Tj441.setTop (mkF m 107 #[.val (.int p0), .val (.int p1), .val (.int p2), .val (.int r0), .val (.int r1), .val (.int s0), .val (.int s1), .val (.int md), .val (.int i0), .val (.int i1), .val (.int rl), .unset, .unset, .unset, .unset, .unset, .unset, .unset, .unset, .unset, .unset, .unset] [(.int p2)])) _
      refine GoOn.step (fun tq kq => XS.iconst Xj441.here hx rfl (hb hby at_107) kq) ?_
      show GoOn p e below (Tj441.setTop (mkF m 108 #[.val (.int p0), .val (.int p1), .val (.int p2), .val (.int r0), .val (.int r1), .val (.int s0), .val (.int s1), .val (.int md), .val (.int i0), .val (.int i1), .val (.int rl), .unset, .unset, .unset, .unset, .unset, .unset, .unset, .unset, .unset, .unset, .unset] [(.int (4 : Int32)), (.int p2)])) _
      refine GoOn.step (fun tq kq => XS.iushr Xj441.here hx rfl (hb hby at_108) rfl kq) ?_
      show GoOn p e below (Tj441.setTop (mkF m 109 #[.val (.int p0), .val (.int p1), .val (.int p2), .val (.int r0), .val (.int r1), .val (.int s0), .val (.int s1), .val (.int md), .val (.int i0), .val (.int i1), .val (.int rl), .unset, .unset, .unset, .unset, .unset, .unset, .unset, .unset, .unset, .unset, .unset] [(.int (((p2).toUInt32 >>> ((4 : Int32) &&& 31).toUInt32).toInt32))])) _
      refine GoOn.step (fun tq kq => XS.iconst Xj441.here hx rfl (hb hby at_109) kq) ?_
      show GoOn p e below (Tj441.setTop (mkF m 110 #[.val (.int p0), .val (.int p1), .val (.int p2), .val (.int r0), .val (.int r1), .val (.int s0), .val (.int s1), .val (.int md), .val (.int i0), .val (.int i1), .val (.int rl), .unset, .unset, .unset, .unset, .unset, .unset, .unset, .unset, .unset, .unset, .unset] [(.int (3 : Int32)), (.int (((p2).toUInt32 >>> ((4 : Int32) &&& 31).toUInt32).toInt32))])) _
      refine GoOn.step (fun tq kq => XS.iand Xj441.here hx rfl (hb hby at_110) rfl kq) ?_
      show GoOn p e below (Tj441.setTop (mkF m 111 #[.val (.int p0), .val (.int p1), .val (.int p2), .val (.int r0), .val (.int r1), .val (.int s0), .val (.int s1), .val (.int md), .val (.int i0), .val (.int i1), .val (.int rl), .unset, .unset, .unset, .unset, .unset, .unset, .unset, .unset, .unset, .unset, .unset] [(.int ((((p2).toUInt32 >>> ((4 : Int32) &&& 31).toUInt32).toInt32) &&& (3 : Int32)))])) _
      refine GoOn.step (fun tq kq => XS.iconst Xj441.here hx rfl (hb hby at_111) kq) ?_
      show GoOn p e below (Tj441.setTop (mkF m 112 #[.val (.int p0), .val (.int p1), .val (.int p2), .val (.int r0), .val (.int r1), .val (.int s0), .val (.int s1), .val (.int md), .val (.int i0), .val (.int i1), .val (.int rl), .unset, .unset, .unset, .unset, .unset, .unset, .unset, .unset, .unset, .unset, .unset] [(.int (3 : Int32)), (.int ((((p2).toUInt32 >>> ((4 : Int32) &&& 31).toUInt32).toInt32) &&& (3 : Int32)))])) _
      refine GoOn.step (fun tq kq => Jvm.RoadKit.iremM (g := (mkF m 112 #[.val (.int p0), .val (.int p1), .val (.int p2), .val (.int r0), .val (.int r1), .val (.int s0), .val (.int s1), .val (.int md), .val (.int i0), .val (.int i1), .val (.int rl), .unset, .unset, .unset, .unset, .unset, .unset, .unset, .unset, .unset, .unset, .unset] [(.int (3 : Int32)), (.int ((((p2).toUInt32 >>> ((4 : Int32) &&& 31).toUInt32).toInt32) &&& (3 : Int32)))])) Xj441 hx rfl (hb hby at_112) rfl (by decide) kq) ?_
      show GoOn p e below (Tj441.setTop (mkF m 113 #[.val (.int p0), .val (.int p1), .val (.int p2), .val (.int r0), .val (.int r1), .val (.int s0), .val (.int s1), .val (.int md), .val (.int i0), .val (.int i1), .val (.int rl), .unset, .unset, .unset, .unset, .unset, .unset, .unset, .unset, .unset, .unset, .unset] [(.int (((((p2).toUInt32 >>> ((4 : Int32) &&& 31).toUInt32).toInt32) &&& (3 : Int32)) % (3 : Int32)))])) _
      exact J113 _ _ _ _ _ r0 r1 s0 s1 md i0 i1 rl _ (Xj441.more (by decide) (by decide)) ej441 Nj441 hZj441 hownj441 hSj441 hkj441 Cj441 Zj441 Kj441 O440 hr0 hr1 hs0 hs1 hi0 hi1 hrl (own_rem3 _)
    · skip
      refine GoOn.step (fun tq kq => XS.ifNo Xj441.here hx rfl (hb hby at_98) rfl ((if0 _ _).trans (feq hc442).1) kq) ?_
      show GoOn p e below (Tj441.setTop (mkF m 101 #[.val (.int p0), .val (.int p1), .val (.int p2), .val (.int r0), .val (.int r1), .val (.int s0), .val (.int s1), .val (.int md), .val (.int i0), .val (.int i1), .val (.int rl), .unset, .unset, .unset, .unset, .unset, .unset, .unset, .unset, .unset, .unset, .unset] [])) _
      refine GoOn.step (fun tq kq => XS.iload Xj441.here hx rfl (hb hby at_101) rfl kq) ?_
      show GoOn p e below (Tj441.setTop (mkF m 103 #[.val (.int p0), .val (.int p1), .val (.int p2), .val (.int r0), .val (.int r1), .val (.int s0), .val (.int s1), .val (.int md), .val (.int i0), .val (.int i1), .val (.int rl), .unset, .unset, .unset, .unset, .unset, .unset, .unset, .unset, .unset, .unset, .unset] [(.int rl)])) _
      refine GoOn.step (fun tq kq => XS.goto Xj441.here hx rfl (pc0 := 103) (pc' := 113) rfl (hb hby at_103) (by decide) (by decide) kq) ?_
      show GoOn p e below (Tj441.setTop (mkF m 113 #[.val (.int p0), .val (.int p1), .val (.int p2), .val (.int r0), .val (.int r1), .val (.int s0), .val (.int s1), .val (.int md), .val (.int i0), .val (.int i1), .val (.int rl), .unset, .unset, .unset, .unset, .unset, .unset, .unset, .unset, .unset, .unset, .unset] [(.int rl)])) _
      exact J113 _ _ _ _ _ r0 r1 s0 s1 md i0 i1 rl rl (Xj441.more (by decide) (by decide)) ej441 Nj441 hZj441 hownj441 hSj441 hkj441 Cj441 Zj441 Kj441 O440 hr0 hr1 hs0 hs1 hi0 hi1 hrl hrl
  have J62 : ∀ (vj444 : Vm) (kj444 : Nat) (Tj444 : State) (lj444 : List Loc) (hj444 : Heap) (r0 r1 s0 s1 md i0 : Int32) (Xj444 : Stand p l e room_1 (s.setVm vj444) m #[(.int p0), (.int p1), (.int p2)] below meth c Tj444 lj444 0 0) (ej444 : Tj444.heap = hj444) (Nj444 : Fr n0 lj444) (hZj444 : Z.Warmed39 (s.setVm vj444).vm) (hownj444 : (s.setVm vj444).vm.findClass "com/example/subsume/subsume/axioms/AtomicConceptEqualsPinLaw" = some m.cls) (hSj444 : s.Since vj444 kj444) (hkj444 : kj444 ≤ hj444.size) (Cj444 : CHr Z own_EL s.vm h0 vj444 hj444) (Zj444 : n0 ≤ hj444.size) (Kj444 : Keep h0 hj444 []) (O443 : Old Z n0 hj444) (hr0 : ¬ r0 < 0 ∧ ¬ (255 : Int32) < r0) (hr1 : ¬ r1 < 0 ∧ ¬ (255 : Int32) < r1) (hs0 : ¬ s0 < 0 ∧ ¬ (255 : Int32) < s0) (hs1 : ¬ s1 < 0 ∧ ¬ (255 : Int32) < s1) (hi0 : ¬ i0 < 0 ∧ ¬ (255 : Int32) < i0), GoOn p e below (Tj444.setTop (mkF m 62 #[.val (.int p0), .val (.int p1), .val (.int p2), .val (.int r0), .val (.int r1), .val (.int s0), .val (.int s1), .val (.int md), .unset, .unset, .unset, .unset, .unset, .unset, .unset, .unset, .unset, .unset, .unset, .unset, .unset, .unset] [(.int i0)])) (PostH Z own_EL s (QLaw h0 n0) 32 3200) := by
    intro vj444 kj444 Tj444 lj444 hj444 r0 r1 s0 s1 md i0 Xj444 ej444 Nj444 hZj444 hownj444 hSj444 hkj444 Cj444 Zj444 Kj444 O443 hr0 hr1 hs0 hs1 hi0
    refine GoOn.step (fun tq kq => XS.istore Xj444.here hx rfl (hb hby at_62) rfl (l' := #[.val (.int p0), .val (.int p1), .val (.int p2), .val (.int r0), .val (.int r1), .val (.int s0), .val (.int s1), .val (.int md), .val (.int i0), .unset, .unset, .unset, .unset, .unset, .unset, .unset, .unset, .unset, .unset, .unset, .unset, .unset]) rfl kq) ?_
    show GoOn p e below (Tj444.setTop (mkF m 64 #[.val (.int p0), .val (.int p1), .val (.int p2), .val (.int r0), .val (.int r1), .val (.int s0), .val (.int s1), .val (.int md), .val (.int i0), .unset, .unset, .unset, .unset, .unset, .unset, .unset, .unset, .unset, .unset, .unset, .unset, .unset] [])) _
    refine GoOn.step (fun tq kq => XS.iload Xj444.here hx rfl (hb hby at_64) rfl kq) ?_
    show GoOn p e below (Tj444.setTop (mkF m 66 #[.val (.int p0), .val (.int p1), .val (.int p2), .val (.int r0), .val (.int r1), .val (.int s0), .val (.int s1), .val (.int md), .val (.int i0), .unset, .unset, .unset, .unset, .unset, .unset, .unset, .unset, .unset, .unset, .unset, .unset, .unset] [(.int md)])) _
    refine GoOn.step (fun tq kq => XS.iconst Xj444.here hx rfl (hb hby at_66) kq) ?_
    show GoOn p e below (Tj444.setTop (mkF m 67 #[.val (.int p0), .val (.int p1), .val (.int p2), .val (.int r0), .val (.int r1), .val (.int s0), .val (.int s1), .val (.int md), .val (.int i0), .unset, .unset, .unset, .unset, .unset, .unset, .unset, .unset, .unset, .unset, .unset, .unset, .unset] [(.int (1 : Int32)), (.int md)])) _
    by_cases hc445 : md = (1 : Int32)
    · skip
      refine GoOn.step (fun tq kq => XS.icmpYes Xj444.here hx rfl (pc0 := 67) (pc' := 76) rfl (hb hby at_67) rfl (teq hc445).1 (by decide) (by decide) kq) ?_
      show GoOn p e below (Tj444.setTop (mkF m 76 #[.val (.int p0), .val (.int p1), .val (.int p2), .val (.int r0), .val (.int r1), .val (.int s0), .val (.int s1), .val (.int md), .val (.int i0), .unset, .unset, .unset, .unset, .unset, .unset, .unset, .unset, .unset, .unset, .unset, .unset, .unset] [])) _
      refine GoOn.step (fun tq kq => XS.iload Xj444.here hx rfl (hb hby at_76) rfl kq) ?_
      show GoOn p e below (Tj444.setTop (mkF m 78 #[.val (.int p0), .val (.int p1), .val (.int p2), .val (.int r0), .val (.int r1), .val (.int s0), .val (.int s1), .val (.int md), .val (.int i0), .unset, .unset, .unset, .unset, .unset, .unset, .unset, .unset, .unset, .unset, .unset, .unset, .unset] [(.int r1)])) _
      refine GoOn.step (fun tq kq => XS.goto Xj444.here hx rfl (pc0 := 78) (pc' := 83) rfl (hb hby at_78) (by decide) (by decide) kq) ?_
      show GoOn p e below (Tj444.setTop (mkF m 83 #[.val (.int p0), .val (.int p1), .val (.int p2), .val (.int r0), .val (.int r1), .val (.int s0), .val (.int s1), .val (.int md), .val (.int i0), .unset, .unset, .unset, .unset, .unset, .unset, .unset, .unset, .unset, .unset, .unset, .unset, .unset] [(.int r1)])) _
      exact J83 _ _ _ _ _ r0 r1 s0 s1 md i0 r1 (Xj444.more (by decide) (by decide)) ej444 Nj444 hZj444 hownj444 hSj444 hkj444 Cj444 Zj444 Kj444 O443 hr0 hr1 hs0 hs1 hi0 hr1
    · skip
      refine GoOn.step (fun tq kq => XS.icmpNo Xj444.here hx rfl (hb hby at_67) rfl (feq hc445).1 kq) ?_
      show GoOn p e below (Tj444.setTop (mkF m 70 #[.val (.int p0), .val (.int p1), .val (.int p2), .val (.int r0), .val (.int r1), .val (.int s0), .val (.int s1), .val (.int md), .val (.int i0), .unset, .unset, .unset, .unset, .unset, .unset, .unset, .unset, .unset, .unset, .unset, .unset, .unset] [])) _
      refine GoOn.step (fun tq kq => XS.iload Xj444.here hx rfl (hb hby at_70) rfl kq) ?_
      show GoOn p e below (Tj444.setTop (mkF m 72 #[.val (.int p0), .val (.int p1), .val (.int p2), .val (.int r0), .val (.int r1), .val (.int s0), .val (.int s1), .val (.int md), .val (.int i0), .unset, .unset, .unset, .unset, .unset, .unset, .unset, .unset, .unset, .unset, .unset, .unset, .unset] [(.int md)])) _
      refine GoOn.step (fun tq kq => XS.iconst Xj444.here hx rfl (hb hby at_72) kq) ?_
      show GoOn p e below (Tj444.setTop (mkF m 73 #[.val (.int p0), .val (.int p1), .val (.int p2), .val (.int r0), .val (.int r1), .val (.int s0), .val (.int s1), .val (.int md), .val (.int i0), .unset, .unset, .unset, .unset, .unset, .unset, .unset, .unset, .unset, .unset, .unset, .unset, .unset] [(.int (3 : Int32)), (.int md)])) _
      by_cases hc446 : md = (3 : Int32)
      · skip
        refine GoOn.step (fun tq kq => XS.icmpNo Xj444.here hx rfl (hb hby at_73) rfl (teq hc446).2 kq) ?_
        show GoOn p e below (Tj444.setTop (mkF m 76 #[.val (.int p0), .val (.int p1), .val (.int p2), .val (.int r0), .val (.int r1), .val (.int s0), .val (.int s1), .val (.int md), .val (.int i0), .unset, .unset, .unset, .unset, .unset, .unset, .unset, .unset, .unset, .unset, .unset, .unset, .unset] [])) _
        refine GoOn.step (fun tq kq => XS.iload Xj444.here hx rfl (hb hby at_76) rfl kq) ?_
        show GoOn p e below (Tj444.setTop (mkF m 78 #[.val (.int p0), .val (.int p1), .val (.int p2), .val (.int r0), .val (.int r1), .val (.int s0), .val (.int s1), .val (.int md), .val (.int i0), .unset, .unset, .unset, .unset, .unset, .unset, .unset, .unset, .unset, .unset, .unset, .unset, .unset] [(.int r1)])) _
        refine GoOn.step (fun tq kq => XS.goto Xj444.here hx rfl (pc0 := 78) (pc' := 83) rfl (hb hby at_78) (by decide) (by decide) kq) ?_
        show GoOn p e below (Tj444.setTop (mkF m 83 #[.val (.int p0), .val (.int p1), .val (.int p2), .val (.int r0), .val (.int r1), .val (.int s0), .val (.int s1), .val (.int md), .val (.int i0), .unset, .unset, .unset, .unset, .unset, .unset, .unset, .unset, .unset, .unset, .unset, .unset, .unset] [(.int r1)])) _
        exact J83 _ _ _ _ _ r0 r1 s0 s1 md i0 r1 (Xj444.more (by decide) (by decide)) ej444 Nj444 hZj444 hownj444 hSj444 hkj444 Cj444 Zj444 Kj444 O443 hr0 hr1 hs0 hs1 hi0 hr1
      · skip
        refine GoOn.step (fun tq kq => XS.icmpYes Xj444.here hx rfl (pc0 := 73) (pc' := 81) rfl (hb hby at_73) rfl (feq hc446).2 (by decide) (by decide) kq) ?_
        show GoOn p e below (Tj444.setTop (mkF m 81 #[.val (.int p0), .val (.int p1), .val (.int p2), .val (.int r0), .val (.int r1), .val (.int s0), .val (.int s1), .val (.int md), .val (.int i0), .unset, .unset, .unset, .unset, .unset, .unset, .unset, .unset, .unset, .unset, .unset, .unset, .unset] [])) _
        refine GoOn.step (fun tq kq => XS.iload Xj444.here hx rfl (hb hby at_81) rfl kq) ?_
        show GoOn p e below (Tj444.setTop (mkF m 83 #[.val (.int p0), .val (.int p1), .val (.int p2), .val (.int r0), .val (.int r1), .val (.int s0), .val (.int s1), .val (.int md), .val (.int i0), .unset, .unset, .unset, .unset, .unset, .unset, .unset, .unset, .unset, .unset, .unset, .unset, .unset] [(.int s1)])) _
        exact J83 _ _ _ _ _ r0 r1 s0 s1 md i0 s1 (Xj444.more (by decide) (by decide)) ej444 Nj444 hZj444 hownj444 hSj444 hkj444 Cj444 Zj444 Kj444 O443 hr0 hr1 hs0 hs1 hi0 hs1
  refine GoOn.step (fun tq kq => XS.iloadN X0.here hx rfl (hb hby at_0) rfl kq) ?_
  show GoOn p e below (s₁.setTop (mkF m 1 #[.val (.int p0), .val (.int p1), .val (.int p2), .unset, .unset, .unset, .unset, .unset, .unset, .unset, .unset, .unset, .unset, .unset, .unset, .unset, .unset, .unset, .unset, .unset, .unset, .unset] [(.int p0)])) _
  refine GoOn.step (fun tq kq => XS.sipush X0.here hx rfl (hb hby at_1) kq) ?_
  show GoOn p e below (s₁.setTop (mkF m 4 #[.val (.int p0), .val (.int p1), .val (.int p2), .unset, .unset, .unset, .unset, .unset, .unset, .unset, .unset, .unset, .unset, .unset, .unset, .unset, .unset, .unset, .unset, .unset, .unset, .unset] [(.int (255 : Int32)), (.int p0)])) _
  refine GoOn.step (fun tq kq => XS.iand X0.here hx rfl (hb hby at_4) rfl kq) ?_
  show GoOn p e below (s₁.setTop (mkF m 5 #[.val (.int p0), .val (.int p1), .val (.int p2), .unset, .unset, .unset, .unset, .unset, .unset, .unset, .unset, .unset, .unset, .unset, .unset, .unset, .unset, .unset, .unset, .unset, .unset, .unset] [(.int (p0 &&& (255 : Int32)))])) _
  refine GoOn.step (fun tq kq => XS.i2c X0.here hx rfl (hb hby at_5) rfl kq) ?_
  show GoOn p e below (s₁.setTop (mkF m 6 #[.val (.int p0), .val (.int p1), .val (.int p2), .unset, .unset, .unset, .unset, .unset, .unset, .unset, .unset, .unset, .unset, .unset, .unset, .unset, .unset, .unset, .unset, .unset, .unset, .unset] [(.int (((p0 &&& (255 : Int32))).toUInt32.toUInt16.toUInt32.toInt32))])) _
  refine GoOn.step (fun tq kq => XS.istoreN X0.here hx rfl (hb hby at_6) rfl (l' := #[.val (.int p0), .val (.int p1), .val (.int p2), .val (.int (((p0 &&& (255 : Int32))).toUInt32.toUInt16.toUInt32.toInt32)), .unset, .unset, .unset, .unset, .unset, .unset, .unset, .unset, .unset, .unset, .unset, .unset, .unset, .unset, .unset, .unset, .unset, .unset]) rfl kq) ?_
  show GoOn p e below (s₁.setTop (mkF m 7 #[.val (.int p0), .val (.int p1), .val (.int p2), .val (.int (((p0 &&& (255 : Int32))).toUInt32.toUInt16.toUInt32.toInt32)), .unset, .unset, .unset, .unset, .unset, .unset, .unset, .unset, .unset, .unset, .unset, .unset, .unset, .unset, .unset, .unset, .unset, .unset] [])) _
  have hr0 := own_c255 p0
  generalize hgr0 : (((p0 &&& (255 : Int32))).toUInt32.toUInt16.toUInt32.toInt32) = r0
  show GoOn p e below (s₁.setTop (mkF m 7 #[.val (.int p0), .val (.int p1), .val (.int p2), .val (.int r0), .unset, .unset, .unset, .unset, .unset, .unset, .unset, .unset, .unset, .unset, .unset, .unset, .unset, .unset, .unset, .unset, .unset, .unset] [])) _
  rw [hgr0] at hr0
  refine GoOn.step (fun tq kq => XS.iloadN X0.here hx rfl (hb hby at_7) rfl kq) ?_
  show GoOn p e below (s₁.setTop (mkF m 8 #[.val (.int p0), .val (.int p1), .val (.int p2), .val (.int r0), .unset, .unset, .unset, .unset, .unset, .unset, .unset, .unset, .unset, .unset, .unset, .unset, .unset, .unset, .unset, .unset, .unset, .unset] [(.int p0)])) _
  refine GoOn.step (fun tq kq => XS.bipush X0.here hx rfl (hb hby at_8) kq) ?_
  show GoOn p e below (s₁.setTop (mkF m 10 #[.val (.int p0), .val (.int p1), .val (.int p2), .val (.int r0), .unset, .unset, .unset, .unset, .unset, .unset, .unset, .unset, .unset, .unset, .unset, .unset, .unset, .unset, .unset, .unset, .unset, .unset] [(.int (8 : Int32)), (.int p0)])) _
  refine GoOn.step (fun tq kq => XS.iushr X0.here hx rfl (hb hby at_10) rfl kq) ?_
  show GoOn p e below (s₁.setTop (mkF m 11 #[.val (.int p0), .val (.int p1), .val (.int p2), .val (.int r0), .unset, .unset, .unset, .unset, .unset, .unset, .unset, .unset, .unset, .unset, .unset, .unset, .unset, .unset, .unset, .unset, .unset, .unset] [(.int (((p0).toUInt32 >>> ((8 : Int32) &&& 31).toUInt32).toInt32))])) _
  refine GoOn.step (fun tq kq => XS.sipush X0.here hx rfl (hb hby at_11) kq) ?_
  show GoOn p e below (s₁.setTop (mkF m 14 #[.val (.int p0), .val (.int p1), .val (.int p2), .val (.int r0), .unset, .unset, .unset, .unset, .unset, .unset, .unset, .unset, .unset, .unset, .unset, .unset, .unset, .unset, .unset, .unset, .unset, .unset] [(.int (255 : Int32)), (.int (((p0).toUInt32 >>> ((8 : Int32) &&& 31).toUInt32).toInt32))])) _
  refine GoOn.step (fun tq kq => XS.iand X0.here hx rfl (hb hby at_14) rfl kq) ?_
  show GoOn p e below (s₁.setTop (mkF m 15 #[.val (.int p0), .val (.int p1), .val (.int p2), .val (.int r0), .unset, .unset, .unset, .unset, .unset, .unset, .unset, .unset, .unset, .unset, .unset, .unset, .unset, .unset, .unset, .unset, .unset, .unset] [(.int ((((p0).toUInt32 >>> ((8 : Int32) &&& 31).toUInt32).toInt32) &&& (255 : Int32)))])) _
  refine GoOn.step (fun tq kq => XS.i2c X0.here hx rfl (hb hby at_15) rfl kq) ?_
  show GoOn p e below (s₁.setTop (mkF m 16 #[.val (.int p0), .val (.int p1), .val (.int p2), .val (.int r0), .unset, .unset, .unset, .unset, .unset, .unset, .unset, .unset, .unset, .unset, .unset, .unset, .unset, .unset, .unset, .unset, .unset, .unset] [(.int ((((((p0).toUInt32 >>> ((8 : Int32) &&& 31).toUInt32).toInt32) &&& (255 : Int32))).toUInt32.toUInt16.toUInt32.toInt32))])) _
  refine GoOn.step (fun tq kq => XS.istore X0.here hx rfl (hb hby at_16) rfl (l' := #[.val (.int p0), .val (.int p1), .val (.int p2), .val (.int r0), .val (.int ((((((p0).toUInt32 >>> ((8 : Int32) &&& 31).toUInt32).toInt32) &&& (255 : Int32))).toUInt32.toUInt16.toUInt32.toInt32)), .unset, .unset, .unset, .unset, .unset, .unset, .unset, .unset, .unset, .unset, .unset, .unset, .unset, .unset, .unset, .unset, .unset]) rfl kq) ?_
  show GoOn p e below (s₁.setTop (mkF m 18 #[.val (.int p0), .val (.int p1), .val (.int p2), .val (.int r0), .val (.int ((((((p0).toUInt32 >>> ((8 : Int32) &&& 31).toUInt32).toInt32) &&& (255 : Int32))).toUInt32.toUInt16.toUInt32.toInt32)), .unset, .unset, .unset, .unset, .unset, .unset, .unset, .unset, .unset, .unset, .unset, .unset, .unset, .unset, .unset, .unset, .unset] [])) _
  have hr1 := own_c255 (((p0).toUInt32 >>> ((8 : Int32) &&& 31).toUInt32).toInt32)
  generalize hgr1 : ((((((p0).toUInt32 >>> ((8 : Int32) &&& 31).toUInt32).toInt32) &&& (255 : Int32))).toUInt32.toUInt16.toUInt32.toInt32) = r1
  show GoOn p e below (s₁.setTop (mkF m 18 #[.val (.int p0), .val (.int p1), .val (.int p2), .val (.int r0), .val (.int r1), .unset, .unset, .unset, .unset, .unset, .unset, .unset, .unset, .unset, .unset, .unset, .unset, .unset, .unset, .unset, .unset, .unset] [])) _
  rw [hgr1] at hr1
  refine GoOn.step (fun tq kq => XS.iloadN X0.here hx rfl (hb hby at_18) rfl kq) ?_
  show GoOn p e below (s₁.setTop (mkF m 19 #[.val (.int p0), .val (.int p1), .val (.int p2), .val (.int r0), .val (.int r1), .unset, .unset, .unset, .unset, .unset, .unset, .unset, .unset, .unset, .unset, .unset, .unset, .unset, .unset, .unset, .unset, .unset] [(.int p1)])) _
  refine GoOn.step (fun tq kq => XS.sipush X0.here hx rfl (hb hby at_19) kq) ?_
  show GoOn p e below (s₁.setTop (mkF m 22 #[.val (.int p0), .val (.int p1), .val (.int p2), .val (.int r0), .val (.int r1), .unset, .unset, .unset, .unset, .unset, .unset, .unset, .unset, .unset, .unset, .unset, .unset, .unset, .unset, .unset, .unset, .unset] [(.int (255 : Int32)), (.int p1)])) _
  refine GoOn.step (fun tq kq => XS.iand X0.here hx rfl (hb hby at_22) rfl kq) ?_
  show GoOn p e below (s₁.setTop (mkF m 23 #[.val (.int p0), .val (.int p1), .val (.int p2), .val (.int r0), .val (.int r1), .unset, .unset, .unset, .unset, .unset, .unset, .unset, .unset, .unset, .unset, .unset, .unset, .unset, .unset, .unset, .unset, .unset] [(.int (p1 &&& (255 : Int32)))])) _
  refine GoOn.step (fun tq kq => XS.i2c X0.here hx rfl (hb hby at_23) rfl kq) ?_
  show GoOn p e below (s₁.setTop (mkF m 24 #[.val (.int p0), .val (.int p1), .val (.int p2), .val (.int r0), .val (.int r1), .unset, .unset, .unset, .unset, .unset, .unset, .unset, .unset, .unset, .unset, .unset, .unset, .unset, .unset, .unset, .unset, .unset] [(.int (((p1 &&& (255 : Int32))).toUInt32.toUInt16.toUInt32.toInt32))])) _
  refine GoOn.step (fun tq kq => XS.istore X0.here hx rfl (hb hby at_24) rfl (l' := #[.val (.int p0), .val (.int p1), .val (.int p2), .val (.int r0), .val (.int r1), .val (.int (((p1 &&& (255 : Int32))).toUInt32.toUInt16.toUInt32.toInt32)), .unset, .unset, .unset, .unset, .unset, .unset, .unset, .unset, .unset, .unset, .unset, .unset, .unset, .unset, .unset, .unset]) rfl kq) ?_
  show GoOn p e below (s₁.setTop (mkF m 26 #[.val (.int p0), .val (.int p1), .val (.int p2), .val (.int r0), .val (.int r1), .val (.int (((p1 &&& (255 : Int32))).toUInt32.toUInt16.toUInt32.toInt32)), .unset, .unset, .unset, .unset, .unset, .unset, .unset, .unset, .unset, .unset, .unset, .unset, .unset, .unset, .unset, .unset] [])) _
  have hs0 := own_c255 p1
  generalize hgs0 : (((p1 &&& (255 : Int32))).toUInt32.toUInt16.toUInt32.toInt32) = s0
  show GoOn p e below (s₁.setTop (mkF m 26 #[.val (.int p0), .val (.int p1), .val (.int p2), .val (.int r0), .val (.int r1), .val (.int s0), .unset, .unset, .unset, .unset, .unset, .unset, .unset, .unset, .unset, .unset, .unset, .unset, .unset, .unset, .unset, .unset] [])) _
  rw [hgs0] at hs0
  refine GoOn.step (fun tq kq => XS.iloadN X0.here hx rfl (hb hby at_26) rfl kq) ?_
  show GoOn p e below (s₁.setTop (mkF m 27 #[.val (.int p0), .val (.int p1), .val (.int p2), .val (.int r0), .val (.int r1), .val (.int s0), .unset, .unset, .unset, .unset, .unset, .unset, .unset, .unset, .unset, .unset, .unset, .unset, .unset, .unset, .unset, .unset] [(.int p1)])) _
  refine GoOn.step (fun tq kq => XS.bipush X0.here hx rfl (hb hby at_27) kq) ?_
  show GoOn p e below (s₁.setTop (mkF m 29 #[.val (.int p0), .val (.int p1), .val (.int p2), .val (.int r0), .val (.int r1), .val (.int s0), .unset, .unset, .unset, .unset, .unset, .unset, .unset, .unset, .unset, .unset, .unset, .unset, .unset, .unset, .unset, .unset] [(.int (8 : Int32)), (.int p1)])) _
  refine GoOn.step (fun tq kq => XS.iushr X0.here hx rfl (hb hby at_29) rfl kq) ?_
  show GoOn p e below (s₁.setTop (mkF m 30 #[.val (.int p0), .val (.int p1), .val (.int p2), .val (.int r0), .val (.int r1), .val (.int s0), .unset, .unset, .unset, .unset, .unset, .unset, .unset, .unset, .unset, .unset, .unset, .unset, .unset, .unset, .unset, .unset] [(.int (((p1).toUInt32 >>> ((8 : Int32) &&& 31).toUInt32).toInt32))])) _
  refine GoOn.step (fun tq kq => XS.sipush X0.here hx rfl (hb hby at_30) kq) ?_
  show GoOn p e below (s₁.setTop (mkF m 33 #[.val (.int p0), .val (.int p1), .val (.int p2), .val (.int r0), .val (.int r1), .val (.int s0), .unset, .unset, .unset, .unset, .unset, .unset, .unset, .unset, .unset, .unset, .unset, .unset, .unset, .unset, .unset, .unset] [(.int (255 : Int32)), (.int (((p1).toUInt32 >>> ((8 : Int32) &&& 31).toUInt32).toInt32))])) _
  refine GoOn.step (fun tq kq => XS.iand X0.here hx rfl (hb hby at_33) rfl kq) ?_
  show GoOn p e below (s₁.setTop (mkF m 34 #[.val (.int p0), .val (.int p1), .val (.int p2), .val (.int r0), .val (.int r1), .val (.int s0), .unset, .unset, .unset, .unset, .unset, .unset, .unset, .unset, .unset, .unset, .unset, .unset, .unset, .unset, .unset, .unset] [(.int ((((p1).toUInt32 >>> ((8 : Int32) &&& 31).toUInt32).toInt32) &&& (255 : Int32)))])) _
  refine GoOn.step (fun tq kq => XS.i2c X0.here hx rfl (hb hby at_34) rfl kq) ?_
  show GoOn p e below (s₁.setTop (mkF m 35 #[.val (.int p0), .val (.int p1), .val (.int p2), .val (.int r0), .val (.int r1), .val (.int s0), .unset, .unset, .unset, .unset, .unset, .unset, .unset, .unset, .unset, .unset, .unset, .unset, .unset, .unset, .unset, .unset] [(.int ((((((p1).toUInt32 >>> ((8 : Int32) &&& 31).toUInt32).toInt32) &&& (255 : Int32))).toUInt32.toUInt16.toUInt32.toInt32))])) _
  refine GoOn.step (fun tq kq => XS.istore X0.here hx rfl (hb hby at_35) rfl (l' := #[.val (.int p0), .val (.int p1), .val (.int p2), .val (.int r0), .val (.int r1), .val (.int s0), .val (.int ((((((p1).toUInt32 >>> ((8 : Int32) &&& 31).toUInt32).toInt32) &&& (255 : Int32))).toUInt32.toUInt16.toUInt32.toInt32)), .unset, .unset, .unset, .unset, .unset, .unset, .unset, .unset, .unset, .unset, .unset, .unset, .unset, .unset, .unset]) rfl kq) ?_
  show GoOn p e below (s₁.setTop (mkF m 37 #[.val (.int p0), .val (.int p1), .val (.int p2), .val (.int r0), .val (.int r1), .val (.int s0), .val (.int ((((((p1).toUInt32 >>> ((8 : Int32) &&& 31).toUInt32).toInt32) &&& (255 : Int32))).toUInt32.toUInt16.toUInt32.toInt32)), .unset, .unset, .unset, .unset, .unset, .unset, .unset, .unset, .unset, .unset, .unset, .unset, .unset, .unset, .unset] [])) _
  have hs1 := own_c255 (((p1).toUInt32 >>> ((8 : Int32) &&& 31).toUInt32).toInt32)
  generalize hgs1 : ((((((p1).toUInt32 >>> ((8 : Int32) &&& 31).toUInt32).toInt32) &&& (255 : Int32))).toUInt32.toUInt16.toUInt32.toInt32) = s1
  show GoOn p e below (s₁.setTop (mkF m 37 #[.val (.int p0), .val (.int p1), .val (.int p2), .val (.int r0), .val (.int r1), .val (.int s0), .val (.int s1), .unset, .unset, .unset, .unset, .unset, .unset, .unset, .unset, .unset, .unset, .unset, .unset, .unset, .unset, .unset] [])) _
  rw [hgs1] at hs1
  refine GoOn.step (fun tq kq => XS.iloadN X0.here hx rfl (hb hby at_37) rfl kq) ?_
  show GoOn p e below (s₁.setTop (mkF m 38 #[.val (.int p0), .val (.int p1), .val (.int p2), .val (.int r0), .val (.int r1), .val (.int s0), .val (.int s1), .unset, .unset, .unset, .unset, .unset, .unset, .unset, .unset, .unset, .unset, .unset, .unset, .unset, .unset, .unset] [(.int p2)])) _
  refine GoOn.step (fun tq kq => XS.iconst X0.here hx rfl (hb hby at_38) kq) ?_
  show GoOn p e below (s₁.setTop (mkF m 39 #[.val (.int p0), .val (.int p1), .val (.int p2), .val (.int r0), .val (.int r1), .val (.int s0), .val (.int s1), .unset, .unset, .unset, .unset, .unset, .unset, .unset, .unset, .unset, .unset, .unset, .unset, .unset, .unset, .unset] [(.int (2 : Int32)), (.int p2)])) _
  refine GoOn.step (fun tq kq => XS.iushr X0.here hx rfl (hb hby at_39) rfl kq) ?_
  show GoOn p e below (s₁.setTop (mkF m 40 #[.val (.int p0), .val (.int p1), .val (.int p2), .val (.int r0), .val (.int r1), .val (.int s0), .val (.int s1), .unset, .unset, .unset, .unset, .unset, .unset, .unset, .unset, .unset, .unset, .unset, .unset, .unset, .unset, .unset] [(.int (((p2).toUInt32 >>> ((2 : Int32) &&& 31).toUInt32).toInt32))])) _
  refine GoOn.step (fun tq kq => XS.iconst X0.here hx rfl (hb hby at_40) kq) ?_
  show GoOn p e below (s₁.setTop (mkF m 41 #[.val (.int p0), .val (.int p1), .val (.int p2), .val (.int r0), .val (.int r1), .val (.int s0), .val (.int s1), .unset, .unset, .unset, .unset, .unset, .unset, .unset, .unset, .unset, .unset, .unset, .unset, .unset, .unset, .unset] [(.int (3 : Int32)), (.int (((p2).toUInt32 >>> ((2 : Int32) &&& 31).toUInt32).toInt32))])) _
  refine GoOn.step (fun tq kq => XS.iand X0.here hx rfl (hb hby at_41) rfl kq) ?_
  show GoOn p e below (s₁.setTop (mkF m 42 #[.val (.int p0), .val (.int p1), .val (.int p2), .val (.int r0), .val (.int r1), .val (.int s0), .val (.int s1), .unset, .unset, .unset, .unset, .unset, .unset, .unset, .unset, .unset, .unset, .unset, .unset, .unset, .unset, .unset] [(.int ((((p2).toUInt32 >>> ((2 : Int32) &&& 31).toUInt32).toInt32) &&& (3 : Int32)))])) _
  refine GoOn.step (fun tq kq => XS.istore X0.here hx rfl (hb hby at_42) rfl (l' := #[.val (.int p0), .val (.int p1), .val (.int p2), .val (.int r0), .val (.int r1), .val (.int s0), .val (.int s1), .val (.int ((((p2).toUInt32 >>> ((2 : Int32) &&& 31).toUInt32).toInt32) &&& (3 : Int32))), .unset, .unset, .unset, .unset, .unset, .unset, .unset, .unset, .unset, .unset, .unset, .unset, .unset, .unset]) rfl kq) ?_
  show GoOn p e below (s₁.setTop (mkF m 44 #[.val (.int p0), .val (.int p1), .val (.int p2), .val (.int r0), .val (.int r1), .val (.int s0), .val (.int s1), .val (.int ((((p2).toUInt32 >>> ((2 : Int32) &&& 31).toUInt32).toInt32) &&& (3 : Int32))), .unset, .unset, .unset, .unset, .unset, .unset, .unset, .unset, .unset, .unset, .unset, .unset, .unset, .unset] [])) _
  generalize hg447 : ((((p2).toUInt32 >>> ((2 : Int32) &&& 31).toUInt32).toInt32) &&& (3 : Int32)) = md
  show GoOn p e below (s₁.setTop (mkF m 44 #[.val (.int p0), .val (.int p1), .val (.int p2), .val (.int r0), .val (.int r1), .val (.int s0), .val (.int s1), .val (.int md), .unset, .unset, .unset, .unset, .unset, .unset, .unset, .unset, .unset, .unset, .unset, .unset, .unset, .unset] [])) _
  refine GoOn.step (fun tq kq => XS.iload X0.here hx rfl (hb hby at_44) rfl kq) ?_
  show GoOn p e below (s₁.setTop (mkF m 46 #[.val (.int p0), .val (.int p1), .val (.int p2), .val (.int r0), .val (.int r1), .val (.int s0), .val (.int s1), .val (.int md), .unset, .unset, .unset, .unset, .unset, .unset, .unset, .unset, .unset, .unset, .unset, .unset, .unset, .unset] [(.int md)])) _
  refine GoOn.step (fun tq kq => XS.iconst X0.here hx rfl (hb hby at_46) kq) ?_
  show GoOn p e below (s₁.setTop (mkF m 47 #[.val (.int p0), .val (.int p1), .val (.int p2), .val (.int r0), .val (.int r1), .val (.int s0), .val (.int s1), .val (.int md), .unset, .unset, .unset, .unset, .unset, .unset, .unset, .unset, .unset, .unset, .unset, .unset, .unset, .unset] [(.int (1 : Int32)), (.int md)])) _
  by_cases hc448 : md = (1 : Int32)
  · skip
    refine GoOn.step (fun tq kq => XS.icmpYes X0.here hx rfl (pc0 := 47) (pc' := 56) rfl (hb hby at_47) rfl (teq hc448).1 (by decide) (by decide) kq) ?_
    show GoOn p e below (s₁.setTop (mkF m 56 #[.val (.int p0), .val (.int p1), .val (.int p2), .val (.int r0), .val (.int r1), .val (.int s0), .val (.int s1), .val (.int md), .unset, .unset, .unset, .unset, .unset, .unset, .unset, .unset, .unset, .unset, .unset, .unset, .unset, .unset] [])) _
    refine GoOn.step (fun tq kq => XS.iloadN X0.here hx rfl (hb hby at_56) rfl kq) ?_
    show GoOn p e below (s₁.setTop (mkF m 57 #[.val (.int p0), .val (.int p1), .val (.int p2), .val (.int r0), .val (.int r1), .val (.int s0), .val (.int s1), .val (.int md), .unset, .unset, .unset, .unset, .unset, .unset, .unset, .unset, .unset, .unset, .unset, .unset, .unset, .unset] [(.int r0)])) _
    refine GoOn.step (fun tq kq => XS.goto X0.here hx rfl (pc0 := 57) (pc' := 62) rfl (hb hby at_57) (by decide) (by decide) kq) ?_
    show GoOn p e below (s₁.setTop (mkF m 62 #[.val (.int p0), .val (.int p1), .val (.int p2), .val (.int r0), .val (.int r1), .val (.int s0), .val (.int s1), .val (.int md), .unset, .unset, .unset, .unset, .unset, .unset, .unset, .unset, .unset, .unset, .unset, .unset, .unset, .unset] [(.int r0)])) _
    exact J62 _ _ _ _ _ r0 r1 s0 s1 md r0 (X0.more (by decide) (by decide)) e0 N0 hZ hown hS0 hk0 C0 Z0 K0 O0 hr0 hr1 hs0 hs1 hr0
  · skip
    refine GoOn.step (fun tq kq => XS.icmpNo X0.here hx rfl (hb hby at_47) rfl (feq hc448).1 kq) ?_
    show GoOn p e below (s₁.setTop (mkF m 50 #[.val (.int p0), .val (.int p1), .val (.int p2), .val (.int r0), .val (.int r1), .val (.int s0), .val (.int s1), .val (.int md), .unset, .unset, .unset, .unset, .unset, .unset, .unset, .unset, .unset, .unset, .unset, .unset, .unset, .unset] [])) _
    refine GoOn.step (fun tq kq => XS.iload X0.here hx rfl (hb hby at_50) rfl kq) ?_
    show GoOn p e below (s₁.setTop (mkF m 52 #[.val (.int p0), .val (.int p1), .val (.int p2), .val (.int r0), .val (.int r1), .val (.int s0), .val (.int s1), .val (.int md), .unset, .unset, .unset, .unset, .unset, .unset, .unset, .unset, .unset, .unset, .unset, .unset, .unset, .unset] [(.int md)])) _
    refine GoOn.step (fun tq kq => XS.iconst X0.here hx rfl (hb hby at_52) kq) ?_
    show GoOn p e below (s₁.setTop (mkF m 53 #[.val (.int p0), .val (.int p1), .val (.int p2), .val (.int r0), .val (.int r1), .val (.int s0), .val (.int s1), .val (.int md), .unset, .unset, .unset, .unset, .unset, .unset, .unset, .unset, .unset, .unset, .unset, .unset, .unset, .unset] [(.int (2 : Int32)), (.int md)])) _
    by_cases hc449 : md = (2 : Int32)
    · skip
      refine GoOn.step (fun tq kq => XS.icmpNo X0.here hx rfl (hb hby at_53) rfl (teq hc449).2 kq) ?_
      show GoOn p e below (s₁.setTop (mkF m 56 #[.val (.int p0), .val (.int p1), .val (.int p2), .val (.int r0), .val (.int r1), .val (.int s0), .val (.int s1), .val (.int md), .unset, .unset, .unset, .unset, .unset, .unset, .unset, .unset, .unset, .unset, .unset, .unset, .unset, .unset] [])) _
      refine GoOn.step (fun tq kq => XS.iloadN X0.here hx rfl (hb hby at_56) rfl kq) ?_
      show GoOn p e below (s₁.setTop (mkF m 57 #[.val (.int p0), .val (.int p1), .val (.int p2), .val (.int r0), .val (.int r1), .val (.int s0), .val (.int s1), .val (.int md), .unset, .unset, .unset, .unset, .unset, .unset, .unset, .unset, .unset, .unset, .unset, .unset, .unset, .unset] [(.int r0)])) _
      refine GoOn.step (fun tq kq => XS.goto X0.here hx rfl (pc0 := 57) (pc' := 62) rfl (hb hby at_57) (by decide) (by decide) kq) ?_
      show GoOn p e below (s₁.setTop (mkF m 62 #[.val (.int p0), .val (.int p1), .val (.int p2), .val (.int r0), .val (.int r1), .val (.int s0), .val (.int s1), .val (.int md), .unset, .unset, .unset, .unset, .unset, .unset, .unset, .unset, .unset, .unset, .unset, .unset, .unset, .unset] [(.int r0)])) _
      exact J62 _ _ _ _ _ r0 r1 s0 s1 md r0 (X0.more (by decide) (by decide)) e0 N0 hZ hown hS0 hk0 C0 Z0 K0 O0 hr0 hr1 hs0 hs1 hr0
    · skip
      refine GoOn.step (fun tq kq => XS.icmpYes X0.here hx rfl (pc0 := 53) (pc' := 60) rfl (hb hby at_53) rfl (feq hc449).2 (by decide) (by decide) kq) ?_
      show GoOn p e below (s₁.setTop (mkF m 60 #[.val (.int p0), .val (.int p1), .val (.int p2), .val (.int r0), .val (.int r1), .val (.int s0), .val (.int s1), .val (.int md), .unset, .unset, .unset, .unset, .unset, .unset, .unset, .unset, .unset, .unset, .unset, .unset, .unset, .unset] [])) _
      refine GoOn.step (fun tq kq => XS.iload X0.here hx rfl (hb hby at_60) rfl kq) ?_
      show GoOn p e below (s₁.setTop (mkF m 62 #[.val (.int p0), .val (.int p1), .val (.int p2), .val (.int r0), .val (.int r1), .val (.int s0), .val (.int s1), .val (.int md), .unset, .unset, .unset, .unset, .unset, .unset, .unset, .unset, .unset, .unset, .unset, .unset, .unset, .unset] [(.int s0)])) _
      exact J62 _ _ _ _ _ r0 r1 s0 s1 md s0 (X0.more (by decide) (by decide)) e0 N0 hZ hown hS0 hk0 C0 Z0 K0 O0 hr0 hr1 hs0 hs1 hs0
set_option maxRecDepth 65536 in
set_option maxHeartbeats 40000000 in
theorem comes_1 {Post : Tables → Env → Array Value → State → Outcome → State → Prop} (hpost : ∀ tb e args s v u, (limb_1_1.after args s (.returned v) u = true ∧ limb_1_2.after args s (.returned v) u = true ∧ True) → ReturnedEndW s (.returned v) u (Jvm.fieldLocs frame_1_writes args s ++ Jvm.arrayLocs frame_1_arrays args s ++ Jvm.staticLocs frame_1_statics s) 32 3200 → Post tb e args s (.returned v) u) :
    ArmFor flags0 classFile x code maxLocals ret World_1 tables_1 room_1 Calls_1 rest_1 Pre_1 Post := by
  intro l hfl _ _ p e ha hc hk s m args below hf hA hF happ hP
  obtain ⟨hcalls, hrest, hpre⟩ := hP
  obtain ⟨-, -, -, hnamed, -, -, -, hat⟩ := (Spec.applies_iff hf).mp happ
  obtain ⟨hg, hn⟩ := and_e (Cond.before_iff.mp (show (Jvm.Cond.and given_1 narrow_1).before args s = true from hpre))
  obtain ⟨hcount, hg0⟩ := and_e hg
  obtain ⟨ha0, hg1⟩ := and_e hg0
  obtain ⟨ha1, hg2⟩ := and_e hg1
  obtain ⟨w0, w1, w2, rfl⟩ : ∃ w0 w1 w2 : Value, args = #[w0, w1, w2] := by
    have hs : args.size = 3 := by simpa [Cond.value, given_1] using hcount
    obtain ⟨L⟩ := args
    match L, hs with
    | [w0, w1, w2], _ => exact ⟨w0, w1, w2, rfl⟩
  have hw := fun d (hd : d ∈ tables_1) => atoms_spec (ws := Jvm.Cond.code x code maxLocals ret :: tables_1) hat d (List.mem_cons_of_mem _ hd)
  have hfit : Fit s := fun {y c} hc i hi => by
    obtain ⟨ha, rfl⟩ := Array.getElem?_eq_some_iff.mp hc
    have q := List.all_eq_true.mp ((Array.all_eq_true_iff_forall_mem.mp hF) _ (Array.getElem_mem ha)) i (List.mem_range.mpr hi)
    simpa [Array.getElem?_eq_getElem hi] using q
  obtain ⟨hsets, hown0⟩ := atoms_of _ (rest_1_c_eq ▸ (show rest_1_c.before _ s = true from hrest))
  have hr0 := Cond.before_iff.mp hown0
  obtain ⟨i0, ei0⟩ := is_v ha0
  obtain rfl : w0 = (.int i0) := Option.some.inj ei0
  obtain ⟨i1, ei1⟩ := is_v ha1
  obtain rfl : w1 = (.int i1) := Option.some.inj ei1
  obtain ⟨i2, ei2⟩ := is_v hg2
  obtain rfl : w2 = (.int i2) := Option.some.inj ei2
  have n5 := not_v (Cond.before_iff.mp (hsets _ (List.mem_of_getElem? (i := 2) rfl)))
  obtain ⟨ic, ec⟩ := is_v (Cond.before_iff.mp (hsets _ (List.mem_of_getElem? (i := 1) rfl)))
  have SC : Sta s s.heap "java/lang/String" "COMPACT_STRINGS" "Z" (.int ic) := Sta.start ec (Or.inl (hsets _ (List.mem_of_getElem? (i := 0) rfl)))
  have PC : ¬ (ic = (0 : Int32)) := gotF (Cond.eq_ints ec (Term.int_eval (0))) n5
  obtain ⟨hxN, hn0⟩ := and_e hn
  obtain ⟨hxI, hn1⟩ := and_e hn0
  obtain ⟨hxM, hn2⟩ := and_e hn1
  obtain ⟨hoI, hn3⟩ := and_e hn2
  obtain ⟨hoN, hoM⟩ := and_e hn3
  obtain ⟨kN, eN⟩ := exa_v hxN
  obtain ⟨kI, eI⟩ := exa_v hxI
  obtain ⟨kM, eM⟩ := exa_v hxM
  have SN : Sta s s.heap "com/example/subsume/subsume/axioms/AtomicConcept$Kind" "NAMED" "Lcom/example/subsume/subsume/axioms/AtomicConcept$Kind;" (.ref kN) := Sta.start eN (Or.inr ⟨(hw _ (List.mem_of_getElem? (i := 3) rfl)), (hw _ (List.mem_of_getElem? (i := 4) rfl))⟩)
  have SM : Sta s s.heap "com/example/subsume/subsume/axioms/AtomicConcept$Kind" "NOMINAL" "Lcom/example/subsume/subsume/axioms/AtomicConcept$Kind;" (.ref kM) := Sta.start eM (Or.inr ⟨(hw _ (List.mem_of_getElem? (i := 3) rfl)), (hw _ (List.mem_of_getElem? (i := 9) rfl))⟩)
  have SI : Sta s s.heap "com/example/subsume/subsume/axioms/AtomicConcept$Kind" "INTRODUCED" "Lcom/example/subsume/subsume/axioms/AtomicConcept$Kind;" (.ref kI) := Sta.start eI (Or.inr ⟨(hw _ (List.mem_of_getElem? (i := 3) rfl)), (hw _ (List.mem_of_getElem? (i := 7) rfl))⟩)
  have hNM : kN ≠ kM := own_ord eN eM hoN hoM (by decide)
  have hIM : kI ≠ kM := own_ord eI eM hoI hoM (by decide)
  have EN : Exa s s.heap kN "com/example/subsume/subsume/axioms/AtomicConcept$Kind" := Exa.start eN hxN
  have EM : Exa s s.heap kM "com/example/subsume/subsume/axioms/AtomicConcept$Kind" := Exa.start eM hxM
  have EI : Exa s s.heap kI "com/example/subsume/subsume/axioms/AtomicConcept$Kind" := Exa.start eI hxI
  have hNI : kN ≠ kI := own_ord eN eI hoN hoI (by decide)
  obtain ⟨n, o, h1, h2, h3, _, L, rfl, ⟨rfl, N⟩, hC, hq⟩ := rm0 l s _ hw tables_1 i0 i1 i2 ic kN kI kM s.heap s.heap.size (Nat.le_refl _) SC PC SN SI SM EN EI EM hNI hNM hIM (Old.start s) p e ha hc hk s m _ below hf ((Spec.applies_iff_loose hf).mp happ).1 ⟨rfl, State.Warmed39.refl s, rfl, (CHv.start (own_EW hw) hcalls.1 (hsets _ (List.mem_of_getElem? (i := 2) rfl)) (hw _ (List.mem_of_getElem? (i := 33) rfl)) (hw _ (List.mem_of_getElem? (i := 15) rfl)))⟩ trivial
  refine ⟨n, _, h1, h2, h3, hpost _ _ _ _ _ _ ⟨Cond.after_iff.mpr rfl, Cond.after_iff.mpr (eq_i res_at (Term.int_eval (1)) rfl), trivial⟩ ⟨hq.1, hq.2.1, hq.2.2.1, (hq.2.2.2.sift fun y hy => Or.inr (N y hy)).mono (by decide) (by decide)⟩⟩
theorem main_1_1 : Claimed_1_1 := comes_1 fun _ _ _ _ _ _ h hF => ⟨h.1, hF⟩
theorem main_1_2 : Claimed_1_2 := comes_1 fun _ _ _ _ _ _ h hF => ⟨h.2.1, hF⟩
end Jvm.Pilot.@@N@@
namespace Jvm.Pilot.@@N@@
open Jvm Jvm.ClassFile Sem Op Lib Jvm.Free Jvm.Stand Jvm.Pilot.@@N@@.Jvm.D
/-! MADE BY PROGRAM (witnessworld.py) out of the Statement's table words and the real class files: 26 classes; the members and pool entries that the words name. The judged class is class 1, her method 2. -/
namespace start1
open Jvm.ClassFile
def u (s : String) : CpInfo := .utf8 (stringToUtf16 s)
/-- a pool by its gaps: so many unusable entries, then the entry; so many at the end -/
def gap : Nat → List CpInfo → List CpInfo
  | 0, r => r
  | n + 1, r => .unusable :: gap n r
def poolList (es : List (Nat × CpInfo)) (last : Nat) : List CpInfo := es.foldr (fun e r => gap e.1 (e.2 :: r)) (gap last [])
def pool (es : List (Nat × CpInfo)) (last : Nat) : Array CpInfo := ⟨poolList es last⟩
def fileOf (pool : Array CpInfo) (this : Nat) (attrs : Array Attribute := #[]) (ms : Array MethodInfo := #[]) (fl : Nat := 33) (sup : Nat := 0) (ifs : Array Nat := #[]) (fds : Array FieldInfo := #[]) : ClassFile where
  minorVersion := 0
  majorVersion := 65
  constantPool := pool
  accessFlags := fl
  thisClass := this
  superClass := sup
  interfaces := ifs
  fields := fds
  methods := ms
  attributes := attrs
def plain (name : String) (sup : Option ClassId) : Class where
  name := name
  kind := .ordinary
  loader := none
  accessFlags := 33
  super := sup
  interfaces := #[]
  cf := none
  fields := #[]
  methods := #[]
  instanceTypes := #[]
  staticTypes := #[]
  resolved := #[]
  callSites := []
  init := .initialized
  statics := none
  mirror := none

def pool0 : Array CpInfo := pool [(5, u "<init>"), (0, u "()V"), (1, .class_ 10), (1, u "java/lang/Object")] 113

def k0c0 : Code := { maxStack := 0, maxLocals := 1, code := object_method_1_code, exceptionTable := #[], attributes := #[] }
def k0m0 : Method := { name := "<init>", desc := "()V", sig := { parameters := [], returnType := none }, accessFlags := 1, code := some k0c0 }
/-- java/lang/Object -/
def k0 : Class := { plain "java/lang/Object" none with
  accessFlags := 33
  interfaces := #[]
  cf := some (fileOf pool0 8 #[] #[{ accessFlags := 1, nameIndex := 5, descriptorIndex := 6, attributes := #[] }] 33 0 #[] #[])
  fields := #[]
  methods := #[k0m0]
  instanceTypes := #[]
  staticTypes := #[]
  resolved := Array.replicate 124 none
  statics := none }

def pool1 : Array CpInfo := pool [(2, .class_ 4), (1, u "java/lang/Object"), (0, u "<init>"), (0, u "()V"), (0, .class_ 8), (0, u "java/lang/String"), (0, .methodref 7 10), (0, .nameAndType 5 11), (0, u "([C)V"), (0, .class_ 13), (0, u "com/example/subsume/subsume/axioms/AtomicConcept$Kind"), (0, .fieldref 12 15), (0, .nameAndType 16 17), (0, u "NAMED"), (0, u "Lcom/example/subsume/subsume/axioms/AtomicConcept$Kind;"), (0, .fieldref 12 19), (0, .nameAndType 20 17), (0, u "INTRODUCED"), (0, .fieldref 12 22), (0, .nameAndType 23 17), (0, u "NOMINAL"), (0, .methodref 25 26), (0, .class_ 27), (0, .nameAndType 28 29), (0, u "com/example/subsume/subsume/axioms/AtomicConceptEqualsPinLaw"), (0, u "mk"), (0, u "(ICC)Ljava/lang/String;"), (0, .class_ 31), (0, u "com/example/subsume/subsume/axioms/AtomicConcept"), (0, .methodref 30 33), (0, .nameAndType 5 34), (0, u "(Ljava/lang/String;Lcom/example/subsume/subsume/axioms/AtomicConcept$Kind;)V"), (0, .methodref 30 36), (0, .nameAndType 37 38), (0, u "equals"), (0, u "(Ljava/lang/Object;)Z"), (3, u "law"), (0, u "(III)Z")] 6

def k1m0 : Method := { name := "<init>", desc := "()V", sig := { parameters := [], returnType := none }, accessFlags := 1, code := none }
def k1c1 : Code := { maxStack := 6, maxLocals := 3, code := method_2_code, exceptionTable := #[], attributes := #[] }
def k1m1 : Method := { name := "mk", desc := "(ICC)Ljava/lang/String;", sig := { parameters := [.int, .char, .char], returnType := some (.object "java/lang/String") }, accessFlags := 10, code := some k1c1 }
def k1c2 : Code := { maxStack := 5, maxLocals := 22, code := code, exceptionTable := #[], attributes := #[] }
def k1m2 : Method := { name := "law", desc := "(III)Z", sig := { parameters := [.int, .int, .int], returnType := some .boolean }, accessFlags := 9, code := some k1c2 }
/-- com/example/subsume/subsume/axioms/AtomicConceptEqualsPinLaw -/
def k1 : Class := { plain "com/example/subsume/subsume/axioms/AtomicConceptEqualsPinLaw" (some 0) with
  accessFlags := 49
  interfaces := #[]
  cf := some (fileOf pool1 25 #[] #[{ accessFlags := 1, nameIndex := 5, descriptorIndex := 6, attributes := #[] }, { accessFlags := 10, nameIndex := 28, descriptorIndex := 29, attributes := #[] }, { accessFlags := 9, nameIndex := 42, descriptorIndex := 43, attributes := #[] }] 49 2 #[] #[])
  fields := #[]
  methods := #[k1m0, k1m1, k1m2]
  instanceTypes := #[]
  staticTypes := #[]
  resolved := Array.replicate 50 none
  statics := none }

def pool2 : Array CpInfo := pool [(1, .class_ 2), (0, u "java/lang/constant/Constable"), (0, .class_ 4), (0, u "java/lang/Object")] 6

/-- java/lang/constant/Constable -/
def k2 : Class := { plain "java/lang/constant/Constable" (some 0) with
  accessFlags := 1537
  interfaces := #[]
  cf := some (fileOf pool2 1 #[] #[] 1537 3 #[] #[])
  fields := #[]
  methods := #[]
  instanceTypes := #[]
  staticTypes := #[]
  resolved := Array.replicate 11 none
  statics := none }

def pool3 : Array CpInfo := pool [(1, .class_ 2), (0, u "java/lang/Comparable"), (0, .class_ 4), (0, u "java/lang/Object")] 7

/-- java/lang/Comparable -/
def k3 : Class := { plain "java/lang/Comparable" (some 0) with
  accessFlags := 1537
  interfaces := #[]
  cf := some (fileOf pool3 1 #[] #[] 1537 3 #[] #[])
  fields := #[]
  methods := #[]
  instanceTypes := #[]
  staticTypes := #[]
  resolved := Array.replicate 12 none
  statics := none }

def pool4 : Array CpInfo := pool [(1, .class_ 2), (0, u "java/io/Serializable"), (0, .class_ 4), (0, u "java/lang/Object")] 2

/-- java/io/Serializable -/
def k4 : Class := { plain "java/io/Serializable" (some 0) with
  accessFlags := 1537
  interfaces := #[]
  cf := some (fileOf pool4 1 #[] #[] 1537 3 #[] #[])
  fields := #[]
  methods := #[]
  instanceTypes := #[]
  staticTypes := #[]
  resolved := Array.replicate 7 none
  statics := none }

def pool5 : Array CpInfo := pool [(2, .class_ 4), (1, u "java/lang/Enum"), (0, u "name"), (0, u "Ljava/lang/String;"), (2, u "ordinal"), (0, u "I"), (1, .class_ 14), (1, u "java/lang/Object"), (4, u "hash"), (86, .class_ 108), (1, u "java/lang/Enum$EnumDesc"), (2, .class_ 112), (0, u "java/lang/constant/Constable"), (0, .class_ 114), (0, u "java/lang/Comparable"), (0, .class_ 116), (0, u "java/io/Serializable")] 87

/-- java/lang/Enum -/
def k5 : Class := { plain "java/lang/Enum" (some 0) with
  accessFlags := 1057
  interfaces := #[2, 3, 4]
  cf := some (fileOf pool5 2 #[.nestMembers #[106]] #[] 1057 12 #[111, 113, 115] #[{ accessFlags := 18, nameIndex := 5, descriptorIndex := 6, attributes := #[] }, { accessFlags := 18, nameIndex := 9, descriptorIndex := 10, attributes := #[] }, { accessFlags := 2, nameIndex := 19, descriptorIndex := 10, attributes := #[] }])
  fields := #[{ name := "name", type := (.object "java/lang/String"), accessFlags := 18, slot := 0, constantValue := 0 }, { name := "ordinal", type := .int, accessFlags := 18, slot := 1, constantValue := 0 }, { name := "hash", type := .int, accessFlags := 2, slot := 2, constantValue := 0 }]
  methods := #[]
  instanceTypes := #[(.object "java/lang/String"), .int, .int]
  staticTypes := #[]
  resolved := Array.replicate 204 none
  statics := none }

def pool6 : Array CpInfo := pool [(1, .class_ 2), (0, u "com/example/subsume/subsume/axioms/AtomicConcept$Kind"), (2, u "NAMED"), (0, u "Lcom/example/subsume/subsume/axioms/AtomicConcept$Kind;"), (2, u "INTRODUCED"), (2, u "NOMINAL"), (2, u "$VALUES"), (0, u "[Lcom/example/subsume/subsume/axioms/AtomicConcept$Kind;"), (6, .class_ 25), (1, u "java/lang/Enum"), (26, .class_ 53), (0, u "com/example/subsume/subsume/axioms/AtomicConcept")] 2

/-- com/example/subsume/subsume/axioms/AtomicConcept$Kind -/
def k6 : Class := { plain "com/example/subsume/subsume/axioms/AtomicConcept$Kind" (some 5) with
  accessFlags := 16433
  interfaces := #[]
  cf := some (fileOf pool6 1 #[.nestHost 52] #[] 16433 23 #[] #[{ accessFlags := 16409, nameIndex := 5, descriptorIndex := 6, attributes := #[] }, { accessFlags := 16409, nameIndex := 9, descriptorIndex := 6, attributes := #[] }, { accessFlags := 16409, nameIndex := 12, descriptorIndex := 6, attributes := #[] }, { accessFlags := 4122, nameIndex := 15, descriptorIndex := 16, attributes := #[] }])
  fields := #[{ name := "NAMED", type := (.object "com/example/subsume/subsume/axioms/AtomicConcept$Kind"), accessFlags := 16409, slot := 0, constantValue := 0 }, { name := "INTRODUCED", type := (.object "com/example/subsume/subsume/axioms/AtomicConcept$Kind"), accessFlags := 16409, slot := 1, constantValue := 0 }, { name := "NOMINAL", type := (.object "com/example/subsume/subsume/axioms/AtomicConcept$Kind"), accessFlags := 16409, slot := 2, constantValue := 0 }, { name := "$VALUES", type := (.array (.object "com/example/subsume/subsume/axioms/AtomicConcept$Kind")), accessFlags := 4122, slot := 3, constantValue := 0 }]
  methods := #[]
  instanceTypes := #[(.object "java/lang/String"), .int, .int]
  staticTypes := #[(.object "com/example/subsume/subsume/axioms/AtomicConcept$Kind"), (.object "com/example/subsume/subsume/axioms/AtomicConcept$Kind"), (.object "com/example/subsume/subsume/axioms/AtomicConcept$Kind"), (.array (.object "com/example/subsume/subsume/axioms/AtomicConcept$Kind"))]
  resolved := Array.replicate 56 none
  statics := some 0 }

def pool7 : Array CpInfo := pool [(2, .class_ 4), (1, u "java/lang/CharSequence"), (42, .class_ 48), (0, u "java/lang/CharSequence$1CodePointIterator"), (10, .class_ 60), (0, u "java/lang/CharSequence$1CharIterator"), (5, .class_ 67), (0, u "java/lang/Object")] 63

/-- java/lang/CharSequence -/
def k7 : Class := { plain "java/lang/CharSequence" (some 0) with
  accessFlags := 1537
  interfaces := #[]
  cf := some (fileOf pool7 2 #[.nestMembers #[47, 59]] #[] 1537 66 #[] #[])
  fields := #[]
  methods := #[]
  instanceTypes := #[]
  staticTypes := #[]
  resolved := Array.replicate 131 none
  statics := none }

def pool8 : Array CpInfo := pool [(1, .class_ 2), (0, u "java/lang/constant/ConstantDesc"), (0, .class_ 4), (0, u "java/lang/Object")] 32

/-- java/lang/constant/ConstantDesc -/
def k8 : Class := { plain "java/lang/constant/ConstantDesc" (some 0) with
  accessFlags := 1537
  interfaces := #[]
  cf := some (fileOf pool8 1 #[] #[] 1537 3 #[] #[])
  fields := #[]
  methods := #[]
  instanceTypes := #[]
  staticTypes := #[]
  resolved := Array.replicate 37 none
  statics := none }

def pool9 : Array CpInfo := pool [(1, .methodref 2 3), (0, .class_ 4), (0, .nameAndType 5 6), (0, u "java/lang/Object"), (0, u "<init>"), (0, u "()V"), (0, .string 8), (0, u ""), (0, .fieldref 10 11), (0, .class_ 12), (0, .nameAndType 13 14), (0, u "java/lang/String"), (0, u "value"), (0, u "[B"), (0, .fieldref 10 16), (0, .nameAndType 17 18), (0, u "coder"), (0, u "B"), (2, u "hash"), (0, u "I"), (2, u "hashIsZero"), (0, u "Z"), (0, .methodref 10 28), (0, .nameAndType 5 29), (0, u "([CIILjava/lang/Void;)V"), (8, .fieldref 10 39), (0, .nameAndType 40 26), (0, u "COMPACT_STRINGS"), (1, .class_ 44), (1, u "java/lang/StringUTF16"), (0, u "compress"), (1, .methodref 42 48), (0, .nameAndType 49 50), (0, u "coderFromArrayLen"), (0, u "([BI)B"), (56, .class_ 109), (1, u "java/lang/StringLatin1"), (67, .methodref 42 178), (0, .nameAndType 45 179), (0, u "([CII)[B"), (361, .methodref 107 542), (0, .nameAndType 543 544), (0, u "equals"), (0, u "([B[B)Z"), (28, u "(Ljava/lang/Object;)Z"), (1, .class_ 576), (0, u "java/lang/CharSequence"), (22, u "CASE_INSENSITIVE_ORDER"), (0, u "Ljava/util/Comparator;"), (409, u "([C)V"), (90, u "serialPersistentFields"), (0, u "[Ljava/io/ObjectStreamField;"), (0, .class_ 1104), (0, u "java/lang/String$CaseInsensitiveComparator"), (1, .class_ 1107), (0, u "java/io/Serializable"), (0, .class_ 1109), (0, u "java/lang/Comparable"), (0, .class_ 1111), (0, u "java/lang/constant/Constable"), (0, .class_ 1113), (0, u "java/lang/constant/ConstantDesc"), (2, u "serialVersionUID"), (0, u "J"), (3, u "REPL"), (0, u "C"), (2, u "LATIN1"), (1, u "UTF16")] 323

def k9m0 : Method := { name := "<init>", desc := "()V", sig := { parameters := [], returnType := none }, accessFlags := 1, code := none }
def k9c1 : Code := { maxStack := 5, maxLocals := 2, code := jdk_42_method_3_code, exceptionTable := #[], attributes := #[] }
def k9m1 : Method := { name := "<init>", desc := "([C)V", sig := { parameters := [(.array .char)], returnType := none }, accessFlags := 1, code := some k9c1 }
def k9c2 : Code := { maxStack := 2, maxLocals := 3, code := jdk_42_method_66_code, exceptionTable := #[], attributes := #[] }
def k9m2 : Method := { name := "equals", desc := "(Ljava/lang/Object;)Z", sig := { parameters := [(.object "java/lang/Object")], returnType := some .boolean }, accessFlags := 1, code := some k9c2 }
def k9c3 : Code := { maxStack := 4, maxLocals := 6, code := jdk_42_method_149_code, exceptionTable := #[], attributes := #[] }
def k9m3 : Method := { name := "<init>", desc := "([CIILjava/lang/Void;)V", sig := { parameters := [(.array .char), .int, .int, (.object "java/lang/Void")], returnType := none }, accessFlags := 2, code := some k9c3 }
/-- java/lang/String -/
def k9 : Class := { plain "java/lang/String" (some 0) with
  accessFlags := 49
  interfaces := #[4, 3, 7, 2, 8]
  cf := some (fileOf pool9 10 #[.nestMembers #[1103]] #[{ accessFlags := 1, nameIndex := 5, descriptorIndex := 6, attributes := #[] }, { accessFlags := 1, nameIndex := 5, descriptorIndex := 1010, attributes := #[] }, { accessFlags := 1, nameIndex := 543, descriptorIndex := 573, attributes := #[] }, { accessFlags := 2, nameIndex := 5, descriptorIndex := 29, attributes := #[] }] 49 2 #[1106, 1108, 575, 1110, 1112] #[{ accessFlags := 18, nameIndex := 13, descriptorIndex := 14, attributes := #[] }, { accessFlags := 18, nameIndex := 17, descriptorIndex := 18, attributes := #[] }, { accessFlags := 2, nameIndex := 21, descriptorIndex := 22, attributes := #[] }, { accessFlags := 2, nameIndex := 25, descriptorIndex := 26, attributes := #[] }, { accessFlags := 26, nameIndex := 1116, descriptorIndex := 1117, attributes := #[] }, { accessFlags := 24, nameIndex := 40, descriptorIndex := 26, attributes := #[] }, { accessFlags := 26, nameIndex := 1101, descriptorIndex := 1102, attributes := #[] }, { accessFlags := 26, nameIndex := 1121, descriptorIndex := 1122, attributes := #[] }, { accessFlags := 25, nameIndex := 599, descriptorIndex := 600, attributes := #[] }, { accessFlags := 24, nameIndex := 1125, descriptorIndex := 18, attributes := #[] }, { accessFlags := 24, nameIndex := 1127, descriptorIndex := 18, attributes := #[] }])
  fields := #[{ name := "value", type := (.array .byte), accessFlags := 18, slot := 0, constantValue := 0 }, { name := "coder", type := .byte, accessFlags := 18, slot := 1, constantValue := 0 }, { name := "hash", type := .int, accessFlags := 2, slot := 2, constantValue := 0 }, { name := "hashIsZero", type := .boolean, accessFlags := 2, slot := 3, constantValue := 0 }, { name := "serialVersionUID", type := .long, accessFlags := 26, slot := 0, constantValue := 0 }, { name := "COMPACT_STRINGS", type := .boolean, accessFlags := 24, slot := 1, constantValue := 0 }, { name := "serialPersistentFields", type := (.array (.object "java/io/ObjectStreamField")), accessFlags := 26, slot := 2, constantValue := 0 }, { name := "REPL", type := .char, accessFlags := 26, slot := 3, constantValue := 0 }, { name := "CASE_INSENSITIVE_ORDER", type := (.object "java/util/Comparator"), accessFlags := 25, slot := 4, constantValue := 0 }, { name := "LATIN1", type := .byte, accessFlags := 24, slot := 5, constantValue := 0 }, { name := "UTF16", type := .byte, accessFlags := 24, slot := 6, constantValue := 0 }]
  methods := #[k9m0, k9m1, k9m2, k9m3]
  instanceTypes := #[(.array .byte), .byte, .int, .boolean]
  staticTypes := #[.long, .boolean, (.array (.object "java/io/ObjectStreamField")), .char, (.object "java/util/Comparator"), .byte, .byte]
  resolved := Array.replicate 1451 none
  statics := some 1 }

def pool10 : Array CpInfo := pool [(6, .class_ 8), (1, u "java/lang/Object"), (0, u "<init>"), (0, u "()V"), (1, .class_ 14), (1, u "java/lang/StringUTF16"), (31, u "$assertionsDisabled"), (0, u "Z"), (13, u "HI_BYTE_SHIFT"), (0, u "I"), (2, u "LO_BYTE_SHIFT"), (49, .methodref 12 116), (0, .nameAndType 117 118), (0, u "compress"), (0, u "([CI[BII)I"), (3, u "([CII)[B"), (138, u "coderFromArrayLen"), (0, u "([BI)B"), (106, .class_ 371), (1, u "java/lang/StringUTF16$LinesSpliterator"), (58, u "MAX_LENGTH"), (196, .class_ 628), (0, u "java/lang/StringUTF16$CodePointsSpliterator"), (0, .class_ 630), (0, u "java/lang/StringUTF16$CharsSpliterator")] 4

def k10m0 : Method := { name := "<init>", desc := "()V", sig := { parameters := [], returnType := none }, accessFlags := 0, code := none }
def k10c1 : Code := { maxStack := 2, maxLocals := 2, code := jdk_52_method_15_code, exceptionTable := #[], attributes := #[] }
def k10m1 : Method := { name := "coderFromArrayLen", desc := "([BI)B", sig := { parameters := [(.array .byte), .int], returnType := some .byte }, accessFlags := 8, code := some k10c1 }
def k10c2 : Code := { maxStack := 5, maxLocals := 6, code := jdk_52_method_16_code, exceptionTable := #[], attributes := #[] }
def k10m2 : Method := { name := "compress", desc := "([CII)[B", sig := { parameters := [(.array .char), .int, .int], returnType := some (.array .byte) }, accessFlags := 9, code := some k10c2 }
def k10c3 : Code := { maxStack := 3, maxLocals := 7, code := jdk_52_method_21_code, exceptionTable := #[], attributes := #[] }
def k10m3 : Method := { name := "compress", desc := "([CI[BII)I", sig := { parameters := [(.array .char), .int, (.array .byte), .int, .int], returnType := some .int }, accessFlags := 9, code := some k10c3 }
/-- java/lang/StringUTF16 -/
def k10 : Class := { plain "java/lang/StringUTF16" (some 0) with
  accessFlags := 48
  interfaces := #[]
  cf := some (fileOf pool10 12 #[.nestMembers #[627, 629, 369]] #[{ accessFlags := 0, nameIndex := 9, descriptorIndex := 10, attributes := #[] }, { accessFlags := 8, nameIndex := 261, descriptorIndex := 262, attributes := #[] }, { accessFlags := 9, nameIndex := 117, descriptorIndex := 122, attributes := #[] }, { accessFlags := 9, nameIndex := 117, descriptorIndex := 118, attributes := #[] }] 48 6 #[] #[{ accessFlags := 26, nameIndex := 61, descriptorIndex := 62, attributes := #[] }, { accessFlags := 26, nameIndex := 65, descriptorIndex := 62, attributes := #[] }, { accessFlags := 24, nameIndex := 430, descriptorIndex := 62, attributes := #[] }, { accessFlags := 4120, nameIndex := 46, descriptorIndex := 47, attributes := #[] }])
  fields := #[{ name := "HI_BYTE_SHIFT", type := .int, accessFlags := 26, slot := 0, constantValue := 0 }, { name := "LO_BYTE_SHIFT", type := .int, accessFlags := 26, slot := 1, constantValue := 0 }, { name := "MAX_LENGTH", type := .int, accessFlags := 24, slot := 2, constantValue := 0 }, { name := "$assertionsDisabled", type := .boolean, accessFlags := 4120, slot := 3, constantValue := 0 }]
  methods := #[k10m0, k10m1, k10m2, k10m3]
  instanceTypes := #[]
  staticTypes := #[.int, .int, .int, .boolean]
  resolved := Array.replicate 635 none
  statics := none }

def pool11 : Array CpInfo := pool [(1, .methodref 2 3), (0, .class_ 4), (0, .nameAndType 5 6), (0, u "java/lang/Object"), (0, u "<init>"), (0, u "()V"), (0, .class_ 8), (0, u "java/lang/Record")] 13

def k11c0 : Code := { maxStack := 1, maxLocals := 1, code := jdk_30_method_1_code, exceptionTable := #[], attributes := #[] }
def k11m0 : Method := { name := "<init>", desc := "()V", sig := { parameters := [], returnType := none }, accessFlags := 4, code := some k11c0 }
/-- java/lang/Record -/
def k11 : Class := { plain "java/lang/Record" (some 0) with
  accessFlags := 1057
  interfaces := #[]
  cf := some (fileOf pool11 7 #[] #[{ accessFlags := 4, nameIndex := 5, descriptorIndex := 6, attributes := #[] }] 1057 2 #[] #[])
  fields := #[]
  methods := #[k11m0]
  instanceTypes := #[]
  staticTypes := #[]
  resolved := Array.replicate 22 none
  statics := none }

def pool12 : Array CpInfo := pool [(1, .class_ 2), (0, u "com/example/subsume/subsume/axioms/Concept$Top"), (5, .class_ 10), (1, u "com/example/subsume/subsume/axioms/Concept"), (0, u "TOP"), (0, u "Lcom/example/subsume/subsume/axioms/Concept;"), (0, .class_ 14), (0, u "com/example/subsume/subsume/axioms/Concept$Bottom"), (3, u "BOTTOM"), (0, .class_ 20), (0, u "java/lang/Object"), (6, .class_ 28), (0, u "com/example/subsume/subsume/axioms/Concept$AtMost"), (0, .class_ 30), (0, u "com/example/subsume/subsume/axioms/Concept$AtLeast"), (0, .class_ 32), (0, u "com/example/subsume/subsume/axioms/Concept$All"), (0, .class_ 34), (0, u "com/example/subsume/subsume/axioms/Concept$Or"), (0, .class_ 36), (0, u "com/example/subsume/subsume/axioms/Concept$And"), (0, .class_ 38), (0, u "com/example/subsume/subsume/axioms/Concept$Not")] 12

/-- com/example/subsume/subsume/axioms/Concept -/
def k12 : Class := { plain "com/example/subsume/subsume/axioms/Concept" (some 0) with
  accessFlags := 1537
  interfaces := #[]
  cf := some (fileOf pool12 8 #[.nestMembers #[27, 29, 31, 33, 35, 37, 13, 1]] #[] 1537 19 #[] #[{ accessFlags := 25, nameIndex := 11, descriptorIndex := 12, attributes := #[] }, { accessFlags := 25, nameIndex := 18, descriptorIndex := 12, attributes := #[] }])
  fields := #[{ name := "TOP", type := (.object "com/example/subsume/subsume/axioms/Concept"), accessFlags := 25, slot := 0, constantValue := 0 }, { name := "BOTTOM", type := (.object "com/example/subsume/subsume/axioms/Concept"), accessFlags := 25, slot := 1, constantValue := 0 }]
  methods := #[]
  instanceTypes := #[]
  staticTypes := #[(.object "com/example/subsume/subsume/axioms/Concept"), (.object "com/example/subsume/subsume/axioms/Concept")]
  resolved := Array.replicate 51 none
  statics := none }

def pool13 : Array CpInfo := pool [(1, .methodref 2 3), (0, .class_ 4), (0, .nameAndType 5 6), (0, u "java/lang/Record"), (0, u "<init>"), (0, u "()V"), (0, .string 8), (0, u "name"), (0, .methodref 10 11), (0, .class_ 12), (0, .nameAndType 13 14), (0, u "java/util/Objects"), (0, u "requireNonNull"), (0, u "(Ljava/lang/Object;Ljava/lang/String;)Ljava/lang/Object;"), (0, .string 16), (0, u "kind"), (0, .fieldref 18 19), (0, .class_ 20), (0, .nameAndType 8 21), (0, u "com/example/subsume/subsume/axioms/AtomicConcept"), (0, u "Ljava/lang/String;"), (0, .fieldref 18 23), (0, .nameAndType 16 24), (0, u "Lcom/example/subsume/subsume/axioms/AtomicConcept$Kind;"), (1, .class_ 28), (1, u "com/example/subsume/subsume/axioms/AtomicConcept$Kind"), (3, u "(Ljava/lang/String;Lcom/example/subsume/subsume/axioms/AtomicConcept$Kind;)V"), (19, .class_ 54), (1, u "java/lang/String"), (9, .methodref 52 65), (0, .nameAndType 66 67), (0, u "equals"), (0, u "(Ljava/lang/Object;)Z"), (15, .class_ 84), (0, u "com/example/subsume/subsume/axioms/Concept")] 44

def k13c0 : Code := { maxStack := 2, maxLocals := 3, code := prog_6_method_1_code, exceptionTable := #[], attributes := #[] }
def k13m0 : Method := { name := "<init>", desc := "(Ljava/lang/String;Lcom/example/subsume/subsume/axioms/AtomicConcept$Kind;)V", sig := { parameters := [(.object "java/lang/String"), (.object "com/example/subsume/subsume/axioms/AtomicConcept$Kind")], returnType := none }, accessFlags := 1, code := some k13c0 }
def k13c1 : Code := { maxStack := 2, maxLocals := 3, code := prog_6_method_7_code, exceptionTable := #[], attributes := #[] }
def k13m1 : Method := { name := "equals", desc := "(Ljava/lang/Object;)Z", sig := { parameters := [(.object "java/lang/Object")], returnType := some .boolean }, accessFlags := 1, code := some k13c1 }
/-- com/example/subsume/subsume/axioms/AtomicConcept -/
def k13 : Class := { plain "com/example/subsume/subsume/axioms/AtomicConcept" (some 11) with
  accessFlags := 49
  interfaces := #[12]
  cf := some (fileOf pool13 18 #[.nestMembers #[26]] #[{ accessFlags := 1, nameIndex := 5, descriptorIndex := 32, attributes := #[] }, { accessFlags := 1, nameIndex := 66, descriptorIndex := 67, attributes := #[] }] 49 2 #[83] #[{ accessFlags := 18, nameIndex := 8, descriptorIndex := 21, attributes := #[] }, { accessFlags := 18, nameIndex := 16, descriptorIndex := 24, attributes := #[] }])
  fields := #[{ name := "name", type := (.object "java/lang/String"), accessFlags := 18, slot := 0, constantValue := 0 }, { name := "kind", type := (.object "com/example/subsume/subsume/axioms/AtomicConcept$Kind"), accessFlags := 18, slot := 1, constantValue := 0 }]
  methods := #[k13m0, k13m1]
  instanceTypes := #[(.object "java/lang/String"), (.object "com/example/subsume/subsume/axioms/AtomicConcept$Kind")]
  staticTypes := #[]
  resolved := Array.replicate 129 none
  statics := none }

def pool14 : Array CpInfo := pool [(2, .class_ 4), (1, u "java/lang/Object"), (0, u "<init>"), (0, u "()V"), (35, .class_ 44), (1, u "java/util/Objects"), (0, u "requireNonNull"), (48, u "(Ljava/lang/Object;Ljava/lang/String;)Ljava/lang/Object;")] 89

def k14m0 : Method := { name := "<init>", desc := "()V", sig := { parameters := [], returnType := none }, accessFlags := 2, code := none }
def k14c1 : Code := { maxStack := 3, maxLocals := 2, code := jdk_31_method_11_code, exceptionTable := #[], attributes := #[] }
def k14m1 : Method := { name := "requireNonNull", desc := "(Ljava/lang/Object;Ljava/lang/String;)Ljava/lang/Object;", sig := { parameters := [(.object "java/lang/Object"), (.object "java/lang/String")], returnType := some (.object "java/lang/Object") }, accessFlags := 9, code := some k14c1 }
/-- java/util/Objects -/
def k14 : Class := { plain "java/util/Objects" (some 0) with
  accessFlags := 49
  interfaces := #[]
  cf := some (fileOf pool14 42 #[] #[{ accessFlags := 2, nameIndex := 5, descriptorIndex := 6, attributes := #[] }, { accessFlags := 9, nameIndex := 45, descriptorIndex := 94, attributes := #[] }] 49 2 #[] #[])
  fields := #[]
  methods := #[k14m0, k14m1]
  instanceTypes := #[]
  staticTypes := #[]
  resolved := Array.replicate 184 none
  statics := none }

def pool15 : Array CpInfo := pool [(4, .class_ 6), (1, u "java/lang/Object"), (0, u "<init>"), (0, u "()V"), (5, .class_ 16), (1, u "java/lang/StringLatin1"), (104, u "$assertionsDisabled"), (0, u "Z"), (98, .class_ 223), (1, u "java/lang/StringLatin1$LinesSpliterator"), (57, u "equals"), (0, u "([B[B)Z"), (107, .class_ 391), (0, u "java/lang/StringLatin1$CharsSpliterator")] 3

def k15m0 : Method := { name := "<init>", desc := "()V", sig := { parameters := [], returnType := none }, accessFlags := 0, code := none }
def k15c1 : Code := { maxStack := 3, maxLocals := 3, code := jdk_43_method_13_code, exceptionTable := #[], attributes := #[] }
def k15m1 : Method := { name := "equals", desc := "([B[B)Z", sig := { parameters := [(.array .byte), (.array .byte)], returnType := some .boolean }, accessFlags := 9, code := some k15c1 }
/-- java/lang/StringLatin1 -/
def k15 : Class := { plain "java/lang/StringLatin1" (some 0) with
  accessFlags := 48
  interfaces := #[]
  cf := some (fileOf pool15 14 #[.nestMembers #[390, 221]] #[{ accessFlags := 0, nameIndex := 7, descriptorIndex := 8, attributes := #[] }, { accessFlags := 9, nameIndex := 281, descriptorIndex := 282, attributes := #[] }] 48 4 #[] #[{ accessFlags := 4120, nameIndex := 121, descriptorIndex := 122, attributes := #[] }])
  fields := #[{ name := "$assertionsDisabled", type := .boolean, accessFlags := 4120, slot := 0, constantValue := 0 }]
  methods := #[k15m0, k15m1]
  instanceTypes := #[]
  staticTypes := #[.boolean]
  resolved := Array.replicate 395 none
  statics := none }

def pool16 : Array CpInfo := pool [(2, .class_ 4), (1, u "java/lang/Object"), (0, u "<init>"), (0, u "()V"), (17, .class_ 26), (1, u "jdk/internal/util/Preconditions"), (28, .class_ 56), (0, u "jdk/internal/util/Preconditions$4"), (57, .class_ 115), (0, u "jdk/internal/util/Preconditions$1"), (7, u "SIOOBE_FORMATTER"), (0, u "Ljava/util/function/BiFunction;"), (0, .class_ 126), (0, u "jdk/internal/util/Preconditions$2"), (3, u "AIOOBE_FORMATTER"), (0, .class_ 132), (0, u "jdk/internal/util/Preconditions$3"), (3, u "IOOBE_FORMATTER")] 57

def k16m0 : Method := { name := "<init>", desc := "()V", sig := { parameters := [], returnType := none }, accessFlags := 1, code := none }
/-- jdk/internal/util/Preconditions -/
def k16 : Class := { plain "jdk/internal/util/Preconditions" (some 0) with
  accessFlags := 33
  interfaces := #[]
  cf := some (fileOf pool16 24 #[.nestMembers #[55, 131, 125, 114]] #[{ accessFlags := 1, nameIndex := 5, descriptorIndex := 6, attributes := #[] }] 33 2 #[] #[{ accessFlags := 25, nameIndex := 123, descriptorIndex := 124, attributes := #[] }, { accessFlags := 25, nameIndex := 130, descriptorIndex := 124, attributes := #[] }, { accessFlags := 25, nameIndex := 136, descriptorIndex := 124, attributes := #[] }])
  fields := #[{ name := "SIOOBE_FORMATTER", type := (.object "java/util/function/BiFunction"), accessFlags := 25, slot := 0, constantValue := 0 }, { name := "AIOOBE_FORMATTER", type := (.object "java/util/function/BiFunction"), accessFlags := 25, slot := 1, constantValue := 0 }, { name := "IOOBE_FORMATTER", type := (.object "java/util/function/BiFunction"), accessFlags := 25, slot := 2, constantValue := 0 }]
  methods := #[k16m0]
  instanceTypes := #[]
  staticTypes := #[(.object "java/util/function/BiFunction"), (.object "java/util/function/BiFunction"), (.object "java/util/function/BiFunction")]
  resolved := Array.replicate 194 none
  statics := some 2 }

def pool17 : Array CpInfo := pool [(9, u "<init>"), (6, .class_ 18), (1, u "java/lang/Object"), (0, u "()V"), (1, .class_ 23), (1, u "jdk/internal/util/ArraysSupport"), (0, u "LOG2_ARRAY_LONG_INDEX_SCALE"), (0, u "I"), (2, u "U"), (0, u "Ljdk/internal/misc/Unsafe;"), (8, u "BIG_ENDIAN"), (0, u "Z"), (8, u "LOG2_BYTE_BIT_SIZE"), (4, u "LOG2_ARRAY_INT_INDEX_SCALE"), (54, u "JLA"), (0, u "Ljdk/internal/access/JavaLangAccess;"), (11, u "LOG2_ARRAY_BOOLEAN_INDEX_SCALE"), (9, u "LOG2_ARRAY_BYTE_INDEX_SCALE"), (5, u "LOG2_ARRAY_CHAR_INDEX_SCALE"), (5, u "LOG2_ARRAY_SHORT_INDEX_SCALE"), (18, u "LOG2_ARRAY_FLOAT_INDEX_SCALE"), (24, u "LOG2_ARRAY_DOUBLE_INDEX_SCALE"), (89, u "T_BOOLEAN"), (2, u "T_CHAR"), (1, u "T_FLOAT"), (1, u "T_DOUBLE"), (1, u "T_BYTE"), (1, u "T_SHORT"), (1, u "T_INT"), (1, u "T_LONG"), (1, u "SOFT_MAX_ARRAY_LENGTH")] 83

def k17m0 : Method := { name := "<init>", desc := "()V", sig := { parameters := [], returnType := none }, accessFlags := 2, code := none }
/-- jdk/internal/util/ArraysSupport -/
def k17 : Class := { plain "jdk/internal/util/ArraysSupport" (some 0) with
  accessFlags := 33
  interfaces := #[]
  cf := some (fileOf pool17 21 #[] #[{ accessFlags := 2, nameIndex := 9, descriptorIndex := 19, attributes := #[] }] 33 16 #[] #[{ accessFlags := 24, nameIndex := 28, descriptorIndex := 29, attributes := #[] }, { accessFlags := 26, nameIndex := 38, descriptorIndex := 39, attributes := #[] }, { accessFlags := 25, nameIndex := 121, descriptorIndex := 25, attributes := #[] }, { accessFlags := 25, nameIndex := 131, descriptorIndex := 25, attributes := #[] }, { accessFlags := 25, nameIndex := 137, descriptorIndex := 25, attributes := #[] }, { accessFlags := 25, nameIndex := 143, descriptorIndex := 25, attributes := #[] }, { accessFlags := 25, nameIndex := 53, descriptorIndex := 25, attributes := #[] }, { accessFlags := 25, nameIndex := 24, descriptorIndex := 25, attributes := #[] }, { accessFlags := 25, nameIndex := 162, descriptorIndex := 25, attributes := #[] }, { accessFlags := 25, nameIndex := 187, descriptorIndex := 25, attributes := #[] }, { accessFlags := 26, nameIndex := 48, descriptorIndex := 25, attributes := #[] }, { accessFlags := 25, nameIndex := 277, descriptorIndex := 25, attributes := #[] }, { accessFlags := 25, nameIndex := 280, descriptorIndex := 25, attributes := #[] }, { accessFlags := 25, nameIndex := 282, descriptorIndex := 25, attributes := #[] }, { accessFlags := 25, nameIndex := 284, descriptorIndex := 25, attributes := #[] }, { accessFlags := 25, nameIndex := 286, descriptorIndex := 25, attributes := #[] }, { accessFlags := 25, nameIndex := 288, descriptorIndex := 25, attributes := #[] }, { accessFlags := 25, nameIndex := 290, descriptorIndex := 25, attributes := #[] }, { accessFlags := 25, nameIndex := 292, descriptorIndex := 25, attributes := #[] }, { accessFlags := 26, nameIndex := 108, descriptorIndex := 109, attributes := #[] }, { accessFlags := 25, nameIndex := 294, descriptorIndex := 25, attributes := #[] }])
  fields := #[{ name := "U", type := (.object "jdk/internal/misc/Unsafe"), accessFlags := 24, slot := 0, constantValue := 0 }, { name := "BIG_ENDIAN", type := .boolean, accessFlags := 26, slot := 1, constantValue := 0 }, { name := "LOG2_ARRAY_BOOLEAN_INDEX_SCALE", type := .int, accessFlags := 25, slot := 2, constantValue := 0 }, { name := "LOG2_ARRAY_BYTE_INDEX_SCALE", type := .int, accessFlags := 25, slot := 3, constantValue := 0 }, { name := "LOG2_ARRAY_CHAR_INDEX_SCALE", type := .int, accessFlags := 25, slot := 4, constantValue := 0 }, { name := "LOG2_ARRAY_SHORT_INDEX_SCALE", type := .int, accessFlags := 25, slot := 5, constantValue := 0 }, { name := "LOG2_ARRAY_INT_INDEX_SCALE", type := .int, accessFlags := 25, slot := 6, constantValue := 0 }, { name := "LOG2_ARRAY_LONG_INDEX_SCALE", type := .int, accessFlags := 25, slot := 7, constantValue := 0 }, { name := "LOG2_ARRAY_FLOAT_INDEX_SCALE", type := .int, accessFlags := 25, slot := 8, constantValue := 0 }, { name := "LOG2_ARRAY_DOUBLE_INDEX_SCALE", type := .int, accessFlags := 25, slot := 9, constantValue := 0 }, { name := "LOG2_BYTE_BIT_SIZE", type := .int, accessFlags := 26, slot := 10, constantValue := 0 }, { name := "T_BOOLEAN", type := .int, accessFlags := 25, slot := 11, constantValue := 0 }, { name := "T_CHAR", type := .int, accessFlags := 25, slot := 12, constantValue := 0 }, { name := "T_FLOAT", type := .int, accessFlags := 25, slot := 13, constantValue := 0 }, { name := "T_DOUBLE", type := .int, accessFlags := 25, slot := 14, constantValue := 0 }, { name := "T_BYTE", type := .int, accessFlags := 25, slot := 15, constantValue := 0 }, { name := "T_SHORT", type := .int, accessFlags := 25, slot := 16, constantValue := 0 }, { name := "T_INT", type := .int, accessFlags := 25, slot := 17, constantValue := 0 }, { name := "T_LONG", type := .int, accessFlags := 25, slot := 18, constantValue := 0 }, { name := "JLA", type := (.object "jdk/internal/access/JavaLangAccess"), accessFlags := 26, slot := 19, constantValue := 0 }, { name := "SOFT_MAX_ARRAY_LENGTH", type := .int, accessFlags := 25, slot := 20, constantValue := 0 }]
  methods := #[k17m0]
  instanceTypes := #[]
  staticTypes := #[(.object "jdk/internal/misc/Unsafe"), .boolean, .int, .int, .int, .int, .int, .int, .int, .int, .int, .int, .int, .int, .int, .int, .int, .int, .int, (.object "jdk/internal/access/JavaLangAccess"), .int]
  resolved := Array.replicate 378 none
  statics := none }

def pool18 : Array CpInfo := pool [(1, u "java/lang/Cloneable"), (0, .class_ 1), (0, u "java/lang/Object"), (0, .class_ 3)] 3

/-- java/lang/Cloneable -/
def k18 : Class := { plain "java/lang/Cloneable" (some 0) with
  accessFlags := 1537
  interfaces := #[]
  cf := some (fileOf pool18 2 #[] #[] 1537 4 #[] #[])
  fields := #[]
  methods := #[]
  instanceTypes := #[]
  staticTypes := #[]
  resolved := Array.replicate 8 none
  statics := none }

/-- the primitive byte -/
def k19 : Class := { plain "byte" none with kind := .primitive 'B', accessFlags := 0x411 }
/-- [B -/
def k20 : Class := { plain "[B" (some 0) with kind := .array 19 .byte, interfaces := #[18, 4], accessFlags := 1041 }

/-- the primitive char -/
def k21 : Class := { plain "char" none with kind := .primitive 'C', accessFlags := 0x411 }
/-- [C -/
def k22 : Class := { plain "[C" (some 0) with kind := .array 21 .char, interfaces := #[18, 4], accessFlags := 1041 }

/-- the primitive int -/
def k23 : Class := { plain "int" none with kind := .primitive 'I', accessFlags := 0x411 }
/-- [I -/
def k24 : Class := { plain "[I" (some 0) with kind := .array 23 .int, interfaces := #[18, 4], accessFlags := 1041 }

/-- [Lcom/example/subsume/subsume/axioms/AtomicConcept$Kind; -/
def k25 : Class := { plain "[Lcom/example/subsume/subsume/axioms/AtomicConcept$Kind;" (some 0) with kind := .array 6 (.object "com/example/subsume/subsume/axioms/AtomicConcept$Kind"), interfaces := #[18, 4], accessFlags := 1041 }

def heap : Heap := #[{ cls := 6, slots := #[.ref 3, .ref 4, .ref 5, .null], vm := .statics 6 },
  { cls := 9, slots := #[.long 0, .int 1, .null, .int 0, .null, .int 0, .int 0], vm := .statics 9 },
  { cls := 16, slots := #[.null, .null, .null], vm := .statics 16 },
  { cls := 6, slots := #[.null, .int 0, .int 0], vm := .none },
  { cls := 6, slots := #[.null, .int 1, .int 0], vm := .none },
  { cls := 6, slots := #[.null, .int 2, .int 0], vm := .none }]
def classes : Array Class := #[k0, k1, k2, k3, k4, k5, k6, k7, k8, k9, k10, k11, k12, k13, k14, k15, k16, k17, k18, k19, k20, k21, k22, k23, k24, k25]
def interned : List (Array UInt16 × Addr) := []
def slotsUsed : Nat := 23
def theMethod : MethodId := ⟨1, 2⟩
def args0 : Array Value := #[.int 5, .int 5, .int 5]
def aboutOver (below : List Frame) : State where
  vm := { classes := classes, interned := interned.toArray }
  heap := heap
  slotsUsed := slotsUsed
  threads := #[{ frames := .invoking theMethod args0 :: below }]
def below0 : List Frame := [.native { method := ⟨0, 0⟩, args := #[] }]
def about1 : State := aboutOver below0
def p0 : Program := .bare "" "" ""
def e0 : Env := launch0.env 0 0 0
theorem w_frames : about1.frames = Frame.invoking theMethod args0 :: below0 := rfl
set_option maxRecDepth 65536 in
theorem w_args : argsFit about1.vm theMethod args0 = true := by decide +kernel
set_option maxRecDepth 65536 in
theorem w_heap : heapFits about1 = true := by decide +kernel
set_option maxRecDepth 65536 in
theorem w_runnable : about1.curStatus? = some .runnable := by decide +kernel
set_option maxRecDepth 65536 in
theorem w_alone : about1.alone = true := by decide +kernel
set_option maxRecDepth 65536 in
theorem w_named : about1.methodNamed? x = some theMethod := by decide +kernel
set_option maxRecDepth 65536 in
theorem w_hears : about1.hears theMethod below0 = true := by decide +kernel
set_option maxRecDepth 65536 in
theorem w_ripe : about1.ripe theMethod args0 below0 = true := by decide +kernel
theorem w_running : about1.status = .running := rfl
set_option maxRecDepth 65536 in
theorem w_room : about1.hasRoom e0.platform room_1 = true :=
  launch0.hasRoom_least _ room_1 (by decide +kernel) (by decide +kernel) (by decide +kernel) (by decide +kernel) (by decide +kernel) (by decide +kernel)
theorem allAtoms_all (ts : List Jvm.Cond) (a : Array Jvm.Value) (st : Jvm.State) : (allAtoms ts).before a st = ts.all (fun c => c.before a st) := by
  induction ts with
  | nil => rfl
  | cons c t ih =>
    show (Jvm.Cond.and c (allAtoms t)).before a st = _
    rw [Jvm.Cond.before_and, ih, List.all_cons]
def words1 : List Jvm.Cond := Jvm.Cond.code x code maxLocals ret :: tables_1
/-- a 'code' word, met by the world's own term for the bytes: nothing is compared byte by byte -/
theorem code_word {y : MethodName} {bytes : ByteArray} {mx : Nat} {rt : Option FieldType} {a : Array Value} {s : State} {m : MethodId} {meth : Method} {c : Code} (h1 : s.methodNamed? y = some m) (h2 : s.vm.method? m = some meth) (h3 : meth.code = some c) (h4 : c.code = bytes)
    (h5 : (c.maxLocals == mx && c.exceptionTable.isEmpty && decide (c.maxStack ≤ mostOperands) && decide (meth.sig.returnType = rt) && !meth.locks && decide (parseMethodDescriptor y.desc = some meth.sig)) = true) : (Jvm.Cond.code y bytes mx rt).before a s = true := by
  simp only [Bool.and_eq_true, beq_iff_eq, Bool.not_eq_true', decide_eq_true_eq] at h5
  obtain ⟨⟨⟨⟨⟨g1, g2⟩, g3⟩, g4⟩, g5⟩, g6⟩ := h5
  simp [Cond.before, Cond.holds, Cond.value, h1, h2, h3, h4, g1, g2, g3, g4, g5, g6]
def isCode : Jvm.Cond → Bool
  | .code _ _ _ _ => true
  | _ => false
theorem all_split {L : List Jvm.Cond} {P : Jvm.Cond → Bool} (h1 : L.all (fun c => isCode c || P c) = true) (h2 : ∀ c ∈ L.filter isCode, P c = true) : L.all P = true := by
  refine List.all_eq_true.mpr fun c hc => ?_
  have h := List.all_eq_true.mp h1 c hc
  rcases Bool.eq_false_or_eq_true (isCode c) with hi | hi
  · exact h2 c (List.mem_filter.mpr ⟨hc, hi⟩)
  · simpa [hi] using h
set_option maxRecDepth 65536 in
theorem w_c0 : (Jvm.Cond.code x code maxLocals ret).before args0 about1 = true := code_word (m := ⟨1, 2⟩) (meth := k1m2) (c := k1c2) (by decide +kernel) rfl rfl rfl (by decide +kernel)
set_option maxRecDepth 65536 in
theorem w_c1 : (Jvm.Cond.code ({ cls := "com/example/subsume/subsume/axioms/AtomicConceptEqualsPinLaw", name := "mk", desc := "(ICC)Ljava/lang/String;" } : Jvm.MethodName) method_2_code (3 : Nat) (Option.some (Jvm.ClassFile.FieldType.object "java/lang/String"))).before args0 about1 = true := code_word (m := ⟨1, 1⟩) (meth := k1m1) (c := k1c1) (by decide +kernel) rfl rfl rfl (by decide +kernel)
set_option maxRecDepth 65536 in
theorem w_c2 : (Jvm.Cond.code ({ cls := "java/lang/String", name := "<init>", desc := "([C)V" } : Jvm.MethodName) jdk_42_method_3_code (2 : Nat) (Option.none : Option Jvm.ClassFile.FieldType)).before args0 about1 = true := code_word (m := ⟨9, 1⟩) (meth := k9m1) (c := k9c1) (by decide +kernel) rfl rfl rfl (by decide +kernel)
set_option maxRecDepth 65536 in
theorem w_c3 : (Jvm.Cond.code ({ cls := "java/lang/String", name := "<init>", desc := "([CIILjava/lang/Void;)V" } : Jvm.MethodName) jdk_42_method_149_code (6 : Nat) (Option.none : Option Jvm.ClassFile.FieldType)).before args0 about1 = true := code_word (m := ⟨9, 3⟩) (meth := k9m3) (c := k9c3) (by decide +kernel) rfl rfl rfl (by decide +kernel)
set_option maxRecDepth 65536 in
theorem w_c4 : (Jvm.Cond.code ({ cls := "java/lang/Object", name := "<init>", desc := "()V" } : Jvm.MethodName) object_method_1_code (1 : Nat) (Option.none : Option Jvm.ClassFile.FieldType)).before args0 about1 = true := code_word (m := ⟨0, 0⟩) (meth := k0m0) (c := k0c0) (by decide +kernel) rfl rfl rfl (by decide +kernel)
set_option maxRecDepth 65536 in
theorem w_c5 : (Jvm.Cond.code ({ cls := "java/lang/StringUTF16", name := "compress", desc := "([CII)[B" } : Jvm.MethodName) jdk_52_method_16_code (6 : Nat) (Option.some (Jvm.ClassFile.FieldType.array Jvm.ClassFile.FieldType.byte))).before args0 about1 = true := code_word (m := ⟨10, 2⟩) (meth := k10m2) (c := k10c2) (by decide +kernel) rfl rfl rfl (by decide +kernel)
set_option maxRecDepth 65536 in
theorem w_c6 : (Jvm.Cond.code ({ cls := "java/lang/StringUTF16", name := "compress", desc := "([CI[BII)I" } : Jvm.MethodName) jdk_52_method_21_code (7 : Nat) (Option.some Jvm.ClassFile.FieldType.int)).before args0 about1 = true := code_word (m := ⟨10, 3⟩) (meth := k10m3) (c := k10c3) (by decide +kernel) rfl rfl rfl (by decide +kernel)
set_option maxRecDepth 65536 in
theorem w_c7 : (Jvm.Cond.code ({ cls := "java/lang/StringUTF16", name := "coderFromArrayLen", desc := "([BI)B" } : Jvm.MethodName) jdk_52_method_15_code (2 : Nat) (Option.some Jvm.ClassFile.FieldType.byte)).before args0 about1 = true := code_word (m := ⟨10, 1⟩) (meth := k10m1) (c := k10c1) (by decide +kernel) rfl rfl rfl (by decide +kernel)
set_option maxRecDepth 65536 in
theorem w_c8 : (Jvm.Cond.code ({ cls := "com/example/subsume/subsume/axioms/AtomicConcept", name := "<init>", desc := "(Ljava/lang/String;Lcom/example/subsume/subsume/axioms/AtomicConcept$Kind;)V" } : Jvm.MethodName) prog_6_method_1_code (3 : Nat) (Option.none : Option Jvm.ClassFile.FieldType)).before args0 about1 = true := code_word (m := ⟨13, 0⟩) (meth := k13m0) (c := k13c0) (by decide +kernel) rfl rfl rfl (by decide +kernel)
set_option maxRecDepth 65536 in
theorem w_c9 : (Jvm.Cond.code ({ cls := "java/lang/Record", name := "<init>", desc := "()V" } : Jvm.MethodName) jdk_30_method_1_code (1 : Nat) (Option.none : Option Jvm.ClassFile.FieldType)).before args0 about1 = true := code_word (m := ⟨11, 0⟩) (meth := k11m0) (c := k11c0) (by decide +kernel) rfl rfl rfl (by decide +kernel)
set_option maxRecDepth 65536 in
theorem w_c10 : (Jvm.Cond.code ({ cls := "java/util/Objects", name := "requireNonNull", desc := "(Ljava/lang/Object;Ljava/lang/String;)Ljava/lang/Object;" } : Jvm.MethodName) jdk_31_method_11_code (2 : Nat) (Option.some (Jvm.ClassFile.FieldType.object "java/lang/Object"))).before args0 about1 = true := code_word (m := ⟨14, 1⟩) (meth := k14m1) (c := k14c1) (by decide +kernel) rfl rfl rfl (by decide +kernel)
set_option maxRecDepth 65536 in
theorem w_c11 : (Jvm.Cond.code ({ cls := "com/example/subsume/subsume/axioms/AtomicConcept", name := "equals", desc := "(Ljava/lang/Object;)Z" } : Jvm.MethodName) prog_6_method_7_code (3 : Nat) (Option.some Jvm.ClassFile.FieldType.boolean)).before args0 about1 = true := code_word (m := ⟨13, 1⟩) (meth := k13m1) (c := k13c1) (by decide +kernel) rfl rfl rfl (by decide +kernel)
set_option maxRecDepth 65536 in
theorem w_c12 : (Jvm.Cond.code ({ cls := "java/lang/String", name := "equals", desc := "(Ljava/lang/Object;)Z" } : Jvm.MethodName) jdk_42_method_66_code (3 : Nat) (Option.some Jvm.ClassFile.FieldType.boolean)).before args0 about1 = true := code_word (m := ⟨9, 2⟩) (meth := k9m2) (c := k9c2) (by decide +kernel) rfl rfl rfl (by decide +kernel)
set_option maxRecDepth 65536 in
theorem w_c13 : (Jvm.Cond.code ({ cls := "java/lang/StringLatin1", name := "equals", desc := "([B[B)Z" } : Jvm.MethodName) jdk_43_method_13_code (3 : Nat) (Option.some Jvm.ClassFile.FieldType.boolean)).before args0 about1 = true := code_word (m := ⟨15, 1⟩) (meth := k15m1) (c := k15c1) (by decide +kernel) rfl rfl rfl (by decide +kernel)
def codes1 : List Jvm.Cond := [Jvm.Cond.code x code maxLocals ret, Jvm.Cond.code ({ cls := "com/example/subsume/subsume/axioms/AtomicConceptEqualsPinLaw", name := "mk", desc := "(ICC)Ljava/lang/String;" } : Jvm.MethodName) method_2_code (3 : Nat) (Option.some (Jvm.ClassFile.FieldType.object "java/lang/String")), Jvm.Cond.code ({ cls := "java/lang/String", name := "<init>", desc := "([C)V" } : Jvm.MethodName) jdk_42_method_3_code (2 : Nat) (Option.none : Option Jvm.ClassFile.FieldType), Jvm.Cond.code ({ cls := "java/lang/String", name := "<init>", desc := "([CIILjava/lang/Void;)V" } : Jvm.MethodName) jdk_42_method_149_code (6 : Nat) (Option.none : Option Jvm.ClassFile.FieldType), Jvm.Cond.code ({ cls := "java/lang/Object", name := "<init>", desc := "()V" } : Jvm.MethodName) object_method_1_code (1 : Nat) (Option.none : Option Jvm.ClassFile.FieldType), Jvm.Cond.code ({ cls := "java/lang/StringUTF16", name := "compress", desc := "([CII)[B" } : Jvm.MethodName) jdk_52_method_16_code (6 : Nat) (Option.some (Jvm.ClassFile.FieldType.array Jvm.ClassFile.FieldType.byte)), Jvm.Cond.code ({ cls := "java/lang/StringUTF16", name := "compress", desc := "([CI[BII)I" } : Jvm.MethodName) jdk_52_method_21_code (7 : Nat) (Option.some Jvm.ClassFile.FieldType.int), Jvm.Cond.code ({ cls := "java/lang/StringUTF16", name := "coderFromArrayLen", desc := "([BI)B" } : Jvm.MethodName) jdk_52_method_15_code (2 : Nat) (Option.some Jvm.ClassFile.FieldType.byte), Jvm.Cond.code ({ cls := "com/example/subsume/subsume/axioms/AtomicConcept", name := "<init>", desc := "(Ljava/lang/String;Lcom/example/subsume/subsume/axioms/AtomicConcept$Kind;)V" } : Jvm.MethodName) prog_6_method_1_code (3 : Nat) (Option.none : Option Jvm.ClassFile.FieldType), Jvm.Cond.code ({ cls := "java/lang/Record", name := "<init>", desc := "()V" } : Jvm.MethodName) jdk_30_method_1_code (1 : Nat) (Option.none : Option Jvm.ClassFile.FieldType), Jvm.Cond.code ({ cls := "java/util/Objects", name := "requireNonNull", desc := "(Ljava/lang/Object;Ljava/lang/String;)Ljava/lang/Object;" } : Jvm.MethodName) jdk_31_method_11_code (2 : Nat) (Option.some (Jvm.ClassFile.FieldType.object "java/lang/Object")), Jvm.Cond.code ({ cls := "com/example/subsume/subsume/axioms/AtomicConcept", name := "equals", desc := "(Ljava/lang/Object;)Z" } : Jvm.MethodName) prog_6_method_7_code (3 : Nat) (Option.some Jvm.ClassFile.FieldType.boolean), Jvm.Cond.code ({ cls := "java/lang/String", name := "equals", desc := "(Ljava/lang/Object;)Z" } : Jvm.MethodName) jdk_42_method_66_code (3 : Nat) (Option.some Jvm.ClassFile.FieldType.boolean), Jvm.Cond.code ({ cls := "java/lang/StringLatin1", name := "equals", desc := "([B[B)Z" } : Jvm.MethodName) jdk_43_method_13_code (3 : Nat) (Option.some Jvm.ClassFile.FieldType.boolean)]
set_option maxRecDepth 65536 in
theorem codes_eq : words1.filter isCode = codes1 := rfl
theorem w_codes : ∀ c ∈ words1.filter isCode, c.before args0 about1 = true := by
  rw [codes_eq]
  intro c hc
  simp only [codes1, List.mem_cons, List.not_mem_nil, or_false] at hc
  rcases hc with rfl | rfl | rfl | rfl | rfl | rfl | rfl | rfl | rfl | rfl | rfl | rfl | rfl | rfl
  · exact w_c0
  · exact w_c1
  · exact w_c2
  · exact w_c3
  · exact w_c4
  · exact w_c5
  · exact w_c6
  · exact w_c7
  · exact w_c8
  · exact w_c9
  · exact w_c10
  · exact w_c11
  · exact w_c12
  · exact w_c13
set_option maxRecDepth 65536 in
theorem w_t1 : (words1.take 24).all (fun c => isCode c || c.before args0 about1) = true := by decide +kernel
set_option maxRecDepth 65536 in
theorem w_t2 : ((words1.drop 24).take 24).all (fun c => isCode c || c.before args0 about1) = true := by decide +kernel
set_option maxRecDepth 65536 in
theorem w_t3 : (((words1.drop 24).drop 24).take 24).all (fun c => isCode c || c.before args0 about1) = true := by decide +kernel
set_option maxRecDepth 65536 in
theorem w_t4 : (((words1.drop 24).drop 24).drop 24).all (fun c => isCode c || c.before args0 about1) = true := by decide +kernel
theorem w_tables : (allAtoms (Jvm.Cond.code x code maxLocals ret :: tables_1)).before args0 about1 = true := by
  rw [allAtoms_all]
  show words1.all (fun c => c.before args0 about1) = true
  refine all_split ?_ w_codes
  rw [← List.take_append_drop 24 words1, List.all_append, w_t1, ← List.take_append_drop 24 (words1.drop 24), List.all_append, w_t2, ← List.take_append_drop 24 ((words1.drop 24).drop 24), List.all_append, w_t3, w_t4]
  rfl
set_option maxRecDepth 65536 in
theorem w_rest : rest_1_c.before args0 about1 = true := by decide +kernel
set_option maxRecDepth 65536 in
theorem w_case : (Jvm.Cond.and given_1 narrow_1).before args0 about1 = true := by decide +kernel
set_option maxRecDepth 65536 in
theorem w_consts : constsHeld consts_1 about1 := Jvm.Lit.constsHeldB_iff.mp (by decide +kernel)
theorem w_applies : (headSpec (Jvm.Cond.code x code maxLocals ret :: tables_1) room_1).applies x e0.platform about1 = true :=
  (Spec.applies_iff w_frames).mpr ⟨w_running, w_runnable, w_alone, w_named, w_hears, w_ripe, w_room, w_tables⟩
theorem atStart : AtStart classFile x code maxLocals ret World_1 tables_1 room_1 Calls_1 rest_1 Pre_1 launch0 p0 e0 about1 theMethod args0 below0 :=
  ⟨lists_1, trivial, launch0.admits_env _ _ _, launch0.least_env, fairChoices_fair.cas, fairChoices_fair.clock, w_frames, w_args, w_heap, w_applies, ⟨w_consts, trivial⟩, w_rest, w_case⟩
end start1
theorem witness_1 : WitnessClaimed_1 := ⟨start1.p0, start1.e0, start1.about1, start1.theMethod, start1.args0, start1.below0, start1.atStart⟩
end Jvm.Pilot.@@N@@
