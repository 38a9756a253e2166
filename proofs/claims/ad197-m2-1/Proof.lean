import JvmDerived
import JvmDerived.Pilot.@@N@@Statement
import JvmDerived.Pilot.@@N@@Code
set_option linter.unusedVariables false
set_option linter.unusedSimpArgs false
/- laws to paste: Road.backV, Road.eqW, Road.codOf (cut by pick.py; bodies as the Statement names them) -/
namespace Jvm.Pilot.@@N@@
namespace StrChars
open Jvm Sem ClassFile Op Lib Jvm.Stand Jvm.Free.XT Jvm.Free.ALB Jvm.Free.JM Jvm.Free
open Jvm.Lib.Cold (StaticIs)
/-- a char array whose places are chars -/
def Ch (a : Addr) (A : Cell) (U : State) : Prop := Arr .char a A U ∧ Typed .char A
theorem Ch.mv {a : Addr} {A : Cell} {U U' : State} (h : Ch a A U) (hal : U.vm.Alike U'.vm) (hh : U'.heap = U.heap) : Ch a A U' := ⟨h.1.mv hal hh, h.2⟩
theorem Ch.keep {a : Addr} {A : Cell} {U U' : State} (h : Ch a A U) (hal : U.vm.Alike U'.vm) (hk : U'.heap[a]? = some A) : Ch a A U' := ⟨h.1.keep hal hk, h.2⟩
/-- what place i of a char[]'s cell holds -/
def cv (A : Cell) (i : Nat) : Int32 := match A.slots[i]? with | some (.int x) => x | _ => 0
theorem Ch.get {a : Addr} {A : Cell} {U : State} (h : Ch a A U) {i : Nat} (hi : i < A.slots.size) : A.slots[i]? = some (.int (cv A i)) := by
  have e := Array.getElem?_eq_getElem hi
  have f := h.2 i _ e
  unfold cv; rw [e]
  generalize A.slots[i] = v at f
  cases v <;> simp [fits] at f ⊢
/-- the byte that i2b leaves of a char -/
def lo8 (x : Int32) : Int32 := x.toInt8.toInt32
theorem fits_lo8 (y : Int32) : fits .byte (.int (lo8 y)) = true := by
  have h1 := y.toInt8.le_toInt
  have h2 := y.toInt8.toInt_lt
  simp only [lo8, fits, Bool.and_eq_true, decide_eq_true_eq, Int32.le_iff_toInt_le, Int8.toInt_toInt32, show (-128 : Int32).toInt = -128 from by decide, show (127 : Int32).toInt = 127 from by decide]
  omega
/-- A' is A but that each place j of lo .. hi - 1 holds f j -/
def Laid (A A' : Cell) (lo hi : Nat) (f : Nat → Value) : Prop := A'.cls = A.cls ∧ A'.vm = A.vm ∧ A'.slots.size = A.slots.size ∧ ∀ i, A'.slots[i]? = if lo ≤ i ∧ i < hi then some (f i) else A.slots[i]?
theorem Laid.zero (A : Cell) (lo : Nat) (f : Nat → Value) : Laid A A lo (lo + 0) f := ⟨rfl, rfl, rfl, fun i => by rw [if_neg (by omega)]⟩
theorem Laid.step {A Ak : Cell} {lo k : Nat} {f : Nat → Value} {v : Value} (h : Laid A Ak lo k f) (hlo : lo ≤ k) (hk : k < Ak.slots.size) (hv : v = f k) : Laid A (Ak.setSlot k v) lo (k + 1) f := by
  refine ⟨h.1, h.2.1, by simpa [Cell.setSlot] using h.2.2.1, fun i => ?_⟩
  by_cases e : k = i
  · subst e; rw [Cell.slots_setSlot_self v hk, if_pos (by omega), hv]
  · rw [Cell.slots_setSlot_ne v e, h.2.2.2 i]
    by_cases q : lo ≤ i ∧ i < k
    · rw [if_pos q, if_pos (by omega)]
    · rw [if_neg q, if_neg (by omega)]
def U16 : String := "java/lang/StringUTF16"
namespace Cmp5
def yN : MethodName := ⟨"java/lang/StringUTF16", "compress", "([CI[BII)I"⟩
abbrev yB : ByteArray := jdk_52_method_21_code
theorem d0 : decode yB 0 = .ok (.iconst 0, 1) := by decide +kernel
theorem d1 : decode yB 1 = .ok (.istore 5, 2) := by decide +kernel
theorem d3 : decode yB 3 = .ok (.iload 5, 2) := by decide +kernel
theorem d5 : decode yB 5 = .ok (.iload 4, 2) := by decide +kernel
theorem d7 : decode yB 7 = .ok (.if_icmp (.ge) 37, 3) := by decide +kernel
theorem d10 : decode yB 10 = .ok (.aload_n 0, 1) := by decide +kernel
theorem d11 : decode yB 11 = .ok (.iload_n 1, 1) := by decide +kernel
theorem d12 : decode yB 12 = .ok (.caload, 1) := by decide +kernel
theorem d13 : decode yB 13 = .ok (.istore 6, 2) := by decide +kernel
theorem d15 : decode yB 15 = .ok (.iload 6, 2) := by decide +kernel
theorem d17 : decode yB 17 = .ok (.sipush 255, 3) := by decide +kernel
theorem d20 : decode yB 20 = .ok (.if_icmp (.le) 6, 3) := by decide +kernel
theorem d26 : decode yB 26 = .ok (.aload_n 2, 1) := by decide +kernel
theorem d27 : decode yB 27 = .ok (.iload_n 3, 1) := by decide +kernel
theorem d28 : decode yB 28 = .ok (.iload 6, 2) := by decide +kernel
theorem d30 : decode yB 30 = .ok (.i2b, 1) := by decide +kernel
theorem d31 : decode yB 31 = .ok (.bastore, 1) := by decide +kernel
theorem d32 : decode yB 32 = .ok (.iinc 1 1, 3) := by decide +kernel
theorem d35 : decode yB 35 = .ok (.iinc 3 1, 3) := by decide +kernel
theorem d38 : decode yB 38 = .ok (.iinc 5 1, 3) := by decide +kernel
theorem d41 : decode yB 41 = .ok (.goto (-38), 3) := by decide +kernel
theorem d44 : decode yB 44 = .ok (.iload 4, 2) := by decide +kernel
theorem d46 : decode yB 46 = .ok (.ireturn, 1) := by decide +kernel
def site : List Cond := []
def tab : Cond := tabOf yN yB 7 (some .int) site
def P (b : Addr) (A : Cell) (d : Addr) (B : Cell) (o q len : Nat) (args : Array Value) (s : State) : Prop := args = #[.ref b, .int (Int32.ofNat o), .ref d, .int (Int32.ofNat q), .int (Int32.ofNat len)] ∧ Ch b A s ∧ Arr .byte d B s ∧ b ≠ d ∧ o + len ≤ A.slots.size ∧ q + len ≤ B.slots.size ∧ ∀ i, i < len → ¬ 255 < cv A (o + i)
def E (b : Addr) (A : Cell) (d : Addr) (B : Cell) (o q len : Nat) (r : Option Value) (s u : State) : Prop := r = some (.int (Int32.ofNat len)) ∧ ∃ B', Put d B' s u ∧ Laid B B' q (q + len) (fun j => Value.int (lo8 (cv A (o + (j - q)))))
/-- no char of the range above 255: len; the places written hold each char's low byte -/
theorem law (l : Launch) (b : Addr) (A : Cell) (d : Addr) (B : Cell) (o q len : Nat) : Law l yN 5 5 0 0 yB 7 (some .int) site (P b A d B o q len) (E b A d B o q len) (copyLocs d q len) 0 0 := by
  refine Law.of_walk (plainFor_of_name (by decide +kernel)) (by decide +kernel) (by decide +kernel) (by decide) (fun _ _ h => by rw [h.1]; rfl) (fun _ U U' hal hh h => ⟨h.1, h.2.1.mv hal hh, h.2.2.1.mv hal hh, h.2.2.2⟩) (fun r U U' V V' h1 hal h2 h => ⟨h.1, h.2.elim fun B' q => ⟨B', q.1.mv h1 h2, q.2⟩⟩) ?_
  intro p e s m args below meth c s₁ X0 hexec hbytes hml hret hlk hnm hown hh0 W hP
  obtain ⟨rfl, hA, hB, hne, l1, l2, hp⟩ := hP
  have c1 : Steps p.tables e below (s₁.setTop (entryFrame m #[.ref b, .int (Int32.ofNat o), .ref d, .int (Int32.ofNat q), .int (Int32.ofNat len)] 7)) (s₁.setTop (mkF m 0 #[.val (.ref b), .val (.int (Int32.ofNat o)), .val (.ref d), .val (.int (Int32.ofNat q)), .val (.int (Int32.ofNat len)), .unset, .unset] [])) := entry rfl
  have hA0 := hA.1.mv X0.warmed.alike hh0
  have hB0 := hB.mv X0.warmed.alike hh0
  have a31 := hA.1.2.2.2
  have c2 : Steps p.tables e below (s₁.setTop (entryFrame m #[.ref b, .int (Int32.ofNat o), .ref d, .int (Int32.ofNat q), .int (Int32.ofNat len)] 7)) (s₁.setTop (mkF m 3 #[.val (.ref b), .val (.int (Int32.ofNat o)), .val (.ref d), .val (.int (Int32.ofNat q)), .val (.int (Int32.ofNat len)), .val (.int 0), .unset] [])) := c1.trans (by
    refine iconstV X0.here hexec rfl 0 (hb hbytes d0) (by decide) ?_
    refine XS.istore X0.here hexec rfl (hb hbytes d1) rfl rfl ?_
    exact Steps.refl _)
  have loop : ∀ (r i : Nat), i + r = len → ∀ (z : Slot), (z = .unset ∨ ∃ w, z = .val w ∧ w.category = 1) → ∀ (Tl : State) (Bk : Cell), Stand p l e { frames := 0, locals := 0, cells := 0, slots := 0 } s m #[.ref b, .int (Int32.ofNat o), .ref d, .int (Int32.ofNat q), .int (Int32.ofNat len)] below meth c Tl ([] ++ copyLocs d q i) 0 0 → Put d Bk s₁ Tl → Laid B Bk q (q + i) (fun j => Value.int (lo8 (cv A (o + (j - q))))) →
      Steps p.tables e below (s₁.setTop (entryFrame m #[.ref b, .int (Int32.ofNat o), .ref d, .int (Int32.ofNat q), .int (Int32.ofNat len)] 7)) (Tl.setTop (mkF m 3 #[.val (.ref b), .val (.int (Int32.ofNat (o + i))), .val (.ref d), .val (.int (Int32.ofNat (q + i))), .val (.int (Int32.ofNat len)), .val (.int (Int32.ofNat i)), z] [])) → ∃ (T' : State) (B' : Cell) (z' : Slot), Stand p l e { frames := 0, locals := 0, cells := 0, slots := 0 } s m #[.ref b, .int (Int32.ofNat o), .ref d, .int (Int32.ofNat q), .int (Int32.ofNat len)] below meth c T' ([] ++ copyLocs d q len) 0 0 ∧ Put d B' s₁ T' ∧ Laid B B' q (q + len) (fun j => Value.int (lo8 (cv A (o + (j - q))))) ∧
      Steps p.tables e below (s₁.setTop (entryFrame m #[.ref b, .int (Int32.ofNat o), .ref d, .int (Int32.ofNat q), .int (Int32.ofNat len)] 7)) (T'.setTop (mkF m 3 #[.val (.ref b), .val (.int (Int32.ofNat (o + len))), .val (.ref d), .val (.int (Int32.ofNat (q + len))), .val (.int (Int32.ofNat len)), .val (.int (Int32.ofNat len)), z'] [])) := by
    intro r
    induction r with
    | zero =>
      intro i hi z hz Tl Bk Xl pl fl cl
      have hil : i = len := by omega
      rw [hil] at Xl fl cl
      exact ⟨Tl, Bk, z, Xl, pl, fl, cl⟩
    | succ r ih =>
      intro i hi z hz Tl Bk Xl pl fl cl
      have all := X0.warmed.alike.symm.trans Xl.warmed.alike
      have hAl := hA0.keep all (pl.other hne hA0.1)
      have hBk := hB0.like all pl.1 fl.1 fl.2.1 fl.2.2.1
      have hlt : q + i < Bk.slots.size := by rw [fl.2.2.1]; omega
      have c3 : Steps p.tables e below (s₁.setTop (entryFrame m #[.ref b, .int (Int32.ofNat o), .ref d, .int (Int32.ofNat q), .int (Int32.ofNat len)] 7)) (Tl.setTop (mkF m 12 #[.val (.ref b), .val (.int (Int32.ofNat (o + i))), .val (.ref d), .val (.int (Int32.ofNat (q + i))), .val (.int (Int32.ofNat len)), .val (.int (Int32.ofNat i)), z] [.int (Int32.ofNat (o + i)), .ref b])) := cl.trans (by
        refine XS.iload Xl.here hexec rfl (hb hbytes d3) rfl ?_
        refine XS.iload Xl.here hexec rfl (hb hbytes d5) rfl ?_
        refine XS.icmpNo Xl.here hexec rfl (hb hbytes d7) rfl (ii_ge_f (lt32 (by omega) (by omega))) ?_
        refine XS.aloadN Xl.here hexec rfl (hb hbytes d10) rfl rfl ?_
        refine XS.iloadN Xl.here hexec rfl (hb hbytes d11) rfl ?_
        exact Steps.refl _)
      have c4 : Steps p.tables e below (s₁.setTop (entryFrame m #[.ref b, .int (Int32.ofNat o), .ref d, .int (Int32.ofNat q), .int (Int32.ofNat len)] 7)) (Tl.setTop (mkF m 13 #[.val (.ref b), .val (.int (Int32.ofNat (o + i))), .val (.ref d), .val (.int (Int32.ofNat (q + i))), .val (.int (Int32.ofNat len)), .val (.int (Int32.ofNat i)), z] [.int (cv A (o + i))])) := c3.trans (by
        refine Xl.aget hexec hAl rfl (hA.get (i := o + i) (by omega)) rfl rfl (hb hbytes d12) ?_
        exact Steps.refl _)
      have c5 : Steps p.tables e below (s₁.setTop (entryFrame m #[.ref b, .int (Int32.ofNat o), .ref d, .int (Int32.ofNat q), .int (Int32.ofNat len)] 7)) (Tl.setTop (mkF m 15 #[.val (.ref b), .val (.int (Int32.ofNat (o + i))), .val (.ref d), .val (.int (Int32.ofNat (q + i))), .val (.int (Int32.ofNat len)), .val (.int (Int32.ofNat i)), .val (.int (cv A (o + i)))] [])) := c4.trans (by
        refine XS.istoreS Xl.here hexec rfl (hb hbytes d13) rfl rfl hz ?_
        exact Steps.refl _)
      have c6 : Steps p.tables e below (s₁.setTop (entryFrame m #[.ref b, .int (Int32.ofNat o), .ref d, .int (Int32.ofNat q), .int (Int32.ofNat len)] 7)) (Tl.setTop (mkF m 31 #[.val (.ref b), .val (.int (Int32.ofNat (o + i))), .val (.ref d), .val (.int (Int32.ofNat (q + i))), .val (.int (Int32.ofNat len)), .val (.int (Int32.ofNat i)), .val (.int (cv A (o + i)))] [.int (lo8 (cv A (o + i))), .int (Int32.ofNat (q + i)), .ref d])) := c5.trans (by
        refine XS.iload Xl.here hexec rfl (hb hbytes d15) rfl ?_
        refine sipushV Xl.here hexec rfl 255 (hb hbytes d17) (by decide) ?_
        refine XS.icmpYes Xl.here hexec rfl (pc0 := 20) rfl (hb hbytes d20) rfl (ii_le_t (hp i (by omega))) (by decide) rfl ?_
        refine XS.aloadN Xl.here hexec rfl (hb hbytes d26) rfl rfl ?_
        refine XS.iloadN Xl.here hexec rfl (hb hbytes d27) rfl ?_
        refine XS.iload Xl.here hexec rfl (hb hbytes d28) rfl ?_
        refine i2b Xl.here hexec rfl (hb hbytes d30) rfl ?_
        exact Steps.refl _)
      obtain ⟨T7, X7, p7, st7⟩ := Xl.aput hexec hBk rfl hlt rfl (fits_lo8 (cv A (o + i))) (g := (mkF m 31 #[.val (.ref b), .val (.int (Int32.ofNat (o + i))), .val (.ref d), .val (.int (Int32.ofNat (q + i))), .val (.int (Int32.ofNat len)), .val (.int (Int32.ofNat i)), .val (.int (cv A (o + i)))] [.int (lo8 (cv A (o + i))), .int (Int32.ofNat (q + i)), .ref d])) rfl (rest := []) rfl (hb hbytes d31)
      have c8 : Steps p.tables e below (s₁.setTop (entryFrame m #[.ref b, .int (Int32.ofNat o), .ref d, .int (Int32.ofNat q), .int (Int32.ofNat len)] 7)) (T7.setTop (mkF m 32 #[.val (.ref b), .val (.int (Int32.ofNat (o + i))), .val (.ref d), .val (.int (Int32.ofNat (q + i))), .val (.int (Int32.ofNat len)), .val (.int (Int32.ofNat i)), .val (.int (cv A (o + i)))] [])) := c6.trans (st7 _ (Steps.refl _))
      have c9 : Steps p.tables e below (s₁.setTop (entryFrame m #[.ref b, .int (Int32.ofNat o), .ref d, .int (Int32.ofNat q), .int (Int32.ofNat len)] 7)) (T7.setTop (mkF m 3 #[.val (.ref b), .val (.int (Int32.ofNat (o + i) + 1)), .val (.ref d), .val (.int (Int32.ofNat (q + i) + 1)), .val (.int (Int32.ofNat len)), .val (.int (Int32.ofNat i + 1)), .val (.int (cv A (o + i)))] [])) := c8.trans (by
        refine iincV X7.here hexec rfl 1 (hb hbytes d32) (by decide) rfl rfl ?_
        refine iincV X7.here hexec rfl 1 (hb hbytes d35) (by decide) rfl rfl ?_
        refine iincV X7.here hexec rfl 1 (hb hbytes d38) (by decide) rfl rfl ?_
        refine XS.goto X7.here hexec rfl (pc0 := 41) rfl (hb hbytes d41) (by decide) rfl ?_
        exact Steps.refl _)
      have c10 : Steps p.tables e below (s₁.setTop (entryFrame m #[.ref b, .int (Int32.ofNat o), .ref d, .int (Int32.ofNat q), .int (Int32.ofNat len)] 7)) (T7.setTop (mkF m 3 #[.val (.ref b), .val (.int (Int32.ofNat (o + (i + 1)))), .val (.ref d), .val (.int (Int32.ofNat (q + (i + 1)))), .val (.int (Int32.ofNat len)), .val (.int (Int32.ofNat (i + 1))), .val (.int (cv A (o + i)))] [])) := by
        have := c9
        rw [succ32, succ32, succ32] at this
        exact this
      exact ih (i + 1) (by omega) _ (Or.inr ⟨_, rfl, rfl⟩) T7 _ (by rw [copyLocs_step, ← List.append_assoc]; exact X7) (pl.trans p7) (fl.step (by omega) hlt (by simp)) c10
  obtain ⟨T9, B9, z9, X9, p9, f9, g9⟩ := loop len 0 (by omega) .unset (Or.inl rfl) s₁ B (by simpa [copyLocs] using X0) ⟨hB0.1, fun _ _ => rfl, rfl⟩ (Laid.zero _ _ _) c2
  have c11 : Steps p.tables e below (s₁.setTop (entryFrame m #[.ref b, .int (Int32.ofNat o), .ref d, .int (Int32.ofNat q), .int (Int32.ofNat len)] 7)) (T9.setTop (mkF m 46 #[.val (.ref b), .val (.int (Int32.ofNat (o + len))), .val (.ref d), .val (.int (Int32.ofNat (q + len))), .val (.int (Int32.ofNat len)), .val (.int (Int32.ofNat len)), z9] [.int (Int32.ofNat len)])) := g9.trans (by
    refine XS.iload X9.here hexec rfl (hb hbytes d3) rfl ?_
    refine XS.iload X9.here hexec rfl (hb hbytes d5) rfl ?_
    refine XS.icmpYes X9.here hexec rfl (pc0 := 7) rfl (hb hbytes d7) rfl (ii_ge_t (nlt32 (by omega) (Nat.le_refl _))) (by decide) rfl ?_
    refine XS.iload X9.here hexec rfl (hb hbytes d44) rfl ?_
    exact Steps.refl _)
  exact ⟨T9, some (.int (Int32.ofNat len)), _, _, _, X9, by simp, rfl, rfl, (fun h => by cases h), ⟨rfl, B9, p9.from hh0, f9⟩, fun fs hl => c11.trans (X9.ireturnOut hexec hret rfl (Or.inl rfl) (hb hbytes d46) hl)⟩
end Cmp5
namespace Cmp3
def yN : MethodName := ⟨"java/lang/StringUTF16", "compress", "([CII)[B"⟩
abbrev yB : ByteArray := jdk_52_method_16_code
theorem d0 : decode yB 0 = .ok (.iload_n 2, 1) := by decide +kernel
theorem d1 : decode yB 1 = .ok (.newarray .byte, 2) := by decide +kernel
theorem d3 : decode yB 3 = .ok (.astore_n 3, 1) := by decide +kernel
theorem d4 : decode yB 4 = .ok (.aload_n 0, 1) := by decide +kernel
theorem d5 : decode yB 5 = .ok (.iload_n 1, 1) := by decide +kernel
theorem d6 : decode yB 6 = .ok (.aload_n 3, 1) := by decide +kernel
theorem d7 : decode yB 7 = .ok (.iconst 0, 1) := by decide +kernel
theorem d8 : decode yB 8 = .ok (.iload_n 2, 1) := by decide +kernel
theorem d9 : decode yB 9 = .ok (.invokestatic 115, 3) := by decide +kernel
theorem d12 : decode yB 12 = .ok (.istore 4, 2) := by decide +kernel
theorem d14 : decode yB 14 = .ok (.iload 4, 2) := by decide +kernel
theorem d16 : decode yB 16 = .ok (.iload_n 2, 1) := by decide +kernel
theorem d17 : decode yB 17 = .ok (.if_icmp (.eq) 40, 3) := by decide +kernel
theorem d57 : decode yB 57 = .ok (.aload_n 3, 1) := by decide +kernel
theorem d58 : decode yB 58 = .ok (.areturn, 1) := by decide +kernel
def site : List Cond := [.arrayClass .byte, Cmp5.tab] ++ staticW U16 115 Cmp5.yN
def tab : Cond := tabOf yN yB 6 (some (.array .byte)) site
def P (b : Addr) (A : Cell) (o len : Nat) (args : Array Value) (s : State) : Prop := args = #[.ref b, .int (Int32.ofNat o), .int (Int32.ofNat len)] ∧ Ch b A s ∧ o + len ≤ A.slots.size ∧ len ≤ 536870912 ∧ ∀ i, i < len → ¬ 255 < cv A (o + i)
def E (b : Addr) (A : Cell) (o len : Nat) (r : Option Value) (s u : State) : Prop := NewArr .byte "[B" len (fun j => .int (lo8 (cv A (o + j)))) r s u ∧ u.heap.size = s.heap.size + 1
/-- no char of the range above 255: a new byte[] of their low bytes -/
theorem law (l : Launch) (b : Addr) (A : Cell) (o len : Nat) : Law l yN 3 3 1 18 yB 6 (some (.array .byte)) site (P b A o len) (E b A o len) [] 1 len := by
  refine Law.of_walk (plainFor_of_name (by decide +kernel)) (by decide +kernel) (by decide +kernel) (by decide) (fun _ _ h => by rw [h.1]; rfl) (fun _ U U' hal hh h => ⟨h.1, h.2.1.mv hal hh, h.2.2⟩) (fun r U U' V V' h1 hal h2 h => ⟨NewArr.mv r U U' V V' h1 hal h2 h.1, by rw [h1, h2]; exact h.2⟩) ?_
  intro p e s m args below meth c s₁ X0 hexec hbytes hml hret hlk hnm hown hh0 W hP
  obtain ⟨rfl, hA, l1, l2, hp⟩ := hP
  have a31 := hA.1.2.2.2
  have c1 : Steps p.tables e below (s₁.setTop (entryFrame m #[.ref b, .int (Int32.ofNat o), .int (Int32.ofNat len)] 6)) (s₁.setTop (mkF m 0 #[.val (.ref b), .val (.int (Int32.ofNat o)), .val (.int (Int32.ofNat len)), .unset, .unset, .unset] [])) := entry rfl
  have c2 : Steps p.tables e below (s₁.setTop (entryFrame m #[.ref b, .int (Int32.ofNat o), .int (Int32.ofNat len)] 6)) (s₁.setTop (mkF m 1 #[.val (.ref b), .val (.int (Int32.ofNat o)), .val (.int (Int32.ofNat len)), .unset, .unset, .unset] [.int (Int32.ofNat len)])) := c1.trans (by
    refine XS.iloadN X0.here hexec rfl (hb hbytes d0) rfl ?_
    exact Steps.refl _)
  obtain ⟨T3, B3, X3, ba3, bs3, bv3, bh3, bf3, st3⟩ := X0.anew hexec (atype := .byte) (wk W (.arrayClass .byte)) rfl (by show len * 1 ≤ _; omega) (by omega) (g := (mkF m 1 #[.val (.ref b), .val (.int (Int32.ofNat o)), .val (.int (Int32.ofNat len)), .unset, .unset, .unset] [.int (Int32.ofNat len)])) rfl (hb hbytes d1) (rest := []) rfl (Nat.le_refl _) (by show 0 + len ≤ len; omega)
  rw [hh0] at ba3 st3
  have kp3 : XT.Kept s T3 := (XT.Kept.of_eq hh0).push bh3
  have hA3 := hA.keep X3.warmed.alike (kp3 _ _ hA.1.1)
  have hne : b ≠ s.heap.size := hA.1.ne
  have c4 : Steps p.tables e below (s₁.setTop (entryFrame m #[.ref b, .int (Int32.ofNat o), .int (Int32.ofNat len)] 6)) (T3.setTop (mkF m 3 #[.val (.ref b), .val (.int (Int32.ofNat o)), .val (.int (Int32.ofNat len)), .unset, .unset, .unset] [.ref s.heap.size])) := c2.trans (st3 _ (Steps.refl _))
  have c5 : Steps p.tables e below (s₁.setTop (entryFrame m #[.ref b, .int (Int32.ofNat o), .int (Int32.ofNat len)] 6)) (T3.setTop (mkF m 9 #[.val (.ref b), .val (.int (Int32.ofNat o)), .val (.int (Int32.ofNat len)), .val (.ref s.heap.size), .unset, .unset] [.int (Int32.ofNat len), .int 0, .ref s.heap.size, .int (Int32.ofNat o), .ref b])) := c4.trans (by
    refine XS.astoreN X3.here hexec rfl (hb hbytes d3) rfl rfl rfl ?_
    refine XS.aloadN X3.here hexec rfl (hb hbytes d4) rfl rfl ?_
    refine XS.iloadN X3.here hexec rfl (hb hbytes d5) rfl ?_
    refine XS.aloadN X3.here hexec rfl (hb hbytes d6) rfl rfl ?_
    refine iconstV X3.here hexec rfl 0 (hb hbytes d7) (by decide) ?_
    refine XS.iloadN X3.here hexec rfl (hb hbytes d8) rfl ?_
    exact Steps.refl _)
  obtain ⟨v6, T6, X6, E6, g6⟩ := X3.callS hexec (Cmp5.law l b A s.heap.size B3 o 0 len) hown (wks W (staticW U16 115 Cmp5.yN)) (wk W Cmp5.tab) (W := 0) (Nat.le_of_ble_eq_true rfl) (Nat.le_of_ble_eq_true rfl) (Nat.le_refl _) (by show 0 + len + 0 ≤ len; omega) (g := (mkF m 9 #[.val (.ref b), .val (.int (Int32.ofNat o)), .val (.int (Int32.ofNat len)), .val (.ref s.heap.size), .unset, .unset] [.int (Int32.ofNat len), .int (Int32.ofNat 0), .ref s.heap.size, .int (Int32.ofNat o), .ref b])) rfl (by rw [hml]; rfl) c5 (argsL := [.ref b, .int (Int32.ofNat o), .ref s.heap.size, .int (Int32.ofNat 0), .int (Int32.ofNat len)]) (rest := []) rfl rfl (by show 2 * 0 + 0 ≤ _; decide) (hb hbytes d9) (⟨rfl, hA3, ba3, hne, l1, by rw [bs3]; simp, hp⟩)
  obtain ⟨rfl, B6, p6, f6⟩ := E6
  have c7 : Steps p.tables e below (s₁.setTop (entryFrame m #[.ref b, .int (Int32.ofNat o), .int (Int32.ofNat len)] 6)) (T6.setTop (mkF m 12 #[.val (.ref b), .val (.int (Int32.ofNat o)), .val (.int (Int32.ofNat len)), .val (.ref s.heap.size), .unset, .unset] [.int (Int32.ofNat len)])) := g6
  have c8 : Steps p.tables e below (s₁.setTop (entryFrame m #[.ref b, .int (Int32.ofNat o), .int (Int32.ofNat len)] 6)) (T6.setTop (mkF m 58 #[.val (.ref b), .val (.int (Int32.ofNat o)), .val (.int (Int32.ofNat len)), .val (.ref s.heap.size), .val (.int (Int32.ofNat len)), .unset] [.ref s.heap.size])) := c7.trans (by
    refine XS.istore X6.here hexec rfl (hb hbytes d12) rfl rfl ?_
    refine XS.iload X6.here hexec rfl (hb hbytes d14) rfl ?_
    refine XS.iloadN X6.here hexec rfl (hb hbytes d16) rfl ?_
    refine XS.icmpYes X6.here hexec rfl (pc0 := 17) rfl (hb hbytes d17) rfl (ii_eq_t rfl) (by decide) rfl ?_
    refine XS.aloadN X6.here hexec rfl (hb hbytes d57) rfl rfl ?_
    exact Steps.refl _)
  have X8 := X6.wide (L' := []) (cells' := 1) (slots' := len) (fun x hx hlt => by
    simp only [List.nil_append, copyLocs, List.mem_map, List.mem_range] at hx
    obtain ⟨i, -, rfl⟩ := hx
    exact absurd hlt (Nat.lt_irrefl _)) (Nat.le_refl _) (by omega)
  exact ⟨T6, some (.ref s.heap.size), _, _, _, X8, rfl, rfl, rfl, (fun h => by cases h), ⟨⟨rfl, B6, ba3.like (X3.warmed.alike.symm.trans X6.warmed.alike) p6.1 f6.1 f6.2.1 f6.2.2.1, f6.2.1.trans bv3, by rw [X6.warmed.alike.findClass, f6.1]; exact bf3, by rw [f6.2.2.1, bs3]; simp, fun j hj => by rw [f6.2.2.2 j, if_pos (by omega)]; rfl, kp3.put p6 (Nat.le_refl _)⟩, by rw [p6.2.2, bh3, hh0]; simp⟩, fun fs hl => c8.trans (X8.areturnOut hexec rfl hret rfl (hb hbytes d58) hl)⟩
end Cmp3
namespace CodL
def yN : MethodName := ⟨"java/lang/StringUTF16", "coderFromArrayLen", "([BI)B"⟩
abbrev yB : ByteArray := jdk_52_method_15_code
theorem d0 : decode yB 0 = .ok (.iload_n 1, 1) := by decide +kernel
theorem d1 : decode yB 1 = .ok (.aload_n 0, 1) := by decide +kernel
theorem d2 : decode yB 2 = .ok (.arraylength, 1) := by decide +kernel
theorem d3 : decode yB 3 = .ok (.isub, 1) := by decide +kernel
theorem d4 : decode yB 4 = .ok (.bipush 31, 2) := by decide +kernel
theorem d6 : decode yB 6 = .ok (.iushr, 1) := by decide +kernel
theorem d7 : decode yB 7 = .ok (.i2b, 1) := by decide +kernel
theorem d8 : decode yB 8 = .ok (.ireturn, 1) := by decide +kernel
def site : List Cond := []
def tab : Cond := tabOf yN yB 2 (some .byte) site
def P (d : Addr) (B : Cell) (args : Array Value) (s : State) : Prop := args = #[.ref d, .int (Int32.ofNat B.slots.size)] ∧ Arr .byte d B s
def E (r : Option Value) (s u : State) : Prop := XT.PureE (some (.int 0)) r s u
/-- an array as long as the number of chars: LATIN1 -/
theorem law (l : Launch) (d : Addr) (B : Cell) : Law l yN 2 2 0 0 yB 2 (some .byte) site (P d B) E [] 0 0 := by
  refine Law.of_walk (plainFor_of_name (by decide +kernel)) (by decide +kernel) (by decide +kernel) (by decide) (fun _ _ h => by rw [h.1]; rfl) (fun _ U U' hal hh h => ⟨h.1, h.2.mv hal hh⟩) (fun r U U' V V' h1 hal h2 h => XT.PureE.mv r U U' V V' h1 hal h2 h) ?_
  intro p e s m args below meth c s₁ X0 hexec hbytes hml hret hlk hnm hown hh0 W hP
  obtain ⟨rfl, hB⟩ := hP
  have hB0 := hB.mv X0.warmed.alike hh0
  have c1 : Steps p.tables e below (s₁.setTop (entryFrame m #[.ref d, .int (Int32.ofNat B.slots.size)] 2)) (s₁.setTop (mkF m 0 #[.val (.ref d), .val (.int (Int32.ofNat B.slots.size))] [])) := entry rfl
  have c2 : Steps p.tables e below (s₁.setTop (entryFrame m #[.ref d, .int (Int32.ofNat B.slots.size)] 2)) (s₁.setTop (mkF m 2 #[.val (.ref d), .val (.int (Int32.ofNat B.slots.size))] [.ref d, .int (Int32.ofNat B.slots.size)])) := c1.trans (by
    refine XS.iloadN X0.here hexec rfl (hb hbytes d0) rfl ?_
    refine XS.aloadN X0.here hexec rfl (hb hbytes d1) rfl rfl ?_
    exact Steps.refl _)
  have c3 : Steps p.tables e below (s₁.setTop (entryFrame m #[.ref d, .int (Int32.ofNat B.slots.size)] 2)) (s₁.setTop (mkF m 8 #[.val (.ref d), .val (.int (Int32.ofNat B.slots.size))] [.int (lo8 (ushr (Int32.ofNat B.slots.size - Int32.ofNat B.slots.size) 31))])) := c2.trans (by
    refine X0.alen hexec hB0 rfl rfl (hb hbytes d2) ?_
    refine XS.isub X0.here hexec rfl (hb hbytes d3) rfl ?_
    refine bipushV X0.here hexec rfl 31 (hb hbytes d4) (by decide) ?_
    refine iushr X0.here hexec rfl (hb hbytes d6) rfl ?_
    refine i2b X0.here hexec rfl (hb hbytes d7) rfl ?_
    exact Steps.refl _)
  have e0 : lo8 (ushr (Int32.ofNat B.slots.size - Int32.ofNat B.slots.size) 31) = 0 := by rw [Int32.sub_self]; decide
  rw [e0] at c3
  exact ⟨s₁, some (.int 0), _, _, _, X0, rfl, rfl, rfl, (fun h => by cases h), ⟨rfl, hh0⟩, fun fs hl => c3.trans (X0.ireturnOut hexec hret rfl (Or.inr (Or.inr (Or.inl rfl))) (hb hbytes d8) hl)⟩
end CodL
/-- the String at a is Latin-1 over a new byte[] (the heap's one new cell): the low bytes of the len chars of A from o on; every cell but a is kept -/
def Got (a : Addr) (D : Cell) (fV fC : Field) (A : Cell) (o len : Nat) (r : Option Value) (s u : State) : Prop := r = none ∧ ∃ D' V : Cell, Blank "java/lang/String" a D' u ∧ Same D D' [fV.slot, fC.slot] ∧ D'.slots[fV.slot]? = some (.ref s.heap.size) ∧ D'.slots[fC.slot]? = some (.int 0) ∧ Arr .byte s.heap.size V u ∧ V.vm = .none ∧ u.vm.findClass "[B" = some V.cls ∧ V.slots.size = len ∧ (∀ j, j < len → V.slots[j]? = some (.int (lo8 (cv A (o + j))))) ∧ (∀ (y : Addr) (c : Cell), y ≠ a → s.heap[y]? = some c → u.heap[y]? = some c) ∧ u.heap.size = s.heap.size + 1
theorem Got.mv {a : Addr} {D A : Cell} {fV fC : Field} {o len : Nat} : ∀ r (U U' V V' : State), U'.heap = U.heap → V.vm.Alike V'.vm → V'.heap = V.heap → Got a D fV fC A o len r U V → Got a D fV fC A o len r U' V' :=
  fun r U U' V V' h1 hal h2 ⟨e0, D', X, a1, a2, a3, a4, a5, a6, a7, a8, a9, a10, a11⟩ => ⟨e0, D', X, a1.mv hal h2, a2, by rw [h1]; exact a3, a4, by rw [h1]; exact a5.mv hal h2, a6, by rw [hal.findClass]; exact a7, a8, a9, by rw [h1, h2]; exact a10, by rw [h1, h2]; exact a11⟩
namespace New4
def yN : MethodName := ⟨"java/lang/String", "<init>", "([CIILjava/lang/Void;)V"⟩
abbrev yB : ByteArray := jdk_42_method_149_code
theorem d0 : decode yB 0 = .ok (.aload_n 0, 1) := by decide +kernel
theorem d1 : decode yB 1 = .ok (.invokespecial 1, 3) := by decide +kernel
theorem d4 : decode yB 4 = .ok (.iload_n 3, 1) := by decide +kernel
theorem d5 : decode yB 5 = .ok (.ifCond (.ne) 22, 3) := by decide +kernel
theorem d27 : decode yB 27 = .ok (.getstatic 38, 3) := by decide +kernel
theorem d30 : decode yB 30 = .ok (.ifCond (.eq) 28, 3) := by decide +kernel
theorem d33 : decode yB 33 = .ok (.aload_n 1, 1) := by decide +kernel
theorem d34 : decode yB 34 = .ok (.iload_n 2, 1) := by decide +kernel
theorem d35 : decode yB 35 = .ok (.iload_n 3, 1) := by decide +kernel
theorem d36 : decode yB 36 = .ok (.invokestatic 177, 3) := by decide +kernel
theorem d39 : decode yB 39 = .ok (.astore 5, 2) := by decide +kernel
theorem d41 : decode yB 41 = .ok (.aload_n 0, 1) := by decide +kernel
theorem d42 : decode yB 42 = .ok (.aload 5, 2) := by decide +kernel
theorem d44 : decode yB 44 = .ok (.iload_n 3, 1) := by decide +kernel
theorem d45 : decode yB 45 = .ok (.invokestatic 47, 3) := by decide +kernel
theorem d48 : decode yB 48 = .ok (.putfield 15, 3) := by decide +kernel
theorem d51 : decode yB 51 = .ok (.aload_n 0, 1) := by decide +kernel
theorem d52 : decode yB 52 = .ok (.aload 5, 2) := by decide +kernel
theorem d54 : decode yB 54 = .ok (.putfield 9, 3) := by decide +kernel
theorem d57 : decode yB 57 = .ok (.return_, 1) := by decide +kernel
def site : List Cond := [.fieldLink "java/lang/String" 38 "java/lang/String" "COMPACT_STRINGS" "Z", Cmp3.tab, CodL.tab, .laysFinal "java/lang/String" "java/lang/String" "value" "[B", .fieldLink "java/lang/String" 9 "java/lang/String" "value" "[B", .laysFinal "java/lang/String" "java/lang/String" "coder" "B", .fieldLink "java/lang/String" 15 "java/lang/String" "coder" "B"] ++ objW "java/lang/String" 1 ++ staticW "java/lang/String" 177 Cmp3.yN ++ staticW "java/lang/String" 47 CodL.yN
def tab : Cond := tabOf yN yB 6 none site
def P (a : Addr) (D : Cell) (fV fC : Field) (b : Addr) (A : Cell) (z : Int32) (o len : Nat) (args : Array Value) (s : State) : Prop := args = #[.ref a, .ref b, .int (Int32.ofNat o), .int (Int32.ofNat len), .null] ∧ Blank "java/lang/String" a D s ∧ Found "java/lang/String" "value" "[B" fV s ∧ Found "java/lang/String" "coder" "B" fC s ∧ Ch b A s ∧ StaticIs s "java/lang/String" "COMPACT_STRINGS" "Z" (.int z) ∧ ¬ z = 0 ∧ 0 < len ∧ o + len ≤ A.slots.size ∧ len ≤ 536870912 ∧ ∀ i, i < len → ¬ 255 < cv A (o + i)
def E (a : Addr) (D : Cell) (fV fC : Field) (A : Cell) (o len : Nat) (r : Option Value) (s u : State) : Prop := Got a D fV fC A o len r s u
/-- len > 0, no char of the range above 255: a Latin-1 String of their low bytes -/
theorem law (l : Launch) (a : Addr) (D : Cell) (fV fC : Field) (b : Addr) (A : Cell) (z : Int32) (o len : Nat) : Law l yN 5 4 2 35 yB 6 none site (P a D fV fC b A z o len) (E a D fV fC A o len) [⟨a, fC.slot⟩, ⟨a, fV.slot⟩] 1 len := by
  refine Law.of_walk (plainFor_of_name (by decide +kernel)) (by decide +kernel) (by decide +kernel) (by decide) (fun _ _ h => by rw [h.1]; rfl) (fun _ U U' hal hh h => ⟨h.1, h.2.1.mv hal hh, h.2.2.1.al hal, h.2.2.2.1.al hal, h.2.2.2.2.1.mv hal hh, h.2.2.2.2.2.1.there hal hh, h.2.2.2.2.2.2⟩) (fun r U U' V V' h1 hal h2 h => Got.mv r U U' V V' h1 hal h2 h) ?_
  intro p e s m args below meth c s₁ X0 hexec hbytes hml hret hlk hnm hown hh0 W hP
  obtain ⟨rfl, hB, f1, f2, hA, s1, hz, l0, l1, l2, hp⟩ := hP
  have a31 := hA.1.2.2.2
  have c1 : Steps p.tables e below (s₁.setTop (entryFrame m #[.ref a, .ref b, .int (Int32.ofNat o), .int (Int32.ofNat len), .null] 6)) (s₁.setTop (mkF m 0 #[.val (.ref a), .val (.ref b), .val (.int (Int32.ofNat o)), .val (.int (Int32.ofNat len)), .val .null, .unset] [])) := entry rfl
  have c2 : Steps p.tables e below (s₁.setTop (entryFrame m #[.ref a, .ref b, .int (Int32.ofNat o), .int (Int32.ofNat len), .null] 6)) (s₁.setTop (mkF m 1 #[.val (.ref a), .val (.ref b), .val (.int (Int32.ofNat o)), .val (.int (Int32.ofNat len)), .val .null, .unset] [.ref a])) := c1.trans (by
    refine XS.aloadN X0.here hexec rfl (hb hbytes d0) rfl rfl ?_
    exact Steps.refl _)
  obtain ⟨T3, X3, q3, st3⟩ := X0.oinit hexec hown (wks W (objW "java/lang/String" 1)) (g := (mkF m 1 #[.val (.ref a), .val (.ref b), .val (.int (Int32.ofNat o)), .val (.int (Int32.ofNat len)), .val .null, .unset] [.ref a])) rfl (by rw [hml]; rfl) (rest := []) rfl (hb hbytes d1) (W := 0) (by show 2 * 0 + 0 ≤ _; decide) (Nat.le_of_ble_eq_true rfl) (Nat.le_of_ble_eq_true rfl)
  have hh3 := q3.trans hh0
  have c4 : Steps p.tables e below (s₁.setTop (entryFrame m #[.ref a, .ref b, .int (Int32.ofNat o), .int (Int32.ofNat len), .null] 6)) (T3.setTop (mkF m 27 #[.val (.ref a), .val (.ref b), .val (.int (Int32.ofNat o)), .val (.int (Int32.ofNat len)), .val .null, .unset] [])) := (c2.trans (st3 _ (Steps.refl _))).trans (by
    refine XS.iloadN X3.here hexec rfl (hb hbytes d4) rfl ?_
    refine XS.ifYes X3.here hexec rfl (pc0 := 5) rfl (hb hbytes d5) rfl (i0_ne_t (nz32 (by omega) l0)) (by decide) rfl ?_
    exact Steps.refl _)
  obtain ⟨T5, X5, q5, st5⟩ := X3.sget hexec hown (wk W (.fieldLink "java/lang/String" 38 "java/lang/String" "COMPACT_STRINGS" "Z")) s1 (fun _ _ h => by rw [hh3]; exact h) (g := (mkF m 27 #[.val (.ref a), .val (.ref b), .val (.int (Int32.ofNat o)), .val (.int (Int32.ofNat len)), .val .null, .unset] [])) rfl (hb hbytes d27)
  have hh5 := q5.trans hh3
  have c6 : Steps p.tables e below (s₁.setTop (entryFrame m #[.ref a, .ref b, .int (Int32.ofNat o), .int (Int32.ofNat len), .null] 6)) (T5.setTop (mkF m 30 #[.val (.ref a), .val (.ref b), .val (.int (Int32.ofNat o)), .val (.int (Int32.ofNat len)), .val .null, .unset] [.int z])) := c4.trans (st5 _ (Steps.refl _))
  have c7 : Steps p.tables e below (s₁.setTop (entryFrame m #[.ref a, .ref b, .int (Int32.ofNat o), .int (Int32.ofNat len), .null] 6)) (T5.setTop (mkF m 36 #[.val (.ref a), .val (.ref b), .val (.int (Int32.ofNat o)), .val (.int (Int32.ofNat len)), .val .null, .unset] [.int (Int32.ofNat len), .int (Int32.ofNat o), .ref b])) := c6.trans (by
    refine XS.ifNo X5.here hexec rfl (hb hbytes d30) rfl (i0_eq_f hz) ?_
    refine XS.aloadN X5.here hexec rfl (hb hbytes d33) rfl rfl ?_
    refine XS.iloadN X5.here hexec rfl (hb hbytes d34) rfl ?_
    refine XS.iloadN X5.here hexec rfl (hb hbytes d35) rfl ?_
    exact Steps.refl _)
  obtain ⟨v8, T8, X8, E8, g8⟩ := X5.callS hexec (Cmp3.law l b A o len) hown (wks W (staticW "java/lang/String" 177 Cmp3.yN)) (wk W Cmp3.tab) (W := 0) (Nat.le_of_ble_eq_true rfl) (Nat.le_of_ble_eq_true rfl) (Nat.le_refl _) (by show 0 + len ≤ len; omega) (g := (mkF m 36 #[.val (.ref a), .val (.ref b), .val (.int (Int32.ofNat o)), .val (.int (Int32.ofNat len)), .val .null, .unset] [.int (Int32.ofNat len), .int (Int32.ofNat o), .ref b])) rfl (by rw [hml]; rfl) c7 (argsL := [.ref b, .int (Int32.ofNat o), .int (Int32.ofNat len)]) (rest := []) rfl rfl (by show 2 * 0 + 0 ≤ _; decide) (hb hbytes d36) (⟨rfl, hA.mv X5.warmed.alike hh5, l1, l2, hp⟩)
  obtain ⟨e8, z8⟩ := E8
  obtain ⟨rfl, N, n1, n2, n3, n4, n5, n6⟩ := NewArr.mv _ T5 s _ _ hh5.symm (Vm.Alike.refl _) rfl e8
  rw [hh5] at z8
  have hB1 := hB.keep X8.warmed.alike (n6 _ _ hB.1)
  have hne : s.heap.size ≠ a := (Nat.ne_of_lt (Array.getElem?_eq_some_iff.mp hB.1).1).symm
  have c9 : Steps p.tables e below (s₁.setTop (entryFrame m #[.ref a, .ref b, .int (Int32.ofNat o), .int (Int32.ofNat len), .null] 6)) (T8.setTop (mkF m 39 #[.val (.ref a), .val (.ref b), .val (.int (Int32.ofNat o)), .val (.int (Int32.ofNat len)), .val .null, .unset] [.ref s.heap.size])) := g8
  have c10 : Steps p.tables e below (s₁.setTop (entryFrame m #[.ref a, .ref b, .int (Int32.ofNat o), .int (Int32.ofNat len), .null] 6)) (T8.setTop (mkF m 45 #[.val (.ref a), .val (.ref b), .val (.int (Int32.ofNat o)), .val (.int (Int32.ofNat len)), .val .null, .val (.ref s.heap.size)] [.int (Int32.ofNat N.slots.size), .ref s.heap.size, .ref a])) := by
    have hc : Steps p.tables e below (s₁.setTop (entryFrame m #[.ref a, .ref b, .int (Int32.ofNat o), .int (Int32.ofNat len), .null] 6)) (T8.setTop (mkF m 45 #[.val (.ref a), .val (.ref b), .val (.int (Int32.ofNat o)), .val (.int (Int32.ofNat len)), .val .null, .val (.ref s.heap.size)] [.int (Int32.ofNat len), .ref s.heap.size, .ref a])) := c9.trans (by
      refine XS.astore X8.here hexec rfl (hb hbytes d39) rfl rfl rfl ?_
      refine XS.aloadN X8.here hexec rfl (hb hbytes d41) rfl rfl ?_
      refine XS.aload X8.here hexec rfl (hb hbytes d42) rfl rfl ?_
      refine XS.iloadN X8.here hexec rfl (hb hbytes d44) rfl ?_
      exact Steps.refl _)
    rw [n4]; exact hc
  obtain ⟨v11, T11, X11, E11, g11⟩ := X8.callS hexec (CodL.law l s.heap.size N) hown (wks W (staticW "java/lang/String" 47 CodL.yN)) (wk W CodL.tab) (W := 1) (Nat.le_of_ble_eq_true rfl) (Nat.le_of_ble_eq_true rfl) (Nat.le_refl _) (by show 0 + len + 0 ≤ len; omega) (g := (mkF m 45 #[.val (.ref a), .val (.ref b), .val (.int (Int32.ofNat o)), .val (.int (Int32.ofNat len)), .val .null, .val (.ref s.heap.size)] [.int (Int32.ofNat N.slots.size), .ref s.heap.size, .ref a])) rfl (by rw [hml]; rfl) c10 (argsL := [.ref s.heap.size, .int (Int32.ofNat N.slots.size)]) (rest := [.ref a]) rfl rfl (by show 2 * 0 + (1 + 0) ≤ _; decide) (hb hbytes d45) (⟨rfl, n1⟩)
  obtain ⟨rfl, q11⟩ := E11
  have hB11 := hB1.mv (X8.warmed.alike.symm.trans X11.warmed.alike) q11
  have c12 : Steps p.tables e below (s₁.setTop (entryFrame m #[.ref a, .ref b, .int (Int32.ofNat o), .int (Int32.ofNat len), .null] 6)) (T11.setTop (mkF m 48 #[.val (.ref a), .val (.ref b), .val (.int (Int32.ofNat o)), .val (.int (Int32.ofNat len)), .val .null, .val (.ref s.heap.size)] [.int 0, .ref a])) := g11
  obtain ⟨T13, X13, p13, bl13, sl13, st13⟩ := X11.finit hexec hown (wk W (.fieldLink "java/lang/String" 15 "java/lang/String" "coder" "B")) (Or.inr ⟨_, (wk W (.laysFinal "java/lang/String" "java/lang/String" "coder" "B"))⟩) (Or.inl ⟨rfl, hnm⟩) f2 (Or.inl rfl) hB11 (t := .byte) (by decide +kernel) rfl (g := (mkF m 48 #[.val (.ref a), .val (.ref b), .val (.int (Int32.ofNat o)), .val (.int (Int32.ofNat len)), .val .null, .val (.ref s.heap.size)] [.int 0, .ref a])) rfl (rest := []) rfl (hb hbytes d48)
  have c14 : Steps p.tables e below (s₁.setTop (entryFrame m #[.ref a, .ref b, .int (Int32.ofNat o), .int (Int32.ofNat len), .null] 6)) (T13.setTop (mkF m 54 #[.val (.ref a), .val (.ref b), .val (.int (Int32.ofNat o)), .val (.int (Int32.ofNat len)), .val .null, .val (.ref s.heap.size)] [.ref s.heap.size, .ref a])) := (c12.trans (st13 _ (Steps.refl _))).trans (by
    refine XS.aloadN X13.here hexec rfl (hb hbytes d51) rfl rfl ?_
    refine XS.aload X13.here hexec rfl (hb hbytes d52) rfl rfl ?_
    exact Steps.refl _)
  obtain ⟨T15, X15, p15, bl15, sl15, st15⟩ := X13.finit hexec hown (wk W (.fieldLink "java/lang/String" 9 "java/lang/String" "value" "[B")) (Or.inr ⟨_, (wk W (.laysFinal "java/lang/String" "java/lang/String" "value" "[B"))⟩) (Or.inl ⟨rfl, hnm⟩) f1 (Or.inl rfl) bl13 (t := (.array .byte)) (by decide +kernel) rfl (g := (mkF m 54 #[.val (.ref a), .val (.ref b), .val (.int (Int32.ofNat o)), .val (.int (Int32.ofNat len)), .val .null, .val (.ref s.heap.size)] [.ref s.heap.size, .ref a])) rfl (rest := []) rfl (hb hbytes d54)
  have c16 : Steps p.tables e below (s₁.setTop (entryFrame m #[.ref a, .ref b, .int (Int32.ofNat o), .int (Int32.ofNat len), .null] 6)) (T15.setTop (mkF m 57 #[.val (.ref a), .val (.ref b), .val (.int (Int32.ofNat o)), .val (.int (Int32.ofNat len)), .val .null, .val (.ref s.heap.size)] [])) := c14.trans (st15 _ (Steps.refl _))
  have ap := apart (Or.inr ⟨_, (wk W (.laysFinal "java/lang/String" "java/lang/String" "value" "[B"))⟩) (Or.inr ⟨_, (wk W (.laysFinal "java/lang/String" "java/lang/String" "coder" "B"))⟩) f1 f2 (t₁ := .array .byte) (t₂ := .byte) (by decide +kernel) (by decide +kernel) (by decide)
  have al := X8.warmed.alike.symm.trans X15.warmed.alike
  have n7 : T11.heap[s.heap.size]? = some N := by rw [q11]; exact n1.1
  exact ⟨T15, none, _, _, _, X15, by simp, rfl, by omega, (fun _ => rfl), ⟨rfl, _, N, bl15, ((Same.refl D _).set _ (by simp)).set _ (by simp), sl15, (Cell.slots_setSlot_ne _ ap).trans sl13, n1.keep al (p15.other hne (p13.other hne n7)), n2, by rw [al.findClass]; exact n3, n4, n5, fun y c h1 h2 => p15.other h1 (p13.other h1 (by rw [q11]; exact n6 y c h2)), by rw [p15.2.2, p13.2.2, q11]; exact z8⟩, fun fs hl => c16.trans (X15.returnOut hexec hret (hb hbytes d57) hl)⟩
end New4
namespace New1
def yN : MethodName := ⟨"java/lang/String", "<init>", "([C)V"⟩
abbrev yB : ByteArray := jdk_42_method_3_code
theorem d0 : decode yB 0 = .ok (.aload_n 0, 1) := by decide +kernel
theorem d1 : decode yB 1 = .ok (.aload_n 1, 1) := by decide +kernel
theorem d2 : decode yB 2 = .ok (.iconst 0, 1) := by decide +kernel
theorem d3 : decode yB 3 = .ok (.aload_n 1, 1) := by decide +kernel
theorem d4 : decode yB 4 = .ok (.arraylength, 1) := by decide +kernel
theorem d5 : decode yB 5 = .ok (.aconst_null, 1) := by decide +kernel
theorem d6 : decode yB 6 = .ok (.invokespecial 27, 3) := by decide +kernel
theorem d9 : decode yB 9 = .ok (.return_, 1) := by decide +kernel
def site : List Cond := [New4.tab] ++ initW "java/lang/String" 27 New4.yN
def tab : Cond := tabOf yN yB 2 none site
def P (a : Addr) (D : Cell) (fV fC : Field) (b : Addr) (A : Cell) (z : Int32) (args : Array Value) (s : State) : Prop := args = #[.ref a, .ref b] ∧ Blank "java/lang/String" a D s ∧ Found "java/lang/String" "value" "[B" fV s ∧ Found "java/lang/String" "coder" "B" fC s ∧ Ch b A s ∧ StaticIs s "java/lang/String" "COMPACT_STRINGS" "Z" (.int z) ∧ ¬ z = 0 ∧ 0 < A.slots.size ∧ A.slots.size ≤ 536870912 ∧ ∀ i, i < A.slots.size → ¬ 255 < cv A i
def E (a : Addr) (D : Cell) (fV fC : Field) (A : Cell) (r : Option Value) (s u : State) : Prop := Got a D fV fC A 0 A.slots.size r s u
/-- new String(chars), not empty, no char above 255: a Latin-1 String of their low bytes -/
theorem law (l : Launch) (a : Addr) (D : Cell) (fV fC : Field) (b : Addr) (A : Cell) (z : Int32) : Law l yN 2 1 3 52 yB 2 none site (P a D fV fC b A z) (E a D fV fC A) [⟨a, fC.slot⟩, ⟨a, fV.slot⟩] 1 A.slots.size := by
  refine Law.of_walk (plainFor_of_name (by decide +kernel)) (by decide +kernel) (by decide +kernel) (by decide) (fun _ _ h => by rw [h.1]; rfl) (fun _ U U' hal hh h => ⟨h.1, h.2.1.mv hal hh, h.2.2.1.al hal, h.2.2.2.1.al hal, h.2.2.2.2.1.mv hal hh, h.2.2.2.2.2.1.there hal hh, h.2.2.2.2.2.2⟩) (fun r U U' V V' h1 hal h2 h => Got.mv r U U' V V' h1 hal h2 h) ?_
  intro p e s m args below meth c s₁ X0 hexec hbytes hml hret hlk hnm hown hh0 W hP
  obtain ⟨rfl, hB, f1, f2, hA, s1, hz, l0, l2, hp⟩ := hP
  have c1 : Steps p.tables e below (s₁.setTop (entryFrame m #[.ref a, .ref b] 2)) (s₁.setTop (mkF m 0 #[.val (.ref a), .val (.ref b)] [])) := entry rfl
  have c2 : Steps p.tables e below (s₁.setTop (entryFrame m #[.ref a, .ref b] 2)) (s₁.setTop (mkF m 6 #[.val (.ref a), .val (.ref b)] [.null, .int (Int32.ofNat A.slots.size), .int 0, .ref b, .ref a])) := c1.trans (by
    refine XS.aloadN X0.here hexec rfl (hb hbytes d0) rfl rfl ?_
    refine XS.aloadN X0.here hexec rfl (hb hbytes d1) rfl rfl ?_
    refine iconstV X0.here hexec rfl 0 (hb hbytes d2) (by decide) ?_
    refine XS.aloadN X0.here hexec rfl (hb hbytes d3) rfl rfl ?_
    refine X0.alen hexec (hA.1.mv X0.warmed.alike hh0) rfl rfl (hb hbytes d4) ?_
    refine XS.aconstNull X0.here hexec rfl (hb hbytes d5) ?_
    exact Steps.refl _)
  obtain ⟨v3, T3, X3, E3, g3⟩ := X0.callN hexec (New4.law l a D fV fC b A z 0 A.slots.size) rfl hown (wks W (initW "java/lang/String" 27 New4.yN)) (W New4.tab (by simp only [site, List.mem_cons, List.mem_append, true_or, or_true])) (W := 0) (Nat.le_of_ble_eq_true rfl) (Nat.le_of_ble_eq_true rfl) (Nat.le_refl _) (by show 0 + A.slots.size ≤ A.slots.size; omega) (g := (mkF m 6 #[.val (.ref a), .val (.ref b)] [.null, .int (Int32.ofNat A.slots.size), .int (Int32.ofNat 0), .ref b, .ref a])) rfl (by rw [hml]; rfl) c2 (argsL := [.ref b, .int (Int32.ofNat 0), .int (Int32.ofNat A.slots.size), .null]) (rest := []) rfl rfl (by show 2 * 0 + 0 ≤ _; decide) (hb hbytes d6) (⟨rfl, hB.mv X0.warmed.alike hh0, f1.al X0.warmed.alike, f2.al X0.warmed.alike, hA.mv X0.warmed.alike hh0, s1.there X0.warmed.alike hh0, hz, l0, by omega, l2, fun i hi => by rw [Nat.zero_add]; exact hp i hi⟩)
  have e0 := Got.mv _ s₁ s _ _ hh0.symm (Vm.Alike.refl _) rfl E3
  obtain rfl := e0.1
  have c4 : Steps p.tables e below (s₁.setTop (entryFrame m #[.ref a, .ref b] 2)) (T3.setTop (mkF m 9 #[.val (.ref a), .val (.ref b)] [])) := g3
  exact ⟨T3, none, _, _, _, X3, by simp, rfl, by omega, (fun _ => rfl), e0, fun fs hl => c4.trans (X3.returnOut hexec hret (hb hbytes d9) hl)⟩
theorem pays {l : Launch} {R : Room} {p : Program} {e : Env} {below : List Frame} {s : State} {sargs : Array Value} {len W : Nat} (a : Addr) (D : Cell) (fV fC : Field) (b : Addr) (A : Cell) (z : Int32) (htab : tab.before sargs s = true) (hfr : 4 ≤ R.frames) (hlo : W + 65 ≤ R.locals) :
    Back l R p e below s sargs yN len W (fun A₁ a₁ => A₁.cells + 1 ≤ R.cells ∧ A₁.slots + A.slots.size ≤ R.slots ∧ P a D fV fC b A z a₁ A₁.U) (fun A₁ _ v₁ B₁ => E a D fV fC A v₁ A₁.U B₁.U ∧ B₁.locs = A₁.locs ++ [⟨a, fC.slot⟩, ⟨a, fV.slot⟩] ∧ B₁.cells = A₁.cells + 1 ∧ B₁.slots = A₁.slots + A.slots.size) :=
  (law l a D fV fC b A z).pays htab hfr (by omega)
end New1
/-- the byte, read back as charAt reads it, is the char -/
theorem lo8_mask {x : Int32} (h0 : ¬ x < 0) (h1 : ¬ 255 < x) : lo8 x &&& 255 = x := by
  have t : ∀ k : Fin 256, lo8 (Int32.ofNat k.val) &&& 255 = Int32.ofNat k.val := by decide +kernel
  rw [Int32.lt_iff_toInt_lt] at h0 h1
  have e0 : (0 : Int32).toInt = 0 := rfl
  have e1 : (255 : Int32).toInt = 255 := rfl
  obtain ⟨k, hk⟩ : ∃ k : Nat, x.toInt = k := ⟨x.toInt.toNat, by omega⟩
  have hx : x = Int32.ofNat k := Int32.toInt_inj.mp (by rw [hk, Int32.toInt_ofNat_small (by omega)])
  rw [hx]
  exact t ⟨k, by omega⟩
end StrChars
namespace StrChars.Road
open Jvm Sem ClassFile Op Lib Jvm.Stand Jvm.Free Jvm.Free.XT
open Jvm.Lib.Cold (StaticIs)
abbrev ST : String := "java/lang/String"
/-- every table word that New1's law asks, flat -/
abbrev words : List Jvm.Cond := [.code New1.yN New1.yB 2 none, .initialized ST, .methodLink ST 27 New4.yN, .instanceMethod New4.yN,
  .code New4.yN New4.yB 6 none, .fieldLink ST 38 ST "COMPACT_STRINGS" "Z", .laysFinal ST ST "value" "[B", .fieldLink ST 9 ST "value" "[B", .laysFinal ST ST "coder" "B", .fieldLink ST 15 ST "coder" "B",
  .methodLink ST 1 Lib.objectInit, .instanceMethod Lib.objectInit, .code Lib.objectInit ⟨#[0xb1]⟩ 1 none, .methodLink ST 177 Cmp3.yN, .static Cmp3.yN, .methodLink ST 47 CodL.yN, .static CodL.yN,
  .code Cmp3.yN Cmp3.yB 6 (some (.array .byte)), .initialized U16, .arrayClass .byte, .methodLink U16 115 Cmp5.yN, .static Cmp5.yN, .code Cmp5.yN Cmp5.yB 7 (some .int), .code CodL.yN CodL.yB 2 (some .byte)]
theorem tab_of {a : Array Value} {s : State} (h : ∀ w ∈ words, w.before a s = true) : New1.tab.before a s = true := by
  have h5 : Cmp5.tab.before a s = true := unparts (wk h (.code Cmp5.yN Cmp5.yB 7 (some .int))) (wks h (.initialized Cmp5.yN.cls :: Cmp5.site))
  have hc : CodL.tab.before a s = true := unparts (wk h (.code CodL.yN CodL.yB 2 (some .byte))) (wks h (.initialized CodL.yN.cls :: CodL.site))
  have q5 : ∀ w ∈ Cmp5.tab :: words, w.before a s = true := fun w hw => (List.mem_cons.mp hw).elim (fun e => e ▸ h5) (h w)
  have h3 : Cmp3.tab.before a s = true := unparts (wk q5 (.code Cmp3.yN Cmp3.yB 6 (some (.array .byte)))) (wks q5 (.initialized Cmp3.yN.cls :: Cmp3.site))
  have q3 : ∀ w ∈ Cmp3.tab :: CodL.tab :: words, w.before a s = true := fun w hw => (List.mem_cons.mp hw).elim (fun e => e ▸ h3) fun hw => (List.mem_cons.mp hw).elim (fun e => e ▸ hc) (h w)
  have h4 : New4.tab.before a s = true := unparts (wk q3 (.code New4.yN New4.yB 6 none)) (wks q3 (.initialized New4.yN.cls :: New4.site))
  have q4 : ∀ w ∈ New4.tab :: words, w.before a s = true := fun w hw => (List.mem_cons.mp hw).elim (fun e => e ▸ h4) (h w)
  exact unparts (wk q4 (.code New1.yN New1.yB 2 none)) (wks q4 (.initialized New1.yN.cls :: New1.site))
/-- the words ride from the start Z to the walk's own state -/
theorem moved {Z s : State} {a0 args : Array Value} (hZ : Z.Warmed39 s.vm) (hw : ∀ d ∈ words, d.before a0 Z = true) : ∀ d ∈ words, d.before args s = true := fun d hd => by
  have q := hw d hd
  have t : ∀ d ∈ words, d = .arrayClass .byte ∨ (d.onTables && d.keepsFace) = true := by decide +kernel
  rcases t d hd with rfl | t
  · exact RoadKit.mvA hZ q
  · exact RoadKit.mv hZ q t
/-- WHAT COMES BACK, over the tables of the start Z: h the heap at the call, h' behind it -/
def Q (Z : State) (x : Addr) (A : Cell) (h : Heap) (v : Option Value) (h' : Heap) (L : List Loc) : Prop := v = none ∧ (∀ y ∈ L, y.base = x) ∧ RoadKit.Keep h h' [x] ∧ h'.size = h.size + 1 ∧ RoadKit.Exa Z h' x ST ∧ RoadKit.Fld Z h' x ST "value" "[B" (.ref h.size) ∧ RoadKit.Fld Z h' x ST "coder" "B" (.int 0) ∧
  (∃ V : Cell, RoadKit.Arr Z h' h.size V .byte ∧ V.vm = .none ∧ Z.vm.findClass "[B" = some V.cls ∧ V.slots.size = A.slots.size ∧ ∀ j, j < A.slots.size → V.slots[j]? = some (.int (lo8 (cv A j)))) ∧
  ∀ (O n d : String) (w : Value), RoadKit.Fld Z h x O n d w → RoadKit.slotOf Z O n d ≠ RoadKit.slotOf Z ST "value" "[B" → RoadKit.slotOf Z O n d ≠ RoadKit.slotOf Z ST "coder" "B" → RoadKit.Fld Z h' x O n d w
/-- **new String(chars) AT A CALL, IN THE ROAD'S FORM**: for specialBack behind newO: x the fresh String, b the char[] with the cell A -/
theorem back {p : Program} {l : Launch} {e : Env} {R : Room} {s : State} {args : Array Value} {below : List Frame} {len W : Nat} {Z : State} {a0 : Array Value} {h : Heap} (hZ : Z.Warmed39 s.vm) (hw : ∀ d ∈ words, d.before a0 Z = true) {kI : Nat} (wi : (Jvm.Cond.instantiable ST kI).before a0 Z = true)
    {x b : Addr} {A : Cell} {z : Int32} {v0 c0 : Value} (E : RoadKit.Exa Z h x ST) (V : RoadKit.Fld Z h x ST "value" "[B" v0) (C : RoadKit.Fld Z h x ST "coder" "B" c0) (K : RoadKit.Arr Z h b A .char) (hty : Typed .char A) (S : RoadKit.Sta Z h ST "COMPACT_STRINGS" "Z" (.int z)) (hz : ¬ z = 0)
    (l0 : 0 < A.slots.size) (l2 : A.slots.size ≤ 536870912) (hp : ∀ i, i < A.slots.size → ¬ 255 < cv A i) (hfr : 4 ≤ R.frames) (hlo : W + 65 ≤ R.locals) :
    Back l R p e below s args New1.yN len W (fun P a => a = #[.ref x, .ref b] ∧ P.U.heap = h ∧ P.cells + 1 ≤ R.cells ∧ P.slots + A.slots.size ≤ R.slots)
      (fun P _ v B => ∃ L, Q Z x A h v B.U.heap L ∧ B.locs = P.locs ++ L ∧ B.cells = P.cells + 1 ∧ B.slots = P.slots + A.slots.size) := by
  intro m meth c P g ig mk a X hg hsize hdg hW hn hp'
  obtain ⟨rfl, rfl, r1, r2⟩ := hp'
  have al : Z.vm.Alike P.U.vm := hZ.alike.trans X.warmed.alike
  obtain ⟨D, cfV, kV, iV, fV, hD, gV, stV, knV, obV, asV, slV⟩ := id V
  obtain ⟨D', cfC, kC, iC, fC, hD', gC, stC, -, -, asC, slC⟩ := id C
  cases hD.symm.trans hD'
  obtain ⟨D2, kD, e1, e2, e3, e4, e5⟩ := id E
  cases hD.symm.trans e1
  obtain ⟨c2, k2, i1, i2, i3, -⟩ := Cond.instantiable_spec wi
  cases e2.symm.trans i1
  cases e3.symm.trans i2
  obtain ⟨kU, u1, u2⟩ := al.2.2 _ _ e3
  have hB : Blank ST x D P.U := ⟨hD, ⟨knV, fun q hq => by rw [hq] at obV; cases obV⟩, by rw [al.findClass]; exact e2, kU, u1, by rw [u2]; exact i3, by rw [u2]; exact e5 i3⟩
  have F1 : Found ST "value" "[B" fV P.U := ⟨SBG.found_only al ⟨cfV, kV, iV, gV⟩, stV⟩
  have F2 : Found ST "coder" "B" fC P.U := ⟨SBG.found_only al ⟨cfC, kC, iC, gC⟩, stC⟩
  have hA : Ch b A P.U := ⟨⟨K.1, State.isArrayOf_alike al K.2.1, K.2.2, by omega⟩, hty⟩
  have hS : StaticIs P.U ST "COMPACT_STRINGS" "Z" (.int z) := by
    obtain ⟨cfS, iS, kS, fS, st, cS, t1, t2, t3, t4, t5, t6, t7⟩ := S
    exact StaticIs.there (s := { Z with heap := P.U.heap }) ⟨cfS, iS, kS, fS, st, cS, t1, t2, t3, t4, t5, (fun q => by rw [q] at t6; cases t6), t7⟩ al rfl
  obtain ⟨v, B, X', ⟨⟨hv, E', V', q1, q2, q3, q4, q5, q6, q7, q8, q9, q10, q11⟩, hl, hc, hs⟩, st⟩ := New1.pays x D fV fC b A z (tab_of (moved hZ hw)) hfr hlo m meth c P g ig mk _ X hg hsize hdg hW hn ⟨r1, r2, rfl, hB, F1, F2, hA, hS, hz, l0, l2, hp⟩
  have al' : Z.vm.Alike B.U.vm := hZ.alike.trans X'.warmed.alike
  have hsz : E'.slots.size = D.slots.size := by
    obtain ⟨-, -, -, kB, w1, w2, w3⟩ := q1
    obtain ⟨kB', y1, y2⟩ := al'.2.2 _ _ e3
    rw [q2.2.1] at w1
    cases w1.symm.trans y1
    rw [w3, e5 i3, y2]
  refine ⟨v, B, X', ⟨_, ⟨hv, ?_, ⟨by omega, fun y cy hy hn' => q10 y cy (by simpa using hn') hy, fun y cy hy => ?_⟩, q11, ⟨E', _, q1.1, by rw [q2.2.1]; exact e2, by rw [q2.2.1]; exact e3, by rw [q2.1]; exact obV, fun _ => by rw [hsz]; exact e5 i3⟩,
    ⟨E', cfV, kV, iV, fV, q1.1, gV, stV, by rw [q2.1]; exact knV, by rw [q2.1]; exact obV, by rw [q2.2.1]; exact asV, q3⟩, ⟨E', cfC, kC, iC, fC, q1.1, gC, stC, by rw [q2.1]; exact knV, by rw [q2.1]; exact obV, by rw [q2.2.1]; exact asC, q4⟩,
    ⟨V', ⟨q5.1, State.isArrayOf_alike al'.symm q5.2.1, q5.2.2.1⟩, q6, by rw [← al'.findClass]; exact q7, q8, fun j hj => by have := q9 j hj; rwa [Nat.zero_add] at this⟩, fun O n d w F n1 n2 => ?_⟩, hl, hc, hs⟩, st⟩
  · intro y hy
    simp only [List.mem_cons, List.not_mem_nil, or_false] at hy
    rcases hy with rfl | rfl <;> rfl
  · by_cases q : y = x
    · subst q
      cases hD.symm.trans hy
      exact ⟨E', q1.1, q2.2.1, q2.1, hsz⟩
    · exact ⟨cy, q10 y cy q hy, rfl, rfl, rfl⟩
  · obtain ⟨D3, cf, k, i, f, g1, g2, g3, g4, g5, g6, g7⟩ := F
    cases hD.symm.trans g1
    simp only [RoadKit.slotOf, g2, gV, gC, Option.map_some, Option.getD_some] at n1 n2
    exact ⟨E', cf, k, i, f, q1.1, g2, g3, by rw [q2.1]; exact g4, by rw [q2.1]; exact g5, by rw [q2.2.1]; exact g6, by rw [q2.2.2 f.slot (by simp [n1, n2])]; exact g7⟩
end StrChars.Road
namespace StrChars.Road
open Jvm Sem ClassFile Op Lib Jvm.Stand Jvm.Free Jvm.Free.XT
/-- WHAT COMES BACK, the byte[] as a list of values -/
def QA (Z : State) (x : Addr) (zn : Int32) (cs : List Int32) (h : Heap) (v : Option Value) (h' : Heap) (L : List Loc) : Prop := v = none ∧ (∀ y ∈ L, y.base = x) ∧ RoadKit.Keep h h' [x] ∧ h'.size = h.size + 1 ∧ RoadKit.Exa Z h' x ST ∧ RoadKit.Fld Z h' x ST "value" "[B" (.ref h.size) ∧ RoadKit.Fld Z h' x ST "coder" "B" (.int 0) ∧
  (∃ kb, Z.vm.findClass "[B" = some kb ∧ RoadKit.Arv Z h' h.size kb .byte zn (cs.map fun c => .int (lo8 c)) (.int 0)) ∧
  ∀ (O n d : String) (w : Value), RoadKit.Fld Z h x O n d w → RoadKit.slotOf Z O n d ≠ RoadKit.slotOf Z ST "value" "[B" → RoadKit.slotOf Z O n d ≠ RoadKit.slotOf Z ST "coder" "B" → RoadKit.Fld Z h' x O n d w
/-- **new String(chars) AT A CALL, THE ARRAYS AS LISTS**: the char[] at b holds cs, not empty, no char above 255 -/
theorem backArv {p : Program} {l : Launch} {e : Env} {R : Room} {s : State} {args : Array Value} {below : List Frame} {len W : Nat} {Z : State} {a0 : Array Value} {h : Heap} (hZ : Z.Warmed39 s.vm) (hw : ∀ d ∈ words, d.before a0 Z = true) {kI : Nat} (wi : (Jvm.Cond.instantiable ST kI).before a0 Z = true)
    {x b : Addr} {k : ClassId} {zn z : Int32} {cs : List Int32} {dv v0 c0 : Value} (E : RoadKit.Exa Z h x ST) (V : RoadKit.Fld Z h x ST "value" "[B" v0) (C : RoadKit.Fld Z h x ST "coder" "B" c0) (K : RoadKit.Arv Z h b k .char zn (cs.map Value.int) dv) (S : RoadKit.Sta Z h ST "COMPACT_STRINGS" "Z" (.int z)) (hz : ¬ z = 0)
    (hlen : zn.toNatClampNeg = cs.length) (h0 : 0 < cs.length) (hbig : cs.length ≤ 536870912) (hall : ∀ c ∈ cs, ¬ 255 < c) (hfr : 4 ≤ R.frames) (hlo : W + 65 ≤ R.locals) :
    Back l R p e below s args New1.yN len W (fun P a => a = #[.ref x, .ref b] ∧ P.U.heap = h ∧ P.cells + 1 ≤ R.cells ∧ P.slots + cs.length ≤ R.slots)
      (fun P _ v B => ∃ L, QA Z x zn cs h v B.U.heap L ∧ B.locs = P.locs ++ L ∧ B.cells = P.cells + 1 ∧ B.slots = P.slots + cs.length) := by
  obtain ⟨A, K1, K2, K3, K4, K5, K6⟩ := K
  have e : A.slots.size = cs.length := K3.trans hlen
  have hat : ∀ (i : Nat) (hi : i < cs.length), A.slots[i]? = some (.int cs[i]) := fun i hi => by rw [K5 i (by omega)]; simp [List.getD_eq_getElem?_getD, hi]
  have hcv : ∀ (i : Nat) (hi : i < cs.length), cv A i = cs[i] := fun i hi => by unfold cv; rw [hat i hi]
  have hty : Typed .char A := fun i v hv => by
    have hi : i < A.slots.size := (Array.getElem?_eq_some_iff.mp hv).1
    have q := K5 i hi
    rw [hv] at q
    rw [Option.some.inj q]
    exact K6 i hi
  refine Back.mono (back hZ hw wi E V C K1 hty S hz (by omega) (by omega) (fun i hi => by rw [hcv i (by omega)]; exact hall _ (List.getElem_mem _)) hfr hlo) (fun P a hp => ⟨hp.1, hp.2.1, hp.2.2.1, by rw [e]; exact hp.2.2.2⟩) (fun P a v B hp hq => ?_)
  obtain ⟨L, ⟨q1, q2, q3, q4, q5, q6, q7, ⟨V', v1, v2, v3, v4, v5⟩, q9⟩, hl, hc, hs⟩ := hq
  refine ⟨L, ⟨q1, q2, q3, q4, q5, q6, q7, ⟨V'.cls, v3, V', v1, rfl, by rw [v4, e, hlen], K4, fun i hi => ?_, fun i hi => ?_⟩, q9⟩, hl, hc, by rw [hs, e]⟩
  · have hi' : i < cs.length := by omega
    rw [v5 i (by omega), hcv i hi']; simp [List.getD_eq_getElem?_getD, hi']
  · have hi' : i < cs.length := by omega
    simp only [List.getD_eq_getElem?_getD, List.getElem?_map, List.getElem?_eq_getElem hi', Option.map_some, Option.getD_some]
    exact fits_lo8 _
end StrChars.Road
namespace StrChars.Road
open Jvm Sem ClassFile Op Lib Jvm.Stand Jvm.Free Jvm.Free.XT
/-- WHAT COMES BACK, in the writer's own shape -/
def QV (Z : State) (x : Addr) (N : Int32) (bs : List Int32) (h : Heap) (n0 : Nat) (v : Option Value) (h' : Heap) (L : List Loc) : Prop := v = none ∧ RoadKit.Fr n0 L ∧ RoadKit.Keep h h' [x] ∧ RoadKit.Exa Z h' x ST ∧ RoadKit.Fld Z h' x ST "coder" "B" (.int 0) ∧
  ∃ (t : Addr) (kb : ClassId), n0 ≤ t ∧ h.size ≤ t ∧ ¬ t = x ∧ RoadKit.Fld Z h' x ST "value" "[B" (.ref t) ∧ RoadKit.Arv Z h' t kb .byte N (bs.map Value.int) (.int 0)
/-- **new String(chars) AT A CALL, FOR THE WRITER**: a char[] of n known ints, each 0 to 255 -/
theorem backV {p : Program} {l : Launch} {e : Env} {R : Room} {s : State} {args : Array Value} {below : List Frame} {len W : Nat} {Z : State} {a0 : Array Value} {h : Heap} (hZ : Z.Warmed39 s.vm) (hw : ∀ d ∈ words, d.before a0 Z = true) {kI : Nat} (wi : (Jvm.Cond.instantiable ST kI).before a0 Z = true)
    {x b : Addr} {kC : ClassId} {cs bs : List Int32} {d v0 c0 : Value} {z N : Int32} {n n0 : Nat} (hx0 : n0 ≤ x) (hh0 : n0 ≤ h.size) (E : RoadKit.Exa Z h x ST) (V : RoadKit.Fld Z h x ST "value" "[B" v0) (C : RoadKit.Fld Z h x ST "coder" "B" c0) (K : RoadKit.Arv Z h b kC .char N (cs.map Value.int) d) (S : RoadKit.Sta Z h ST "COMPACT_STRINGS" "Z" (.int z)) (hz : ¬ z = 0)
    (hn : cs.length = n) (hN : N = Int32.ofNat n) (l0 : 0 < n) (l2 : n ≤ 4000) (hp : ∀ c ∈ cs, ¬ c < 0 ∧ ¬ (255 : Int32) < c) (hb : bs = cs.map (fun c => c.toInt8.toInt32)) (hfr : 4 ≤ R.frames) (hlo : W + 65 ≤ R.locals) :
    Back l R p e below s args (⟨"java/lang/String", "<init>", "([C)V"⟩ : MethodName) len W (fun P a => a = #[.ref x, .ref b] ∧ P.U.heap = h ∧ P.cells + 1 ≤ R.cells ∧ P.slots + n ≤ R.slots)
      (fun P _ v B => ∃ L, QV Z x N bs h n0 v B.U.heap L ∧ B.locs = P.locs ++ L ∧ B.cells = P.cells + 1 ∧ B.slots = P.slots + n) := by
  subst hn hN hb
  refine Back.mono (backArv hZ hw wi E V C K S hz (n32 (by omega)) l0 (by omega) (fun c hc => (hp c hc).2) hfr hlo) (fun P a hp => hp) (fun P a v B hp hq => ?_)
  obtain ⟨L, ⟨q1, q2, q3, q4, q5, q6, q7, ⟨kb, v1, v2⟩, q9⟩, hl, hc, hs⟩ := hq
  exact ⟨L, ⟨q1, fun y hy => by rw [q2 y hy]; exact hx0, q3, q5, q7, h.size, kb, hh0, Nat.le_refl _, Nat.ne_of_gt E.lt, q6, by rw [List.map_map]; exact v2⟩, hl, hc, hs⟩
end StrChars.Road
namespace StrChars
open Jvm Sem ClassFile Op Lib Jvm.Stand Jvm.Free.XT Jvm.Free.ALB Jvm.Free.JM Jvm.Free
open Jvm.Lib.Cold (StaticIs)
def hi8 (x : Int32) : Int32 := lo8 (x >>> ((8 : Int32) &&& 31))
/-- what StringUTF16.getChar makes of two bytes -/
def pairCh (u v : Int32) : Int32 := (((u &&& 255) <<< ((0 : Int32) &&& 31)) ||| ((v &&& 255) <<< ((8 : Int32) &&& 31))).toUInt32.toUInt16.toUInt32.toInt32
theorem lo8_and (x : Int32) : (lo8 x &&& 255).toBitVec.toNat = x.toBitVec.toNat % 256 := by
  have h : (lo8 x).toBitVec = (x.toBitVec.signExtend 8).signExtend 32 := by rw [lo8, Int8.toBitVec_toInt32, Int32.toBitVec_toInt8]
  rw [Int32.toBitVec_and, BitVec.toNat_and, h]
  have e : ((x.toBitVec.signExtend 8).signExtend 32).toNat % 256 = x.toBitVec.toNat % 256 := by
    rw [BitVec.toNat_signExtend]
    have hlt := x.toBitVec.isLt
    simp only [BitVec.toNat_setWidth, BitVec.toNat_signExtend]
    split <;> split <;> omega
  rw [← e]
  exact Nat.and_two_pow_sub_one_eq_mod _ 8
theorem pair_says {c : Int32} (h0 : ¬ c < 0) (h1 : ¬ 65535 < c) : pairCh (lo8 c) (hi8 c) = c := by
  rw [Int32.lt_iff_toInt_lt] at h0 h1
  have e0 : (0 : Int32).toInt = 0 := rfl
  have e1 : (65535 : Int32).toInt = 65535 := rfl
  have hc : c.toInt = c.toBitVec.toNat := by
    have := c.toBitVec.isLt
    have e : c.toInt = c.toBitVec.toInt := rfl
    rw [e] at h0 h1
    rw [e]
    rw [BitVec.toInt_eq_toNat_cond] at h0 h1 ⊢
    split at h0 <;> split <;> omega
  have hn : c.toBitVec.toNat < 65536 := by omega
  have a1 := lo8_and c
  have a2 : (hi8 c &&& 255).toBitVec.toNat = c.toBitVec.toNat / 256 := by
    rw [hi8, lo8_and]
    have e : ((8 : Int32) &&& 31) = 8 := by decide
    rw [e, Int32.toBitVec_shiftRight]
    have e2 : ((8 : Int32).toBitVec.smod 32) = 8#32 := by decide
    rw [e2, BitVec.sshiftRight_eq', BitVec.toNat_sshiftRight_of_msb_false (by rw [BitVec.msb_eq_false_iff_two_mul_lt]; omega)]
    show c.toBitVec.toNat >>> 8 % 256 = _
    rw [Nat.shiftRight_eq_div_pow]
    omega
  unfold pairCh
  apply Int32.toBitVec_inj.mp
  apply BitVec.eq_of_toNat_eq
  have f0 : ((0 : Int32) &&& 31) = 0 := by decide
  have f8 : ((8 : Int32) &&& 31) = 8 := by decide
  rw [f0, f8]
  have g : (((lo8 c &&& 255) <<< (0 : Int32)) ||| ((hi8 c &&& 255) <<< (8 : Int32))).toBitVec.toNat = c.toBitVec.toNat := by
    rw [Int32.toBitVec_or, Int32.toBitVec_shiftLeft, Int32.toBitVec_shiftLeft]
    have s0 : ((0 : Int32).toBitVec.smod 32) = 0#32 := by decide
    have s8 : ((8 : Int32).toBitVec.smod 32) = 8#32 := by decide
    rw [s0, s8, BitVec.toNat_or]
    simp only [BitVec.shiftLeft_eq', BitVec.toNat_shiftLeft, a1, a2]
    show (c.toBitVec.toNat % 256) <<< 0 % 2 ^ 32 ||| (c.toBitVec.toNat / 256) <<< 8 % 2 ^ 32 = _
    rw [Nat.shiftLeft_zero, Nat.mod_eq_of_lt (show c.toBitVec.toNat % 256 < 2 ^ 32 by omega), Nat.mod_eq_of_lt (show (c.toBitVec.toNat / 256) <<< 8 < 2 ^ 32 by rw [Nat.shiftLeft_eq]; omega), Nat.or_comm, ← Nat.shiftLeft_add_eq_or_of_lt (by omega), Nat.shiftLeft_eq]
    omega
  show BitVec.toNat (((((lo8 c &&& 255) <<< (0 : Int32)) ||| ((hi8 c &&& 255) <<< (8 : Int32))).toBitVec.setWidth 16).setWidth 32) = _
  rw [BitVec.toNat_setWidth, BitVec.toNat_setWidth, g]
  omega
end StrChars
namespace StrChars
open Jvm Sem ClassFile Op Lib Jvm.Stand Jvm.Free.XT Jvm.Free.ALB Jvm.Free.JM Jvm.Free
open Jvm.Lib.Cold (StaticIs)
/-- the array's cell V codes the n chars f 0 .. f (n - 1) by the coder cd, as the JDK does: coder 1 just where some char is above 255 -/
def Cod (cd : Int32) (n : Nat) (f : Nat → Int32) (V : Cell) : Prop := (cd = 0 ∧ V.slots.size = n ∧ ∀ j, j < n → V.slots[j]? = some (.int (lo8 (f j))) ∧ ¬ 255 < f j) ∨ (cd = 1 ∧ V.slots.size = 2 * n ∧ (∀ j, j < n → V.slots[2 * j]? = some (.int (lo8 (f j))) ∧ V.slots[2 * j + 1]? = some (.int (hi8 (f j)))) ∧ ∃ j, j < n ∧ 255 < f j)
/-- **x is a String of the n chars f 0 .. f (n - 1)**, Latin-1 or UTF-16; its array at t has the cell V -/
def Txt (x t : Addr) (V : Cell) (cd : Int32) (n : Nat) (f : Nat → Int32) (U : State) : Prop := Exact "java/lang/String" x U ∧ Has x "java/lang/String" "value" "[B" (.ref t) U ∧ Has x "java/lang/String" "coder" "B" (.int cd) U ∧ XT.Arr .byte t V U ∧ Cod cd n f V ∧ ∀ j, j < n → ¬ f j < 0 ∧ ¬ 65535 < f j
theorem Txt.mv {x t : Addr} {V : Cell} {cd : Int32} {n : Nat} {f : Nat → Int32} {U U' : State} (h : Txt x t V cd n f U) (hal : U.vm.Alike U'.vm) (hh : U'.heap = U.heap) : Txt x t V cd n f U' := ⟨h.1.mv hal hh, h.2.1.mv hal hh, h.2.2.1.mv hal hh, h.2.2.2.1.mv hal hh, h.2.2.2.2⟩
end StrChars
namespace StrChars.Road
open Jvm Sem ClassFile Op Lib Jvm.Stand Jvm.Free Jvm.Free.XT
open Jvm.Lib.Cold (StaticIs)
theorem consq {a : Array Value} {s : State} {c : Jvm.Cond} {L : List Jvm.Cond} (h0 : c.before a s = true) (h : ∀ w ∈ L, w.before a s = true) : ∀ w ∈ c :: L, w.before a s = true := fun w hw => (List.mem_cons.mp hw).elim (fun e => e ▸ h0) (h w)
/-- the bytes of the chars cs, low before high -/
def wideBytes : List Int32 → List Value
  | [] => []
  | c :: cs => .int (lo8 c) :: .int (hi8 c) :: wideBytes cs
theorem wide_lo (d : Value) : ∀ (cs : List Int32) (j : Nat), j < cs.length → (wideBytes cs).getD (2 * j) d = .int (lo8 (cs.getD j 0))
  | [], j, h => absurd h (Nat.not_lt_zero j)
  | c :: cs, 0, _ => rfl
  | c :: cs, j + 1, h => by
    have q := wide_lo d cs j (by simpa using h)
    rw [show 2 * (j + 1) = 2 * j + 1 + 1 from by omega]
    simpa [wideBytes] using q
theorem wide_hi (d : Value) : ∀ (cs : List Int32) (j : Nat), j < cs.length → (wideBytes cs).getD (2 * j + 1) d = .int (hi8 (cs.getD j 0))
  | [], j, h => absurd h (Nat.not_lt_zero j)
  | c :: cs, 0, _ => rfl
  | c :: cs, j + 1, h => by
    have q := wide_hi d cs j (by simpa using h)
    rw [show 2 * (j + 1) + 1 = 2 * j + 1 + 1 + 1 from by omega]
    simpa [wideBytes] using q
theorem low_at (d : Value) (cs : List Int32) (j : Nat) (h : j < cs.length) : (cs.map fun c => Value.int (lo8 c)).getD j d = .int (lo8 (cs.getD j 0)) := by
  simp [List.getD_eq_getElem?_getD, h]
/-- an array of N2 bytes vs codes the chars cs by the coder cd -/
def CodA (cs : List Int32) (cd N2 : Int32) (vs : List Value) : Prop := (cd = 0 ∧ N2 = Int32.ofNat cs.length ∧ vs = (cs.map fun c => Value.int (lo8 c)) ∧ ∀ c ∈ cs, ¬ 255 < c) ∨ (cd = 1 ∧ N2 = Int32.ofNat (2 * cs.length) ∧ vs = wideBytes cs ∧ ∃ c ∈ cs, 255 < c)
theorem CodA.cod {cs : List Int32} {cd N2 : Int32} {vs : List Value} {V : Cell} (h : CodA cs cd N2 vs) (hn : 2 * cs.length < 2 ^ 31) (hs : V.slots.size = N2.toNatClampNeg) (hv : RoadKit.Has V vs (.int 0)) : Cod cd cs.length (fun j => cs.getD j 0) V := by
  rcases h with ⟨rfl, rfl, rfl, h⟩ | ⟨rfl, rfl, rfl, c, hc, hw⟩
  · rw [n32 (by omega)] at hs
    exact Or.inl ⟨rfl, hs, fun j hj => ⟨by rw [hv j (by omega), low_at _ _ _ hj], by
      have e : cs.getD j 0 = cs[j] := by simp [List.getD_eq_getElem?_getD, hj]
      show ¬ 255 < cs.getD j 0
      rw [e]; exact h _ (List.getElem_mem _)⟩⟩
  · rw [n32 (by omega)] at hs
    obtain ⟨j, hj, rfl⟩ := List.getElem_of_mem hc
    exact Or.inr ⟨rfl, hs, fun j hj => ⟨by rw [hv _ (by omega), wide_lo _ _ _ hj], by rw [hv _ (by omega), wide_hi _ _ _ hj]⟩, j, hj, by
      have e : cs.getD j 0 = cs[j] := by simp [List.getD_eq_getElem?_getD, hj]
      show 255 < cs.getD j 0
      rw [e]; exact hw⟩
/-- an object of exactly java/lang/String, its two fields found: as the laws ask it -/
theorem strObj {Z U : State} {a0 : Array Value} {kI : Nat} (wi : (Jvm.Cond.instantiable ST kI).before a0 Z = true) (al : Z.vm.Alike U.vm) {x : Addr} {v0 c0 : Value} (E : RoadKit.Exa Z U.heap x ST) (V : RoadKit.Fld Z U.heap x ST "value" "[B" v0) (C : RoadKit.Fld Z U.heap x ST "coder" "B" c0) :
    ∃ (D : Cell) (fV fC : Field), Blank ST x D U ∧ Found ST "value" "[B" fV U ∧ Found ST "coder" "B" fC U ∧ D.slots[fV.slot]? = some v0 ∧ D.slots[fC.slot]? = some c0 ∧ RoadKit.slotOf Z ST "value" "[B" = fV.slot ∧ RoadKit.slotOf Z ST "coder" "B" = fC.slot := by
  obtain ⟨D, cfV, kV, iV, fV, hD, gV, stV, knV, obV, asV, slV⟩ := V
  obtain ⟨D', cfC, kC, iC, fC, hD', gC, stC, -, -, asC, slC⟩ := C
  cases hD.symm.trans hD'
  obtain ⟨D2, kD, e1, e2, e3, e4, e5⟩ := E
  cases hD.symm.trans e1
  obtain ⟨c2, k2, i1, i2, i3, -⟩ := Cond.instantiable_spec wi
  cases e2.symm.trans i1
  cases e3.symm.trans i2
  obtain ⟨kU, u1, u2⟩ := al.2.2 _ _ e3
  exact ⟨D, fV, fC, ⟨hD, ⟨knV, fun q hq => by rw [hq] at obV; cases obV⟩, by rw [al.findClass]; exact e2, kU, u1, by rw [u2]; exact i3, by rw [u2]; exact e5 i3⟩, ⟨SBG.found_only al ⟨cfV, kV, iV, gV⟩, stV⟩, ⟨SBG.found_only al ⟨cfC, kC, iC, gC⟩, stC⟩, slV, slC, by simp [RoadKit.slotOf, gV], by simp [RoadKit.slotOf, gC]⟩
theorem sta_is {Z U : State} (al : Z.vm.Alike U.vm) {C n d : String} {v : Value} (S : RoadKit.Sta Z U.heap C n d v) : StaticIs U C n d v := by
  obtain ⟨cfS, iS, kS, fS, st, cS, t1, t2, t3, t4, t5, t6, t7⟩ := S
  exact StaticIs.there (s := { Z with heap := U.heap }) ⟨cfS, iS, kS, fS, st, cS, t1, t2, t3, t4, t5, (fun q => by rw [q] at t6; cases t6), t7⟩ al rfl
end StrChars.Road
namespace StrChars
open Jvm Sem ClassFile Op Lib Jvm.Stand Jvm.Free.XT Jvm.Free.ALB Jvm.Free.JM Jvm.Free
open Jvm.Lib.Cold (StaticIs)
/-- what place i of a byte[]'s cell holds -/
def yv (A : Cell) (i : Nat) : Int32 := match A.slots[i]? with | some (.int x) => x | _ => 0
theorem yv_get {a : Addr} {A : Cell} {U : State} (h : XT.Arr .byte a A U) (ht : Typed .byte A) {i : Nat} (hi : i < A.slots.size) : A.slots[i]? = some (.int (yv A i)) := by
  have e := Array.getElem?_eq_getElem hi
  have f := ht i _ e
  unfold yv; rw [e]
  generalize A.slots[i] = v at f
  cases v <;> simp [fits] at f ⊢
/-- the two arrays are equal, place for place -/
def EqC (A B : Cell) : Prop := A.slots.size = B.slots.size ∧ ∀ i, i < A.slots.size → yv A i = yv B i
/-- a boolean that says whether p -/
def Says01 (q : Prop) (r : Option Value) (s u : State) : Prop := ∃ v : Int32, r = some (.int v) ∧ u.heap = s.heap ∧ ((v = 1 ∧ q) ∨ (v = 0 ∧ ¬ q))
theorem Says01.mv {q : Prop} : ∀ r (U U' V V' : State), U'.heap = U.heap → V.vm.Alike V'.vm → V'.heap = V.heap → Says01 q r U V → Says01 q r U' V' :=
  fun r U U' V V' h1 _ h2 ⟨v, a, b, c⟩ => ⟨v, a, by rw [h1, h2]; exact b, c⟩
namespace LEq
def yN : MethodName := ⟨"java/lang/StringLatin1", "equals", "([B[B)Z"⟩
abbrev yB : ByteArray := jdk_43_method_13_code
theorem d0 : decode yB 0 = .ok (.aload_n 0, 1) := by decide +kernel
theorem d1 : decode yB 1 = .ok (.arraylength, 1) := by decide +kernel
theorem d2 : decode yB 2 = .ok (.aload_n 1, 1) := by decide +kernel
theorem d3 : decode yB 3 = .ok (.arraylength, 1) := by decide +kernel
theorem d4 : decode yB 4 = .ok (.if_icmp (.ne) 30, 3) := by decide +kernel
theorem d7 : decode yB 7 = .ok (.iconst 0, 1) := by decide +kernel
theorem d8 : decode yB 8 = .ok (.istore_n 2, 1) := by decide +kernel
theorem d9 : decode yB 9 = .ok (.iload_n 2, 1) := by decide +kernel
theorem d10 : decode yB 10 = .ok (.aload_n 0, 1) := by decide +kernel
theorem d11 : decode yB 11 = .ok (.arraylength, 1) := by decide +kernel
theorem d12 : decode yB 12 = .ok (.if_icmp (.ge) 20, 3) := by decide +kernel
theorem d15 : decode yB 15 = .ok (.aload_n 0, 1) := by decide +kernel
theorem d16 : decode yB 16 = .ok (.iload_n 2, 1) := by decide +kernel
theorem d17 : decode yB 17 = .ok (.baload, 1) := by decide +kernel
theorem d18 : decode yB 18 = .ok (.aload_n 1, 1) := by decide +kernel
theorem d19 : decode yB 19 = .ok (.iload_n 2, 1) := by decide +kernel
theorem d20 : decode yB 20 = .ok (.baload, 1) := by decide +kernel
theorem d21 : decode yB 21 = .ok (.if_icmp (.eq) 5, 3) := by decide +kernel
theorem d24 : decode yB 24 = .ok (.iconst 0, 1) := by decide +kernel
theorem d25 : decode yB 25 = .ok (.ireturn, 1) := by decide +kernel
theorem d26 : decode yB 26 = .ok (.iinc 2 1, 3) := by decide +kernel
theorem d29 : decode yB 29 = .ok (.goto (-20), 3) := by decide +kernel
theorem d32 : decode yB 32 = .ok (.iconst 1, 1) := by decide +kernel
theorem d33 : decode yB 33 = .ok (.ireturn, 1) := by decide +kernel
theorem d34 : decode yB 34 = .ok (.iconst 0, 1) := by decide +kernel
theorem d35 : decode yB 35 = .ok (.ireturn, 1) := by decide +kernel
def site : List Cond := []
def tab : Cond := tabOf yN yB 3 (some .boolean) site
def P (a : Addr) (A : Cell) (b : Addr) (B : Cell) (args : Array Value) (s : State) : Prop := args = #[.ref a, .ref b] ∧ XT.Arr .byte a A s ∧ Typed .byte A ∧ XT.Arr .byte b B s ∧ Typed .byte B
/-- whether two byte[] are equal, place for place -/
theorem law (l : Launch) (a : Addr) (A : Cell) (b : Addr) (B : Cell) : Law l yN 2 2 0 0 yB 3 (some .boolean) site (P a A b B) (Says01 (EqC A B)) [] 0 0 := by
  refine Law.of_walk (plainFor_of_name (by decide +kernel)) (by decide +kernel) (by decide +kernel) (by decide) (fun _ _ h => by rw [h.1]; rfl) (fun _ U U' hal hh h => ⟨h.1, h.2.1.mv hal hh, h.2.2.1, h.2.2.2.1.mv hal hh, h.2.2.2.2⟩) (fun r U U' V V' h1 hal h2 h => Says01.mv r U U' V V' h1 hal h2 h) ?_
  intro p e s m args below meth c s₁ X0 hexec hbytes hml hret hlk hnm hown hh0 W hP
  obtain ⟨rfl, hA, tA, hB, tB⟩ := hP
  have a31 := hA.2.2.2
  have b31 := hB.2.2.2
  have hA0 := hA.mv X0.warmed.alike hh0
  have hB0 := hB.mv X0.warmed.alike hh0
  have c1 : Steps p.tables e below (s₁.setTop (entryFrame m #[.ref a, .ref b] 3)) (s₁.setTop (mkF m 0 #[.val (.ref a), .val (.ref b), .unset] [])) := entry rfl
  have c2 : Steps p.tables e below (s₁.setTop (entryFrame m #[.ref a, .ref b] 3)) (s₁.setTop (mkF m 4 #[.val (.ref a), .val (.ref b), .unset] [.int (Int32.ofNat B.slots.size), .int (Int32.ofNat A.slots.size)])) := c1.trans (by
    refine XS.aloadN X0.here hexec rfl (hb hbytes d0) rfl rfl ?_
    refine X0.alen hexec hA0 rfl rfl (hb hbytes d1) ?_
    refine XS.aloadN X0.here hexec rfl (hb hbytes d2) rfl rfl ?_
    refine X0.alen hexec hB0 rfl rfl (hb hbytes d3) ?_
    exact Steps.refl _)
  by_cases hs : A.slots.size = B.slots.size
  · have c3 : Steps p.tables e below (s₁.setTop (entryFrame m #[.ref a, .ref b] 3)) (s₁.setTop (mkF m 9 #[.val (.ref a), .val (.ref b), .val (.int 0)] [])) := c2.trans (by
      refine XS.icmpNo X0.here hexec rfl (hb hbytes d4) rfl (ii_ne_f (by rw [hs])) ?_
      refine iconstV X0.here hexec rfl 0 (hb hbytes d7) (by decide) ?_
      refine XS.istoreN X0.here hexec rfl (hb hbytes d8) rfl rfl ?_
      exact Steps.refl _)
    have loop : ∀ (r i : Nat), i + r = A.slots.size → (∀ j, j < i → yv A j = yv B j) → Steps p.tables e below (s₁.setTop (entryFrame m #[.ref a, .ref b] 3)) (s₁.setTop (mkF m 9 #[.val (.ref a), .val (.ref b), .val (.int (Int32.ofNat i))] [])) → ∃ (pc : Nat) (Ls : Array Slot) (v : Int32), (pc = 25 ∨ pc = 33) ∧ ((v = 1 ∧ EqC A B) ∨ (v = 0 ∧ ¬ EqC A B)) ∧ Steps p.tables e below (s₁.setTop (entryFrame m #[.ref a, .ref b] 3)) (s₁.setTop (mkF m pc Ls [.int v])) := by
      intro r
      induction r with
      | zero =>
        intro i hi he cl
        exact ⟨33, _, 1, Or.inr rfl, Or.inl ⟨rfl, hs, fun j hj => he j (by omega)⟩, cl.trans (by
          refine XS.iloadN X0.here hexec rfl (hb hbytes d9) rfl ?_
          refine XS.aloadN X0.here hexec rfl (hb hbytes d10) rfl rfl ?_
          refine X0.alen hexec hA0 rfl rfl (hb hbytes d11) ?_
          refine XS.icmpYes X0.here hexec rfl (pc0 := 12) rfl (hb hbytes d12) rfl (ii_ge_t (nlt32 (by omega) (by omega))) (by decide) rfl ?_
          refine iconstV X0.here hexec rfl 1 (hb hbytes d32) (by decide) ?_
          exact Steps.refl _)⟩
      | succ r ih =>
        intro i hi he cl
        have c4 : Steps p.tables e below (s₁.setTop (entryFrame m #[.ref a, .ref b] 3)) (s₁.setTop (mkF m 21 #[.val (.ref a), .val (.ref b), .val (.int (Int32.ofNat i))] [.int (yv B i), .int (yv A i)])) := cl.trans (by
          refine XS.iloadN X0.here hexec rfl (hb hbytes d9) rfl ?_
          refine XS.aloadN X0.here hexec rfl (hb hbytes d10) rfl rfl ?_
          refine X0.alen hexec hA0 rfl rfl (hb hbytes d11) ?_
          refine XS.icmpNo X0.here hexec rfl (hb hbytes d12) rfl (ii_ge_f (lt32 (by omega) (by omega))) ?_
          refine XS.aloadN X0.here hexec rfl (hb hbytes d15) rfl rfl ?_
          refine XS.iloadN X0.here hexec rfl (hb hbytes d16) rfl ?_
          refine X0.aget hexec hA0 rfl (yv_get hA tA (i := i) (by omega)) rfl rfl (hb hbytes d17) ?_
          refine XS.aloadN X0.here hexec rfl (hb hbytes d18) rfl rfl ?_
          refine XS.iloadN X0.here hexec rfl (hb hbytes d19) rfl ?_
          refine X0.aget hexec hB0 rfl (yv_get hB tB (i := i) (by omega)) rfl rfl (hb hbytes d20) ?_
          exact Steps.refl _)
        by_cases hv : yv A i = yv B i
        · have c5 : Steps p.tables e below (s₁.setTop (entryFrame m #[.ref a, .ref b] 3)) (s₁.setTop (mkF m 9 #[.val (.ref a), .val (.ref b), .val (.int (Int32.ofNat i + 1))] [])) := c4.trans (by
            refine XS.icmpYes X0.here hexec rfl (pc0 := 21) rfl (hb hbytes d21) rfl (ii_eq_t hv) (by decide) rfl ?_
            refine iincV X0.here hexec rfl 1 (hb hbytes d26) (by decide) rfl rfl ?_
            refine XS.goto X0.here hexec rfl (pc0 := 29) rfl (hb hbytes d29) (by decide) rfl ?_
            exact Steps.refl _)
          rw [succ32] at c5
          exact ih (i + 1) (by omega) (fun j hj => by
            by_cases e : j = i
            · rw [e]; exact hv
            · exact he j (by omega)) c5
        · exact ⟨25, _, 0, Or.inl rfl, Or.inr ⟨rfl, fun q => hv (q.2 i (by omega))⟩, c4.trans (by
            refine XS.icmpNo X0.here hexec rfl (hb hbytes d21) rfl (ii_eq_f hv) ?_
            refine iconstV X0.here hexec rfl 0 (hb hbytes d24) (by decide) ?_
            exact Steps.refl _)⟩
    obtain ⟨pc, Ls, v, hpc, hv, cz⟩ := loop A.slots.size 0 (by omega) (fun j hj => absurd hj (Nat.not_lt_zero j)) c3
    have nv : narrow .boolean (.int v) = .int v := by rcases hv with ⟨rfl, -⟩ | ⟨rfl, -⟩ <;> rfl
    rcases hpc with rfl | rfl
    · exact ⟨s₁, some (.int v), _, _, _, X0, rfl, rfl, rfl, (fun h => by cases h), ⟨v, rfl, hh0, hv⟩, fun fs hl => cz.trans (X0.ireturnOut hexec hret nv (Or.inr (Or.inl rfl)) (hb hbytes d25) hl)⟩
    · exact ⟨s₁, some (.int v), _, _, _, X0, rfl, rfl, rfl, (fun h => by cases h), ⟨v, rfl, hh0, hv⟩, fun fs hl => cz.trans (X0.ireturnOut hexec hret nv (Or.inr (Or.inl rfl)) (hb hbytes d33) hl)⟩
  · have c3 : Steps p.tables e below (s₁.setTop (entryFrame m #[.ref a, .ref b] 3)) (s₁.setTop (mkF m 35 #[.val (.ref a), .val (.ref b), .unset] [.int 0])) := c2.trans (by
      refine XS.icmpYes X0.here hexec rfl (pc0 := 4) rfl (hb hbytes d4) rfl (ii_ne_t (ne32 a31 b31 hs)) (by decide) rfl ?_
      refine iconstV X0.here hexec rfl 0 (hb hbytes d34) (by decide) ?_
      exact Steps.refl _)
    exact ⟨s₁, some (.int 0), _, _, _, X0, rfl, rfl, rfl, (fun h => by cases h), ⟨0, rfl, hh0, Or.inr ⟨rfl, fun q => hs q.1⟩⟩, fun fs hl => c3.trans (X0.ireturnOut hexec hret rfl (Or.inr (Or.inl rfl)) (hb hbytes d35) hl)⟩
end LEq
theorem Cod.ty {cd : Int32} {n : Nat} {f : Nat → Int32} {V : Cell} (h : Cod cd n f V) : Typed .byte V := fun i v hv => by
  have hi : i < V.slots.size := (Array.getElem?_eq_some_iff.mp hv).1
  rcases h with ⟨-, k1, k2⟩ | ⟨-, k1, k2, -⟩
  · rw [(k2 i (by omega)).1] at hv; cases hv; exact fits_lo8 _
  · rcases Nat.mod_two_eq_zero_or_one i with e | e
    · obtain ⟨j, rfl⟩ : ∃ j, i = 2 * j := ⟨i / 2, by omega⟩
      rw [(k2 j (by omega)).1] at hv; cases hv; exact fits_lo8 _
    · obtain ⟨j, rfl⟩ : ∃ j, i = 2 * j + 1 := ⟨i / 2, by omega⟩
      rw [(k2 j (by omega)).2] at hv; cases hv; exact fits_lo8 _
/-- the same text -/
def SameT (n : Nat) (f : Nat → Int32) (k : Nat) (g : Nat → Int32) : Prop := n = k ∧ ∀ j, j < n → f j = g j
theorem lo8_inj {x y : Int32} (h0 : ¬ x < 0) (h1 : ¬ 255 < x) (k0 : ¬ y < 0) (k1 : ¬ 255 < y) (h : lo8 x = lo8 y) : x = y := by
  rw [← lo8_mask h0 h1, ← lo8_mask k0 k1, h]
/-- arrays coded by one coder are equal just where the texts are -/
theorem Cod.eqv {cd : Int32} {n k : Nat} {f g : Nat → Int32} {V V' : Cell} (h : Cod cd n f V) (h' : Cod cd k g V') (hf : ∀ j, j < n → ¬ f j < 0 ∧ ¬ 65535 < f j) (hg : ∀ j, j < k → ¬ g j < 0 ∧ ¬ 65535 < g j) : EqC V V' ↔ SameT n f k g := by
  have yvv : ∀ {W : Cell} {i : Nat} {x : Int32}, W.slots[i]? = some (.int x) → yv W i = x := fun q => by unfold yv; rw [q]
  rcases h with ⟨rfl, k1, k2⟩ | ⟨rfl, k1, k2, -⟩
  · rcases h' with ⟨-, m1, m2⟩ | ⟨e, -⟩
    · constructor
      · rintro ⟨e1, e2⟩
        refine ⟨by omega, fun j hj => ?_⟩
        have q := e2 j (by omega)
        rw [yvv (k2 j hj).1, yvv (m2 j (by omega)).1] at q
        exact lo8_inj (hf j hj).1 (k2 j hj).2 (hg j (by omega)).1 (m2 j (by omega)).2 q
      · rintro ⟨rfl, e2⟩
        refine ⟨by omega, fun j hj => ?_⟩
        rw [yvv (k2 j (by omega)).1, yvv (m2 j (by omega)).1, e2 j (by omega)]
    · exact absurd e (by decide)
  · rcases h' with ⟨e, -⟩ | ⟨-, m1, m2, -⟩
    · exact absurd e (by decide)
    · constructor
      · rintro ⟨e1, e2⟩
        refine ⟨by omega, fun j hj => ?_⟩
        have q1 := e2 (2 * j) (by omega)
        have q2 := e2 (2 * j + 1) (by omega)
        rw [yvv (k2 j hj).1, yvv (m2 j (by omega)).1] at q1
        rw [yvv (k2 j hj).2, yvv (m2 j (by omega)).2] at q2
        rw [← pair_says (hf j hj).1 (hf j hj).2, ← pair_says (hg j (by omega)).1 (hg j (by omega)).2, q1, q2]
      · rintro ⟨rfl, e2⟩
        refine ⟨by omega, fun i hi => ?_⟩
        rcases Nat.mod_two_eq_zero_or_one i with e | e
        · obtain ⟨j, rfl⟩ : ∃ j, i = 2 * j := ⟨i / 2, by omega⟩
          rw [yvv (k2 j (by omega)).1, yvv (m2 j (by omega)).1, e2 j (by omega)]
        · obtain ⟨j, rfl⟩ : ∃ j, i = 2 * j + 1 := ⟨i / 2, by omega⟩
          rw [yvv (k2 j (by omega)).2, yvv (m2 j (by omega)).2, e2 j (by omega)]
/-- two codings differ: so do the texts -/
theorem Cod.dif {cd cd' : Int32} {n k : Nat} {f g : Nat → Int32} {V V' : Cell} (h : Cod cd n f V) (h' : Cod cd' k g V') (hne : ¬ cd = cd') : ¬ SameT n f k g := by
  rintro ⟨rfl, e⟩
  rcases h with ⟨rfl, -, k2⟩ | ⟨rfl, -, -, j, hj, hw⟩
  · rcases h' with ⟨rfl, -⟩ | ⟨-, -, -, j, hj, hw⟩
    · exact hne rfl
    · exact (k2 j hj).2 (by rw [e j hj]; exact hw)
  · rcases h' with ⟨-, -, m2⟩ | ⟨rfl, -⟩
    · exact (m2 j hj).2 (by rw [← e j hj]; exact hw)
    · exact hne rfl
/-- an object of exactly C is an instance of C -/
theorem cinst {p : Program} {l : Launch} {e : Env} {R : Room} {s : State} {m : MethodId} {args : Array Value} {below : List Frame} {meth : Method} {c : Code} {T : State} {locs : List Loc} {cells slots : Nat} (X : Stand p l e R s m args below meth c T locs cells slots) (hexec : p.tables.exec = Jvm.exec) {own C : String} {index : Nat} (hown : s.vm.findClass own = some m.cls) (hlink : (Cond.classLink own index C).before args s = true) {a : Addr} (hE : Exact C a T)
    {g : JFrame} (hg : g.method = m) {rest : List Value} (hstack : g.stack = .ref a :: rest) (hdg : decode c.code g.pc = .ok (.instanceof index, 3)) :
    ∃ T', Stand p l e R s m args below meth c T' locs cells slots ∧ T'.heap = T.heap ∧ ∀ target, Steps p.tables e below (T'.setTop { g with pc := g.pc + 3, stack := .int 1 :: rest }) target → Steps p.tables e below (T.setTop g) target := by
  obtain ⟨cB, h1, D, h2, h3, h4⟩ := hE
  have h1' : s.vm.findClass C = some cB := by rw [← X.warmed.alike.findClass]; exact h1
  obtain ⟨vm', X', st⟩ := X.instanceofYes hexec hown hlink h2 h4 h1' (by rw [h3]; exact Jvm.Free.SB.assignable_self _ _) hg hstack hdg
  exact ⟨_, X', rfl, st⟩
theorem cself {p : Program} {l : Launch} {e : Env} {R : Room} {s : State} {m : MethodId} {args : Array Value} {below : List Frame} {meth : Method} {c : Code} {T : State} {locs : List Loc} {cells slots : Nat} (X : Stand p l e R s m args below meth c T locs cells slots) (hexec : p.tables.exec = Jvm.exec) {own C : String} {index : Nat} (hown : s.vm.findClass own = some m.cls) (hlink : (Cond.classLink own index C).before args s = true) {a : Addr} (hE : Exact C a T)
    {g : JFrame} (hg : g.method = m) {rest : List Value} (hstack : g.stack = .ref a :: rest) (hdg : decode c.code g.pc = .ok (.checkcast index, 3)) :
    ∃ T', Stand p l e R s m args below meth c T' locs cells slots ∧ T'.heap = T.heap ∧ ∀ target, Steps p.tables e below (T'.setTop { g with pc := g.pc + 3, stack := .ref a :: rest }) target → Steps p.tables e below (T.setTop g) target := by
  obtain ⟨cB, h1, D, h2, h3, h4⟩ := hE
  have h1' : s.vm.findClass C = some cB := by rw [← X.warmed.alike.findClass]; exact h1
  obtain ⟨vm', X', st⟩ := X.checkcastYes hexec hown hlink h2 h4 h1' (by rw [h3]; exact Jvm.Free.SB.assignable_self _ _) hg hstack hdg
  exact ⟨_, X', rfl, fun t h => st t (by rw [← hstack] at h; exact h)⟩
namespace SEq
def yN : MethodName := ⟨"java/lang/String", "equals", "(Ljava/lang/Object;)Z"⟩
abbrev yB : ByteArray := jdk_42_method_66_code
theorem d0 : decode yB 0 = .ok (.aload_n 0, 1) := by decide +kernel
theorem d1 : decode yB 1 = .ok (.aload_n 1, 1) := by decide +kernel
theorem d2 : decode yB 2 = .ok (.if_acmp (.ne) 5, 3) := by decide +kernel
theorem d5 : decode yB 5 = .ok (.iconst 1, 1) := by decide +kernel
theorem d6 : decode yB 6 = .ok (.ireturn, 1) := by decide +kernel
theorem d7 : decode yB 7 = .ok (.aload_n 1, 1) := by decide +kernel
theorem d8 : decode yB 8 = .ok (.instanceof 10, 3) := by decide +kernel
theorem d11 : decode yB 11 = .ok (.ifCond (.eq) 43, 3) := by decide +kernel
theorem d14 : decode yB 14 = .ok (.aload_n 1, 1) := by decide +kernel
theorem d15 : decode yB 15 = .ok (.checkcast 10, 3) := by decide +kernel
theorem d18 : decode yB 18 = .ok (.astore_n 2, 1) := by decide +kernel
theorem d19 : decode yB 19 = .ok (.getstatic 38, 3) := by decide +kernel
theorem d22 : decode yB 22 = .ok (.ifCond (.eq) 14, 3) := by decide +kernel
theorem d25 : decode yB 25 = .ok (.aload_n 0, 1) := by decide +kernel
theorem d26 : decode yB 26 = .ok (.getfield 15, 3) := by decide +kernel
theorem d29 : decode yB 29 = .ok (.aload_n 2, 1) := by decide +kernel
theorem d30 : decode yB 30 = .ok (.getfield 15, 3) := by decide +kernel
theorem d33 : decode yB 33 = .ok (.if_icmp (.ne) 21, 3) := by decide +kernel
theorem d36 : decode yB 36 = .ok (.aload_n 0, 1) := by decide +kernel
theorem d37 : decode yB 37 = .ok (.getfield 9, 3) := by decide +kernel
theorem d40 : decode yB 40 = .ok (.aload_n 2, 1) := by decide +kernel
theorem d41 : decode yB 41 = .ok (.getfield 9, 3) := by decide +kernel
theorem d44 : decode yB 44 = .ok (.invokestatic 541, 3) := by decide +kernel
theorem d47 : decode yB 47 = .ok (.ifCond (.eq) 7, 3) := by decide +kernel
theorem d50 : decode yB 50 = .ok (.iconst 1, 1) := by decide +kernel
theorem d51 : decode yB 51 = .ok (.goto 4, 3) := by decide +kernel
theorem d54 : decode yB 54 = .ok (.iconst 0, 1) := by decide +kernel
theorem d55 : decode yB 55 = .ok (.ireturn, 1) := by decide +kernel
def site : List Cond := [.classLink "java/lang/String" 10 "java/lang/String", .fieldLink "java/lang/String" 38 "java/lang/String" "COMPACT_STRINGS" "Z", .fieldLink "java/lang/String" 15 "java/lang/String" "coder" "B", .fieldLink "java/lang/String" 9 "java/lang/String" "value" "[B", LEq.tab] ++ staticW "java/lang/String" 541 LEq.yN
def tab : Cond := tabOf yN yB 3 (some .boolean) site
def P (x t : Addr) (V : Cell) (cd : Int32) (n : Nat) (f : Nat → Int32) (y t' : Addr) (V' : Cell) (cd' : Int32) (k : Nat) (g : Nat → Int32) (z : Int32) (args : Array Value) (s : State) : Prop := args = #[.ref x, .ref y] ∧ Txt x t V cd n f s ∧ Txt y t' V' cd' k g s ∧ StaticIs s "java/lang/String" "COMPACT_STRINGS" "Z" (.int z) ∧ ¬ z = 0
/-- equals(Object) of two Strings: whether the texts are the same -/
theorem law (l : Launch) (x t : Addr) (V : Cell) (cd : Int32) (n : Nat) (f : Nat → Int32) (y t' : Addr) (V' : Cell) (cd' : Int32) (k : Nat) (g : Nat → Int32) (z : Int32) : Law l yN 2 1 1 14 yB 3 (some .boolean) site (P x t V cd n f y t' V' cd' k g z) (Says01 (SameT n f k g)) [] 0 0 := by
  refine Law.of_walk (plainFor_of_name (by decide +kernel)) (by decide +kernel) (by decide +kernel) (by decide) (fun _ _ h => by rw [h.1]; rfl) (fun _ U U' hal hh h => ⟨h.1, h.2.1.mv hal hh, h.2.2.1.mv hal hh, h.2.2.2.1.there hal hh, h.2.2.2.2⟩) (fun r U U' V V' h1 hal h2 h => Says01.mv r U U' V V' h1 hal h2 h) ?_
  intro p e s m args below meth c s₁ X0 hexec hbytes hml hret hlk hnm hown hh0 W hP
  obtain ⟨rfl, hx, hy, s1, hz⟩ := hP
  have c1 : Steps p.tables e below (s₁.setTop (entryFrame m #[.ref x, .ref y] 3)) (s₁.setTop (mkF m 2 #[.val (.ref x), .val (.ref y), .unset] [.ref y, .ref x])) := Steps.trans (entry rfl) (by
    show Steps p.tables e below (s₁.setTop (mkF m 0 #[.val (.ref x), .val (.ref y), .unset] [])) _
    refine XS.aloadN X0.here hexec rfl (hb hbytes d0) rfl rfl ?_
    refine XS.aloadN X0.here hexec rfl (hb hbytes d1) rfl rfl ?_
    exact Steps.refl _)
  by_cases hxy : x = y
  · have c2 : Steps p.tables e below (s₁.setTop (entryFrame m #[.ref x, .ref y] 3)) (s₁.setTop (mkF m 6 #[.val (.ref x), .val (.ref y), .unset] [.int 1])) := c1.trans (by
      refine acmpNo X0.here hexec rfl (hb hbytes d2) rfl rfl rfl (by simp [acmp, hxy]) ?_
      refine iconstV X0.here hexec rfl 1 (hb hbytes d5) (by decide) ?_
      exact Steps.refl _)
    subst hxy
    have ec : cd = cd' := by
      obtain ⟨D, fd, a1, a2, a3⟩ := hx.2.2.1
      obtain ⟨D', fd', b1, b2, b3⟩ := hy.2.2.1
      cases a1.symm.trans b1
      obtain ⟨q1, q2, q3, q4⟩ := a2.1
      obtain ⟨r1, r2, r3, r4⟩ := b2.1
      cases q4.symm.trans r4
      cases a3.symm.trans b3; rfl
    have et : t = t' := by
      obtain ⟨D, fd, a1, a2, a3⟩ := hx.2.1
      obtain ⟨D', fd', b1, b2, b3⟩ := hy.2.1
      cases a1.symm.trans b1
      obtain ⟨q1, q2, q3, q4⟩ := a2.1
      obtain ⟨r1, r2, r3, r4⟩ := b2.1
      cases q4.symm.trans r4
      cases a3.symm.trans b3; rfl
    subst ec et
    have ev : V = V' := by cases hx.2.2.2.1.1.symm.trans hy.2.2.2.1.1; rfl
    subst ev
    have hs : SameT n f k g := (Cod.eqv hx.2.2.2.2.1 hy.2.2.2.2.1 hx.2.2.2.2.2 hy.2.2.2.2.2).mp ⟨rfl, fun _ _ => rfl⟩
    exact ⟨s₁, some (.int 1), _, _, _, X0, rfl, rfl, rfl, (fun h => by cases h), ⟨1, rfl, hh0, Or.inl ⟨rfl, hs⟩⟩, fun fs hl => c2.trans (X0.ireturnOut hexec hret rfl (Or.inr (Or.inl rfl)) (hb hbytes d6) hl)⟩
  · have c2 : Steps p.tables e below (s₁.setTop (entryFrame m #[.ref x, .ref y] 3)) (s₁.setTop (mkF m 8 #[.val (.ref x), .val (.ref y), .unset] [.ref y])) := c1.trans (by
      refine acmpYes X0.here hexec rfl (pc0 := 2) rfl (hb hbytes d2) rfl rfl rfl (by simp [acmp, hxy]) (by decide) rfl ?_
      refine XS.aloadN X0.here hexec rfl (hb hbytes d7) rfl rfl ?_
      exact Steps.refl _)
    obtain ⟨T3, X3, q3, st3⟩ := cinst X0 hexec hown (wk W (.classLink "java/lang/String" 10 "java/lang/String")) (hy.mv X0.warmed.alike hh0).1 (g := (mkF m 8 #[.val (.ref x), .val (.ref y), .unset] [.ref y])) rfl (rest := []) rfl (hb hbytes d8)
    have hh3 := q3.trans hh0
    have c4 : Steps p.tables e below (s₁.setTop (entryFrame m #[.ref x, .ref y] 3)) (T3.setTop (mkF m 15 #[.val (.ref x), .val (.ref y), .unset] [.ref y])) := (c2.trans (st3 _ (Steps.refl _))).trans (by
      refine XS.ifNo X3.here hexec rfl (hb hbytes d11) rfl (i0_eq_f (by decide)) ?_
      refine XS.aloadN X3.here hexec rfl (hb hbytes d14) rfl rfl ?_
      exact Steps.refl _)
    obtain ⟨T5, X5, q5, st5⟩ := cself X3 hexec hown (wk W (.classLink "java/lang/String" 10 "java/lang/String")) (hy.mv X3.warmed.alike hh3).1 (g := (mkF m 15 #[.val (.ref x), .val (.ref y), .unset] [.ref y])) rfl (rest := []) rfl (hb hbytes d15)
    have hh5 := q5.trans hh3
    have c6 : Steps p.tables e below (s₁.setTop (entryFrame m #[.ref x, .ref y] 3)) (T5.setTop (mkF m 19 #[.val (.ref x), .val (.ref y), .val (.ref y)] [])) := (c4.trans (st5 _ (Steps.refl _))).trans (by
      refine XS.astoreN X5.here hexec rfl (hb hbytes d18) rfl rfl rfl ?_
      exact Steps.refl _)
    obtain ⟨T7, X7, q7, st7⟩ := X5.sget hexec hown (wk W (.fieldLink "java/lang/String" 38 "java/lang/String" "COMPACT_STRINGS" "Z")) s1 (fun _ _ h => by rw [hh5]; exact h) (g := (mkF m 19 #[.val (.ref x), .val (.ref y), .val (.ref y)] [])) rfl (hb hbytes d19)
    have hh7 := q7.trans hh5
    have c8 : Steps p.tables e below (s₁.setTop (entryFrame m #[.ref x, .ref y] 3)) (T7.setTop (mkF m 26 #[.val (.ref x), .val (.ref y), .val (.ref y)] [.ref x])) := (c6.trans (st7 _ (Steps.refl _))).trans (by
      refine XS.ifNo X7.here hexec rfl (hb hbytes d22) rfl (i0_eq_f hz) ?_
      refine XS.aloadN X7.here hexec rfl (hb hbytes d25) rfl rfl ?_
      exact Steps.refl _)
    obtain ⟨T9, X9, q9, st9⟩ := X7.hget hexec hown (wk W (.fieldLink "java/lang/String" 15 "java/lang/String" "coder" "B")) (hx.mv X7.warmed.alike hh7).2.2.1 (g := (mkF m 26 #[.val (.ref x), .val (.ref y), .val (.ref y)] [.ref x])) rfl (rest := []) rfl (hb hbytes d26)
    have hh9 := q9.trans hh7
    have c10 : Steps p.tables e below (s₁.setTop (entryFrame m #[.ref x, .ref y] 3)) (T9.setTop (mkF m 30 #[.val (.ref x), .val (.ref y), .val (.ref y)] [.ref y, .int cd])) := (c8.trans (st9 _ (Steps.refl _))).trans (by
      refine XS.aloadN X9.here hexec rfl (hb hbytes d29) rfl rfl ?_
      exact Steps.refl _)
    obtain ⟨T11, X11, q11, st11⟩ := X9.hget hexec hown (wk W (.fieldLink "java/lang/String" 15 "java/lang/String" "coder" "B")) (hy.mv X9.warmed.alike hh9).2.2.1 (g := (mkF m 30 #[.val (.ref x), .val (.ref y), .val (.ref y)] [.ref y, .int cd])) rfl (rest := [.int cd]) rfl (hb hbytes d30)
    have hh11 := q11.trans hh9
    have c12 : Steps p.tables e below (s₁.setTop (entryFrame m #[.ref x, .ref y] 3)) (T11.setTop (mkF m 33 #[.val (.ref x), .val (.ref y), .val (.ref y)] [.int cd', .int cd])) := c10.trans (st11 _ (Steps.refl _))
    by_cases hcd : cd = cd'
    · subst hcd
      have c13 : Steps p.tables e below (s₁.setTop (entryFrame m #[.ref x, .ref y] 3)) (T11.setTop (mkF m 37 #[.val (.ref x), .val (.ref y), .val (.ref y)] [.ref x])) := c12.trans (by
        refine XS.icmpNo X11.here hexec rfl (hb hbytes d33) rfl (ii_ne_f rfl) ?_
        refine XS.aloadN X11.here hexec rfl (hb hbytes d36) rfl rfl ?_
        exact Steps.refl _)
      obtain ⟨T14, X14, q14, st14⟩ := X11.hget hexec hown (wk W (.fieldLink "java/lang/String" 9 "java/lang/String" "value" "[B")) (hx.mv X11.warmed.alike hh11).2.1 (g := (mkF m 37 #[.val (.ref x), .val (.ref y), .val (.ref y)] [.ref x])) rfl (rest := []) rfl (hb hbytes d37)
      have hh14 := q14.trans hh11
      have c15 : Steps p.tables e below (s₁.setTop (entryFrame m #[.ref x, .ref y] 3)) (T14.setTop (mkF m 41 #[.val (.ref x), .val (.ref y), .val (.ref y)] [.ref y, .ref t])) := (c13.trans (st14 _ (Steps.refl _))).trans (by
        refine XS.aloadN X14.here hexec rfl (hb hbytes d40) rfl rfl ?_
        exact Steps.refl _)
      obtain ⟨T16, X16, q16, st16⟩ := X14.hget hexec hown (wk W (.fieldLink "java/lang/String" 9 "java/lang/String" "value" "[B")) (hy.mv X14.warmed.alike hh14).2.1 (g := (mkF m 41 #[.val (.ref x), .val (.ref y), .val (.ref y)] [.ref y, .ref t])) rfl (rest := [.ref t]) rfl (hb hbytes d41)
      have hh16 := q16.trans hh14
      have c17 : Steps p.tables e below (s₁.setTop (entryFrame m #[.ref x, .ref y] 3)) (T16.setTop (mkF m 44 #[.val (.ref x), .val (.ref y), .val (.ref y)] [.ref t', .ref t])) := c15.trans (st16 _ (Steps.refl _))
      obtain ⟨v18, T18, X18, E18, g18⟩ := X16.callS hexec (LEq.law l t V t' V') hown (wks W (staticW "java/lang/String" 541 LEq.yN)) (wk W LEq.tab) (W := 0) (Nat.le_of_ble_eq_true rfl) (Nat.le_of_ble_eq_true rfl) (Nat.le_refl _) (Nat.le_refl _) (g := (mkF m 44 #[.val (.ref x), .val (.ref y), .val (.ref y)] [.ref t', .ref t])) rfl (by rw [hml]; rfl) c17 (argsL := [.ref t, .ref t']) (rest := []) rfl rfl (by show 2 * 0 + 0 ≤ _; decide) (hb hbytes d44) (⟨rfl, hx.2.2.2.1.mv X16.warmed.alike hh16, hx.2.2.2.2.1.ty, hy.2.2.2.1.mv X16.warmed.alike hh16, hy.2.2.2.2.1.ty⟩)
      obtain ⟨v, rfl, q18, hv⟩ := E18
      have iff := Cod.eqv hx.2.2.2.2.1 hy.2.2.2.2.1 hx.2.2.2.2.2 hy.2.2.2.2.2
      rcases hv with ⟨rfl, he⟩ | ⟨rfl, he⟩
      · have c19 : Steps p.tables e below (s₁.setTop (entryFrame m #[.ref x, .ref y] 3)) (T18.setTop (mkF m 55 #[.val (.ref x), .val (.ref y), .val (.ref y)] [.int 1])) := Steps.trans g18 (by
          refine XS.ifNo X18.here hexec rfl (hb hbytes d47) rfl (i0_eq_f (by decide)) ?_
          refine iconstV X18.here hexec rfl 1 (hb hbytes d50) (by decide) ?_
          refine XS.goto X18.here hexec rfl (pc0 := 51) rfl (hb hbytes d51) (by decide) rfl ?_
          exact Steps.refl _)
        exact ⟨T18, some (.int 1), _, _, _, X18, rfl, rfl, rfl, (fun h => by cases h), ⟨1, rfl, q18.trans hh16, Or.inl ⟨rfl, iff.mp he⟩⟩, fun fs hl => c19.trans (X18.ireturnOut hexec hret rfl (Or.inr (Or.inl rfl)) (hb hbytes d55) hl)⟩
      · have c19 : Steps p.tables e below (s₁.setTop (entryFrame m #[.ref x, .ref y] 3)) (T18.setTop (mkF m 55 #[.val (.ref x), .val (.ref y), .val (.ref y)] [.int 0])) := Steps.trans g18 (by
          refine XS.ifYes X18.here hexec rfl (pc0 := 47) rfl (hb hbytes d47) rfl (i0_eq_t rfl) (by decide) rfl ?_
          refine iconstV X18.here hexec rfl 0 (hb hbytes d54) (by decide) ?_
          exact Steps.refl _)
        exact ⟨T18, some (.int 0), _, _, _, X18, rfl, rfl, rfl, (fun h => by cases h), ⟨0, rfl, q18.trans hh16, Or.inr ⟨rfl, fun q => he (iff.mpr q)⟩⟩, fun fs hl => c19.trans (X18.ireturnOut hexec hret rfl (Or.inr (Or.inl rfl)) (hb hbytes d55) hl)⟩
    · have c13 : Steps p.tables e below (s₁.setTop (entryFrame m #[.ref x, .ref y] 3)) (T11.setTop (mkF m 55 #[.val (.ref x), .val (.ref y), .val (.ref y)] [.int 0])) := c12.trans (by
        refine XS.icmpYes X11.here hexec rfl (pc0 := 33) rfl (hb hbytes d33) rfl (ii_ne_t hcd) (by decide) rfl ?_
        refine iconstV X11.here hexec rfl 0 (hb hbytes d54) (by decide) ?_
        exact Steps.refl _)
      exact ⟨T11, some (.int 0), _, _, _, X11, rfl, rfl, rfl, (fun h => by cases h), ⟨0, rfl, hh11, Or.inr ⟨rfl, Cod.dif hx.2.2.2.2.1 hy.2.2.2.2.1 hcd⟩⟩, fun fs hl => c13.trans (X11.ireturnOut hexec hret rfl (Or.inr (Or.inl rfl)) (hb hbytes d55) hl)⟩
theorem pays {l : Launch} {R : Room} {p : Program} {e : Env} {below : List Frame} {s : State} {sargs : Array Value} {len W : Nat} (x t : Addr) (V : Cell) (cd : Int32) (n : Nat) (f : Nat → Int32) (y t' : Addr) (V' : Cell) (cd' : Int32) (k : Nat) (g : Nat → Int32) (z : Int32) (htab : tab.before sargs s = true) (hfr : 2 ≤ R.frames) (hlo : W + 28 ≤ R.locals) :
    Back l R p e below s sargs yN len W (fun A₁ a₁ => A₁.cells + 0 ≤ R.cells ∧ A₁.slots + 0 ≤ R.slots ∧ P x t V cd n f y t' V' cd' k g z a₁ A₁.U) (fun A₁ _ v₁ B₁ => Says01 (SameT n f k g) v₁ A₁.U B₁.U ∧ B₁.locs = A₁.locs ++ [] ∧ B₁.cells = A₁.cells + 0 ∧ B₁.slots = A₁.slots + 0) :=
  (law l x t V cd n f y t' V' cd' k g z).pays htab hfr (by omega)
end SEq
end StrChars
namespace StrChars.Road
open Jvm Sem ClassFile Op Lib Jvm.Stand Jvm.Free Jvm.Free.XT
open Jvm.Lib.Cold (StaticIs)
/-- the words of String.equals(Object) -/
abbrev wordsEq : List Jvm.Cond := [.code SEq.yN SEq.yB 3 (some .boolean), .initialized ST, .classLink ST 10 ST, .fieldLink ST 38 ST "COMPACT_STRINGS" "Z", .fieldLink ST 15 ST "coder" "B", .fieldLink ST 9 ST "value" "[B", .methodLink ST 541 LEq.yN, .static LEq.yN, .code LEq.yN LEq.yB 3 (some .boolean), .initialized "java/lang/StringLatin1"]
theorem tabEq_of {a : Array Value} {s : State} (h : ∀ w ∈ wordsEq, w.before a s = true) : SEq.tab.before a s = true := by
  have hl : LEq.tab.before a s = true := unparts (wk h (.code LEq.yN LEq.yB 3 (some .boolean))) (wks h (.initialized LEq.yN.cls :: LEq.site))
  have q := consq hl h
  exact unparts (wk q (.code SEq.yN SEq.yB 3 (some .boolean))) (wks q (.initialized SEq.yN.cls :: SEq.site))
theorem movedEq {Z s : State} {a0 args : Array Value} (hZ : Z.Warmed39 s.vm) (hw : ∀ d ∈ wordsEq, d.before a0 Z = true) : ∀ d ∈ wordsEq, d.before args s = true := fun d hd => by
  have t : ∀ d ∈ wordsEq, (d.onTables && d.keepsFace) = true := by decide +kernel
  exact RoadKit.mv hZ (hw d hd) (t d hd)
/-- the road's facts of a String, as the laws ask it -/
theorem txt_of {Z U : State} {a0 : Array Value} {kI : Nat} (wi : (Jvm.Cond.instantiable ST kI).before a0 Z = true) (al : Z.vm.Alike U.vm) {x t : Addr} {kb : ClassId} {cs : List Int32} {cd N2 : Int32} {vs : List Value} (E : RoadKit.Exa Z U.heap x ST) (V : RoadKit.Fld Z U.heap x ST "value" "[B" (.ref t)) (C : RoadKit.Fld Z U.heap x ST "coder" "B" (.int cd)) (K : RoadKit.Arv Z U.heap t kb .byte N2 vs (.int 0)) (hc : CodA cs cd N2 vs) (hb : ∀ c ∈ cs, ¬ c < 0 ∧ ¬ (65535 : Int32) < c) (l2 : cs.length ≤ 4000) :
    ∃ A, Txt x t A cd cs.length (fun j => cs.getD j 0) U := by
  obtain ⟨A, K1, K2, K3, K4, K5, K6⟩ := K
  have hcod := hc.cod (by omega) K3 K5
  obtain ⟨D, fV, fC, hB, F1, F2, g1, g2, -, -⟩ := strObj wi al E V C
  exact ⟨A, ⟨_, hB.2.2.1, D, hB.1, rfl, by cases q : D.vm <;> first | rfl | exact absurd q (hB.2.1.2 _)⟩, Has.of hB F1 g1, Has.of hB F2 g2, ⟨K1.1, State.isArrayOf_alike al K1.2.1, K1.2.2, by rcases hcod with ⟨-, q, -⟩ | ⟨-, q, -⟩ <;> omega⟩, hcod, fun j hj => by
    have e : cs.getD j 0 = cs[j] := by simp [List.getD_eq_getElem?_getD, hj]
    show ¬ cs.getD j 0 < 0 ∧ ¬ 65535 < cs.getD j 0
    rw [e]; exact hb _ (List.getElem_mem _)⟩
theorem same_list (cs ds : List Int32) : SameT cs.length (fun j => cs.getD j 0) ds.length (fun j => ds.getD j 0) ↔ cs = ds := by
  constructor
  · rintro ⟨e, q⟩
    refine List.ext_getElem e fun j h1 h2 => ?_
    have := q j h1
    simpa [List.getD_eq_getElem?_getD, h1, h2] using this
  · rintro rfl
    exact ⟨rfl, fun _ _ => rfl⟩
/-- **equals(Object) OF TWO SUCH STRINGS**: 1 just where the chars are the same -/
theorem eqW {p : Program} {l : Launch} {e : Env} {R : Room} {s : State} {args : Array Value} {below : List Frame} {len W : Nat} {Z : State} {a0 : Array Value} {h : Heap} (hZ : Z.Warmed39 s.vm) (hw : ∀ d ∈ wordsEq, d.before a0 Z = true) {kI : Nat} (wi : (Jvm.Cond.instantiable ST kI).before a0 Z = true)
    {x t : Addr} {kb : ClassId} {cs : List Int32} {cd N2 : Int32} {vs : List Value} (E : RoadKit.Exa Z h x ST) (V : RoadKit.Fld Z h x ST "value" "[B" (.ref t)) (C : RoadKit.Fld Z h x ST "coder" "B" (.int cd)) (K : RoadKit.Arv Z h t kb .byte N2 vs (.int 0)) (hc : CodA cs cd N2 vs) (hb : ∀ c ∈ cs, ¬ c < 0 ∧ ¬ (65535 : Int32) < c) (l2 : cs.length ≤ 4000)
    {y t' : Addr} {kb' : ClassId} {ds : List Int32} {cd' N2' : Int32} {vs' : List Value} (E' : RoadKit.Exa Z h y ST) (V' : RoadKit.Fld Z h y ST "value" "[B" (.ref t')) (C' : RoadKit.Fld Z h y ST "coder" "B" (.int cd')) (K' : RoadKit.Arv Z h t' kb' .byte N2' vs' (.int 0)) (hc' : CodA ds cd' N2' vs') (hb' : ∀ c ∈ ds, ¬ c < 0 ∧ ¬ (65535 : Int32) < c) (l2' : ds.length ≤ 4000)
    {z : Int32} (S : RoadKit.Sta Z h ST "COMPACT_STRINGS" "Z" (.int z)) (hz : ¬ z = 0) (hfr : 2 ≤ R.frames) (hlo : W + 28 ≤ R.locals) :
    Back l R p e below s args (⟨"java/lang/String", "equals", "(Ljava/lang/Object;)Z"⟩ : MethodName) len W (fun P a => a = #[.ref x, .ref y] ∧ P.U.heap = h ∧ P.cells + 0 ≤ R.cells ∧ P.slots + 0 ≤ R.slots)
      (fun P _ v B => ∃ L, (((v = some (.int 1) ∧ cs = ds) ∨ (v = some (.int 0) ∧ ¬ cs = ds)) ∧ L = [] ∧ B.U.heap = h) ∧ B.locs = P.locs ++ L ∧ B.cells = P.cells + 0 ∧ B.slots = P.slots + 0) := by
  intro m meth c P g ig mk a X hg hsize hdg hW hn hp'
  obtain ⟨rfl, rfl, r1, r2⟩ := hp'
  have al : Z.vm.Alike P.U.vm := hZ.alike.trans X.warmed.alike
  obtain ⟨A, hx⟩ := txt_of wi al E V C K hc hb l2
  obtain ⟨A', hy⟩ := txt_of wi al E' V' C' K' hc' hb' l2'
  obtain ⟨v, B, X', ⟨⟨w, hv, hh, hq⟩, hl, hk, hs⟩, st⟩ := SEq.pays x t A cd cs.length (fun j => cs.getD j 0) y t' A' cd' ds.length (fun j => ds.getD j 0) z (tabEq_of (movedEq hZ hw)) hfr hlo m meth c P g ig mk _ X hg hsize hdg hW hn ⟨r1, r2, rfl, hx, hy, sta_is al S, hz⟩
  refine ⟨v, B, X', ⟨[], ⟨?_, rfl, hh⟩, hl, hk, hs⟩, st⟩
  rcases hq with ⟨rfl, q⟩ | ⟨rfl, q⟩
  · exact Or.inl ⟨hv, (same_list cs ds).mp q⟩
  · exact Or.inr ⟨hv, fun e => q ((same_list cs ds).mpr e)⟩
end StrChars.Road
namespace StrChars.Road
open Jvm Sem ClassFile Op Lib Jvm.Stand Jvm.Free Jvm.Free.XT
open Jvm.Lib.Cold (StaticIs)
/-- what backV says of its String, as the contracts of this text ask it: cs's low bytes, coder 0 -/
theorem codOf {cs : List Int32} {n : Nat} (hn : cs.length = n) (hb : ∀ c ∈ cs, ¬ 255 < c) : CodA cs 0 (Int32.ofNat n) ((cs.map lo8).map Value.int) := Or.inl ⟨rfl, by rw [hn], by simp [List.map_map, Function.comp_def], hb⟩
end StrChars.Road
end Jvm.Pilot.@@N@@
namespace Jvm.RoadKit
open Sem ClassFile Op Lib Jvm.Stand Jvm.Free Jvm.LawKit
section New
variable {p : Program} {l : Launch} {e : Env} {R : Room} {s : State} {m : MethodId} {args : Array Value} {below : List Frame} {meth : Method} {c : Code} {T : State} {locs : List Loc} {cells slots : Nat}
theorem retI (X : Stand p l e R s m args below meth c T locs cells slots) (hx : p.tables.exec = Jvm.exec) {pc : Nat} {Ls : Array Slot} {z : Int32} {rest : List Value} (hret : meth.sig.returnType = some .int) (hd : decode c.code pc = .ok (.ireturn, 1)) {fs : List Frame}
    (hl : ∀ (f : JFrame) (acts : List Action), f.method = m → f.locked = none → f.entered = [] → (doReturn e (T.setTop f) acts (some (.int z))).1 = T.setFrames fs) : Steps p.tables e below (T.setTop (mkF m pc Ls (.int z :: rest))) (T.setFrames fs) :=
  retOut X hx hret rfl (Or.inl ⟨rfl, Or.inl rfl, _, rfl⟩) hd hl
end New
end Jvm.RoadKit
namespace Jvm.Pilot.@@N@@
open Jvm Jvm.ClassFile Sem Op Lib Jvm.Free Jvm.Stand Jvm.LawKit Jvm.RoadKit Bundle Jvm.Pilot.@@N@@.Jvm.D
section Own
variable {p : Program} {l : Launch} {e : Env} {R : Room} {s : State} {m : MethodId} {args : Array Value} {below : List Frame} {meth : Method} {c : Code} {T : State} {locs : List Loc} {cells slots : Nat}
/-- from this state the invocation comes to its end, and Q holds there -/
def GoOn (p : Program) (e : Env) (below : List Frame) (S : State) (Q : Outcome → State → Prop) : Prop := ∃ s₂ o, Steps p.tables e below S s₂ ∧ s₂.status = .running ∧ Ended s₂ below o ∧ Q o s₂
theorem GoOn.step {S S' : State} {Q : Outcome → State → Prop} (h : ∀ t, Steps p.tables e below S' t → Steps p.tables e below S t) (k : GoOn p e below S' Q) : GoOn p e below S Q := by
  obtain ⟨s2, o, h1, h2, h3, h4⟩ := k
  exact ⟨s2, o, h _ h1, h2, h3, h4⟩
theorem GoOn.trans {S S' : State} {Q : Outcome → State → Prop} (h : Steps p.tables e below S S') (k : GoOn p e below S' Q) : GoOn p e below S Q := GoOn.step (fun _ q => Steps.trans h q) k
def PostN (s : State) (Qp : Option Value → Heap → List Loc → Prop) (k n : Nat) (o : Outcome) (U' : State) : Prop := ∃ v L, o = .returned v ∧ Qp v U'.heap L ∧ FrameEnd s o U' L k n
def PostW (s : State) (Qp : Option Value → Heap → List Loc → Prop) (k n : Nat) (o : Outcome) (U' : State) : Prop := ∃ v L, o = .returned v ∧ Qp v U'.heap L ∧ ReturnedEndW s o U' L k n
theorem GoOn.ret (X : Stand p l e R s m args below meth c T locs cells slots) (hlk : meth.locks = false) {v : Option Value} (hv : meth.sig.returnType = none → v = none) {S : State}
    (st : ∀ fs, (∀ (f : JFrame) (acts : List Action), f.method = m → f.locked = none → f.entered = [] → (doReturn e (T.setTop f) acts v).1 = T.setFrames fs) → Steps p.tables e below S (T.setFrames fs)) {k n : Nat} (hk : cells ≤ k) (hn : slots ≤ n)
    {Qp : Option Value → Heap → List Loc → Prop} (q : Qp v T.heap locs) : GoOn p e below S (PostN s Qp k n) := by
  obtain ⟨fs, hr, hrun, hended, hW, hsame⟩ := X.leave hv hlk
  exact ⟨_, _, st fs hr, hrun, hended, v, _, rfl, q, ⟨_, rfl⟩, hW, hsame.mono hk hn⟩
theorem GoOn.retW {vm1 : Vm} {k1 : Nat} (X : Stand p l e R (s.setVm vm1) m args below meth c T locs cells slots) (hS : s.Since vm1 k1) (h1 : k1 ≤ T.heap.size) (hlk : meth.locks = false) {v : Option Value} (hv : meth.sig.returnType = none → v = none) {S : State}
    (st : ∀ fs, (∀ (f : JFrame) (acts : List Action), f.method = m → f.locked = none → f.entered = [] → (doReturn e (T.setTop f) acts v).1 = T.setFrames fs) → Steps p.tables e below S (T.setFrames fs)) {k n : Nat} (hk : cells ≤ k) (hn : slots ≤ n)
    {Qp : Option Value → Heap → List Loc → Prop} (q : Qp v T.heap locs) : GoOn p e below S (PostW s Qp k n) := by
  obtain ⟨fs, hr, hrun, hended, h4, h5, h6, h7⟩ := X.leaveW hS h1 hv hlk
  exact ⟨_, _, st fs hr, hrun, hended, v, _, rfl, q, h4, h5, h6, h7.mono hk hn⟩
def PostH (Z : State) (EL : List (String × Nat)) (s : State) (Qp : Option Value → Heap → List Loc → Prop) (k n : Nat) (o : Outcome) (U' : State) : Prop := ∃ v L, o = .returned v ∧ Qp v U'.heap L ∧ CHr Z EL s.vm s.heap U'.vm U'.heap ∧ ReturnedEndW s o U' L k n
theorem GoOn.retH {Z : State} {a0 : Array Value} {EL : List (String × Nat)} {h0 h : Heap} {vm1 : Vm} {k1 : Nat} (X : Stand p l e R (s.setVm vm1) m args below meth c T locs cells slots) (hZ : Z.Warmed39 (s.setVm vm1).vm) (hS : s.Since vm1 k1) (h1 : k1 ≤ h.size) (hEL : EW Z a0 EL) (hh : s.heap = h0) (eT : T.heap = h) (C : CHr Z EL s.vm h0 vm1 h) (hlk : meth.locks = false) {v : Option Value} (hv : meth.sig.returnType = none → v = none) {S : State}
    (st : ∀ fs, (∀ (f : JFrame) (acts : List Action), f.method = m → f.locked = none → f.entered = [] → (doReturn e (T.setTop f) acts v).1 = T.setFrames fs) → Steps p.tables e below S (T.setFrames fs)) {k n : Nat} (hk : cells ≤ k) (hn : slots ≤ n)
    {Qp : Option Value → Heap → List Loc → Prop} (q : Qp v h locs) : GoOn p e below S (PostH Z EL s Qp k n) := by
  subst hh eT
  obtain ⟨fs, hr, hrun, hended, h4, h5, h6, h7⟩ := X.leaveW hS h1 hv hlk
  have q2 := CHr.trans C (CHv.at X hZ hEL C.1)
  exact ⟨_, _, st fs hr, hrun, hended, v, _, rfl, q, q2, h4, h5, h6, h7.mono hk hn⟩
theorem Safe.arv {Z : State} {EL : List (String × Nat)} {vm : Vm} {h : Heap} {x : Addr} {kc : ClassId} {ty : FieldType} {z : Int32} {vs : List Value} {dv : Value} (hal : Z.vm.Alike vm) (V : Arv Z h x kc ty z vs dv) (ht : ty ≠ .byte) : Safe Z EL vm h x := by
  obtain ⟨cl, A, -⟩ := V
  exact Safe.arr hal A ht
theorem Safe.ofNull {Z : State} {EL : List (String × Nat)} {vm : Vm} {h : Heap} {x : Addr} (hal : Z.vm.Alike vm) (E : Exa Z h x "java/lang/String") (F : Fld Z h x "java/lang/String" "value" "[B" .null) : Safe Z EL vm h x := fun B => by
  obtain ⟨p, -, u, a, -, q, -, S, rfl | rfl⟩ := B
  · obtain ⟨cell, cf, k, i, f, h1, h2, h3, -, -, -, h7⟩ := F
    cases (show h[q.sa]? = some q.sC from S.ha).symm.trans h1
    obtain ⟨cS, ⟨⟨-, -, -, ⟨c1, k1, i1, f1, -⟩, -, -, -, v1, -⟩, -⟩, -⟩ := S
    obtain ⟨k3, e3, -⟩ := State.fieldFound?_setVm (s := Z) hal h2
    have e4 := (show (Wst Z vm h).fieldFound? _ _ _ = _ from e3).symm.trans f1
    simp only [Option.some.injEq, Prod.mk.injEq] at e4
    rw [← e4.2.2.2, h7] at v1
    cases v1
  · obtain ⟨cell, k, e1, e2, e3, -, -⟩ := E
    cases (show h[q.sd]? = some q.SA from S.hd).symm.trans e1
    obtain ⟨cS, -, -, f, -⟩ := S
    rw [show (Wst Z vm h).vm = vm from rfl, hal.findClass] at f
    obtain ⟨k1, q1, q2⟩ := Vm.findClass_spec f
    obtain ⟨k2, q3, q4⟩ := Vm.findClass_spec e2
    cases q1.symm.trans q3
    exact absurd (q2.symm.trans q4) (by decide)
theorem alenA {Z : State} {h : Heap} (X : Stand p l e R s m args below meth c T locs cells slots) (hx : p.tables.exec = Jvm.exec) (hZ : Z.Warmed39 s.vm) (eT : T.heap = h) {a : Addr} {k : ClassId} {ty : FieldType} {z : Int32} {vs : List Value} {d : Value} (V : Arv Z h a k ty z vs d) {g : JFrame} (hg : g.method = m) {rest : List Value} (hs : g.stack = .ref a :: rest) (hd : decode c.code g.pc = .ok (.arraylength, 1)) :
    ∀ target, Steps p.tables e below (T.setTop { g with pc := g.pc + 1, stack := .int z :: rest }) target → Steps p.tables e below (T.setTop g) target := fun t q => by
  obtain ⟨cl, A, -, S, M, -, -⟩ := V
  exact X.arraylength hx (by rw [eT]; exact A.1) (State.isArrayOf_alike hZ.alike A.2.1) hg hs hd t (by rw [len_of S M]; exact q)
theorem refCat {v : Value} (h : v.isRef = true) : v.category = 1 := by rcases ref_cases h with rfl | ⟨_, rfl⟩ <;> rfl
theorem own_catR (a : Addr) : (Value.ref a).category = 1 := rfl
theorem own_catI (a : Int32) : (Value.int a).category = 1 := rfl
theorem own_catJ (a : Int64) : (Value.long a).category = 2 := rfl
theorem own_catN : Value.null.category = 1 := rfl
theorem narRef {v : Value} (h : v.isRef = true) {t : FieldType} : narrow t v = v := by rcases ref_cases h with rfl | ⟨_, rfl⟩ <;> cases t <;> rfl
theorem fitRef {v : Value} (h : v.isRef = true) {C : String} : fits (.object C) v = true := by rcases ref_cases h with rfl | ⟨_, rfl⟩ <;> rfl
end Own
end Jvm.Pilot.@@N@@
namespace Jvm.Pilot.@@N@@
open Jvm Jvm.ClassFile Sem Op Lib Jvm.Free Jvm.Stand Jvm.LawKit Jvm.RoadKit Bundle Jvm.Pilot.@@N@@.Jvm.D
theorem and255_chars (n : Int32) : ¬ nar .char ((n &&& (255 : Int32)).toUInt32.toUInt16.toUInt32.toInt32) < 0 ∧ ¬ (255 : Int32) < nar .char ((n &&& (255 : Int32)).toUInt32.toUInt16.toUInt32.toInt32) := by
  have h1 := c_mask n 255 8 (by decide) (by decide)
  have h2 := c_i2c (n &&& (255 : Int32))
  have h3 : nar .char ((n &&& (255 : Int32)).toUInt32.toUInt16.toUInt32.toInt32) = ((n &&& (255 : Int32)).toUInt32.toUInt16.toUInt32.toInt32) := by simp only [nar, UInt32.toUInt32_toInt32, UInt16.toUInt16_toUInt32]
  rw [h3, Int32.lt_iff_toInt_lt, Int32.lt_iff_toInt_lt]
  have e0 : (0 : Int32).toInt = 0 := rfl
  have e1 : (255 : Int32).toInt = 255 := rfl
  rw [e0, e1]
  have e2 : ((2 ^ 8 : Nat) : Int) = 256 := rfl
  rw [e2] at h1
  omega
set_option maxHeartbeats 4000000 in
theorem own_ef0 (m : MethodId) (x0 : Addr) (x1 : Addr) (x2 : Int32) (x3 : Int32) : entryFrame m #[(.ref x0), (.ref x1), (.int x2), (.int x3), .null] 6 = mkF m 0 #[.val (.ref x0), .val (.ref x1), .val (.int x2), .val (.int x3), .val .null, .unset] [] := by first | rfl | (simp [entryFrame, mkF, argsToLocals, Value.category]; done)
theorem own_pn1 : plainName "java/lang/String" = true := by first | (simp [plainName, overriddenIn]; done) | decide +kernel
theorem own_d2 : decode jdk_42_method_149_code 0 = .ok (.aload_n 0, 1) := by decide +kernel
theorem own_d3 : decode jdk_42_method_149_code 1 = .ok (.invokespecial 1, 3) := by decide +kernel
theorem own_d4 : decode jdk_42_method_149_code 4 = .ok (.iload_n 3, 1) := by decide +kernel
theorem own_d5 : decode jdk_42_method_149_code 5 = .ok (.ifCond .ne 22, 3) := by decide +kernel
theorem own_d6 : decode jdk_42_method_149_code 8 = .ok (.aload_n 0, 1) := by decide +kernel
theorem own_d7 : decode jdk_42_method_149_code 9 = .ok (.ldc 7, 2) := by decide +kernel
theorem own_d8 : decode jdk_42_method_149_code 11 = .ok (.getfield 9, 3) := by decide +kernel
theorem own_d9 : decode jdk_42_method_149_code 14 = .ok (.putfield 9, 3) := by decide +kernel
theorem own_d10 : decode jdk_42_method_149_code 17 = .ok (.aload_n 0, 1) := by decide +kernel
theorem own_d11 : decode jdk_42_method_149_code 18 = .ok (.ldc 7, 2) := by decide +kernel
theorem own_d12 : decode jdk_42_method_149_code 20 = .ok (.getfield 15, 3) := by decide +kernel
theorem own_d13 : decode jdk_42_method_149_code 23 = .ok (.putfield 15, 3) := by decide +kernel
theorem own_d14 : decode jdk_42_method_149_code 26 = .ok (.return_, 1) := by decide +kernel
set_option maxHeartbeats 4000000 in
theorem own_ef15 (m : MethodId) (x0 : Addr) (x1 : Addr) : entryFrame m #[(.ref x0), (.ref x1)] 2 = mkF m 0 #[.val (.ref x0), .val (.ref x1)] [] := by first | rfl | (simp [entryFrame, mkF, argsToLocals, Value.category]; done)
theorem own_d16 : decode jdk_42_method_3_code 0 = .ok (.aload_n 0, 1) := by decide +kernel
theorem own_d17 : decode jdk_42_method_3_code 1 = .ok (.aload_n 1, 1) := by decide +kernel
theorem own_d18 : decode jdk_42_method_3_code 2 = .ok (.iconst 0, 1) := by decide +kernel
theorem own_d19 : decode jdk_42_method_3_code 3 = .ok (.aload_n 1, 1) := by decide +kernel
theorem own_d20 : decode jdk_42_method_3_code 4 = .ok (.arraylength, 1) := by decide +kernel
theorem own_d21 : decode jdk_42_method_3_code 5 = .ok (.aconst_null, 1) := by decide +kernel
theorem own_d22 : decode jdk_42_method_3_code 6 = .ok (.invokespecial 27, 3) := by decide +kernel
theorem own_pd23 : parseMethodDescriptor "([CIILjava/lang/Void;)V" = some ⟨[(.array .char), .int, .int, (.object "java/lang/Void")], none⟩ := by decide +kernel
theorem own_d24 : decode jdk_42_method_3_code 9 = .ok (.return_, 1) := by decide +kernel
set_option maxHeartbeats 4000000 in
theorem own_ef25 (m : MethodId) (x0 : Int32) : entryFrame m #[(.int x0)] 5 = mkF m 0 #[.val (.int x0), .unset, .unset, .unset, .unset] [] := by first | rfl | (simp [entryFrame, mkF, argsToLocals, Value.category]; done)
theorem own_pn26 : plainName "com/example/patokan/patokan/core/TagEqualsPinLaw" = true := by first | (simp [plainName, overriddenIn]; done) | decide +kernel
theorem own_d27 : decode method_2_code 0 = .ok (.iload_n 0, 1) := by decide +kernel
theorem own_d28 : decode method_2_code 1 = .ok (.iconst 3, 1) := by decide +kernel
theorem own_d29 : decode method_2_code 2 = .ok (.iand, 1) := by decide +kernel
theorem own_d30 : decode method_2_code 3 = .ok (.istore_n 1, 1) := by decide +kernel
theorem own_d31 : decode method_2_code 4 = .ok (.iload_n 0, 1) := by decide +kernel
theorem own_d32 : decode method_2_code 5 = .ok (.iconst 2, 1) := by decide +kernel
theorem own_d33 : decode method_2_code 6 = .ok (.iushr, 1) := by decide +kernel
theorem own_d34 : decode method_2_code 7 = .ok (.sipush 255, 3) := by decide +kernel
theorem own_d35 : decode method_2_code 10 = .ok (.iand, 1) := by decide +kernel
theorem own_d36 : decode method_2_code 11 = .ok (.i2c, 1) := by decide +kernel
theorem own_d37 : decode method_2_code 12 = .ok (.istore_n 2, 1) := by decide +kernel
theorem own_d38 : decode method_2_code 13 = .ok (.iload_n 0, 1) := by decide +kernel
theorem own_d39 : decode method_2_code 14 = .ok (.bipush 10, 2) := by decide +kernel
theorem own_d40 : decode method_2_code 16 = .ok (.iushr, 1) := by decide +kernel
theorem own_d41 : decode method_2_code 17 = .ok (.sipush 255, 3) := by decide +kernel
theorem own_d42 : decode method_2_code 20 = .ok (.iand, 1) := by decide +kernel
theorem own_d43 : decode method_2_code 21 = .ok (.i2c, 1) := by decide +kernel
theorem own_d44 : decode method_2_code 22 = .ok (.istore_n 3, 1) := by decide +kernel
theorem own_d45 : decode method_2_code 23 = .ok (.iload_n 0, 1) := by decide +kernel
theorem own_d46 : decode method_2_code 24 = .ok (.bipush 18, 2) := by decide +kernel
theorem own_d47 : decode method_2_code 26 = .ok (.iushr, 1) := by decide +kernel
theorem own_d48 : decode method_2_code 27 = .ok (.sipush 255, 3) := by decide +kernel
theorem own_d49 : decode method_2_code 30 = .ok (.iand, 1) := by decide +kernel
theorem own_d50 : decode method_2_code 31 = .ok (.i2c, 1) := by decide +kernel
theorem own_d51 : decode method_2_code 32 = .ok (.istore 4, 2) := by decide +kernel
theorem own_d52 : decode method_2_code 34 = .ok (.iload_n 1, 1) := by decide +kernel
theorem own_d53 : decode method_2_code 35 = .ok (.ifCond .ne 14, 3) := by decide +kernel
theorem own_d54 : decode method_2_code 38 = .ok (.new 7, 3) := by decide +kernel
theorem own_d55 : decode method_2_code 41 = .ok (.dup, 1) := by decide +kernel
theorem own_d56 : decode method_2_code 42 = .ok (.iconst 0, 1) := by decide +kernel
theorem own_d57 : decode method_2_code 43 = .ok (.newarray .char, 2) := by decide +kernel
theorem own_d58 : decode method_2_code 45 = .ok (.invokespecial 9, 3) := by decide +kernel
theorem own_pd59 : parseMethodDescriptor "([C)V" = some ⟨[(.array .char)], none⟩ := by decide +kernel
theorem own_d60 : decode method_2_code 48 = .ok (.areturn, 1) := by decide +kernel
theorem own_d61 : decode method_2_code 49 = .ok (.iload_n 1, 1) := by decide +kernel
theorem own_d62 : decode method_2_code 50 = .ok (.iconst 1, 1) := by decide +kernel
theorem own_d63 : decode method_2_code 51 = .ok (.if_icmp .ne 18, 3) := by decide +kernel
theorem own_d64 : decode method_2_code 54 = .ok (.new 7, 3) := by decide +kernel
theorem own_d65 : decode method_2_code 57 = .ok (.dup, 1) := by decide +kernel
theorem own_d66 : decode method_2_code 58 = .ok (.iconst 1, 1) := by decide +kernel
theorem own_d67 : decode method_2_code 59 = .ok (.newarray .char, 2) := by decide +kernel
theorem own_d68 : decode method_2_code 61 = .ok (.dup, 1) := by decide +kernel
theorem own_d69 : decode method_2_code 62 = .ok (.iconst 0, 1) := by decide +kernel
theorem own_d70 : decode method_2_code 63 = .ok (.iload_n 2, 1) := by decide +kernel
theorem own_d71 : decode method_2_code 64 = .ok (.castore, 1) := by decide +kernel
theorem own_d72 : decode method_2_code 65 = .ok (.invokespecial 9, 3) := by decide +kernel
theorem own_d73 : decode method_2_code 68 = .ok (.areturn, 1) := by decide +kernel
theorem own_d74 : decode method_2_code 69 = .ok (.iload_n 1, 1) := by decide +kernel
theorem own_d75 : decode method_2_code 70 = .ok (.iconst 2, 1) := by decide +kernel
theorem own_d76 : decode method_2_code 71 = .ok (.if_icmp .ne 22, 3) := by decide +kernel
theorem own_d77 : decode method_2_code 74 = .ok (.new 7, 3) := by decide +kernel
theorem own_d78 : decode method_2_code 77 = .ok (.dup, 1) := by decide +kernel
theorem own_d79 : decode method_2_code 78 = .ok (.iconst 2, 1) := by decide +kernel
theorem own_d80 : decode method_2_code 79 = .ok (.newarray .char, 2) := by decide +kernel
theorem own_d81 : decode method_2_code 81 = .ok (.dup, 1) := by decide +kernel
theorem own_d82 : decode method_2_code 82 = .ok (.iconst 0, 1) := by decide +kernel
theorem own_d83 : decode method_2_code 83 = .ok (.iload_n 2, 1) := by decide +kernel
theorem own_d84 : decode method_2_code 84 = .ok (.castore, 1) := by decide +kernel
theorem own_d85 : decode method_2_code 85 = .ok (.dup, 1) := by decide +kernel
theorem own_d86 : decode method_2_code 86 = .ok (.iconst 1, 1) := by decide +kernel
theorem own_d87 : decode method_2_code 87 = .ok (.iload_n 3, 1) := by decide +kernel
theorem own_d88 : decode method_2_code 88 = .ok (.castore, 1) := by decide +kernel
theorem own_d89 : decode method_2_code 89 = .ok (.invokespecial 9, 3) := by decide +kernel
theorem own_d90 : decode method_2_code 92 = .ok (.areturn, 1) := by decide +kernel
theorem own_d91 : decode method_2_code 93 = .ok (.new 7, 3) := by decide +kernel
theorem own_d92 : decode method_2_code 96 = .ok (.dup, 1) := by decide +kernel
theorem own_d93 : decode method_2_code 97 = .ok (.iconst 3, 1) := by decide +kernel
theorem own_d94 : decode method_2_code 98 = .ok (.newarray .char, 2) := by decide +kernel
theorem own_d95 : decode method_2_code 100 = .ok (.dup, 1) := by decide +kernel
theorem own_d96 : decode method_2_code 101 = .ok (.iconst 0, 1) := by decide +kernel
theorem own_d97 : decode method_2_code 102 = .ok (.iload_n 2, 1) := by decide +kernel
theorem own_d98 : decode method_2_code 103 = .ok (.castore, 1) := by decide +kernel
theorem own_d99 : decode method_2_code 104 = .ok (.dup, 1) := by decide +kernel
theorem own_d100 : decode method_2_code 105 = .ok (.iconst 1, 1) := by decide +kernel
theorem own_d101 : decode method_2_code 106 = .ok (.iload_n 3, 1) := by decide +kernel
theorem own_d102 : decode method_2_code 107 = .ok (.castore, 1) := by decide +kernel
theorem own_d103 : decode method_2_code 108 = .ok (.dup, 1) := by decide +kernel
theorem own_d104 : decode method_2_code 109 = .ok (.iconst 2, 1) := by decide +kernel
theorem own_d105 : decode method_2_code 110 = .ok (.iload 4, 2) := by decide +kernel
theorem own_d106 : decode method_2_code 112 = .ok (.castore, 1) := by decide +kernel
theorem own_d107 : decode method_2_code 113 = .ok (.invokespecial 9, 3) := by decide +kernel
theorem own_d108 : decode method_2_code 116 = .ok (.areturn, 1) := by decide +kernel
set_option maxHeartbeats 4000000 in
theorem own_ef109 (m : MethodId) (x0 : Int32) (x1 : Int32) : entryFrame m #[(.int x0), (.int x1)] 3 = mkF m 0 #[.val (.int x0), .val (.int x1), .unset] [] := by first | rfl | (simp [entryFrame, mkF, argsToLocals, Value.category]; done)
theorem own_d110 : decode method_3_code 0 = .ok (.iload_n 0, 1) := by decide +kernel
theorem own_d111 : decode method_3_code 1 = .ok (.iconst 3, 1) := by decide +kernel
theorem own_d112 : decode method_3_code 2 = .ok (.iand, 1) := by decide +kernel
theorem own_d113 : decode method_3_code 3 = .ok (.istore_n 2, 1) := by decide +kernel
theorem own_d114 : decode method_3_code 4 = .ok (.iload_n 2, 1) := by decide +kernel
theorem own_d115 : decode method_3_code 5 = .ok (.iload_n 1, 1) := by decide +kernel
theorem own_d116 : decode method_3_code 6 = .ok (.iconst 3, 1) := by decide +kernel
theorem own_d117 : decode method_3_code 7 = .ok (.iand, 1) := by decide +kernel
theorem own_d118 : decode method_3_code 8 = .ok (.if_icmp .eq 5, 3) := by decide +kernel
theorem own_d119 : decode method_3_code 13 = .ok (.iload_n 2, 1) := by decide +kernel
theorem own_d120 : decode method_3_code 14 = .ok (.ifCond .le 22, 3) := by decide +kernel
theorem own_d121 : decode method_3_code 17 = .ok (.iload_n 0, 1) := by decide +kernel
theorem own_d122 : decode method_3_code 18 = .ok (.iconst 2, 1) := by decide +kernel
theorem own_d123 : decode method_3_code 19 = .ok (.iushr, 1) := by decide +kernel
theorem own_d124 : decode method_3_code 20 = .ok (.sipush 255, 3) := by decide +kernel
theorem own_d125 : decode method_3_code 23 = .ok (.iand, 1) := by decide +kernel
theorem own_d126 : decode method_3_code 24 = .ok (.iload_n 1, 1) := by decide +kernel
theorem own_d127 : decode method_3_code 25 = .ok (.iconst 2, 1) := by decide +kernel
theorem own_d128 : decode method_3_code 26 = .ok (.iushr, 1) := by decide +kernel
theorem own_d129 : decode method_3_code 27 = .ok (.sipush 255, 3) := by decide +kernel
theorem own_d130 : decode method_3_code 30 = .ok (.iand, 1) := by decide +kernel
theorem own_d131 : decode method_3_code 31 = .ok (.if_icmp .eq 5, 3) := by decide +kernel
theorem own_d132 : decode method_3_code 36 = .ok (.iload_n 2, 1) := by decide +kernel
theorem own_d133 : decode method_3_code 37 = .ok (.iconst 1, 1) := by decide +kernel
theorem own_d134 : decode method_3_code 38 = .ok (.if_icmp .le 24, 3) := by decide +kernel
theorem own_d135 : decode method_3_code 41 = .ok (.iload_n 0, 1) := by decide +kernel
theorem own_d136 : decode method_3_code 42 = .ok (.bipush 10, 2) := by decide +kernel
theorem own_d137 : decode method_3_code 44 = .ok (.iushr, 1) := by decide +kernel
theorem own_d138 : decode method_3_code 45 = .ok (.sipush 255, 3) := by decide +kernel
theorem own_d139 : decode method_3_code 48 = .ok (.iand, 1) := by decide +kernel
theorem own_d140 : decode method_3_code 49 = .ok (.iload_n 1, 1) := by decide +kernel
theorem own_d141 : decode method_3_code 50 = .ok (.bipush 10, 2) := by decide +kernel
theorem own_d142 : decode method_3_code 52 = .ok (.iushr, 1) := by decide +kernel
theorem own_d143 : decode method_3_code 53 = .ok (.sipush 255, 3) := by decide +kernel
theorem own_d144 : decode method_3_code 56 = .ok (.iand, 1) := by decide +kernel
theorem own_d145 : decode method_3_code 57 = .ok (.if_icmp .eq 5, 3) := by decide +kernel
theorem own_d146 : decode method_3_code 62 = .ok (.iload_n 2, 1) := by decide +kernel
theorem own_d147 : decode method_3_code 63 = .ok (.iconst 2, 1) := by decide +kernel
theorem own_d148 : decode method_3_code 64 = .ok (.if_icmp .le 24, 3) := by decide +kernel
theorem own_d149 : decode method_3_code 67 = .ok (.iload_n 0, 1) := by decide +kernel
theorem own_d150 : decode method_3_code 68 = .ok (.bipush 18, 2) := by decide +kernel
theorem own_d151 : decode method_3_code 70 = .ok (.iushr, 1) := by decide +kernel
theorem own_d152 : decode method_3_code 71 = .ok (.sipush 255, 3) := by decide +kernel
theorem own_d153 : decode method_3_code 74 = .ok (.iand, 1) := by decide +kernel
theorem own_d154 : decode method_3_code 75 = .ok (.iload_n 1, 1) := by decide +kernel
theorem own_d155 : decode method_3_code 76 = .ok (.bipush 18, 2) := by decide +kernel
theorem own_d156 : decode method_3_code 78 = .ok (.iushr, 1) := by decide +kernel
theorem own_d157 : decode method_3_code 79 = .ok (.sipush 255, 3) := by decide +kernel
theorem own_d158 : decode method_3_code 82 = .ok (.iand, 1) := by decide +kernel
theorem own_d159 : decode method_3_code 83 = .ok (.if_icmp .eq 5, 3) := by decide +kernel
theorem own_d160 : decode method_3_code 88 = .ok (.iconst 1, 1) := by decide +kernel
theorem own_d161 : decode method_3_code 89 = .ok (.ireturn, 1) := by decide +kernel
theorem own_d162 : decode method_3_code 86 = .ok (.iconst 0, 1) := by decide +kernel
theorem own_d163 : decode method_3_code 87 = .ok (.ireturn, 1) := by decide +kernel
theorem own_d164 : decode method_3_code 60 = .ok (.iconst 0, 1) := by decide +kernel
theorem own_d165 : decode method_3_code 61 = .ok (.ireturn, 1) := by decide +kernel
theorem own_d166 : decode method_3_code 34 = .ok (.iconst 0, 1) := by decide +kernel
theorem own_d167 : decode method_3_code 35 = .ok (.ireturn, 1) := by decide +kernel
theorem own_d168 : decode method_3_code 11 = .ok (.iconst 0, 1) := by decide +kernel
theorem own_d169 : decode method_3_code 12 = .ok (.ireturn, 1) := by decide +kernel
set_option maxHeartbeats 4000000 in
theorem own_ef170 (m : MethodId) (x0 : Addr) (x1 : Addr) : entryFrame m #[(.ref x0), (.ref x1)] 2 = mkF m 0 #[.val (.ref x0), .val (.ref x1)] [] := by first | rfl | (simp [entryFrame, mkF, argsToLocals, Value.category]; done)
theorem own_pn171 : plainName "java/util/Objects" = true := by first | (simp [plainName, overriddenIn]; done) | decide +kernel
theorem own_d172 : decode jdk_31_method_11_code 0 = .ok (.aload_n 0, 1) := by decide +kernel
theorem own_d173 : decode jdk_31_method_11_code 1 = .ok (.ifnonnull 12, 3) := by decide +kernel
theorem own_d174 : decode jdk_31_method_11_code 13 = .ok (.aload_n 0, 1) := by decide +kernel
theorem own_d175 : decode jdk_31_method_11_code 14 = .ok (.areturn, 1) := by decide +kernel
set_option maxHeartbeats 4000000 in
theorem own_ef176 (m : MethodId) (x0 : Addr) (x1 : Addr) (x2 : Addr) : entryFrame m #[(.ref x0), (.ref x1), (.ref x2)] 3 = mkF m 0 #[.val (.ref x0), .val (.ref x1), .val (.ref x2)] [] := by first | rfl | (simp [entryFrame, mkF, argsToLocals, Value.category]; done)
theorem own_pn177 : plainName "com/example/patokan/patokan/core/Tag" = true := by first | (simp [plainName, overriddenIn]; done) | decide +kernel
theorem own_d178 : decode prog_31_method_1_code 0 = .ok (.aload_n 0, 1) := by decide +kernel
theorem own_d179 : decode prog_31_method_1_code 1 = .ok (.invokespecial 1, 3) := by decide +kernel
theorem own_d180 : decode prog_31_method_1_code 4 = .ok (.aload_n 0, 1) := by decide +kernel
theorem own_d181 : decode prog_31_method_1_code 5 = .ok (.aload_n 1, 1) := by decide +kernel
theorem own_d182 : decode prog_31_method_1_code 6 = .ok (.ldc 7, 2) := by decide +kernel
theorem own_pd183 : parseMethodDescriptor "(Ljava/lang/Object;Ljava/lang/String;)Ljava/lang/Object;" = some ⟨[(.object "java/lang/Object"), (.object "java/lang/String")], some (.object "java/lang/Object")⟩ := by decide +kernel
theorem own_d184 : decode prog_31_method_1_code 8 = .ok (.invokestatic 9, 3) := by decide +kernel
theorem own_d185 : decode prog_31_method_1_code 11 = .ok (.checkcast 15, 3) := by decide +kernel
theorem own_d186 : decode prog_31_method_1_code 14 = .ok (.putfield 17, 3) := by decide +kernel
theorem own_d187 : decode prog_31_method_1_code 17 = .ok (.aload_n 0, 1) := by decide +kernel
theorem own_d188 : decode prog_31_method_1_code 18 = .ok (.aload_n 2, 1) := by decide +kernel
theorem own_d189 : decode prog_31_method_1_code 19 = .ok (.ldc 22, 2) := by decide +kernel
theorem own_d190 : decode prog_31_method_1_code 21 = .ok (.invokestatic 9, 3) := by decide +kernel
theorem own_d191 : decode prog_31_method_1_code 24 = .ok (.checkcast 15, 3) := by decide +kernel
theorem own_d192 : decode prog_31_method_1_code 27 = .ok (.putfield 24, 3) := by decide +kernel
theorem own_d193 : decode prog_31_method_1_code 30 = .ok (.return_, 1) := by decide +kernel
set_option maxHeartbeats 4000000 in
theorem own_ef194 (m : MethodId) (x0 : Addr) : entryFrame m #[(.ref x0), .null] 3 = mkF m 0 #[.val (.ref x0), .val .null, .unset] [] := by first | rfl | (simp [entryFrame, mkF, argsToLocals, Value.category]; done)
theorem own_d195 : decode prog_31_method_4_code 0 = .ok (.aload_n 1, 1) := by decide +kernel
theorem own_d196 : decode prog_31_method_4_code 1 = .ok (.instanceof 18, 3) := by decide +kernel
theorem own_d197 : decode prog_31_method_4_code 4 = .ok (.ifCond .eq 40, 3) := by decide +kernel
theorem own_d198 : decode prog_31_method_4_code 44 = .ok (.iconst 0, 1) := by decide +kernel
theorem own_d199 : decode prog_31_method_4_code 45 = .ok (.ireturn, 1) := by decide +kernel
set_option maxHeartbeats 4000000 in
theorem own_ef200 (m : MethodId) (x0 : Addr) (x1 : Addr) : entryFrame m #[(.ref x0), (.ref x1)] 3 = mkF m 0 #[.val (.ref x0), .val (.ref x1), .unset] [] := by first | rfl | (simp [entryFrame, mkF, argsToLocals, Value.category]; done)
theorem own_d201 : decode prog_31_method_4_code 7 = .ok (.aload_n 1, 1) := by decide +kernel
theorem own_d202 : decode prog_31_method_4_code 8 = .ok (.checkcast 18, 3) := by decide +kernel
theorem own_d203 : decode prog_31_method_4_code 11 = .ok (.astore_n 2, 1) := by decide +kernel
theorem own_d204 : decode prog_31_method_4_code 12 = .ok (.aload_n 0, 1) := by decide +kernel
theorem own_d205 : decode prog_31_method_4_code 13 = .ok (.getfield 17, 3) := by decide +kernel
theorem own_d206 : decode prog_31_method_4_code 16 = .ok (.aload_n 2, 1) := by decide +kernel
theorem own_d207 : decode prog_31_method_4_code 17 = .ok (.getfield 17, 3) := by decide +kernel
theorem own_pd208 : parseMethodDescriptor "(Ljava/lang/Object;)Z" = some ⟨[(.object "java/lang/Object")], some .boolean⟩ := by decide +kernel
theorem own_d209 : decode prog_31_method_4_code 20 = .ok (.invokevirtual 26, 3) := by decide +kernel
theorem own_d210 : decode prog_31_method_4_code 23 = .ok (.ifCond .eq 21, 3) := by decide +kernel
theorem own_d211 : decode prog_31_method_4_code 26 = .ok (.aload_n 0, 1) := by decide +kernel
theorem own_d212 : decode prog_31_method_4_code 27 = .ok (.getfield 24, 3) := by decide +kernel
theorem own_d213 : decode prog_31_method_4_code 30 = .ok (.aload_n 2, 1) := by decide +kernel
theorem own_d214 : decode prog_31_method_4_code 31 = .ok (.getfield 24, 3) := by decide +kernel
theorem own_d215 : decode prog_31_method_4_code 34 = .ok (.invokevirtual 26, 3) := by decide +kernel
theorem own_d216 : decode prog_31_method_4_code 37 = .ok (.ifCond .eq 7, 3) := by decide +kernel
theorem own_d217 : decode prog_31_method_4_code 40 = .ok (.iconst 1, 1) := by decide +kernel
theorem own_d218 : decode prog_31_method_4_code 41 = .ok (.goto 4, 3) := by decide +kernel
set_option maxHeartbeats 4000000 in
theorem own_ef219 (m : MethodId) (x0 : Int32) (x1 : Int32) (x2 : Int32) (x3 : Int32) (x4 : Int32) : entryFrame m #[(.int x0), (.int x1), (.int x2), (.int x3), (.int x4)] maxLocals = mkF m 0 #[.val (.int x0), .val (.int x1), .val (.int x2), .val (.int x3), .val (.int x4), .unset, .unset, .unset, .unset, .unset, .unset] [] := by first | (simp [entryFrame, mkF, argsToLocals, Value.category, maxLocals]; done) | rfl
theorem own_pd220 : parseMethodDescriptor "(I)Ljava/lang/String;" = some ⟨[.int], some (.object "java/lang/String")⟩ := by decide +kernel
theorem own_pd221 : parseMethodDescriptor "(Ljava/lang/String;Ljava/lang/String;)V" = some ⟨[(.object "java/lang/String"), (.object "java/lang/String")], none⟩ := by decide +kernel
theorem own_pd222 : parseMethodDescriptor "(II)Z" = some ⟨[.int, .int], some .boolean⟩ := by decide +kernel
def own_EL : List (String × Nat) := [("com/example/patokan/patokan/core/Tag", 7), ("com/example/patokan/patokan/core/Tag", 22), ("java/lang/String", 7)]
theorem own_EW {Z : State} {a0 : Array Value} (hw : ∀ d ∈ tables_1, d.before a0 Z = true) : EW Z a0 own_EL := EW.cons (hw _ (List.mem_of_getElem? (i := 44) rfl)) (by decide) (EW.cons (hw _ (List.mem_of_getElem? (i := 52) rfl)) (by decide) (EW.cons (hw _ (List.mem_of_getElem? (i := 21) rfl)) (by decide) (EW.nil)))
set_option maxRecDepth 65536 in
theorem own_sa : ∀ d ∈ Bundle.stringAtoms, d ∈ tables_1 := by decide +kernel
def QSame (u : Value) (h0 : Heap) (n0 : Nat) (v : Option Value) (h : Heap) (L : List Loc) : Prop := v = some u ∧ Fr n0 L ∧ h = h0
def StrIs (Z : State) (h : Heap) (a : Addr) (cs : List Int32) : Prop := Exa Z h a "java/lang/String" ∧ Fld Z h a "java/lang/String" "coder" "B" (.int 0) ∧ (∀ c ∈ cs, ¬ c < 0 ∧ ¬ (255 : Int32) < c) ∧ cs.length ≤ 4000 ∧ ∃ (t : Addr) (kb : ClassId), Fld Z h a "java/lang/String" "value" "[B" (.ref t) ∧ Arv Z h t kb .byte (Int32.ofNat cs.length) ((cs.map fun c => c.toInt8.toInt32).map Value.int) (.int 0)
theorem StrIs.keep0 {Z : State} {h h' : Heap} {a : Addr} {cs : List Int32} (S : StrIs Z h a cs) (K : Keep h h' []) : StrIs Z h' a cs := by
  obtain ⟨E, C, hp, hl, t, kb, F, V⟩ := S
  exact ⟨E.keep K, C.keep K nin0, hp, hl, t, kb, F.keep K nin0, V.keep K nin0⟩
theorem StrIs.keepX {Z : State} {h h' : Heap} {a x : Addr} {cs : List Int32} {C : String} {n : Nat} {a0 : Array Value} (S : StrIs Z h a cs) (K : Keep h h' [x]) (E' : Exa Z h x C) (w : (Jvm.Cond.instantiable C n).before a0 Z = true) (hne : C ≠ "java/lang/String") : StrIs Z h' a cs := by
  obtain ⟨E, C', hp, hl, t, kb, F, V⟩ := S
  have q1 : a ≠ x := (Exa.ne E' E hne).symm
  have q2 : t ≠ x := (Exa.neArv E' V w).symm
  exact ⟨E.keep K, C'.keep K (ninS q1 nin0), hp, hl, t, kb, F.keep K (ninS q1 nin0), V.keep K (ninS q2 nin0)⟩
theorem StrIs.keepN {Z : State} {h h' : Heap} {a x : Addr} {cs : List Int32} {n : Nat} {a0 : Array Value} (S : StrIs Z h a cs) (K : Keep h h' [x]) (E' : Exa Z h x "java/lang/String") (F' : Fld Z h x "java/lang/String" "value" "[B" .null) (w : (Jvm.Cond.instantiable "java/lang/String" n).before a0 Z = true) : StrIs Z h' a cs := by
  obtain ⟨E, C', hp, hl, t, kb, F, V⟩ := S
  have q1 : a ≠ x := Fld.ne F F' (by simp)
  have q2 : t ≠ x := (Exa.neArv E' V w).symm
  exact ⟨E.keep K, C'.keep K (ninS q1 nin0), hp, hl, t, kb, F.keep K (ninS q1 nin0), V.keep K (ninS q2 nin0)⟩
theorem StrIs.lt {Z : State} {h : Heap} {a : Addr} {cs : List Int32} (S : StrIs Z h a cs) : a < h.size := S.1.lt
theorem nar_char_id {c : Int32} (h : ¬ c < 0 ∧ ¬ (255 : Int32) < c) : nar .char c = c := by
  have q := c_i2c c
  show c.toUInt32.toUInt16.toUInt32.toInt32 = c
  rw [Int32.lt_iff_toInt_lt, Int32.lt_iff_toInt_lt] at h
  have e0 : (0 : Int32).toInt = 0 := rfl
  have e1 : (255 : Int32).toInt = 255 := rfl
  rw [e0, e1] at h
  apply Int32.toInt_inj.mp
  omega
theorem own_up (cs : List Int32) (h : ∀ c ∈ cs, ¬ c < 0 ∧ ¬ (255 : Int32) < c) : ∀ c ∈ cs, ¬ c < 0 ∧ ¬ (65535 : Int32) < c := fun c hc => ⟨(h c hc).1, fun q => (h c hc).2 (by rw [Int32.lt_iff_toInt_lt] at q ⊢; have e1 : (65535 : Int32).toInt = 65535 := rfl; have e2 : (255 : Int32).toInt = 255 := rfl; omega)⟩
theorem own_eqS {p : Program} {l : Launch} {e : Env} {R : Room} {s : State} {args : Array Value} {below : List Frame} {len W : Nat} {Z : State} {a0 : Array Value} {h : Heap} {n0 : Nat} (hZ : Z.Warmed39 s.vm) (hw : ∀ d ∈ StrChars.Road.wordsEq, d.before a0 Z = true) {kI : Nat} (wi : (Jvm.Cond.instantiable "java/lang/String" kI).before a0 Z = true)
    {x y : Addr} {cs ds : List Int32} (A : StrIs Z h x cs) (B : StrIs Z h y ds) {z : Int32} (S : Sta Z h "java/lang/String" "COMPACT_STRINGS" "Z" (.int z)) (hz : ¬ z = 0) (hfr : 2 ≤ R.frames) (hlo : W + 28 ≤ R.locals) :
    Back l R p e below s args (⟨"java/lang/String", "equals", "(Ljava/lang/Object;)Z"⟩ : MethodName) len W (fun P a => a = #[.ref x, .ref y] ∧ P.U.heap = h ∧ P.cells + 0 ≤ R.cells ∧ P.slots + 0 ≤ R.slots)
      (fun P _ v B => ∃ L, QSame (.int (if cs = ds then 1 else 0)) h n0 v B.U.heap L ∧ B.locs = P.locs ++ L ∧ B.cells = P.cells + 0 ∧ B.slots = P.slots + 0) := by
  obtain ⟨E, C, hp, hl, t, kb, F, V⟩ := A
  obtain ⟨E', C', hp', hl', t', kb', F', V'⟩ := B
  refine Back.mono (StrChars.Road.eqW hZ hw wi E F C V (StrChars.Road.codOf rfl fun c hc => (hp c hc).2) (own_up _ hp) hl E' F' C' V' (StrChars.Road.codOf rfl fun c hc => (hp' c hc).2) (own_up _ hp') hl' S hz hfr hlo) (fun P a hp => hp) (fun P a v B hp hq => ?_)
  obtain ⟨L, ⟨hc, rfl, hh⟩, h1, h2, h3⟩ := hq
  refine ⟨[], ⟨?_, Fr.nil _, hh⟩, h1, h2, h3⟩
  rcases hc with ⟨rfl, q⟩ | ⟨rfl, q⟩
  · rw [if_pos q]
  · rw [if_neg q]
theorem nar_char2 (x : Int32) : nar .char ((x).toUInt32.toUInt16.toUInt32.toInt32) = ((x).toUInt32.toUInt16.toUInt32.toInt32) := by simp only [nar, UInt32.toUInt32_toInt32, UInt16.toUInt16_toUInt32]
theorem own_mkE {rl il r0 r1 i0 i1 : Int32} (h : rl = il) (a : rl < 1 ∨ r0 = i0) (b : rl < 2 ∨ r1 = i1) (hr : rl = 0 ∨ rl = 1 ∨ rl = 2) : (if rl = 0 then ([] : List Int32) else if rl = 1 then [r0] else [r0, r1]) = (if il = 0 then ([] : List Int32) else if il = 1 then [i0] else [i0, i1]) := by
  subst h
  rcases hr with rfl | rfl | rfl
  · rfl
  · rcases a with a | rfl
    · exact absurd a (by decide)
    · rfl
  · rcases a with a | rfl
    · exact absurd a (by decide)
    · rcases b with b | rfl
      · exact absurd b (by decide)
      · rfl
theorem own_mkN1 {rl il r0 r1 i0 i1 : Int32} (hr : rl = 0 ∨ rl = 1 ∨ rl = 2) (hi : il = 0 ∨ il = 1 ∨ il = 2) (h : ¬ rl = il) : ¬ (if rl = 0 then ([] : List Int32) else if rl = 1 then [r0] else [r0, r1]) = (if il = 0 then ([] : List Int32) else if il = 1 then [i0] else [i0, i1]) := by
  rcases hr with rfl | rfl | rfl <;> rcases hi with rfl | rfl | rfl <;> simp at h ⊢
theorem own_mkN2 {rl il r0 r1 i0 i1 : Int32} (hr : rl = 0 ∨ rl = 1 ∨ rl = 2) (h : rl = il) (a : ¬ rl < 1) (b : ¬ r0 = i0) : ¬ (if rl = 0 then ([] : List Int32) else if rl = 1 then [r0] else [r0, r1]) = (if il = 0 then ([] : List Int32) else if il = 1 then [i0] else [i0, i1]) := by
  subst h
  rcases hr with rfl | rfl | rfl
  · exact absurd (by decide) a
  · intro q; simp at q; exact b q
  · intro q; simp at q; exact b q.1
theorem own_mkN3 {rl il r0 r1 i0 i1 : Int32} (hr : rl = 0 ∨ rl = 1 ∨ rl = 2) (h : rl = il) (a : ¬ rl < 2) (b : ¬ r1 = i1) : ¬ (if rl = 0 then ([] : List Int32) else if rl = 1 then [r0] else [r0, r1]) = (if il = 0 then ([] : List Int32) else if il = 1 then [i0] else [i0, i1]) := by
  subst h
  rcases hr with rfl | rfl | rfl
  · exact absurd (by decide) a
  · exact absurd (by decide) a
  · intro q; simp at q; exact b q.2
theorem own_and3 (x : Int32) : (x &&& (3 : Int32)) = 0 ∨ (x &&& (3 : Int32)) = 1 ∨ (x &&& (3 : Int32)) = 2 ∨ (x &&& (3 : Int32)) = 3 := by
  have q := c_and x 3 (by decide)
  simp only [← Int32.toInt_inj]
  have e0 : (0 : Int32).toInt = 0 := rfl
  have e1 : (1 : Int32).toInt = 1 := rfl
  have e2 : (2 : Int32).toInt = 2 := rfl
  have e3 : (3 : Int32).toInt = 3 := rfl
  omega
theorem own_rem3 (x : Int32) : ((x &&& (3 : Int32)) % (3 : Int32)) = 0 ∨ ((x &&& (3 : Int32)) % (3 : Int32)) = 1 ∨ ((x &&& (3 : Int32)) % (3 : Int32)) = 2 := by
  rcases own_and3 x with h | h | h | h <;> rw [h] <;> decide
theorem own_c255 (n : Int32) : ¬ ((n &&& (255 : Int32)).toUInt32.toUInt16.toUInt32.toInt32) < 0 ∧ ¬ (255 : Int32) < ((n &&& (255 : Int32)).toUInt32.toUInt16.toUInt32.toInt32) := by
  have h := and255_chars n
  rw [nar_char2] at h
  exact h
def own_d (x k : Int32) : Int32 := (((x).toUInt32 >>> (k &&& 31).toUInt32).toInt32 &&& (255 : Int32))
def own_c (x k : Int32) : Int32 := ((own_d x k).toUInt32.toUInt16.toUInt32.toInt32)
def own_str (x : Int32) : List Int32 := if (x &&& (3 : Int32)) = 0 then [] else if (x &&& (3 : Int32)) = 1 then [own_c x 2] else if (x &&& (3 : Int32)) = 2 then [own_c x 2, own_c x 10] else [own_c x 2, own_c x 10, own_c x 18]
theorem own_str0 {x : Int32} (h : (x &&& (3 : Int32)) = 0) : own_str x = [] := if_pos h
theorem own_str1 {x : Int32} (h : (x &&& (3 : Int32)) = 1) : own_str x = [own_c x 2] := (if_neg (by rw [h]; decide)).trans (if_pos h)
theorem own_str2 {x : Int32} (h : (x &&& (3 : Int32)) = 2) : own_str x = [own_c x 2, own_c x 10] := (if_neg (by rw [h]; decide)).trans ((if_neg (by rw [h]; decide)).trans (if_pos h))
theorem own_str3 {x : Int32} (h : (x &&& (3 : Int32)) = 3) : own_str x = [own_c x 2, own_c x 10, own_c x 18] := (if_neg (by rw [h]; decide)).trans ((if_neg (by rw [h]; decide)).trans (if_neg (by rw [h]; decide)))
theorem own_cd (x k : Int32) : own_c x k = own_d x k := by
  have h := own_c255 (((x).toUInt32 >>> (k &&& 31).toUInt32).toInt32)
  have q := c_and (((x).toUInt32 >>> (k &&& 31).toUInt32).toInt32) 255 (by decide)
  have r := c_i2c (((x).toUInt32 >>> (k &&& 31).toUInt32).toInt32 &&& (255 : Int32))
  have e1 : (255 : Int32).toInt = 255 := rfl
  show (own_d x k).toUInt32.toUInt16.toUInt32.toInt32 = own_d x k
  apply Int32.toInt_inj.mp
  show ((((x).toUInt32 >>> (k &&& 31).toUInt32).toInt32 &&& (255 : Int32)).toUInt32.toUInt16.toUInt32.toInt32).toInt = (((x).toUInt32 >>> (k &&& 31).toUInt32).toInt32 &&& (255 : Int32)).toInt
  omega
theorem own_same_iff {x y : Int32} : own_str x = own_str y ↔ (x &&& (3 : Int32)) = (y &&& (3 : Int32)) ∧ (0 < (x &&& (3 : Int32)) → own_d x 2 = own_d y 2) ∧ (1 < (x &&& (3 : Int32)) → own_d x 10 = own_d y 10) ∧ (2 < (x &&& (3 : Int32)) → own_d x 18 = own_d y 18) := by
  rcases own_and3 x with hx | hx | hx | hx <;> rcases own_and3 y with hy | hy | hy | hy <;>
    simp only [own_str0, own_str1, own_str2, own_str3, hx, hy, own_cd] <;> simp <;> decide
theorem own_noinst {Z : State} {a0 : Array Value} {C S K : String} {n : Nat} (w : (Jvm.Cond.superclass C S).before a0 Z = true) (w0 : (Jvm.Cond.noSuperclass S).before a0 Z = true) (wi : (Jvm.Cond.instantiable K n).before a0 Z = true) (h1 : C ≠ K) (h2 : S ≠ K) : ∃ c t, Z.vm.findClass C = some c ∧ Z.vm.findClass K = some t ∧ Z.vm.assignable c t = false := by
  obtain ⟨t, kt, g0, g2, g5, g6, -, -⟩ := Cond.instantiable_spec wi
  obtain ⟨o, ko, o1, o2, o3, -, -⟩ := Cond.noSuperclass_spec w0
  obtain ⟨c, h0⟩ := found_sup w
  obtain ⟨p, k, kp, q1, q2, q3, q4, q5, -, q7⟩ := Cond.superclass_spec h0 w
  cases q1.symm.trans o1
  have ne1 := ids_ne h0 g0 h1
  have ne2 := ids_ne o1 g0 h2
  have n2 : ∀ fuel, Z.vm.isSubclassAux fuel o t = false := fun fuel => by
    cases fuel with
    | zero => rfl
    | succ f => simp [Vm.isSubclassAux, ne2, o2, o3]
  have n3 : ∀ fuel, Z.vm.isSubclassAux fuel c t = false := fun fuel => by
    cases fuel with
    | zero => rfl
    | succ f => simp [Vm.isSubclassAux, ne1, q2, q4, n2]
  have g7 : kt.isInterface = false := by
    cases hq : kt.isInterface
    · rfl
    · simp [hq] at g6
  refine ⟨c, t, h0, g0, ?_⟩
  show Z.vm.assignableAux (255 + 1) c t = false
  simp [Vm.assignableAux, ne1, q2, g2, q5, g5, g7, Vm.isSubclass, n3]
def QS0 (Z : State) (a : Addr) (h0 : Heap) (n0 : Nat) (v : Option Value) (h : Heap) (L : List Loc) : Prop := v = none ∧ Fr n0 L ∧ Keep h0 h [a] ∧ StrIs Z h a []
set_option maxRecDepth 65536 in
set_option maxHeartbeats 40000000 in
theorem rmS0b (l : Launch) (Z : State) (a0 : Array Value) (hw : ∀ d ∈ tables_1, d.before a0 Z = true) (a ca : Addr) (h0 : Heap) (n0 : Nat) (Z0 : n0 ≤ h0.size) (E0 : Exa Z h0 a "java/lang/String") (F0v : Fld Z h0 a "java/lang/String" "value" "[B" .null) (F0c : Fld Z h0 a "java/lang/String" "coder" "B" (.int (0 : Int32))) (ga : n0 ≤ a) :
    MetFree l (⟨"java/lang/String", "<init>", "([CIILjava/lang/Void;)V"⟩ : MethodName) (head1 [Jvm.Cond.code (⟨"java/lang/String", "<init>", "([CIILjava/lang/Void;)V"⟩ : MethodName) jdk_42_method_149_code 6 none] ({ frames := 1, cells := 4, slots := 8, locals := 12 } : Room)) (fun aa U => aa = #[(.ref a), (.ref ca), (.int (0 : Int32)), (.int (0 : Int32)), .null] ∧ Z.Warmed39 U.vm ∧ U.heap = h0 ∧ CHv Z own_EL U.vm h0) (fun _ _ _ _ _ => True) (fun _ U o U' => ∃ v L, o = .returned v ∧ QS0 Z a h0 n0 v U'.heap L ∧ CHr Z own_EL U.vm U.heap U'.vm U'.heap ∧ ReturnedEndW U o U' L ({ frames := 1, cells := 4, slots := 8, locals := 12 } : Room).cells ({ frames := 1, cells := 4, slots := 8, locals := 12 } : Room).slots) := by
  refine MetFree.of_bodySF (plainFor_of_name own_pn1) hisR ?_
  intro p e s m args below meth c s₁ Bd hml0 hP hK
  obtain ⟨rfl, hZ, hh, hCH⟩ := hP
  have hx := Bd.exec
  have hby := Bd.bytes
  have hml : c.maxLocals = 6 := hml0
  have hown : s.vm.findClass "java/lang/String" = some m.cls := findClass_of_methodNamed Bd.named
  have hnm := (name_of_methodNamed Bd.named Bd.method).1
  have X0 : Stand p l e ({ frames := 1, cells := 4, slots := 8, locals := 12 } : Room) s m #[(.ref a), (.ref ca), (.int (0 : Int32)), (.int (0 : Int32)), .null] below meth c s₁ [] 0 0 := Stand.of_body Bd
  have e0 : s₁.heap = h0 := by rw [← hh, Bd.state]; rfl
  have N0 := Fr.nil n0
  have K0 : Keep h0 h0 [] := Keep.refl _ _
  show GoOn p e below (s₁.setTop (entryFrame m #[(.ref a), (.ref ca), (.int (0 : Int32)), (.int (0 : Int32)), .null] 6)) (PostH Z own_EL s (QS0 Z a h0 n0) ({ frames := 1, cells := 4, slots := 8, locals := 12 } : Room).cells ({ frames := 1, cells := 4, slots := 8, locals := 12 } : Room).slots)
  refine GoOn.step (fun tq kq => castTop (own_ef0 m a ca (0 : Int32) (0 : Int32)) kq) ?_
  have hS0 : s.Since s.vm h0.size := (State.WarmedH.refl s).since _
  have hk0 : h0.size ≤ h0.size := Nat.le_refl _
  replace X0 : Stand p l e ({ frames := 1, cells := 4, slots := 8, locals := 12 } : Room) (s.setVm s.vm) m #[(.ref a), (.ref ca), (.int (0 : Int32)), (.int (0 : Int32)), .null] below meth c s₁ [] 0 0 := X0
  replace hZ : Z.Warmed39 (s.setVm s.vm).vm := hZ
  replace hown : (s.setVm s.vm).vm.findClass "java/lang/String" = some m.cls := hown
  have C0 : CHr Z own_EL s.vm h0 s.vm h0 := CHr.refl hCH
  have hEL : EW Z a0 own_EL := own_EW hw
  have wS : ∀ d ∈ Bundle.stringAtoms, d.before a0 Z = true := fun d hd => hw d (own_sa d hd)
  show GoOn p e below (s₁.setTop (mkF m 0 #[.val (.ref a), .val (.ref ca), .val (.int (0 : Int32)), .val (.int (0 : Int32)), .val .null, .unset] [])) _
  have K0a : Keep h0 h0 [a] := Keep.refl _ _
  have Sf1 : Safe Z own_EL s.vm h0 a := (Safe.ofNull hZ.alike E0 F0v)
  refine GoOn.step (fun tq kq => XS.aloadN X0.here hx rfl (hb hby own_d2) rfl rfl kq) ?_
  show GoOn p e below (s₁.setTop (mkF m 1 #[.val (.ref a), .val (.ref ca), .val (.int (0 : Int32)), .val (.int (0 : Int32)), .val .null, .unset] [(.ref a)])) _
  obtain ⟨T2, X2, e2, st2⟩ := initO X0 hx hZ hown (hw _ (List.mem_of_getElem? (i := 18) rfl)) (hw _ (List.mem_of_getElem? (i := 19) rfl)) (hw _ (List.mem_of_getElem? (i := 20) rfl)) e0 (g := (mkF m 1 #[.val (.ref a), .val (.ref ca), .val (.int (0 : Int32)), .val (.int (0 : Int32)), .val .null, .unset] [(.ref a)])) rfl (by rw [hml]; rfl) rfl (hb hby own_d3) (by decide) (W := 0) (by show 2 * 0 + _ ≤ _; exact Nat.le_of_eq rfl) (by decide)
  refine GoOn.step st2 ?_
  show GoOn p e below (T2.setTop (mkF m 4 #[.val (.ref a), .val (.ref ca), .val (.int (0 : Int32)), .val (.int (0 : Int32)), .val .null, .unset] [])) _
  refine GoOn.step (fun tq kq => XS.iloadN X2.here hx rfl (hb hby own_d4) rfl kq) ?_
  show GoOn p e below (T2.setTop (mkF m 5 #[.val (.ref a), .val (.ref ca), .val (.int (0 : Int32)), .val (.int (0 : Int32)), .val .null, .unset] [(.int (0 : Int32))])) _
  refine GoOn.step (fun tq kq => XS.ifNo X2.here hx rfl (hb hby own_d5) rfl ((if0 _ _).trans (teq rfl).2) kq) ?_
  show GoOn p e below (T2.setTop (mkF m 8 #[.val (.ref a), .val (.ref ca), .val (.int (0 : Int32)), .val (.int (0 : Int32)), .val .null, .unset] [])) _
  refine GoOn.step (fun tq kq => XS.aloadN X2.here hx rfl (hb hby own_d6) rfl rfl kq) ?_
  show GoOn p e below (T2.setTop (mkF m 9 #[.val (.ref a), .val (.ref ca), .val (.int (0 : Int32)), .val (.int (0 : Int32)), .val .null, .unset] [(.ref a)])) _
  obtain ⟨lt3, T3, h3, k13, lb3, kb3, X3, e3, Ex3, hS3, hk3, hZ3, hown3, El3, Flc3, Flv3, Al3, lla3, llb3, Cn3, Lt3, Ns3, st3⟩ := ldcCH X2 hx hZ hown (hw _ (List.mem_of_getElem? (i := 21) rfl)) wS e2 hS0 hk0 hEL (by decide) C0.1 (vs := []) (z := (0 : Int32)) (by decide) (by decide) (by decide) (g := (mkF m 9 #[.val (.ref a), .val (.ref ca), .val (.int (0 : Int32)), .val (.int (0 : Int32)), .val .null, .unset] [(.ref a)])) rfl (hb hby own_d7) (n := 0) (by decide) (by decide) (by decide) (by decide)
  have Kx3 : Keep h0 h3 [] := (Keep.refl _ _).ext Ex3
  refine GoOn.step st3 ?_
  have E4 : Exa Z h3 a "java/lang/String" := E0.keep Kx3
  have F5 : Fld Z h3 a "java/lang/String" "value" "[B" .null := F0v.keep Kx3 nin0
  have F6 : Fld Z h3 a "java/lang/String" "coder" "B" (.int (0 : Int32)) := F0c.keep Kx3 nin0
  have Z7 : n0 ≤ h3.size := Nat.le_trans Z0 Kx3.1
  have C8 : CHr Z own_EL s.vm h0 T3.vm h3 := CHr.trans C0 Cn3
  have K9 : Keep h0 h3 [a] := K0a.trans Kx3 all0
  have Sf10 : Safe Z own_EL T3.vm h3 a := CHr.safe Cn3 E0.lt Sf1
  have ne11 : a ≠ lt3 := (Ns3 _ Sf10).1
  have ne12 : a ≠ lb3 := (Ns3 _ Sf10).2
  show GoOn p e below (T3.setTop (mkF m 11 #[.val (.ref a), .val (.ref ca), .val (.int (0 : Int32)), .val (.int (0 : Int32)), .val .null, .unset] [(.ref lt3), (.ref a)])) _
  obtain ⟨T13, X13, e13, st13⟩ := getF X3 hx hZ3 hown3 (host := "") (Or.inl (hw _ (List.mem_of_getElem? (i := 27) rfl))) Via.refl e3 Flv3 (g := (mkF m 11 #[.val (.ref a), .val (.ref ca), .val (.int (0 : Int32)), .val (.int (0 : Int32)), .val .null, .unset] [(.ref lt3), (.ref a)])) rfl rfl (hb hby own_d8)
  refine GoOn.step st13 ?_
  show GoOn p e below (T13.setTop (mkF m 14 #[.val (.ref a), .val (.ref ca), .val (.int (0 : Int32)), .val (.int (0 : Int32)), .val .null, .unset] [(.ref lb3), (.ref a)])) _
  obtain ⟨T14, h14, X14, e14, W14, st14⟩ := putF X13 hx hZ3 hown3 (host := "") (Or.inl (hw _ (List.mem_of_getElem? (i := 27) rfl))) Via.refl e13 F5 E4 (Or.inr ⟨(hw _ (List.mem_of_getElem? (i := 23) rfl)), rfl, hnm⟩) (hw _ (List.mem_of_getElem? (i := 8) rfl)) (ty := (.array .byte)) (by decide) rfl rfl (g := (mkF m 14 #[.val (.ref a), .val (.ref ca), .val (.int (0 : Int32)), .val (.int (0 : Int32)), .val .null, .unset] [(.ref lb3), (.ref a)])) rfl rfl (hb hby own_d9)
  have N15 := Fr.snoc X14 N0 ga
  have Kx14 : Keep h3 h14 [a] := Keep.of_wr W14
  have F16 : Fld Z h14 a "java/lang/String" "value" "[B" (.ref lb3) := F5.same W14
  have F17 : Fld Z h14 a "java/lang/String" "coder" "B" (.int (0 : Int32)) := F6.other W14 (Or.inr (slot_ne (a0 := a0) (Or.inr (hw _ (List.mem_of_getElem? (i := 24) rfl))) (Or.inr (hw _ (List.mem_of_getElem? (i := 23) rfl))) (by decide) (t := .byte) (t' := (.array .byte)) (by decide) (by decide)))
  refine GoOn.step st14 ?_
  have E18 : Exa Z h14 a "java/lang/String" := E4.keep Kx14
  have Z21 : n0 ≤ h14.size := Nat.le_trans Z7 Kx14.1
  have C22 : CHr Z own_EL s.vm h0 T3.vm h14 := CHr.trans C8 (CHr.keep Kx14 (allS Sf10 all0) C8.1)
  have K23 : Keep h0 h14 [a] := K9.trans Kx14 ((allS (Or.inl (by simp)) all0))
  have Sf24 : Safe Z own_EL T3.vm h14 a := Safe.keep Kx14 (allS Sf10 all0) C8.1 Sf10
  have E25 : Exa Z h14 lt3 "java/lang/String" := El3.keep Kx14
  have F26 : Fld Z h14 lt3 "java/lang/String" "coder" "B" (.int 0) := Flc3.keep Kx14 (ninS (Ne.symm ne11) nin0)
  have F27 : Fld Z h14 lt3 "java/lang/String" "value" "[B" (.ref lb3) := Flv3.keep Kx14 (ninS (Ne.symm ne11) nin0)
  have V28 : Arv Z h14 lb3 kb3 .byte (0 : Int32) [] (.int 0) := Al3.keep Kx14 (ninS (Ne.symm ne12) nin0)
  have hk29 := Nat.le_trans hk3 Kx14.1
  show GoOn p e below (T14.setTop (mkF m 17 #[.val (.ref a), .val (.ref ca), .val (.int (0 : Int32)), .val (.int (0 : Int32)), .val .null, .unset] [])) _
  refine GoOn.step (fun tq kq => XS.aloadN X14.here hx rfl (hb hby own_d10) rfl rfl kq) ?_
  show GoOn p e below (T14.setTop (mkF m 18 #[.val (.ref a), .val (.ref ca), .val (.int (0 : Int32)), .val (.int (0 : Int32)), .val .null, .unset] [(.ref a)])) _
  obtain ⟨lt30, T30, h30, k130, lb30, kb30, X30, e30, Ex30, hS30, hk30, hZ30, hown30, El30, Flc30, Flv30, Al30, lla30, llb30, Cn30, Lt30, Ns30, st30⟩ := ldcCH X14 hx hZ3 hown3 (hw _ (List.mem_of_getElem? (i := 21) rfl)) wS e14 hS3 hk29 hEL (by decide) C22.1 (vs := []) (z := (0 : Int32)) (by decide) (by decide) (by decide) (g := (mkF m 18 #[.val (.ref a), .val (.ref ca), .val (.int (0 : Int32)), .val (.int (0 : Int32)), .val .null, .unset] [(.ref a)])) rfl (hb hby own_d11) (n := 0) (by decide) (by decide) (by decide) (by decide)
  have Kx30 : Keep h14 h30 [] := (Keep.refl _ _).ext Ex30
  refine GoOn.step st30 ?_
  have E31 : Exa Z h30 a "java/lang/String" := E18.keep Kx30
  have Z32 : n0 ≤ h30.size := Nat.le_trans Z21 Kx30.1
  have C33 : CHr Z own_EL s.vm h0 T30.vm h30 := CHr.trans C22 Cn30
  have K34 : Keep h0 h30 [a] := K23.trans Kx30 all0
  have Sf35 : Safe Z own_EL T30.vm h30 a := CHr.safe Cn30 E18.lt Sf24
  have E36 : Exa Z h30 lt3 "java/lang/String" := E25.keep Kx30
  have F37 : Fld Z h30 lt3 "java/lang/String" "coder" "B" (.int 0) := F26.keep Kx30 nin0
  have F38 : Fld Z h30 lt3 "java/lang/String" "value" "[B" (.ref lb3) := F27.keep Kx30 nin0
  have V39 : Arv Z h30 lb3 kb3 .byte (0 : Int32) [] (.int 0) := V28.keep Kx30 nin0
  have F40 : Fld Z h30 a "java/lang/String" "value" "[B" (.ref lb3) := F16.keep Kx30 nin0
  have F41 : Fld Z h30 a "java/lang/String" "coder" "B" (.int (0 : Int32)) := F17.keep Kx30 nin0
  have ne42 : a ≠ lt30 := (Ns30 _ Sf35).1
  have ne43 : a ≠ lb30 := (Ns30 _ Sf35).2
  show GoOn p e below (T30.setTop (mkF m 20 #[.val (.ref a), .val (.ref ca), .val (.int (0 : Int32)), .val (.int (0 : Int32)), .val .null, .unset] [(.ref lt30), (.ref a)])) _
  obtain ⟨T44, X44, e44, st44⟩ := getF X30 hx hZ30 hown30 (host := "") (Or.inl (hw _ (List.mem_of_getElem? (i := 28) rfl))) Via.refl e30 Flc30 (g := (mkF m 20 #[.val (.ref a), .val (.ref ca), .val (.int (0 : Int32)), .val (.int (0 : Int32)), .val .null, .unset] [(.ref lt30), (.ref a)])) rfl rfl (hb hby own_d12)
  refine GoOn.step st44 ?_
  show GoOn p e below (T44.setTop (mkF m 23 #[.val (.ref a), .val (.ref ca), .val (.int (0 : Int32)), .val (.int (0 : Int32)), .val .null, .unset] [(.int 0), (.ref a)])) _
  obtain ⟨T45, h45, X45, e45, W45, st45⟩ := putFN X44 hx hZ30 hown30 (hw _ (List.mem_of_getElem? (i := 28) rfl)) Via.refl e44 F41 E31 (Or.inr ⟨(hw _ (List.mem_of_getElem? (i := 24) rfl)), rfl, hnm⟩) (hw _ (List.mem_of_getElem? (i := 8) rfl)) (ty := .byte) (v' := (.int (nar .byte 0))) (by decide) rfl (fits_nar_byte _) (g := (mkF m 23 #[.val (.ref a), .val (.ref ca), .val (.int (0 : Int32)), .val (.int (0 : Int32)), .val .null, .unset] [(.int 0), (.ref a)])) rfl rfl (hb hby own_d13)
  have N46 := Fr.snoc X45 N15 ga
  have Kx45 : Keep h30 h45 [a] := Keep.of_wr W45
  have F47 : Fld Z h45 a "java/lang/String" "coder" "B" (.int (nar .byte 0)) := F41.same W45
  have F48 : Fld Z h45 a "java/lang/String" "value" "[B" (.ref lb3) := F40.other W45 (Or.inr (slot_ne (a0 := a0) (Or.inr (hw _ (List.mem_of_getElem? (i := 23) rfl))) (Or.inr (hw _ (List.mem_of_getElem? (i := 24) rfl))) (by decide) (t := (.array .byte)) (t' := .byte) (by decide) (by decide)))
  refine GoOn.step st45 ?_
  have E49 : Exa Z h45 a "java/lang/String" := E31.keep Kx45
  have Z50 : n0 ≤ h45.size := Nat.le_trans Z32 Kx45.1
  have C51 : CHr Z own_EL s.vm h0 T30.vm h45 := CHr.trans C33 (CHr.keep Kx45 (allS Sf35 all0) C33.1)
  have K52 : Keep h0 h45 [a] := K34.trans Kx45 ((allS (Or.inl (by simp)) all0))
  have Sf53 : Safe Z own_EL T30.vm h45 a := Safe.keep Kx45 (allS Sf35 all0) C33.1 Sf35
  have E54 : Exa Z h45 lt3 "java/lang/String" := E36.keep Kx45
  have F55 : Fld Z h45 lt3 "java/lang/String" "coder" "B" (.int 0) := F37.keep Kx45 (ninS (Ne.symm ne11) nin0)
  have F56 : Fld Z h45 lt3 "java/lang/String" "value" "[B" (.ref lb3) := F38.keep Kx45 (ninS (Ne.symm ne11) nin0)
  have V57 : Arv Z h45 lb3 kb3 .byte (0 : Int32) [] (.int 0) := V39.keep Kx45 (ninS (Ne.symm ne12) nin0)
  have E60 : Exa Z h45 lt30 "java/lang/String" := El30.keep Kx45
  have F61 : Fld Z h45 lt30 "java/lang/String" "coder" "B" (.int 0) := Flc30.keep Kx45 (ninS (Ne.symm ne42) nin0)
  have F62 : Fld Z h45 lt30 "java/lang/String" "value" "[B" (.ref lb30) := Flv30.keep Kx45 (ninS (Ne.symm ne42) nin0)
  have V63 : Arv Z h45 lb30 kb30 .byte (0 : Int32) [] (.int 0) := Al30.keep Kx45 (ninS (Ne.symm ne43) nin0)
  have hk64 := Nat.le_trans hk30 Kx45.1
  show GoOn p e below (T45.setTop (mkF m 26 #[.val (.ref a), .val (.ref ca), .val (.int (0 : Int32)), .val (.int (0 : Int32)), .val .null, .unset] [])) _
  refine GoOn.retH X45 hZ30 hS30 (hk64) hEL hh e45 C51 Bd.notSynchronized (v := none) (fun _ => rfl) (fun fs hr => X45.returnOut hx Bd.returns (hb hby own_d14) hr) (by decide) (by decide) ?_
  exact ⟨rfl, N46, K52, E49, F47, (fun c hc => by cases hc), (Nat.le_of_ble_eq_true rfl), lb3, kb3, F48, V57⟩
set_option maxRecDepth 65536 in
set_option maxHeartbeats 40000000 in
theorem rmS0 (l : Launch) (Z : State) (a0 : Array Value) (hw : ∀ d ∈ tables_1, d.before a0 Z = true) (a ca : Addr) (kc : ClassId) (h0 : Heap) (n0 : Nat) (Z0 : n0 ≤ h0.size) (E0 : Exa Z h0 a "java/lang/String") (F0v : Fld Z h0 a "java/lang/String" "value" "[B" .null) (F0c : Fld Z h0 a "java/lang/String" "coder" "B" (.int (0 : Int32))) (ga : n0 ≤ a) (V0 : Arv Z h0 ca kc .char (0 : Int32) [] (.int (0 : Int32))) (nac : a ≠ ca) :
    MetFree l (⟨"java/lang/String", "<init>", "([C)V"⟩ : MethodName) (head1 [Jvm.Cond.code (⟨"java/lang/String", "<init>", "([C)V"⟩ : MethodName) jdk_42_method_3_code 2 none] ({ frames := 2, cells := 4, slots := 8, locals := 29 } : Room)) (fun aa U => aa = #[(.ref a), (.ref ca)] ∧ Z.Warmed39 U.vm ∧ U.heap = h0 ∧ CHv Z own_EL U.vm h0) (fun _ _ _ _ _ => True) (fun _ U o U' => ∃ v L, o = .returned v ∧ QS0 Z a h0 n0 v U'.heap L ∧ CHr Z own_EL U.vm U.heap U'.vm U'.heap ∧ ReturnedEndW U o U' L ({ frames := 2, cells := 4, slots := 8, locals := 29 } : Room).cells ({ frames := 2, cells := 4, slots := 8, locals := 29 } : Room).slots) := by
  refine MetFree.of_bodySF (plainFor_of_name own_pn1) hisR ?_
  intro p e s m args below meth c s₁ Bd hml0 hP hK
  obtain ⟨rfl, hZ, hh, hCH⟩ := hP
  have hx := Bd.exec
  have hby := Bd.bytes
  have hml : c.maxLocals = 2 := hml0
  have hown : s.vm.findClass "java/lang/String" = some m.cls := findClass_of_methodNamed Bd.named
  have hnm := (name_of_methodNamed Bd.named Bd.method).1
  have X0 : Stand p l e ({ frames := 2, cells := 4, slots := 8, locals := 29 } : Room) s m #[(.ref a), (.ref ca)] below meth c s₁ [] 0 0 := Stand.of_body Bd
  have e0 : s₁.heap = h0 := by rw [← hh, Bd.state]; rfl
  have N0 := Fr.nil n0
  have K0 : Keep h0 h0 [] := Keep.refl _ _
  show GoOn p e below (s₁.setTop (entryFrame m #[(.ref a), (.ref ca)] 2)) (PostH Z own_EL s (QS0 Z a h0 n0) ({ frames := 2, cells := 4, slots := 8, locals := 29 } : Room).cells ({ frames := 2, cells := 4, slots := 8, locals := 29 } : Room).slots)
  refine GoOn.step (fun tq kq => castTop (own_ef15 m a ca) kq) ?_
  have hS0 : s.Since s.vm h0.size := (State.WarmedH.refl s).since _
  have hk0 : h0.size ≤ h0.size := Nat.le_refl _
  replace X0 : Stand p l e ({ frames := 2, cells := 4, slots := 8, locals := 29 } : Room) (s.setVm s.vm) m #[(.ref a), (.ref ca)] below meth c s₁ [] 0 0 := X0
  replace hZ : Z.Warmed39 (s.setVm s.vm).vm := hZ
  replace hown : (s.setVm s.vm).vm.findClass "java/lang/String" = some m.cls := hown
  have C0 : CHr Z own_EL s.vm h0 s.vm h0 := CHr.refl hCH
  have hEL : EW Z a0 own_EL := own_EW hw
  have wS : ∀ d ∈ Bundle.stringAtoms, d.before a0 Z = true := fun d hd => hw d (own_sa d hd)
  show GoOn p e below (s₁.setTop (mkF m 0 #[.val (.ref a), .val (.ref ca)] [])) _
  have K0a : Keep h0 h0 [a] := Keep.refl _ _
  refine GoOn.step (fun tq kq => XS.aloadN X0.here hx rfl (hb hby own_d16) rfl rfl kq) ?_
  show GoOn p e below (s₁.setTop (mkF m 1 #[.val (.ref a), .val (.ref ca)] [(.ref a)])) _
  refine GoOn.step (fun tq kq => XS.aloadN X0.here hx rfl (hb hby own_d17) rfl rfl kq) ?_
  show GoOn p e below (s₁.setTop (mkF m 2 #[.val (.ref a), .val (.ref ca)] [(.ref ca), (.ref a)])) _
  refine GoOn.step (fun tq kq => XS.iconst X0.here hx rfl (hb hby own_d18) kq) ?_
  show GoOn p e below (s₁.setTop (mkF m 3 #[.val (.ref a), .val (.ref ca)] [(.int (0 : Int32)), (.ref ca), (.ref a)])) _
  refine GoOn.step (fun tq kq => XS.aloadN X0.here hx rfl (hb hby own_d19) rfl rfl kq) ?_
  show GoOn p e below (s₁.setTop (mkF m 4 #[.val (.ref a), .val (.ref ca)] [(.ref ca), (.int (0 : Int32)), (.ref ca), (.ref a)])) _
  refine GoOn.step (fun tq kq => alenA X0 hx hZ e0 V0 (g := (mkF m 4 #[.val (.ref a), .val (.ref ca)] [(.ref ca), (.int (0 : Int32)), (.ref ca), (.ref a)])) rfl rfl (hb hby own_d20) _ kq) ?_
  show GoOn p e below (s₁.setTop (mkF m 5 #[.val (.ref a), .val (.ref ca)] [(.int (0 : Int32)), (.int (0 : Int32)), (.ref ca), (.ref a)])) _
  refine GoOn.step (fun tq kq => XS.aconstNull X0.here hx rfl (hb hby own_d21) kq) ?_
  show GoOn p e below (s₁.setTop (mkF m 6 #[.val (.ref a), .val (.ref ca)] [.null, (.int (0 : Int32)), (.int (0 : Int32)), (.ref ca), (.ref a)])) _
  obtain ⟨_, _, ⟨T65, L65, k65, n65⟩, -, X65, hS65, hg65, ⟨Lc65, hQ65, l65, y65, z65, Cn65⟩, st65⟩ := X0.specialBackS hx (y := (⟨"java/lang/String", "<init>", "([CIILjava/lang/Void;)V"⟩ : MethodName)) rfl hown (mvT hZ (hw _ (List.mem_of_getElem? (i := 14) rfl))) (mvT hZ (hw _ (List.mem_of_getElem? (i := 15) rfl))) (mvT hZ (hw _ (List.mem_of_getElem? (i := 17) rfl))) (by decide) (backOfSH (W := 0) (rmS0b l Z a0 hw a ca h0 n0 Z0 E0 F0v F0c ga) hZ (hw _ (List.mem_of_getElem? (i := 17) rfl)) (hw _ (List.mem_of_getElem? (i := 9) rfl)) (by decide) (by decide) hEL C0.1) (g := (mkF m 6 #[.val (.ref a), .val (.ref ca)] [.null, (.int (0 : Int32)), (.int (0 : Int32)), (.ref ca), (.ref a)])) rfl (by rw [hml]; rfl) (Steps.refl _) (a := a) (argsL := [(.ref ca), (.int (0 : Int32)), (.int (0 : Int32)), .null]) (rest := []) (lenOf own_pd23 rfl) rfl (by show 2 * 0 + _ ≤ _; exact Nat.le_of_eq rfl) (hb hby own_d22) (fun _ _ => ⟨rfl, e0, (by decide : 0 + 4 ≤ _), (by decide : 0 + 8 ≤ _)⟩)
  dsimp only [Pt.U, Pt.locs, Pt.cells, Pt.slots] at X65 l65 y65 z65 st65 hQ65 hS65 hg65 Cn65
  subst l65 y65 z65
  obtain ⟨rfl, N65, K65, S65⟩ := hQ65
  refine GoOn.trans st65 ?_
  replace X65 : Stand p l e _ (s.setVm T65.vm) m _ below meth c T65 _ _ _ := X65
  have hZ65 : Z.Warmed39 (s.setVm T65.vm).vm := State.Warmed39.trans (t := (s.setVm s.vm)) hZ hS65.1
  have hown65 : (s.setVm T65.vm).vm.findClass "java/lang/String" = some m.cls := by rw [show (s.setVm T65.vm).vm = T65.vm from rfl, hS65.1.alike.findClass]; exact hown
  have hSn65 : s.Since T65.vm T65.heap.size := foldS hS0 (by rw [e0]; exact hk0) hS65 hg65
  have hk65 : T65.heap.size ≤ T65.heap.size := Nat.le_refl _
  have N66 := Fr.app N0 N65
  have E67 : Exa Z T65.heap a "java/lang/String" := E0.keep K65
  have V70 : Arv Z T65.heap ca kc .char (0 : Int32) [] (.int (0 : Int32)) := V0.keep K65 (ninS (Ne.symm nac) nin0)
  have Z71 : n0 ≤ T65.heap.size := Nat.le_trans Z0 K65.1
  have C72 : CHr Z own_EL s.vm h0 T65.vm T65.heap := CHr.trans C0 Cn65
  have K73 : Keep h0 T65.heap [a] := K0a.trans K65 ((allS (Or.inl (by simp)) all0))
  show GoOn p e below (T65.setTop (mkF m 9 #[.val (.ref a), .val (.ref ca)] [])) _
  refine GoOn.retH X65 hZ65 hSn65 (hk65) hEL hh rfl C72 Bd.notSynchronized (v := none) (fun _ => rfl) (fun fs hr => X65.returnOut hx Bd.returns (hb hby own_d24) hr) (by decide) (by decide) ?_
  exact ⟨rfl, N66, K73, S65⟩
def QStr (Z : State) (x : Int32) (h0 : Heap) (n0 : Nat) (v : Option Value) (h : Heap) (L : List Loc) : Prop := ∃ a : Addr, v = some (.ref a) ∧ Fr n0 L ∧ Keep h0 h [] ∧ StrIs Z h a (own_str x)
set_option maxRecDepth 65536 in
set_option maxHeartbeats 40000000 in
theorem rmStr (l : Launch) (Z : State) (a0 : Array Value) (hw : ∀ d ∈ tables_1, d.before a0 Z = true) (x G1 : Int32) (h0 : Heap) (n0 : Nat) (Z0 : n0 ≤ h0.size) (SC : Sta Z Z.heap "java/lang/String" "COMPACT_STRINGS" "Z" (.int G1)) (PC : ¬ G1 = (0 : Int32)) (O0 : Old Z n0 h0) :
    MetFree l (⟨"com/example/patokan/patokan/core/TagEqualsPinLaw", "str", "(I)Ljava/lang/String;"⟩ : MethodName) (head1 [Jvm.Cond.code (⟨"com/example/patokan/patokan/core/TagEqualsPinLaw", "str", "(I)Ljava/lang/String;"⟩ : MethodName) method_2_code 5 (some (.object "java/lang/String"))] ({ frames := 4, cells := 6, slots := 12, locals := 66 } : Room)) (fun aa U => aa = #[(.int x)] ∧ Z.Warmed39 U.vm ∧ U.heap = h0 ∧ CHv Z own_EL U.vm h0) (fun _ _ _ _ _ => True) (fun _ U o U' => ∃ v L, o = .returned v ∧ QStr Z x h0 n0 v U'.heap L ∧ CHr Z own_EL U.vm U.heap U'.vm U'.heap ∧ ReturnedEndW U o U' L ({ frames := 4, cells := 6, slots := 12, locals := 66 } : Room).cells ({ frames := 4, cells := 6, slots := 12, locals := 66 } : Room).slots) := by
  refine MetFree.of_bodySF (plainFor_of_name own_pn26) hisR ?_
  intro p e s m args below meth c s₁ Bd hml0 hP hK
  obtain ⟨rfl, hZ, hh, hCH⟩ := hP
  have hx := Bd.exec
  have hby := Bd.bytes
  have hml : c.maxLocals = 5 := hml0
  have hown : s.vm.findClass "com/example/patokan/patokan/core/TagEqualsPinLaw" = some m.cls := findClass_of_methodNamed Bd.named
  have hnm := (name_of_methodNamed Bd.named Bd.method).1
  have X0 : Stand p l e ({ frames := 4, cells := 6, slots := 12, locals := 66 } : Room) s m #[(.int x)] below meth c s₁ [] 0 0 := Stand.of_body Bd
  have e0 : s₁.heap = h0 := by rw [← hh, Bd.state]; rfl
  have N0 := Fr.nil n0
  have K0 : Keep h0 h0 [] := Keep.refl _ _
  show GoOn p e below (s₁.setTop (entryFrame m #[(.int x)] 5)) (PostH Z own_EL s (QStr Z x h0 n0) ({ frames := 4, cells := 6, slots := 12, locals := 66 } : Room).cells ({ frames := 4, cells := 6, slots := 12, locals := 66 } : Room).slots)
  refine GoOn.step (fun tq kq => castTop (own_ef25 m x) kq) ?_
  have hS0 : s.Since s.vm h0.size := (State.WarmedH.refl s).since _
  have hk0 : h0.size ≤ h0.size := Nat.le_refl _
  replace X0 : Stand p l e ({ frames := 4, cells := 6, slots := 12, locals := 66 } : Room) (s.setVm s.vm) m #[(.int x)] below meth c s₁ [] 0 0 := X0
  replace hZ : Z.Warmed39 (s.setVm s.vm).vm := hZ
  replace hown : (s.setVm s.vm).vm.findClass "com/example/patokan/patokan/core/TagEqualsPinLaw" = some m.cls := hown
  have C0 : CHr Z own_EL s.vm h0 s.vm h0 := CHr.refl hCH
  have hEL : EW Z a0 own_EL := own_EW hw
  have wS : ∀ d ∈ Bundle.stringAtoms, d.before a0 Z = true := fun d hd => hw d (own_sa d hd)
  show GoOn p e below (s₁.setTop (mkF m 0 #[.val (.int x), .unset, .unset, .unset, .unset] [])) _
  have hws : ∀ d ∈ StrChars.Road.words, d.before a0 Z = true := fun d hd => hw d ((by decide +kernel : ∀ d ∈ StrChars.Road.words, d ∈ tables_1) d hd)
  refine GoOn.step (fun tq kq => XS.iloadN X0.here hx rfl (hb hby own_d27) rfl kq) ?_
  show GoOn p e below (s₁.setTop (mkF m 1 #[.val (.int x), .unset, .unset, .unset, .unset] [(.int x)])) _
  refine GoOn.step (fun tq kq => XS.iconst X0.here hx rfl (hb hby own_d28) kq) ?_
  show GoOn p e below (s₁.setTop (mkF m 2 #[.val (.int x), .unset, .unset, .unset, .unset] [(.int (3 : Int32)), (.int x)])) _
  refine GoOn.step (fun tq kq => XS.iand X0.here hx rfl (hb hby own_d29) rfl kq) ?_
  show GoOn p e below (s₁.setTop (mkF m 3 #[.val (.int x), .unset, .unset, .unset, .unset] [(.int (x &&& (3 : Int32)))])) _
  refine GoOn.step (fun tq kq => XS.istoreN X0.here hx rfl (hb hby own_d30) rfl (l' := #[.val (.int x), .val (.int (x &&& (3 : Int32))), .unset, .unset, .unset]) rfl kq) ?_
  show GoOn p e below (s₁.setTop (mkF m 4 #[.val (.int x), .val (.int (x &&& (3 : Int32))), .unset, .unset, .unset] [])) _
  refine GoOn.step (fun tq kq => XS.iloadN X0.here hx rfl (hb hby own_d31) rfl kq) ?_
  show GoOn p e below (s₁.setTop (mkF m 5 #[.val (.int x), .val (.int (x &&& (3 : Int32))), .unset, .unset, .unset] [(.int x)])) _
  refine GoOn.step (fun tq kq => XS.iconst X0.here hx rfl (hb hby own_d32) kq) ?_
  show GoOn p e below (s₁.setTop (mkF m 6 #[.val (.int x), .val (.int (x &&& (3 : Int32))), .unset, .unset, .unset] [(.int (2 : Int32)), (.int x)])) _
  refine GoOn.step (fun tq kq => XS.iushr X0.here hx rfl (hb hby own_d33) rfl kq) ?_
  show GoOn p e below (s₁.setTop (mkF m 7 #[.val (.int x), .val (.int (x &&& (3 : Int32))), .unset, .unset, .unset] [(.int (((x).toUInt32 >>> ((2 : Int32) &&& 31).toUInt32).toInt32))])) _
  refine GoOn.step (fun tq kq => XS.sipush X0.here hx rfl (hb hby own_d34) kq) ?_
  show GoOn p e below (s₁.setTop (mkF m 10 #[.val (.int x), .val (.int (x &&& (3 : Int32))), .unset, .unset, .unset] [(.int (255 : Int32)), (.int (((x).toUInt32 >>> ((2 : Int32) &&& 31).toUInt32).toInt32))])) _
  refine GoOn.step (fun tq kq => XS.iand X0.here hx rfl (hb hby own_d35) rfl kq) ?_
  show GoOn p e below (s₁.setTop (mkF m 11 #[.val (.int x), .val (.int (x &&& (3 : Int32))), .unset, .unset, .unset] [(.int ((((x).toUInt32 >>> ((2 : Int32) &&& 31).toUInt32).toInt32) &&& (255 : Int32)))])) _
  refine GoOn.step (fun tq kq => XS.i2c X0.here hx rfl (hb hby own_d36) rfl kq) ?_
  show GoOn p e below (s₁.setTop (mkF m 12 #[.val (.int x), .val (.int (x &&& (3 : Int32))), .unset, .unset, .unset] [(.int ((((((x).toUInt32 >>> ((2 : Int32) &&& 31).toUInt32).toInt32) &&& (255 : Int32))).toUInt32.toUInt16.toUInt32.toInt32))])) _
  refine GoOn.step (fun tq kq => XS.istoreN X0.here hx rfl (hb hby own_d37) rfl (l' := #[.val (.int x), .val (.int (x &&& (3 : Int32))), .val (.int ((((((x).toUInt32 >>> ((2 : Int32) &&& 31).toUInt32).toInt32) &&& (255 : Int32))).toUInt32.toUInt16.toUInt32.toInt32)), .unset, .unset]) rfl kq) ?_
  show GoOn p e below (s₁.setTop (mkF m 13 #[.val (.int x), .val (.int (x &&& (3 : Int32))), .val (.int ((((((x).toUInt32 >>> ((2 : Int32) &&& 31).toUInt32).toInt32) &&& (255 : Int32))).toUInt32.toUInt16.toUInt32.toInt32)), .unset, .unset] [])) _
  refine GoOn.step (fun tq kq => XS.iloadN X0.here hx rfl (hb hby own_d38) rfl kq) ?_
  show GoOn p e below (s₁.setTop (mkF m 14 #[.val (.int x), .val (.int (x &&& (3 : Int32))), .val (.int ((((((x).toUInt32 >>> ((2 : Int32) &&& 31).toUInt32).toInt32) &&& (255 : Int32))).toUInt32.toUInt16.toUInt32.toInt32)), .unset, .unset] [(.int x)])) _
  refine GoOn.step (fun tq kq => XS.bipush X0.here hx rfl (hb hby own_d39) kq) ?_
  show GoOn p e below (s₁.setTop (mkF m 16 #[.val (.int x), .val (.int (x &&& (3 : Int32))), .val (.int ((((((x).toUInt32 >>> ((2 : Int32) &&& 31).toUInt32).toInt32) &&& (255 : Int32))).toUInt32.toUInt16.toUInt32.toInt32)), .unset, .unset] [(.int (10 : Int32)), (.int x)])) _
  refine GoOn.step (fun tq kq => XS.iushr X0.here hx rfl (hb hby own_d40) rfl kq) ?_
  show GoOn p e below (s₁.setTop (mkF m 17 #[.val (.int x), .val (.int (x &&& (3 : Int32))), .val (.int ((((((x).toUInt32 >>> ((2 : Int32) &&& 31).toUInt32).toInt32) &&& (255 : Int32))).toUInt32.toUInt16.toUInt32.toInt32)), .unset, .unset] [(.int (((x).toUInt32 >>> ((10 : Int32) &&& 31).toUInt32).toInt32))])) _
  refine GoOn.step (fun tq kq => XS.sipush X0.here hx rfl (hb hby own_d41) kq) ?_
  show GoOn p e below (s₁.setTop (mkF m 20 #[.val (.int x), .val (.int (x &&& (3 : Int32))), .val (.int ((((((x).toUInt32 >>> ((2 : Int32) &&& 31).toUInt32).toInt32) &&& (255 : Int32))).toUInt32.toUInt16.toUInt32.toInt32)), .unset, .unset] [(.int (255 : Int32)), (.int (((x).toUInt32 >>> ((10 : Int32) &&& 31).toUInt32).toInt32))])) _
  refine GoOn.step (fun tq kq => XS.iand X0.here hx rfl (hb hby own_d42) rfl kq) ?_
  show GoOn p e below (s₁.setTop (mkF m 21 #[.val (.int x), .val (.int (x &&& (3 : Int32))), .val (.int ((((((x).toUInt32 >>> ((2 : Int32) &&& 31).toUInt32).toInt32) &&& (255 : Int32))).toUInt32.toUInt16.toUInt32.toInt32)), .unset, .unset] [(.int ((((x).toUInt32 >>> ((10 : Int32) &&& 31).toUInt32).toInt32) &&& (255 : Int32)))])) _
  refine GoOn.step (fun tq kq => XS.i2c X0.here hx rfl (hb hby own_d43) rfl kq) ?_
  show GoOn p e below (s₁.setTop (mkF m 22 #[.val (.int x), .val (.int (x &&& (3 : Int32))), .val (.int ((((((x).toUInt32 >>> ((2 : Int32) &&& 31).toUInt32).toInt32) &&& (255 : Int32))).toUInt32.toUInt16.toUInt32.toInt32)), .unset, .unset] [(.int ((((((x).toUInt32 >>> ((10 : Int32) &&& 31).toUInt32).toInt32) &&& (255 : Int32))).toUInt32.toUInt16.toUInt32.toInt32))])) _
  refine GoOn.step (fun tq kq => XS.istoreN X0.here hx rfl (hb hby own_d44) rfl (l' := #[.val (.int x), .val (.int (x &&& (3 : Int32))), .val (.int ((((((x).toUInt32 >>> ((2 : Int32) &&& 31).toUInt32).toInt32) &&& (255 : Int32))).toUInt32.toUInt16.toUInt32.toInt32)), .val (.int ((((((x).toUInt32 >>> ((10 : Int32) &&& 31).toUInt32).toInt32) &&& (255 : Int32))).toUInt32.toUInt16.toUInt32.toInt32)), .unset]) rfl kq) ?_
  show GoOn p e below (s₁.setTop (mkF m 23 #[.val (.int x), .val (.int (x &&& (3 : Int32))), .val (.int ((((((x).toUInt32 >>> ((2 : Int32) &&& 31).toUInt32).toInt32) &&& (255 : Int32))).toUInt32.toUInt16.toUInt32.toInt32)), .val (.int ((((((x).toUInt32 >>> ((10 : Int32) &&& 31).toUInt32).toInt32) &&& (255 : Int32))).toUInt32.toUInt16.toUInt32.toInt32)), .unset] [])) _
  refine GoOn.step (fun tq kq => XS.iloadN X0.here hx rfl (hb hby own_d45) rfl kq) ?_
  show GoOn p e below (s₁.setTop (mkF m 24 #[.val (.int x), .val (.int (x &&& (3 : Int32))), .val (.int ((((((x).toUInt32 >>> ((2 : Int32) &&& 31).toUInt32).toInt32) &&& (255 : Int32))).toUInt32.toUInt16.toUInt32.toInt32)), .val (.int ((((((x).toUInt32 >>> ((10 : Int32) &&& 31).toUInt32).toInt32) &&& (255 : Int32))).toUInt32.toUInt16.toUInt32.toInt32)), .unset] [(.int x)])) _
  refine GoOn.step (fun tq kq => XS.bipush X0.here hx rfl (hb hby own_d46) kq) ?_
  show GoOn p e below (s₁.setTop (mkF m 26 #[.val (.int x), .val (.int (x &&& (3 : Int32))), .val (.int ((((((x).toUInt32 >>> ((2 : Int32) &&& 31).toUInt32).toInt32) &&& (255 : Int32))).toUInt32.toUInt16.toUInt32.toInt32)), .val (.int ((((((x).toUInt32 >>> ((10 : Int32) &&& 31).toUInt32).toInt32) &&& (255 : Int32))).toUInt32.toUInt16.toUInt32.toInt32)), .unset] [(.int (18 : Int32)), (.int x)])) _
  refine GoOn.step (fun tq kq => XS.iushr X0.here hx rfl (hb hby own_d47) rfl kq) ?_
  show GoOn p e below (s₁.setTop (mkF m 27 #[.val (.int x), .val (.int (x &&& (3 : Int32))), .val (.int ((((((x).toUInt32 >>> ((2 : Int32) &&& 31).toUInt32).toInt32) &&& (255 : Int32))).toUInt32.toUInt16.toUInt32.toInt32)), .val (.int ((((((x).toUInt32 >>> ((10 : Int32) &&& 31).toUInt32).toInt32) &&& (255 : Int32))).toUInt32.toUInt16.toUInt32.toInt32)), .unset] [(.int (((x).toUInt32 >>> ((18 : Int32) &&& 31).toUInt32).toInt32))])) _
  refine GoOn.step (fun tq kq => XS.sipush X0.here hx rfl (hb hby own_d48) kq) ?_
  show GoOn p e below (s₁.setTop (mkF m 30 #[.val (.int x), .val (.int (x &&& (3 : Int32))), .val (.int ((((((x).toUInt32 >>> ((2 : Int32) &&& 31).toUInt32).toInt32) &&& (255 : Int32))).toUInt32.toUInt16.toUInt32.toInt32)), .val (.int ((((((x).toUInt32 >>> ((10 : Int32) &&& 31).toUInt32).toInt32) &&& (255 : Int32))).toUInt32.toUInt16.toUInt32.toInt32)), .unset] [(.int (255 : Int32)), (.int (((x).toUInt32 >>> ((18 : Int32) &&& 31).toUInt32).toInt32))])) _
  refine GoOn.step (fun tq kq => XS.iand X0.here hx rfl (hb hby own_d49) rfl kq) ?_
  show GoOn p e below (s₁.setTop (mkF m 31 #[.val (.int x), .val (.int (x &&& (3 : Int32))), .val (.int ((((((x).toUInt32 >>> ((2 : Int32) &&& 31).toUInt32).toInt32) &&& (255 : Int32))).toUInt32.toUInt16.toUInt32.toInt32)), .val (.int ((((((x).toUInt32 >>> ((10 : Int32) &&& 31).toUInt32).toInt32) &&& (255 : Int32))).toUInt32.toUInt16.toUInt32.toInt32)), .unset] [(.int ((((x).toUInt32 >>> ((18 : Int32) &&& 31).toUInt32).toInt32) &&& (255 : Int32)))])) _
  refine GoOn.step (fun tq kq => XS.i2c X0.here hx rfl (hb hby own_d50) rfl kq) ?_
  show GoOn p e below (s₁.setTop (mkF m 32 #[.val (.int x), .val (.int (x &&& (3 : Int32))), .val (.int ((((((x).toUInt32 >>> ((2 : Int32) &&& 31).toUInt32).toInt32) &&& (255 : Int32))).toUInt32.toUInt16.toUInt32.toInt32)), .val (.int ((((((x).toUInt32 >>> ((10 : Int32) &&& 31).toUInt32).toInt32) &&& (255 : Int32))).toUInt32.toUInt16.toUInt32.toInt32)), .unset] [(.int ((((((x).toUInt32 >>> ((18 : Int32) &&& 31).toUInt32).toInt32) &&& (255 : Int32))).toUInt32.toUInt16.toUInt32.toInt32))])) _
  refine GoOn.step (fun tq kq => XS.istore X0.here hx rfl (hb hby own_d51) rfl (l' := #[.val (.int x), .val (.int (x &&& (3 : Int32))), .val (.int ((((((x).toUInt32 >>> ((2 : Int32) &&& 31).toUInt32).toInt32) &&& (255 : Int32))).toUInt32.toUInt16.toUInt32.toInt32)), .val (.int ((((((x).toUInt32 >>> ((10 : Int32) &&& 31).toUInt32).toInt32) &&& (255 : Int32))).toUInt32.toUInt16.toUInt32.toInt32)), .val (.int ((((((x).toUInt32 >>> ((18 : Int32) &&& 31).toUInt32).toInt32) &&& (255 : Int32))).toUInt32.toUInt16.toUInt32.toInt32))]) rfl kq) ?_
  show GoOn p e below (s₁.setTop (mkF m 34 #[.val (.int x), .val (.int (x &&& (3 : Int32))), .val (.int ((((((x).toUInt32 >>> ((2 : Int32) &&& 31).toUInt32).toInt32) &&& (255 : Int32))).toUInt32.toUInt16.toUInt32.toInt32)), .val (.int ((((((x).toUInt32 >>> ((10 : Int32) &&& 31).toUInt32).toInt32) &&& (255 : Int32))).toUInt32.toUInt16.toUInt32.toInt32)), .val (.int ((((((x).toUInt32 >>> ((18 : Int32) &&& 31).toUInt32).toInt32) &&& (255 : Int32))).toUInt32.toUInt16.toUInt32.toInt32))] [])) _
  have hb0 := own_c255 (((x).toUInt32 >>> ((2 : Int32) &&& 31).toUInt32).toInt32)
  generalize hgc0 : ((((((x).toUInt32 >>> ((2 : Int32) &&& 31).toUInt32).toInt32) &&& (255 : Int32))).toUInt32.toUInt16.toUInt32.toInt32) = c0
  show GoOn p e below (s₁.setTop (mkF m 34 #[.val (.int x), .val (.int (x &&& (3 : Int32))), .val (.int c0), .val (.int ((((((x).toUInt32 >>> ((10 : Int32) &&& 31).toUInt32).toInt32) &&& (255 : Int32))).toUInt32.toUInt16.toUInt32.toInt32)), .val (.int ((((((x).toUInt32 >>> ((18 : Int32) &&& 31).toUInt32).toInt32) &&& (255 : Int32))).toUInt32.toUInt16.toUInt32.toInt32))] [])) _
  rw [hgc0] at hb0
  have hb1 := own_c255 (((x).toUInt32 >>> ((10 : Int32) &&& 31).toUInt32).toInt32)
  generalize hgc1 : ((((((x).toUInt32 >>> ((10 : Int32) &&& 31).toUInt32).toInt32) &&& (255 : Int32))).toUInt32.toUInt16.toUInt32.toInt32) = c1
  show GoOn p e below (s₁.setTop (mkF m 34 #[.val (.int x), .val (.int (x &&& (3 : Int32))), .val (.int c0), .val (.int c1), .val (.int ((((((x).toUInt32 >>> ((18 : Int32) &&& 31).toUInt32).toInt32) &&& (255 : Int32))).toUInt32.toUInt16.toUInt32.toInt32))] [])) _
  rw [hgc1] at hb1
  have hb2 := own_c255 (((x).toUInt32 >>> ((18 : Int32) &&& 31).toUInt32).toInt32)
  generalize hgc2 : ((((((x).toUInt32 >>> ((18 : Int32) &&& 31).toUInt32).toInt32) &&& (255 : Int32))).toUInt32.toUInt16.toUInt32.toInt32) = c2
  show GoOn p e below (s₁.setTop (mkF m 34 #[.val (.int x), .val (.int (x &&& (3 : Int32))), .val (.int c0), .val (.int c1), .val (.int c2)] [])) _
  rw [hgc2] at hb2
  refine GoOn.step (fun tq kq => XS.iloadN X0.here hx rfl (hb hby own_d52) rfl kq) ?_
  show GoOn p e below (s₁.setTop (mkF m 35 #[.val (.int x), .val (.int (x &&& (3 : Int32))), .val (.int c0), .val (.int c1), .val (.int c2)] [(.int (x &&& (3 : Int32)))])) _
  by_cases hc74 : (x &&& (3 : Int32)) = 0
  · skip
    refine GoOn.step (fun tq kq => XS.ifNo X0.here hx rfl (hb hby own_d53) rfl ((if0 _ _).trans (teq hc74).2) kq) ?_
    show GoOn p e below (s₁.setTop (mkF m 38 #[.val (.int x), .val (.int (x &&& (3 : Int32))), .val (.int c0), .val (.int c1), .val (.int c2)] [])) _
    obtain ⟨T75, h75, X75, e75, Ex75, A75, Df75, -, st75⟩ := newO X0 hx hZ hown (hw _ (List.mem_of_getElem? (i := 7) rfl)) (hw _ (List.mem_of_getElem? (i := 8) rfl)) (hw _ (List.mem_of_getElem? (i := 9) rfl)) e0 (g := (mkF m 38 #[.val (.int x), .val (.int (x &&& (3 : Int32))), .val (.int c0), .val (.int c1), .val (.int c2)] [])) rfl (hb hby own_d54) (by decide) (by decide)
    obtain ⟨sb, g75⟩ : ∃ z, z = h0.size := ⟨_, rfl⟩
    rw [← g75] at A75 Df75 st75
    have gn76 : n0 ≤ sb := Nat.le_trans Z0 (Nat.le_of_eq g75.symm)
    have sz77 : h0.size ≤ sb := Nat.le_trans K0.1 (Nat.le_of_eq g75.symm)
    have Kx75 : Keep h0 h75 [] := (Keep.refl _ _).ext Ex75
    refine GoOn.step st75 ?_
    have O78 : Old Z n0 h75 := O0.keep Kx75 all0
    have Z79 : n0 ≤ h75.size := Nat.le_trans Z0 Kx75.1
    have K80 : Keep h0 h75 [] := K0.trans Kx75 (all0)
    have C81 : CHr Z own_EL s.vm h0 s.vm h75 := CHr.trans C0 (CHr.keep Kx75 all0 C0.1)
    have hk82 := Nat.le_trans hk0 Kx75.1
    have F83 : Fld Z h75 sb "java/lang/String" "value" "[B" .null := Df75 (Or.inr (hw _ (List.mem_of_getElem? (i := 23) rfl))) (ty := (.array .byte)) (by decide)
    have F84 : Fld Z h75 sb "java/lang/String" "coder" "B" (.int (0 : Int32)) := Df75 (Or.inr (hw _ (List.mem_of_getElem? (i := 24) rfl))) (ty := .byte) (by decide)
    show GoOn p e below (T75.setTop (mkF m 41 #[.val (.int x), .val (.int (x &&& (3 : Int32))), .val (.int c0), .val (.int c1), .val (.int c2)] [(.ref sb)])) _
    refine GoOn.step (fun tq kq => XS.dup X75.here hx rfl (hb hby own_d55) rfl rfl kq) ?_
    show GoOn p e below (T75.setTop (mkF m 42 #[.val (.int x), .val (.int (x &&& (3 : Int32))), .val (.int c0), .val (.int c1), .val (.int c2)] [(.ref sb), (.ref sb)])) _
    refine GoOn.step (fun tq kq => XS.iconst X75.here hx rfl (hb hby own_d56) kq) ?_
    show GoOn p e below (T75.setTop (mkF m 43 #[.val (.int x), .val (.int (x &&& (3 : Int32))), .val (.int c0), .val (.int c1), .val (.int c2)] [(.int (0 : Int32)), (.ref sb), (.ref sb)])) _
    obtain ⟨T85, h85, k85, X85, e85, Ex85, A85, st85⟩ := newP X75 hx hZ (hw _ (List.mem_of_getElem? (i := 10) rfl)) e75 (g := (mkF m 43 #[.val (.int x), .val (.int (x &&& (3 : Int32))), .val (.int c0), .val (.int c1), .val (.int c2)] [(.int (0 : Int32)), (.ref sb), (.ref sb)])) rfl (hb hby own_d57) rfl (by decide) (cap := 0) (by decide) (by decide) (by decide) (by decide)
    obtain ⟨ca, g85⟩ : ∃ z, z = h75.size := ⟨_, rfl⟩
    rw [← g85] at A85 st85
    have gn86 : n0 ≤ ca := Nat.le_trans Z79 (Nat.le_of_eq g85.symm)
    have sz87 : h0.size ≤ ca := Nat.le_trans K80.1 (Nat.le_of_eq g85.symm)
    have ne88 : sb ≠ ca := Nat.ne_of_lt (Nat.lt_of_lt_of_le A75.lt (Nat.le_of_eq g85.symm))
    have Kx85 : Keep h75 h85 [] := (Keep.refl _ _).ext Ex85
    refine GoOn.step st85 ?_
    have O89 : Old Z n0 h85 := O78.keep Kx85 all0
    have Z90 : n0 ≤ h85.size := Nat.le_trans Z79 Kx85.1
    have K91 : Keep h0 h85 [] := K80.trans Kx85 (all0)
    have C92 : CHr Z own_EL s.vm h0 s.vm h85 := CHr.trans C81 (CHr.keep Kx85 all0 C81.1)
    have E93 : Exa Z h85 sb "java/lang/String" := A75.keep Kx85
    have F94 : Fld Z h85 sb "java/lang/String" "value" "[B" .null := F83.keep Kx85 nin0
    have F95 : Fld Z h85 sb "java/lang/String" "coder" "B" (.int (0 : Int32)) := F84.keep Kx85 nin0
    have hk96 := Nat.le_trans hk82 Kx85.1
    have V97 : Arv Z h85 ca k85 .char (0 : Int32) [] (.int (0 : Int32)) := Arv.new A85 (by decide)
    show GoOn p e below (T85.setTop (mkF m 45 #[.val (.int x), .val (.int (x &&& (3 : Int32))), .val (.int c0), .val (.int c1), .val (.int c2)] [(.ref ca), (.ref sb), (.ref sb)])) _
    obtain ⟨_, _, ⟨T98, L98, k98, n98⟩, -, X98, hS98, hg98, ⟨Lc98, hQ98, l98, y98, z98, Cn98⟩, st98⟩ := X85.specialBackS hx (y := (⟨"java/lang/String", "<init>", "([C)V"⟩ : MethodName)) rfl hown (mvT hZ (hw _ (List.mem_of_getElem? (i := 11) rfl))) (mvT hZ (hw _ (List.mem_of_getElem? (i := 12) rfl))) (mvT hZ (hw _ (List.mem_of_getElem? (i := 13) rfl))) (by decide) (backOfSH (W := 1) (rmS0 l Z a0 hw sb ca k85 h85 n0 Z90 E93 F94 F95 gn76 V97 ne88) hZ (hw _ (List.mem_of_getElem? (i := 13) rfl)) (hw _ (List.mem_of_getElem? (i := 9) rfl)) (by decide) (by decide) hEL C92.1) (g := (mkF m 45 #[.val (.int x), .val (.int (x &&& (3 : Int32))), .val (.int c0), .val (.int c1), .val (.int c2)] [(.ref ca), (.ref sb), (.ref sb)])) rfl (by rw [hml]; rfl) (Steps.refl _) (a := sb) (argsL := [(.ref ca)]) (rest := [(.ref sb)]) (lenOf own_pd59 rfl) rfl (by show 2 * 0 + _ ≤ _; exact Nat.le_of_eq rfl) (hb hby own_d58) (fun _ _ => ⟨rfl, e85, (by decide : 2 + 4 ≤ _), (by decide : 4 + 8 ≤ _)⟩)
    dsimp only [Pt.U, Pt.locs, Pt.cells, Pt.slots] at X98 l98 y98 z98 st98 hQ98 hS98 hg98 Cn98
    subst l98 y98 z98
    obtain ⟨rfl, N98, K98, S98⟩ := hQ98
    refine GoOn.trans st98 ?_
    replace X98 : Stand p l e _ (s.setVm T98.vm) m _ below meth c T98 _ _ _ := X98
    have hZ98 : Z.Warmed39 (s.setVm T98.vm).vm := State.Warmed39.trans (t := (s.setVm s.vm)) hZ hS98.1
    have hown98 : (s.setVm T98.vm).vm.findClass "com/example/patokan/patokan/core/TagEqualsPinLaw" = some m.cls := by rw [show (s.setVm T98.vm).vm = T98.vm from rfl, hS98.1.alike.findClass]; exact hown
    have hSn98 : s.Since T98.vm T98.heap.size := foldS hS0 (by rw [e85]; exact hk96) hS98 hg98
    have hk98 : T98.heap.size ≤ T98.heap.size := Nat.le_refl _
    have N99 := Fr.app N0 N98
    have O100 : Old Z n0 T98.heap := O89.keep K98 (allS gn76 all0)
    have Z101 : n0 ≤ T98.heap.size := Nat.le_trans Z90 K98.1
    have K102 : Keep h0 T98.heap [] := K91.trans K98 ((allS (Or.inr sz77) all0))
    have C103 : CHr Z own_EL s.vm h0 T98.vm T98.heap := CHr.trans C92 Cn98
    have E104 : Exa Z T98.heap sb "java/lang/String" := E93.keep K98
    have V107 : Arv Z T98.heap ca k85 .char (0 : Int32) [] (.int (0 : Int32)) := V97.keep K98 (ninS (Ne.symm ne88) nin0)
    show GoOn p e below (T98.setTop (mkF m 48 #[.val (.int x), .val (.int (x &&& (3 : Int32))), .val (.int c0), .val (.int c1), .val (.int c2)] [(.ref sb)])) _
    refine GoOn.retH X98 hZ98 hSn98 (hk98) hEL hh rfl C103 Bd.notSynchronized (v := some (.ref sb)) (fun h => by rw [Bd.returns] at h; cases h) (fun fs hr => retOut X98 hx Bd.returns rfl (Or.inr (Or.inr (Or.inr (Or.inr ⟨rfl, rfl, rfl⟩)))) (hb hby own_d60) hr) (by decide) (by decide) ?_
    exact ⟨_, rfl, N99, K102, by rw [own_str0 hc74]; exact S98⟩
  · skip
    refine GoOn.step (fun tq kq => XS.ifYes X0.here hx rfl (pc0 := 35) (pc' := 49) rfl (hb hby own_d53) rfl ((if0 _ _).trans (feq hc74).2) (by decide) (by decide) kq) ?_
    show GoOn p e below (s₁.setTop (mkF m 49 #[.val (.int x), .val (.int (x &&& (3 : Int32))), .val (.int c0), .val (.int c1), .val (.int c2)] [])) _
    refine GoOn.step (fun tq kq => XS.iloadN X0.here hx rfl (hb hby own_d61) rfl kq) ?_
    show GoOn p e below (s₁.setTop (mkF m 50 #[.val (.int x), .val (.int (x &&& (3 : Int32))), .val (.int c0), .val (.int c1), .val (.int c2)] [(.int (x &&& (3 : Int32)))])) _
    refine GoOn.step (fun tq kq => XS.iconst X0.here hx rfl (hb hby own_d62) kq) ?_
    show GoOn p e below (s₁.setTop (mkF m 51 #[.val (.int x), .val (.int (x &&& (3 : Int32))), .val (.int c0), .val (.int c1), .val (.int c2)] [(.int (1 : Int32)), (.int (x &&& (3 : Int32)))])) _
    by_cases hc108 : (x &&& (3 : Int32)) = (1 : Int32)
    · skip
      refine GoOn.step (fun tq kq => XS.icmpNo X0.here hx rfl (hb hby own_d63) rfl (teq hc108).2 kq) ?_
      show GoOn p e below (s₁.setTop (mkF m 54 #[.val (.int x), .val (.int (x &&& (3 : Int32))), .val (.int c0), .val (.int c1), .val (.int c2)] [])) _
      obtain ⟨T109, h109, X109, e109, Ex109, A109, Df109, -, st109⟩ := newO X0 hx hZ hown (hw _ (List.mem_of_getElem? (i := 7) rfl)) (hw _ (List.mem_of_getElem? (i := 8) rfl)) (hw _ (List.mem_of_getElem? (i := 9) rfl)) e0 (g := (mkF m 54 #[.val (.int x), .val (.int (x &&& (3 : Int32))), .val (.int c0), .val (.int c1), .val (.int c2)] [])) rfl (hb hby own_d64) (by decide) (by decide)
      obtain ⟨sb, g109⟩ : ∃ z, z = h0.size := ⟨_, rfl⟩
      rw [← g109] at A109 Df109 st109
      have gn110 : n0 ≤ sb := Nat.le_trans Z0 (Nat.le_of_eq g109.symm)
      have sz111 : h0.size ≤ sb := Nat.le_trans K0.1 (Nat.le_of_eq g109.symm)
      have Kx109 : Keep h0 h109 [] := (Keep.refl _ _).ext Ex109
      refine GoOn.step st109 ?_
      have O112 : Old Z n0 h109 := O0.keep Kx109 all0
      have Z113 : n0 ≤ h109.size := Nat.le_trans Z0 Kx109.1
      have K114 : Keep h0 h109 [] := K0.trans Kx109 (all0)
      have C115 : CHr Z own_EL s.vm h0 s.vm h109 := CHr.trans C0 (CHr.keep Kx109 all0 C0.1)
      have hk116 := Nat.le_trans hk0 Kx109.1
      have F117 : Fld Z h109 sb "java/lang/String" "value" "[B" .null := Df109 (Or.inr (hw _ (List.mem_of_getElem? (i := 23) rfl))) (ty := (.array .byte)) (by decide)
      have F118 : Fld Z h109 sb "java/lang/String" "coder" "B" (.int (0 : Int32)) := Df109 (Or.inr (hw _ (List.mem_of_getElem? (i := 24) rfl))) (ty := .byte) (by decide)
      show GoOn p e below (T109.setTop (mkF m 57 #[.val (.int x), .val (.int (x &&& (3 : Int32))), .val (.int c0), .val (.int c1), .val (.int c2)] [(.ref sb)])) _
      refine GoOn.step (fun tq kq => XS.dup X109.here hx rfl (hb hby own_d65) rfl rfl kq) ?_
      show GoOn p e below (T109.setTop (mkF m 58 #[.val (.int x), .val (.int (x &&& (3 : Int32))), .val (.int c0), .val (.int c1), .val (.int c2)] [(.ref sb), (.ref sb)])) _
      refine GoOn.step (fun tq kq => XS.iconst X109.here hx rfl (hb hby own_d66) kq) ?_
      show GoOn p e below (T109.setTop (mkF m 59 #[.val (.int x), .val (.int (x &&& (3 : Int32))), .val (.int c0), .val (.int c1), .val (.int c2)] [(.int (1 : Int32)), (.ref sb), (.ref sb)])) _
      obtain ⟨T119, h119, k119, X119, e119, Ex119, A119, st119⟩ := newP X109 hx hZ (hw _ (List.mem_of_getElem? (i := 10) rfl)) e109 (g := (mkF m 59 #[.val (.int x), .val (.int (x &&& (3 : Int32))), .val (.int c0), .val (.int c1), .val (.int c2)] [(.int (1 : Int32)), (.ref sb), (.ref sb)])) rfl (hb hby own_d67) rfl (by decide) (cap := 1) (by decide) (by decide) (by decide) (by decide)
      obtain ⟨ca, g119⟩ : ∃ z, z = h109.size := ⟨_, rfl⟩
      rw [← g119] at A119 st119
      have gn120 : n0 ≤ ca := Nat.le_trans Z113 (Nat.le_of_eq g119.symm)
      have sz121 : h0.size ≤ ca := Nat.le_trans K114.1 (Nat.le_of_eq g119.symm)
      have ne122 : sb ≠ ca := Nat.ne_of_lt (Nat.lt_of_lt_of_le A109.lt (Nat.le_of_eq g119.symm))
      have Kx119 : Keep h109 h119 [] := (Keep.refl _ _).ext Ex119
      refine GoOn.step st119 ?_
      have O123 : Old Z n0 h119 := O112.keep Kx119 all0
      have Z124 : n0 ≤ h119.size := Nat.le_trans Z113 Kx119.1
      have K125 : Keep h0 h119 [] := K114.trans Kx119 (all0)
      have C126 : CHr Z own_EL s.vm h0 s.vm h119 := CHr.trans C115 (CHr.keep Kx119 all0 C115.1)
      have E127 : Exa Z h119 sb "java/lang/String" := A109.keep Kx119
      have F128 : Fld Z h119 sb "java/lang/String" "value" "[B" .null := F117.keep Kx119 nin0
      have F129 : Fld Z h119 sb "java/lang/String" "coder" "B" (.int (0 : Int32)) := F118.keep Kx119 nin0
      have hk130 := Nat.le_trans hk116 Kx119.1
      have V131 : Arv Z h119 ca k119 .char (1 : Int32) [] (.int (0 : Int32)) := Arv.new A119 (by decide)
      show GoOn p e below (T119.setTop (mkF m 61 #[.val (.int x), .val (.int (x &&& (3 : Int32))), .val (.int c0), .val (.int c1), .val (.int c2)] [(.ref ca), (.ref sb), (.ref sb)])) _
      refine GoOn.step (fun tq kq => XS.dup X119.here hx rfl (hb hby own_d68) rfl rfl kq) ?_
      show GoOn p e below (T119.setTop (mkF m 62 #[.val (.int x), .val (.int (x &&& (3 : Int32))), .val (.int c0), .val (.int c1), .val (.int c2)] [(.ref ca), (.ref ca), (.ref sb), (.ref sb)])) _
      refine GoOn.step (fun tq kq => XS.iconst X119.here hx rfl (hb hby own_d69) kq) ?_
      show GoOn p e below (T119.setTop (mkF m 63 #[.val (.int x), .val (.int (x &&& (3 : Int32))), .val (.int c0), .val (.int c1), .val (.int c2)] [(.int (0 : Int32)), (.ref ca), (.ref ca), (.ref sb), (.ref sb)])) _
      refine GoOn.step (fun tq kq => XS.iloadN X119.here hx rfl (hb hby own_d70) rfl kq) ?_
      show GoOn p e below (T119.setTop (mkF m 64 #[.val (.int x), .val (.int (x &&& (3 : Int32))), .val (.int c0), .val (.int c1), .val (.int c2)] [(.int c0), (.int (0 : Int32)), (.ref ca), (.ref ca), (.ref sb), (.ref sb)])) _
      have V133 : Arv Z h119 ca k119 .char (1 : Int32) [(.int (0 : Int32))] (.int (0 : Int32)) := V131.pad (pad_rep [] (.int (0 : Int32)) 1)
      obtain ⟨cq134, Aq134, qq134, Sq134, Mq134, Hq134, Uq134⟩ := id V133
      obtain ⟨T132, h132, X132, e132, W132, st132⟩ := stC X119 hx hZ e119 Aq134 (j := (0 : Int32)) (inb_of Sq134 ⟨(by decide : ¬ ((0 : Int32) < (0 : Int32))), (by decide : (0 : Int32) < (1 : Int32))⟩) (g := (mkF m 64 #[.val (.int x), .val (.int (x &&& (3 : Int32))), .val (.int c0), .val (.int c1), .val (.int c2)] [(.int c0), (.int (0 : Int32)), (.ref ca), (.ref ca), (.ref sb), (.ref sb)])) rfl rfl (hb hby own_d71)
      have N135 := Fr.snoc X132 N0 gn120
      have V136 : Arv Z h132 ca k119 .char (1 : Int32) [(.int (nar .char c0))] (.int (0 : Int32)) := Arv.set Aq134 qq134 Sq134 Mq134 Hq134 Uq134 (fits_nar_char _) W132 0 rfl (Nat.le_of_ble_eq_true rfl)
      have Kx132 : Keep h119 h132 [ca] := Keep.of_wr W132
      refine GoOn.step st132 ?_
      have O137 : Old Z n0 h132 := O123.keep Kx132 (allS gn120 all0)
      have Z138 : n0 ≤ h132.size := Nat.le_trans Z124 Kx132.1
      have K139 : Keep h0 h132 [] := K125.trans Kx132 ((allS (Or.inr sz121) all0))
      have C140 : CHr Z own_EL s.vm h0 s.vm h132 := CHr.trans C126 (CHr.keep Kx132 (allS (Safe.arv hZ.alike V131 (by decide)) all0) C126.1)
      have E141 : Exa Z h132 sb "java/lang/String" := E127.keep Kx132
      have F142 : Fld Z h132 sb "java/lang/String" "value" "[B" .null := F128.keep Kx132 (ninS ne122 nin0)
      have F143 : Fld Z h132 sb "java/lang/String" "coder" "B" (.int (0 : Int32)) := F129.keep Kx132 (ninS ne122 nin0)
      have hk144 := Nat.le_trans hk130 Kx132.1
      show GoOn p e below (T132.setTop (mkF m 65 #[.val (.int x), .val (.int (x &&& (3 : Int32))), .val (.int c0), .val (.int c1), .val (.int c2)] [(.ref ca), (.ref sb), (.ref sb)])) _
      rw [nar_char_id hb0] at V136
      have hp145 : ∀ c ∈ ([c0] : List Int32), ¬ c < 0 ∧ ¬ (255 : Int32) < c := by
        intro c hc
        simp only [List.mem_cons, List.not_mem_nil, or_false] at hc
        rcases hc with rfl
        · exact hb0
      obtain ⟨_, _, ⟨T146, L146, k146, n146⟩, -, X146, ⟨Lc146, hQ146, l146, y146, z146⟩, st146⟩ := X132.specialBack hx (y := (⟨"java/lang/String", "<init>", "([C)V"⟩ : MethodName)) rfl hown (mvT hZ (hw _ (List.mem_of_getElem? (i := 11) rfl))) (mvT hZ (hw _ (List.mem_of_getElem? (i := 12) rfl))) (mvT hZ (hw _ (List.mem_of_getElem? (i := 13) rfl))) (by decide) (StrChars.Road.backV (W := 1) hZ hws (kI := 4) (hw _ (List.mem_of_getElem? (i := 8) rfl)) (cs := ([c0] : List Int32)) (bs := ([c0] : List Int32).map (fun c => c.toInt8.toInt32)) (n := 1) gn110 Z138 E141 F142 F143 V136 (SC.ext O137.2) PC rfl rfl (by decide) (by decide) hp145 rfl (by decide) (by decide)) (g := (mkF m 65 #[.val (.int x), .val (.int (x &&& (3 : Int32))), .val (.int c0), .val (.int c1), .val (.int c2)] [(.ref ca), (.ref sb), (.ref sb)])) rfl (by rw [hml]; rfl) (Steps.refl _) (a := sb) (argsL := [(.ref ca)]) (rest := [(.ref sb)]) (lenOf own_pd59 rfl) rfl (by show 2 * 0 + _ ≤ _; exact Nat.le_of_eq rfl) (hb hby own_d72) (fun _ _ => ⟨rfl, e132, (by decide : 2 + 1 ≤ _), (by decide : 5 + 1 ≤ _)⟩)
      dsimp only [Pt.U, Pt.locs, Pt.cells, Pt.slots] at X146 l146 y146 z146 st146 hQ146
      subst l146 y146 z146
      obtain ⟨rfl, N146, K146, E146, Fc146, t146, kb146, u146, v146, w146, Fv146, Va146⟩ := hQ146
      refine GoOn.trans st146 ?_
      have N147 := Fr.app N135 N146
      have O148 : Old Z n0 T146.heap := O137.keep K146 (allS gn110 all0)
      have Z149 : n0 ≤ T146.heap.size := Nat.le_trans Z138 K146.1
      have K150 : Keep h0 T146.heap [] := K139.trans K146 ((allS (Or.inr sz111) all0))
      have C151 : CHr Z own_EL s.vm h0 s.vm T146.heap := CHr.trans C140 (CHr.keep K146 (allS (Safe.ofNull hZ.alike E141 F142) all0) C140.1)
      have E152 : Exa Z T146.heap sb "java/lang/String" := E141.keep K146
      have V155 : Arv Z T146.heap ca k119 .char (1 : Int32) [(.int c0)] (.int (0 : Int32)) := V136.keep K146 (ninS (Ne.symm ne122) nin0)
      have hk156 := Nat.le_trans hk144 K146.1
      show GoOn p e below (T146.setTop (mkF m 68 #[.val (.int x), .val (.int (x &&& (3 : Int32))), .val (.int c0), .val (.int c1), .val (.int c2)] [(.ref sb)])) _
      have Sr157 : StrIs Z T146.heap sb ([c0] : List Int32) := ⟨E146, Fc146, hp145, (Nat.le_of_ble_eq_true rfl), t146, kb146, Fv146, Va146⟩
      refine GoOn.retH X146 hZ hS0 (hk156) hEL hh rfl C151 Bd.notSynchronized (v := some (.ref sb)) (fun h => by rw [Bd.returns] at h; cases h) (fun fs hr => retOut X146 hx Bd.returns rfl (Or.inr (Or.inr (Or.inr (Or.inr ⟨rfl, rfl, rfl⟩)))) (hb hby own_d73) hr) (by decide) (by decide) ?_
      exact ⟨_, rfl, N147, K150, by rw [own_str1 hc108, show own_c x 2 = c0 from hgc0]; exact Sr157⟩
    · skip
      refine GoOn.step (fun tq kq => XS.icmpYes X0.here hx rfl (pc0 := 51) (pc' := 69) rfl (hb hby own_d63) rfl (feq hc108).2 (by decide) (by decide) kq) ?_
      show GoOn p e below (s₁.setTop (mkF m 69 #[.val (.int x), .val (.int (x &&& (3 : Int32))), .val (.int c0), .val (.int c1), .val (.int c2)] [])) _
      refine GoOn.step (fun tq kq => XS.iloadN X0.here hx rfl (hb hby own_d74) rfl kq) ?_
      show GoOn p e below (s₁.setTop (mkF m 70 #[.val (.int x), .val (.int (x &&& (3 : Int32))), .val (.int c0), .val (.int c1), .val (.int c2)] [(.int (x &&& (3 : Int32)))])) _
      refine GoOn.step (fun tq kq => XS.iconst X0.here hx rfl (hb hby own_d75) kq) ?_
      show GoOn p e below (s₁.setTop (mkF m 71 #[.val (.int x), .val (.int (x &&& (3 : Int32))), .val (.int c0), .val (.int c1), .val (.int c2)] [(.int (2 : Int32)), (.int (x &&& (3 : Int32)))])) _
      by_cases hc158 : (x &&& (3 : Int32)) = (2 : Int32)
      · skip
        refine GoOn.step (fun tq kq => XS.icmpNo X0.here hx rfl (hb hby own_d76) rfl (teq hc158).2 kq) ?_
        show GoOn p e below (s₁.setTop (mkF m 74 #[.val (.int x), .val (.int (x &&& (3 : Int32))), .val (.int c0), .val (.int c1), .val (.int c2)] [])) _
        obtain ⟨T159, h159, X159, e159, Ex159, A159, Df159, -, st159⟩ := newO X0 hx hZ hown (hw _ (List.mem_of_getElem? (i := 7) rfl)) (hw _ (List.mem_of_getElem? (i := 8) rfl)) (hw _ (List.mem_of_getElem? (i := 9) rfl)) e0 (g := (mkF m 74 #[.val (.int x), .val (.int (x &&& (3 : Int32))), .val (.int c0), .val (.int c1), .val (.int c2)] [])) rfl (hb hby own_d77) (by decide) (by decide)
        obtain ⟨sb, g159⟩ : ∃ z, z = h0.size := ⟨_, rfl⟩
        rw [← g159] at A159 Df159 st159
        have gn160 : n0 ≤ sb := Nat.le_trans Z0 (Nat.le_of_eq g159.symm)
        have sz161 : h0.size ≤ sb := Nat.le_trans K0.1 (Nat.le_of_eq g159.symm)
        have Kx159 : Keep h0 h159 [] := (Keep.refl _ _).ext Ex159
        refine GoOn.step st159 ?_
        have O162 : Old Z n0 h159 := O0.keep Kx159 all0
        have Z163 : n0 ≤ h159.size := Nat.le_trans Z0 Kx159.1
        have K164 : Keep h0 h159 [] := K0.trans Kx159 (all0)
        have C165 : CHr Z own_EL s.vm h0 s.vm h159 := CHr.trans C0 (CHr.keep Kx159 all0 C0.1)
        have hk166 := Nat.le_trans hk0 Kx159.1
        have F167 : Fld Z h159 sb "java/lang/String" "value" "[B" .null := Df159 (Or.inr (hw _ (List.mem_of_getElem? (i := 23) rfl))) (ty := (.array .byte)) (by decide)
        have F168 : Fld Z h159 sb "java/lang/String" "coder" "B" (.int (0 : Int32)) := Df159 (Or.inr (hw _ (List.mem_of_getElem? (i := 24) rfl))) (ty := .byte) (by decide)
        show GoOn p e below (T159.setTop (mkF m 77 #[.val (.int x), .val (.int (x &&& (3 : Int32))), .val (.int c0), .val (.int c1), .val (.int c2)] [(.ref sb)])) _
        refine GoOn.step (fun tq kq => XS.dup X159.here hx rfl (hb hby own_d78) rfl rfl kq) ?_
        show GoOn p e below (T159.setTop (mkF m 78 #[.val (.int x), .val (.int (x &&& (3 : Int32))), .val (.int c0), .val (.int c1), .val (.int c2)] [(.ref sb), (.ref sb)])) _
        refine GoOn.step (fun tq kq => XS.iconst X159.here hx rfl (hb hby own_d79) kq) ?_
        show GoOn p e below (T159.setTop (mkF m 79 #[.val (.int x), .val (.int (x &&& (3 : Int32))), .val (.int c0), .val (.int c1), .val (.int c2)] [(.int (2 : Int32)), (.ref sb), (.ref sb)])) _
        obtain ⟨T169, h169, k169, X169, e169, Ex169, A169, st169⟩ := newP X159 hx hZ (hw _ (List.mem_of_getElem? (i := 10) rfl)) e159 (g := (mkF m 79 #[.val (.int x), .val (.int (x &&& (3 : Int32))), .val (.int c0), .val (.int c1), .val (.int c2)] [(.int (2 : Int32)), (.ref sb), (.ref sb)])) rfl (hb hby own_d80) rfl (by decide) (cap := 2) (by decide) (by decide) (by decide) (by decide)
        obtain ⟨ca, g169⟩ : ∃ z, z = h159.size := ⟨_, rfl⟩
        rw [← g169] at A169 st169
        have gn170 : n0 ≤ ca := Nat.le_trans Z163 (Nat.le_of_eq g169.symm)
        have sz171 : h0.size ≤ ca := Nat.le_trans K164.1 (Nat.le_of_eq g169.symm)
        have ne172 : sb ≠ ca := Nat.ne_of_lt (Nat.lt_of_lt_of_le A159.lt (Nat.le_of_eq g169.symm))
        have Kx169 : Keep h159 h169 [] := (Keep.refl _ _).ext Ex169
        refine GoOn.step st169 ?_
        have O173 : Old Z n0 h169 := O162.keep Kx169 all0
        have Z174 : n0 ≤ h169.size := Nat.le_trans Z163 Kx169.1
        have K175 : Keep h0 h169 [] := K164.trans Kx169 (all0)
        have C176 : CHr Z own_EL s.vm h0 s.vm h169 := CHr.trans C165 (CHr.keep Kx169 all0 C165.1)
        have E177 : Exa Z h169 sb "java/lang/String" := A159.keep Kx169
        have F178 : Fld Z h169 sb "java/lang/String" "value" "[B" .null := F167.keep Kx169 nin0
        have F179 : Fld Z h169 sb "java/lang/String" "coder" "B" (.int (0 : Int32)) := F168.keep Kx169 nin0
        have hk180 := Nat.le_trans hk166 Kx169.1
        have V181 : Arv Z h169 ca k169 .char (2 : Int32) [] (.int (0 : Int32)) := Arv.new A169 (by decide)
        show GoOn p e below (T169.setTop (mkF m 81 #[.val (.int x), .val (.int (x &&& (3 : Int32))), .val (.int c0), .val (.int c1), .val (.int c2)] [(.ref ca), (.ref sb), (.ref sb)])) _
        refine GoOn.step (fun tq kq => XS.dup X169.here hx rfl (hb hby own_d81) rfl rfl kq) ?_
        show GoOn p e below (T169.setTop (mkF m 82 #[.val (.int x), .val (.int (x &&& (3 : Int32))), .val (.int c0), .val (.int c1), .val (.int c2)] [(.ref ca), (.ref ca), (.ref sb), (.ref sb)])) _
        refine GoOn.step (fun tq kq => XS.iconst X169.here hx rfl (hb hby own_d82) kq) ?_
        show GoOn p e below (T169.setTop (mkF m 83 #[.val (.int x), .val (.int (x &&& (3 : Int32))), .val (.int c0), .val (.int c1), .val (.int c2)] [(.int (0 : Int32)), (.ref ca), (.ref ca), (.ref sb), (.ref sb)])) _
        refine GoOn.step (fun tq kq => XS.iloadN X169.here hx rfl (hb hby own_d83) rfl kq) ?_
        show GoOn p e below (T169.setTop (mkF m 84 #[.val (.int x), .val (.int (x &&& (3 : Int32))), .val (.int c0), .val (.int c1), .val (.int c2)] [(.int c0), (.int (0 : Int32)), (.ref ca), (.ref ca), (.ref sb), (.ref sb)])) _
        have V183 : Arv Z h169 ca k169 .char (2 : Int32) [(.int (0 : Int32))] (.int (0 : Int32)) := V181.pad (pad_rep [] (.int (0 : Int32)) 1)
        obtain ⟨cq184, Aq184, qq184, Sq184, Mq184, Hq184, Uq184⟩ := id V183
        obtain ⟨T182, h182, X182, e182, W182, st182⟩ := stC X169 hx hZ e169 Aq184 (j := (0 : Int32)) (inb_of Sq184 ⟨(by decide : ¬ ((0 : Int32) < (0 : Int32))), (by decide : (0 : Int32) < (2 : Int32))⟩) (g := (mkF m 84 #[.val (.int x), .val (.int (x &&& (3 : Int32))), .val (.int c0), .val (.int c1), .val (.int c2)] [(.int c0), (.int (0 : Int32)), (.ref ca), (.ref ca), (.ref sb), (.ref sb)])) rfl rfl (hb hby own_d84)
        have N185 := Fr.snoc X182 N0 gn170
        have V186 : Arv Z h182 ca k169 .char (2 : Int32) [(.int (nar .char c0))] (.int (0 : Int32)) := Arv.set Aq184 qq184 Sq184 Mq184 Hq184 Uq184 (fits_nar_char _) W182 0 rfl (Nat.le_of_ble_eq_true rfl)
        have Kx182 : Keep h169 h182 [ca] := Keep.of_wr W182
        refine GoOn.step st182 ?_
        have O187 : Old Z n0 h182 := O173.keep Kx182 (allS gn170 all0)
        have Z188 : n0 ≤ h182.size := Nat.le_trans Z174 Kx182.1
        have K189 : Keep h0 h182 [] := K175.trans Kx182 ((allS (Or.inr sz171) all0))
        have C190 : CHr Z own_EL s.vm h0 s.vm h182 := CHr.trans C176 (CHr.keep Kx182 (allS (Safe.arv hZ.alike V181 (by decide)) all0) C176.1)
        have E191 : Exa Z h182 sb "java/lang/String" := E177.keep Kx182
        have F192 : Fld Z h182 sb "java/lang/String" "value" "[B" .null := F178.keep Kx182 (ninS ne172 nin0)
        have F193 : Fld Z h182 sb "java/lang/String" "coder" "B" (.int (0 : Int32)) := F179.keep Kx182 (ninS ne172 nin0)
        have hk194 := Nat.le_trans hk180 Kx182.1
        show GoOn p e below (T182.setTop (mkF m 85 #[.val (.int x), .val (.int (x &&& (3 : Int32))), .val (.int c0), .val (.int c1), .val (.int c2)] [(.ref ca), (.ref sb), (.ref sb)])) _
        refine GoOn.step (fun tq kq => XS.dup X182.here hx rfl (hb hby own_d85) rfl rfl kq) ?_
        show GoOn p e below (T182.setTop (mkF m 86 #[.val (.int x), .val (.int (x &&& (3 : Int32))), .val (.int c0), .val (.int c1), .val (.int c2)] [(.ref ca), (.ref ca), (.ref sb), (.ref sb)])) _
        refine GoOn.step (fun tq kq => XS.iconst X182.here hx rfl (hb hby own_d86) kq) ?_
        show GoOn p e below (T182.setTop (mkF m 87 #[.val (.int x), .val (.int (x &&& (3 : Int32))), .val (.int c0), .val (.int c1), .val (.int c2)] [(.int (1 : Int32)), (.ref ca), (.ref ca), (.ref sb), (.ref sb)])) _
        refine GoOn.step (fun tq kq => XS.iloadN X182.here hx rfl (hb hby own_d87) rfl kq) ?_
        show GoOn p e below (T182.setTop (mkF m 88 #[.val (.int x), .val (.int (x &&& (3 : Int32))), .val (.int c0), .val (.int c1), .val (.int c2)] [(.int c1), (.int (1 : Int32)), (.ref ca), (.ref ca), (.ref sb), (.ref sb)])) _
        have V196 : Arv Z h182 ca k169 .char (2 : Int32) [(.int (nar .char c0)), (.int (0 : Int32))] (.int (0 : Int32)) := V186.pad (pad_rep [(.int (nar .char c0))] (.int (0 : Int32)) 1)
        obtain ⟨cq197, Aq197, qq197, Sq197, Mq197, Hq197, Uq197⟩ := id V196
        obtain ⟨T195, h195, X195, e195, W195, st195⟩ := stC X182 hx hZ e182 Aq197 (j := (1 : Int32)) (inb_of Sq197 ⟨(by decide : ¬ ((1 : Int32) < (0 : Int32))), (by decide : (1 : Int32) < (2 : Int32))⟩) (g := (mkF m 88 #[.val (.int x), .val (.int (x &&& (3 : Int32))), .val (.int c0), .val (.int c1), .val (.int c2)] [(.int c1), (.int (1 : Int32)), (.ref ca), (.ref ca), (.ref sb), (.ref sb)])) rfl rfl (hb hby own_d88)
        have N198 := Fr.snoc X195 N185 gn170
        have V199 : Arv Z h195 ca k169 .char (2 : Int32) [(.int (nar .char c0)), (.int (nar .char c1))] (.int (0 : Int32)) := Arv.set Aq197 qq197 Sq197 Mq197 Hq197 Uq197 (fits_nar_char _) W195 1 rfl (Nat.le_of_ble_eq_true rfl)
        have Kx195 : Keep h182 h195 [ca] := Keep.of_wr W195
        refine GoOn.step st195 ?_
        have O200 : Old Z n0 h195 := O187.keep Kx195 (allS gn170 all0)
        have Z201 : n0 ≤ h195.size := Nat.le_trans Z188 Kx195.1
        have K202 : Keep h0 h195 [] := K189.trans Kx195 ((allS (Or.inr sz171) all0))
        have C203 : CHr Z own_EL s.vm h0 s.vm h195 := CHr.trans C190 (CHr.keep Kx195 (allS (Safe.arv hZ.alike V186 (by decide)) all0) C190.1)
        have E204 : Exa Z h195 sb "java/lang/String" := E191.keep Kx195
        have F205 : Fld Z h195 sb "java/lang/String" "value" "[B" .null := F192.keep Kx195 (ninS ne172 nin0)
        have F206 : Fld Z h195 sb "java/lang/String" "coder" "B" (.int (0 : Int32)) := F193.keep Kx195 (ninS ne172 nin0)
        have hk207 := Nat.le_trans hk194 Kx195.1
        show GoOn p e below (T195.setTop (mkF m 89 #[.val (.int x), .val (.int (x &&& (3 : Int32))), .val (.int c0), .val (.int c1), .val (.int c2)] [(.ref ca), (.ref sb), (.ref sb)])) _
        rw [nar_char_id hb0] at V199
        rw [nar_char_id hb1] at V199
        have hp208 : ∀ c ∈ ([c0, c1] : List Int32), ¬ c < 0 ∧ ¬ (255 : Int32) < c := by
          intro c hc
          simp only [List.mem_cons, List.not_mem_nil, or_false] at hc
          rcases hc with rfl | rfl
          · exact hb0
          · exact hb1
        obtain ⟨_, _, ⟨T209, L209, k209, n209⟩, -, X209, ⟨Lc209, hQ209, l209, y209, z209⟩, st209⟩ := X195.specialBack hx (y := (⟨"java/lang/String", "<init>", "([C)V"⟩ : MethodName)) rfl hown (mvT hZ (hw _ (List.mem_of_getElem? (i := 11) rfl))) (mvT hZ (hw _ (List.mem_of_getElem? (i := 12) rfl))) (mvT hZ (hw _ (List.mem_of_getElem? (i := 13) rfl))) (by decide) (StrChars.Road.backV (W := 1) hZ hws (kI := 4) (hw _ (List.mem_of_getElem? (i := 8) rfl)) (cs := ([c0, c1] : List Int32)) (bs := ([c0, c1] : List Int32).map (fun c => c.toInt8.toInt32)) (n := 2) gn160 Z201 E204 F205 F206 V199 (SC.ext O200.2) PC rfl rfl (by decide) (by decide) hp208 rfl (by decide) (by decide)) (g := (mkF m 89 #[.val (.int x), .val (.int (x &&& (3 : Int32))), .val (.int c0), .val (.int c1), .val (.int c2)] [(.ref ca), (.ref sb), (.ref sb)])) rfl (by rw [hml]; rfl) (Steps.refl _) (a := sb) (argsL := [(.ref ca)]) (rest := [(.ref sb)]) (lenOf own_pd59 rfl) rfl (by show 2 * 0 + _ ≤ _; exact Nat.le_of_eq rfl) (hb hby own_d89) (fun _ _ => ⟨rfl, e195, (by decide : 2 + 1 ≤ _), (by decide : 6 + 2 ≤ _)⟩)
        dsimp only [Pt.U, Pt.locs, Pt.cells, Pt.slots] at X209 l209 y209 z209 st209 hQ209
        subst l209 y209 z209
        obtain ⟨rfl, N209, K209, E209, Fc209, t209, kb209, u209, v209, w209, Fv209, Va209⟩ := hQ209
        refine GoOn.trans st209 ?_
        have N210 := Fr.app N198 N209
        have O211 : Old Z n0 T209.heap := O200.keep K209 (allS gn160 all0)
        have Z212 : n0 ≤ T209.heap.size := Nat.le_trans Z201 K209.1
        have K213 : Keep h0 T209.heap [] := K202.trans K209 ((allS (Or.inr sz161) all0))
        have C214 : CHr Z own_EL s.vm h0 s.vm T209.heap := CHr.trans C203 (CHr.keep K209 (allS (Safe.ofNull hZ.alike E204 F205) all0) C203.1)
        have E215 : Exa Z T209.heap sb "java/lang/String" := E204.keep K209
        have V218 : Arv Z T209.heap ca k169 .char (2 : Int32) [(.int c0), (.int c1)] (.int (0 : Int32)) := V199.keep K209 (ninS (Ne.symm ne172) nin0)
        have hk219 := Nat.le_trans hk207 K209.1
        show GoOn p e below (T209.setTop (mkF m 92 #[.val (.int x), .val (.int (x &&& (3 : Int32))), .val (.int c0), .val (.int c1), .val (.int c2)] [(.ref sb)])) _
        have Sr220 : StrIs Z T209.heap sb ([c0, c1] : List Int32) := ⟨E209, Fc209, hp208, (Nat.le_of_ble_eq_true rfl), t209, kb209, Fv209, Va209⟩
        refine GoOn.retH X209 hZ hS0 (hk219) hEL hh rfl C214 Bd.notSynchronized (v := some (.ref sb)) (fun h => by rw [Bd.returns] at h; cases h) (fun fs hr => retOut X209 hx Bd.returns rfl (Or.inr (Or.inr (Or.inr (Or.inr ⟨rfl, rfl, rfl⟩)))) (hb hby own_d90) hr) (by decide) (by decide) ?_
        exact ⟨_, rfl, N210, K213, by rw [own_str2 hc158, show own_c x 2 = c0 from hgc0, show own_c x 10 = c1 from hgc1]; exact Sr220⟩
      · skip
        refine GoOn.step (fun tq kq => XS.icmpYes X0.here hx rfl (pc0 := 71) (pc' := 93) rfl (hb hby own_d76) rfl (feq hc158).2 (by decide) (by decide) kq) ?_
        show GoOn p e below (s₁.setTop (mkF m 93 #[.val (.int x), .val (.int (x &&& (3 : Int32))), .val (.int c0), .val (.int c1), .val (.int c2)] [])) _
        obtain ⟨T221, h221, X221, e221, Ex221, A221, Df221, -, st221⟩ := newO X0 hx hZ hown (hw _ (List.mem_of_getElem? (i := 7) rfl)) (hw _ (List.mem_of_getElem? (i := 8) rfl)) (hw _ (List.mem_of_getElem? (i := 9) rfl)) e0 (g := (mkF m 93 #[.val (.int x), .val (.int (x &&& (3 : Int32))), .val (.int c0), .val (.int c1), .val (.int c2)] [])) rfl (hb hby own_d91) (by decide) (by decide)
        obtain ⟨sb, g221⟩ : ∃ z, z = h0.size := ⟨_, rfl⟩
        rw [← g221] at A221 Df221 st221
        have gn222 : n0 ≤ sb := Nat.le_trans Z0 (Nat.le_of_eq g221.symm)
        have sz223 : h0.size ≤ sb := Nat.le_trans K0.1 (Nat.le_of_eq g221.symm)
        have Kx221 : Keep h0 h221 [] := (Keep.refl _ _).ext Ex221
        refine GoOn.step st221 ?_
        have O224 : Old Z n0 h221 := O0.keep Kx221 all0
        have Z225 : n0 ≤ h221.size := Nat.le_trans Z0 Kx221.1
        have K226 : Keep h0 h221 [] := K0.trans Kx221 (all0)
        have C227 : CHr Z own_EL s.vm h0 s.vm h221 := CHr.trans C0 (CHr.keep Kx221 all0 C0.1)
        have hk228 := Nat.le_trans hk0 Kx221.1
        have F229 : Fld Z h221 sb "java/lang/String" "value" "[B" .null := Df221 (Or.inr (hw _ (List.mem_of_getElem? (i := 23) rfl))) (ty := (.array .byte)) (by decide)
        have F230 : Fld Z h221 sb "java/lang/String" "coder" "B" (.int (0 : Int32)) := Df221 (Or.inr (hw _ (List.mem_of_getElem? (i := 24) rfl))) (ty := .byte) (by decide)
        show GoOn p e below (T221.setTop (mkF m 96 #[.val (.int x), .val (.int (x &&& (3 : Int32))), .val (.int c0), .val (.int c1), .val (.int c2)] [(.ref sb)])) _
        refine GoOn.step (fun tq kq => XS.dup X221.here hx rfl (hb hby own_d92) rfl rfl kq) ?_
        show GoOn p e below (T221.setTop (mkF m 97 #[.val (.int x), .val (.int (x &&& (3 : Int32))), .val (.int c0), .val (.int c1), .val (.int c2)] [(.ref sb), (.ref sb)])) _
        refine GoOn.step (fun tq kq => XS.iconst X221.here hx rfl (hb hby own_d93) kq) ?_
        show GoOn p e below (T221.setTop (mkF m 98 #[.val (.int x), .val (.int (x &&& (3 : Int32))), .val (.int c0), .val (.int c1), .val (.int c2)] [(.int (3 : Int32)), (.ref sb), (.ref sb)])) _
        obtain ⟨T231, h231, k231, X231, e231, Ex231, A231, st231⟩ := newP X221 hx hZ (hw _ (List.mem_of_getElem? (i := 10) rfl)) e221 (g := (mkF m 98 #[.val (.int x), .val (.int (x &&& (3 : Int32))), .val (.int c0), .val (.int c1), .val (.int c2)] [(.int (3 : Int32)), (.ref sb), (.ref sb)])) rfl (hb hby own_d94) rfl (by decide) (cap := 3) (by decide) (by decide) (by decide) (by decide)
        obtain ⟨ca, g231⟩ : ∃ z, z = h221.size := ⟨_, rfl⟩
        rw [← g231] at A231 st231
        have gn232 : n0 ≤ ca := Nat.le_trans Z225 (Nat.le_of_eq g231.symm)
        have sz233 : h0.size ≤ ca := Nat.le_trans K226.1 (Nat.le_of_eq g231.symm)
        have ne234 : sb ≠ ca := Nat.ne_of_lt (Nat.lt_of_lt_of_le A221.lt (Nat.le_of_eq g231.symm))
        have Kx231 : Keep h221 h231 [] := (Keep.refl _ _).ext Ex231
        refine GoOn.step st231 ?_
        have O235 : Old Z n0 h231 := O224.keep Kx231 all0
        have Z236 : n0 ≤ h231.size := Nat.le_trans Z225 Kx231.1
        have K237 : Keep h0 h231 [] := K226.trans Kx231 (all0)
        have C238 : CHr Z own_EL s.vm h0 s.vm h231 := CHr.trans C227 (CHr.keep Kx231 all0 C227.1)
        have E239 : Exa Z h231 sb "java/lang/String" := A221.keep Kx231
        have F240 : Fld Z h231 sb "java/lang/String" "value" "[B" .null := F229.keep Kx231 nin0
        have F241 : Fld Z h231 sb "java/lang/String" "coder" "B" (.int (0 : Int32)) := F230.keep Kx231 nin0
        have hk242 := Nat.le_trans hk228 Kx231.1
        have V243 : Arv Z h231 ca k231 .char (3 : Int32) [] (.int (0 : Int32)) := Arv.new A231 (by decide)
        show GoOn p e below (T231.setTop (mkF m 100 #[.val (.int x), .val (.int (x &&& (3 : Int32))), .val (.int c0), .val (.int c1), .val (.int c2)] [(.ref ca), (.ref sb), (.ref sb)])) _
        refine GoOn.step (fun tq kq => XS.dup X231.here hx rfl (hb hby own_d95) rfl rfl kq) ?_
        show GoOn p e below (T231.setTop (mkF m 101 #[.val (.int x), .val (.int (x &&& (3 : Int32))), .val (.int c0), .val (.int c1), .val (.int c2)] [(.ref ca), (.ref ca), (.ref sb), (.ref sb)])) _
        refine GoOn.step (fun tq kq => XS.iconst X231.here hx rfl (hb hby own_d96) kq) ?_
        show GoOn p e below (T231.setTop (mkF m 102 #[.val (.int x), .val (.int (x &&& (3 : Int32))), .val (.int c0), .val (.int c1), .val (.int c2)] [(.int (0 : Int32)), (.ref ca), (.ref ca), (.ref sb), (.ref sb)])) _
        refine GoOn.step (fun tq kq => XS.iloadN X231.here hx rfl (hb hby own_d97) rfl kq) ?_
        show GoOn p e below (T231.setTop (mkF m 103 #[.val (.int x), .val (.int (x &&& (3 : Int32))), .val (.int c0), .val (.int c1), .val (.int c2)] [(.int c0), (.int (0 : Int32)), (.ref ca), (.ref ca), (.ref sb), (.ref sb)])) _
        have V245 : Arv Z h231 ca k231 .char (3 : Int32) [(.int (0 : Int32))] (.int (0 : Int32)) := V243.pad (pad_rep [] (.int (0 : Int32)) 1)
        obtain ⟨cq246, Aq246, qq246, Sq246, Mq246, Hq246, Uq246⟩ := id V245
        obtain ⟨T244, h244, X244, e244, W244, st244⟩ := stC X231 hx hZ e231 Aq246 (j := (0 : Int32)) (inb_of Sq246 ⟨(by decide : ¬ ((0 : Int32) < (0 : Int32))), (by decide : (0 : Int32) < (3 : Int32))⟩) (g := (mkF m 103 #[.val (.int x), .val (.int (x &&& (3 : Int32))), .val (.int c0), .val (.int c1), .val (.int c2)] [(.int c0), (.int (0 : Int32)), (.ref ca), (.ref ca), (.ref sb), (.ref sb)])) rfl rfl (hb hby own_d98)
        have N247 := Fr.snoc X244 N0 gn232
        have V248 : Arv Z h244 ca k231 .char (3 : Int32) [(.int (nar .char c0))] (.int (0 : Int32)) := Arv.set Aq246 qq246 Sq246 Mq246 Hq246 Uq246 (fits_nar_char _) W244 0 rfl (Nat.le_of_ble_eq_true rfl)
        have Kx244 : Keep h231 h244 [ca] := Keep.of_wr W244
        refine GoOn.step st244 ?_
        have O249 : Old Z n0 h244 := O235.keep Kx244 (allS gn232 all0)
        have Z250 : n0 ≤ h244.size := Nat.le_trans Z236 Kx244.1
        have K251 : Keep h0 h244 [] := K237.trans Kx244 ((allS (Or.inr sz233) all0))
        have C252 : CHr Z own_EL s.vm h0 s.vm h244 := CHr.trans C238 (CHr.keep Kx244 (allS (Safe.arv hZ.alike V243 (by decide)) all0) C238.1)
        have E253 : Exa Z h244 sb "java/lang/String" := E239.keep Kx244
        have F254 : Fld Z h244 sb "java/lang/String" "value" "[B" .null := F240.keep Kx244 (ninS ne234 nin0)
        have F255 : Fld Z h244 sb "java/lang/String" "coder" "B" (.int (0 : Int32)) := F241.keep Kx244 (ninS ne234 nin0)
        have hk256 := Nat.le_trans hk242 Kx244.1
        show GoOn p e below (T244.setTop (mkF m 104 #[.val (.int x), .val (.int (x &&& (3 : Int32))), .val (.int c0), .val (.int c1), .val (.int c2)] [(.ref ca), (.ref sb), (.ref sb)])) _
        refine GoOn.step (fun tq kq => XS.dup X244.here hx rfl (hb hby own_d99) rfl rfl kq) ?_
        show GoOn p e below (T244.setTop (mkF m 105 #[.val (.int x), .val (.int (x &&& (3 : Int32))), .val (.int c0), .val (.int c1), .val (.int c2)] [(.ref ca), (.ref ca), (.ref sb), (.ref sb)])) _
        refine GoOn.step (fun tq kq => XS.iconst X244.here hx rfl (hb hby own_d100) kq) ?_
        show GoOn p e below (T244.setTop (mkF m 106 #[.val (.int x), .val (.int (x &&& (3 : Int32))), .val (.int c0), .val (.int c1), .val (.int c2)] [(.int (1 : Int32)), (.ref ca), (.ref ca), (.ref sb), (.ref sb)])) _
        refine GoOn.step (fun tq kq => XS.iloadN X244.here hx rfl (hb hby own_d101) rfl kq) ?_
        show GoOn p e below (T244.setTop (mkF m 107 #[.val (.int x), .val (.int (x &&& (3 : Int32))), .val (.int c0), .val (.int c1), .val (.int c2)] [(.int c1), (.int (1 : Int32)), (.ref ca), (.ref ca), (.ref sb), (.ref sb)])) _
        have V258 : Arv Z h244 ca k231 .char (3 : Int32) [(.int (nar .char c0)), (.int (0 : Int32))] (.int (0 : Int32)) := V248.pad (pad_rep [(.int (nar .char c0))] (.int (0 : Int32)) 1)
        obtain ⟨cq259, Aq259, qq259, Sq259, Mq259, Hq259, Uq259⟩ := id V258
        obtain ⟨T257, h257, X257, e257, W257, st257⟩ := stC X244 hx hZ e244 Aq259 (j := (1 : Int32)) (inb_of Sq259 ⟨(by decide : ¬ ((1 : Int32) < (0 : Int32))), (by decide : (1 : Int32) < (3 : Int32))⟩) (g := (mkF m 107 #[.val (.int x), .val (.int (x &&& (3 : Int32))), .val (.int c0), .val (.int c1), .val (.int c2)] [(.int c1), (.int (1 : Int32)), (.ref ca), (.ref ca), (.ref sb), (.ref sb)])) rfl rfl (hb hby own_d102)
        have N260 := Fr.snoc X257 N247 gn232
        have V261 : Arv Z h257 ca k231 .char (3 : Int32) [(.int (nar .char c0)), (.int (nar .char c1))] (.int (0 : Int32)) := Arv.set Aq259 qq259 Sq259 Mq259 Hq259 Uq259 (fits_nar_char _) W257 1 rfl (Nat.le_of_ble_eq_true rfl)
        have Kx257 : Keep h244 h257 [ca] := Keep.of_wr W257
        refine GoOn.step st257 ?_
        have O262 : Old Z n0 h257 := O249.keep Kx257 (allS gn232 all0)
        have Z263 : n0 ≤ h257.size := Nat.le_trans Z250 Kx257.1
        have K264 : Keep h0 h257 [] := K251.trans Kx257 ((allS (Or.inr sz233) all0))
        have C265 : CHr Z own_EL s.vm h0 s.vm h257 := CHr.trans C252 (CHr.keep Kx257 (allS (Safe.arv hZ.alike V248 (by decide)) all0) C252.1)
        have E266 : Exa Z h257 sb "java/lang/String" := E253.keep Kx257
        have F267 : Fld Z h257 sb "java/lang/String" "value" "[B" .null := F254.keep Kx257 (ninS ne234 nin0)
        have F268 : Fld Z h257 sb "java/lang/String" "coder" "B" (.int (0 : Int32)) := F255.keep Kx257 (ninS ne234 nin0)
        have hk269 := Nat.le_trans hk256 Kx257.1
        show GoOn p e below (T257.setTop (mkF m 108 #[.val (.int x), .val (.int (x &&& (3 : Int32))), .val (.int c0), .val (.int c1), .val (.int c2)] [(.ref ca), (.ref sb), (.ref sb)])) _
        refine GoOn.step (fun tq kq => XS.dup X257.here hx rfl (hb hby own_d103) rfl rfl kq) ?_
        show GoOn p e below (T257.setTop (mkF m 109 #[.val (.int x), .val (.int (x &&& (3 : Int32))), .val (.int c0), .val (.int c1), .val (.int c2)] [(.ref ca), (.ref ca), (.ref sb), (.ref sb)])) _
        refine GoOn.step (fun tq kq => XS.iconst X257.here hx rfl (hb hby own_d104) kq) ?_
        show GoOn p e below (T257.setTop (mkF m 110 #[.val (.int x), .val (.int (x &&& (3 : Int32))), .val (.int c0), .val (.int c1), .val (.int c2)] [(.int (2 : Int32)), (.ref ca), (.ref ca), (.ref sb), (.ref sb)])) _
        refine GoOn.step (fun tq kq => XS.iload X257.here hx rfl (hb hby own_d105) rfl kq) ?_
        show GoOn p e below (T257.setTop (mkF m 112 #[.val (.int x), .val (.int (x &&& (3 : Int32))), .val (.int c0), .val (.int c1), .val (.int c2)] [(.int c2), (.int (2 : Int32)), (.ref ca), (.ref ca), (.ref sb), (.ref sb)])) _
        have V271 : Arv Z h257 ca k231 .char (3 : Int32) [(.int (nar .char c0)), (.int (nar .char c1)), (.int (0 : Int32))] (.int (0 : Int32)) := V261.pad (pad_rep [(.int (nar .char c0)), (.int (nar .char c1))] (.int (0 : Int32)) 1)
        obtain ⟨cq272, Aq272, qq272, Sq272, Mq272, Hq272, Uq272⟩ := id V271
        obtain ⟨T270, h270, X270, e270, W270, st270⟩ := stC X257 hx hZ e257 Aq272 (j := (2 : Int32)) (inb_of Sq272 ⟨(by decide : ¬ ((2 : Int32) < (0 : Int32))), (by decide : (2 : Int32) < (3 : Int32))⟩) (g := (mkF m 112 #[.val (.int x), .val (.int (x &&& (3 : Int32))), .val (.int c0), .val (.int c1), .val (.int c2)] [(.int c2), (.int (2 : Int32)), (.ref ca), (.ref ca), (.ref sb), (.ref sb)])) rfl rfl (hb hby own_d106)
        have N273 := Fr.snoc X270 N260 gn232
        have V274 : Arv Z h270 ca k231 .char (3 : Int32) [(.int (nar .char c0)), (.int (nar .char c1)), (.int (nar .char c2))] (.int (0 : Int32)) := Arv.set Aq272 qq272 Sq272 Mq272 Hq272 Uq272 (fits_nar_char _) W270 2 rfl (Nat.le_of_ble_eq_true rfl)
        have Kx270 : Keep h257 h270 [ca] := Keep.of_wr W270
        refine GoOn.step st270 ?_
        have O275 : Old Z n0 h270 := O262.keep Kx270 (allS gn232 all0)
        have Z276 : n0 ≤ h270.size := Nat.le_trans Z263 Kx270.1
        have K277 : Keep h0 h270 [] := K264.trans Kx270 ((allS (Or.inr sz233) all0))
        have C278 : CHr Z own_EL s.vm h0 s.vm h270 := CHr.trans C265 (CHr.keep Kx270 (allS (Safe.arv hZ.alike V261 (by decide)) all0) C265.1)
        have E279 : Exa Z h270 sb "java/lang/String" := E266.keep Kx270
        have F280 : Fld Z h270 sb "java/lang/String" "value" "[B" .null := F267.keep Kx270 (ninS ne234 nin0)
        have F281 : Fld Z h270 sb "java/lang/String" "coder" "B" (.int (0 : Int32)) := F268.keep Kx270 (ninS ne234 nin0)
        have hk282 := Nat.le_trans hk269 Kx270.1
        show GoOn p e below (T270.setTop (mkF m 113 #[.val (.int x), .val (.int (x &&& (3 : Int32))), .val (.int c0), .val (.int c1), .val (.int c2)] [(.ref ca), (.ref sb), (.ref sb)])) _
        rw [nar_char_id hb0] at V274
        rw [nar_char_id hb1] at V274
        rw [nar_char_id hb2] at V274
        have hp283 : ∀ c ∈ ([c0, c1, c2] : List Int32), ¬ c < 0 ∧ ¬ (255 : Int32) < c := by
          intro c hc
          simp only [List.mem_cons, List.not_mem_nil, or_false] at hc
          rcases hc with rfl | rfl | rfl
          · exact hb0
          · exact hb1
          · exact hb2
        obtain ⟨_, _, ⟨T284, L284, k284, n284⟩, -, X284, ⟨Lc284, hQ284, l284, y284, z284⟩, st284⟩ := X270.specialBack hx (y := (⟨"java/lang/String", "<init>", "([C)V"⟩ : MethodName)) rfl hown (mvT hZ (hw _ (List.mem_of_getElem? (i := 11) rfl))) (mvT hZ (hw _ (List.mem_of_getElem? (i := 12) rfl))) (mvT hZ (hw _ (List.mem_of_getElem? (i := 13) rfl))) (by decide) (StrChars.Road.backV (W := 1) hZ hws (kI := 4) (hw _ (List.mem_of_getElem? (i := 8) rfl)) (cs := ([c0, c1, c2] : List Int32)) (bs := ([c0, c1, c2] : List Int32).map (fun c => c.toInt8.toInt32)) (n := 3) gn222 Z276 E279 F280 F281 V274 (SC.ext O275.2) PC rfl rfl (by decide) (by decide) hp283 rfl (by decide) (by decide)) (g := (mkF m 113 #[.val (.int x), .val (.int (x &&& (3 : Int32))), .val (.int c0), .val (.int c1), .val (.int c2)] [(.ref ca), (.ref sb), (.ref sb)])) rfl (by rw [hml]; rfl) (Steps.refl _) (a := sb) (argsL := [(.ref ca)]) (rest := [(.ref sb)]) (lenOf own_pd59 rfl) rfl (by show 2 * 0 + _ ≤ _; exact Nat.le_of_eq rfl) (hb hby own_d107) (fun _ _ => ⟨rfl, e270, (by decide : 2 + 1 ≤ _), (by decide : 7 + 3 ≤ _)⟩)
        dsimp only [Pt.U, Pt.locs, Pt.cells, Pt.slots] at X284 l284 y284 z284 st284 hQ284
        subst l284 y284 z284
        obtain ⟨rfl, N284, K284, E284, Fc284, t284, kb284, u284, v284, w284, Fv284, Va284⟩ := hQ284
        refine GoOn.trans st284 ?_
        have N285 := Fr.app N273 N284
        have O286 : Old Z n0 T284.heap := O275.keep K284 (allS gn222 all0)
        have Z287 : n0 ≤ T284.heap.size := Nat.le_trans Z276 K284.1
        have K288 : Keep h0 T284.heap [] := K277.trans K284 ((allS (Or.inr sz223) all0))
        have C289 : CHr Z own_EL s.vm h0 s.vm T284.heap := CHr.trans C278 (CHr.keep K284 (allS (Safe.ofNull hZ.alike E279 F280) all0) C278.1)
        have E290 : Exa Z T284.heap sb "java/lang/String" := E279.keep K284
        have V293 : Arv Z T284.heap ca k231 .char (3 : Int32) [(.int c0), (.int c1), (.int c2)] (.int (0 : Int32)) := V274.keep K284 (ninS (Ne.symm ne234) nin0)
        have hk294 := Nat.le_trans hk282 K284.1
        show GoOn p e below (T284.setTop (mkF m 116 #[.val (.int x), .val (.int (x &&& (3 : Int32))), .val (.int c0), .val (.int c1), .val (.int c2)] [(.ref sb)])) _
        have Sr295 : StrIs Z T284.heap sb ([c0, c1, c2] : List Int32) := ⟨E284, Fc284, hp283, (Nat.le_of_ble_eq_true rfl), t284, kb284, Fv284, Va284⟩
        refine GoOn.retH X284 hZ hS0 (hk294) hEL hh rfl C289 Bd.notSynchronized (v := some (.ref sb)) (fun h => by rw [Bd.returns] at h; cases h) (fun fs hr => retOut X284 hx Bd.returns rfl (Or.inr (Or.inr (Or.inr (Or.inr ⟨rfl, rfl, rfl⟩)))) (hb hby own_d108) hr) (by decide) (by decide) ?_
        exact ⟨_, rfl, N285, K288, by rw [own_str3 ((own_and3 x).elim (fun q => absurd q hc74) (fun q => q.elim (fun q => absurd q hc108) (fun q => q.elim (fun q => absurd q hc158) id))), show own_c x 2 = c0 from hgc0, show own_c x 10 = c1 from hgc1, show own_c x 18 = c2 from hgc2]; exact Sr295⟩
set_option maxRecDepth 65536 in
set_option maxHeartbeats 40000000 in
theorem rmSame (l : Launch) (Z : State) (a0 : Array Value) (hw : ∀ d ∈ tables_1, d.before a0 Z = true) (x y : Int32) (h0 : Heap) (n0 : Nat) (Z0 : n0 ≤ h0.size) :
    MetFree l (⟨"com/example/patokan/patokan/core/TagEqualsPinLaw", "same", "(II)Z"⟩ : MethodName) (head1 [Jvm.Cond.code (⟨"com/example/patokan/patokan/core/TagEqualsPinLaw", "same", "(II)Z"⟩ : MethodName) method_3_code 3 (some .boolean)] ({ frames := 0, cells := 0, slots := 0, locals := 0 } : Room)) (fun aa U => aa = #[(.int x), (.int y)] ∧ Z.Warmed39 U.vm ∧ U.heap = h0) (fun _ _ _ _ _ => True) (fun _ U o U' => ∃ v L, o = .returned v ∧ QSame (.int (if own_str x = own_str y then 1 else 0)) h0 n0 v U'.heap L ∧ FrameEnd U o U' L ({ frames := 0, cells := 0, slots := 0, locals := 0 } : Room).cells ({ frames := 0, cells := 0, slots := 0, locals := 0 } : Room).slots) := by
  refine MetFree.of_bodySF (plainFor_of_name own_pn26) hisR ?_
  intro p e s m args below meth c s₁ Bd hml0 hP hK
  obtain ⟨rfl, hZ, hh⟩ := hP
  have hx := Bd.exec
  have hby := Bd.bytes
  have hml : c.maxLocals = 3 := hml0
  have hown : s.vm.findClass "com/example/patokan/patokan/core/TagEqualsPinLaw" = some m.cls := findClass_of_methodNamed Bd.named
  have hnm := (name_of_methodNamed Bd.named Bd.method).1
  have X0 : Stand p l e ({ frames := 0, cells := 0, slots := 0, locals := 0 } : Room) s m #[(.int x), (.int y)] below meth c s₁ [] 0 0 := Stand.of_body Bd
  have e0 : s₁.heap = h0 := by rw [← hh, Bd.state]; rfl
  have N0 := Fr.nil n0
  have K0 : Keep h0 h0 [] := Keep.refl _ _
  show GoOn p e below (s₁.setTop (entryFrame m #[(.int x), (.int y)] 3)) (PostN s (QSame (.int (if own_str x = own_str y then 1 else 0)) h0 n0) ({ frames := 0, cells := 0, slots := 0, locals := 0 } : Room).cells ({ frames := 0, cells := 0, slots := 0, locals := 0 } : Room).slots)
  refine GoOn.step (fun tq kq => castTop (own_ef109 m x y) kq) ?_
  show GoOn p e below (s₁.setTop (mkF m 0 #[.val (.int x), .val (.int y), .unset] [])) _
  refine GoOn.step (fun tq kq => XS.iloadN X0.here hx rfl (hb hby own_d110) rfl kq) ?_
  show GoOn p e below (s₁.setTop (mkF m 1 #[.val (.int x), .val (.int y), .unset] [(.int x)])) _
  refine GoOn.step (fun tq kq => XS.iconst X0.here hx rfl (hb hby own_d111) kq) ?_
  show GoOn p e below (s₁.setTop (mkF m 2 #[.val (.int x), .val (.int y), .unset] [(.int (3 : Int32)), (.int x)])) _
  refine GoOn.step (fun tq kq => XS.iand X0.here hx rfl (hb hby own_d112) rfl kq) ?_
  show GoOn p e below (s₁.setTop (mkF m 3 #[.val (.int x), .val (.int y), .unset] [(.int (x &&& (3 : Int32)))])) _
  refine GoOn.step (fun tq kq => XS.istoreN X0.here hx rfl (hb hby own_d113) rfl (l' := #[.val (.int x), .val (.int y), .val (.int (x &&& (3 : Int32)))]) rfl kq) ?_
  show GoOn p e below (s₁.setTop (mkF m 4 #[.val (.int x), .val (.int y), .val (.int (x &&& (3 : Int32)))] [])) _
  refine GoOn.step (fun tq kq => XS.iloadN X0.here hx rfl (hb hby own_d114) rfl kq) ?_
  show GoOn p e below (s₁.setTop (mkF m 5 #[.val (.int x), .val (.int y), .val (.int (x &&& (3 : Int32)))] [(.int (x &&& (3 : Int32)))])) _
  refine GoOn.step (fun tq kq => XS.iloadN X0.here hx rfl (hb hby own_d115) rfl kq) ?_
  show GoOn p e below (s₁.setTop (mkF m 6 #[.val (.int x), .val (.int y), .val (.int (x &&& (3 : Int32)))] [(.int y), (.int (x &&& (3 : Int32)))])) _
  refine GoOn.step (fun tq kq => XS.iconst X0.here hx rfl (hb hby own_d116) kq) ?_
  show GoOn p e below (s₁.setTop (mkF m 7 #[.val (.int x), .val (.int y), .val (.int (x &&& (3 : Int32)))] [(.int (3 : Int32)), (.int y), (.int (x &&& (3 : Int32)))])) _
  refine GoOn.step (fun tq kq => XS.iand X0.here hx rfl (hb hby own_d117) rfl kq) ?_
  show GoOn p e below (s₁.setTop (mkF m 8 #[.val (.int x), .val (.int y), .val (.int (x &&& (3 : Int32)))] [(.int (y &&& (3 : Int32))), (.int (x &&& (3 : Int32)))])) _
  by_cases hc296 : (x &&& (3 : Int32)) = (y &&& (3 : Int32))
  · skip
    refine GoOn.step (fun tq kq => XS.icmpYes X0.here hx rfl (pc0 := 8) (pc' := 13) rfl (hb hby own_d118) rfl (teq hc296).1 (by decide) (by decide) kq) ?_
    show GoOn p e below (s₁.setTop (mkF m 13 #[.val (.int x), .val (.int y), .val (.int (x &&& (3 : Int32)))] [])) _
    refine GoOn.step (fun tq kq => XS.iloadN X0.here hx rfl (hb hby own_d119) rfl kq) ?_
    show GoOn p e below (s₁.setTop (mkF m 14 #[.val (.int x), .val (.int y), .val (.int (x &&& (3 : Int32)))] [(.int (x &&& (3 : Int32)))])) _
    by_cases hc297 : 0 < (x &&& (3 : Int32))
    · skip
      refine GoOn.step (fun tq kq => XS.ifNo X0.here hx rfl (hb hby own_d120) rfl ((if0 _ _).trans (tlt hc297).2.2.2) kq) ?_
      show GoOn p e below (s₁.setTop (mkF m 17 #[.val (.int x), .val (.int y), .val (.int (x &&& (3 : Int32)))] [])) _
      refine GoOn.step (fun tq kq => XS.iloadN X0.here hx rfl (hb hby own_d121) rfl kq) ?_
      show GoOn p e below (s₁.setTop (mkF m 18 #[.val (.int x), .val (.int y), .val (.int (x &&& (3 : Int32)))] [(.int x)])) _
      refine GoOn.step (fun tq kq => XS.iconst X0.here hx rfl (hb hby own_d122) kq) ?_
      show GoOn p e below (s₁.setTop (mkF m 19 #[.val (.int x), .val (.int y), .val (.int (x &&& (3 : Int32)))] [(.int (2 : Int32)), (.int x)])) _
      refine GoOn.step (fun tq kq => XS.iushr X0.here hx rfl (hb hby own_d123) rfl kq) ?_
      show GoOn p e below (s₁.setTop (mkF m 20 #[.val (.int x), .val (.int y), .val (.int (x &&& (3 : Int32)))] [(.int (((x).toUInt32 >>> ((2 : Int32) &&& 31).toUInt32).toInt32))])) _
      refine GoOn.step (fun tq kq => XS.sipush X0.here hx rfl (hb hby own_d124) kq) ?_
      show GoOn p e below (s₁.setTop (mkF m 23 #[.val (.int x), .val (.int y), .val (.int (x &&& (3 : Int32)))] [(.int (255 : Int32)), (.int (((x).toUInt32 >>> ((2 : Int32) &&& 31).toUInt32).toInt32))])) _
      refine GoOn.step (fun tq kq => XS.iand X0.here hx rfl (hb hby own_d125) rfl kq) ?_
      show GoOn p e below (s₁.setTop (mkF m 24 #[.val (.int x), .val (.int y), .val (.int (x &&& (3 : Int32)))] [(.int ((((x).toUInt32 >>> ((2 : Int32) &&& 31).toUInt32).toInt32) &&& (255 : Int32)))])) _
      refine GoOn.step (fun tq kq => XS.iloadN X0.here hx rfl (hb hby own_d126) rfl kq) ?_
      show GoOn p e below (s₁.setTop (mkF m 25 #[.val (.int x), .val (.int y), .val (.int (x &&& (3 : Int32)))] [(.int y), (.int ((((x).toUInt32 >>> ((2 : Int32) &&& 31).toUInt32).toInt32) &&& (255 : Int32)))])) _
      refine GoOn.step (fun tq kq => XS.iconst X0.here hx rfl (hb hby own_d127) kq) ?_
      show GoOn p e below (s₁.setTop (mkF m 26 #[.val (.int x), .val (.int y), .val (.int (x &&& (3 : Int32)))] [(.int (2 : Int32)), (.int y), (.int ((((x).toUInt32 >>> ((2 : Int32) &&& 31).toUInt32).toInt32) &&& (255 : Int32)))])) _
      refine GoOn.step (fun tq kq => XS.iushr X0.here hx rfl (hb hby own_d128) rfl kq) ?_
      show GoOn p e below (s₁.setTop (mkF m 27 #[.val (.int x), .val (.int y), .val (.int (x &&& (3 : Int32)))] [(.int (((y).toUInt32 >>> ((2 : Int32) &&& 31).toUInt32).toInt32)), (.int ((((x).toUInt32 >>> ((2 : Int32) &&& 31).toUInt32).toInt32) &&& (255 : Int32)))])) _
      refine GoOn.step (fun tq kq => XS.sipush X0.here hx rfl (hb hby own_d129) kq) ?_
      show GoOn p e below (s₁.setTop (mkF m 30 #[.val (.int x), .val (.int y), .val (.int (x &&& (3 : Int32)))] [(.int (255 : Int32)), (.int (((y).toUInt32 >>> ((2 : Int32) &&& 31).toUInt32).toInt32)), (.int ((((x).toUInt32 >>> ((2 : Int32) &&& 31).toUInt32).toInt32) &&& (255 : Int32)))])) _
      refine GoOn.step (fun tq kq => XS.iand X0.here hx rfl (hb hby own_d130) rfl kq) ?_
      show GoOn p e below (s₁.setTop (mkF m 31 #[.val (.int x), .val (.int y), .val (.int (x &&& (3 : Int32)))] [(.int ((((y).toUInt32 >>> ((2 : Int32) &&& 31).toUInt32).toInt32) &&& (255 : Int32))), (.int ((((x).toUInt32 >>> ((2 : Int32) &&& 31).toUInt32).toInt32) &&& (255 : Int32)))])) _
      by_cases hc298 : ((((x).toUInt32 >>> ((2 : Int32) &&& 31).toUInt32).toInt32) &&& (255 : Int32)) = ((((y).toUInt32 >>> ((2 : Int32) &&& 31).toUInt32).toInt32) &&& (255 : Int32))
      · skip
        refine GoOn.step (fun tq kq => XS.icmpYes X0.here hx rfl (pc0 := 31) (pc' := 36) rfl (hb hby own_d131) rfl (teq hc298).1 (by decide) (by decide) kq) ?_
        show GoOn p e below (s₁.setTop (mkF m 36 #[.val (.int x), .val (.int y), .val (.int (x &&& (3 : Int32)))] [])) _
        refine GoOn.step (fun tq kq => XS.iloadN X0.here hx rfl (hb hby own_d132) rfl kq) ?_
        show GoOn p e below (s₁.setTop (mkF m 37 #[.val (.int x), .val (.int y), .val (.int (x &&& (3 : Int32)))] [(.int (x &&& (3 : Int32)))])) _
        refine GoOn.step (fun tq kq => XS.iconst X0.here hx rfl (hb hby own_d133) kq) ?_
        show GoOn p e below (s₁.setTop (mkF m 38 #[.val (.int x), .val (.int y), .val (.int (x &&& (3 : Int32)))] [(.int (1 : Int32)), (.int (x &&& (3 : Int32)))])) _
        by_cases hc299 : (1 : Int32) < (x &&& (3 : Int32))
        · skip
          refine GoOn.step (fun tq kq => XS.icmpNo X0.here hx rfl (hb hby own_d134) rfl (tlt hc299).2.2.2 kq) ?_
          show GoOn p e below (s₁.setTop (mkF m 41 #[.val (.int x), .val (.int y), .val (.int (x &&& (3 : Int32)))] [])) _
          refine GoOn.step (fun tq kq => XS.iloadN X0.here hx rfl (hb hby own_d135) rfl kq) ?_
          show GoOn p e below (s₁.setTop (mkF m 42 #[.val (.int x), .val (.int y), .val (.int (x &&& (3 : Int32)))] [(.int x)])) _
          refine GoOn.step (fun tq kq => XS.bipush X0.here hx rfl (hb hby own_d136) kq) ?_
          show GoOn p e below (s₁.setTop (mkF m 44 #[.val (.int x), .val (.int y), .val (.int (x &&& (3 : Int32)))] [(.int (10 : Int32)), (.int x)])) _
          refine GoOn.step (fun tq kq => XS.iushr X0.here hx rfl (hb hby own_d137) rfl kq) ?_
          show GoOn p e below (s₁.setTop (mkF m 45 #[.val (.int x), .val (.int y), .val (.int (x &&& (3 : Int32)))] [(.int (((x).toUInt32 >>> ((10 : Int32) &&& 31).toUInt32).toInt32))])) _
          refine GoOn.step (fun tq kq => XS.sipush X0.here hx rfl (hb hby own_d138) kq) ?_
          show GoOn p e below (s₁.setTop (mkF m 48 #[.val (.int x), .val (.int y), .val (.int (x &&& (3 : Int32)))] [(.int (255 : Int32)), (.int (((x).toUInt32 >>> ((10 : Int32) &&& 31).toUInt32).toInt32))])) _
          refine GoOn.step (fun tq kq => XS.iand X0.here hx rfl (hb hby own_d139) rfl kq) ?_
          show GoOn p e below (s₁.setTop (mkF m 49 #[.val (.int x), .val (.int y), .val (.int (x &&& (3 : Int32)))] [(.int ((((x).toUInt32 >>> ((10 : Int32) &&& 31).toUInt32).toInt32) &&& (255 : Int32)))])) _
          refine GoOn.step (fun tq kq => XS.iloadN X0.here hx rfl (hb hby own_d140) rfl kq) ?_
          show GoOn p e below (s₁.setTop (mkF m 50 #[.val (.int x), .val (.int y), .val (.int (x &&& (3 : Int32)))] [(.int y), (.int ((((x).toUInt32 >>> ((10 : Int32) &&& 31).toUInt32).toInt32) &&& (255 : Int32)))])) _
          refine GoOn.step (fun tq kq => XS.bipush X0.here hx rfl (hb hby own_d141) kq) ?_
          show GoOn p e below (s₁.setTop (mkF m 52 #[.val (.int x), .val (.int y), .val (.int (x &&& (3 : Int32)))] [(.int (10 : Int32)), (.int y), (.int ((((x).toUInt32 >>> ((10 : Int32) &&& 31).toUInt32).toInt32) &&& (255 : Int32)))])) _
          refine GoOn.step (fun tq kq => XS.iushr X0.here hx rfl (hb hby own_d142) rfl kq) ?_
          show GoOn p e below (s₁.setTop (mkF m 53 #[.val (.int x), .val (.int y), .val (.int (x &&& (3 : Int32)))] [(.int (((y).toUInt32 >>> ((10 : Int32) &&& 31).toUInt32).toInt32)), (.int ((((x).toUInt32 >>> ((10 : Int32) &&& 31).toUInt32).toInt32) &&& (255 : Int32)))])) _
          refine GoOn.step (fun tq kq => XS.sipush X0.here hx rfl (hb hby own_d143) kq) ?_
          show GoOn p e below (s₁.setTop (mkF m 56 #[.val (.int x), .val (.int y), .val (.int (x &&& (3 : Int32)))] [(.int (255 : Int32)), (.int (((y).toUInt32 >>> ((10 : Int32) &&& 31).toUInt32).toInt32)), (.int ((((x).toUInt32 >>> ((10 : Int32) &&& 31).toUInt32).toInt32) &&& (255 : Int32)))])) _
          refine GoOn.step (fun tq kq => XS.iand X0.here hx rfl (hb hby own_d144) rfl kq) ?_
          show GoOn p e below (s₁.setTop (mkF m 57 #[.val (.int x), .val (.int y), .val (.int (x &&& (3 : Int32)))] [(.int ((((y).toUInt32 >>> ((10 : Int32) &&& 31).toUInt32).toInt32) &&& (255 : Int32))), (.int ((((x).toUInt32 >>> ((10 : Int32) &&& 31).toUInt32).toInt32) &&& (255 : Int32)))])) _
          by_cases hc300 : ((((x).toUInt32 >>> ((10 : Int32) &&& 31).toUInt32).toInt32) &&& (255 : Int32)) = ((((y).toUInt32 >>> ((10 : Int32) &&& 31).toUInt32).toInt32) &&& (255 : Int32))
          · skip
            refine GoOn.step (fun tq kq => XS.icmpYes X0.here hx rfl (pc0 := 57) (pc' := 62) rfl (hb hby own_d145) rfl (teq hc300).1 (by decide) (by decide) kq) ?_
            show GoOn p e below (s₁.setTop (mkF m 62 #[.val (.int x), .val (.int y), .val (.int (x &&& (3 : Int32)))] [])) _
            refine GoOn.step (fun tq kq => XS.iloadN X0.here hx rfl (hb hby own_d146) rfl kq) ?_
            show GoOn p e below (s₁.setTop (mkF m 63 #[.val (.int x), .val (.int y), .val (.int (x &&& (3 : Int32)))] [(.int (x &&& (3 : Int32)))])) _
            refine GoOn.step (fun tq kq => XS.iconst X0.here hx rfl (hb hby own_d147) kq) ?_
            show GoOn p e below (s₁.setTop (mkF m 64 #[.val (.int x), .val (.int y), .val (.int (x &&& (3 : Int32)))] [(.int (2 : Int32)), (.int (x &&& (3 : Int32)))])) _
            by_cases hc301 : (2 : Int32) < (x &&& (3 : Int32))
            · skip
              refine GoOn.step (fun tq kq => XS.icmpNo X0.here hx rfl (hb hby own_d148) rfl (tlt hc301).2.2.2 kq) ?_
              show GoOn p e below (s₁.setTop (mkF m 67 #[.val (.int x), .val (.int y), .val (.int (x &&& (3 : Int32)))] [])) _
              refine GoOn.step (fun tq kq => XS.iloadN X0.here hx rfl (hb hby own_d149) rfl kq) ?_
              show GoOn p e below (s₁.setTop (mkF m 68 #[.val (.int x), .val (.int y), .val (.int (x &&& (3 : Int32)))] [(.int x)])) _
              refine GoOn.step (fun tq kq => XS.bipush X0.here hx rfl (hb hby own_d150) kq) ?_
              show GoOn p e below (s₁.setTop (mkF m 70 #[.val (.int x), .val (.int y), .val (.int (x &&& (3 : Int32)))] [(.int (18 : Int32)), (.int x)])) _
              refine GoOn.step (fun tq kq => XS.iushr X0.here hx rfl (hb hby own_d151) rfl kq) ?_
              show GoOn p e below (s₁.setTop (mkF m 71 #[.val (.int x), .val (.int y), .val (.int (x &&& (3 : Int32)))] [(.int (((x).toUInt32 >>> ((18 : Int32) &&& 31).toUInt32).toInt32))])) _
              refine GoOn.step (fun tq kq => XS.sipush X0.here hx rfl (hb hby own_d152) kq) ?_
              show GoOn p e below (s₁.setTop (mkF m 74 #[.val (.int x), .val (.int y), .val (.int (x &&& (3 : Int32)))] [(.int (255 : Int32)), (.int (((x).toUInt32 >>> ((18 : Int32) &&& 31).toUInt32).toInt32))])) _
              refine GoOn.step (fun tq kq => XS.iand X0.here hx rfl (hb hby own_d153) rfl kq) ?_
              show GoOn p e below (s₁.setTop (mkF m 75 #[.val (.int x), .val (.int y), .val (.int (x &&& (3 : Int32)))] [(.int ((((x).toUInt32 >>> ((18 : Int32) &&& 31).toUInt32).toInt32) &&& (255 : Int32)))])) _
              refine GoOn.step (fun tq kq => XS.iloadN X0.here hx rfl (hb hby own_d154) rfl kq) ?_
              show GoOn p e below (s₁.setTop (mkF m 76 #[.val (.int x), .val (.int y), .val (.int (x &&& (3 : Int32)))] [(.int y), (.int ((((x).toUInt32 >>> ((18 : Int32) &&& 31).toUInt32).toInt32) &&& (255 : Int32)))])) _
              refine GoOn.step (fun tq kq => XS.bipush X0.here hx rfl (hb hby own_d155) kq) ?_
              show GoOn p e below (s₁.setTop (mkF m 78 #[.val (.int x), .val (.int y), .val (.int (x &&& (3 : Int32)))] [(.int (18 : Int32)), (.int y), (.int ((((x).toUInt32 >>> ((18 : Int32) &&& 31).toUInt32).toInt32) &&& (255 : Int32)))])) _
              refine GoOn.step (fun tq kq => XS.iushr X0.here hx rfl (hb hby own_d156) rfl kq) ?_
              show GoOn p e below (s₁.setTop (mkF m 79 #[.val (.int x), .val (.int y), .val (.int (x &&& (3 : Int32)))] [(.int (((y).toUInt32 >>> ((18 : Int32) &&& 31).toUInt32).toInt32)), (.int ((((x).toUInt32 >>> ((18 : Int32) &&& 31).toUInt32).toInt32) &&& (255 : Int32)))])) _
              refine GoOn.step (fun tq kq => XS.sipush X0.here hx rfl (hb hby own_d157) kq) ?_
              show GoOn p e below (s₁.setTop (mkF m 82 #[.val (.int x), .val (.int y), .val (.int (x &&& (3 : Int32)))] [(.int (255 : Int32)), (.int (((y).toUInt32 >>> ((18 : Int32) &&& 31).toUInt32).toInt32)), (.int ((((x).toUInt32 >>> ((18 : Int32) &&& 31).toUInt32).toInt32) &&& (255 : Int32)))])) _
              refine GoOn.step (fun tq kq => XS.iand X0.here hx rfl (hb hby own_d158) rfl kq) ?_
              show GoOn p e below (s₁.setTop (mkF m 83 #[.val (.int x), .val (.int y), .val (.int (x &&& (3 : Int32)))] [(.int ((((y).toUInt32 >>> ((18 : Int32) &&& 31).toUInt32).toInt32) &&& (255 : Int32))), (.int ((((x).toUInt32 >>> ((18 : Int32) &&& 31).toUInt32).toInt32) &&& (255 : Int32)))])) _
              by_cases hc302 : ((((x).toUInt32 >>> ((18 : Int32) &&& 31).toUInt32).toInt32) &&& (255 : Int32)) = ((((y).toUInt32 >>> ((18 : Int32) &&& 31).toUInt32).toInt32) &&& (255 : Int32))
              · skip
                refine GoOn.step (fun tq kq => XS.icmpYes X0.here hx rfl (pc0 := 83) (pc' := 88) rfl (hb hby own_d159) rfl (teq hc302).1 (by decide) (by decide) kq) ?_
                show GoOn p e below (s₁.setTop (mkF m 88 #[.val (.int x), .val (.int y), .val (.int (x &&& (3 : Int32)))] [])) _
                refine GoOn.step (fun tq kq => XS.iconst X0.here hx rfl (hb hby own_d160) kq) ?_
                show GoOn p e below (s₁.setTop (mkF m 89 #[.val (.int x), .val (.int y), .val (.int (x &&& (3 : Int32)))] [(.int (1 : Int32))])) _
                refine GoOn.ret X0 Bd.notSynchronized (v := some (.int (nar .boolean (1 : Int32)))) (fun h => by rw [Bd.returns] at h; cases h) (fun fs hr => retN X0 hx (t := .boolean) Bd.returns (by simp) (hb hby own_d161) hr) (by decide) (by decide) ?_
                rw [e0]
                exact ⟨by rw [if_pos (own_same_iff.mpr ⟨hc296, (fun _ => (show own_d x 2 = own_d y 2 from hc298)), (fun _ => (show own_d x 10 = own_d y 10 from hc300)), (fun _ => (show own_d x 18 = own_d y 18 from hc302))⟩)]; rfl, N0, rfl⟩
              · skip
                refine GoOn.step (fun tq kq => XS.icmpNo X0.here hx rfl (hb hby own_d159) rfl (feq hc302).1 kq) ?_
                show GoOn p e below (s₁.setTop (mkF m 86 #[.val (.int x), .val (.int y), .val (.int (x &&& (3 : Int32)))] [])) _
                refine GoOn.step (fun tq kq => XS.iconst X0.here hx rfl (hb hby own_d162) kq) ?_
                show GoOn p e below (s₁.setTop (mkF m 87 #[.val (.int x), .val (.int y), .val (.int (x &&& (3 : Int32)))] [(.int (0 : Int32))])) _
                refine GoOn.ret X0 Bd.notSynchronized (v := some (.int (nar .boolean (0 : Int32)))) (fun h => by rw [Bd.returns] at h; cases h) (fun fs hr => retN X0 hx (t := .boolean) Bd.returns (by simp) (hb hby own_d163) hr) (by decide) (by decide) ?_
                rw [e0]
                exact ⟨by rw [if_neg (fun q => hc302 ((own_same_iff.mp q).2.2.2 hc301))]; rfl, N0, rfl⟩
            · skip
              refine GoOn.step (fun tq kq => XS.icmpYes X0.here hx rfl (pc0 := 64) (pc' := 88) rfl (hb hby own_d148) rfl (flt hc301).2.2.2 (by decide) (by decide) kq) ?_
              show GoOn p e below (s₁.setTop (mkF m 88 #[.val (.int x), .val (.int y), .val (.int (x &&& (3 : Int32)))] [])) _
              refine GoOn.step (fun tq kq => XS.iconst X0.here hx rfl (hb hby own_d160) kq) ?_
              show GoOn p e below (s₁.setTop (mkF m 89 #[.val (.int x), .val (.int y), .val (.int (x &&& (3 : Int32)))] [(.int (1 : Int32))])) _
              refine GoOn.ret X0 Bd.notSynchronized (v := some (.int (nar .boolean (1 : Int32)))) (fun h => by rw [Bd.returns] at h; cases h) (fun fs hr => retN X0 hx (t := .boolean) Bd.returns (by simp) (hb hby own_d161) hr) (by decide) (by decide) ?_
              rw [e0]
              exact ⟨by rw [if_pos (own_same_iff.mpr ⟨hc296, (fun _ => (show own_d x 2 = own_d y 2 from hc298)), (fun _ => (show own_d x 10 = own_d y 10 from hc300)), (fun q => absurd q hc301)⟩)]; rfl, N0, rfl⟩
          · skip
            refine GoOn.step (fun tq kq => XS.icmpNo X0.here hx rfl (hb hby own_d145) rfl (feq hc300).1 kq) ?_
            show GoOn p e below (s₁.setTop (mkF m 60 #[.val (.int x), .val (.int y), .val (.int (x &&& (3 : Int32)))] [])) _
            refine GoOn.step (fun tq kq => XS.iconst X0.here hx rfl (hb hby own_d164) kq) ?_
            show GoOn p e below (s₁.setTop (mkF m 61 #[.val (.int x), .val (.int y), .val (.int (x &&& (3 : Int32)))] [(.int (0 : Int32))])) _
            refine GoOn.ret X0 Bd.notSynchronized (v := some (.int (nar .boolean (0 : Int32)))) (fun h => by rw [Bd.returns] at h; cases h) (fun fs hr => retN X0 hx (t := .boolean) Bd.returns (by simp) (hb hby own_d165) hr) (by decide) (by decide) ?_
            rw [e0]
            exact ⟨by rw [if_neg (fun q => hc300 ((own_same_iff.mp q).2.2.1 hc299))]; rfl, N0, rfl⟩
        · skip
          refine GoOn.step (fun tq kq => XS.icmpYes X0.here hx rfl (pc0 := 38) (pc' := 62) rfl (hb hby own_d134) rfl (flt hc299).2.2.2 (by decide) (by decide) kq) ?_
          show GoOn p e below (s₁.setTop (mkF m 62 #[.val (.int x), .val (.int y), .val (.int (x &&& (3 : Int32)))] [])) _
          refine GoOn.step (fun tq kq => XS.iloadN X0.here hx rfl (hb hby own_d146) rfl kq) ?_
          show GoOn p e below (s₁.setTop (mkF m 63 #[.val (.int x), .val (.int y), .val (.int (x &&& (3 : Int32)))] [(.int (x &&& (3 : Int32)))])) _
          refine GoOn.step (fun tq kq => XS.iconst X0.here hx rfl (hb hby own_d147) kq) ?_
          show GoOn p e below (s₁.setTop (mkF m 64 #[.val (.int x), .val (.int y), .val (.int (x &&& (3 : Int32)))] [(.int (2 : Int32)), (.int (x &&& (3 : Int32)))])) _
          by_cases hc303 : (2 : Int32) < (x &&& (3 : Int32))
          · skip
            refine GoOn.step (fun tq kq => XS.icmpNo X0.here hx rfl (hb hby own_d148) rfl (tlt hc303).2.2.2 kq) ?_
            show GoOn p e below (s₁.setTop (mkF m 67 #[.val (.int x), .val (.int y), .val (.int (x &&& (3 : Int32)))] [])) _
            refine GoOn.step (fun tq kq => XS.iloadN X0.here hx rfl (hb hby own_d149) rfl kq) ?_
            show GoOn p e below (s₁.setTop (mkF m 68 #[.val (.int x), .val (.int y), .val (.int (x &&& (3 : Int32)))] [(.int x)])) _
            refine GoOn.step (fun tq kq => XS.bipush X0.here hx rfl (hb hby own_d150) kq) ?_
            show GoOn p e below (s₁.setTop (mkF m 70 #[.val (.int x), .val (.int y), .val (.int (x &&& (3 : Int32)))] [(.int (18 : Int32)), (.int x)])) _
            refine GoOn.step (fun tq kq => XS.iushr X0.here hx rfl (hb hby own_d151) rfl kq) ?_
            show GoOn p e below (s₁.setTop (mkF m 71 #[.val (.int x), .val (.int y), .val (.int (x &&& (3 : Int32)))] [(.int (((x).toUInt32 >>> ((18 : Int32) &&& 31).toUInt32).toInt32))])) _
            refine GoOn.step (fun tq kq => XS.sipush X0.here hx rfl (hb hby own_d152) kq) ?_
            show GoOn p e below (s₁.setTop (mkF m 74 #[.val (.int x), .val (.int y), .val (.int (x &&& (3 : Int32)))] [(.int (255 : Int32)), (.int (((x).toUInt32 >>> ((18 : Int32) &&& 31).toUInt32).toInt32))])) _
            refine GoOn.step (fun tq kq => XS.iand X0.here hx rfl (hb hby own_d153) rfl kq) ?_
            show GoOn p e below (s₁.setTop (mkF m 75 #[.val (.int x), .val (.int y), .val (.int (x &&& (3 : Int32)))] [(.int ((((x).toUInt32 >>> ((18 : Int32) &&& 31).toUInt32).toInt32) &&& (255 : Int32)))])) _
            refine GoOn.step (fun tq kq => XS.iloadN X0.here hx rfl (hb hby own_d154) rfl kq) ?_
            show GoOn p e below (s₁.setTop (mkF m 76 #[.val (.int x), .val (.int y), .val (.int (x &&& (3 : Int32)))] [(.int y), (.int ((((x).toUInt32 >>> ((18 : Int32) &&& 31).toUInt32).toInt32) &&& (255 : Int32)))])) _
            refine GoOn.step (fun tq kq => XS.bipush X0.here hx rfl (hb hby own_d155) kq) ?_
            show GoOn p e below (s₁.setTop (mkF m 78 #[.val (.int x), .val (.int y), .val (.int (x &&& (3 : Int32)))] [(.int (18 : Int32)), (.int y), (.int ((((x).toUInt32 >>> ((18 : Int32) &&& 31).toUInt32).toInt32) &&& (255 : Int32)))])) _
            refine GoOn.step (fun tq kq => XS.iushr X0.here hx rfl (hb hby own_d156) rfl kq) ?_
            show GoOn p e below (s₁.setTop (mkF m 79 #[.val (.int x), .val (.int y), .val (.int (x &&& (3 : Int32)))] [(.int (((y).toUInt32 >>> ((18 : Int32) &&& 31).toUInt32).toInt32)), (.int ((((x).toUInt32 >>> ((18 : Int32) &&& 31).toUInt32).toInt32) &&& (255 : Int32)))])) _
            refine GoOn.step (fun tq kq => XS.sipush X0.here hx rfl (hb hby own_d157) kq) ?_
            show GoOn p e below (s₁.setTop (mkF m 82 #[.val (.int x), .val (.int y), .val (.int (x &&& (3 : Int32)))] [(.int (255 : Int32)), (.int (((y).toUInt32 >>> ((18 : Int32) &&& 31).toUInt32).toInt32)), (.int ((((x).toUInt32 >>> ((18 : Int32) &&& 31).toUInt32).toInt32) &&& (255 : Int32)))])) _
            refine GoOn.step (fun tq kq => XS.iand X0.here hx rfl (hb hby own_d158) rfl kq) ?_
            show GoOn p e below (s₁.setTop (mkF m 83 #[.val (.int x), .val (.int y), .val (.int (x &&& (3 : Int32)))] [(.int ((((y).toUInt32 >>> ((18 : Int32) &&& 31).toUInt32).toInt32) &&& (255 : Int32))), (.int ((((x).toUInt32 >>> ((18 : Int32) &&& 31).toUInt32).toInt32) &&& (255 : Int32)))])) _
            by_cases hc304 : ((((x).toUInt32 >>> ((18 : Int32) &&& 31).toUInt32).toInt32) &&& (255 : Int32)) = ((((y).toUInt32 >>> ((18 : Int32) &&& 31).toUInt32).toInt32) &&& (255 : Int32))
            · skip
              refine GoOn.step (fun tq kq => XS.icmpYes X0.here hx rfl (pc0 := 83) (pc' := 88) rfl (hb hby own_d159) rfl (teq hc304).1 (by decide) (by decide) kq) ?_
              show GoOn p e below (s₁.setTop (mkF m 88 #[.val (.int x), .val (.int y), .val (.int (x &&& (3 : Int32)))] [])) _
              refine GoOn.step (fun tq kq => XS.iconst X0.here hx rfl (hb hby own_d160) kq) ?_
              show GoOn p e below (s₁.setTop (mkF m 89 #[.val (.int x), .val (.int y), .val (.int (x &&& (3 : Int32)))] [(.int (1 : Int32))])) _
              refine GoOn.ret X0 Bd.notSynchronized (v := some (.int (nar .boolean (1 : Int32)))) (fun h => by rw [Bd.returns] at h; cases h) (fun fs hr => retN X0 hx (t := .boolean) Bd.returns (by simp) (hb hby own_d161) hr) (by decide) (by decide) ?_
              rw [e0]
              exact ⟨by rw [if_pos (own_same_iff.mpr ⟨hc296, (fun _ => (show own_d x 2 = own_d y 2 from hc298)), (fun q => absurd q hc299), (fun _ => (show own_d x 18 = own_d y 18 from hc304))⟩)]; rfl, N0, rfl⟩
            · skip
              refine GoOn.step (fun tq kq => XS.icmpNo X0.here hx rfl (hb hby own_d159) rfl (feq hc304).1 kq) ?_
              show GoOn p e below (s₁.setTop (mkF m 86 #[.val (.int x), .val (.int y), .val (.int (x &&& (3 : Int32)))] [])) _
              refine GoOn.step (fun tq kq => XS.iconst X0.here hx rfl (hb hby own_d162) kq) ?_
              show GoOn p e below (s₁.setTop (mkF m 87 #[.val (.int x), .val (.int y), .val (.int (x &&& (3 : Int32)))] [(.int (0 : Int32))])) _
              refine GoOn.ret X0 Bd.notSynchronized (v := some (.int (nar .boolean (0 : Int32)))) (fun h => by rw [Bd.returns] at h; cases h) (fun fs hr => retN X0 hx (t := .boolean) Bd.returns (by simp) (hb hby own_d163) hr) (by decide) (by decide) ?_
              rw [e0]
              exact ⟨by rw [if_neg (fun q => hc304 ((own_same_iff.mp q).2.2.2 hc303))]; rfl, N0, rfl⟩
          · skip
            refine GoOn.step (fun tq kq => XS.icmpYes X0.here hx rfl (pc0 := 64) (pc' := 88) rfl (hb hby own_d148) rfl (flt hc303).2.2.2 (by decide) (by decide) kq) ?_
            show GoOn p e below (s₁.setTop (mkF m 88 #[.val (.int x), .val (.int y), .val (.int (x &&& (3 : Int32)))] [])) _
            refine GoOn.step (fun tq kq => XS.iconst X0.here hx rfl (hb hby own_d160) kq) ?_
            show GoOn p e below (s₁.setTop (mkF m 89 #[.val (.int x), .val (.int y), .val (.int (x &&& (3 : Int32)))] [(.int (1 : Int32))])) _
            refine GoOn.ret X0 Bd.notSynchronized (v := some (.int (nar .boolean (1 : Int32)))) (fun h => by rw [Bd.returns] at h; cases h) (fun fs hr => retN X0 hx (t := .boolean) Bd.returns (by simp) (hb hby own_d161) hr) (by decide) (by decide) ?_
            rw [e0]
            exact ⟨by rw [if_pos (own_same_iff.mpr ⟨hc296, (fun _ => (show own_d x 2 = own_d y 2 from hc298)), (fun q => absurd q hc299), (fun q => absurd q hc303)⟩)]; rfl, N0, rfl⟩
      · skip
        refine GoOn.step (fun tq kq => XS.icmpNo X0.here hx rfl (hb hby own_d131) rfl (feq hc298).1 kq) ?_
        show GoOn p e below (s₁.setTop (mkF m 34 #[.val (.int x), .val (.int y), .val (.int (x &&& (3 : Int32)))] [])) _
        refine GoOn.step (fun tq kq => XS.iconst X0.here hx rfl (hb hby own_d166) kq) ?_
        show GoOn p e below (s₁.setTop (mkF m 35 #[.val (.int x), .val (.int y), .val (.int (x &&& (3 : Int32)))] [(.int (0 : Int32))])) _
        refine GoOn.ret X0 Bd.notSynchronized (v := some (.int (nar .boolean (0 : Int32)))) (fun h => by rw [Bd.returns] at h; cases h) (fun fs hr => retN X0 hx (t := .boolean) Bd.returns (by simp) (hb hby own_d167) hr) (by decide) (by decide) ?_
        rw [e0]
        exact ⟨by rw [if_neg (fun q => hc298 ((own_same_iff.mp q).2.1 hc297))]; rfl, N0, rfl⟩
    · skip
      refine GoOn.step (fun tq kq => XS.ifYes X0.here hx rfl (pc0 := 14) (pc' := 36) rfl (hb hby own_d120) rfl ((if0 _ _).trans (flt hc297).2.2.2) (by decide) (by decide) kq) ?_
      show GoOn p e below (s₁.setTop (mkF m 36 #[.val (.int x), .val (.int y), .val (.int (x &&& (3 : Int32)))] [])) _
      refine GoOn.step (fun tq kq => XS.iloadN X0.here hx rfl (hb hby own_d132) rfl kq) ?_
      show GoOn p e below (s₁.setTop (mkF m 37 #[.val (.int x), .val (.int y), .val (.int (x &&& (3 : Int32)))] [(.int (x &&& (3 : Int32)))])) _
      refine GoOn.step (fun tq kq => XS.iconst X0.here hx rfl (hb hby own_d133) kq) ?_
      show GoOn p e below (s₁.setTop (mkF m 38 #[.val (.int x), .val (.int y), .val (.int (x &&& (3 : Int32)))] [(.int (1 : Int32)), (.int (x &&& (3 : Int32)))])) _
      by_cases hc305 : (1 : Int32) < (x &&& (3 : Int32))
      · skip
        refine GoOn.step (fun tq kq => XS.icmpNo X0.here hx rfl (hb hby own_d134) rfl (tlt hc305).2.2.2 kq) ?_
        show GoOn p e below (s₁.setTop (mkF m 41 #[.val (.int x), .val (.int y), .val (.int (x &&& (3 : Int32)))] [])) _
        refine GoOn.step (fun tq kq => XS.iloadN X0.here hx rfl (hb hby own_d135) rfl kq) ?_
        show GoOn p e below (s₁.setTop (mkF m 42 #[.val (.int x), .val (.int y), .val (.int (x &&& (3 : Int32)))] [(.int x)])) _
        refine GoOn.step (fun tq kq => XS.bipush X0.here hx rfl (hb hby own_d136) kq) ?_
        show GoOn p e below (s₁.setTop (mkF m 44 #[.val (.int x), .val (.int y), .val (.int (x &&& (3 : Int32)))] [(.int (10 : Int32)), (.int x)])) _
        refine GoOn.step (fun tq kq => XS.iushr X0.here hx rfl (hb hby own_d137) rfl kq) ?_
        show GoOn p e below (s₁.setTop (mkF m 45 #[.val (.int x), .val (.int y), .val (.int (x &&& (3 : Int32)))] [(.int (((x).toUInt32 >>> ((10 : Int32) &&& 31).toUInt32).toInt32))])) _
        refine GoOn.step (fun tq kq => XS.sipush X0.here hx rfl (hb hby own_d138) kq) ?_
        show GoOn p e below (s₁.setTop (mkF m 48 #[.val (.int x), .val (.int y), .val (.int (x &&& (3 : Int32)))] [(.int (255 : Int32)), (.int (((x).toUInt32 >>> ((10 : Int32) &&& 31).toUInt32).toInt32))])) _
        refine GoOn.step (fun tq kq => XS.iand X0.here hx rfl (hb hby own_d139) rfl kq) ?_
        show GoOn p e below (s₁.setTop (mkF m 49 #[.val (.int x), .val (.int y), .val (.int (x &&& (3 : Int32)))] [(.int ((((x).toUInt32 >>> ((10 : Int32) &&& 31).toUInt32).toInt32) &&& (255 : Int32)))])) _
        refine GoOn.step (fun tq kq => XS.iloadN X0.here hx rfl (hb hby own_d140) rfl kq) ?_
        show GoOn p e below (s₁.setTop (mkF m 50 #[.val (.int x), .val (.int y), .val (.int (x &&& (3 : Int32)))] [(.int y), (.int ((((x).toUInt32 >>> ((10 : Int32) &&& 31).toUInt32).toInt32) &&& (255 : Int32)))])) _
        refine GoOn.step (fun tq kq => XS.bipush X0.here hx rfl (hb hby own_d141) kq) ?_
        show GoOn p e below (s₁.setTop (mkF m 52 #[.val (.int x), .val (.int y), .val (.int (x &&& (3 : Int32)))] [(.int (10 : Int32)), (.int y), (.int ((((x).toUInt32 >>> ((10 : Int32) &&& 31).toUInt32).toInt32) &&& (255 : Int32)))])) _
        refine GoOn.step (fun tq kq => XS.iushr X0.here hx rfl (hb hby own_d142) rfl kq) ?_
        show GoOn p e below (s₁.setTop (mkF m 53 #[.val (.int x), .val (.int y), .val (.int (x &&& (3 : Int32)))] [(.int (((y).toUInt32 >>> ((10 : Int32) &&& 31).toUInt32).toInt32)), (.int ((((x).toUInt32 >>> ((10 : Int32) &&& 31).toUInt32).toInt32) &&& (255 : Int32)))])) _
        refine GoOn.step (fun tq kq => XS.sipush X0.here hx rfl (hb hby own_d143) kq) ?_
        show GoOn p e below (s₁.setTop (mkF m 56 #[.val (.int x), .val (.int y), .val (.int (x &&& (3 : Int32)))] [(.int (255 : Int32)), (.int (((y).toUInt32 >>> ((10 : Int32) &&& 31).toUInt32).toInt32)), (.int ((((x).toUInt32 >>> ((10 : Int32) &&& 31).toUInt32).toInt32) &&& (255 : Int32)))])) _
        refine GoOn.step (fun tq kq => XS.iand X0.here hx rfl (hb hby own_d144) rfl kq) ?_
        show GoOn p e below (s₁.setTop (mkF m 57 #[.val (.int x), .val (.int y), .val (.int (x &&& (3 : Int32)))] [(.int ((((y).toUInt32 >>> ((10 : Int32) &&& 31).toUInt32).toInt32) &&& (255 : Int32))), (.int ((((x).toUInt32 >>> ((10 : Int32) &&& 31).toUInt32).toInt32) &&& (255 : Int32)))])) _
        by_cases hc306 : ((((x).toUInt32 >>> ((10 : Int32) &&& 31).toUInt32).toInt32) &&& (255 : Int32)) = ((((y).toUInt32 >>> ((10 : Int32) &&& 31).toUInt32).toInt32) &&& (255 : Int32))
        · skip
          refine GoOn.step (fun tq kq => XS.icmpYes X0.here hx rfl (pc0 := 57) (pc' := 62) rfl (hb hby own_d145) rfl (teq hc306).1 (by decide) (by decide) kq) ?_
          show GoOn p e below (s₁.setTop (mkF m 62 #[.val (.int x), .val (.int y), .val (.int (x &&& (3 : Int32)))] [])) _
          refine GoOn.step (fun tq kq => XS.iloadN X0.here hx rfl (hb hby own_d146) rfl kq) ?_
          show GoOn p e below (s₁.setTop (mkF m 63 #[.val (.int x), .val (.int y), .val (.int (x &&& (3 : Int32)))] [(.int (x &&& (3 : Int32)))])) _
          refine GoOn.step (fun tq kq => XS.iconst X0.here hx rfl (hb hby own_d147) kq) ?_
          show GoOn p e below (s₁.setTop (mkF m 64 #[.val (.int x), .val (.int y), .val (.int (x &&& (3 : Int32)))] [(.int (2 : Int32)), (.int (x &&& (3 : Int32)))])) _
          by_cases hc307 : (2 : Int32) < (x &&& (3 : Int32))
          · skip
            refine GoOn.step (fun tq kq => XS.icmpNo X0.here hx rfl (hb hby own_d148) rfl (tlt hc307).2.2.2 kq) ?_
            show GoOn p e below (s₁.setTop (mkF m 67 #[.val (.int x), .val (.int y), .val (.int (x &&& (3 : Int32)))] [])) _
            refine GoOn.step (fun tq kq => XS.iloadN X0.here hx rfl (hb hby own_d149) rfl kq) ?_
            show GoOn p e below (s₁.setTop (mkF m 68 #[.val (.int x), .val (.int y), .val (.int (x &&& (3 : Int32)))] [(.int x)])) _
            refine GoOn.step (fun tq kq => XS.bipush X0.here hx rfl (hb hby own_d150) kq) ?_
            show GoOn p e below (s₁.setTop (mkF m 70 #[.val (.int x), .val (.int y), .val (.int (x &&& (3 : Int32)))] [(.int (18 : Int32)), (.int x)])) _
            refine GoOn.step (fun tq kq => XS.iushr X0.here hx rfl (hb hby own_d151) rfl kq) ?_
            show GoOn p e below (s₁.setTop (mkF m 71 #[.val (.int x), .val (.int y), .val (.int (x &&& (3 : Int32)))] [(.int (((x).toUInt32 >>> ((18 : Int32) &&& 31).toUInt32).toInt32))])) _
            refine GoOn.step (fun tq kq => XS.sipush X0.here hx rfl (hb hby own_d152) kq) ?_
            show GoOn p e below (s₁.setTop (mkF m 74 #[.val (.int x), .val (.int y), .val (.int (x &&& (3 : Int32)))] [(.int (255 : Int32)), (.int (((x).toUInt32 >>> ((18 : Int32) &&& 31).toUInt32).toInt32))])) _
            refine GoOn.step (fun tq kq => XS.iand X0.here hx rfl (hb hby own_d153) rfl kq) ?_
            show GoOn p e below (s₁.setTop (mkF m 75 #[.val (.int x), .val (.int y), .val (.int (x &&& (3 : Int32)))] [(.int ((((x).toUInt32 >>> ((18 : Int32) &&& 31).toUInt32).toInt32) &&& (255 : Int32)))])) _
            refine GoOn.step (fun tq kq => XS.iloadN X0.here hx rfl (hb hby own_d154) rfl kq) ?_
            show GoOn p e below (s₁.setTop (mkF m 76 #[.val (.int x), .val (.int y), .val (.int (x &&& (3 : Int32)))] [(.int y), (.int ((((x).toUInt32 >>> ((18 : Int32) &&& 31).toUInt32).toInt32) &&& (255 : Int32)))])) _
            refine GoOn.step (fun tq kq => XS.bipush X0.here hx rfl (hb hby own_d155) kq) ?_
            show GoOn p e below (s₁.setTop (mkF m 78 #[.val (.int x), .val (.int y), .val (.int (x &&& (3 : Int32)))] [(.int (18 : Int32)), (.int y), (.int ((((x).toUInt32 >>> ((18 : Int32) &&& 31).toUInt32).toInt32) &&& (255 : Int32)))])) _
            refine GoOn.step (fun tq kq => XS.iushr X0.here hx rfl (hb hby own_d156) rfl kq) ?_
            show GoOn p e below (s₁.setTop (mkF m 79 #[.val (.int x), .val (.int y), .val (.int (x &&& (3 : Int32)))] [(.int (((y).toUInt32 >>> ((18 : Int32) &&& 31).toUInt32).toInt32)), (.int ((((x).toUInt32 >>> ((18 : Int32) &&& 31).toUInt32).toInt32) &&& (255 : Int32)))])) _
            refine GoOn.step (fun tq kq => XS.sipush X0.here hx rfl (hb hby own_d157) kq) ?_
            show GoOn p e below (s₁.setTop (mkF m 82 #[.val (.int x), .val (.int y), .val (.int (x &&& (3 : Int32)))] [(.int (255 : Int32)), (.int (((y).toUInt32 >>> ((18 : Int32) &&& 31).toUInt32).toInt32)), (.int ((((x).toUInt32 >>> ((18 : Int32) &&& 31).toUInt32).toInt32) &&& (255 : Int32)))])) _
            refine GoOn.step (fun tq kq => XS.iand X0.here hx rfl (hb hby own_d158) rfl kq) ?_
            show GoOn p e below (s₁.setTop (mkF m 83 #[.val (.int x), .val (.int y), .val (.int (x &&& (3 : Int32)))] [(.int ((((y).toUInt32 >>> ((18 : Int32) &&& 31).toUInt32).toInt32) &&& (255 : Int32))), (.int ((((x).toUInt32 >>> ((18 : Int32) &&& 31).toUInt32).toInt32) &&& (255 : Int32)))])) _
            by_cases hc308 : ((((x).toUInt32 >>> ((18 : Int32) &&& 31).toUInt32).toInt32) &&& (255 : Int32)) = ((((y).toUInt32 >>> ((18 : Int32) &&& 31).toUInt32).toInt32) &&& (255 : Int32))
            · skip
              refine GoOn.step (fun tq kq => XS.icmpYes X0.here hx rfl (pc0 := 83) (pc' := 88) rfl (hb hby own_d159) rfl (teq hc308).1 (by decide) (by decide) kq) ?_
              show GoOn p e below (s₁.setTop (mkF m 88 #[.val (.int x), .val (.int y), .val (.int (x &&& (3 : Int32)))] [])) _
              refine GoOn.step (fun tq kq => XS.iconst X0.here hx rfl (hb hby own_d160) kq) ?_
              show GoOn p e below (s₁.setTop (mkF m 89 #[.val (.int x), .val (.int y), .val (.int (x &&& (3 : Int32)))] [(.int (1 : Int32))])) _
              refine GoOn.ret X0 Bd.notSynchronized (v := some (.int (nar .boolean (1 : Int32)))) (fun h => by rw [Bd.returns] at h; cases h) (fun fs hr => retN X0 hx (t := .boolean) Bd.returns (by simp) (hb hby own_d161) hr) (by decide) (by decide) ?_
              rw [e0]
              exact ⟨by rw [if_pos (own_same_iff.mpr ⟨hc296, (fun q => absurd q hc297), (fun _ => (show own_d x 10 = own_d y 10 from hc306)), (fun _ => (show own_d x 18 = own_d y 18 from hc308))⟩)]; rfl, N0, rfl⟩
            · skip
              refine GoOn.step (fun tq kq => XS.icmpNo X0.here hx rfl (hb hby own_d159) rfl (feq hc308).1 kq) ?_
              show GoOn p e below (s₁.setTop (mkF m 86 #[.val (.int x), .val (.int y), .val (.int (x &&& (3 : Int32)))] [])) _
              refine GoOn.step (fun tq kq => XS.iconst X0.here hx rfl (hb hby own_d162) kq) ?_
              show GoOn p e below (s₁.setTop (mkF m 87 #[.val (.int x), .val (.int y), .val (.int (x &&& (3 : Int32)))] [(.int (0 : Int32))])) _
              refine GoOn.ret X0 Bd.notSynchronized (v := some (.int (nar .boolean (0 : Int32)))) (fun h => by rw [Bd.returns] at h; cases h) (fun fs hr => retN X0 hx (t := .boolean) Bd.returns (by simp) (hb hby own_d163) hr) (by decide) (by decide) ?_
              rw [e0]
              exact ⟨by rw [if_neg (fun q => hc308 ((own_same_iff.mp q).2.2.2 hc307))]; rfl, N0, rfl⟩
          · skip
            refine GoOn.step (fun tq kq => XS.icmpYes X0.here hx rfl (pc0 := 64) (pc' := 88) rfl (hb hby own_d148) rfl (flt hc307).2.2.2 (by decide) (by decide) kq) ?_
            show GoOn p e below (s₁.setTop (mkF m 88 #[.val (.int x), .val (.int y), .val (.int (x &&& (3 : Int32)))] [])) _
            refine GoOn.step (fun tq kq => XS.iconst X0.here hx rfl (hb hby own_d160) kq) ?_
            show GoOn p e below (s₁.setTop (mkF m 89 #[.val (.int x), .val (.int y), .val (.int (x &&& (3 : Int32)))] [(.int (1 : Int32))])) _
            refine GoOn.ret X0 Bd.notSynchronized (v := some (.int (nar .boolean (1 : Int32)))) (fun h => by rw [Bd.returns] at h; cases h) (fun fs hr => retN X0 hx (t := .boolean) Bd.returns (by simp) (hb hby own_d161) hr) (by decide) (by decide) ?_
            rw [e0]
            exact ⟨by rw [if_pos (own_same_iff.mpr ⟨hc296, (fun q => absurd q hc297), (fun _ => (show own_d x 10 = own_d y 10 from hc306)), (fun q => absurd q hc307)⟩)]; rfl, N0, rfl⟩
        · skip
          refine GoOn.step (fun tq kq => XS.icmpNo X0.here hx rfl (hb hby own_d145) rfl (feq hc306).1 kq) ?_
          show GoOn p e below (s₁.setTop (mkF m 60 #[.val (.int x), .val (.int y), .val (.int (x &&& (3 : Int32)))] [])) _
          refine GoOn.step (fun tq kq => XS.iconst X0.here hx rfl (hb hby own_d164) kq) ?_
          show GoOn p e below (s₁.setTop (mkF m 61 #[.val (.int x), .val (.int y), .val (.int (x &&& (3 : Int32)))] [(.int (0 : Int32))])) _
          refine GoOn.ret X0 Bd.notSynchronized (v := some (.int (nar .boolean (0 : Int32)))) (fun h => by rw [Bd.returns] at h; cases h) (fun fs hr => retN X0 hx (t := .boolean) Bd.returns (by simp) (hb hby own_d165) hr) (by decide) (by decide) ?_
          rw [e0]
          exact ⟨by rw [if_neg (fun q => hc306 ((own_same_iff.mp q).2.2.1 hc305))]; rfl, N0, rfl⟩
      · skip
        refine GoOn.step (fun tq kq => XS.icmpYes X0.here hx rfl (pc0 := 38) (pc' := 62) rfl (hb hby own_d134) rfl (flt hc305).2.2.2 (by decide) (by decide) kq) ?_
        show GoOn p e below (s₁.setTop (mkF m 62 #[.val (.int x), .val (.int y), .val (.int (x &&& (3 : Int32)))] [])) _
        refine GoOn.step (fun tq kq => XS.iloadN X0.here hx rfl (hb hby own_d146) rfl kq) ?_
        show GoOn p e below (s₁.setTop (mkF m 63 #[.val (.int x), .val (.int y), .val (.int (x &&& (3 : Int32)))] [(.int (x &&& (3 : Int32)))])) _
        refine GoOn.step (fun tq kq => XS.iconst X0.here hx rfl (hb hby own_d147) kq) ?_
        show GoOn p e below (s₁.setTop (mkF m 64 #[.val (.int x), .val (.int y), .val (.int (x &&& (3 : Int32)))] [(.int (2 : Int32)), (.int (x &&& (3 : Int32)))])) _
        by_cases hc309 : (2 : Int32) < (x &&& (3 : Int32))
        · skip
          refine GoOn.step (fun tq kq => XS.icmpNo X0.here hx rfl (hb hby own_d148) rfl (tlt hc309).2.2.2 kq) ?_
          show GoOn p e below (s₁.setTop (mkF m 67 #[.val (.int x), .val (.int y), .val (.int (x &&& (3 : Int32)))] [])) _
          refine GoOn.step (fun tq kq => XS.iloadN X0.here hx rfl (hb hby own_d149) rfl kq) ?_
          show GoOn p e below (s₁.setTop (mkF m 68 #[.val (.int x), .val (.int y), .val (.int (x &&& (3 : Int32)))] [(.int x)])) _
          refine GoOn.step (fun tq kq => XS.bipush X0.here hx rfl (hb hby own_d150) kq) ?_
          show GoOn p e below (s₁.setTop (mkF m 70 #[.val (.int x), .val (.int y), .val (.int (x &&& (3 : Int32)))] [(.int (18 : Int32)), (.int x)])) _
          refine GoOn.step (fun tq kq => XS.iushr X0.here hx rfl (hb hby own_d151) rfl kq) ?_
          show GoOn p e below (s₁.setTop (mkF m 71 #[.val (.int x), .val (.int y), .val (.int (x &&& (3 : Int32)))] [(.int (((x).toUInt32 >>> ((18 : Int32) &&& 31).toUInt32).toInt32))])) _
          refine GoOn.step (fun tq kq => XS.sipush X0.here hx rfl (hb hby own_d152) kq) ?_
          show GoOn p e below (s₁.setTop (mkF m 74 #[.val (.int x), .val (.int y), .val (.int (x &&& (3 : Int32)))] [(.int (255 : Int32)), (.int (((x).toUInt32 >>> ((18 : Int32) &&& 31).toUInt32).toInt32))])) _
          refine GoOn.step (fun tq kq => XS.iand X0.here hx rfl (hb hby own_d153) rfl kq) ?_
          show GoOn p e below (s₁.setTop (mkF m 75 #[.val (.int x), .val (.int y), .val (.int (x &&& (3 : Int32)))] [(.int ((((x).toUInt32 >>> ((18 : Int32) &&& 31).toUInt32).toInt32) &&& (255 : Int32)))])) _
          refine GoOn.step (fun tq kq => XS.iloadN X0.here hx rfl (hb hby own_d154) rfl kq) ?_
          show GoOn p e below (s₁.setTop (mkF m 76 #[.val (.int x), .val (.int y), .val (.int (x &&& (3 : Int32)))] [(.int y), (.int ((((x).toUInt32 >>> ((18 : Int32) &&& 31).toUInt32).toInt32) &&& (255 : Int32)))])) _
          refine GoOn.step (fun tq kq => XS.bipush X0.here hx rfl (hb hby own_d155) kq) ?_
          show GoOn p e below (s₁.setTop (mkF m 78 #[.val (.int x), .val (.int y), .val (.int (x &&& (3 : Int32)))] [(.int (18 : Int32)), (.int y), (.int ((((x).toUInt32 >>> ((18 : Int32) &&& 31).toUInt32).toInt32) &&& (255 : Int32)))])) _
          refine GoOn.step (fun tq kq => XS.iushr X0.here hx rfl (hb hby own_d156) rfl kq) ?_
          show GoOn p e below (s₁.setTop (mkF m 79 #[.val (.int x), .val (.int y), .val (.int (x &&& (3 : Int32)))] [(.int (((y).toUInt32 >>> ((18 : Int32) &&& 31).toUInt32).toInt32)), (.int ((((x).toUInt32 >>> ((18 : Int32) &&& 31).toUInt32).toInt32) &&& (255 : Int32)))])) _
          refine GoOn.step (fun tq kq => XS.sipush X0.here hx rfl (hb hby own_d157) kq) ?_
          show GoOn p e below (s₁.setTop (mkF m 82 #[.val (.int x), .val (.int y), .val (.int (x &&& (3 : Int32)))] [(.int (255 : Int32)), (.int (((y).toUInt32 >>> ((18 : Int32) &&& 31).toUInt32).toInt32)), (.int ((((x).toUInt32 >>> ((18 : Int32) &&& 31).toUInt32).toInt32) &&& (255 : Int32)))])) _
          refine GoOn.step (fun tq kq => XS.iand X0.here hx rfl (hb hby own_d158) rfl kq) ?_
          show GoOn p e below (s₁.setTop (mkF m 83 #[.val (.int x), .val (.int y), .val (.int (x &&& (3 : Int32)))] [(.int ((((y).toUInt32 >>> ((18 : Int32) &&& 31).toUInt32).toInt32) &&& (255 : Int32))), (.int ((((x).toUInt32 >>> ((18 : Int32) &&& 31).toUInt32).toInt32) &&& (255 : Int32)))])) _
          by_cases hc310 : ((((x).toUInt32 >>> ((18 : Int32) &&& 31).toUInt32).toInt32) &&& (255 : Int32)) = ((((y).toUInt32 >>> ((18 : Int32) &&& 31).toUInt32).toInt32) &&& (255 : Int32))
          · skip
            refine GoOn.step (fun tq kq => XS.icmpYes X0.here hx rfl (pc0 := 83) (pc' := 88) rfl (hb hby own_d159) rfl (teq hc310).1 (by decide) (by decide) kq) ?_
            show GoOn p e below (s₁.setTop (mkF m 88 #[.val (.int x), .val (.int y), .val (.int (x &&& (3 : Int32)))] [])) _
            refine GoOn.step (fun tq kq => XS.iconst X0.here hx rfl (hb hby own_d160) kq) ?_
            show GoOn p e below (s₁.setTop (mkF m 89 #[.val (.int x), .val (.int y), .val (.int (x &&& (3 : Int32)))] [(.int (1 : Int32))])) _
            refine GoOn.ret X0 Bd.notSynchronized (v := some (.int (nar .boolean (1 : Int32)))) (fun h => by rw [Bd.returns] at h; cases h) (fun fs hr => retN X0 hx (t := .boolean) Bd.returns (by simp) (hb hby own_d161) hr) (by decide) (by decide) ?_
            rw [e0]
            exact ⟨by rw [if_pos (own_same_iff.mpr ⟨hc296, (fun q => absurd q hc297), (fun q => absurd q hc305), (fun _ => (show own_d x 18 = own_d y 18 from hc310))⟩)]; rfl, N0, rfl⟩
          · skip
            refine GoOn.step (fun tq kq => XS.icmpNo X0.here hx rfl (hb hby own_d159) rfl (feq hc310).1 kq) ?_
            show GoOn p e below (s₁.setTop (mkF m 86 #[.val (.int x), .val (.int y), .val (.int (x &&& (3 : Int32)))] [])) _
            refine GoOn.step (fun tq kq => XS.iconst X0.here hx rfl (hb hby own_d162) kq) ?_
            show GoOn p e below (s₁.setTop (mkF m 87 #[.val (.int x), .val (.int y), .val (.int (x &&& (3 : Int32)))] [(.int (0 : Int32))])) _
            refine GoOn.ret X0 Bd.notSynchronized (v := some (.int (nar .boolean (0 : Int32)))) (fun h => by rw [Bd.returns] at h; cases h) (fun fs hr => retN X0 hx (t := .boolean) Bd.returns (by simp) (hb hby own_d163) hr) (by decide) (by decide) ?_
            rw [e0]
            exact ⟨by rw [if_neg (fun q => hc310 ((own_same_iff.mp q).2.2.2 hc309))]; rfl, N0, rfl⟩
        · skip
          refine GoOn.step (fun tq kq => XS.icmpYes X0.here hx rfl (pc0 := 64) (pc' := 88) rfl (hb hby own_d148) rfl (flt hc309).2.2.2 (by decide) (by decide) kq) ?_
          show GoOn p e below (s₁.setTop (mkF m 88 #[.val (.int x), .val (.int y), .val (.int (x &&& (3 : Int32)))] [])) _
          refine GoOn.step (fun tq kq => XS.iconst X0.here hx rfl (hb hby own_d160) kq) ?_
          show GoOn p e below (s₁.setTop (mkF m 89 #[.val (.int x), .val (.int y), .val (.int (x &&& (3 : Int32)))] [(.int (1 : Int32))])) _
          refine GoOn.ret X0 Bd.notSynchronized (v := some (.int (nar .boolean (1 : Int32)))) (fun h => by rw [Bd.returns] at h; cases h) (fun fs hr => retN X0 hx (t := .boolean) Bd.returns (by simp) (hb hby own_d161) hr) (by decide) (by decide) ?_
          rw [e0]
          exact ⟨by rw [if_pos (own_same_iff.mpr ⟨hc296, (fun q => absurd q hc297), (fun q => absurd q hc305), (fun q => absurd q hc309)⟩)]; rfl, N0, rfl⟩
  · skip
    refine GoOn.step (fun tq kq => XS.icmpNo X0.here hx rfl (hb hby own_d118) rfl (feq hc296).1 kq) ?_
    show GoOn p e below (s₁.setTop (mkF m 11 #[.val (.int x), .val (.int y), .val (.int (x &&& (3 : Int32)))] [])) _
    refine GoOn.step (fun tq kq => XS.iconst X0.here hx rfl (hb hby own_d168) kq) ?_
    show GoOn p e below (s₁.setTop (mkF m 12 #[.val (.int x), .val (.int y), .val (.int (x &&& (3 : Int32)))] [(.int (0 : Int32))])) _
    refine GoOn.ret X0 Bd.notSynchronized (v := some (.int (nar .boolean (0 : Int32)))) (fun h => by rw [Bd.returns] at h; cases h) (fun fs hr => retN X0 hx (t := .boolean) Bd.returns (by simp) (hb hby own_d169) hr) (by decide) (by decide) ?_
    rw [e0]
    exact ⟨by rw [if_neg (fun q => hc296 (own_same_iff.mp q).1)]; rfl, N0, rfl⟩
set_option maxRecDepth 65536 in
set_option maxHeartbeats 40000000 in
theorem rmReq (l : Launch) (Z : State) (a0 : Array Value) (hw : ∀ d ∈ tables_1, d.before a0 Z = true) (a b : Addr) (h0 : Heap) (n0 : Nat) (Z0 : n0 ≤ h0.size) :
    MetFree l (⟨"java/util/Objects", "requireNonNull", "(Ljava/lang/Object;Ljava/lang/String;)Ljava/lang/Object;"⟩ : MethodName) (head1 [Jvm.Cond.code (⟨"java/util/Objects", "requireNonNull", "(Ljava/lang/Object;Ljava/lang/String;)Ljava/lang/Object;"⟩ : MethodName) jdk_31_method_11_code 2 (some (.object "java/lang/Object"))] ({ frames := 0, cells := 0, slots := 0, locals := 0 } : Room)) (fun aa U => aa = #[(.ref a), (.ref b)] ∧ Z.Warmed39 U.vm ∧ U.heap = h0) (fun _ _ _ _ _ => True) (fun _ U o U' => ∃ v L, o = .returned v ∧ QSame (.ref a) h0 n0 v U'.heap L ∧ FrameEnd U o U' L ({ frames := 0, cells := 0, slots := 0, locals := 0 } : Room).cells ({ frames := 0, cells := 0, slots := 0, locals := 0 } : Room).slots) := by
  refine MetFree.of_bodySF (plainFor_of_name own_pn171) hisR ?_
  intro p e s m args below meth c s₁ Bd hml0 hP hK
  obtain ⟨rfl, hZ, hh⟩ := hP
  have hx := Bd.exec
  have hby := Bd.bytes
  have hml : c.maxLocals = 2 := hml0
  have hown : s.vm.findClass "java/util/Objects" = some m.cls := findClass_of_methodNamed Bd.named
  have hnm := (name_of_methodNamed Bd.named Bd.method).1
  have X0 : Stand p l e ({ frames := 0, cells := 0, slots := 0, locals := 0 } : Room) s m #[(.ref a), (.ref b)] below meth c s₁ [] 0 0 := Stand.of_body Bd
  have e0 : s₁.heap = h0 := by rw [← hh, Bd.state]; rfl
  have N0 := Fr.nil n0
  have K0 : Keep h0 h0 [] := Keep.refl _ _
  show GoOn p e below (s₁.setTop (entryFrame m #[(.ref a), (.ref b)] 2)) (PostN s (QSame (.ref a) h0 n0) ({ frames := 0, cells := 0, slots := 0, locals := 0 } : Room).cells ({ frames := 0, cells := 0, slots := 0, locals := 0 } : Room).slots)
  refine GoOn.step (fun tq kq => castTop (own_ef170 m a b) kq) ?_
  show GoOn p e below (s₁.setTop (mkF m 0 #[.val (.ref a), .val (.ref b)] [])) _
  refine GoOn.step (fun tq kq => XS.aloadN X0.here hx rfl (hb hby own_d172) rfl rfl kq) ?_
  show GoOn p e below (s₁.setTop (mkF m 1 #[.val (.ref a), .val (.ref b)] [(.ref a)])) _
  refine GoOn.step (fun tq kq => XS.ifnonnullYes X0.here hx rfl (pc0 := 1) (pc' := 13) rfl (hb hby own_d173) rfl (by decide) (by decide) kq) ?_
  show GoOn p e below (s₁.setTop (mkF m 13 #[.val (.ref a), .val (.ref b)] [])) _
  refine GoOn.step (fun tq kq => XS.aloadN X0.here hx rfl (hb hby own_d174) rfl rfl kq) ?_
  show GoOn p e below (s₁.setTop (mkF m 14 #[.val (.ref a), .val (.ref b)] [(.ref a)])) _
  refine GoOn.ret X0 Bd.notSynchronized (v := some (.ref a)) (fun h => by rw [Bd.returns] at h; cases h) (fun fs hr => retOut X0 hx Bd.returns rfl (Or.inr (Or.inr (Or.inr (Or.inr ⟨rfl, rfl, rfl⟩)))) (hb hby own_d175) hr) (by decide) (by decide) ?_
  rw [e0]
  exact ⟨rfl, N0, rfl⟩
def QTI (Z : State) (a b1 b2 : Addr) (h0 : Heap) (n0 : Nat) (v : Option Value) (h : Heap) (L : List Loc) : Prop := v = none ∧ Fr n0 L ∧ Keep h0 h [a] ∧ Exa Z h a "com/example/patokan/patokan/core/Tag" ∧ Fld Z h a "com/example/patokan/patokan/core/Tag" "name" "Ljava/lang/String;" (.ref b1) ∧ Fld Z h a "com/example/patokan/patokan/core/Tag" "value" "Ljava/lang/String;" (.ref b2)
set_option maxRecDepth 65536 in
set_option maxHeartbeats 40000000 in
theorem rmTI (l : Launch) (Z : State) (a0 : Array Value) (hw : ∀ d ∈ tables_1, d.before a0 Z = true) (a b1 b2 : Addr) (cs ds : List Int32) (h0 : Heap) (n0 : Nat) (Z0 : n0 ≤ h0.size) (E0 : Exa Z h0 a "com/example/patokan/patokan/core/Tag") (F0name : Fld Z h0 a "com/example/patokan/patokan/core/Tag" "name" "Ljava/lang/String;" .null) (F0value : Fld Z h0 a "com/example/patokan/patokan/core/Tag" "value" "Ljava/lang/String;" .null) (ga : n0 ≤ a) (SB : StrIs Z h0 b1 cs) (SD : StrIs Z h0 b2 ds) :
    MetFree l (⟨"com/example/patokan/patokan/core/Tag", "<init>", "(Ljava/lang/String;Ljava/lang/String;)V"⟩ : MethodName) (head1 [Jvm.Cond.code (⟨"com/example/patokan/patokan/core/Tag", "<init>", "(Ljava/lang/String;Ljava/lang/String;)V"⟩ : MethodName) prog_31_method_1_code 3 none] ({ frames := 1, cells := 4, slots := 44, locals := 14 } : Room)) (fun aa U => aa = #[(.ref a), (.ref b1), (.ref b2)] ∧ Z.Warmed39 U.vm ∧ U.heap = h0 ∧ CHv Z own_EL U.vm h0) (fun _ _ _ _ _ => True) (fun _ U o U' => ∃ v L, o = .returned v ∧ QTI Z a b1 b2 h0 n0 v U'.heap L ∧ CHr Z own_EL U.vm U.heap U'.vm U'.heap ∧ ReturnedEndW U o U' L ({ frames := 1, cells := 4, slots := 44, locals := 14 } : Room).cells ({ frames := 1, cells := 4, slots := 44, locals := 14 } : Room).slots) := by
  refine MetFree.of_bodySF (plainFor_of_name own_pn177) hisR ?_
  intro p e s m args below meth c s₁ Bd hml0 hP hK
  obtain ⟨rfl, hZ, hh, hCH⟩ := hP
  have hx := Bd.exec
  have hby := Bd.bytes
  have hml : c.maxLocals = 3 := hml0
  have hown : s.vm.findClass "com/example/patokan/patokan/core/Tag" = some m.cls := findClass_of_methodNamed Bd.named
  have hnm := (name_of_methodNamed Bd.named Bd.method).1
  have X0 : Stand p l e ({ frames := 1, cells := 4, slots := 44, locals := 14 } : Room) s m #[(.ref a), (.ref b1), (.ref b2)] below meth c s₁ [] 0 0 := Stand.of_body Bd
  have e0 : s₁.heap = h0 := by rw [← hh, Bd.state]; rfl
  have N0 := Fr.nil n0
  have K0 : Keep h0 h0 [] := Keep.refl _ _
  show GoOn p e below (s₁.setTop (entryFrame m #[(.ref a), (.ref b1), (.ref b2)] 3)) (PostH Z own_EL s (QTI Z a b1 b2 h0 n0) ({ frames := 1, cells := 4, slots := 44, locals := 14 } : Room).cells ({ frames := 1, cells := 4, slots := 44, locals := 14 } : Room).slots)
  refine GoOn.step (fun tq kq => castTop (own_ef176 m a b1 b2) kq) ?_
  have hS0 : s.Since s.vm h0.size := (State.WarmedH.refl s).since _
  have hk0 : h0.size ≤ h0.size := Nat.le_refl _
  replace X0 : Stand p l e ({ frames := 1, cells := 4, slots := 44, locals := 14 } : Room) (s.setVm s.vm) m #[(.ref a), (.ref b1), (.ref b2)] below meth c s₁ [] 0 0 := X0
  replace hZ : Z.Warmed39 (s.setVm s.vm).vm := hZ
  replace hown : (s.setVm s.vm).vm.findClass "com/example/patokan/patokan/core/Tag" = some m.cls := hown
  have C0 : CHr Z own_EL s.vm h0 s.vm h0 := CHr.refl hCH
  have hEL : EW Z a0 own_EL := own_EW hw
  have wS : ∀ d ∈ Bundle.stringAtoms, d.before a0 Z = true := fun d hd => hw d (own_sa d hd)
  show GoOn p e below (s₁.setTop (mkF m 0 #[.val (.ref a), .val (.ref b1), .val (.ref b2)] [])) _
  have K0a : Keep h0 h0 [a] := Keep.refl _ _
  refine GoOn.step (fun tq kq => XS.aloadN X0.here hx rfl (hb hby own_d178) rfl rfl kq) ?_
  show GoOn p e below (s₁.setTop (mkF m 1 #[.val (.ref a), .val (.ref b1), .val (.ref b2)] [(.ref a)])) _
  obtain ⟨T311, X311, e311, st311⟩ := initO X0 hx hZ hown (hw _ (List.mem_of_getElem? (i := 43) rfl)) (hw _ (List.mem_of_getElem? (i := 19) rfl)) (hw _ (List.mem_of_getElem? (i := 20) rfl)) e0 (g := (mkF m 1 #[.val (.ref a), .val (.ref b1), .val (.ref b2)] [(.ref a)])) rfl (by rw [hml]; rfl) rfl (hb hby own_d179) (by decide) (W := 0) (by show 2 * 0 + _ ≤ _; exact Nat.le_of_eq rfl) (by decide)
  refine GoOn.step st311 ?_
  show GoOn p e below (T311.setTop (mkF m 4 #[.val (.ref a), .val (.ref b1), .val (.ref b2)] [])) _
  refine GoOn.step (fun tq kq => XS.aloadN X311.here hx rfl (hb hby own_d180) rfl rfl kq) ?_
  show GoOn p e below (T311.setTop (mkF m 5 #[.val (.ref a), .val (.ref b1), .val (.ref b2)] [(.ref a)])) _
  refine GoOn.step (fun tq kq => XS.aloadN X311.here hx rfl (hb hby own_d181) rfl rfl kq) ?_
  show GoOn p e below (T311.setTop (mkF m 6 #[.val (.ref a), .val (.ref b1), .val (.ref b2)] [(.ref b1), (.ref a)])) _
  obtain ⟨lt312, T312, h312, k1312, X312, e312, Ex312, hS312, hk312, hZ312, hown312, Cn312, Lt312, st312⟩ := ldcOH X311 hx hZ hown (hw _ (List.mem_of_getElem? (i := 44) rfl)) wS e311 hS0 hk0 hEL C0.1 (g := (mkF m 6 #[.val (.ref a), .val (.ref b1), .val (.ref b2)] [(.ref b1), (.ref a)])) rfl (hb hby own_d182) (n := 16) (by decide) (by decide) (by decide) (by decide)
  have Kx312 : Keep h0 h312 [] := (Keep.refl _ _).ext Ex312
  refine GoOn.step st312 ?_
  have E313 : Exa Z h312 a "com/example/patokan/patokan/core/Tag" := E0.keep Kx312
  have F314 : Fld Z h312 a "com/example/patokan/patokan/core/Tag" "name" "Ljava/lang/String;" .null := F0name.keep Kx312 nin0
  have F315 : Fld Z h312 a "com/example/patokan/patokan/core/Tag" "value" "Ljava/lang/String;" .null := F0value.keep Kx312 nin0
  have Sr316 : StrIs Z h312 b1 cs := SB.keep0 Kx312
  have Sr317 : StrIs Z h312 b2 ds := SD.keep0 Kx312
  have Z318 : n0 ≤ h312.size := Nat.le_trans Z0 Kx312.1
  have C319 : CHr Z own_EL s.vm h0 T312.vm h312 := CHr.trans C0 Cn312
  have K320 : Keep h0 h312 [a] := K0a.trans Kx312 all0
  show GoOn p e below (T312.setTop (mkF m 8 #[.val (.ref a), .val (.ref b1), .val (.ref b2)] [(.ref lt312), (.ref b1), (.ref a)])) _
  obtain ⟨_, _, ⟨T321, L321, k321, n321⟩, -, X321, ⟨Lc321, hQ321, l321, y321, z321⟩, st321⟩ := Jvm.LawKit.callS X312 hx (y := (⟨"java/util/Objects", "requireNonNull", "(Ljava/lang/Object;Ljava/lang/String;)Ljava/lang/Object;"⟩ : MethodName)) hown312 (mvT hZ312 (hw _ (List.mem_of_getElem? (i := 45) rfl))) (mvT hZ312 (hw _ (List.mem_of_getElem? (i := 46) rfl))) (mvT hZ312 (hw _ (List.mem_of_getElem? (i := 47) rfl))) (mvT hZ312 (hw _ (List.mem_of_getElem? (i := 48) rfl))) (by decide) (backOf (W := 1) (rmReq l Z a0 hw b1 lt312 h312 n0 Z318) hZ312 (hw _ (List.mem_of_getElem? (i := 48) rfl)) (hw _ (List.mem_of_getElem? (i := 47) rfl)) (by decide) (by decide)) (g := (mkF m 8 #[.val (.ref a), .val (.ref b1), .val (.ref b2)] [(.ref lt312), (.ref b1), (.ref a)])) rfl (by rw [hml]; rfl) (argsL := [(.ref b1), (.ref lt312)]) (rest := [(.ref a)]) (lenOf own_pd183 rfl) rfl (by show 2 * 0 + _ ≤ _; exact Nat.le_of_eq rfl) (hb hby own_d184) (fun _ _ => ⟨rfl, e312, (by decide : 2 + 0 ≤ _), (by decide : 20 + 0 ≤ _)⟩)
  dsimp only [Pt.U, Pt.locs, Pt.cells, Pt.slots] at X321 l321 y321 z321 st321 hQ321
  subst l321 y321 z321
  obtain ⟨rfl, N321, e321⟩ := hQ321
  refine GoOn.step st321 ?_
  have N322 := Fr.app N0 N321
  show GoOn p e below (T321.setTop (mkF m 11 #[.val (.ref a), .val (.ref b1), .val (.ref b2)] [(.ref b1), (.ref a)])) _
  obtain ⟨T323, X323, e323, st323⟩ := castY X321 hx hZ312 hown312 (hw _ (List.mem_of_getElem? (i := 49) rfl)) e321 (Ins.self Sr316.1) (g := (mkF m 11 #[.val (.ref a), .val (.ref b1), .val (.ref b2)] [(.ref b1), (.ref a)])) rfl rfl (hb hby own_d185)
  refine GoOn.step st323 ?_
  show GoOn p e below (T323.setTop (mkF m 14 #[.val (.ref a), .val (.ref b1), .val (.ref b2)] [(.ref b1), (.ref a)])) _
  obtain ⟨T324, h324, X324, e324, W324, st324⟩ := putF X323 hx hZ312 hown312 (host := "") (Or.inl (hw _ (List.mem_of_getElem? (i := 50) rfl))) Via.refl e323 F314 E313 (Or.inr ⟨(hw _ (List.mem_of_getElem? (i := 51) rfl)), rfl, hnm⟩) (hw _ (List.mem_of_getElem? (i := 1) rfl)) (ty := (.object "java/lang/String")) (by decide) rfl rfl (g := (mkF m 14 #[.val (.ref a), .val (.ref b1), .val (.ref b2)] [(.ref b1), (.ref a)])) rfl rfl (hb hby own_d186)
  have N325 := Fr.snoc X324 N322 ga
  have Kx324 : Keep h312 h324 [a] := Keep.of_wr W324
  have F326 : Fld Z h324 a "com/example/patokan/patokan/core/Tag" "name" "Ljava/lang/String;" (.ref b1) := F314.same W324
  have F327 : Fld Z h324 a "com/example/patokan/patokan/core/Tag" "value" "Ljava/lang/String;" .null := F315.other W324 (Or.inr (slot_ne (a0 := a0) (Or.inr (hw _ (List.mem_of_getElem? (i := 54) rfl))) (Or.inr (hw _ (List.mem_of_getElem? (i := 51) rfl))) (by decide) (t := (.object "java/lang/String")) (t' := (.object "java/lang/String")) (by decide) (by decide)))
  refine GoOn.step st324 ?_
  have E328 : Exa Z h324 a "com/example/patokan/patokan/core/Tag" := E313.keep Kx324
  have Sr331 : StrIs Z h324 b1 cs := Sr316.keepX Kx324 E313 (hw _ (List.mem_of_getElem? (i := 1) rfl)) (by decide)
  have Sr332 : StrIs Z h324 b2 ds := Sr317.keepX Kx324 E313 (hw _ (List.mem_of_getElem? (i := 1) rfl)) (by decide)
  have Z333 : n0 ≤ h324.size := Nat.le_trans Z318 Kx324.1
  have C334 : CHr Z own_EL s.vm h0 T312.vm h324 := CHr.trans C319 (CHr.keep Kx324 (allS (Safe.exa hZ312.alike E313 (by decide) (by decide)) all0) C319.1)
  have K335 : Keep h0 h324 [a] := K320.trans Kx324 ((allS (Or.inl (by simp)) all0))
  have hk336 := Nat.le_trans hk312 Kx324.1
  show GoOn p e below (T324.setTop (mkF m 17 #[.val (.ref a), .val (.ref b1), .val (.ref b2)] [])) _
  refine GoOn.step (fun tq kq => XS.aloadN X324.here hx rfl (hb hby own_d187) rfl rfl kq) ?_
  show GoOn p e below (T324.setTop (mkF m 18 #[.val (.ref a), .val (.ref b1), .val (.ref b2)] [(.ref a)])) _
  refine GoOn.step (fun tq kq => XS.aloadN X324.here hx rfl (hb hby own_d188) rfl rfl kq) ?_
  show GoOn p e below (T324.setTop (mkF m 19 #[.val (.ref a), .val (.ref b1), .val (.ref b2)] [(.ref b2), (.ref a)])) _
  obtain ⟨lt337, T337, h337, k1337, X337, e337, Ex337, hS337, hk337, hZ337, hown337, Cn337, Lt337, st337⟩ := ldcOH X324 hx hZ312 hown312 (hw _ (List.mem_of_getElem? (i := 52) rfl)) wS e324 hS312 hk336 hEL C334.1 (g := (mkF m 19 #[.val (.ref a), .val (.ref b1), .val (.ref b2)] [(.ref b2), (.ref a)])) rfl (hb hby own_d189) (n := 20) (by decide) (by decide) (by decide) (by decide)
  have Kx337 : Keep h324 h337 [] := (Keep.refl _ _).ext Ex337
  refine GoOn.step st337 ?_
  have E338 : Exa Z h337 a "com/example/patokan/patokan/core/Tag" := E328.keep Kx337
  have Sr339 : StrIs Z h337 b1 cs := Sr331.keep0 Kx337
  have Sr340 : StrIs Z h337 b2 ds := Sr332.keep0 Kx337
  have Z341 : n0 ≤ h337.size := Nat.le_trans Z333 Kx337.1
  have C342 : CHr Z own_EL s.vm h0 T337.vm h337 := CHr.trans C334 Cn337
  have K343 : Keep h0 h337 [a] := K335.trans Kx337 all0
  have F344 : Fld Z h337 a "com/example/patokan/patokan/core/Tag" "name" "Ljava/lang/String;" (.ref b1) := F326.keep Kx337 nin0
  have F345 : Fld Z h337 a "com/example/patokan/patokan/core/Tag" "value" "Ljava/lang/String;" .null := F327.keep Kx337 nin0
  show GoOn p e below (T337.setTop (mkF m 21 #[.val (.ref a), .val (.ref b1), .val (.ref b2)] [(.ref lt337), (.ref b2), (.ref a)])) _
  obtain ⟨_, _, ⟨T346, L346, k346, n346⟩, -, X346, ⟨Lc346, hQ346, l346, y346, z346⟩, st346⟩ := Jvm.LawKit.callS X337 hx (y := (⟨"java/util/Objects", "requireNonNull", "(Ljava/lang/Object;Ljava/lang/String;)Ljava/lang/Object;"⟩ : MethodName)) hown337 (mvT hZ337 (hw _ (List.mem_of_getElem? (i := 45) rfl))) (mvT hZ337 (hw _ (List.mem_of_getElem? (i := 46) rfl))) (mvT hZ337 (hw _ (List.mem_of_getElem? (i := 47) rfl))) (mvT hZ337 (hw _ (List.mem_of_getElem? (i := 48) rfl))) (by decide) (backOf (W := 1) (rmReq l Z a0 hw b2 lt337 h337 n0 Z341) hZ337 (hw _ (List.mem_of_getElem? (i := 48) rfl)) (hw _ (List.mem_of_getElem? (i := 47) rfl)) (by decide) (by decide)) (g := (mkF m 21 #[.val (.ref a), .val (.ref b1), .val (.ref b2)] [(.ref lt337), (.ref b2), (.ref a)])) rfl (by rw [hml]; rfl) (argsL := [(.ref b2), (.ref lt337)]) (rest := [(.ref a)]) (lenOf own_pd183 rfl) rfl (by show 2 * 0 + _ ≤ _; exact Nat.le_of_eq rfl) (hb hby own_d190) (fun _ _ => ⟨rfl, e337, (by decide : 4 + 0 ≤ _), (by decide : 44 + 0 ≤ _)⟩)
  dsimp only [Pt.U, Pt.locs, Pt.cells, Pt.slots] at X346 l346 y346 z346 st346 hQ346
  subst l346 y346 z346
  obtain ⟨rfl, N346, e346⟩ := hQ346
  refine GoOn.step st346 ?_
  have N347 := Fr.app N325 N346
  show GoOn p e below (T346.setTop (mkF m 24 #[.val (.ref a), .val (.ref b1), .val (.ref b2)] [(.ref b2), (.ref a)])) _
  obtain ⟨T348, X348, e348, st348⟩ := castY X346 hx hZ337 hown337 (hw _ (List.mem_of_getElem? (i := 49) rfl)) e346 (Ins.self Sr340.1) (g := (mkF m 24 #[.val (.ref a), .val (.ref b1), .val (.ref b2)] [(.ref b2), (.ref a)])) rfl rfl (hb hby own_d191)
  refine GoOn.step st348 ?_
  show GoOn p e below (T348.setTop (mkF m 27 #[.val (.ref a), .val (.ref b1), .val (.ref b2)] [(.ref b2), (.ref a)])) _
  obtain ⟨T349, h349, X349, e349, W349, st349⟩ := putF X348 hx hZ337 hown337 (host := "") (Or.inl (hw _ (List.mem_of_getElem? (i := 53) rfl))) Via.refl e348 F345 E338 (Or.inr ⟨(hw _ (List.mem_of_getElem? (i := 54) rfl)), rfl, hnm⟩) (hw _ (List.mem_of_getElem? (i := 1) rfl)) (ty := (.object "java/lang/String")) (by decide) rfl rfl (g := (mkF m 27 #[.val (.ref a), .val (.ref b1), .val (.ref b2)] [(.ref b2), (.ref a)])) rfl rfl (hb hby own_d192)
  have N350 := Fr.snoc X349 N347 ga
  have Kx349 : Keep h337 h349 [a] := Keep.of_wr W349
  have F351 : Fld Z h349 a "com/example/patokan/patokan/core/Tag" "value" "Ljava/lang/String;" (.ref b2) := F345.same W349
  have F352 : Fld Z h349 a "com/example/patokan/patokan/core/Tag" "name" "Ljava/lang/String;" (.ref b1) := F344.other W349 (Or.inr (slot_ne (a0 := a0) (Or.inr (hw _ (List.mem_of_getElem? (i := 51) rfl))) (Or.inr (hw _ (List.mem_of_getElem? (i := 54) rfl))) (by decide) (t := (.object "java/lang/String")) (t' := (.object "java/lang/String")) (by decide) (by decide)))
  refine GoOn.step st349 ?_
  have E353 : Exa Z h349 a "com/example/patokan/patokan/core/Tag" := E338.keep Kx349
  have Sr354 : StrIs Z h349 b1 cs := Sr339.keepX Kx349 E338 (hw _ (List.mem_of_getElem? (i := 1) rfl)) (by decide)
  have Sr355 : StrIs Z h349 b2 ds := Sr340.keepX Kx349 E338 (hw _ (List.mem_of_getElem? (i := 1) rfl)) (by decide)
  have Z356 : n0 ≤ h349.size := Nat.le_trans Z341 Kx349.1
  have C357 : CHr Z own_EL s.vm h0 T337.vm h349 := CHr.trans C342 (CHr.keep Kx349 (allS (Safe.exa hZ337.alike E338 (by decide) (by decide)) all0) C342.1)
  have K358 : Keep h0 h349 [a] := K343.trans Kx349 ((allS (Or.inl (by simp)) all0))
  have hk361 := Nat.le_trans hk337 Kx349.1
  show GoOn p e below (T349.setTop (mkF m 30 #[.val (.ref a), .val (.ref b1), .val (.ref b2)] [])) _
  refine GoOn.retH X349 hZ337 hS337 (hk361) hEL hh e349 C357 Bd.notSynchronized (v := none) (fun _ => rfl) (fun fs hr => X349.returnOut hx Bd.returns (hb hby own_d193) hr) (by decide) (by decide) ?_
  exact ⟨rfl, N350, K358, E353, F352, F351⟩
set_option maxRecDepth 65536 in
set_option maxHeartbeats 40000000 in
theorem rmTE0 (l : Launch) (Z : State) (a0 : Array Value) (hw : ∀ d ∈ tables_1, d.before a0 Z = true) (a : Addr) (h0 : Heap) (n0 : Nat) (Z0 : n0 ≤ h0.size) :
    MetFree l (⟨"com/example/patokan/patokan/core/Tag", "equals", "(Ljava/lang/Object;)Z"⟩ : MethodName) (head1 [Jvm.Cond.code (⟨"com/example/patokan/patokan/core/Tag", "equals", "(Ljava/lang/Object;)Z"⟩ : MethodName) prog_31_method_4_code 3 (some .boolean)] ({ frames := 0, cells := 0, slots := 0, locals := 0 } : Room)) (fun aa U => aa = #[(.ref a), .null] ∧ Z.Warmed39 U.vm ∧ U.heap = h0) (fun _ _ _ _ _ => True) (fun _ U o U' => ∃ v L, o = .returned v ∧ QSame (.int 0) h0 n0 v U'.heap L ∧ FrameEnd U o U' L ({ frames := 0, cells := 0, slots := 0, locals := 0 } : Room).cells ({ frames := 0, cells := 0, slots := 0, locals := 0 } : Room).slots) := by
  refine MetFree.of_bodySF (plainFor_of_name own_pn177) hisR ?_
  intro p e s m args below meth c s₁ Bd hml0 hP hK
  obtain ⟨rfl, hZ, hh⟩ := hP
  have hx := Bd.exec
  have hby := Bd.bytes
  have hml : c.maxLocals = 3 := hml0
  have hown : s.vm.findClass "com/example/patokan/patokan/core/Tag" = some m.cls := findClass_of_methodNamed Bd.named
  have hnm := (name_of_methodNamed Bd.named Bd.method).1
  have X0 : Stand p l e ({ frames := 0, cells := 0, slots := 0, locals := 0 } : Room) s m #[(.ref a), .null] below meth c s₁ [] 0 0 := Stand.of_body Bd
  have e0 : s₁.heap = h0 := by rw [← hh, Bd.state]; rfl
  have N0 := Fr.nil n0
  have K0 : Keep h0 h0 [] := Keep.refl _ _
  show GoOn p e below (s₁.setTop (entryFrame m #[(.ref a), .null] 3)) (PostN s (QSame (.int 0) h0 n0) ({ frames := 0, cells := 0, slots := 0, locals := 0 } : Room).cells ({ frames := 0, cells := 0, slots := 0, locals := 0 } : Room).slots)
  refine GoOn.step (fun tq kq => castTop (own_ef194 m a) kq) ?_
  show GoOn p e below (s₁.setTop (mkF m 0 #[.val (.ref a), .val .null, .unset] [])) _
  refine GoOn.step (fun tq kq => XS.aloadN X0.here hx rfl (hb hby own_d195) rfl rfl kq) ?_
  show GoOn p e below (s₁.setTop (mkF m 1 #[.val (.ref a), .val .null, .unset] [.null])) _
  refine GoOn.step (fun tq kq => X0.instanceofNull hx (g := (mkF m 1 #[.val (.ref a), .val .null, .unset] [.null])) rfl rfl (hb hby own_d196) _ kq) ?_
  show GoOn p e below (s₁.setTop (mkF m 4 #[.val (.ref a), .val .null, .unset] [(.int (0 : Int32))])) _
  refine GoOn.step (fun tq kq => XS.ifYes X0.here hx rfl (pc0 := 4) (pc' := 44) rfl (hb hby own_d197) rfl ((if0 _ _).trans (teq rfl).1) (by decide) (by decide) kq) ?_
  show GoOn p e below (s₁.setTop (mkF m 44 #[.val (.ref a), .val .null, .unset] [])) _
  refine GoOn.step (fun tq kq => XS.iconst X0.here hx rfl (hb hby own_d198) kq) ?_
  show GoOn p e below (s₁.setTop (mkF m 45 #[.val (.ref a), .val .null, .unset] [(.int (0 : Int32))])) _
  refine GoOn.ret X0 Bd.notSynchronized (v := some (.int (nar .boolean (0 : Int32)))) (fun h => by rw [Bd.returns] at h; cases h) (fun fs hr => retN X0 hx (t := .boolean) Bd.returns (by simp) (hb hby own_d199) hr) (by decide) (by decide) ?_
  rw [e0]
  exact ⟨rfl, N0, rfl⟩
set_option maxRecDepth 65536 in
set_option maxHeartbeats 40000000 in
theorem rmTE1 (l : Launch) (Z : State) (a0 : Array Value) (hw : ∀ d ∈ tables_1, d.before a0 Z = true) (a b : Addr) (h0 : Heap) (n0 : Nat) (Z0 : n0 ≤ h0.size) (EB : Exa Z h0 b "java/lang/String") :
    MetFree l (⟨"com/example/patokan/patokan/core/Tag", "equals", "(Ljava/lang/Object;)Z"⟩ : MethodName) (head1 [Jvm.Cond.code (⟨"com/example/patokan/patokan/core/Tag", "equals", "(Ljava/lang/Object;)Z"⟩ : MethodName) prog_31_method_4_code 3 (some .boolean)] ({ frames := 0, cells := 0, slots := 0, locals := 0 } : Room)) (fun aa U => aa = #[(.ref a), (.ref b)] ∧ Z.Warmed39 U.vm ∧ U.heap = h0) (fun _ _ _ _ _ => True) (fun _ U o U' => ∃ v L, o = .returned v ∧ QSame (.int 0) h0 n0 v U'.heap L ∧ FrameEnd U o U' L ({ frames := 0, cells := 0, slots := 0, locals := 0 } : Room).cells ({ frames := 0, cells := 0, slots := 0, locals := 0 } : Room).slots) := by
  refine MetFree.of_bodySF (plainFor_of_name own_pn177) hisR ?_
  intro p e s m args below meth c s₁ Bd hml0 hP hK
  obtain ⟨rfl, hZ, hh⟩ := hP
  have hx := Bd.exec
  have hby := Bd.bytes
  have hml : c.maxLocals = 3 := hml0
  have hown : s.vm.findClass "com/example/patokan/patokan/core/Tag" = some m.cls := findClass_of_methodNamed Bd.named
  have hnm := (name_of_methodNamed Bd.named Bd.method).1
  have X0 : Stand p l e ({ frames := 0, cells := 0, slots := 0, locals := 0 } : Room) s m #[(.ref a), (.ref b)] below meth c s₁ [] 0 0 := Stand.of_body Bd
  have e0 : s₁.heap = h0 := by rw [← hh, Bd.state]; rfl
  have N0 := Fr.nil n0
  have K0 : Keep h0 h0 [] := Keep.refl _ _
  show GoOn p e below (s₁.setTop (entryFrame m #[(.ref a), (.ref b)] 3)) (PostN s (QSame (.int 0) h0 n0) ({ frames := 0, cells := 0, slots := 0, locals := 0 } : Room).cells ({ frames := 0, cells := 0, slots := 0, locals := 0 } : Room).slots)
  refine GoOn.step (fun tq kq => castTop (own_ef200 m a b) kq) ?_
  show GoOn p e below (s₁.setTop (mkF m 0 #[.val (.ref a), .val (.ref b), .unset] [])) _
  refine GoOn.step (fun tq kq => XS.aloadN X0.here hx rfl (hb hby own_d195) rfl rfl kq) ?_
  show GoOn p e below (s₁.setTop (mkF m 1 #[.val (.ref a), .val (.ref b), .unset] [(.ref b)])) _
  obtain ⟨T363, X363, e363, st363⟩ := instNo X0 hx hZ hown (hw _ (List.mem_of_getElem? (i := 63) rfl)) e0 EB (own_noinst (hw _ (List.mem_of_getElem? (i := 75) rfl)) (hw _ (List.mem_of_getElem? (i := 76) rfl)) (hw _ (List.mem_of_getElem? (i := 1) rfl)) (by decide) (by decide)) (g := (mkF m 1 #[.val (.ref a), .val (.ref b), .unset] [(.ref b)])) rfl rfl (hb hby own_d196)
  refine GoOn.step st363 ?_
  show GoOn p e below (T363.setTop (mkF m 4 #[.val (.ref a), .val (.ref b), .unset] [(.int (0 : Int32))])) _
  refine GoOn.step (fun tq kq => XS.ifYes X363.here hx rfl (pc0 := 4) (pc' := 44) rfl (hb hby own_d197) rfl ((if0 _ _).trans (teq rfl).1) (by decide) (by decide) kq) ?_
  show GoOn p e below (T363.setTop (mkF m 44 #[.val (.ref a), .val (.ref b), .unset] [])) _
  refine GoOn.step (fun tq kq => XS.iconst X363.here hx rfl (hb hby own_d198) kq) ?_
  show GoOn p e below (T363.setTop (mkF m 45 #[.val (.ref a), .val (.ref b), .unset] [(.int (0 : Int32))])) _
  refine GoOn.ret X363 Bd.notSynchronized (v := some (.int (nar .boolean (0 : Int32)))) (fun h => by rw [Bd.returns] at h; cases h) (fun fs hr => retN X363 hx (t := .boolean) Bd.returns (by simp) (hb hby own_d199) hr) (by decide) (by decide) ?_
  rw [e363]
  exact ⟨rfl, N0, rfl⟩
set_option maxRecDepth 65536 in
set_option maxHeartbeats 40000000 in
theorem rmTE2 (l : Launch) (Z : State) (a0 : Array Value) (hw : ∀ d ∈ tables_1, d.before a0 Z = true) (a b n1 v1 n2 v2 : Addr) (cs ds es fs : List Int32) (G1 : Int32) (h0 : Heap) (n0 : Nat) (Z0 : n0 ≤ h0.size) (SC : Sta Z Z.heap "java/lang/String" "COMPACT_STRINGS" "Z" (.int G1)) (PC : ¬ G1 = (0 : Int32)) (EB : Exa Z h0 b "com/example/patokan/patokan/core/Tag") (Fan1 : Fld Z h0 a "com/example/patokan/patokan/core/Tag" "name" "Ljava/lang/String;" (.ref n1)) (Fav1 : Fld Z h0 a "com/example/patokan/patokan/core/Tag" "value" "Ljava/lang/String;" (.ref v1)) (Fbn2 : Fld Z h0 b "com/example/patokan/patokan/core/Tag" "name" "Ljava/lang/String;" (.ref n2)) (Fbv2 : Fld Z h0 b "com/example/patokan/patokan/core/Tag" "value" "Ljava/lang/String;" (.ref v2)) (S1 : StrIs Z h0 n1 cs) (S2 : StrIs Z h0 v1 ds) (S3 : StrIs Z h0 n2 es) (S4 : StrIs Z h0 v2 fs) (O0 : Old Z n0 h0) :
    MetFree l (⟨"com/example/patokan/patokan/core/Tag", "equals", "(Ljava/lang/Object;)Z"⟩ : MethodName) (head1 [Jvm.Cond.code (⟨"com/example/patokan/patokan/core/Tag", "equals", "(Ljava/lang/Object;)Z"⟩ : MethodName) prog_31_method_4_code 3 (some .boolean)] ({ frames := 2, cells := 0, slots := 0, locals := 28 } : Room)) (fun aa U => aa = #[(.ref a), (.ref b)] ∧ Z.Warmed39 U.vm ∧ U.heap = h0) (fun _ _ _ _ _ => True) (fun _ U o U' => ∃ v L, o = .returned v ∧ QSame (.int (if cs = es ∧ ds = fs then 1 else 0)) h0 n0 v U'.heap L ∧ FrameEnd U o U' L ({ frames := 2, cells := 0, slots := 0, locals := 28 } : Room).cells ({ frames := 2, cells := 0, slots := 0, locals := 28 } : Room).slots) := by
  refine MetFree.of_bodySF (plainFor_of_name own_pn177) hisR ?_
  intro p e s m args below meth c s₁ Bd hml0 hP hK
  obtain ⟨rfl, hZ, hh⟩ := hP
  have hx := Bd.exec
  have hby := Bd.bytes
  have hml : c.maxLocals = 3 := hml0
  have hown : s.vm.findClass "com/example/patokan/patokan/core/Tag" = some m.cls := findClass_of_methodNamed Bd.named
  have hnm := (name_of_methodNamed Bd.named Bd.method).1
  have X0 : Stand p l e ({ frames := 2, cells := 0, slots := 0, locals := 28 } : Room) s m #[(.ref a), (.ref b)] below meth c s₁ [] 0 0 := Stand.of_body Bd
  have e0 : s₁.heap = h0 := by rw [← hh, Bd.state]; rfl
  have N0 := Fr.nil n0
  have K0 : Keep h0 h0 [] := Keep.refl _ _
  show GoOn p e below (s₁.setTop (entryFrame m #[(.ref a), (.ref b)] 3)) (PostN s (QSame (.int (if cs = es ∧ ds = fs then 1 else 0)) h0 n0) ({ frames := 2, cells := 0, slots := 0, locals := 28 } : Room).cells ({ frames := 2, cells := 0, slots := 0, locals := 28 } : Room).slots)
  refine GoOn.step (fun tq kq => castTop (own_ef200 m a b) kq) ?_
  show GoOn p e below (s₁.setTop (mkF m 0 #[.val (.ref a), .val (.ref b), .unset] [])) _
  have hws : ∀ d ∈ StrChars.Road.wordsEq, d.before a0 Z = true := fun d hd => hw d ((by decide +kernel : ∀ d ∈ StrChars.Road.wordsEq, d ∈ tables_1) d hd)
  have heq := hws
  refine GoOn.step (fun tq kq => XS.aloadN X0.here hx rfl (hb hby own_d195) rfl rfl kq) ?_
  show GoOn p e below (s₁.setTop (mkF m 1 #[.val (.ref a), .val (.ref b), .unset] [(.ref b)])) _
  obtain ⟨T364, X364, e364, st364⟩ := instY X0 hx hZ hown (hw _ (List.mem_of_getElem? (i := 63) rfl)) e0 (Ins.self EB) (g := (mkF m 1 #[.val (.ref a), .val (.ref b), .unset] [(.ref b)])) rfl rfl (hb hby own_d196)
  refine GoOn.step st364 ?_
  show GoOn p e below (T364.setTop (mkF m 4 #[.val (.ref a), .val (.ref b), .unset] [(.int (1 : Int32))])) _
  refine GoOn.step (fun tq kq => XS.ifNo X364.here hx rfl (hb hby own_d197) rfl ((if0 _ _).trans (feq (by decide)).1) kq) ?_
  show GoOn p e below (T364.setTop (mkF m 7 #[.val (.ref a), .val (.ref b), .unset] [])) _
  refine GoOn.step (fun tq kq => XS.aloadN X364.here hx rfl (hb hby own_d201) rfl rfl kq) ?_
  show GoOn p e below (T364.setTop (mkF m 8 #[.val (.ref a), .val (.ref b), .unset] [(.ref b)])) _
  obtain ⟨T365, X365, e365, st365⟩ := castY X364 hx hZ hown (hw _ (List.mem_of_getElem? (i := 63) rfl)) e364 (Ins.self EB) (g := (mkF m 8 #[.val (.ref a), .val (.ref b), .unset] [(.ref b)])) rfl rfl (hb hby own_d202)
  refine GoOn.step st365 ?_
  show GoOn p e below (T365.setTop (mkF m 11 #[.val (.ref a), .val (.ref b), .unset] [(.ref b)])) _
  refine GoOn.step (fun tq kq => XS.astoreN X365.here hx rfl (hb hby own_d203) rfl rfl (l' := #[.val (.ref a), .val (.ref b), .val (.ref b)]) rfl kq) ?_
  show GoOn p e below (T365.setTop (mkF m 12 #[.val (.ref a), .val (.ref b), .val (.ref b)] [])) _
  refine GoOn.step (fun tq kq => XS.aloadN X365.here hx rfl (hb hby own_d204) rfl rfl kq) ?_
  show GoOn p e below (T365.setTop (mkF m 13 #[.val (.ref a), .val (.ref b), .val (.ref b)] [(.ref a)])) _
  obtain ⟨T366, X366, e366, st366⟩ := getF X365 hx hZ hown (host := "") (Or.inl (hw _ (List.mem_of_getElem? (i := 50) rfl))) Via.refl e365 Fan1 (g := (mkF m 13 #[.val (.ref a), .val (.ref b), .val (.ref b)] [(.ref a)])) rfl rfl (hb hby own_d205)
  refine GoOn.step st366 ?_
  show GoOn p e below (T366.setTop (mkF m 16 #[.val (.ref a), .val (.ref b), .val (.ref b)] [(.ref n1)])) _
  refine GoOn.step (fun tq kq => XS.aloadN X366.here hx rfl (hb hby own_d206) rfl rfl kq) ?_
  show GoOn p e below (T366.setTop (mkF m 17 #[.val (.ref a), .val (.ref b), .val (.ref b)] [(.ref b), (.ref n1)])) _
  obtain ⟨T367, X367, e367, st367⟩ := getF X366 hx hZ hown (host := "") (Or.inl (hw _ (List.mem_of_getElem? (i := 50) rfl))) Via.refl e366 Fbn2 (g := (mkF m 17 #[.val (.ref a), .val (.ref b), .val (.ref b)] [(.ref b), (.ref n1)])) rfl rfl (hb hby own_d207)
  refine GoOn.step st367 ?_
  show GoOn p e below (T367.setTop (mkF m 20 #[.val (.ref a), .val (.ref b), .val (.ref b)] [(.ref n2), (.ref n1)])) _
  obtain ⟨cqc369, kqc369, qac369, qbc369, qcc369⟩ := isOf hZ e367 S1.1
  obtain ⟨_, _, ⟨T368, L368, k368, n368⟩, -, X368, ⟨Lc368, hQ368, l368, y368, z368⟩, st368⟩ := X367.virtualBack hx (y := (⟨"java/lang/String", "equals", "(Ljava/lang/Object;)Z"⟩ : MethodName)) (z := (⟨"java/lang/String", "equals", "(Ljava/lang/Object;)Z"⟩ : MethodName)) hown (mvT hZ (hw _ (List.mem_of_getElem? (i := 65) rfl))) (mvT hZ (hw _ (List.mem_of_getElem? (i := 66) rfl))) (notFace_of_selects (args := #[]) (mvT hZ (hw _ (List.mem_of_getElem? (i := 68) rfl)))) (mvT hZ (hw _ (List.mem_of_getElem? (i := 68) rfl))) (mvT hZ (hw _ (List.mem_of_getElem? (i := 67) rfl))) (by decide) (own_eqS (n0 := n0) (W := 0) hZ heq (kI := 4) (hw _ (List.mem_of_getElem? (i := 8) rfl)) S1 S3 (SC.ext O0.2) PC (by decide) (by decide)) qac369 qcc369 (g := (mkF m 20 #[.val (.ref a), .val (.ref b), .val (.ref b)] [(.ref n2), (.ref n1)])) rfl (by rw [hml]; rfl) (Steps.refl _) (argsL := [(.ref n2)]) (rest := []) (lenOf own_pd208 rfl) rfl (by show 2 * 0 + _ ≤ _; exact Nat.le_of_eq rfl) (hb hby own_d209) (fun _ _ => ⟨rfl, e367, (by decide : 0 + 0 ≤ _), (by decide : 0 + 0 ≤ _)⟩)
  dsimp only [Pt.U, Pt.locs, Pt.cells, Pt.slots] at X368 l368 y368 z368 st368 hQ368
  subst l368 y368 z368
  obtain ⟨rfl, N368, e368⟩ := hQ368
  refine GoOn.trans st368 ?_
  have N370 := Fr.app N0 N368
  show GoOn p e below (T368.setTop (mkF m 23 #[.val (.ref a), .val (.ref b), .val (.ref b)] [(.int (if cs = es then 1 else 0))])) _
  by_cases hc371 : cs = es
  · skip
    refine GoOn.step (fun tq kq => XS.ifNo X368.here hx rfl (hb hby own_d210) rfl ((if0 _ _).trans (feq (by rw [if_pos hc371]; decide)).1) kq) ?_
    show GoOn p e below (T368.setTop (mkF m 26 #[.val (.ref a), .val (.ref b), .val (.ref b)] [])) _
    refine GoOn.step (fun tq kq => XS.aloadN X368.here hx rfl (hb hby own_d211) rfl rfl kq) ?_
    show GoOn p e below (T368.setTop (mkF m 27 #[.val (.ref a), .val (.ref b), .val (.ref b)] [(.ref a)])) _
    obtain ⟨T372, X372, e372, st372⟩ := getF X368 hx hZ hown (host := "") (Or.inl (hw _ (List.mem_of_getElem? (i := 53) rfl))) Via.refl e368 Fav1 (g := (mkF m 27 #[.val (.ref a), .val (.ref b), .val (.ref b)] [(.ref a)])) rfl rfl (hb hby own_d212)
    refine GoOn.step st372 ?_
    show GoOn p e below (T372.setTop (mkF m 30 #[.val (.ref a), .val (.ref b), .val (.ref b)] [(.ref v1)])) _
    refine GoOn.step (fun tq kq => XS.aloadN X372.here hx rfl (hb hby own_d213) rfl rfl kq) ?_
    show GoOn p e below (T372.setTop (mkF m 31 #[.val (.ref a), .val (.ref b), .val (.ref b)] [(.ref b), (.ref v1)])) _
    obtain ⟨T373, X373, e373, st373⟩ := getF X372 hx hZ hown (host := "") (Or.inl (hw _ (List.mem_of_getElem? (i := 53) rfl))) Via.refl e372 Fbv2 (g := (mkF m 31 #[.val (.ref a), .val (.ref b), .val (.ref b)] [(.ref b), (.ref v1)])) rfl rfl (hb hby own_d214)
    refine GoOn.step st373 ?_
    show GoOn p e below (T373.setTop (mkF m 34 #[.val (.ref a), .val (.ref b), .val (.ref b)] [(.ref v2), (.ref v1)])) _
    obtain ⟨cqc375, kqc375, qac375, qbc375, qcc375⟩ := isOf hZ e373 S2.1
    obtain ⟨_, _, ⟨T374, L374, k374, n374⟩, -, X374, ⟨Lc374, hQ374, l374, y374, z374⟩, st374⟩ := X373.virtualBack hx (y := (⟨"java/lang/String", "equals", "(Ljava/lang/Object;)Z"⟩ : MethodName)) (z := (⟨"java/lang/String", "equals", "(Ljava/lang/Object;)Z"⟩ : MethodName)) hown (mvT hZ (hw _ (List.mem_of_getElem? (i := 65) rfl))) (mvT hZ (hw _ (List.mem_of_getElem? (i := 66) rfl))) (notFace_of_selects (args := #[]) (mvT hZ (hw _ (List.mem_of_getElem? (i := 68) rfl)))) (mvT hZ (hw _ (List.mem_of_getElem? (i := 68) rfl))) (mvT hZ (hw _ (List.mem_of_getElem? (i := 67) rfl))) (by decide) (own_eqS (n0 := n0) (W := 0) hZ heq (kI := 4) (hw _ (List.mem_of_getElem? (i := 8) rfl)) S2 S4 (SC.ext O0.2) PC (by decide) (by decide)) qac375 qcc375 (g := (mkF m 34 #[.val (.ref a), .val (.ref b), .val (.ref b)] [(.ref v2), (.ref v1)])) rfl (by rw [hml]; rfl) (Steps.refl _) (argsL := [(.ref v2)]) (rest := []) (lenOf own_pd208 rfl) rfl (by show 2 * 0 + _ ≤ _; exact Nat.le_of_eq rfl) (hb hby own_d215) (fun _ _ => ⟨rfl, e373, (by decide : 0 + 0 ≤ _), (by decide : 0 + 0 ≤ _)⟩)
    dsimp only [Pt.U, Pt.locs, Pt.cells, Pt.slots] at X374 l374 y374 z374 st374 hQ374
    subst l374 y374 z374
    obtain ⟨rfl, N374, e374⟩ := hQ374
    refine GoOn.trans st374 ?_
    have N376 := Fr.app N370 N374
    show GoOn p e below (T374.setTop (mkF m 37 #[.val (.ref a), .val (.ref b), .val (.ref b)] [(.int (if ds = fs then 1 else 0))])) _
    by_cases hc377 : ds = fs
    · skip
      refine GoOn.step (fun tq kq => XS.ifNo X374.here hx rfl (hb hby own_d216) rfl ((if0 _ _).trans (feq (by rw [if_pos hc377]; decide)).1) kq) ?_
      show GoOn p e below (T374.setTop (mkF m 40 #[.val (.ref a), .val (.ref b), .val (.ref b)] [])) _
      refine GoOn.step (fun tq kq => XS.iconst X374.here hx rfl (hb hby own_d217) kq) ?_
      show GoOn p e below (T374.setTop (mkF m 41 #[.val (.ref a), .val (.ref b), .val (.ref b)] [(.int (1 : Int32))])) _
      refine GoOn.step (fun tq kq => XS.goto X374.here hx rfl (pc0 := 41) (pc' := 45) rfl (hb hby own_d218) (by decide) (by decide) kq) ?_
      show GoOn p e below (T374.setTop (mkF m 45 #[.val (.ref a), .val (.ref b), .val (.ref b)] [(.int (1 : Int32))])) _
      refine GoOn.ret X374 Bd.notSynchronized (v := some (.int (nar .boolean (1 : Int32)))) (fun h => by rw [Bd.returns] at h; cases h) (fun fs hr => retN X374 hx (t := .boolean) Bd.returns (by simp) (hb hby own_d199) hr) (by decide) (by decide) ?_
      rw [e374]
      exact ⟨by rw [if_pos ⟨hc371, hc377⟩]; rfl, N376, rfl⟩
    · skip
      refine GoOn.step (fun tq kq => XS.ifYes X374.here hx rfl (pc0 := 37) (pc' := 44) rfl (hb hby own_d216) rfl ((if0 _ _).trans (teq (if_neg hc377)).1) (by decide) (by decide) kq) ?_
      show GoOn p e below (T374.setTop (mkF m 44 #[.val (.ref a), .val (.ref b), .val (.ref b)] [])) _
      refine GoOn.step (fun tq kq => XS.iconst X374.here hx rfl (hb hby own_d198) kq) ?_
      show GoOn p e below (T374.setTop (mkF m 45 #[.val (.ref a), .val (.ref b), .val (.ref b)] [(.int (0 : Int32))])) _
      refine GoOn.ret X374 Bd.notSynchronized (v := some (.int (nar .boolean (0 : Int32)))) (fun h => by rw [Bd.returns] at h; cases h) (fun fs hr => retN X374 hx (t := .boolean) Bd.returns (by simp) (hb hby own_d199) hr) (by decide) (by decide) ?_
      rw [e374]
      exact ⟨by rw [if_neg (fun q => hc377 q.2)]; rfl, N376, rfl⟩
  · skip
    refine GoOn.step (fun tq kq => XS.ifYes X368.here hx rfl (pc0 := 23) (pc' := 44) rfl (hb hby own_d210) rfl ((if0 _ _).trans (teq (if_neg hc371)).1) (by decide) (by decide) kq) ?_
    show GoOn p e below (T368.setTop (mkF m 44 #[.val (.ref a), .val (.ref b), .val (.ref b)] [])) _
    refine GoOn.step (fun tq kq => XS.iconst X368.here hx rfl (hb hby own_d198) kq) ?_
    show GoOn p e below (T368.setTop (mkF m 45 #[.val (.ref a), .val (.ref b), .val (.ref b)] [(.int (0 : Int32))])) _
    refine GoOn.ret X368 Bd.notSynchronized (v := some (.int (nar .boolean (0 : Int32)))) (fun h => by rw [Bd.returns] at h; cases h) (fun fs hr => retN X368 hx (t := .boolean) Bd.returns (by simp) (hb hby own_d199) hr) (by decide) (by decide) ?_
    rw [e368]
    exact ⟨by rw [if_neg (fun q => hc371 q.1)]; rfl, N370, rfl⟩
def QLaw (h0 : Heap) (n0 : Nat) (v : Option Value) (h : Heap) (L : List Loc) : Prop := v = some (.int 1) ∧ Fr n0 L
set_option maxRecDepth 65536 in
set_option maxHeartbeats 40000000 in
theorem rm0 (l : Launch) (Z : State) (a0 : Array Value) (hw : ∀ d ∈ tables_1, d.before a0 Z = true) (ws : List Jvm.Cond) (p0 p1 p2 p3 p4 G1 : Int32) (h0 : Heap) (n0 : Nat) (Z0 : n0 ≤ h0.size) (SC : Sta Z Z.heap "java/lang/String" "COMPACT_STRINGS" "Z" (.int G1)) (PC : ¬ G1 = (0 : Int32)) (O0 : Old Z n0 h0) :
    MetFree l x (head1 (Jvm.Cond.code x code maxLocals ret :: ws) room_1) (fun aa U => aa = #[(.int p0), (.int p1), (.int p2), (.int p3), (.int p4)] ∧ Z.Warmed39 U.vm ∧ U.heap = h0 ∧ CHv Z own_EL U.vm h0) (fun _ _ _ _ _ => True) (fun _ U o U' => ∃ v L, o = .returned v ∧ QLaw h0 n0 v U'.heap L ∧ CHr Z own_EL U.vm U.heap U'.vm U'.heap ∧ ReturnedEndW U o U' L 48 3264) := by
  refine MetFree.of_bodySF (plainFor_of_name own_pn26) hisR ?_
  intro p e s m args below meth c s₁ Bd hml0 hP hK
  obtain ⟨rfl, hZ, hh, hCH⟩ := hP
  have hx := Bd.exec
  have hby := Bd.bytes
  have hml : c.maxLocals = 11 := hml0
  have hown : s.vm.findClass "com/example/patokan/patokan/core/TagEqualsPinLaw" = some m.cls := findClass_of_methodNamed Bd.named
  have hnm := (name_of_methodNamed Bd.named Bd.method).1
  have X0 : Stand p l e room_1 s m #[(.int p0), (.int p1), (.int p2), (.int p3), (.int p4)] below meth c s₁ [] 0 0 := Stand.of_body Bd
  have e0 : s₁.heap = h0 := by rw [← hh, Bd.state]; rfl
  have N0 := Fr.nil n0
  have K0 : Keep h0 h0 [] := Keep.refl _ _
  show GoOn p e below (s₁.setTop (entryFrame m #[(.int p0), (.int p1), (.int p2), (.int p3), (.int p4)] maxLocals)) (PostH Z own_EL s (QLaw h0 n0) 48 3264)
  refine GoOn.step (fun tq kq => castTop (own_ef219 m p0 p1 p2 p3 p4) kq) ?_
  have hS0 : s.Since s.vm h0.size := (State.WarmedH.refl s).since _
  have hk0 : h0.size ≤ h0.size := Nat.le_refl _
  replace X0 : Stand p l e room_1 (s.setVm s.vm) m #[(.int p0), (.int p1), (.int p2), (.int p3), (.int p4)] below meth c s₁ [] 0 0 := X0
  replace hZ : Z.Warmed39 (s.setVm s.vm).vm := hZ
  replace hown : (s.setVm s.vm).vm.findClass "com/example/patokan/patokan/core/TagEqualsPinLaw" = some m.cls := hown
  have C0 : CHr Z own_EL s.vm h0 s.vm h0 := CHr.refl hCH
  have hEL : EW Z a0 own_EL := own_EW hw
  have wS : ∀ d ∈ Bundle.stringAtoms, d.before a0 Z = true := fun d hd => hw d (own_sa d hd)
  show GoOn p e below (s₁.setTop (mkF m 0 #[.val (.int p0), .val (.int p1), .val (.int p2), .val (.int p3), .val (.int p4), .unset, .unset, .unset, .unset, .unset, .unset] [])) _
  obtain ⟨T378, h378, X378, e378, Ex378, A378, Df378, -, st378⟩ := newO X0 hx hZ hown (hw _ (List.mem_of_getElem? (i := 0) rfl)) (hw _ (List.mem_of_getElem? (i := 1) rfl)) (hw _ (List.mem_of_getElem? (i := 2) rfl)) e0 (g := (mkF m 0 #[.val (.int p0), .val (.int p1), .val (.int p2), .val (.int p3), .val (.int p4), .unset, .unset, .unset, .unset, .unset, .unset] [])) rfl (hb hby at_0) (by decide) (by decide)
  obtain ⟨t, g378⟩ : ∃ z, z = h0.size := ⟨_, rfl⟩
  rw [← g378] at A378 Df378 st378
  have gn379 : n0 ≤ t := Nat.le_trans Z0 (Nat.le_of_eq g378.symm)
  have sz380 : h0.size ≤ t := Nat.le_trans K0.1 (Nat.le_of_eq g378.symm)
  have Kx378 : Keep h0 h378 [] := (Keep.refl _ _).ext Ex378
  refine GoOn.step st378 ?_
  have O381 : Old Z n0 h378 := O0.keep Kx378 all0
  have Z382 : n0 ≤ h378.size := Nat.le_trans Z0 Kx378.1
  have K383 : Keep h0 h378 [] := K0.trans Kx378 (all0)
  have C384 : CHr Z own_EL s.vm h0 s.vm h378 := CHr.trans C0 (CHr.keep Kx378 all0 C0.1)
  have hk385 := Nat.le_trans hk0 Kx378.1
  have F386 : Fld Z h378 t "com/example/patokan/patokan/core/Tag" "name" "Ljava/lang/String;" .null := Df378 (Or.inr (hw _ (List.mem_of_getElem? (i := 51) rfl))) (ty := (.object "java/lang/String")) (by decide)
  have F387 : Fld Z h378 t "com/example/patokan/patokan/core/Tag" "value" "Ljava/lang/String;" .null := Df378 (Or.inr (hw _ (List.mem_of_getElem? (i := 54) rfl))) (ty := (.object "java/lang/String")) (by decide)
  show GoOn p e below (T378.setTop (mkF m 3 #[.val (.int p0), .val (.int p1), .val (.int p2), .val (.int p3), .val (.int p4), .unset, .unset, .unset, .unset, .unset, .unset] [(.ref t)])) _
  refine GoOn.step (fun tq kq => XS.dup X378.here hx rfl (hb hby at_3) rfl rfl kq) ?_
  show GoOn p e below (T378.setTop (mkF m 4 #[.val (.int p0), .val (.int p1), .val (.int p2), .val (.int p3), .val (.int p4), .unset, .unset, .unset, .unset, .unset, .unset] [(.ref t), (.ref t)])) _
  refine GoOn.step (fun tq kq => XS.iloadN X378.here hx rfl (hb hby at_4) rfl kq) ?_
  show GoOn p e below (T378.setTop (mkF m 5 #[.val (.int p0), .val (.int p1), .val (.int p2), .val (.int p3), .val (.int p4), .unset, .unset, .unset, .unset, .unset, .unset] [(.int p0), (.ref t), (.ref t)])) _
  obtain ⟨_, _, ⟨T388, L388, k388, n388⟩, -, X388, hS388, hg388, ⟨Lc388, hQ388, l388, y388, z388, Cn388⟩, st388⟩ := Jvm.RoadKit.callSS X378 hx (y := (⟨"com/example/patokan/patokan/core/TagEqualsPinLaw", "str", "(I)Ljava/lang/String;"⟩ : MethodName)) hown (mvT hZ (hw _ (List.mem_of_getElem? (i := 3) rfl))) (mvT hZ (hw _ (List.mem_of_getElem? (i := 4) rfl))) (mvT hZ (hw _ (List.mem_of_getElem? (i := 5) rfl))) (mvT hZ (hw _ (List.mem_of_getElem? (i := 6) rfl))) (by decide) (backOfSH (W := 2) (rmStr l Z a0 hw p0 G1 h378 n0 Z382 SC PC O381) hZ (hw _ (List.mem_of_getElem? (i := 6) rfl)) (hw _ (List.mem_of_getElem? (i := 5) rfl)) (by decide) (by decide) hEL C384.1) (g := (mkF m 5 #[.val (.int p0), .val (.int p1), .val (.int p2), .val (.int p3), .val (.int p4), .unset, .unset, .unset, .unset, .unset, .unset] [(.int p0), (.ref t), (.ref t)])) rfl (by rw [hml]; rfl) (argsL := [(.int p0)]) (rest := [(.ref t), (.ref t)]) (lenOf own_pd220 rfl) rfl (by show 2 * 0 + _ ≤ _; exact Nat.le_of_eq rfl) (hb hby at_5) (fun _ _ => ⟨rfl, e378, (by decide : 1 + 6 ≤ _), (by decide : 2 + 12 ≤ _)⟩)
  dsimp only [Pt.U, Pt.locs, Pt.cells, Pt.slots] at X388 l388 y388 z388 st388 hQ388 hS388 hg388 Cn388
  subst l388 y388 z388
  obtain ⟨sa388, rfl, N388, K388, S388⟩ := hQ388
  refine GoOn.trans st388 ?_
  replace X388 : Stand p l e _ (s.setVm T388.vm) m _ below meth c T388 _ _ _ := X388
  have hZ388 : Z.Warmed39 (s.setVm T388.vm).vm := State.Warmed39.trans (t := (s.setVm s.vm)) hZ hS388.1
  have hown388 : (s.setVm T388.vm).vm.findClass "com/example/patokan/patokan/core/TagEqualsPinLaw" = some m.cls := by rw [show (s.setVm T388.vm).vm = T388.vm from rfl, hS388.1.alike.findClass]; exact hown
  have hSn388 : s.Since T388.vm T388.heap.size := foldS hS0 (by rw [e378]; exact hk385) hS388 hg388
  have hk388 : T388.heap.size ≤ T388.heap.size := Nat.le_refl _
  have N389 := Fr.app N0 N388
  have O390 : Old Z n0 T388.heap := O381.keep K388 all0
  have Z391 : n0 ≤ T388.heap.size := Nat.le_trans Z382 K388.1
  have K392 : Keep h0 T388.heap [] := K383.trans K388 all0
  have C393 : CHr Z own_EL s.vm h0 T388.vm T388.heap := CHr.trans C384 Cn388
  have E394 : Exa Z T388.heap t "com/example/patokan/patokan/core/Tag" := A378.keep K388
  have F395 : Fld Z T388.heap t "com/example/patokan/patokan/core/Tag" "name" "Ljava/lang/String;" .null := F386.keep K388 nin0
  have F396 : Fld Z T388.heap t "com/example/patokan/patokan/core/Tag" "value" "Ljava/lang/String;" .null := F387.keep K388 nin0
  show GoOn p e below (T388.setTop (mkF m 8 #[.val (.int p0), .val (.int p1), .val (.int p2), .val (.int p3), .val (.int p4), .unset, .unset, .unset, .unset, .unset, .unset] [(.ref sa388), (.ref t), (.ref t)])) _
  refine GoOn.step (fun tq kq => XS.iloadN X388.here hx rfl (hb hby at_8) rfl kq) ?_
  show GoOn p e below (T388.setTop (mkF m 9 #[.val (.int p0), .val (.int p1), .val (.int p2), .val (.int p3), .val (.int p4), .unset, .unset, .unset, .unset, .unset, .unset] [(.int p1), (.ref sa388), (.ref t), (.ref t)])) _
  obtain ⟨_, _, ⟨T397, L397, k397, n397⟩, -, X397, hS397, hg397, ⟨Lc397, hQ397, l397, y397, z397, Cn397⟩, st397⟩ := Jvm.RoadKit.callSS X388 hx (y := (⟨"com/example/patokan/patokan/core/TagEqualsPinLaw", "str", "(I)Ljava/lang/String;"⟩ : MethodName)) hown388 (mvT hZ388 (hw _ (List.mem_of_getElem? (i := 3) rfl))) (mvT hZ388 (hw _ (List.mem_of_getElem? (i := 4) rfl))) (mvT hZ388 (hw _ (List.mem_of_getElem? (i := 5) rfl))) (mvT hZ388 (hw _ (List.mem_of_getElem? (i := 6) rfl))) (by decide) (backOfSH (W := 3) (rmStr l Z a0 hw p1 G1 T388.heap n0 Z391 SC PC O390) hZ388 (hw _ (List.mem_of_getElem? (i := 6) rfl)) (hw _ (List.mem_of_getElem? (i := 5) rfl)) (by decide) (by decide) hEL C393.1) (g := (mkF m 9 #[.val (.int p0), .val (.int p1), .val (.int p2), .val (.int p3), .val (.int p4), .unset, .unset, .unset, .unset, .unset, .unset] [(.int p1), (.ref sa388), (.ref t), (.ref t)])) rfl (by rw [hml]; rfl) (argsL := [(.int p1)]) (rest := [(.ref sa388), (.ref t), (.ref t)]) (lenOf own_pd220 rfl) rfl (by show 2 * 0 + _ ≤ _; exact Nat.le_of_eq rfl) (hb hby at_9) (fun _ _ => ⟨rfl, rfl, (by decide : 7 + 6 ≤ _), (by decide : 14 + 12 ≤ _)⟩)
  dsimp only [Pt.U, Pt.locs, Pt.cells, Pt.slots] at X397 l397 y397 z397 st397 hQ397 hS397 hg397 Cn397
  subst l397 y397 z397
  obtain ⟨sa397, rfl, N397, K397, S397⟩ := hQ397
  refine GoOn.trans st397 ?_
  replace X397 : Stand p l e _ (s.setVm T397.vm) m _ below meth c T397 _ _ _ := X397
  have hZ397 : Z.Warmed39 (s.setVm T397.vm).vm := State.Warmed39.trans (t := (s.setVm T388.vm)) hZ388 hS397.1
  have hown397 : (s.setVm T397.vm).vm.findClass "com/example/patokan/patokan/core/TagEqualsPinLaw" = some m.cls := by rw [show (s.setVm T397.vm).vm = T397.vm from rfl, hS397.1.alike.findClass]; exact hown388
  have hSn397 : s.Since T397.vm T397.heap.size := foldS hSn388 hk388 hS397 hg397
  have hk397 : T397.heap.size ≤ T397.heap.size := Nat.le_refl _
  have N398 := Fr.app N389 N397
  have O399 : Old Z n0 T397.heap := O390.keep K397 all0
  have Z400 : n0 ≤ T397.heap.size := Nat.le_trans Z391 K397.1
  have K401 : Keep h0 T397.heap [] := K392.trans K397 all0
  have C402 : CHr Z own_EL s.vm h0 T397.vm T397.heap := CHr.trans C393 Cn397
  have E403 : Exa Z T397.heap t "com/example/patokan/patokan/core/Tag" := E394.keep K397
  have F404 : Fld Z T397.heap t "com/example/patokan/patokan/core/Tag" "name" "Ljava/lang/String;" .null := F395.keep K397 nin0
  have F405 : Fld Z T397.heap t "com/example/patokan/patokan/core/Tag" "value" "Ljava/lang/String;" .null := F396.keep K397 nin0
  have Sr406 : StrIs Z T397.heap sa388 (own_str p0) := S388.keep0 K397
  show GoOn p e below (T397.setTop (mkF m 12 #[.val (.int p0), .val (.int p1), .val (.int p2), .val (.int p3), .val (.int p4), .unset, .unset, .unset, .unset, .unset, .unset] [(.ref sa397), (.ref sa388), (.ref t), (.ref t)])) _
  obtain ⟨_, _, ⟨T407, L407, k407, n407⟩, -, X407, hS407, hg407, ⟨Lc407, hQ407, l407, y407, z407, Cn407⟩, st407⟩ := X397.specialBackS hx (y := (⟨"com/example/patokan/patokan/core/Tag", "<init>", "(Ljava/lang/String;Ljava/lang/String;)V"⟩ : MethodName)) rfl hown397 (mvT hZ397 (hw _ (List.mem_of_getElem? (i := 40) rfl))) (mvT hZ397 (hw _ (List.mem_of_getElem? (i := 41) rfl))) (mvT hZ397 (hw _ (List.mem_of_getElem? (i := 42) rfl))) (by decide) (backOfSH (W := 1) (rmTI l Z a0 hw t sa388 sa397 (own_str p0) (own_str p1) T397.heap n0 Z400 E403 F404 F405 gn379 Sr406 S397) hZ397 (hw _ (List.mem_of_getElem? (i := 42) rfl)) (hw _ (List.mem_of_getElem? (i := 2) rfl)) (by decide) (by decide) hEL C402.1) (g := (mkF m 12 #[.val (.int p0), .val (.int p1), .val (.int p2), .val (.int p3), .val (.int p4), .unset, .unset, .unset, .unset, .unset, .unset] [(.ref sa397), (.ref sa388), (.ref t), (.ref t)])) rfl (by rw [hml]; rfl) (Steps.refl _) (a := t) (argsL := [(.ref sa388), (.ref sa397)]) (rest := [(.ref t)]) (lenOf own_pd221 rfl) rfl (by show 2 * 0 + _ ≤ _; exact Nat.le_of_eq rfl) (hb hby at_12) (fun _ _ => ⟨rfl, rfl, (by decide : 13 + 4 ≤ _), (by decide : 26 + 44 ≤ _)⟩)
  dsimp only [Pt.U, Pt.locs, Pt.cells, Pt.slots] at X407 l407 y407 z407 st407 hQ407 hS407 hg407 Cn407
  subst l407 y407 z407
  obtain ⟨rfl, N407, K407, E407, Fa407, Fb407⟩ := hQ407
  refine GoOn.trans st407 ?_
  replace X407 : Stand p l e _ (s.setVm T407.vm) m _ below meth c T407 _ _ _ := X407
  have hZ407 : Z.Warmed39 (s.setVm T407.vm).vm := State.Warmed39.trans (t := (s.setVm T397.vm)) hZ397 hS407.1
  have hown407 : (s.setVm T407.vm).vm.findClass "com/example/patokan/patokan/core/TagEqualsPinLaw" = some m.cls := by rw [show (s.setVm T407.vm).vm = T407.vm from rfl, hS407.1.alike.findClass]; exact hown397
  have hSn407 : s.Since T407.vm T407.heap.size := foldS hSn397 hk397 hS407 hg407
  have hk407 : T407.heap.size ≤ T407.heap.size := Nat.le_refl _
  have N408 := Fr.app N398 N407
  have O409 : Old Z n0 T407.heap := O399.keep K407 (allS gn379 all0)
  have Z410 : n0 ≤ T407.heap.size := Nat.le_trans Z400 K407.1
  have K411 : Keep h0 T407.heap [] := K401.trans K407 ((allS (Or.inr sz380) all0))
  have C412 : CHr Z own_EL s.vm h0 T407.vm T407.heap := CHr.trans C402 Cn407
  have E413 : Exa Z T407.heap t "com/example/patokan/patokan/core/Tag" := E403.keep K407
  have Sr416 : StrIs Z T407.heap sa388 (own_str p0) := Sr406.keepX K407 E403 (hw _ (List.mem_of_getElem? (i := 1) rfl)) (by decide)
  have Sr417 : StrIs Z T407.heap sa397 (own_str p1) := S397.keepX K407 E403 (hw _ (List.mem_of_getElem? (i := 1) rfl)) (by decide)
  show GoOn p e below (T407.setTop (mkF m 15 #[.val (.int p0), .val (.int p1), .val (.int p2), .val (.int p3), .val (.int p4), .unset, .unset, .unset, .unset, .unset, .unset] [(.ref t)])) _
  refine GoOn.step (fun tq kq => XS.astore X407.here hx rfl (hb hby at_15) rfl rfl (l' := #[.val (.int p0), .val (.int p1), .val (.int p2), .val (.int p3), .val (.int p4), .val (.ref t), .unset, .unset, .unset, .unset, .unset]) rfl kq) ?_
  show GoOn p e below (T407.setTop (mkF m 17 #[.val (.int p0), .val (.int p1), .val (.int p2), .val (.int p3), .val (.int p4), .val (.ref t), .unset, .unset, .unset, .unset, .unset] [])) _
  have J43 : ∀ (vj424 : Vm) (kj424 : Nat) (Tj424 : State) (lj424 : List Loc) (hj424 : Heap) (c2 d2 : Int32) (Xj424 : Stand p l e room_1 (s.setVm vj424) m #[(.int p0), (.int p1), (.int p2), (.int p3), (.int p4)] below meth c Tj424 lj424 17 70) (ej424 : Tj424.heap = hj424) (Nj424 : Fr n0 lj424) (hZj424 : Z.Warmed39 (s.setVm vj424).vm) (hownj424 : (s.setVm vj424).vm.findClass "com/example/patokan/patokan/core/TagEqualsPinLaw" = some m.cls) (hSj424 : s.Since vj424 kj424) (hkj424 : kj424 ≤ hj424.size) (Cj424 : CHr Z own_EL s.vm h0 vj424 hj424) (Zj424 : n0 ≤ hj424.size) (Kj424 : Keep h0 hj424 []) (O418 : Old Z n0 hj424) (E419 : Exa Z hj424 t "com/example/patokan/patokan/core/Tag") (F420 : Fld Z hj424 t "com/example/patokan/patokan/core/Tag" "name" "Ljava/lang/String;" (.ref sa388)) (F421 : Fld Z hj424 t "com/example/patokan/patokan/core/Tag" "value" "Ljava/lang/String;" (.ref sa397)) (Sr422 : StrIs Z hj424 sa388 (own_str p0)) (Sr423 : StrIs Z hj424 sa397 (own_str p1)), GoOn p e below (Tj424.setTop (mkF m 43 #[.val (.int p0), .val (.int p1), .val (.int p2), .val (.int p3), .val (.int p4), .val (.ref t), .val (.int c2), .unset, .unset, .unset, .unset] [(.int d2)])) (PostH Z own_EL s (QLaw h0 n0) 48 3264) := by
    intro vj424 kj424 Tj424 lj424 hj424 c2 d2 Xj424 ej424 Nj424 hZj424 hownj424 hSj424 hkj424 Cj424 Zj424 Kj424 O418 E419 F420 F421 Sr422 Sr423 
    refine GoOn.step (fun tq kq => XS.istore Xj424.here hx rfl (hb hby at_43) rfl (l' := #[.val (.int p0), .val (.int p1), .val (.int p2), .val (.int p3), .val (.int p4), .val (.ref t), .val (.int c2), .val (.int d2), .unset, .unset, .unset]) rfl kq) ?_
    show GoOn p e below (Tj424.setTop (mkF m 45 #[.val (.int p0), .val (.int p1), .val (.int p2), .val (.int p3), .val (.int p4), .val (.ref t), .val (.int c2), .val (.int d2), .unset, .unset, .unset] [])) _
    refine GoOn.step (fun tq kq => XS.iload Xj424.here hx rfl (hb hby at_45) rfl kq) ?_
    show GoOn p e below (Tj424.setTop (mkF m 47 #[.val (.int p0), .val (.int p1), .val (.int p2), .val (.int p3), .val (.int p4), .val (.ref t), .val (.int c2), .val (.int d2), .unset, .unset, .unset] [(.int p4)])) _
    refine GoOn.step (fun tq kq => XS.iconst Xj424.here hx rfl (hb hby at_47) kq) ?_
    show GoOn p e below (Tj424.setTop (mkF m 48 #[.val (.int p0), .val (.int p1), .val (.int p2), .val (.int p3), .val (.int p4), .val (.ref t), .val (.int c2), .val (.int d2), .unset, .unset, .unset] [(.int (2 : Int32)), (.int p4)])) _
    refine GoOn.step (fun tq kq => XS.iushr Xj424.here hx rfl (hb hby at_48) rfl kq) ?_
    show GoOn p e below (Tj424.setTop (mkF m 49 #[.val (.int p0), .val (.int p1), .val (.int p2), .val (.int p3), .val (.int p4), .val (.ref t), .val (.int c2), .val (.int d2), .unset, .unset, .unset] [(.int (((p4).toUInt32 >>> ((2 : Int32) &&& 31).toUInt32).toInt32))])) _
    refine GoOn.step (fun tq kq => XS.iconst Xj424.here hx rfl (hb hby at_49) kq) ?_
    show GoOn p e below (Tj424.setTop (mkF m 50 #[.val (.int p0), .val (.int p1), .val (.int p2), .val (.int p3), .val (.int p4), .val (.ref t), .val (.int c2), .val (.int d2), .unset, .unset, .unset] [(.int (3 : Int32)), (.int (((p4).toUInt32 >>> ((2 : Int32) &&& 31).toUInt32).toInt32))])) _
    refine GoOn.step (fun tq kq => XS.iand Xj424.here hx rfl (hb hby at_50) rfl kq) ?_
    show GoOn p e below (Tj424.setTop (mkF m 51 #[.val (.int p0), .val (.int p1), .val (.int p2), .val (.int p3), .val (.int p4), .val (.ref t), .val (.int c2), .val (.int d2), .unset, .unset, .unset] [(.int ((((p4).toUInt32 >>> ((2 : Int32) &&& 31).toUInt32).toInt32) &&& (3 : Int32)))])) _
    refine GoOn.step (fun tq kq => XS.istore Xj424.here hx rfl (hb hby at_51) rfl (l' := #[.val (.int p0), .val (.int p1), .val (.int p2), .val (.int p3), .val (.int p4), .val (.ref t), .val (.int c2), .val (.int d2), .val (.int ((((p4).toUInt32 >>> ((2 : Int32) &&& 31).toUInt32).toInt32) &&& (3 : Int32))), .unset, .unset]) rfl kq) ?_
    show GoOn p e below (Tj424.setTop (mkF m 53 #[.val (.int p0), .val (.int p1), .val (.int p2), .val (.int p3), .val (.int p4), .val (.ref t), .val (.int c2), .val (.int d2), .val (.int ((((p4).toUInt32 >>> ((2 : Int32) &&& 31).toUInt32).toInt32) &&& (3 : Int32))), .unset, .unset] [])) _
    have hk8 := own_and3 (((p4).toUInt32 >>> ((2 : Int32) &&& 31).toUInt32).toInt32)
    generalize hgk8 : ((((p4).toUInt32 >>> ((2 : Int32) &&& 31).toUInt32).toInt32) &&& (3 : Int32)) = k8
    show GoOn p e below (Tj424.setTop (mkF m 53 #[.val (.int p0), .val (.int p1), .val (.int p2), .val (.int p3), .val (.int p4), .val (.ref t), .val (.int c2), .val (.int d2), .val (.int k8), .unset, .unset] [])) _
    rw [hgk8] at hk8
    refine GoOn.step (fun tq kq => XS.iload Xj424.here hx rfl (hb hby at_53) rfl kq) ?_
    show GoOn p e below (Tj424.setTop (mkF m 55 #[.val (.int p0), .val (.int p1), .val (.int p2), .val (.int p3), .val (.int p4), .val (.ref t), .val (.int c2), .val (.int d2), .val (.int k8), .unset, .unset] [(.int k8)])) _
    by_cases hc425 : k8 = 0
    · skip
      refine GoOn.step (fun tq kq => XS.ifNo Xj424.here hx rfl (hb hby at_55) rfl ((if0 _ _).trans (teq hc425).2) kq) ?_
      show GoOn p e below (Tj424.setTop (mkF m 58 #[.val (.int p0), .val (.int p1), .val (.int p2), .val (.int p3), .val (.int p4), .val (.ref t), .val (.int c2), .val (.int d2), .val (.int k8), .unset, .unset] [])) _
      obtain ⟨T426, h426, X426, e426, Ex426, A426, Df426, -, st426⟩ := newO Xj424 hx hZj424 hownj424 (hw _ (List.mem_of_getElem? (i := 0) rfl)) (hw _ (List.mem_of_getElem? (i := 1) rfl)) (hw _ (List.mem_of_getElem? (i := 2) rfl)) ej424 (g := (mkF m 58 #[.val (.int p0), .val (.int p1), .val (.int p2), .val (.int p3), .val (.int p4), .val (.ref t), .val (.int c2), .val (.int d2), .val (.int k8), .unset, .unset] [])) rfl (hb hby at_58) (by decide) (by decide)
      obtain ⟨u, g426⟩ : ∃ z, z = hj424.size := ⟨_, rfl⟩
      rw [← g426] at A426 Df426 st426
      have gn427 : n0 ≤ u := Nat.le_trans Zj424 (Nat.le_of_eq g426.symm)
      have sz428 : h0.size ≤ u := Nat.le_trans Kj424.1 (Nat.le_of_eq g426.symm)
      have ne429 : t ≠ u := Nat.ne_of_lt (Nat.lt_of_lt_of_le E419.lt (Nat.le_of_eq g426.symm))
      have Kx426 : Keep hj424 h426 [] := (Keep.refl _ _).ext Ex426
      refine GoOn.step st426 ?_
      have Z430 : n0 ≤ h426.size := Nat.le_trans Zj424 Kx426.1
      have K431 : Keep h0 h426 [] := Kj424.trans Kx426 (all0)
      have O432 : Old Z n0 h426 := O418.keep Kx426 all0
      have E433 : Exa Z h426 t "com/example/patokan/patokan/core/Tag" := E419.keep Kx426
      have F434 : Fld Z h426 t "com/example/patokan/patokan/core/Tag" "name" "Ljava/lang/String;" (.ref sa388) := F420.keep Kx426 nin0
      have F435 : Fld Z h426 t "com/example/patokan/patokan/core/Tag" "value" "Ljava/lang/String;" (.ref sa397) := F421.keep Kx426 nin0
      have Sr436 : StrIs Z h426 sa388 (own_str p0) := Sr422.keep0 Kx426
      have Sr437 : StrIs Z h426 sa397 (own_str p1) := Sr423.keep0 Kx426
      have C438 : CHr Z own_EL s.vm h0 vj424 h426 := CHr.trans Cj424 (CHr.keep Kx426 all0 Cj424.1)
      have hk439 := Nat.le_trans hkj424 Kx426.1
      have F440 : Fld Z h426 u "com/example/patokan/patokan/core/Tag" "name" "Ljava/lang/String;" .null := Df426 (Or.inr (hw _ (List.mem_of_getElem? (i := 51) rfl))) (ty := (.object "java/lang/String")) (by decide)
      have F441 : Fld Z h426 u "com/example/patokan/patokan/core/Tag" "value" "Ljava/lang/String;" .null := Df426 (Or.inr (hw _ (List.mem_of_getElem? (i := 54) rfl))) (ty := (.object "java/lang/String")) (by decide)
      show GoOn p e below (T426.setTop (mkF m 61 #[.val (.int p0), .val (.int p1), .val (.int p2), .val (.int p3), .val (.int p4), .val (.ref t), .val (.int c2), .val (.int d2), .val (.int k8), .unset, .unset] [(.ref u)])) _
      refine GoOn.step (fun tq kq => XS.dup X426.here hx rfl (hb hby at_61) rfl rfl kq) ?_
      show GoOn p e below (T426.setTop (mkF m 62 #[.val (.int p0), .val (.int p1), .val (.int p2), .val (.int p3), .val (.int p4), .val (.ref t), .val (.int c2), .val (.int d2), .val (.int k8), .unset, .unset] [(.ref u), (.ref u)])) _
      refine GoOn.step (fun tq kq => XS.iload X426.here hx rfl (hb hby at_62) rfl kq) ?_
      show GoOn p e below (T426.setTop (mkF m 64 #[.val (.int p0), .val (.int p1), .val (.int p2), .val (.int p3), .val (.int p4), .val (.ref t), .val (.int c2), .val (.int d2), .val (.int k8), .unset, .unset] [(.int c2), (.ref u), (.ref u)])) _
      obtain ⟨_, _, ⟨T442, L442, k442, n442⟩, -, X442, hS442, hg442, ⟨Lc442, hQ442, l442, y442, z442, Cn442⟩, st442⟩ := Jvm.RoadKit.callSS X426 hx (y := (⟨"com/example/patokan/patokan/core/TagEqualsPinLaw", "str", "(I)Ljava/lang/String;"⟩ : MethodName)) hownj424 (mvT hZj424 (hw _ (List.mem_of_getElem? (i := 3) rfl))) (mvT hZj424 (hw _ (List.mem_of_getElem? (i := 4) rfl))) (mvT hZj424 (hw _ (List.mem_of_getElem? (i := 5) rfl))) (mvT hZj424 (hw _ (List.mem_of_getElem? (i := 6) rfl))) (by decide) (backOfSH (W := 2) (rmStr l Z a0 hw c2 G1 h426 n0 Z430 SC PC O432) hZj424 (hw _ (List.mem_of_getElem? (i := 6) rfl)) (hw _ (List.mem_of_getElem? (i := 5) rfl)) (by decide) (by decide) hEL C438.1) (g := (mkF m 64 #[.val (.int p0), .val (.int p1), .val (.int p2), .val (.int p3), .val (.int p4), .val (.ref t), .val (.int c2), .val (.int d2), .val (.int k8), .unset, .unset] [(.int c2), (.ref u), (.ref u)])) rfl (by rw [hml]; rfl) (argsL := [(.int c2)]) (rest := [(.ref u), (.ref u)]) (lenOf own_pd220 rfl) rfl (by show 2 * 0 + _ ≤ _; exact Nat.le_of_eq rfl) (hb hby at_64) (fun _ _ => ⟨rfl, e426, (by decide : 18 + 6 ≤ _), (by decide : 72 + 12 ≤ _)⟩)
      dsimp only [Pt.U, Pt.locs, Pt.cells, Pt.slots] at X442 l442 y442 z442 st442 hQ442 hS442 hg442 Cn442
      subst l442 y442 z442
      obtain ⟨sa442, rfl, N442, K442, S442⟩ := hQ442
      refine GoOn.trans st442 ?_
      replace X442 : Stand p l e _ (s.setVm T442.vm) m _ below meth c T442 _ _ _ := X442
      have hZ442 : Z.Warmed39 (s.setVm T442.vm).vm := State.Warmed39.trans (t := (s.setVm vj424)) hZj424 hS442.1
      have hown442 : (s.setVm T442.vm).vm.findClass "com/example/patokan/patokan/core/TagEqualsPinLaw" = some m.cls := by rw [show (s.setVm T442.vm).vm = T442.vm from rfl, hS442.1.alike.findClass]; exact hownj424
      have hSn442 : s.Since T442.vm T442.heap.size := foldS hSj424 (by rw [e426]; exact hk439) hS442 hg442
      have hk442 : T442.heap.size ≤ T442.heap.size := Nat.le_refl _
      have N443 := Fr.app Nj424 N442
      have Z444 : n0 ≤ T442.heap.size := Nat.le_trans Z430 K442.1
      have K445 : Keep h0 T442.heap [] := K431.trans K442 all0
      have O446 : Old Z n0 T442.heap := O432.keep K442 all0
      have E447 : Exa Z T442.heap t "com/example/patokan/patokan/core/Tag" := E433.keep K442
      have F448 : Fld Z T442.heap t "com/example/patokan/patokan/core/Tag" "name" "Ljava/lang/String;" (.ref sa388) := F434.keep K442 nin0
      have F449 : Fld Z T442.heap t "com/example/patokan/patokan/core/Tag" "value" "Ljava/lang/String;" (.ref sa397) := F435.keep K442 nin0
      have Sr450 : StrIs Z T442.heap sa388 (own_str p0) := Sr436.keep0 K442
      have Sr451 : StrIs Z T442.heap sa397 (own_str p1) := Sr437.keep0 K442
      have C452 : CHr Z own_EL s.vm h0 T442.vm T442.heap := CHr.trans C438 Cn442
      have E453 : Exa Z T442.heap u "com/example/patokan/patokan/core/Tag" := A426.keep K442
      have F454 : Fld Z T442.heap u "com/example/patokan/patokan/core/Tag" "name" "Ljava/lang/String;" .null := F440.keep K442 nin0
      have F455 : Fld Z T442.heap u "com/example/patokan/patokan/core/Tag" "value" "Ljava/lang/String;" .null := F441.keep K442 nin0
      show GoOn p e below (T442.setTop (mkF m 67 #[.val (.int p0), .val (.int p1), .val (.int p2), .val (.int p3), .val (.int p4), .val (.ref t), .val (.int c2), .val (.int d2), .val (.int k8), .unset, .unset] [(.ref sa442), (.ref u), (.ref u)])) _
      refine GoOn.step (fun tq kq => XS.iload X442.here hx rfl (hb hby at_67) rfl kq) ?_
      show GoOn p e below (T442.setTop (mkF m 69 #[.val (.int p0), .val (.int p1), .val (.int p2), .val (.int p3), .val (.int p4), .val (.ref t), .val (.int c2), .val (.int d2), .val (.int k8), .unset, .unset] [(.int d2), (.ref sa442), (.ref u), (.ref u)])) _
      obtain ⟨_, _, ⟨T456, L456, k456, n456⟩, -, X456, hS456, hg456, ⟨Lc456, hQ456, l456, y456, z456, Cn456⟩, st456⟩ := Jvm.RoadKit.callSS X442 hx (y := (⟨"com/example/patokan/patokan/core/TagEqualsPinLaw", "str", "(I)Ljava/lang/String;"⟩ : MethodName)) hown442 (mvT hZ442 (hw _ (List.mem_of_getElem? (i := 3) rfl))) (mvT hZ442 (hw _ (List.mem_of_getElem? (i := 4) rfl))) (mvT hZ442 (hw _ (List.mem_of_getElem? (i := 5) rfl))) (mvT hZ442 (hw _ (List.mem_of_getElem? (i := 6) rfl))) (by decide) (backOfSH (W := 3) (rmStr l Z a0 hw d2 G1 T442.heap n0 Z444 SC PC O446) hZ442 (hw _ (List.mem_of_getElem? (i := 6) rfl)) (hw _ (List.mem_of_getElem? (i := 5) rfl)) (by decide) (by decide) hEL C452.1) (g := (mkF m 69 #[.val (.int p0), .val (.int p1), .val (.int p2), .val (.int p3), .val (.int p4), .val (.ref t), .val (.int c2), .val (.int d2), .val (.int k8), .unset, .unset] [(.int d2), (.ref sa442), (.ref u), (.ref u)])) rfl (by rw [hml]; rfl) (argsL := [(.int d2)]) (rest := [(.ref sa442), (.ref u), (.ref u)]) (lenOf own_pd220 rfl) rfl (by show 2 * 0 + _ ≤ _; exact Nat.le_of_eq rfl) (hb hby at_69) (fun _ _ => ⟨rfl, rfl, (by decide : 24 + 6 ≤ _), (by decide : 84 + 12 ≤ _)⟩)
      dsimp only [Pt.U, Pt.locs, Pt.cells, Pt.slots] at X456 l456 y456 z456 st456 hQ456 hS456 hg456 Cn456
      subst l456 y456 z456
      obtain ⟨sa456, rfl, N456, K456, S456⟩ := hQ456
      refine GoOn.trans st456 ?_
      replace X456 : Stand p l e _ (s.setVm T456.vm) m _ below meth c T456 _ _ _ := X456
      have hZ456 : Z.Warmed39 (s.setVm T456.vm).vm := State.Warmed39.trans (t := (s.setVm T442.vm)) hZ442 hS456.1
      have hown456 : (s.setVm T456.vm).vm.findClass "com/example/patokan/patokan/core/TagEqualsPinLaw" = some m.cls := by rw [show (s.setVm T456.vm).vm = T456.vm from rfl, hS456.1.alike.findClass]; exact hown442
      have hSn456 : s.Since T456.vm T456.heap.size := foldS hSn442 hk442 hS456 hg456
      have hk456 : T456.heap.size ≤ T456.heap.size := Nat.le_refl _
      have N457 := Fr.app N443 N456
      have Z458 : n0 ≤ T456.heap.size := Nat.le_trans Z444 K456.1
      have K459 : Keep h0 T456.heap [] := K445.trans K456 all0
      have O460 : Old Z n0 T456.heap := O446.keep K456 all0
      have E461 : Exa Z T456.heap t "com/example/patokan/patokan/core/Tag" := E447.keep K456
      have F462 : Fld Z T456.heap t "com/example/patokan/patokan/core/Tag" "name" "Ljava/lang/String;" (.ref sa388) := F448.keep K456 nin0
      have F463 : Fld Z T456.heap t "com/example/patokan/patokan/core/Tag" "value" "Ljava/lang/String;" (.ref sa397) := F449.keep K456 nin0
      have Sr464 : StrIs Z T456.heap sa388 (own_str p0) := Sr450.keep0 K456
      have Sr465 : StrIs Z T456.heap sa397 (own_str p1) := Sr451.keep0 K456
      have C466 : CHr Z own_EL s.vm h0 T456.vm T456.heap := CHr.trans C452 Cn456
      have E467 : Exa Z T456.heap u "com/example/patokan/patokan/core/Tag" := E453.keep K456
      have F468 : Fld Z T456.heap u "com/example/patokan/patokan/core/Tag" "name" "Ljava/lang/String;" .null := F454.keep K456 nin0
      have F469 : Fld Z T456.heap u "com/example/patokan/patokan/core/Tag" "value" "Ljava/lang/String;" .null := F455.keep K456 nin0
      have Sr470 : StrIs Z T456.heap sa442 (own_str c2) := S442.keep0 K456
      show GoOn p e below (T456.setTop (mkF m 72 #[.val (.int p0), .val (.int p1), .val (.int p2), .val (.int p3), .val (.int p4), .val (.ref t), .val (.int c2), .val (.int d2), .val (.int k8), .unset, .unset] [(.ref sa456), (.ref sa442), (.ref u), (.ref u)])) _
      obtain ⟨_, _, ⟨T471, L471, k471, n471⟩, -, X471, hS471, hg471, ⟨Lc471, hQ471, l471, y471, z471, Cn471⟩, st471⟩ := X456.specialBackS hx (y := (⟨"com/example/patokan/patokan/core/Tag", "<init>", "(Ljava/lang/String;Ljava/lang/String;)V"⟩ : MethodName)) rfl hown456 (mvT hZ456 (hw _ (List.mem_of_getElem? (i := 40) rfl))) (mvT hZ456 (hw _ (List.mem_of_getElem? (i := 41) rfl))) (mvT hZ456 (hw _ (List.mem_of_getElem? (i := 42) rfl))) (by decide) (backOfSH (W := 1) (rmTI l Z a0 hw u sa442 sa456 (own_str c2) (own_str d2) T456.heap n0 Z458 E467 F468 F469 gn427 Sr470 S456) hZ456 (hw _ (List.mem_of_getElem? (i := 42) rfl)) (hw _ (List.mem_of_getElem? (i := 2) rfl)) (by decide) (by decide) hEL C466.1) (g := (mkF m 72 #[.val (.int p0), .val (.int p1), .val (.int p2), .val (.int p3), .val (.int p4), .val (.ref t), .val (.int c2), .val (.int d2), .val (.int k8), .unset, .unset] [(.ref sa456), (.ref sa442), (.ref u), (.ref u)])) rfl (by rw [hml]; rfl) (Steps.refl _) (a := u) (argsL := [(.ref sa442), (.ref sa456)]) (rest := [(.ref u)]) (lenOf own_pd221 rfl) rfl (by show 2 * 0 + _ ≤ _; exact Nat.le_of_eq rfl) (hb hby at_72) (fun _ _ => ⟨rfl, rfl, (by decide : 30 + 4 ≤ _), (by decide : 96 + 44 ≤ _)⟩)
      dsimp only [Pt.U, Pt.locs, Pt.cells, Pt.slots] at X471 l471 y471 z471 st471 hQ471 hS471 hg471 Cn471
      subst l471 y471 z471
      obtain ⟨rfl, N471, K471, E471, Fa471, Fb471⟩ := hQ471
      refine GoOn.trans st471 ?_
      replace X471 : Stand p l e _ (s.setVm T471.vm) m _ below meth c T471 _ _ _ := X471
      have hZ471 : Z.Warmed39 (s.setVm T471.vm).vm := State.Warmed39.trans (t := (s.setVm T456.vm)) hZ456 hS471.1
      have hown471 : (s.setVm T471.vm).vm.findClass "com/example/patokan/patokan/core/TagEqualsPinLaw" = some m.cls := by rw [show (s.setVm T471.vm).vm = T471.vm from rfl, hS471.1.alike.findClass]; exact hown456
      have hSn471 : s.Since T471.vm T471.heap.size := foldS hSn456 hk456 hS471 hg471
      have hk471 : T471.heap.size ≤ T471.heap.size := Nat.le_refl _
      have N472 := Fr.app N457 N471
      have Z473 : n0 ≤ T471.heap.size := Nat.le_trans Z458 K471.1
      have K474 : Keep h0 T471.heap [] := K459.trans K471 ((allS (Or.inr sz428) all0))
      have O475 : Old Z n0 T471.heap := O460.keep K471 (allS gn427 all0)
      have E476 : Exa Z T471.heap t "com/example/patokan/patokan/core/Tag" := E461.keep K471
      have F477 : Fld Z T471.heap t "com/example/patokan/patokan/core/Tag" "name" "Ljava/lang/String;" (.ref sa388) := F462.keep K471 (ninS ne429 nin0)
      have F478 : Fld Z T471.heap t "com/example/patokan/patokan/core/Tag" "value" "Ljava/lang/String;" (.ref sa397) := F463.keep K471 (ninS ne429 nin0)
      have Sr479 : StrIs Z T471.heap sa388 (own_str p0) := Sr464.keepX K471 E467 (hw _ (List.mem_of_getElem? (i := 1) rfl)) (by decide)
      have Sr480 : StrIs Z T471.heap sa397 (own_str p1) := Sr465.keepX K471 E467 (hw _ (List.mem_of_getElem? (i := 1) rfl)) (by decide)
      have C481 : CHr Z own_EL s.vm h0 T471.vm T471.heap := CHr.trans C466 Cn471
      have E482 : Exa Z T471.heap u "com/example/patokan/patokan/core/Tag" := E467.keep K471
      have Sr485 : StrIs Z T471.heap sa442 (own_str c2) := Sr470.keepX K471 E467 (hw _ (List.mem_of_getElem? (i := 1) rfl)) (by decide)
      have Sr486 : StrIs Z T471.heap sa456 (own_str d2) := S456.keepX K471 E467 (hw _ (List.mem_of_getElem? (i := 1) rfl)) (by decide)
      show GoOn p e below (T471.setTop (mkF m 75 #[.val (.int p0), .val (.int p1), .val (.int p2), .val (.int p3), .val (.int p4), .val (.ref t), .val (.int c2), .val (.int d2), .val (.int k8), .unset, .unset] [(.ref u)])) _
      refine GoOn.step (fun tq kq => XS.astore X471.here hx rfl (hb hby at_75) rfl rfl (l' := #[.val (.int p0), .val (.int p1), .val (.int p2), .val (.int p3), .val (.int p4), .val (.ref t), .val (.int c2), .val (.int d2), .val (.int k8), .val (.ref u), .unset]) rfl kq) ?_
      show GoOn p e below (T471.setTop (mkF m 77 #[.val (.int p0), .val (.int p1), .val (.int p2), .val (.int p3), .val (.int p4), .val (.ref t), .val (.int c2), .val (.int d2), .val (.int k8), .val (.ref u), .unset] [])) _
      refine GoOn.step (fun tq kq => XS.iloadN X471.here hx rfl (hb hby at_77) rfl kq) ?_
      show GoOn p e below (T471.setTop (mkF m 78 #[.val (.int p0), .val (.int p1), .val (.int p2), .val (.int p3), .val (.int p4), .val (.ref t), .val (.int c2), .val (.int d2), .val (.int k8), .val (.ref u), .unset] [(.int p0)])) _
      refine GoOn.step (fun tq kq => XS.iload X471.here hx rfl (hb hby at_78) rfl kq) ?_
      show GoOn p e below (T471.setTop (mkF m 80 #[.val (.int p0), .val (.int p1), .val (.int p2), .val (.int p3), .val (.int p4), .val (.ref t), .val (.int c2), .val (.int d2), .val (.int k8), .val (.ref u), .unset] [(.int c2), (.int p0)])) _
      obtain ⟨_, _, ⟨T487, L487, k487, n487⟩, -, X487, ⟨Lc487, hQ487, l487, y487, z487⟩, st487⟩ := Jvm.LawKit.callS X471 hx (y := (⟨"com/example/patokan/patokan/core/TagEqualsPinLaw", "same", "(II)Z"⟩ : MethodName)) hown471 (mvT hZ471 (hw _ (List.mem_of_getElem? (i := 55) rfl))) (mvT hZ471 (hw _ (List.mem_of_getElem? (i := 56) rfl))) (mvT hZ471 (hw _ (List.mem_of_getElem? (i := 5) rfl))) (mvT hZ471 (hw _ (List.mem_of_getElem? (i := 57) rfl))) (by decide) (backOf (W := 0) (rmSame l Z a0 hw p0 c2 T471.heap n0 Z473) hZ471 (hw _ (List.mem_of_getElem? (i := 57) rfl)) (hw _ (List.mem_of_getElem? (i := 5) rfl)) (by decide) (by decide)) (g := (mkF m 80 #[.val (.int p0), .val (.int p1), .val (.int p2), .val (.int p3), .val (.int p4), .val (.ref t), .val (.int c2), .val (.int d2), .val (.int k8), .val (.ref u), .unset] [(.int c2), (.int p0)])) rfl (by rw [hml]; rfl) (argsL := [(.int p0), (.int c2)]) (rest := []) (lenOf own_pd222 rfl) rfl (by show 2 * 0 + _ ≤ _; exact Nat.le_of_eq rfl) (hb hby at_80) (fun _ _ => ⟨rfl, rfl, (by decide : 34 + 0 ≤ _), (by decide : 140 + 0 ≤ _)⟩)
      dsimp only [Pt.U, Pt.locs, Pt.cells, Pt.slots] at X487 l487 y487 z487 st487 hQ487
      subst l487 y487 z487
      obtain ⟨rfl, N487, e487⟩ := hQ487
      refine GoOn.step st487 ?_
      have N488 := Fr.app N472 N487
      show GoOn p e below (T487.setTop (mkF m 83 #[.val (.int p0), .val (.int p1), .val (.int p2), .val (.int p3), .val (.int p4), .val (.ref t), .val (.int c2), .val (.int d2), .val (.int k8), .val (.ref u), .unset] [(.int (if own_str p0 = own_str c2 then 1 else 0))])) _
      by_cases hc489 : own_str p0 = own_str c2
      · skip
        refine GoOn.step (fun tq kq => XS.ifNo X487.here hx rfl (hb hby at_83) rfl ((if0 _ _).trans (feq (by rw [if_pos hc489]; decide)).1) kq) ?_
        show GoOn p e below (T487.setTop (mkF m 86 #[.val (.int p0), .val (.int p1), .val (.int p2), .val (.int p3), .val (.int p4), .val (.ref t), .val (.int c2), .val (.int d2), .val (.int k8), .val (.ref u), .unset] [])) _
        refine GoOn.step (fun tq kq => XS.iloadN X487.here hx rfl (hb hby at_86) rfl kq) ?_
        show GoOn p e below (T487.setTop (mkF m 87 #[.val (.int p0), .val (.int p1), .val (.int p2), .val (.int p3), .val (.int p4), .val (.ref t), .val (.int c2), .val (.int d2), .val (.int k8), .val (.ref u), .unset] [(.int p1)])) _
        refine GoOn.step (fun tq kq => XS.iload X487.here hx rfl (hb hby at_87) rfl kq) ?_
        show GoOn p e below (T487.setTop (mkF m 89 #[.val (.int p0), .val (.int p1), .val (.int p2), .val (.int p3), .val (.int p4), .val (.ref t), .val (.int c2), .val (.int d2), .val (.int k8), .val (.ref u), .unset] [(.int d2), (.int p1)])) _
        obtain ⟨_, _, ⟨T490, L490, k490, n490⟩, -, X490, ⟨Lc490, hQ490, l490, y490, z490⟩, st490⟩ := Jvm.LawKit.callS X487 hx (y := (⟨"com/example/patokan/patokan/core/TagEqualsPinLaw", "same", "(II)Z"⟩ : MethodName)) hown471 (mvT hZ471 (hw _ (List.mem_of_getElem? (i := 55) rfl))) (mvT hZ471 (hw _ (List.mem_of_getElem? (i := 56) rfl))) (mvT hZ471 (hw _ (List.mem_of_getElem? (i := 5) rfl))) (mvT hZ471 (hw _ (List.mem_of_getElem? (i := 57) rfl))) (by decide) (backOf (W := 0) (rmSame l Z a0 hw p1 d2 T471.heap n0 Z473) hZ471 (hw _ (List.mem_of_getElem? (i := 57) rfl)) (hw _ (List.mem_of_getElem? (i := 5) rfl)) (by decide) (by decide)) (g := (mkF m 89 #[.val (.int p0), .val (.int p1), .val (.int p2), .val (.int p3), .val (.int p4), .val (.ref t), .val (.int c2), .val (.int d2), .val (.int k8), .val (.ref u), .unset] [(.int d2), (.int p1)])) rfl (by rw [hml]; rfl) (argsL := [(.int p1), (.int d2)]) (rest := []) (lenOf own_pd222 rfl) rfl (by show 2 * 0 + _ ≤ _; exact Nat.le_of_eq rfl) (hb hby at_89) (fun _ _ => ⟨rfl, e487, (by decide : 34 + 0 ≤ _), (by decide : 140 + 0 ≤ _)⟩)
        dsimp only [Pt.U, Pt.locs, Pt.cells, Pt.slots] at X490 l490 y490 z490 st490 hQ490
        subst l490 y490 z490
        obtain ⟨rfl, N490, e490⟩ := hQ490
        refine GoOn.step st490 ?_
        have N491 := Fr.app N488 N490
        show GoOn p e below (T490.setTop (mkF m 92 #[.val (.int p0), .val (.int p1), .val (.int p2), .val (.int p3), .val (.int p4), .val (.ref t), .val (.int c2), .val (.int d2), .val (.int k8), .val (.ref u), .unset] [(.int (if own_str p1 = own_str d2 then 1 else 0))])) _
        by_cases hc492 : own_str p1 = own_str d2
        · skip
          refine GoOn.step (fun tq kq => XS.ifNo X490.here hx rfl (hb hby at_92) rfl ((if0 _ _).trans (feq (by rw [if_pos hc492]; decide)).1) kq) ?_
          show GoOn p e below (T490.setTop (mkF m 95 #[.val (.int p0), .val (.int p1), .val (.int p2), .val (.int p3), .val (.int p4), .val (.ref t), .val (.int c2), .val (.int d2), .val (.int k8), .val (.ref u), .unset] [])) _
          refine GoOn.step (fun tq kq => XS.iconst X490.here hx rfl (hb hby at_95) kq) ?_
          show GoOn p e below (T490.setTop (mkF m 96 #[.val (.int p0), .val (.int p1), .val (.int p2), .val (.int p3), .val (.int p4), .val (.ref t), .val (.int c2), .val (.int d2), .val (.int k8), .val (.ref u), .unset] [(.int (1 : Int32))])) _
          refine GoOn.step (fun tq kq => XS.goto X490.here hx rfl (pc0 := 96) (pc' := 100) rfl (hb hby at_96) (by decide) (by decide) kq) ?_
          show GoOn p e below (T490.setTop (mkF m 100 #[.val (.int p0), .val (.int p1), .val (.int p2), .val (.int p3), .val (.int p4), .val (.ref t), .val (.int c2), .val (.int d2), .val (.int k8), .val (.ref u), .unset] [(.int (1 : Int32))])) _
          refine GoOn.step (fun tq kq => XS.istore X490.here hx rfl (hb hby at_100) rfl (l' := #[.val (.int p0), .val (.int p1), .val (.int p2), .val (.int p3), .val (.int p4), .val (.ref t), .val (.int c2), .val (.int d2), .val (.int k8), .val (.ref u), .val (.int (1 : Int32))]) rfl kq) ?_
          show GoOn p e below (T490.setTop (mkF m 102 #[.val (.int p0), .val (.int p1), .val (.int p2), .val (.int p3), .val (.int p4), .val (.ref t), .val (.int c2), .val (.int d2), .val (.int k8), .val (.ref u), .val (.int (1 : Int32))] [])) _
          refine GoOn.step (fun tq kq => XS.aload X490.here hx rfl (hb hby at_102) rfl rfl kq) ?_
          show GoOn p e below (T490.setTop (mkF m 104 #[.val (.int p0), .val (.int p1), .val (.int p2), .val (.int p3), .val (.int p4), .val (.ref t), .val (.int c2), .val (.int d2), .val (.int k8), .val (.ref u), .val (.int (1 : Int32))] [(.ref t)])) _
          refine GoOn.step (fun tq kq => XS.aload X490.here hx rfl (hb hby at_104) rfl rfl kq) ?_
          show GoOn p e below (T490.setTop (mkF m 106 #[.val (.int p0), .val (.int p1), .val (.int p2), .val (.int p3), .val (.int p4), .val (.ref t), .val (.int c2), .val (.int d2), .val (.int k8), .val (.ref u), .val (.int (1 : Int32))] [(.ref u), (.ref t)])) _
          obtain ⟨cqc494, kqc494, qac494, qbc494, qcc494⟩ := isOf hZ471 e490 E476
          obtain ⟨_, _, ⟨T493, L493, k493, n493⟩, -, X493, ⟨Lc493, hQ493, l493, y493, z493⟩, st493⟩ := X490.virtualBack hx (y := (⟨"com/example/patokan/patokan/core/Tag", "equals", "(Ljava/lang/Object;)Z"⟩ : MethodName)) (z := (⟨"com/example/patokan/patokan/core/Tag", "equals", "(Ljava/lang/Object;)Z"⟩ : MethodName)) hown471 (mvT hZ471 (hw _ (List.mem_of_getElem? (i := 58) rfl))) (mvT hZ471 (hw _ (List.mem_of_getElem? (i := 59) rfl))) (notFace_of_selects (args := #[]) (mvT hZ471 (hw _ (List.mem_of_getElem? (i := 61) rfl)))) (mvT hZ471 (hw _ (List.mem_of_getElem? (i := 61) rfl))) (mvT hZ471 (hw _ (List.mem_of_getElem? (i := 60) rfl))) (by decide) (backOf (W := 0) (rmTE2 l Z a0 hw t u sa388 sa397 sa442 sa456 (own_str p0) (own_str p1) (own_str c2) (own_str d2) G1 T471.heap n0 Z473 SC PC E482 F477 F478 Fa471 Fb471 Sr479 Sr480 Sr485 Sr486 O475) hZ471 (hw _ (List.mem_of_getElem? (i := 62) rfl)) (hw _ (List.mem_of_getElem? (i := 2) rfl)) (by decide) (by decide)) qac494 qcc494 (g := (mkF m 106 #[.val (.int p0), .val (.int p1), .val (.int p2), .val (.int p3), .val (.int p4), .val (.ref t), .val (.int c2), .val (.int d2), .val (.int k8), .val (.ref u), .val (.int (1 : Int32))] [(.ref u), (.ref t)])) rfl (by rw [hml]; rfl) (Steps.refl _) (argsL := [(.ref u)]) (rest := []) (lenOf own_pd208 rfl) rfl (by show 2 * 0 + _ ≤ _; exact Nat.le_of_eq rfl) (hb hby at_106) (fun _ _ => ⟨rfl, e490, (by decide : 34 + 0 ≤ _), (by decide : 140 + 0 ≤ _)⟩)
          dsimp only [Pt.U, Pt.locs, Pt.cells, Pt.slots] at X493 l493 y493 z493 st493 hQ493
          subst l493 y493 z493
          obtain ⟨rfl, N493, e493⟩ := hQ493
          refine GoOn.trans st493 ?_
          have N495 := Fr.app N491 N493
          show GoOn p e below (T493.setTop (mkF m 109 #[.val (.int p0), .val (.int p1), .val (.int p2), .val (.int p3), .val (.int p4), .val (.ref t), .val (.int c2), .val (.int d2), .val (.int k8), .val (.ref u), .val (.int (1 : Int32))] [(.int (if (own_str p0) = (own_str c2) ∧ (own_str p1) = (own_str d2) then 1 else 0))])) _
          refine GoOn.step (fun tq kq => XS.iload X493.here hx rfl (hb hby at_109) rfl kq) ?_
          show GoOn p e below (T493.setTop (mkF m 111 #[.val (.int p0), .val (.int p1), .val (.int p2), .val (.int p3), .val (.int p4), .val (.ref t), .val (.int c2), .val (.int d2), .val (.int k8), .val (.ref u), .val (.int (1 : Int32))] [(.int (1 : Int32)), (.int (if (own_str p0) = (own_str c2) ∧ (own_str p1) = (own_str d2) then 1 else 0))])) _
          refine GoOn.step (fun tq kq => XS.icmpNo X493.here hx rfl (hb hby at_111) rfl (teq (if_pos ⟨hc489, hc492⟩)).2 kq) ?_
          show GoOn p e below (T493.setTop (mkF m 114 #[.val (.int p0), .val (.int p1), .val (.int p2), .val (.int p3), .val (.int p4), .val (.ref t), .val (.int c2), .val (.int d2), .val (.int k8), .val (.ref u), .val (.int (1 : Int32))] [])) _
          refine GoOn.step (fun tq kq => XS.aload X493.here hx rfl (hb hby at_114) rfl rfl kq) ?_
          show GoOn p e below (T493.setTop (mkF m 116 #[.val (.int p0), .val (.int p1), .val (.int p2), .val (.int p3), .val (.int p4), .val (.ref t), .val (.int c2), .val (.int d2), .val (.int k8), .val (.ref u), .val (.int (1 : Int32))] [(.ref u)])) _
          refine GoOn.step (fun tq kq => XS.aload X493.here hx rfl (hb hby at_116) rfl rfl kq) ?_
          show GoOn p e below (T493.setTop (mkF m 118 #[.val (.int p0), .val (.int p1), .val (.int p2), .val (.int p3), .val (.int p4), .val (.ref t), .val (.int c2), .val (.int d2), .val (.int k8), .val (.ref u), .val (.int (1 : Int32))] [(.ref t), (.ref u)])) _
          obtain ⟨cqc497, kqc497, qac497, qbc497, qcc497⟩ := isOf hZ471 e493 E482
          obtain ⟨_, _, ⟨T496, L496, k496, n496⟩, -, X496, ⟨Lc496, hQ496, l496, y496, z496⟩, st496⟩ := X493.virtualBack hx (y := (⟨"com/example/patokan/patokan/core/Tag", "equals", "(Ljava/lang/Object;)Z"⟩ : MethodName)) (z := (⟨"com/example/patokan/patokan/core/Tag", "equals", "(Ljava/lang/Object;)Z"⟩ : MethodName)) hown471 (mvT hZ471 (hw _ (List.mem_of_getElem? (i := 58) rfl))) (mvT hZ471 (hw _ (List.mem_of_getElem? (i := 59) rfl))) (notFace_of_selects (args := #[]) (mvT hZ471 (hw _ (List.mem_of_getElem? (i := 61) rfl)))) (mvT hZ471 (hw _ (List.mem_of_getElem? (i := 61) rfl))) (mvT hZ471 (hw _ (List.mem_of_getElem? (i := 60) rfl))) (by decide) (backOf (W := 0) (rmTE2 l Z a0 hw u t sa442 sa456 sa388 sa397 (own_str c2) (own_str d2) (own_str p0) (own_str p1) G1 T471.heap n0 Z473 SC PC E476 Fa471 Fb471 F477 F478 Sr485 Sr486 Sr479 Sr480 O475) hZ471 (hw _ (List.mem_of_getElem? (i := 62) rfl)) (hw _ (List.mem_of_getElem? (i := 2) rfl)) (by decide) (by decide)) qac497 qcc497 (g := (mkF m 118 #[.val (.int p0), .val (.int p1), .val (.int p2), .val (.int p3), .val (.int p4), .val (.ref t), .val (.int c2), .val (.int d2), .val (.int k8), .val (.ref u), .val (.int (1 : Int32))] [(.ref t), (.ref u)])) rfl (by rw [hml]; rfl) (Steps.refl _) (argsL := [(.ref t)]) (rest := []) (lenOf own_pd208 rfl) rfl (by show 2 * 0 + _ ≤ _; exact Nat.le_of_eq rfl) (hb hby at_118) (fun _ _ => ⟨rfl, e493, (by decide : 34 + 0 ≤ _), (by decide : 140 + 0 ≤ _)⟩)
          dsimp only [Pt.U, Pt.locs, Pt.cells, Pt.slots] at X496 l496 y496 z496 st496 hQ496
          subst l496 y496 z496
          obtain ⟨rfl, N496, e496⟩ := hQ496
          refine GoOn.trans st496 ?_
          have N498 := Fr.app N495 N496
          show GoOn p e below (T496.setTop (mkF m 121 #[.val (.int p0), .val (.int p1), .val (.int p2), .val (.int p3), .val (.int p4), .val (.ref t), .val (.int c2), .val (.int d2), .val (.int k8), .val (.ref u), .val (.int (1 : Int32))] [(.int (if (own_str c2) = (own_str p0) ∧ (own_str d2) = (own_str p1) then 1 else 0))])) _
          refine GoOn.step (fun tq kq => XS.iload X496.here hx rfl (hb hby at_121) rfl kq) ?_
          show GoOn p e below (T496.setTop (mkF m 123 #[.val (.int p0), .val (.int p1), .val (.int p2), .val (.int p3), .val (.int p4), .val (.ref t), .val (.int c2), .val (.int d2), .val (.int k8), .val (.ref u), .val (.int (1 : Int32))] [(.int (1 : Int32)), (.int (if (own_str c2) = (own_str p0) ∧ (own_str d2) = (own_str p1) then 1 else 0))])) _
          refine GoOn.step (fun tq kq => XS.icmpNo X496.here hx rfl (hb hby at_123) rfl (teq (if_pos ⟨hc489.symm, hc492.symm⟩)).2 kq) ?_
          show GoOn p e below (T496.setTop (mkF m 126 #[.val (.int p0), .val (.int p1), .val (.int p2), .val (.int p3), .val (.int p4), .val (.ref t), .val (.int c2), .val (.int d2), .val (.int k8), .val (.ref u), .val (.int (1 : Int32))] [])) _
          refine GoOn.step (fun tq kq => XS.iconst X496.here hx rfl (hb hby at_126) kq) ?_
          show GoOn p e below (T496.setTop (mkF m 127 #[.val (.int p0), .val (.int p1), .val (.int p2), .val (.int p3), .val (.int p4), .val (.ref t), .val (.int c2), .val (.int d2), .val (.int k8), .val (.ref u), .val (.int (1 : Int32))] [(.int (1 : Int32))])) _
          refine GoOn.step (fun tq kq => XS.goto X496.here hx rfl (pc0 := 127) (pc' := 131) rfl (hb hby at_127) (by decide) (by decide) kq) ?_
          show GoOn p e below (T496.setTop (mkF m 131 #[.val (.int p0), .val (.int p1), .val (.int p2), .val (.int p3), .val (.int p4), .val (.ref t), .val (.int c2), .val (.int d2), .val (.int k8), .val (.ref u), .val (.int (1 : Int32))] [(.int (1 : Int32))])) _
          refine GoOn.retH X496 hZ471 hSn471 (hk471) hEL hh e496 C481 Bd.notSynchronized (v := some (.int (nar .boolean (1 : Int32)))) (fun h => by rw [Bd.returns] at h; cases h) (fun fs hr => retN X496 hx (t := .boolean) Bd.returns (by simp) (hb hby at_131) hr) (by decide) (by decide) ?_
          exact ⟨rfl, N498⟩
        · skip
          refine GoOn.step (fun tq kq => XS.ifYes X490.here hx rfl (pc0 := 92) (pc' := 99) rfl (hb hby at_92) rfl ((if0 _ _).trans (teq (if_neg hc492)).1) (by decide) (by decide) kq) ?_
          show GoOn p e below (T490.setTop (mkF m 99 #[.val (.int p0), .val (.int p1), .val (.int p2), .val (.int p3), .val (.int p4), .val (.ref t), .val (.int c2), .val (.int d2), .val (.int k8), .val (.ref u), .unset] [])) _
          refine GoOn.step (fun tq kq => XS.iconst X490.here hx rfl (hb hby at_99) kq) ?_
          show GoOn p e below (T490.setTop (mkF m 100 #[.val (.int p0), .val (.int p1), .val (.int p2), .val (.int p3), .val (.int p4), .val (.ref t), .val (.int c2), .val (.int d2), .val (.int k8), .val (.ref u), .unset] [(.int (0 : Int32))])) _
          refine GoOn.step (fun tq kq => XS.istore X490.here hx rfl (hb hby at_100) rfl (l' := #[.val (.int p0), .val (.int p1), .val (.int p2), .val (.int p3), .val (.int p4), .val (.ref t), .val (.int c2), .val (.int d2), .val (.int k8), .val (.ref u), .val (.int (0 : Int32))]) rfl kq) ?_
          show GoOn p e below (T490.setTop (mkF m 102 #[.val (.int p0), .val (.int p1), .val (.int p2), .val (.int p3), .val (.int p4), .val (.ref t), .val (.int c2), .val (.int d2), .val (.int k8), .val (.ref u), .val (.int (0 : Int32))] [])) _
          refine GoOn.step (fun tq kq => XS.aload X490.here hx rfl (hb hby at_102) rfl rfl kq) ?_
          show GoOn p e below (T490.setTop (mkF m 104 #[.val (.int p0), .val (.int p1), .val (.int p2), .val (.int p3), .val (.int p4), .val (.ref t), .val (.int c2), .val (.int d2), .val (.int k8), .val (.ref u), .val (.int (0 : Int32))] [(.ref t)])) _
          refine GoOn.step (fun tq kq => XS.aload X490.here hx rfl (hb hby at_104) rfl rfl kq) ?_
          show GoOn p e below (T490.setTop (mkF m 106 #[.val (.int p0), .val (.int p1), .val (.int p2), .val (.int p3), .val (.int p4), .val (.ref t), .val (.int c2), .val (.int d2), .val (.int k8), .val (.ref u), .val (.int (0 : Int32))] [(.ref u), (.ref t)])) _
          obtain ⟨cqc500, kqc500, qac500, qbc500, qcc500⟩ := isOf hZ471 e490 E476
          obtain ⟨_, _, ⟨T499, L499, k499, n499⟩, -, X499, ⟨Lc499, hQ499, l499, y499, z499⟩, st499⟩ := X490.virtualBack hx (y := (⟨"com/example/patokan/patokan/core/Tag", "equals", "(Ljava/lang/Object;)Z"⟩ : MethodName)) (z := (⟨"com/example/patokan/patokan/core/Tag", "equals", "(Ljava/lang/Object;)Z"⟩ : MethodName)) hown471 (mvT hZ471 (hw _ (List.mem_of_getElem? (i := 58) rfl))) (mvT hZ471 (hw _ (List.mem_of_getElem? (i := 59) rfl))) (notFace_of_selects (args := #[]) (mvT hZ471 (hw _ (List.mem_of_getElem? (i := 61) rfl)))) (mvT hZ471 (hw _ (List.mem_of_getElem? (i := 61) rfl))) (mvT hZ471 (hw _ (List.mem_of_getElem? (i := 60) rfl))) (by decide) (backOf (W := 0) (rmTE2 l Z a0 hw t u sa388 sa397 sa442 sa456 (own_str p0) (own_str p1) (own_str c2) (own_str d2) G1 T471.heap n0 Z473 SC PC E482 F477 F478 Fa471 Fb471 Sr479 Sr480 Sr485 Sr486 O475) hZ471 (hw _ (List.mem_of_getElem? (i := 62) rfl)) (hw _ (List.mem_of_getElem? (i := 2) rfl)) (by decide) (by decide)) qac500 qcc500 (g := (mkF m 106 #[.val (.int p0), .val (.int p1), .val (.int p2), .val (.int p3), .val (.int p4), .val (.ref t), .val (.int c2), .val (.int d2), .val (.int k8), .val (.ref u), .val (.int (0 : Int32))] [(.ref u), (.ref t)])) rfl (by rw [hml]; rfl) (Steps.refl _) (argsL := [(.ref u)]) (rest := []) (lenOf own_pd208 rfl) rfl (by show 2 * 0 + _ ≤ _; exact Nat.le_of_eq rfl) (hb hby at_106) (fun _ _ => ⟨rfl, e490, (by decide : 34 + 0 ≤ _), (by decide : 140 + 0 ≤ _)⟩)
          dsimp only [Pt.U, Pt.locs, Pt.cells, Pt.slots] at X499 l499 y499 z499 st499 hQ499
          subst l499 y499 z499
          obtain ⟨rfl, N499, e499⟩ := hQ499
          refine GoOn.trans st499 ?_
          have N501 := Fr.app N491 N499
          show GoOn p e below (T499.setTop (mkF m 109 #[.val (.int p0), .val (.int p1), .val (.int p2), .val (.int p3), .val (.int p4), .val (.ref t), .val (.int c2), .val (.int d2), .val (.int k8), .val (.ref u), .val (.int (0 : Int32))] [(.int (if (own_str p0) = (own_str c2) ∧ (own_str p1) = (own_str d2) then 1 else 0))])) _
          refine GoOn.step (fun tq kq => XS.iload X499.here hx rfl (hb hby at_109) rfl kq) ?_
          show GoOn p e below (T499.setTop (mkF m 111 #[.val (.int p0), .val (.int p1), .val (.int p2), .val (.int p3), .val (.int p4), .val (.ref t), .val (.int c2), .val (.int d2), .val (.int k8), .val (.ref u), .val (.int (0 : Int32))] [(.int (0 : Int32)), (.int (if (own_str p0) = (own_str c2) ∧ (own_str p1) = (own_str d2) then 1 else 0))])) _
          refine GoOn.step (fun tq kq => XS.icmpNo X499.here hx rfl (hb hby at_111) rfl (teq (if_neg (fun q => hc492 q.2))).2 kq) ?_
          show GoOn p e below (T499.setTop (mkF m 114 #[.val (.int p0), .val (.int p1), .val (.int p2), .val (.int p3), .val (.int p4), .val (.ref t), .val (.int c2), .val (.int d2), .val (.int k8), .val (.ref u), .val (.int (0 : Int32))] [])) _
          refine GoOn.step (fun tq kq => XS.aload X499.here hx rfl (hb hby at_114) rfl rfl kq) ?_
          show GoOn p e below (T499.setTop (mkF m 116 #[.val (.int p0), .val (.int p1), .val (.int p2), .val (.int p3), .val (.int p4), .val (.ref t), .val (.int c2), .val (.int d2), .val (.int k8), .val (.ref u), .val (.int (0 : Int32))] [(.ref u)])) _
          refine GoOn.step (fun tq kq => XS.aload X499.here hx rfl (hb hby at_116) rfl rfl kq) ?_
          show GoOn p e below (T499.setTop (mkF m 118 #[.val (.int p0), .val (.int p1), .val (.int p2), .val (.int p3), .val (.int p4), .val (.ref t), .val (.int c2), .val (.int d2), .val (.int k8), .val (.ref u), .val (.int (0 : Int32))] [(.ref t), (.ref u)])) _
          obtain ⟨cqc503, kqc503, qac503, qbc503, qcc503⟩ := isOf hZ471 e499 E482
          obtain ⟨_, _, ⟨T502, L502, k502, n502⟩, -, X502, ⟨Lc502, hQ502, l502, y502, z502⟩, st502⟩ := X499.virtualBack hx (y := (⟨"com/example/patokan/patokan/core/Tag", "equals", "(Ljava/lang/Object;)Z"⟩ : MethodName)) (z := (⟨"com/example/patokan/patokan/core/Tag", "equals", "(Ljava/lang/Object;)Z"⟩ : MethodName)) hown471 (mvT hZ471 (hw _ (List.mem_of_getElem? (i := 58) rfl))) (mvT hZ471 (hw _ (List.mem_of_getElem? (i := 59) rfl))) (notFace_of_selects (args := #[]) (mvT hZ471 (hw _ (List.mem_of_getElem? (i := 61) rfl)))) (mvT hZ471 (hw _ (List.mem_of_getElem? (i := 61) rfl))) (mvT hZ471 (hw _ (List.mem_of_getElem? (i := 60) rfl))) (by decide) (backOf (W := 0) (rmTE2 l Z a0 hw u t sa442 sa456 sa388 sa397 (own_str c2) (own_str d2) (own_str p0) (own_str p1) G1 T471.heap n0 Z473 SC PC E476 Fa471 Fb471 F477 F478 Sr485 Sr486 Sr479 Sr480 O475) hZ471 (hw _ (List.mem_of_getElem? (i := 62) rfl)) (hw _ (List.mem_of_getElem? (i := 2) rfl)) (by decide) (by decide)) qac503 qcc503 (g := (mkF m 118 #[.val (.int p0), .val (.int p1), .val (.int p2), .val (.int p3), .val (.int p4), .val (.ref t), .val (.int c2), .val (.int d2), .val (.int k8), .val (.ref u), .val (.int (0 : Int32))] [(.ref t), (.ref u)])) rfl (by rw [hml]; rfl) (Steps.refl _) (argsL := [(.ref t)]) (rest := []) (lenOf own_pd208 rfl) rfl (by show 2 * 0 + _ ≤ _; exact Nat.le_of_eq rfl) (hb hby at_118) (fun _ _ => ⟨rfl, e499, (by decide : 34 + 0 ≤ _), (by decide : 140 + 0 ≤ _)⟩)
          dsimp only [Pt.U, Pt.locs, Pt.cells, Pt.slots] at X502 l502 y502 z502 st502 hQ502
          subst l502 y502 z502
          obtain ⟨rfl, N502, e502⟩ := hQ502
          refine GoOn.trans st502 ?_
          have N504 := Fr.app N501 N502
          show GoOn p e below (T502.setTop (mkF m 121 #[.val (.int p0), .val (.int p1), .val (.int p2), .val (.int p3), .val (.int p4), .val (.ref t), .val (.int c2), .val (.int d2), .val (.int k8), .val (.ref u), .val (.int (0 : Int32))] [(.int (if (own_str c2) = (own_str p0) ∧ (own_str d2) = (own_str p1) then 1 else 0))])) _
          refine GoOn.step (fun tq kq => XS.iload X502.here hx rfl (hb hby at_121) rfl kq) ?_
          show GoOn p e below (T502.setTop (mkF m 123 #[.val (.int p0), .val (.int p1), .val (.int p2), .val (.int p3), .val (.int p4), .val (.ref t), .val (.int c2), .val (.int d2), .val (.int k8), .val (.ref u), .val (.int (0 : Int32))] [(.int (0 : Int32)), (.int (if (own_str c2) = (own_str p0) ∧ (own_str d2) = (own_str p1) then 1 else 0))])) _
          refine GoOn.step (fun tq kq => XS.icmpNo X502.here hx rfl (hb hby at_123) rfl (teq (if_neg (fun q => hc492 q.2.symm))).2 kq) ?_
          show GoOn p e below (T502.setTop (mkF m 126 #[.val (.int p0), .val (.int p1), .val (.int p2), .val (.int p3), .val (.int p4), .val (.ref t), .val (.int c2), .val (.int d2), .val (.int k8), .val (.ref u), .val (.int (0 : Int32))] [])) _
          refine GoOn.step (fun tq kq => XS.iconst X502.here hx rfl (hb hby at_126) kq) ?_
          show GoOn p e below (T502.setTop (mkF m 127 #[.val (.int p0), .val (.int p1), .val (.int p2), .val (.int p3), .val (.int p4), .val (.ref t), .val (.int c2), .val (.int d2), .val (.int k8), .val (.ref u), .val (.int (0 : Int32))] [(.int (1 : Int32))])) _
          refine GoOn.step (fun tq kq => XS.goto X502.here hx rfl (pc0 := 127) (pc' := 131) rfl (hb hby at_127) (by decide) (by decide) kq) ?_
          show GoOn p e below (T502.setTop (mkF m 131 #[.val (.int p0), .val (.int p1), .val (.int p2), .val (.int p3), .val (.int p4), .val (.ref t), .val (.int c2), .val (.int d2), .val (.int k8), .val (.ref u), .val (.int (0 : Int32))] [(.int (1 : Int32))])) _
          refine GoOn.retH X502 hZ471 hSn471 (hk471) hEL hh e502 C481 Bd.notSynchronized (v := some (.int (nar .boolean (1 : Int32)))) (fun h => by rw [Bd.returns] at h; cases h) (fun fs hr => retN X502 hx (t := .boolean) Bd.returns (by simp) (hb hby at_131) hr) (by decide) (by decide) ?_
          exact ⟨rfl, N504⟩
      · skip
        refine GoOn.step (fun tq kq => XS.ifYes X487.here hx rfl (pc0 := 83) (pc' := 99) rfl (hb hby at_83) rfl ((if0 _ _).trans (teq (if_neg hc489)).1) (by decide) (by decide) kq) ?_
        show GoOn p e below (T487.setTop (mkF m 99 #[.val (.int p0), .val (.int p1), .val (.int p2), .val (.int p3), .val (.int p4), .val (.ref t), .val (.int c2), .val (.int d2), .val (.int k8), .val (.ref u), .unset] [])) _
        refine GoOn.step (fun tq kq => XS.iconst X487.here hx rfl (hb hby at_99) kq) ?_
        show GoOn p e below (T487.setTop (mkF m 100 #[.val (.int p0), .val (.int p1), .val (.int p2), .val (.int p3), .val (.int p4), .val (.ref t), .val (.int c2), .val (.int d2), .val (.int k8), .val (.ref u), .unset] [(.int (0 : Int32))])) _
        refine GoOn.step (fun tq kq => XS.istore X487.here hx rfl (hb hby at_100) rfl (l' := #[.val (.int p0), .val (.int p1), .val (.int p2), .val (.int p3), .val (.int p4), .val (.ref t), .val (.int c2), .val (.int d2), .val (.int k8), .val (.ref u), .val (.int (0 : Int32))]) rfl kq) ?_
        show GoOn p e below (T487.setTop (mkF m 102 #[.val (.int p0), .val (.int p1), .val (.int p2), .val (.int p3), .val (.int p4), .val (.ref t), .val (.int c2), .val (.int d2), .val (.int k8), .val (.ref u), .val (.int (0 : Int32))] [])) _
        refine GoOn.step (fun tq kq => XS.aload X487.here hx rfl (hb hby at_102) rfl rfl kq) ?_
        show GoOn p e below (T487.setTop (mkF m 104 #[.val (.int p0), .val (.int p1), .val (.int p2), .val (.int p3), .val (.int p4), .val (.ref t), .val (.int c2), .val (.int d2), .val (.int k8), .val (.ref u), .val (.int (0 : Int32))] [(.ref t)])) _
        refine GoOn.step (fun tq kq => XS.aload X487.here hx rfl (hb hby at_104) rfl rfl kq) ?_
        show GoOn p e below (T487.setTop (mkF m 106 #[.val (.int p0), .val (.int p1), .val (.int p2), .val (.int p3), .val (.int p4), .val (.ref t), .val (.int c2), .val (.int d2), .val (.int k8), .val (.ref u), .val (.int (0 : Int32))] [(.ref u), (.ref t)])) _
        obtain ⟨cqc506, kqc506, qac506, qbc506, qcc506⟩ := isOf hZ471 e487 E476
        obtain ⟨_, _, ⟨T505, L505, k505, n505⟩, -, X505, ⟨Lc505, hQ505, l505, y505, z505⟩, st505⟩ := X487.virtualBack hx (y := (⟨"com/example/patokan/patokan/core/Tag", "equals", "(Ljava/lang/Object;)Z"⟩ : MethodName)) (z := (⟨"com/example/patokan/patokan/core/Tag", "equals", "(Ljava/lang/Object;)Z"⟩ : MethodName)) hown471 (mvT hZ471 (hw _ (List.mem_of_getElem? (i := 58) rfl))) (mvT hZ471 (hw _ (List.mem_of_getElem? (i := 59) rfl))) (notFace_of_selects (args := #[]) (mvT hZ471 (hw _ (List.mem_of_getElem? (i := 61) rfl)))) (mvT hZ471 (hw _ (List.mem_of_getElem? (i := 61) rfl))) (mvT hZ471 (hw _ (List.mem_of_getElem? (i := 60) rfl))) (by decide) (backOf (W := 0) (rmTE2 l Z a0 hw t u sa388 sa397 sa442 sa456 (own_str p0) (own_str p1) (own_str c2) (own_str d2) G1 T471.heap n0 Z473 SC PC E482 F477 F478 Fa471 Fb471 Sr479 Sr480 Sr485 Sr486 O475) hZ471 (hw _ (List.mem_of_getElem? (i := 62) rfl)) (hw _ (List.mem_of_getElem? (i := 2) rfl)) (by decide) (by decide)) qac506 qcc506 (g := (mkF m 106 #[.val (.int p0), .val (.int p1), .val (.int p2), .val (.int p3), .val (.int p4), .val (.ref t), .val (.int c2), .val (.int d2), .val (.int k8), .val (.ref u), .val (.int (0 : Int32))] [(.ref u), (.ref t)])) rfl (by rw [hml]; rfl) (Steps.refl _) (argsL := [(.ref u)]) (rest := []) (lenOf own_pd208 rfl) rfl (by show 2 * 0 + _ ≤ _; exact Nat.le_of_eq rfl) (hb hby at_106) (fun _ _ => ⟨rfl, e487, (by decide : 34 + 0 ≤ _), (by decide : 140 + 0 ≤ _)⟩)
        dsimp only [Pt.U, Pt.locs, Pt.cells, Pt.slots] at X505 l505 y505 z505 st505 hQ505
        subst l505 y505 z505
        obtain ⟨rfl, N505, e505⟩ := hQ505
        refine GoOn.trans st505 ?_
        have N507 := Fr.app N488 N505
        show GoOn p e below (T505.setTop (mkF m 109 #[.val (.int p0), .val (.int p1), .val (.int p2), .val (.int p3), .val (.int p4), .val (.ref t), .val (.int c2), .val (.int d2), .val (.int k8), .val (.ref u), .val (.int (0 : Int32))] [(.int (if (own_str p0) = (own_str c2) ∧ (own_str p1) = (own_str d2) then 1 else 0))])) _
        refine GoOn.step (fun tq kq => XS.iload X505.here hx rfl (hb hby at_109) rfl kq) ?_
        show GoOn p e below (T505.setTop (mkF m 111 #[.val (.int p0), .val (.int p1), .val (.int p2), .val (.int p3), .val (.int p4), .val (.ref t), .val (.int c2), .val (.int d2), .val (.int k8), .val (.ref u), .val (.int (0 : Int32))] [(.int (0 : Int32)), (.int (if (own_str p0) = (own_str c2) ∧ (own_str p1) = (own_str d2) then 1 else 0))])) _
        refine GoOn.step (fun tq kq => XS.icmpNo X505.here hx rfl (hb hby at_111) rfl (teq (if_neg (fun q => hc489 q.1))).2 kq) ?_
        show GoOn p e below (T505.setTop (mkF m 114 #[.val (.int p0), .val (.int p1), .val (.int p2), .val (.int p3), .val (.int p4), .val (.ref t), .val (.int c2), .val (.int d2), .val (.int k8), .val (.ref u), .val (.int (0 : Int32))] [])) _
        refine GoOn.step (fun tq kq => XS.aload X505.here hx rfl (hb hby at_114) rfl rfl kq) ?_
        show GoOn p e below (T505.setTop (mkF m 116 #[.val (.int p0), .val (.int p1), .val (.int p2), .val (.int p3), .val (.int p4), .val (.ref t), .val (.int c2), .val (.int d2), .val (.int k8), .val (.ref u), .val (.int (0 : Int32))] [(.ref u)])) _
        refine GoOn.step (fun tq kq => XS.aload X505.here hx rfl (hb hby at_116) rfl rfl kq) ?_
        show GoOn p e below (T505.setTop (mkF m 118 #[.val (.int p0), .val (.int p1), .val (.int p2), .val (.int p3), .val (.int p4), .val (.ref t), .val (.int c2), .val (.int d2), .val (.int k8), .val (.ref u), .val (.int (0 : Int32))] [(.ref t), (.ref u)])) _
        obtain ⟨cqc509, kqc509, qac509, qbc509, qcc509⟩ := isOf hZ471 e505 E482
        obtain ⟨_, _, ⟨T508, L508, k508, n508⟩, -, X508, ⟨Lc508, hQ508, l508, y508, z508⟩, st508⟩ := X505.virtualBack hx (y := (⟨"com/example/patokan/patokan/core/Tag", "equals", "(Ljava/lang/Object;)Z"⟩ : MethodName)) (z := (⟨"com/example/patokan/patokan/core/Tag", "equals", "(Ljava/lang/Object;)Z"⟩ : MethodName)) hown471 (mvT hZ471 (hw _ (List.mem_of_getElem? (i := 58) rfl))) (mvT hZ471 (hw _ (List.mem_of_getElem? (i := 59) rfl))) (notFace_of_selects (args := #[]) (mvT hZ471 (hw _ (List.mem_of_getElem? (i := 61) rfl)))) (mvT hZ471 (hw _ (List.mem_of_getElem? (i := 61) rfl))) (mvT hZ471 (hw _ (List.mem_of_getElem? (i := 60) rfl))) (by decide) (backOf (W := 0) (rmTE2 l Z a0 hw u t sa442 sa456 sa388 sa397 (own_str c2) (own_str d2) (own_str p0) (own_str p1) G1 T471.heap n0 Z473 SC PC E476 Fa471 Fb471 F477 F478 Sr485 Sr486 Sr479 Sr480 O475) hZ471 (hw _ (List.mem_of_getElem? (i := 62) rfl)) (hw _ (List.mem_of_getElem? (i := 2) rfl)) (by decide) (by decide)) qac509 qcc509 (g := (mkF m 118 #[.val (.int p0), .val (.int p1), .val (.int p2), .val (.int p3), .val (.int p4), .val (.ref t), .val (.int c2), .val (.int d2), .val (.int k8), .val (.ref u), .val (.int (0 : Int32))] [(.ref t), (.ref u)])) rfl (by rw [hml]; rfl) (Steps.refl _) (argsL := [(.ref t)]) (rest := []) (lenOf own_pd208 rfl) rfl (by show 2 * 0 + _ ≤ _; exact Nat.le_of_eq rfl) (hb hby at_118) (fun _ _ => ⟨rfl, e505, (by decide : 34 + 0 ≤ _), (by decide : 140 + 0 ≤ _)⟩)
        dsimp only [Pt.U, Pt.locs, Pt.cells, Pt.slots] at X508 l508 y508 z508 st508 hQ508
        subst l508 y508 z508
        obtain ⟨rfl, N508, e508⟩ := hQ508
        refine GoOn.trans st508 ?_
        have N510 := Fr.app N507 N508
        show GoOn p e below (T508.setTop (mkF m 121 #[.val (.int p0), .val (.int p1), .val (.int p2), .val (.int p3), .val (.int p4), .val (.ref t), .val (.int c2), .val (.int d2), .val (.int k8), .val (.ref u), .val (.int (0 : Int32))] [(.int (if (own_str c2) = (own_str p0) ∧ (own_str d2) = (own_str p1) then 1 else 0))])) _
        refine GoOn.step (fun tq kq => XS.iload X508.here hx rfl (hb hby at_121) rfl kq) ?_
        show GoOn p e below (T508.setTop (mkF m 123 #[.val (.int p0), .val (.int p1), .val (.int p2), .val (.int p3), .val (.int p4), .val (.ref t), .val (.int c2), .val (.int d2), .val (.int k8), .val (.ref u), .val (.int (0 : Int32))] [(.int (0 : Int32)), (.int (if (own_str c2) = (own_str p0) ∧ (own_str d2) = (own_str p1) then 1 else 0))])) _
        refine GoOn.step (fun tq kq => XS.icmpNo X508.here hx rfl (hb hby at_123) rfl (teq (if_neg (fun q => hc489 q.1.symm))).2 kq) ?_
        show GoOn p e below (T508.setTop (mkF m 126 #[.val (.int p0), .val (.int p1), .val (.int p2), .val (.int p3), .val (.int p4), .val (.ref t), .val (.int c2), .val (.int d2), .val (.int k8), .val (.ref u), .val (.int (0 : Int32))] [])) _
        refine GoOn.step (fun tq kq => XS.iconst X508.here hx rfl (hb hby at_126) kq) ?_
        show GoOn p e below (T508.setTop (mkF m 127 #[.val (.int p0), .val (.int p1), .val (.int p2), .val (.int p3), .val (.int p4), .val (.ref t), .val (.int c2), .val (.int d2), .val (.int k8), .val (.ref u), .val (.int (0 : Int32))] [(.int (1 : Int32))])) _
        refine GoOn.step (fun tq kq => XS.goto X508.here hx rfl (pc0 := 127) (pc' := 131) rfl (hb hby at_127) (by decide) (by decide) kq) ?_
        show GoOn p e below (T508.setTop (mkF m 131 #[.val (.int p0), .val (.int p1), .val (.int p2), .val (.int p3), .val (.int p4), .val (.ref t), .val (.int c2), .val (.int d2), .val (.int k8), .val (.ref u), .val (.int (0 : Int32))] [(.int (1 : Int32))])) _
        refine GoOn.retH X508 hZ471 hSn471 (hk471) hEL hh e508 C481 Bd.notSynchronized (v := some (.int (nar .boolean (1 : Int32)))) (fun h => by rw [Bd.returns] at h; cases h) (fun fs hr => retN X508 hx (t := .boolean) Bd.returns (by simp) (hb hby at_131) hr) (by decide) (by decide) ?_
        exact ⟨rfl, N510⟩
    · skip
      refine GoOn.step (fun tq kq => XS.ifYes Xj424.here hx rfl (pc0 := 55) (pc' := 132) rfl (hb hby at_55) rfl ((if0 _ _).trans (feq hc425).2) (by decide) (by decide) kq) ?_
      show GoOn p e below (Tj424.setTop (mkF m 132 #[.val (.int p0), .val (.int p1), .val (.int p2), .val (.int p3), .val (.int p4), .val (.ref t), .val (.int c2), .val (.int d2), .val (.int k8), .unset, .unset] [])) _
      refine GoOn.step (fun tq kq => XS.iload Xj424.here hx rfl (hb hby at_132) rfl kq) ?_
      show GoOn p e below (Tj424.setTop (mkF m 134 #[.val (.int p0), .val (.int p1), .val (.int p2), .val (.int p3), .val (.int p4), .val (.ref t), .val (.int c2), .val (.int d2), .val (.int k8), .unset, .unset] [(.int k8)])) _
      refine GoOn.step (fun tq kq => XS.iconst Xj424.here hx rfl (hb hby at_134) kq) ?_
      show GoOn p e below (Tj424.setTop (mkF m 135 #[.val (.int p0), .val (.int p1), .val (.int p2), .val (.int p3), .val (.int p4), .val (.ref t), .val (.int c2), .val (.int d2), .val (.int k8), .unset, .unset] [(.int (1 : Int32)), (.int k8)])) _
      by_cases hc511 : k8 = (1 : Int32)
      · skip
        refine GoOn.step (fun tq kq => XS.icmpNo Xj424.here hx rfl (hb hby at_135) rfl (teq hc511).2 kq) ?_
        show GoOn p e below (Tj424.setTop (mkF m 138 #[.val (.int p0), .val (.int p1), .val (.int p2), .val (.int p3), .val (.int p4), .val (.ref t), .val (.int c2), .val (.int d2), .val (.int k8), .unset, .unset] [])) _
        refine GoOn.step (fun tq kq => XS.aload Xj424.here hx rfl (hb hby at_138) rfl rfl kq) ?_
        show GoOn p e below (Tj424.setTop (mkF m 140 #[.val (.int p0), .val (.int p1), .val (.int p2), .val (.int p3), .val (.int p4), .val (.ref t), .val (.int c2), .val (.int d2), .val (.int k8), .unset, .unset] [(.ref t)])) _
        refine GoOn.step (fun tq kq => XS.aconstNull Xj424.here hx rfl (hb hby at_140) kq) ?_
        show GoOn p e below (Tj424.setTop (mkF m 141 #[.val (.int p0), .val (.int p1), .val (.int p2), .val (.int p3), .val (.int p4), .val (.ref t), .val (.int c2), .val (.int d2), .val (.int k8), .unset, .unset] [.null, (.ref t)])) _
        obtain ⟨cqc513, kqc513, qac513, qbc513, qcc513⟩ := isOf hZj424 ej424 E419
        obtain ⟨_, _, ⟨T512, L512, k512, n512⟩, -, X512, ⟨Lc512, hQ512, l512, y512, z512⟩, st512⟩ := Xj424.virtualBack hx (y := (⟨"com/example/patokan/patokan/core/Tag", "equals", "(Ljava/lang/Object;)Z"⟩ : MethodName)) (z := (⟨"com/example/patokan/patokan/core/Tag", "equals", "(Ljava/lang/Object;)Z"⟩ : MethodName)) hownj424 (mvT hZj424 (hw _ (List.mem_of_getElem? (i := 58) rfl))) (mvT hZj424 (hw _ (List.mem_of_getElem? (i := 59) rfl))) (notFace_of_selects (args := #[]) (mvT hZj424 (hw _ (List.mem_of_getElem? (i := 61) rfl)))) (mvT hZj424 (hw _ (List.mem_of_getElem? (i := 61) rfl))) (mvT hZj424 (hw _ (List.mem_of_getElem? (i := 60) rfl))) (by decide) (backOf (W := 0) (rmTE0 l Z a0 hw t hj424 n0 Zj424) hZj424 (hw _ (List.mem_of_getElem? (i := 62) rfl)) (hw _ (List.mem_of_getElem? (i := 2) rfl)) (by decide) (by decide)) qac513 qcc513 (g := (mkF m 141 #[.val (.int p0), .val (.int p1), .val (.int p2), .val (.int p3), .val (.int p4), .val (.ref t), .val (.int c2), .val (.int d2), .val (.int k8), .unset, .unset] [.null, (.ref t)])) rfl (by rw [hml]; rfl) (Steps.refl _) (argsL := [.null]) (rest := []) (lenOf own_pd208 rfl) rfl (by show 2 * 0 + _ ≤ _; exact Nat.le_of_eq rfl) (hb hby at_141) (fun _ _ => ⟨rfl, ej424, (by decide : 17 + 0 ≤ _), (by decide : 70 + 0 ≤ _)⟩)
        dsimp only [Pt.U, Pt.locs, Pt.cells, Pt.slots] at X512 l512 y512 z512 st512 hQ512
        subst l512 y512 z512
        obtain ⟨rfl, N512, e512⟩ := hQ512
        refine GoOn.trans st512 ?_
        have N514 := Fr.app Nj424 N512
        show GoOn p e below (T512.setTop (mkF m 144 #[.val (.int p0), .val (.int p1), .val (.int p2), .val (.int p3), .val (.int p4), .val (.ref t), .val (.int c2), .val (.int d2), .val (.int k8), .unset, .unset] [(.int (0 : Int32))])) _
        refine GoOn.step (fun tq kq => XS.ifNo X512.here hx rfl (hb hby at_144) rfl ((if0 _ _).trans (teq rfl).2) kq) ?_
        show GoOn p e below (T512.setTop (mkF m 147 #[.val (.int p0), .val (.int p1), .val (.int p2), .val (.int p3), .val (.int p4), .val (.ref t), .val (.int c2), .val (.int d2), .val (.int k8), .unset, .unset] [])) _
        refine GoOn.step (fun tq kq => XS.iconst X512.here hx rfl (hb hby at_147) kq) ?_
        show GoOn p e below (T512.setTop (mkF m 148 #[.val (.int p0), .val (.int p1), .val (.int p2), .val (.int p3), .val (.int p4), .val (.ref t), .val (.int c2), .val (.int d2), .val (.int k8), .unset, .unset] [(.int (1 : Int32))])) _
        refine GoOn.step (fun tq kq => XS.goto X512.here hx rfl (pc0 := 148) (pc' := 152) rfl (hb hby at_148) (by decide) (by decide) kq) ?_
        show GoOn p e below (T512.setTop (mkF m 152 #[.val (.int p0), .val (.int p1), .val (.int p2), .val (.int p3), .val (.int p4), .val (.ref t), .val (.int c2), .val (.int d2), .val (.int k8), .unset, .unset] [(.int (1 : Int32))])) _
        refine GoOn.retH X512 hZj424 hSj424 (hkj424) hEL hh e512 Cj424 Bd.notSynchronized (v := some (.int (nar .boolean (1 : Int32)))) (fun h => by rw [Bd.returns] at h; cases h) (fun fs hr => retN X512 hx (t := .boolean) Bd.returns (by simp) (hb hby at_152) hr) (by decide) (by decide) ?_
        exact ⟨rfl, N514⟩
      · skip
        refine GoOn.step (fun tq kq => XS.icmpYes Xj424.here hx rfl (pc0 := 135) (pc' := 153) rfl (hb hby at_135) rfl (feq hc511).2 (by decide) (by decide) kq) ?_
        show GoOn p e below (Tj424.setTop (mkF m 153 #[.val (.int p0), .val (.int p1), .val (.int p2), .val (.int p3), .val (.int p4), .val (.ref t), .val (.int c2), .val (.int d2), .val (.int k8), .unset, .unset] [])) _
        refine GoOn.step (fun tq kq => XS.iload Xj424.here hx rfl (hb hby at_153) rfl kq) ?_
        show GoOn p e below (Tj424.setTop (mkF m 155 #[.val (.int p0), .val (.int p1), .val (.int p2), .val (.int p3), .val (.int p4), .val (.ref t), .val (.int c2), .val (.int d2), .val (.int k8), .unset, .unset] [(.int k8)])) _
        refine GoOn.step (fun tq kq => XS.iconst Xj424.here hx rfl (hb hby at_155) kq) ?_
        show GoOn p e below (Tj424.setTop (mkF m 156 #[.val (.int p0), .val (.int p1), .val (.int p2), .val (.int p3), .val (.int p4), .val (.ref t), .val (.int c2), .val (.int d2), .val (.int k8), .unset, .unset] [(.int (2 : Int32)), (.int k8)])) _
        by_cases hc515 : k8 = (2 : Int32)
        · skip
          refine GoOn.step (fun tq kq => XS.icmpNo Xj424.here hx rfl (hb hby at_156) rfl (teq hc515).2 kq) ?_
          show GoOn p e below (Tj424.setTop (mkF m 159 #[.val (.int p0), .val (.int p1), .val (.int p2), .val (.int p3), .val (.int p4), .val (.ref t), .val (.int c2), .val (.int d2), .val (.int k8), .unset, .unset] [])) _
          refine GoOn.step (fun tq kq => XS.aload Xj424.here hx rfl (hb hby at_159) rfl rfl kq) ?_
          show GoOn p e below (Tj424.setTop (mkF m 161 #[.val (.int p0), .val (.int p1), .val (.int p2), .val (.int p3), .val (.int p4), .val (.ref t), .val (.int c2), .val (.int d2), .val (.int k8), .unset, .unset] [(.ref t)])) _
          refine GoOn.step (fun tq kq => XS.iloadN Xj424.here hx rfl (hb hby at_161) rfl kq) ?_
          show GoOn p e below (Tj424.setTop (mkF m 162 #[.val (.int p0), .val (.int p1), .val (.int p2), .val (.int p3), .val (.int p4), .val (.ref t), .val (.int c2), .val (.int d2), .val (.int k8), .unset, .unset] [(.int p0), (.ref t)])) _
          obtain ⟨_, _, ⟨T516, L516, k516, n516⟩, -, X516, hS516, hg516, ⟨Lc516, hQ516, l516, y516, z516, Cn516⟩, st516⟩ := Jvm.RoadKit.callSS Xj424 hx (y := (⟨"com/example/patokan/patokan/core/TagEqualsPinLaw", "str", "(I)Ljava/lang/String;"⟩ : MethodName)) hownj424 (mvT hZj424 (hw _ (List.mem_of_getElem? (i := 3) rfl))) (mvT hZj424 (hw _ (List.mem_of_getElem? (i := 4) rfl))) (mvT hZj424 (hw _ (List.mem_of_getElem? (i := 5) rfl))) (mvT hZj424 (hw _ (List.mem_of_getElem? (i := 6) rfl))) (by decide) (backOfSH (W := 1) (rmStr l Z a0 hw p0 G1 hj424 n0 Zj424 SC PC O418) hZj424 (hw _ (List.mem_of_getElem? (i := 6) rfl)) (hw _ (List.mem_of_getElem? (i := 5) rfl)) (by decide) (by decide) hEL Cj424.1) (g := (mkF m 162 #[.val (.int p0), .val (.int p1), .val (.int p2), .val (.int p3), .val (.int p4), .val (.ref t), .val (.int c2), .val (.int d2), .val (.int k8), .unset, .unset] [(.int p0), (.ref t)])) rfl (by rw [hml]; rfl) (argsL := [(.int p0)]) (rest := [(.ref t)]) (lenOf own_pd220 rfl) rfl (by show 2 * 0 + _ ≤ _; exact Nat.le_of_eq rfl) (hb hby at_162) (fun _ _ => ⟨rfl, ej424, (by decide : 17 + 6 ≤ _), (by decide : 70 + 12 ≤ _)⟩)
          dsimp only [Pt.U, Pt.locs, Pt.cells, Pt.slots] at X516 l516 y516 z516 st516 hQ516 hS516 hg516 Cn516
          subst l516 y516 z516
          obtain ⟨sa516, rfl, N516, K516, S516⟩ := hQ516
          refine GoOn.trans st516 ?_
          replace X516 : Stand p l e _ (s.setVm T516.vm) m _ below meth c T516 _ _ _ := X516
          have hZ516 : Z.Warmed39 (s.setVm T516.vm).vm := State.Warmed39.trans (t := (s.setVm vj424)) hZj424 hS516.1
          have hown516 : (s.setVm T516.vm).vm.findClass "com/example/patokan/patokan/core/TagEqualsPinLaw" = some m.cls := by rw [show (s.setVm T516.vm).vm = T516.vm from rfl, hS516.1.alike.findClass]; exact hownj424
          have hSn516 : s.Since T516.vm T516.heap.size := foldS hSj424 (by rw [ej424]; exact hkj424) hS516 hg516
          have hk516 : T516.heap.size ≤ T516.heap.size := Nat.le_refl _
          have N517 := Fr.app Nj424 N516
          have Z518 : n0 ≤ T516.heap.size := Nat.le_trans Zj424 K516.1
          have K519 : Keep h0 T516.heap [] := Kj424.trans K516 all0
          have O520 : Old Z n0 T516.heap := O418.keep K516 all0
          have E521 : Exa Z T516.heap t "com/example/patokan/patokan/core/Tag" := E419.keep K516
          have F522 : Fld Z T516.heap t "com/example/patokan/patokan/core/Tag" "name" "Ljava/lang/String;" (.ref sa388) := F420.keep K516 nin0
          have F523 : Fld Z T516.heap t "com/example/patokan/patokan/core/Tag" "value" "Ljava/lang/String;" (.ref sa397) := F421.keep K516 nin0
          have Sr524 : StrIs Z T516.heap sa388 (own_str p0) := Sr422.keep0 K516
          have Sr525 : StrIs Z T516.heap sa397 (own_str p1) := Sr423.keep0 K516
          have C526 : CHr Z own_EL s.vm h0 T516.vm T516.heap := CHr.trans Cj424 Cn516
          show GoOn p e below (T516.setTop (mkF m 165 #[.val (.int p0), .val (.int p1), .val (.int p2), .val (.int p3), .val (.int p4), .val (.ref t), .val (.int c2), .val (.int d2), .val (.int k8), .unset, .unset] [(.ref sa516), (.ref t)])) _
          obtain ⟨cqc528, kqc528, qac528, qbc528, qcc528⟩ := isOf hZ516 rfl E521
          obtain ⟨_, _, ⟨T527, L527, k527, n527⟩, -, X527, ⟨Lc527, hQ527, l527, y527, z527⟩, st527⟩ := X516.virtualBack hx (y := (⟨"com/example/patokan/patokan/core/Tag", "equals", "(Ljava/lang/Object;)Z"⟩ : MethodName)) (z := (⟨"com/example/patokan/patokan/core/Tag", "equals", "(Ljava/lang/Object;)Z"⟩ : MethodName)) hown516 (mvT hZ516 (hw _ (List.mem_of_getElem? (i := 58) rfl))) (mvT hZ516 (hw _ (List.mem_of_getElem? (i := 59) rfl))) (notFace_of_selects (args := #[]) (mvT hZ516 (hw _ (List.mem_of_getElem? (i := 61) rfl)))) (mvT hZ516 (hw _ (List.mem_of_getElem? (i := 61) rfl))) (mvT hZ516 (hw _ (List.mem_of_getElem? (i := 60) rfl))) (by decide) (backOf (W := 0) (rmTE1 l Z a0 hw t sa516 T516.heap n0 Z518 S516.1) hZ516 (hw _ (List.mem_of_getElem? (i := 62) rfl)) (hw _ (List.mem_of_getElem? (i := 2) rfl)) (by decide) (by decide)) qac528 qcc528 (g := (mkF m 165 #[.val (.int p0), .val (.int p1), .val (.int p2), .val (.int p3), .val (.int p4), .val (.ref t), .val (.int c2), .val (.int d2), .val (.int k8), .unset, .unset] [(.ref sa516), (.ref t)])) rfl (by rw [hml]; rfl) (Steps.refl _) (argsL := [(.ref sa516)]) (rest := []) (lenOf own_pd208 rfl) rfl (by show 2 * 0 + _ ≤ _; exact Nat.le_of_eq rfl) (hb hby at_165) (fun _ _ => ⟨rfl, rfl, (by decide : 23 + 0 ≤ _), (by decide : 82 + 0 ≤ _)⟩)
          dsimp only [Pt.U, Pt.locs, Pt.cells, Pt.slots] at X527 l527 y527 z527 st527 hQ527
          subst l527 y527 z527
          obtain ⟨rfl, N527, e527⟩ := hQ527
          refine GoOn.trans st527 ?_
          have N529 := Fr.app N517 N527
          show GoOn p e below (T527.setTop (mkF m 168 #[.val (.int p0), .val (.int p1), .val (.int p2), .val (.int p3), .val (.int p4), .val (.ref t), .val (.int c2), .val (.int d2), .val (.int k8), .unset, .unset] [(.int (0 : Int32))])) _
          refine GoOn.step (fun tq kq => XS.ifNo X527.here hx rfl (hb hby at_168) rfl ((if0 _ _).trans (teq rfl).2) kq) ?_
          show GoOn p e below (T527.setTop (mkF m 171 #[.val (.int p0), .val (.int p1), .val (.int p2), .val (.int p3), .val (.int p4), .val (.ref t), .val (.int c2), .val (.int d2), .val (.int k8), .unset, .unset] [])) _
          refine GoOn.step (fun tq kq => XS.iconst X527.here hx rfl (hb hby at_171) kq) ?_
          show GoOn p e below (T527.setTop (mkF m 172 #[.val (.int p0), .val (.int p1), .val (.int p2), .val (.int p3), .val (.int p4), .val (.ref t), .val (.int c2), .val (.int d2), .val (.int k8), .unset, .unset] [(.int (1 : Int32))])) _
          refine GoOn.step (fun tq kq => XS.goto X527.here hx rfl (pc0 := 172) (pc' := 176) rfl (hb hby at_172) (by decide) (by decide) kq) ?_
          show GoOn p e below (T527.setTop (mkF m 176 #[.val (.int p0), .val (.int p1), .val (.int p2), .val (.int p3), .val (.int p4), .val (.ref t), .val (.int c2), .val (.int d2), .val (.int k8), .unset, .unset] [(.int (1 : Int32))])) _
          refine GoOn.retH X527 hZ516 hSn516 (hk516) hEL hh e527 C526 Bd.notSynchronized (v := some (.int (nar .boolean (1 : Int32)))) (fun h => by rw [Bd.returns] at h; cases h) (fun fs hr => retN X527 hx (t := .boolean) Bd.returns (by simp) (hb hby at_176) hr) (by decide) (by decide) ?_
          exact ⟨rfl, N529⟩
        · skip
          refine GoOn.step (fun tq kq => XS.icmpYes Xj424.here hx rfl (pc0 := 156) (pc' := 177) rfl (hb hby at_156) rfl (feq hc515).2 (by decide) (by decide) kq) ?_
          show GoOn p e below (Tj424.setTop (mkF m 177 #[.val (.int p0), .val (.int p1), .val (.int p2), .val (.int p3), .val (.int p4), .val (.ref t), .val (.int c2), .val (.int d2), .val (.int k8), .unset, .unset] [])) _
          refine GoOn.step (fun tq kq => XS.aload Xj424.here hx rfl (hb hby at_177) rfl rfl kq) ?_
          show GoOn p e below (Tj424.setTop (mkF m 179 #[.val (.int p0), .val (.int p1), .val (.int p2), .val (.int p3), .val (.int p4), .val (.ref t), .val (.int c2), .val (.int d2), .val (.int k8), .unset, .unset] [(.ref t)])) _
          refine GoOn.step (fun tq kq => XS.aload Xj424.here hx rfl (hb hby at_179) rfl rfl kq) ?_
          show GoOn p e below (Tj424.setTop (mkF m 181 #[.val (.int p0), .val (.int p1), .val (.int p2), .val (.int p3), .val (.int p4), .val (.ref t), .val (.int c2), .val (.int d2), .val (.int k8), .unset, .unset] [(.ref t), (.ref t)])) _
          obtain ⟨cqc531, kqc531, qac531, qbc531, qcc531⟩ := isOf hZj424 ej424 E419
          obtain ⟨_, _, ⟨T530, L530, k530, n530⟩, -, X530, ⟨Lc530, hQ530, l530, y530, z530⟩, st530⟩ := Xj424.virtualBack hx (y := (⟨"com/example/patokan/patokan/core/Tag", "equals", "(Ljava/lang/Object;)Z"⟩ : MethodName)) (z := (⟨"com/example/patokan/patokan/core/Tag", "equals", "(Ljava/lang/Object;)Z"⟩ : MethodName)) hownj424 (mvT hZj424 (hw _ (List.mem_of_getElem? (i := 58) rfl))) (mvT hZj424 (hw _ (List.mem_of_getElem? (i := 59) rfl))) (notFace_of_selects (args := #[]) (mvT hZj424 (hw _ (List.mem_of_getElem? (i := 61) rfl)))) (mvT hZj424 (hw _ (List.mem_of_getElem? (i := 61) rfl))) (mvT hZj424 (hw _ (List.mem_of_getElem? (i := 60) rfl))) (by decide) (backOf (W := 0) (rmTE2 l Z a0 hw t t sa388 sa397 sa388 sa397 (own_str p0) (own_str p1) (own_str p0) (own_str p1) G1 hj424 n0 Zj424 SC PC E419 F420 F421 F420 F421 Sr422 Sr423 Sr422 Sr423 O418) hZj424 (hw _ (List.mem_of_getElem? (i := 62) rfl)) (hw _ (List.mem_of_getElem? (i := 2) rfl)) (by decide) (by decide)) qac531 qcc531 (g := (mkF m 181 #[.val (.int p0), .val (.int p1), .val (.int p2), .val (.int p3), .val (.int p4), .val (.ref t), .val (.int c2), .val (.int d2), .val (.int k8), .unset, .unset] [(.ref t), (.ref t)])) rfl (by rw [hml]; rfl) (Steps.refl _) (argsL := [(.ref t)]) (rest := []) (lenOf own_pd208 rfl) rfl (by show 2 * 0 + _ ≤ _; exact Nat.le_of_eq rfl) (hb hby at_181) (fun _ _ => ⟨rfl, ej424, (by decide : 17 + 0 ≤ _), (by decide : 70 + 0 ≤ _)⟩)
          dsimp only [Pt.U, Pt.locs, Pt.cells, Pt.slots] at X530 l530 y530 z530 st530 hQ530
          subst l530 y530 z530
          obtain ⟨rfl, N530, e530⟩ := hQ530
          refine GoOn.trans st530 ?_
          have N532 := Fr.app Nj424 N530
          show GoOn p e below (T530.setTop (mkF m 184 #[.val (.int p0), .val (.int p1), .val (.int p2), .val (.int p3), .val (.int p4), .val (.ref t), .val (.int c2), .val (.int d2), .val (.int k8), .unset, .unset] [(.int (if (own_str p0) = (own_str p0) ∧ (own_str p1) = (own_str p1) then 1 else 0))])) _
          refine GoOn.retH X530 hZj424 hSj424 (hkj424) hEL hh e530 Cj424 Bd.notSynchronized (v := some (.int (nar .boolean (if (own_str p0) = (own_str p0) ∧ (own_str p1) = (own_str p1) then 1 else 0)))) (fun h => by rw [Bd.returns] at h; cases h) (fun fs hr => retN X530 hx (t := .boolean) Bd.returns (by simp) (hb hby at_184) hr) (by decide) (by decide) ?_
          exact ⟨by rw [if_pos ⟨rfl, rfl⟩]; rfl, N532⟩
  have J29 : ∀ (vj539 : Vm) (kj539 : Nat) (Tj539 : State) (lj539 : List Loc) (hj539 : Heap) (c2 : Int32) (Xj539 : Stand p l e room_1 (s.setVm vj539) m #[(.int p0), (.int p1), (.int p2), (.int p3), (.int p4)] below meth c Tj539 lj539 17 70) (ej539 : Tj539.heap = hj539) (Nj539 : Fr n0 lj539) (hZj539 : Z.Warmed39 (s.setVm vj539).vm) (hownj539 : (s.setVm vj539).vm.findClass "com/example/patokan/patokan/core/TagEqualsPinLaw" = some m.cls) (hSj539 : s.Since vj539 kj539) (hkj539 : kj539 ≤ hj539.size) (Cj539 : CHr Z own_EL s.vm h0 vj539 hj539) (Zj539 : n0 ≤ hj539.size) (Kj539 : Keep h0 hj539 []) (O533 : Old Z n0 hj539) (E534 : Exa Z hj539 t "com/example/patokan/patokan/core/Tag") (F535 : Fld Z hj539 t "com/example/patokan/patokan/core/Tag" "name" "Ljava/lang/String;" (.ref sa388)) (F536 : Fld Z hj539 t "com/example/patokan/patokan/core/Tag" "value" "Ljava/lang/String;" (.ref sa397)) (Sr537 : StrIs Z hj539 sa388 (own_str p0)) (Sr538 : StrIs Z hj539 sa397 (own_str p1)), GoOn p e below (Tj539.setTop (mkF m 29 #[.val (.int p0), .val (.int p1), .val (.int p2), .val (.int p3), .val (.int p4), .val (.ref t), .unset, .unset, .unset, .unset, .unset] [(.int c2)])) (PostH Z own_EL s (QLaw h0 n0) 48 3264) := by
    intro vj539 kj539 Tj539 lj539 hj539 c2 Xj539 ej539 Nj539 hZj539 hownj539 hSj539 hkj539 Cj539 Zj539 Kj539 O533 E534 F535 F536 Sr537 Sr538 
    refine GoOn.step (fun tq kq => XS.istore Xj539.here hx rfl (hb hby at_29) rfl (l' := #[.val (.int p0), .val (.int p1), .val (.int p2), .val (.int p3), .val (.int p4), .val (.ref t), .val (.int c2), .unset, .unset, .unset, .unset]) rfl kq) ?_
    show GoOn p e below (Tj539.setTop (mkF m 31 #[.val (.int p0), .val (.int p1), .val (.int p2), .val (.int p3), .val (.int p4), .val (.ref t), .val (.int c2), .unset, .unset, .unset, .unset] [])) _
    refine GoOn.step (fun tq kq => XS.iload Xj539.here hx rfl (hb hby at_31) rfl kq) ?_
    show GoOn p e below (Tj539.setTop (mkF m 33 #[.val (.int p0), .val (.int p1), .val (.int p2), .val (.int p3), .val (.int p4), .val (.ref t), .val (.int c2), .unset, .unset, .unset, .unset] [(.int p4)])) _
    refine GoOn.step (fun tq kq => XS.iconst Xj539.here hx rfl (hb hby at_33) kq) ?_
    show GoOn p e below (Tj539.setTop (mkF m 34 #[.val (.int p0), .val (.int p1), .val (.int p2), .val (.int p3), .val (.int p4), .val (.ref t), .val (.int c2), .unset, .unset, .unset, .unset] [(.int (2 : Int32)), (.int p4)])) _
    refine GoOn.step (fun tq kq => XS.iand Xj539.here hx rfl (hb hby at_34) rfl kq) ?_
    show GoOn p e below (Tj539.setTop (mkF m 35 #[.val (.int p0), .val (.int p1), .val (.int p2), .val (.int p3), .val (.int p4), .val (.ref t), .val (.int c2), .unset, .unset, .unset, .unset] [(.int (p4 &&& (2 : Int32)))])) _
    by_cases hc540 : (p4 &&& (2 : Int32)) = 0
    · skip
      refine GoOn.step (fun tq kq => XS.ifYes Xj539.here hx rfl (pc0 := 35) (pc' := 42) rfl (hb hby at_35) rfl ((if0 _ _).trans (teq hc540).1) (by decide) (by decide) kq) ?_
      show GoOn p e below (Tj539.setTop (mkF m 42 #[.val (.int p0), .val (.int p1), .val (.int p2), .val (.int p3), .val (.int p4), .val (.ref t), .val (.int c2), .unset, .unset, .unset, .unset] [])) _
      refine GoOn.step (fun tq kq => XS.iloadN Xj539.here hx rfl (hb hby at_42) rfl kq) ?_
      show GoOn p e below (Tj539.setTop (mkF m 43 #[.val (.int p0), .val (.int p1), .val (.int p2), .val (.int p3), .val (.int p4), .val (.ref t), .val (.int c2), .unset, .unset, .unset, .unset] [(.int p3)])) _
      exact J43 _ _ _ _ _ c2 p3 (Xj539.more (by decide) (by decide)) ej539 Nj539 hZj539 hownj539 hSj539 hkj539 Cj539 Zj539 Kj539 O533 E534 F535 F536 Sr537 Sr538 
    · skip
      refine GoOn.step (fun tq kq => XS.ifNo Xj539.here hx rfl (hb hby at_35) rfl ((if0 _ _).trans (feq hc540).1) kq) ?_
      show GoOn p e below (Tj539.setTop (mkF m 38 #[.val (.int p0), .val (.int p1), .val (.int p2), .val (.int p3), .val (.int p4), .val (.ref t), .val (.int c2), .unset, .unset, .unset, .unset] [])) _
      refine GoOn.step (fun tq kq => XS.iloadN Xj539.here hx rfl (hb hby at_38) rfl kq) ?_
      show GoOn p e below (Tj539.setTop (mkF m 39 #[.val (.int p0), .val (.int p1), .val (.int p2), .val (.int p3), .val (.int p4), .val (.ref t), .val (.int c2), .unset, .unset, .unset, .unset] [(.int p1)])) _
      refine GoOn.step (fun tq kq => XS.goto Xj539.here hx rfl (pc0 := 39) (pc' := 43) rfl (hb hby at_39) (by decide) (by decide) kq) ?_
      show GoOn p e below (Tj539.setTop (mkF m 43 #[.val (.int p0), .val (.int p1), .val (.int p2), .val (.int p3), .val (.int p4), .val (.ref t), .val (.int c2), .unset, .unset, .unset, .unset] [(.int p1)])) _
      exact J43 _ _ _ _ _ c2 p1 (Xj539.more (by decide) (by decide)) ej539 Nj539 hZj539 hownj539 hSj539 hkj539 Cj539 Zj539 Kj539 O533 E534 F535 F536 Sr537 Sr538 
  refine GoOn.step (fun tq kq => XS.iload X407.here hx rfl (hb hby at_17) rfl kq) ?_
  show GoOn p e below (T407.setTop (mkF m 19 #[.val (.int p0), .val (.int p1), .val (.int p2), .val (.int p3), .val (.int p4), .val (.ref t), .unset, .unset, .unset, .unset, .unset] [(.int p4)])) _
  refine GoOn.step (fun tq kq => XS.iconst X407.here hx rfl (hb hby at_19) kq) ?_
  show GoOn p e below (T407.setTop (mkF m 20 #[.val (.int p0), .val (.int p1), .val (.int p2), .val (.int p3), .val (.int p4), .val (.ref t), .unset, .unset, .unset, .unset, .unset] [(.int (1 : Int32)), (.int p4)])) _
  refine GoOn.step (fun tq kq => XS.iand X407.here hx rfl (hb hby at_20) rfl kq) ?_
  show GoOn p e below (T407.setTop (mkF m 21 #[.val (.int p0), .val (.int p1), .val (.int p2), .val (.int p3), .val (.int p4), .val (.ref t), .unset, .unset, .unset, .unset, .unset] [(.int (p4 &&& (1 : Int32)))])) _
  by_cases hc541 : (p4 &&& (1 : Int32)) = 0
  · skip
    refine GoOn.step (fun tq kq => XS.ifYes X407.here hx rfl (pc0 := 21) (pc' := 28) rfl (hb hby at_21) rfl ((if0 _ _).trans (teq hc541).1) (by decide) (by decide) kq) ?_
    show GoOn p e below (T407.setTop (mkF m 28 #[.val (.int p0), .val (.int p1), .val (.int p2), .val (.int p3), .val (.int p4), .val (.ref t), .unset, .unset, .unset, .unset, .unset] [])) _
    refine GoOn.step (fun tq kq => XS.iloadN X407.here hx rfl (hb hby at_28) rfl kq) ?_
    show GoOn p e below (T407.setTop (mkF m 29 #[.val (.int p0), .val (.int p1), .val (.int p2), .val (.int p3), .val (.int p4), .val (.ref t), .unset, .unset, .unset, .unset, .unset] [(.int p2)])) _
    exact J29 _ _ _ _ _ p2 (X407.more (by decide) (by decide)) rfl N408 hZ407 hown407 hSn407 hk407 C412 Z410 K411 O409 E413 Fa407 Fb407 Sr416 Sr417 
  · skip
    refine GoOn.step (fun tq kq => XS.ifNo X407.here hx rfl (hb hby at_21) rfl ((if0 _ _).trans (feq hc541).1) kq) ?_
    show GoOn p e below (T407.setTop (mkF m 24 #[.val (.int p0), .val (.int p1), .val (.int p2), .val (.int p3), .val (.int p4), .val (.ref t), .unset, .unset, .unset, .unset, .unset] [])) _
    refine GoOn.step (fun tq kq => XS.iloadN X407.here hx rfl (hb hby at_24) rfl kq) ?_
    show GoOn p e below (T407.setTop (mkF m 25 #[.val (.int p0), .val (.int p1), .val (.int p2), .val (.int p3), .val (.int p4), .val (.ref t), .unset, .unset, .unset, .unset, .unset] [(.int p0)])) _
    refine GoOn.step (fun tq kq => XS.goto X407.here hx rfl (pc0 := 25) (pc' := 29) rfl (hb hby at_25) (by decide) (by decide) kq) ?_
    show GoOn p e below (T407.setTop (mkF m 29 #[.val (.int p0), .val (.int p1), .val (.int p2), .val (.int p3), .val (.int p4), .val (.ref t), .unset, .unset, .unset, .unset, .unset] [(.int p0)])) _
    exact J29 _ _ _ _ _ p0 (X407.more (by decide) (by decide)) rfl N408 hZ407 hown407 hSn407 hk407 C412 Z410 K411 O409 E413 Fa407 Fb407 Sr416 Sr417 
set_option maxRecDepth 65536 in
set_option maxHeartbeats 40000000 in
theorem comes_1 {Post : Tables → Env → Array Value → State → Outcome → State → Prop} (hpost : ∀ tb e args s v u, (limb_1_1.after args s (.returned v) u = true ∧ limb_1_2.after args s (.returned v) u = true ∧ True) → ReturnedEndW s (.returned v) u (Jvm.fieldLocs frame_1_writes args s ++ Jvm.arrayLocs frame_1_arrays args s ++ Jvm.staticLocs frame_1_statics s) 48 3264 → Post tb e args s (.returned v) u) :
    ArmFor flags0 classFile x code maxLocals ret World_1 tables_1 room_1 Calls_1 rest_1 Pre_1 Post := by
  intro l hfl _ _ p e ha hc hk s m args below hf hA hF happ hP
  obtain ⟨hcalls, hrest, hpre⟩ := hP
  obtain ⟨-, -, -, hnamed, -, -, -, hat⟩ := (Spec.applies_iff hf).mp happ
  obtain ⟨hg, hn⟩ := and_e (Cond.before_iff.mp (show (Jvm.Cond.and given_1 narrow_1).before args s = true from hpre))
  obtain ⟨hcount, hg0⟩ := and_e hg
  obtain ⟨ha0, hg1⟩ := and_e hg0
  obtain ⟨ha1, hg2⟩ := and_e hg1
  obtain ⟨ha2, hg3⟩ := and_e hg2
  obtain ⟨ha3, hg4⟩ := and_e hg3
  obtain ⟨w0, w1, w2, w3, w4, rfl⟩ : ∃ w0 w1 w2 w3 w4 : Value, args = #[w0, w1, w2, w3, w4] := by
    have hs : args.size = 5 := by simpa [Cond.value, given_1] using hcount
    obtain ⟨L⟩ := args
    match L, hs with
    | [w0, w1, w2, w3, w4], _ => exact ⟨w0, w1, w2, w3, w4, rfl⟩
  have hw := fun d (hd : d ∈ tables_1) => atoms_spec (ws := Jvm.Cond.code x code maxLocals ret :: tables_1) hat d (List.mem_cons_of_mem _ hd)
  have hfit : Fit s := fun {y c} hc i hi => by
    obtain ⟨ha, rfl⟩ := Array.getElem?_eq_some_iff.mp hc
    have q := List.all_eq_true.mp ((Array.all_eq_true_iff_forall_mem.mp hF) _ (Array.getElem_mem ha)) i (List.mem_range.mpr hi)
    simpa [Array.getElem?_eq_getElem hi] using q
  obtain ⟨hsets, hown0⟩ := atoms_of _ (rest_1_c_eq ▸ (show rest_1_c.before _ s = true from hrest))
  have hr0 := Cond.before_iff.mp hown0
  obtain ⟨i0, ei0⟩ := is_v ha0
  obtain rfl : w0 = (.int i0) := Option.some.inj ei0
  obtain ⟨i1, ei1⟩ := is_v ha1
  obtain rfl : w1 = (.int i1) := Option.some.inj ei1
  obtain ⟨i2, ei2⟩ := is_v ha2
  obtain rfl : w2 = (.int i2) := Option.some.inj ei2
  obtain ⟨i3, ei3⟩ := is_v ha3
  obtain rfl : w3 = (.int i3) := Option.some.inj ei3
  obtain ⟨i4, ei4⟩ := is_v hg4
  obtain rfl : w4 = (.int i4) := Option.some.inj ei4
  have n5 := not_v (Cond.before_iff.mp (hsets _ (List.mem_of_getElem? (i := 2) rfl)))
  obtain ⟨ic, ec⟩ := is_v (Cond.before_iff.mp (hsets _ (List.mem_of_getElem? (i := 1) rfl)))
  have SC : Sta s s.heap "java/lang/String" "COMPACT_STRINGS" "Z" (.int ic) := Sta.start ec (Or.inl (hsets _ (List.mem_of_getElem? (i := 0) rfl)))
  have PC : ¬ (ic = (0 : Int32)) := gotF (Cond.eq_ints ec (Term.int_eval (0))) n5
  obtain ⟨n, o, h1, h2, h3, _, L, rfl, ⟨rfl, N⟩, hC, hq⟩ := rm0 l s _ hw tables_1 i0 i1 i2 i3 i4 ic s.heap s.heap.size (Nat.le_refl _) SC PC (Old.start s) p e ha hc hk s m _ below hf ((Spec.applies_iff_loose hf).mp happ).1 ⟨rfl, State.Warmed39.refl s, rfl, (CHv.start (own_EW hw) hcalls.1 (hsets _ (List.mem_of_getElem? (i := 2) rfl)) (hw _ (List.mem_of_getElem? (i := 22) rfl)) (hw _ (List.mem_of_getElem? (i := 8) rfl)))⟩ trivial
  refine ⟨n, _, h1, h2, h3, hpost _ _ _ _ _ _ ⟨Cond.after_iff.mpr rfl, Cond.after_iff.mpr (eq_i res_at (Term.int_eval (1)) rfl), trivial⟩ ⟨hq.1, hq.2.1, hq.2.2.1, (hq.2.2.2.sift fun y hy => Or.inr (N y hy)).mono (by decide) (by decide)⟩⟩
theorem main_1_1 : Claimed_1_1 := comes_1 fun _ _ _ _ _ _ h hF => ⟨h.1, hF⟩
theorem main_1_2 : Claimed_1_2 := comes_1 fun _ _ _ _ _ _ h hF => ⟨h.2.1, hF⟩
end Jvm.Pilot.@@N@@
namespace Jvm.Pilot.@@N@@
open Jvm Jvm.ClassFile Sem Op Lib Jvm.Free Jvm.Stand Jvm.Pilot.@@N@@.Jvm.D
/-! MADE BY PROGRAM (witnessworld.py) out of the Statement's table words and the real class files: 21 classes; the members and pool entries that the words name. The judged class is class 1, her method 3. -/
namespace start1
open Jvm.ClassFile
def u (s : String) : CpInfo := .utf8 (stringToUtf16 s)
/-- a pool by its gaps: so many unusable entries, then the entry; so many at the end -/
def gap : Nat → List CpInfo → List CpInfo
  | 0, r => r
  | n + 1, r => .unusable :: gap n r
def poolList (es : List (Nat × CpInfo)) (last : Nat) : List CpInfo := es.foldr (fun e r => gap e.1 (e.2 :: r)) (gap last [])
def pool (es : List (Nat × CpInfo)) (last : Nat) : Array CpInfo := ⟨poolList es last⟩
def fileOf (pool : Array CpInfo) (this : Nat) (attrs : Array Attribute := #[]) (ms : Array MethodInfo := #[]) (fl : Nat := 33) (sup : Nat := 0) (ifs : Array Nat := #[]) (fds : Array FieldInfo := #[]) : ClassFile where
  minorVersion := 0
  majorVersion := 65
  constantPool := pool
  accessFlags := fl
  thisClass := this
  superClass := sup
  interfaces := ifs
  fields := fds
  methods := ms
  attributes := attrs
def plain (name : String) (sup : Option ClassId) : Class where
  name := name
  kind := .ordinary
  loader := none
  accessFlags := 33
  super := sup
  interfaces := #[]
  cf := none
  fields := #[]
  methods := #[]
  instanceTypes := #[]
  staticTypes := #[]
  resolved := #[]
  callSites := []
  init := .initialized
  statics := none
  mirror := none

def pool0 : Array CpInfo := pool [(5, u "<init>"), (0, u "()V"), (1, .class_ 10), (1, u "java/lang/Object")] 113

def k0c0 : Code := { maxStack := 0, maxLocals := 1, code := object_method_1_code, exceptionTable := #[], attributes := #[] }
def k0m0 : Method := { name := "<init>", desc := "()V", sig := { parameters := [], returnType := none }, accessFlags := 1, code := some k0c0 }
/-- java/lang/Object -/
def k0 : Class := { plain "java/lang/Object" none with
  accessFlags := 33
  interfaces := #[]
  cf := some (fileOf pool0 8 #[] #[{ accessFlags := 1, nameIndex := 5, descriptorIndex := 6, attributes := #[] }] 33 0 #[] #[])
  fields := #[]
  methods := #[k0m0]
  instanceTypes := #[]
  staticTypes := #[]
  resolved := Array.replicate 124 none
  statics := none }

def pool1 : Array CpInfo := pool [(2, .class_ 4), (1, u "java/lang/Object"), (0, u "<init>"), (0, u "()V"), (0, .class_ 8), (0, u "java/lang/String"), (0, .methodref 7 10), (0, .nameAndType 5 11), (0, u "([C)V"), (0, .class_ 13), (0, u "com/example/patokan/patokan/core/Tag"), (0, .methodref 15 16), (0, .class_ 17), (0, .nameAndType 18 19), (0, u "com/example/patokan/patokan/core/TagEqualsPinLaw"), (0, u "str"), (0, u "(I)Ljava/lang/String;"), (0, .methodref 12 21), (0, .nameAndType 5 22), (0, u "(Ljava/lang/String;Ljava/lang/String;)V"), (0, .methodref 15 24), (0, .nameAndType 25 26), (0, u "same"), (0, u "(II)Z"), (0, .methodref 12 28), (0, .nameAndType 29 30), (0, u "equals"), (0, u "(Ljava/lang/Object;)Z"), (3, u "law"), (0, u "(IIIII)Z")] 2

def k1m0 : Method := { name := "<init>", desc := "()V", sig := { parameters := [], returnType := none }, accessFlags := 1, code := none }
def k1c1 : Code := { maxStack := 6, maxLocals := 5, code := method_2_code, exceptionTable := #[], attributes := #[] }
def k1m1 : Method := { name := "str", desc := "(I)Ljava/lang/String;", sig := { parameters := [.int], returnType := some (.object "java/lang/String") }, accessFlags := 10, code := some k1c1 }
def k1c2 : Code := { maxStack := 3, maxLocals := 3, code := method_3_code, exceptionTable := #[], attributes := #[] }
def k1m2 : Method := { name := "same", desc := "(II)Z", sig := { parameters := [.int, .int], returnType := some .boolean }, accessFlags := 10, code := some k1c2 }
def k1c3 : Code := { maxStack := 4, maxLocals := 11, code := code, exceptionTable := #[], attributes := #[] }
def k1m3 : Method := { name := "law", desc := "(IIIII)Z", sig := { parameters := [.int, .int, .int, .int, .int], returnType := some .boolean }, accessFlags := 9, code := some k1c3 }
/-- com/example/patokan/patokan/core/TagEqualsPinLaw -/
def k1 : Class := { plain "com/example/patokan/patokan/core/TagEqualsPinLaw" (some 0) with
  accessFlags := 49
  interfaces := #[]
  cf := some (fileOf pool1 15 #[] #[{ accessFlags := 1, nameIndex := 5, descriptorIndex := 6, attributes := #[] }, { accessFlags := 10, nameIndex := 18, descriptorIndex := 19, attributes := #[] }, { accessFlags := 10, nameIndex := 25, descriptorIndex := 26, attributes := #[] }, { accessFlags := 9, nameIndex := 34, descriptorIndex := 35, attributes := #[] }] 49 2 #[] #[])
  fields := #[]
  methods := #[k1m0, k1m1, k1m2, k1m3]
  instanceTypes := #[]
  staticTypes := #[]
  resolved := Array.replicate 38 none
  statics := none }

def pool2 : Array CpInfo := pool [(1, .methodref 2 3), (0, .class_ 4), (0, .nameAndType 5 6), (0, u "java/lang/Object"), (0, u "<init>"), (0, u "()V"), (0, .string 8), (0, u "name"), (0, .methodref 10 11), (0, .class_ 12), (0, .nameAndType 13 14), (0, u "java/util/Objects"), (0, u "requireNonNull"), (0, u "(Ljava/lang/Object;Ljava/lang/String;)Ljava/lang/Object;"), (0, .class_ 16), (0, u "java/lang/String"), (0, .fieldref 18 19), (0, .class_ 20), (0, .nameAndType 8 21), (0, u "com/example/patokan/patokan/core/Tag"), (0, u "Ljava/lang/String;"), (0, .string 23), (0, u "value"), (0, .fieldref 18 25), (0, .nameAndType 23 21), (0, .methodref 15 27), (0, .nameAndType 28 29), (0, u "equals"), (0, u "(Ljava/lang/Object;)Z"), (4, u "(Ljava/lang/String;Ljava/lang/String;)V")] 10

def k2c0 : Code := { maxStack := 3, maxLocals := 3, code := prog_31_method_1_code, exceptionTable := #[], attributes := #[] }
def k2m0 : Method := { name := "<init>", desc := "(Ljava/lang/String;Ljava/lang/String;)V", sig := { parameters := [(.object "java/lang/String"), (.object "java/lang/String")], returnType := none }, accessFlags := 1, code := some k2c0 }
def k2c1 : Code := { maxStack := 2, maxLocals := 3, code := prog_31_method_4_code, exceptionTable := #[], attributes := #[] }
def k2m1 : Method := { name := "equals", desc := "(Ljava/lang/Object;)Z", sig := { parameters := [(.object "java/lang/Object")], returnType := some .boolean }, accessFlags := 1, code := some k2c1 }
/-- com/example/patokan/patokan/core/Tag -/
def k2 : Class := { plain "com/example/patokan/patokan/core/Tag" (some 0) with
  accessFlags := 49
  interfaces := #[]
  cf := some (fileOf pool2 18 #[] #[{ accessFlags := 1, nameIndex := 5, descriptorIndex := 34, attributes := #[] }, { accessFlags := 1, nameIndex := 28, descriptorIndex := 29, attributes := #[] }] 49 2 #[] #[{ accessFlags := 18, nameIndex := 8, descriptorIndex := 21, attributes := #[] }, { accessFlags := 18, nameIndex := 23, descriptorIndex := 21, attributes := #[] }])
  fields := #[{ name := "name", type := (.object "java/lang/String"), accessFlags := 18, slot := 0, constantValue := 0 }, { name := "value", type := (.object "java/lang/String"), accessFlags := 18, slot := 1, constantValue := 0 }]
  methods := #[k2m0, k2m1]
  instanceTypes := #[(.object "java/lang/String"), (.object "java/lang/String")]
  staticTypes := #[]
  resolved := Array.replicate 45 none
  statics := none }

def pool3 : Array CpInfo := pool [(1, .class_ 2), (0, u "java/io/Serializable"), (0, .class_ 4), (0, u "java/lang/Object")] 2

/-- java/io/Serializable -/
def k3 : Class := { plain "java/io/Serializable" (some 0) with
  accessFlags := 1537
  interfaces := #[]
  cf := some (fileOf pool3 1 #[] #[] 1537 3 #[] #[])
  fields := #[]
  methods := #[]
  instanceTypes := #[]
  staticTypes := #[]
  resolved := Array.replicate 7 none
  statics := none }

def pool4 : Array CpInfo := pool [(1, .class_ 2), (0, u "java/lang/Comparable"), (0, .class_ 4), (0, u "java/lang/Object")] 7

/-- java/lang/Comparable -/
def k4 : Class := { plain "java/lang/Comparable" (some 0) with
  accessFlags := 1537
  interfaces := #[]
  cf := some (fileOf pool4 1 #[] #[] 1537 3 #[] #[])
  fields := #[]
  methods := #[]
  instanceTypes := #[]
  staticTypes := #[]
  resolved := Array.replicate 12 none
  statics := none }

def pool5 : Array CpInfo := pool [(2, .class_ 4), (1, u "java/lang/CharSequence"), (42, .class_ 48), (0, u "java/lang/CharSequence$1CodePointIterator"), (10, .class_ 60), (0, u "java/lang/CharSequence$1CharIterator"), (5, .class_ 67), (0, u "java/lang/Object")] 63

/-- java/lang/CharSequence -/
def k5 : Class := { plain "java/lang/CharSequence" (some 0) with
  accessFlags := 1537
  interfaces := #[]
  cf := some (fileOf pool5 2 #[.nestMembers #[47, 59]] #[] 1537 66 #[] #[])
  fields := #[]
  methods := #[]
  instanceTypes := #[]
  staticTypes := #[]
  resolved := Array.replicate 131 none
  statics := none }

def pool6 : Array CpInfo := pool [(1, .class_ 2), (0, u "java/lang/constant/Constable"), (0, .class_ 4), (0, u "java/lang/Object")] 6

/-- java/lang/constant/Constable -/
def k6 : Class := { plain "java/lang/constant/Constable" (some 0) with
  accessFlags := 1537
  interfaces := #[]
  cf := some (fileOf pool6 1 #[] #[] 1537 3 #[] #[])
  fields := #[]
  methods := #[]
  instanceTypes := #[]
  staticTypes := #[]
  resolved := Array.replicate 11 none
  statics := none }

def pool7 : Array CpInfo := pool [(1, .class_ 2), (0, u "java/lang/constant/ConstantDesc"), (0, .class_ 4), (0, u "java/lang/Object")] 32

/-- java/lang/constant/ConstantDesc -/
def k7 : Class := { plain "java/lang/constant/ConstantDesc" (some 0) with
  accessFlags := 1537
  interfaces := #[]
  cf := some (fileOf pool7 1 #[] #[] 1537 3 #[] #[])
  fields := #[]
  methods := #[]
  instanceTypes := #[]
  staticTypes := #[]
  resolved := Array.replicate 37 none
  statics := none }

def pool8 : Array CpInfo := pool [(1, .methodref 2 3), (0, .class_ 4), (0, .nameAndType 5 6), (0, u "java/lang/Object"), (0, u "<init>"), (0, u "()V"), (0, .string 8), (0, u ""), (0, .fieldref 10 11), (0, .class_ 12), (0, .nameAndType 13 14), (0, u "java/lang/String"), (0, u "value"), (0, u "[B"), (0, .fieldref 10 16), (0, .nameAndType 17 18), (0, u "coder"), (0, u "B"), (2, u "hash"), (0, u "I"), (2, u "hashIsZero"), (0, u "Z"), (0, .methodref 10 28), (0, .nameAndType 5 29), (0, u "([CIILjava/lang/Void;)V"), (8, .fieldref 10 39), (0, .nameAndType 40 26), (0, u "COMPACT_STRINGS"), (1, .class_ 44), (1, u "java/lang/StringUTF16"), (0, u "compress"), (1, .methodref 42 48), (0, .nameAndType 49 50), (0, u "coderFromArrayLen"), (0, u "([BI)B"), (56, .class_ 109), (1, u "java/lang/StringLatin1"), (67, .methodref 42 178), (0, .nameAndType 45 179), (0, u "([CII)[B"), (361, .methodref 107 542), (0, .nameAndType 543 544), (0, u "equals"), (0, u "([B[B)Z"), (28, u "(Ljava/lang/Object;)Z"), (1, .class_ 576), (0, u "java/lang/CharSequence"), (22, u "CASE_INSENSITIVE_ORDER"), (0, u "Ljava/util/Comparator;"), (409, u "([C)V"), (90, u "serialPersistentFields"), (0, u "[Ljava/io/ObjectStreamField;"), (0, .class_ 1104), (0, u "java/lang/String$CaseInsensitiveComparator"), (1, .class_ 1107), (0, u "java/io/Serializable"), (0, .class_ 1109), (0, u "java/lang/Comparable"), (0, .class_ 1111), (0, u "java/lang/constant/Constable"), (0, .class_ 1113), (0, u "java/lang/constant/ConstantDesc"), (2, u "serialVersionUID"), (0, u "J"), (3, u "REPL"), (0, u "C"), (2, u "LATIN1"), (1, u "UTF16")] 323

def k8m0 : Method := { name := "<init>", desc := "()V", sig := { parameters := [], returnType := none }, accessFlags := 1, code := none }
def k8c1 : Code := { maxStack := 5, maxLocals := 2, code := jdk_42_method_3_code, exceptionTable := #[], attributes := #[] }
def k8m1 : Method := { name := "<init>", desc := "([C)V", sig := { parameters := [(.array .char)], returnType := none }, accessFlags := 1, code := some k8c1 }
def k8c2 : Code := { maxStack := 2, maxLocals := 3, code := jdk_42_method_66_code, exceptionTable := #[], attributes := #[] }
def k8m2 : Method := { name := "equals", desc := "(Ljava/lang/Object;)Z", sig := { parameters := [(.object "java/lang/Object")], returnType := some .boolean }, accessFlags := 1, code := some k8c2 }
def k8c3 : Code := { maxStack := 4, maxLocals := 6, code := jdk_42_method_149_code, exceptionTable := #[], attributes := #[] }
def k8m3 : Method := { name := "<init>", desc := "([CIILjava/lang/Void;)V", sig := { parameters := [(.array .char), .int, .int, (.object "java/lang/Void")], returnType := none }, accessFlags := 2, code := some k8c3 }
/-- java/lang/String -/
def k8 : Class := { plain "java/lang/String" (some 0) with
  accessFlags := 49
  interfaces := #[3, 4, 5, 6, 7]
  cf := some (fileOf pool8 10 #[.nestMembers #[1103]] #[{ accessFlags := 1, nameIndex := 5, descriptorIndex := 6, attributes := #[] }, { accessFlags := 1, nameIndex := 5, descriptorIndex := 1010, attributes := #[] }, { accessFlags := 1, nameIndex := 543, descriptorIndex := 573, attributes := #[] }, { accessFlags := 2, nameIndex := 5, descriptorIndex := 29, attributes := #[] }] 49 2 #[1106, 1108, 575, 1110, 1112] #[{ accessFlags := 18, nameIndex := 13, descriptorIndex := 14, attributes := #[] }, { accessFlags := 18, nameIndex := 17, descriptorIndex := 18, attributes := #[] }, { accessFlags := 2, nameIndex := 21, descriptorIndex := 22, attributes := #[] }, { accessFlags := 2, nameIndex := 25, descriptorIndex := 26, attributes := #[] }, { accessFlags := 26, nameIndex := 1116, descriptorIndex := 1117, attributes := #[] }, { accessFlags := 24, nameIndex := 40, descriptorIndex := 26, attributes := #[] }, { accessFlags := 26, nameIndex := 1101, descriptorIndex := 1102, attributes := #[] }, { accessFlags := 26, nameIndex := 1121, descriptorIndex := 1122, attributes := #[] }, { accessFlags := 25, nameIndex := 599, descriptorIndex := 600, attributes := #[] }, { accessFlags := 24, nameIndex := 1125, descriptorIndex := 18, attributes := #[] }, { accessFlags := 24, nameIndex := 1127, descriptorIndex := 18, attributes := #[] }])
  fields := #[{ name := "value", type := (.array .byte), accessFlags := 18, slot := 0, constantValue := 0 }, { name := "coder", type := .byte, accessFlags := 18, slot := 1, constantValue := 0 }, { name := "hash", type := .int, accessFlags := 2, slot := 2, constantValue := 0 }, { name := "hashIsZero", type := .boolean, accessFlags := 2, slot := 3, constantValue := 0 }, { name := "serialVersionUID", type := .long, accessFlags := 26, slot := 0, constantValue := 0 }, { name := "COMPACT_STRINGS", type := .boolean, accessFlags := 24, slot := 1, constantValue := 0 }, { name := "serialPersistentFields", type := (.array (.object "java/io/ObjectStreamField")), accessFlags := 26, slot := 2, constantValue := 0 }, { name := "REPL", type := .char, accessFlags := 26, slot := 3, constantValue := 0 }, { name := "CASE_INSENSITIVE_ORDER", type := (.object "java/util/Comparator"), accessFlags := 25, slot := 4, constantValue := 0 }, { name := "LATIN1", type := .byte, accessFlags := 24, slot := 5, constantValue := 0 }, { name := "UTF16", type := .byte, accessFlags := 24, slot := 6, constantValue := 0 }]
  methods := #[k8m0, k8m1, k8m2, k8m3]
  instanceTypes := #[(.array .byte), .byte, .int, .boolean]
  staticTypes := #[.long, .boolean, (.array (.object "java/io/ObjectStreamField")), .char, (.object "java/util/Comparator"), .byte, .byte]
  resolved := Array.replicate 1451 none
  statics := some 0 }

def pool9 : Array CpInfo := pool [(6, .class_ 8), (1, u "java/lang/Object"), (0, u "<init>"), (0, u "()V"), (1, .class_ 14), (1, u "java/lang/StringUTF16"), (31, u "$assertionsDisabled"), (0, u "Z"), (13, u "HI_BYTE_SHIFT"), (0, u "I"), (2, u "LO_BYTE_SHIFT"), (49, .methodref 12 116), (0, .nameAndType 117 118), (0, u "compress"), (0, u "([CI[BII)I"), (3, u "([CII)[B"), (138, u "coderFromArrayLen"), (0, u "([BI)B"), (106, .class_ 371), (1, u "java/lang/StringUTF16$LinesSpliterator"), (58, u "MAX_LENGTH"), (196, .class_ 628), (0, u "java/lang/StringUTF16$CodePointsSpliterator"), (0, .class_ 630), (0, u "java/lang/StringUTF16$CharsSpliterator")] 4

def k9m0 : Method := { name := "<init>", desc := "()V", sig := { parameters := [], returnType := none }, accessFlags := 0, code := none }
def k9c1 : Code := { maxStack := 2, maxLocals := 2, code := jdk_52_method_15_code, exceptionTable := #[], attributes := #[] }
def k9m1 : Method := { name := "coderFromArrayLen", desc := "([BI)B", sig := { parameters := [(.array .byte), .int], returnType := some .byte }, accessFlags := 8, code := some k9c1 }
def k9c2 : Code := { maxStack := 5, maxLocals := 6, code := jdk_52_method_16_code, exceptionTable := #[], attributes := #[] }
def k9m2 : Method := { name := "compress", desc := "([CII)[B", sig := { parameters := [(.array .char), .int, .int], returnType := some (.array .byte) }, accessFlags := 9, code := some k9c2 }
def k9c3 : Code := { maxStack := 3, maxLocals := 7, code := jdk_52_method_21_code, exceptionTable := #[], attributes := #[] }
def k9m3 : Method := { name := "compress", desc := "([CI[BII)I", sig := { parameters := [(.array .char), .int, (.array .byte), .int, .int], returnType := some .int }, accessFlags := 9, code := some k9c3 }
/-- java/lang/StringUTF16 -/
def k9 : Class := { plain "java/lang/StringUTF16" (some 0) with
  accessFlags := 48
  interfaces := #[]
  cf := some (fileOf pool9 12 #[.nestMembers #[627, 629, 369]] #[{ accessFlags := 0, nameIndex := 9, descriptorIndex := 10, attributes := #[] }, { accessFlags := 8, nameIndex := 261, descriptorIndex := 262, attributes := #[] }, { accessFlags := 9, nameIndex := 117, descriptorIndex := 122, attributes := #[] }, { accessFlags := 9, nameIndex := 117, descriptorIndex := 118, attributes := #[] }] 48 6 #[] #[{ accessFlags := 26, nameIndex := 61, descriptorIndex := 62, attributes := #[] }, { accessFlags := 26, nameIndex := 65, descriptorIndex := 62, attributes := #[] }, { accessFlags := 24, nameIndex := 430, descriptorIndex := 62, attributes := #[] }, { accessFlags := 4120, nameIndex := 46, descriptorIndex := 47, attributes := #[] }])
  fields := #[{ name := "HI_BYTE_SHIFT", type := .int, accessFlags := 26, slot := 0, constantValue := 0 }, { name := "LO_BYTE_SHIFT", type := .int, accessFlags := 26, slot := 1, constantValue := 0 }, { name := "MAX_LENGTH", type := .int, accessFlags := 24, slot := 2, constantValue := 0 }, { name := "$assertionsDisabled", type := .boolean, accessFlags := 4120, slot := 3, constantValue := 0 }]
  methods := #[k9m0, k9m1, k9m2, k9m3]
  instanceTypes := #[]
  staticTypes := #[.int, .int, .int, .boolean]
  resolved := Array.replicate 635 none
  statics := none }

def pool10 : Array CpInfo := pool [(2, .class_ 4), (1, u "java/lang/Object"), (0, u "<init>"), (0, u "()V"), (35, .class_ 44), (1, u "java/util/Objects"), (0, u "requireNonNull"), (48, u "(Ljava/lang/Object;Ljava/lang/String;)Ljava/lang/Object;")] 89

def k10m0 : Method := { name := "<init>", desc := "()V", sig := { parameters := [], returnType := none }, accessFlags := 2, code := none }
def k10c1 : Code := { maxStack := 3, maxLocals := 2, code := jdk_31_method_11_code, exceptionTable := #[], attributes := #[] }
def k10m1 : Method := { name := "requireNonNull", desc := "(Ljava/lang/Object;Ljava/lang/String;)Ljava/lang/Object;", sig := { parameters := [(.object "java/lang/Object"), (.object "java/lang/String")], returnType := some (.object "java/lang/Object") }, accessFlags := 9, code := some k10c1 }
/-- java/util/Objects -/
def k10 : Class := { plain "java/util/Objects" (some 0) with
  accessFlags := 49
  interfaces := #[]
  cf := some (fileOf pool10 42 #[] #[{ accessFlags := 2, nameIndex := 5, descriptorIndex := 6, attributes := #[] }, { accessFlags := 9, nameIndex := 45, descriptorIndex := 94, attributes := #[] }] 49 2 #[] #[])
  fields := #[]
  methods := #[k10m0, k10m1]
  instanceTypes := #[]
  staticTypes := #[]
  resolved := Array.replicate 184 none
  statics := none }

def pool11 : Array CpInfo := pool [(4, .class_ 6), (1, u "java/lang/Object"), (0, u "<init>"), (0, u "()V"), (5, .class_ 16), (1, u "java/lang/StringLatin1"), (104, u "$assertionsDisabled"), (0, u "Z"), (98, .class_ 223), (1, u "java/lang/StringLatin1$LinesSpliterator"), (57, u "equals"), (0, u "([B[B)Z"), (107, .class_ 391), (0, u "java/lang/StringLatin1$CharsSpliterator")] 3

def k11m0 : Method := { name := "<init>", desc := "()V", sig := { parameters := [], returnType := none }, accessFlags := 0, code := none }
def k11c1 : Code := { maxStack := 3, maxLocals := 3, code := jdk_43_method_13_code, exceptionTable := #[], attributes := #[] }
def k11m1 : Method := { name := "equals", desc := "([B[B)Z", sig := { parameters := [(.array .byte), (.array .byte)], returnType := some .boolean }, accessFlags := 9, code := some k11c1 }
/-- java/lang/StringLatin1 -/
def k11 : Class := { plain "java/lang/StringLatin1" (some 0) with
  accessFlags := 48
  interfaces := #[]
  cf := some (fileOf pool11 14 #[.nestMembers #[390, 221]] #[{ accessFlags := 0, nameIndex := 7, descriptorIndex := 8, attributes := #[] }, { accessFlags := 9, nameIndex := 281, descriptorIndex := 282, attributes := #[] }] 48 4 #[] #[{ accessFlags := 4120, nameIndex := 121, descriptorIndex := 122, attributes := #[] }])
  fields := #[{ name := "$assertionsDisabled", type := .boolean, accessFlags := 4120, slot := 0, constantValue := 0 }]
  methods := #[k11m0, k11m1]
  instanceTypes := #[]
  staticTypes := #[.boolean]
  resolved := Array.replicate 395 none
  statics := none }

def pool12 : Array CpInfo := pool [(2, .class_ 4), (1, u "java/lang/Object"), (0, u "<init>"), (0, u "()V"), (17, .class_ 26), (1, u "jdk/internal/util/Preconditions"), (28, .class_ 56), (0, u "jdk/internal/util/Preconditions$4"), (57, .class_ 115), (0, u "jdk/internal/util/Preconditions$1"), (7, u "SIOOBE_FORMATTER"), (0, u "Ljava/util/function/BiFunction;"), (0, .class_ 126), (0, u "jdk/internal/util/Preconditions$2"), (3, u "AIOOBE_FORMATTER"), (0, .class_ 132), (0, u "jdk/internal/util/Preconditions$3"), (3, u "IOOBE_FORMATTER")] 57

def k12m0 : Method := { name := "<init>", desc := "()V", sig := { parameters := [], returnType := none }, accessFlags := 1, code := none }
/-- jdk/internal/util/Preconditions -/
def k12 : Class := { plain "jdk/internal/util/Preconditions" (some 0) with
  accessFlags := 33
  interfaces := #[]
  cf := some (fileOf pool12 24 #[.nestMembers #[55, 131, 125, 114]] #[{ accessFlags := 1, nameIndex := 5, descriptorIndex := 6, attributes := #[] }] 33 2 #[] #[{ accessFlags := 25, nameIndex := 123, descriptorIndex := 124, attributes := #[] }, { accessFlags := 25, nameIndex := 130, descriptorIndex := 124, attributes := #[] }, { accessFlags := 25, nameIndex := 136, descriptorIndex := 124, attributes := #[] }])
  fields := #[{ name := "SIOOBE_FORMATTER", type := (.object "java/util/function/BiFunction"), accessFlags := 25, slot := 0, constantValue := 0 }, { name := "AIOOBE_FORMATTER", type := (.object "java/util/function/BiFunction"), accessFlags := 25, slot := 1, constantValue := 0 }, { name := "IOOBE_FORMATTER", type := (.object "java/util/function/BiFunction"), accessFlags := 25, slot := 2, constantValue := 0 }]
  methods := #[k12m0]
  instanceTypes := #[]
  staticTypes := #[(.object "java/util/function/BiFunction"), (.object "java/util/function/BiFunction"), (.object "java/util/function/BiFunction")]
  resolved := Array.replicate 194 none
  statics := some 1 }

def pool13 : Array CpInfo := pool [(9, u "<init>"), (6, .class_ 18), (1, u "java/lang/Object"), (0, u "()V"), (1, .class_ 23), (1, u "jdk/internal/util/ArraysSupport"), (0, u "LOG2_ARRAY_LONG_INDEX_SCALE"), (0, u "I"), (2, u "U"), (0, u "Ljdk/internal/misc/Unsafe;"), (8, u "BIG_ENDIAN"), (0, u "Z"), (8, u "LOG2_BYTE_BIT_SIZE"), (4, u "LOG2_ARRAY_INT_INDEX_SCALE"), (54, u "JLA"), (0, u "Ljdk/internal/access/JavaLangAccess;"), (11, u "LOG2_ARRAY_BOOLEAN_INDEX_SCALE"), (9, u "LOG2_ARRAY_BYTE_INDEX_SCALE"), (5, u "LOG2_ARRAY_CHAR_INDEX_SCALE"), (5, u "LOG2_ARRAY_SHORT_INDEX_SCALE"), (18, u "LOG2_ARRAY_FLOAT_INDEX_SCALE"), (24, u "LOG2_ARRAY_DOUBLE_INDEX_SCALE"), (89, u "T_BOOLEAN"), (2, u "T_CHAR"), (1, u "T_FLOAT"), (1, u "T_DOUBLE"), (1, u "T_BYTE"), (1, u "T_SHORT"), (1, u "T_INT"), (1, u "T_LONG"), (1, u "SOFT_MAX_ARRAY_LENGTH")] 83

def k13m0 : Method := { name := "<init>", desc := "()V", sig := { parameters := [], returnType := none }, accessFlags := 2, code := none }
/-- jdk/internal/util/ArraysSupport -/
def k13 : Class := { plain "jdk/internal/util/ArraysSupport" (some 0) with
  accessFlags := 33
  interfaces := #[]
  cf := some (fileOf pool13 21 #[] #[{ accessFlags := 2, nameIndex := 9, descriptorIndex := 19, attributes := #[] }] 33 16 #[] #[{ accessFlags := 24, nameIndex := 28, descriptorIndex := 29, attributes := #[] }, { accessFlags := 26, nameIndex := 38, descriptorIndex := 39, attributes := #[] }, { accessFlags := 25, nameIndex := 121, descriptorIndex := 25, attributes := #[] }, { accessFlags := 25, nameIndex := 131, descriptorIndex := 25, attributes := #[] }, { accessFlags := 25, nameIndex := 137, descriptorIndex := 25, attributes := #[] }, { accessFlags := 25, nameIndex := 143, descriptorIndex := 25, attributes := #[] }, { accessFlags := 25, nameIndex := 53, descriptorIndex := 25, attributes := #[] }, { accessFlags := 25, nameIndex := 24, descriptorIndex := 25, attributes := #[] }, { accessFlags := 25, nameIndex := 162, descriptorIndex := 25, attributes := #[] }, { accessFlags := 25, nameIndex := 187, descriptorIndex := 25, attributes := #[] }, { accessFlags := 26, nameIndex := 48, descriptorIndex := 25, attributes := #[] }, { accessFlags := 25, nameIndex := 277, descriptorIndex := 25, attributes := #[] }, { accessFlags := 25, nameIndex := 280, descriptorIndex := 25, attributes := #[] }, { accessFlags := 25, nameIndex := 282, descriptorIndex := 25, attributes := #[] }, { accessFlags := 25, nameIndex := 284, descriptorIndex := 25, attributes := #[] }, { accessFlags := 25, nameIndex := 286, descriptorIndex := 25, attributes := #[] }, { accessFlags := 25, nameIndex := 288, descriptorIndex := 25, attributes := #[] }, { accessFlags := 25, nameIndex := 290, descriptorIndex := 25, attributes := #[] }, { accessFlags := 25, nameIndex := 292, descriptorIndex := 25, attributes := #[] }, { accessFlags := 26, nameIndex := 108, descriptorIndex := 109, attributes := #[] }, { accessFlags := 25, nameIndex := 294, descriptorIndex := 25, attributes := #[] }])
  fields := #[{ name := "U", type := (.object "jdk/internal/misc/Unsafe"), accessFlags := 24, slot := 0, constantValue := 0 }, { name := "BIG_ENDIAN", type := .boolean, accessFlags := 26, slot := 1, constantValue := 0 }, { name := "LOG2_ARRAY_BOOLEAN_INDEX_SCALE", type := .int, accessFlags := 25, slot := 2, constantValue := 0 }, { name := "LOG2_ARRAY_BYTE_INDEX_SCALE", type := .int, accessFlags := 25, slot := 3, constantValue := 0 }, { name := "LOG2_ARRAY_CHAR_INDEX_SCALE", type := .int, accessFlags := 25, slot := 4, constantValue := 0 }, { name := "LOG2_ARRAY_SHORT_INDEX_SCALE", type := .int, accessFlags := 25, slot := 5, constantValue := 0 }, { name := "LOG2_ARRAY_INT_INDEX_SCALE", type := .int, accessFlags := 25, slot := 6, constantValue := 0 }, { name := "LOG2_ARRAY_LONG_INDEX_SCALE", type := .int, accessFlags := 25, slot := 7, constantValue := 0 }, { name := "LOG2_ARRAY_FLOAT_INDEX_SCALE", type := .int, accessFlags := 25, slot := 8, constantValue := 0 }, { name := "LOG2_ARRAY_DOUBLE_INDEX_SCALE", type := .int, accessFlags := 25, slot := 9, constantValue := 0 }, { name := "LOG2_BYTE_BIT_SIZE", type := .int, accessFlags := 26, slot := 10, constantValue := 0 }, { name := "T_BOOLEAN", type := .int, accessFlags := 25, slot := 11, constantValue := 0 }, { name := "T_CHAR", type := .int, accessFlags := 25, slot := 12, constantValue := 0 }, { name := "T_FLOAT", type := .int, accessFlags := 25, slot := 13, constantValue := 0 }, { name := "T_DOUBLE", type := .int, accessFlags := 25, slot := 14, constantValue := 0 }, { name := "T_BYTE", type := .int, accessFlags := 25, slot := 15, constantValue := 0 }, { name := "T_SHORT", type := .int, accessFlags := 25, slot := 16, constantValue := 0 }, { name := "T_INT", type := .int, accessFlags := 25, slot := 17, constantValue := 0 }, { name := "T_LONG", type := .int, accessFlags := 25, slot := 18, constantValue := 0 }, { name := "JLA", type := (.object "jdk/internal/access/JavaLangAccess"), accessFlags := 26, slot := 19, constantValue := 0 }, { name := "SOFT_MAX_ARRAY_LENGTH", type := .int, accessFlags := 25, slot := 20, constantValue := 0 }]
  methods := #[k13m0]
  instanceTypes := #[]
  staticTypes := #[(.object "jdk/internal/misc/Unsafe"), .boolean, .int, .int, .int, .int, .int, .int, .int, .int, .int, .int, .int, .int, .int, .int, .int, .int, .int, (.object "jdk/internal/access/JavaLangAccess"), .int]
  resolved := Array.replicate 378 none
  statics := none }

def pool14 : Array CpInfo := pool [(1, u "java/lang/Cloneable"), (0, .class_ 1), (0, u "java/lang/Object"), (0, .class_ 3)] 3

/-- java/lang/Cloneable -/
def k14 : Class := { plain "java/lang/Cloneable" (some 0) with
  accessFlags := 1537
  interfaces := #[]
  cf := some (fileOf pool14 2 #[] #[] 1537 4 #[] #[])
  fields := #[]
  methods := #[]
  instanceTypes := #[]
  staticTypes := #[]
  resolved := Array.replicate 8 none
  statics := none }

/-- the primitive byte -/
def k15 : Class := { plain "byte" none with kind := .primitive 'B', accessFlags := 0x411 }
/-- [B -/
def k16 : Class := { plain "[B" (some 0) with kind := .array 15 .byte, interfaces := #[14, 3], accessFlags := 1041 }

/-- the primitive char -/
def k17 : Class := { plain "char" none with kind := .primitive 'C', accessFlags := 0x411 }
/-- [C -/
def k18 : Class := { plain "[C" (some 0) with kind := .array 17 .char, interfaces := #[14, 3], accessFlags := 1041 }

/-- the primitive int -/
def k19 : Class := { plain "int" none with kind := .primitive 'I', accessFlags := 0x411 }
/-- [I -/
def k20 : Class := { plain "[I" (some 0) with kind := .array 19 .int, interfaces := #[14, 3], accessFlags := 1041 }

def heap : Heap := #[{ cls := 8, slots := #[.long 0, .int 1, .null, .int 0, .null, .int 0, .int 0], vm := .statics 8 },
  { cls := 12, slots := #[.null, .null, .null], vm := .statics 12 }]
def classes : Array Class := #[k0, k1, k2, k3, k4, k5, k6, k7, k8, k9, k10, k11, k12, k13, k14, k15, k16, k17, k18, k19, k20]
def interned : List (Array UInt16 × Addr) := []
def slotsUsed : Nat := 10
def theMethod : MethodId := ⟨1, 3⟩
def args0 : Array Value := #[.int 5, .int 5, .int 5, .int 5, .int 5]
def aboutOver (below : List Frame) : State where
  vm := { classes := classes, interned := interned.toArray }
  heap := heap
  slotsUsed := slotsUsed
  threads := #[{ frames := .invoking theMethod args0 :: below }]
def below0 : List Frame := [.native { method := ⟨0, 0⟩, args := #[] }]
def about1 : State := aboutOver below0
def p0 : Program := .bare "" "" ""
def e0 : Env := launch0.env 0 0 0
theorem w_frames : about1.frames = Frame.invoking theMethod args0 :: below0 := rfl
set_option maxRecDepth 65536 in
theorem w_args : argsFit about1.vm theMethod args0 = true := by decide +kernel
set_option maxRecDepth 65536 in
theorem w_heap : heapFits about1 = true := by decide +kernel
set_option maxRecDepth 65536 in
theorem w_runnable : about1.curStatus? = some .runnable := by decide +kernel
set_option maxRecDepth 65536 in
theorem w_alone : about1.alone = true := by decide +kernel
set_option maxRecDepth 65536 in
theorem w_named : about1.methodNamed? x = some theMethod := by decide +kernel
set_option maxRecDepth 65536 in
theorem w_hears : about1.hears theMethod below0 = true := by decide +kernel
set_option maxRecDepth 65536 in
theorem w_ripe : about1.ripe theMethod args0 below0 = true := by decide +kernel
theorem w_running : about1.status = .running := rfl
set_option maxRecDepth 65536 in
theorem w_room : about1.hasRoom e0.platform room_1 = true :=
  launch0.hasRoom_least _ room_1 (by decide +kernel) (by decide +kernel) (by decide +kernel) (by decide +kernel) (by decide +kernel) (by decide +kernel)
theorem allAtoms_all (ts : List Jvm.Cond) (a : Array Jvm.Value) (st : Jvm.State) : (allAtoms ts).before a st = ts.all (fun c => c.before a st) := by
  induction ts with
  | nil => rfl
  | cons c t ih =>
    show (Jvm.Cond.and c (allAtoms t)).before a st = _
    rw [Jvm.Cond.before_and, ih, List.all_cons]
def words1 : List Jvm.Cond := Jvm.Cond.code x code maxLocals ret :: tables_1
/-- a 'code' word, met by the world's own term for the bytes: nothing is compared byte by byte -/
theorem code_word {y : MethodName} {bytes : ByteArray} {mx : Nat} {rt : Option FieldType} {a : Array Value} {s : State} {m : MethodId} {meth : Method} {c : Code} (h1 : s.methodNamed? y = some m) (h2 : s.vm.method? m = some meth) (h3 : meth.code = some c) (h4 : c.code = bytes)
    (h5 : (c.maxLocals == mx && c.exceptionTable.isEmpty && decide (c.maxStack ≤ mostOperands) && decide (meth.sig.returnType = rt) && !meth.locks && decide (parseMethodDescriptor y.desc = some meth.sig)) = true) : (Jvm.Cond.code y bytes mx rt).before a s = true := by
  simp only [Bool.and_eq_true, beq_iff_eq, Bool.not_eq_true', decide_eq_true_eq] at h5
  obtain ⟨⟨⟨⟨⟨g1, g2⟩, g3⟩, g4⟩, g5⟩, g6⟩ := h5
  simp [Cond.before, Cond.holds, Cond.value, h1, h2, h3, h4, g1, g2, g3, g4, g5, g6]
def isCode : Jvm.Cond → Bool
  | .code _ _ _ _ => true
  | _ => false
theorem all_split {L : List Jvm.Cond} {P : Jvm.Cond → Bool} (h1 : L.all (fun c => isCode c || P c) = true) (h2 : ∀ c ∈ L.filter isCode, P c = true) : L.all P = true := by
  refine List.all_eq_true.mpr fun c hc => ?_
  have h := List.all_eq_true.mp h1 c hc
  rcases Bool.eq_false_or_eq_true (isCode c) with hi | hi
  · exact h2 c (List.mem_filter.mpr ⟨hc, hi⟩)
  · simpa [hi] using h
set_option maxRecDepth 65536 in
theorem w_c0 : (Jvm.Cond.code x code maxLocals ret).before args0 about1 = true := code_word (m := ⟨1, 3⟩) (meth := k1m3) (c := k1c3) (by decide +kernel) rfl rfl rfl (by decide +kernel)
set_option maxRecDepth 65536 in
theorem w_c1 : (Jvm.Cond.code ({ cls := "com/example/patokan/patokan/core/TagEqualsPinLaw", name := "str", desc := "(I)Ljava/lang/String;" } : Jvm.MethodName) method_2_code (5 : Nat) (Option.some (Jvm.ClassFile.FieldType.object "java/lang/String"))).before args0 about1 = true := code_word (m := ⟨1, 1⟩) (meth := k1m1) (c := k1c1) (by decide +kernel) rfl rfl rfl (by decide +kernel)
set_option maxRecDepth 65536 in
theorem w_c2 : (Jvm.Cond.code ({ cls := "java/lang/String", name := "<init>", desc := "([C)V" } : Jvm.MethodName) jdk_42_method_3_code (2 : Nat) (Option.none : Option Jvm.ClassFile.FieldType)).before args0 about1 = true := code_word (m := ⟨8, 1⟩) (meth := k8m1) (c := k8c1) (by decide +kernel) rfl rfl rfl (by decide +kernel)
set_option maxRecDepth 65536 in
theorem w_c3 : (Jvm.Cond.code ({ cls := "java/lang/String", name := "<init>", desc := "([CIILjava/lang/Void;)V" } : Jvm.MethodName) jdk_42_method_149_code (6 : Nat) (Option.none : Option Jvm.ClassFile.FieldType)).before args0 about1 = true := code_word (m := ⟨8, 3⟩) (meth := k8m3) (c := k8c3) (by decide +kernel) rfl rfl rfl (by decide +kernel)
set_option maxRecDepth 65536 in
theorem w_c4 : (Jvm.Cond.code ({ cls := "java/lang/Object", name := "<init>", desc := "()V" } : Jvm.MethodName) object_method_1_code (1 : Nat) (Option.none : Option Jvm.ClassFile.FieldType)).before args0 about1 = true := code_word (m := ⟨0, 0⟩) (meth := k0m0) (c := k0c0) (by decide +kernel) rfl rfl rfl (by decide +kernel)
set_option maxRecDepth 65536 in
theorem w_c5 : (Jvm.Cond.code ({ cls := "java/lang/StringUTF16", name := "compress", desc := "([CII)[B" } : Jvm.MethodName) jdk_52_method_16_code (6 : Nat) (Option.some (Jvm.ClassFile.FieldType.array Jvm.ClassFile.FieldType.byte))).before args0 about1 = true := code_word (m := ⟨9, 2⟩) (meth := k9m2) (c := k9c2) (by decide +kernel) rfl rfl rfl (by decide +kernel)
set_option maxRecDepth 65536 in
theorem w_c6 : (Jvm.Cond.code ({ cls := "java/lang/StringUTF16", name := "compress", desc := "([CI[BII)I" } : Jvm.MethodName) jdk_52_method_21_code (7 : Nat) (Option.some Jvm.ClassFile.FieldType.int)).before args0 about1 = true := code_word (m := ⟨9, 3⟩) (meth := k9m3) (c := k9c3) (by decide +kernel) rfl rfl rfl (by decide +kernel)
set_option maxRecDepth 65536 in
theorem w_c7 : (Jvm.Cond.code ({ cls := "java/lang/StringUTF16", name := "coderFromArrayLen", desc := "([BI)B" } : Jvm.MethodName) jdk_52_method_15_code (2 : Nat) (Option.some Jvm.ClassFile.FieldType.byte)).before args0 about1 = true := code_word (m := ⟨9, 1⟩) (meth := k9m1) (c := k9c1) (by decide +kernel) rfl rfl rfl (by decide +kernel)
set_option maxRecDepth 65536 in
theorem w_c8 : (Jvm.Cond.code ({ cls := "com/example/patokan/patokan/core/Tag", name := "<init>", desc := "(Ljava/lang/String;Ljava/lang/String;)V" } : Jvm.MethodName) prog_31_method_1_code (3 : Nat) (Option.none : Option Jvm.ClassFile.FieldType)).before args0 about1 = true := code_word (m := ⟨2, 0⟩) (meth := k2m0) (c := k2c0) (by decide +kernel) rfl rfl rfl (by decide +kernel)
set_option maxRecDepth 65536 in
theorem w_c9 : (Jvm.Cond.code ({ cls := "java/util/Objects", name := "requireNonNull", desc := "(Ljava/lang/Object;Ljava/lang/String;)Ljava/lang/Object;" } : Jvm.MethodName) jdk_31_method_11_code (2 : Nat) (Option.some (Jvm.ClassFile.FieldType.object "java/lang/Object"))).before args0 about1 = true := code_word (m := ⟨10, 1⟩) (meth := k10m1) (c := k10c1) (by decide +kernel) rfl rfl rfl (by decide +kernel)
set_option maxRecDepth 65536 in
theorem w_c10 : (Jvm.Cond.code ({ cls := "com/example/patokan/patokan/core/TagEqualsPinLaw", name := "same", desc := "(II)Z" } : Jvm.MethodName) method_3_code (3 : Nat) (Option.some Jvm.ClassFile.FieldType.boolean)).before args0 about1 = true := code_word (m := ⟨1, 2⟩) (meth := k1m2) (c := k1c2) (by decide +kernel) rfl rfl rfl (by decide +kernel)
set_option maxRecDepth 65536 in
theorem w_c11 : (Jvm.Cond.code ({ cls := "com/example/patokan/patokan/core/Tag", name := "equals", desc := "(Ljava/lang/Object;)Z" } : Jvm.MethodName) prog_31_method_4_code (3 : Nat) (Option.some Jvm.ClassFile.FieldType.boolean)).before args0 about1 = true := code_word (m := ⟨2, 1⟩) (meth := k2m1) (c := k2c1) (by decide +kernel) rfl rfl rfl (by decide +kernel)
set_option maxRecDepth 65536 in
theorem w_c12 : (Jvm.Cond.code ({ cls := "java/lang/String", name := "equals", desc := "(Ljava/lang/Object;)Z" } : Jvm.MethodName) jdk_42_method_66_code (3 : Nat) (Option.some Jvm.ClassFile.FieldType.boolean)).before args0 about1 = true := code_word (m := ⟨8, 2⟩) (meth := k8m2) (c := k8c2) (by decide +kernel) rfl rfl rfl (by decide +kernel)
set_option maxRecDepth 65536 in
theorem w_c13 : (Jvm.Cond.code ({ cls := "java/lang/StringLatin1", name := "equals", desc := "([B[B)Z" } : Jvm.MethodName) jdk_43_method_13_code (3 : Nat) (Option.some Jvm.ClassFile.FieldType.boolean)).before args0 about1 = true := code_word (m := ⟨11, 1⟩) (meth := k11m1) (c := k11c1) (by decide +kernel) rfl rfl rfl (by decide +kernel)
def codes1 : List Jvm.Cond := [Jvm.Cond.code x code maxLocals ret, Jvm.Cond.code ({ cls := "com/example/patokan/patokan/core/TagEqualsPinLaw", name := "str", desc := "(I)Ljava/lang/String;" } : Jvm.MethodName) method_2_code (5 : Nat) (Option.some (Jvm.ClassFile.FieldType.object "java/lang/String")), Jvm.Cond.code ({ cls := "java/lang/String", name := "<init>", desc := "([C)V" } : Jvm.MethodName) jdk_42_method_3_code (2 : Nat) (Option.none : Option Jvm.ClassFile.FieldType), Jvm.Cond.code ({ cls := "java/lang/String", name := "<init>", desc := "([CIILjava/lang/Void;)V" } : Jvm.MethodName) jdk_42_method_149_code (6 : Nat) (Option.none : Option Jvm.ClassFile.FieldType), Jvm.Cond.code ({ cls := "java/lang/Object", name := "<init>", desc := "()V" } : Jvm.MethodName) object_method_1_code (1 : Nat) (Option.none : Option Jvm.ClassFile.FieldType), Jvm.Cond.code ({ cls := "java/lang/StringUTF16", name := "compress", desc := "([CII)[B" } : Jvm.MethodName) jdk_52_method_16_code (6 : Nat) (Option.some (Jvm.ClassFile.FieldType.array Jvm.ClassFile.FieldType.byte)), Jvm.Cond.code ({ cls := "java/lang/StringUTF16", name := "compress", desc := "([CI[BII)I" } : Jvm.MethodName) jdk_52_method_21_code (7 : Nat) (Option.some Jvm.ClassFile.FieldType.int), Jvm.Cond.code ({ cls := "java/lang/StringUTF16", name := "coderFromArrayLen", desc := "([BI)B" } : Jvm.MethodName) jdk_52_method_15_code (2 : Nat) (Option.some Jvm.ClassFile.FieldType.byte), Jvm.Cond.code ({ cls := "com/example/patokan/patokan/core/Tag", name := "<init>", desc := "(Ljava/lang/String;Ljava/lang/String;)V" } : Jvm.MethodName) prog_31_method_1_code (3 : Nat) (Option.none : Option Jvm.ClassFile.FieldType), Jvm.Cond.code ({ cls := "java/util/Objects", name := "requireNonNull", desc := "(Ljava/lang/Object;Ljava/lang/String;)Ljava/lang/Object;" } : Jvm.MethodName) jdk_31_method_11_code (2 : Nat) (Option.some (Jvm.ClassFile.FieldType.object "java/lang/Object")), Jvm.Cond.code ({ cls := "com/example/patokan/patokan/core/TagEqualsPinLaw", name := "same", desc := "(II)Z" } : Jvm.MethodName) method_3_code (3 : Nat) (Option.some Jvm.ClassFile.FieldType.boolean), Jvm.Cond.code ({ cls := "com/example/patokan/patokan/core/Tag", name := "equals", desc := "(Ljava/lang/Object;)Z" } : Jvm.MethodName) prog_31_method_4_code (3 : Nat) (Option.some Jvm.ClassFile.FieldType.boolean), Jvm.Cond.code ({ cls := "java/lang/String", name := "equals", desc := "(Ljava/lang/Object;)Z" } : Jvm.MethodName) jdk_42_method_66_code (3 : Nat) (Option.some Jvm.ClassFile.FieldType.boolean), Jvm.Cond.code ({ cls := "java/lang/StringLatin1", name := "equals", desc := "([B[B)Z" } : Jvm.MethodName) jdk_43_method_13_code (3 : Nat) (Option.some Jvm.ClassFile.FieldType.boolean)]
set_option maxRecDepth 65536 in
theorem codes_eq : words1.filter isCode = codes1 := rfl
theorem w_codes : ∀ c ∈ words1.filter isCode, c.before args0 about1 = true := by
  rw [codes_eq]
  intro c hc
  simp only [codes1, List.mem_cons, List.not_mem_nil, or_false] at hc
  rcases hc with rfl | rfl | rfl | rfl | rfl | rfl | rfl | rfl | rfl | rfl | rfl | rfl | rfl | rfl
  · exact w_c0
  · exact w_c1
  · exact w_c2
  · exact w_c3
  · exact w_c4
  · exact w_c5
  · exact w_c6
  · exact w_c7
  · exact w_c8
  · exact w_c9
  · exact w_c10
  · exact w_c11
  · exact w_c12
  · exact w_c13
set_option maxRecDepth 65536 in
theorem w_t1 : (words1.take 24).all (fun c => isCode c || c.before args0 about1) = true := by decide +kernel
set_option maxRecDepth 65536 in
theorem w_t2 : ((words1.drop 24).take 24).all (fun c => isCode c || c.before args0 about1) = true := by decide +kernel
set_option maxRecDepth 65536 in
theorem w_t3 : (((words1.drop 24).drop 24).take 24).all (fun c => isCode c || c.before args0 about1) = true := by decide +kernel
set_option maxRecDepth 65536 in
theorem w_t4 : (((words1.drop 24).drop 24).drop 24).all (fun c => isCode c || c.before args0 about1) = true := by decide +kernel
theorem w_tables : (allAtoms (Jvm.Cond.code x code maxLocals ret :: tables_1)).before args0 about1 = true := by
  rw [allAtoms_all]
  show words1.all (fun c => c.before args0 about1) = true
  refine all_split ?_ w_codes
  rw [← List.take_append_drop 24 words1, List.all_append, w_t1, ← List.take_append_drop 24 (words1.drop 24), List.all_append, w_t2, ← List.take_append_drop 24 ((words1.drop 24).drop 24), List.all_append, w_t3, w_t4]
  rfl
set_option maxRecDepth 65536 in
theorem w_rest : rest_1_c.before args0 about1 = true := by decide +kernel
set_option maxRecDepth 65536 in
theorem w_case : (Jvm.Cond.and given_1 narrow_1).before args0 about1 = true := by decide +kernel
set_option maxRecDepth 65536 in
theorem w_consts : constsHeld consts_1 about1 := Jvm.Lit.constsHeldB_iff.mp (by decide +kernel)
theorem w_applies : (headSpec (Jvm.Cond.code x code maxLocals ret :: tables_1) room_1).applies x e0.platform about1 = true :=
  (Spec.applies_iff w_frames).mpr ⟨w_running, w_runnable, w_alone, w_named, w_hears, w_ripe, w_room, w_tables⟩
theorem atStart : AtStart classFile x code maxLocals ret World_1 tables_1 room_1 Calls_1 rest_1 Pre_1 launch0 p0 e0 about1 theMethod args0 below0 :=
  ⟨lists_1, trivial, launch0.admits_env _ _ _, launch0.least_env, fairChoices_fair.cas, fairChoices_fair.clock, w_frames, w_args, w_heap, w_applies, ⟨w_consts, trivial⟩, w_rest, w_case⟩
end start1
theorem witness_1 : WitnessClaimed_1 := ⟨start1.p0, start1.e0, start1.about1, start1.theMethod, start1.args0, start1.below0, start1.atStart⟩
end Jvm.Pilot.@@N@@
