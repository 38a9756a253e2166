import JvmDerived
import JvmDerived.Pilot.@@N@@Statement
import JvmDerived.Pilot.@@N@@Code
set_option linter.unusedVariables false
set_option linter.unusedSimpArgs false
namespace Jvm.RoadKit
open Sem ClassFile Op Lib Jvm.Stand Jvm.Free Jvm.LawKit
section New
variable {p : Program} {l : Launch} {e : Env} {R : Room} {s : State} {m : MethodId} {args : Array Value} {below : List Frame} {meth : Method} {c : Code} {T : State} {locs : List Loc} {cells slots : Nat}
theorem retI (X : Stand p l e R s m args below meth c T locs cells slots) (hx : p.tables.exec = Jvm.exec) {pc : Nat} {Ls : Array Slot} {z : Int32} {rest : List Value} (hret : meth.sig.returnType = some .int) (hd : decode c.code pc = .ok (.ireturn, 1)) {fs : List Frame}
    (hl : ∀ (f : JFrame) (acts : List Action), f.method = m → f.locked = none → f.entered = [] → (doReturn e (T.setTop f) acts (some (.int z))).1 = T.setFrames fs) : Steps p.tables e below (T.setTop (mkF m pc Ls (.int z :: rest))) (T.setFrames fs) :=
  retOut X hx hret rfl (Or.inl ⟨rfl, Or.inl rfl, _, rfl⟩) hd hl
end New
end Jvm.RoadKit
namespace Jvm.Pilot.@@N@@
open Jvm Jvm.ClassFile Sem Op Lib Jvm.Free Jvm.Stand Jvm.LawKit Jvm.RoadKit Bundle Jvm.Pilot.@@N@@.Jvm.D
section Own
variable {p : Program} {l : Launch} {e : Env} {R : Room} {s : State} {m : MethodId} {args : Array Value} {below : List Frame} {meth : Method} {c : Code} {T : State} {locs : List Loc} {cells slots : Nat}
/-- from this state the invocation comes to its end, and Q holds there -/
def GoOn (p : Program) (e : Env) (below : List Frame) (S : State) (Q : Outcome → State → Prop) : Prop := ∃ s₂ o, Steps p.tables e below S s₂ ∧ s₂.status = .running ∧ Ended s₂ below o ∧ Q o s₂
theorem GoOn.step {S S' : State} {Q : Outcome → State → Prop} (h : ∀ t, Steps p.tables e below S' t → Steps p.tables e below S t) (k : GoOn p e below S' Q) : GoOn p e below S Q := by
  obtain ⟨s2, o, h1, h2, h3, h4⟩ := k
  exact ⟨s2, o, h _ h1, h2, h3, h4⟩
theorem GoOn.trans {S S' : State} {Q : Outcome → State → Prop} (h : Steps p.tables e below S S') (k : GoOn p e below S' Q) : GoOn p e below S Q := GoOn.step (fun _ q => Steps.trans h q) k
def PostN (s : State) (Qp : Option Value → Heap → List Loc → Prop) (k n : Nat) (o : Outcome) (U' : State) : Prop := ∃ v L, o = .returned v ∧ Qp v U'.heap L ∧ FrameEnd s o U' L k n
def PostW (s : State) (Qp : Option Value → Heap → List Loc → Prop) (k n : Nat) (o : Outcome) (U' : State) : Prop := ∃ v L, o = .returned v ∧ Qp v U'.heap L ∧ ReturnedEndW s o U' L k n
theorem GoOn.ret (X : Stand p l e R s m args below meth c T locs cells slots) (hlk : meth.locks = false) {v : Option Value} (hv : meth.sig.returnType = none → v = none) {S : State}
    (st : ∀ fs, (∀ (f : JFrame) (acts : List Action), f.method = m → f.locked = none → f.entered = [] → (doReturn e (T.setTop f) acts v).1 = T.setFrames fs) → Steps p.tables e below S (T.setFrames fs)) {k n : Nat} (hk : cells ≤ k) (hn : slots ≤ n)
    {Qp : Option Value → Heap → List Loc → Prop} (q : Qp v T.heap locs) : GoOn p e below S (PostN s Qp k n) := by
  obtain ⟨fs, hr, hrun, hended, hW, hsame⟩ := X.leave hv hlk
  exact ⟨_, _, st fs hr, hrun, hended, v, _, rfl, q, ⟨_, rfl⟩, hW, hsame.mono hk hn⟩
theorem GoOn.retW {vm1 : Vm} {k1 : Nat} (X : Stand p l e R (s.setVm vm1) m args below meth c T locs cells slots) (hS : s.Since vm1 k1) (h1 : k1 ≤ T.heap.size) (hlk : meth.locks = false) {v : Option Value} (hv : meth.sig.returnType = none → v = none) {S : State}
    (st : ∀ fs, (∀ (f : JFrame) (acts : List Action), f.method = m → f.locked = none → f.entered = [] → (doReturn e (T.setTop f) acts v).1 = T.setFrames fs) → Steps p.tables e below S (T.setFrames fs)) {k n : Nat} (hk : cells ≤ k) (hn : slots ≤ n)
    {Qp : Option Value → Heap → List Loc → Prop} (q : Qp v T.heap locs) : GoOn p e below S (PostW s Qp k n) := by
  obtain ⟨fs, hr, hrun, hended, h4, h5, h6, h7⟩ := X.leaveW hS h1 hv hlk
  exact ⟨_, _, st fs hr, hrun, hended, v, _, rfl, q, h4, h5, h6, h7.mono hk hn⟩
def PostH (Z : State) (EL : List (String × Nat)) (s : State) (Qp : Option Value → Heap → List Loc → Prop) (k n : Nat) (o : Outcome) (U' : State) : Prop := ∃ v L, o = .returned v ∧ Qp v U'.heap L ∧ CHr Z EL s.vm s.heap U'.vm U'.heap ∧ ReturnedEndW s o U' L k n
theorem GoOn.retH {Z : State} {a0 : Array Value} {EL : List (String × Nat)} {h0 h : Heap} {vm1 : Vm} {k1 : Nat} (X : Stand p l e R (s.setVm vm1) m args below meth c T locs cells slots) (hZ : Z.Warmed39 (s.setVm vm1).vm) (hS : s.Since vm1 k1) (h1 : k1 ≤ h.size) (hEL : EW Z a0 EL) (hh : s.heap = h0) (eT : T.heap = h) (C : CHr Z EL s.vm h0 vm1 h) (hlk : meth.locks = false) {v : Option Value} (hv : meth.sig.returnType = none → v = none) {S : State}
    (st : ∀ fs, (∀ (f : JFrame) (acts : List Action), f.method = m → f.locked = none → f.entered = [] → (doReturn e (T.setTop f) acts v).1 = T.setFrames fs) → Steps p.tables e below S (T.setFrames fs)) {k n : Nat} (hk : cells ≤ k) (hn : slots ≤ n)
    {Qp : Option Value → Heap → List Loc → Prop} (q : Qp v h locs) : GoOn p e below S (PostH Z EL s Qp k n) := by
  subst hh eT
  obtain ⟨fs, hr, hrun, hended, h4, h5, h6, h7⟩ := X.leaveW hS h1 hv hlk
  have q2 := CHr.trans C (CHv.at X hZ hEL C.1)
  exact ⟨_, _, st fs hr, hrun, hended, v, _, rfl, q, q2, h4, h5, h6, h7.mono hk hn⟩
theorem Safe.arv {Z : State} {EL : List (String × Nat)} {vm : Vm} {h : Heap} {x : Addr} {kc : ClassId} {ty : FieldType} {z : Int32} {vs : List Value} {dv : Value} (hal : Z.vm.Alike vm) (V : Arv Z h x kc ty z vs dv) (ht : ty ≠ .byte) : Safe Z EL vm h x := by
  obtain ⟨cl, A, -⟩ := V
  exact Safe.arr hal A ht
theorem Safe.ofNull {Z : State} {EL : List (String × Nat)} {vm : Vm} {h : Heap} {x : Addr} (hal : Z.vm.Alike vm) (E : Exa Z h x "java/lang/String") (F : Fld Z h x "java/lang/String" "value" "[B" .null) : Safe Z EL vm h x := fun B => by
  obtain ⟨p, -, u, a, -, q, -, S, rfl | rfl⟩ := B
  · obtain ⟨cell, cf, k, i, f, h1, h2, h3, -, -, -, h7⟩ := F
    cases (show h[q.sa]? = some q.sC from S.ha).symm.trans h1
    obtain ⟨cS, ⟨⟨-, -, -, ⟨c1, k1, i1, f1, -⟩, -, -, -, v1, -⟩, -⟩, -⟩ := S
    obtain ⟨k3, e3, -⟩ := State.fieldFound?_setVm (s := Z) hal h2
    have e4 := (show (Wst Z vm h).fieldFound? _ _ _ = _ from e3).symm.trans f1
    simp only [Option.some.injEq, Prod.mk.injEq] at e4
    rw [← e4.2.2.2, h7] at v1
    cases v1
  · obtain ⟨cell, k, e1, e2, e3, -, -⟩ := E
    cases (show h[q.sd]? = some q.SA from S.hd).symm.trans e1
    obtain ⟨cS, -, -, f, -⟩ := S
    rw [show (Wst Z vm h).vm = vm from rfl, hal.findClass] at f
    obtain ⟨k1, q1, q2⟩ := Vm.findClass_spec f
    obtain ⟨k2, q3, q4⟩ := Vm.findClass_spec e2
    cases q1.symm.trans q3
    exact absurd (q2.symm.trans q4) (by decide)
theorem alenA {Z : State} {h : Heap} (X : Stand p l e R s m args below meth c T locs cells slots) (hx : p.tables.exec = Jvm.exec) (hZ : Z.Warmed39 s.vm) (eT : T.heap = h) {a : Addr} {k : ClassId} {ty : FieldType} {z : Int32} {vs : List Value} {d : Value} (V : Arv Z h a k ty z vs d) {g : JFrame} (hg : g.method = m) {rest : List Value} (hs : g.stack = .ref a :: rest) (hd : decode c.code g.pc = .ok (.arraylength, 1)) :
    ∀ target, Steps p.tables e below (T.setTop { g with pc := g.pc + 1, stack := .int z :: rest }) target → Steps p.tables e below (T.setTop g) target := fun t q => by
  obtain ⟨cl, A, -, S, M, -, -⟩ := V
  exact X.arraylength hx (by rw [eT]; exact A.1) (State.isArrayOf_alike hZ.alike A.2.1) hg hs hd t (by rw [len_of S M]; exact q)
theorem refCat {v : Value} (h : v.isRef = true) : v.category = 1 := by rcases ref_cases h with rfl | ⟨_, rfl⟩ <;> rfl
theorem own_catR (a : Addr) : (Value.ref a).category = 1 := rfl
theorem own_catI (a : Int32) : (Value.int a).category = 1 := rfl
theorem own_catJ (a : Int64) : (Value.long a).category = 2 := rfl
theorem own_catN : Value.null.category = 1 := rfl
theorem narRef {v : Value} (h : v.isRef = true) {t : FieldType} : narrow t v = v := by rcases ref_cases h with rfl | ⟨_, rfl⟩ <;> cases t <;> rfl
theorem fitRefA {v : Value} (h : v.isRef = true) {t : FieldType} : fits (.array t) v = true := by rcases ref_cases h with rfl | ⟨_, rfl⟩ <;> rfl
theorem fitRef {v : Value} (h : v.isRef = true) {C : String} : fits (.object C) v = true := by rcases ref_cases h with rfl | ⟨_, rfl⟩ <;> rfl
end Own
end Jvm.Pilot.@@N@@
namespace Jvm.Pilot.@@N@@
open Jvm Jvm.ClassFile Sem Op Lib Jvm.Free Jvm.Stand Jvm.LawKit Jvm.RoadKit Bundle Jvm.Pilot.@@N@@.Jvm.D
set_option maxHeartbeats 4000000 in
theorem own_ef0 (m : MethodId) (x0 : Addr) (x1 : Addr) (x2 : Int32) (x3 : Int32) : entryFrame m #[(.ref x0), (.ref x1), (.int x2), (.int x3)] 7 = mkF m 0 #[.val (.ref x0), .val (.ref x1), .val (.int x2), .val (.int x3), .unset, .unset, .unset] [] := by first | rfl | (simp [entryFrame, mkF, argsToLocals, Value.category]; done)
theorem own_pn1 : plainName "com/example/patokan/patokan/model/AbilityGrid" = true := by first | (simp [plainName, overriddenIn]; done) | decide +kernel
theorem own_d2 : decode prog_41_method_6_code 0 = .ok (.dconst 0, 1) := by decide +kernel
theorem own_d3 : decode prog_41_method_6_code 1 = .ok (.dstore 4, 2) := by decide +kernel
theorem own_d4 : decode prog_41_method_6_code 3 = .ok (.iload_n 2, 1) := by decide +kernel
theorem own_d5 : decode prog_41_method_6_code 4 = .ok (.istore 6, 2) := by decide +kernel
theorem own_d6 : decode prog_41_method_6_code 6 = .ok (.iload 6, 2) := by decide +kernel
theorem own_d7 : decode prog_41_method_6_code 8 = .ok (.iload_n 3, 1) := by decide +kernel
theorem own_d8 : decode prog_41_method_6_code 9 = .ok (.if_icmp .ge 23, 3) := by decide +kernel
theorem own_d9 : decode prog_41_method_6_code 32 = .ok (.dload 4, 2) := by decide +kernel
theorem own_d10 : decode prog_41_method_6_code 34 = .ok (.dreturn, 1) := by decide +kernel
theorem own_d11 : decode prog_41_method_6_code 12 = .ok (.dload 4, 2) := by decide +kernel
theorem own_d12 : decode prog_41_method_6_code 14 = .ok (.aload_n 0, 1) := by decide +kernel
theorem own_d13 : decode prog_41_method_6_code 15 = .ok (.iload 6, 2) := by decide +kernel
theorem own_d14 : decode prog_41_method_6_code 17 = .ok (.daload, 1) := by decide +kernel
theorem own_d15 : decode prog_41_method_6_code 18 = .ok (.aload_n 1, 1) := by decide +kernel
theorem own_d16 : decode prog_41_method_6_code 19 = .ok (.iload 6, 2) := by decide +kernel
theorem own_d17 : decode prog_41_method_6_code 21 = .ok (.daload, 1) := by decide +kernel
theorem own_d18 : decode prog_41_method_6_code 22 = .ok (.dmul, 1) := by decide +kernel
theorem own_d19 : decode prog_41_method_6_code 23 = .ok (.dadd, 1) := by decide +kernel
theorem own_d20 : decode prog_41_method_6_code 24 = .ok (.dstore 4, 2) := by decide +kernel
theorem own_d21 : decode prog_41_method_6_code 26 = .ok (.iinc 6 1, 3) := by decide +kernel
theorem own_d22 : decode prog_41_method_6_code 29 = .ok (.goto (-23), 3) := by decide +kernel
set_option maxHeartbeats 4000000 in
theorem own_ef23 (m : MethodId) (x0 : Int32) (x1 : Int32) (x2 : Int32) (x3 : Int32) (x4 : Int32) : entryFrame m #[(.int x0), (.int x1), (.int x2), (.int x3), (.int x4)] 5 = mkF m 0 #[.val (.int x0), .val (.int x1), .val (.int x2), .val (.int x3), .val (.int x4)] [] := by first | rfl | (simp [entryFrame, mkF, argsToLocals, Value.category]; done)
theorem own_pn24 : plainName "com/example/patokan/patokan/model/AbilityGridMeanPinLaw" = true := by first | (simp [plainName, overriddenIn]; done) | decide +kernel
theorem own_d25 : decode method_3_code 0 = .ok (.iload_n 1, 1) := by decide +kernel
theorem own_d26 : decode method_3_code 1 = .ok (.iload_n 0, 1) := by decide +kernel
theorem own_d27 : decode method_3_code 2 = .ok (.if_icmp .gt 15, 3) := by decide +kernel
theorem own_d28 : decode method_3_code 5 = .ok (.iload_n 0, 1) := by decide +kernel
theorem own_d29 : decode method_3_code 6 = .ok (.iload_n 2, 1) := by decide +kernel
theorem own_d30 : decode method_3_code 7 = .ok (.if_icmp .ge 10, 3) := by decide +kernel
theorem own_d31 : decode method_3_code 10 = .ok (.iload_n 3, 1) := by decide +kernel
theorem own_d32 : decode method_3_code 11 = .ok (.i2l, 1) := by decide +kernel
theorem own_d33 : decode method_3_code 12 = .ok (.iload 4, 2) := by decide +kernel
theorem own_d34 : decode method_3_code 14 = .ok (.i2l, 1) := by decide +kernel
theorem own_d35 : decode method_3_code 15 = .ok (.lmul, 1) := by decide +kernel
theorem own_d36 : decode method_3_code 16 = .ok (.lreturn, 1) := by decide +kernel
theorem own_d37 : decode method_3_code 17 = .ok (.lconst 0, 1) := by decide +kernel
theorem own_d38 : decode method_3_code 18 = .ok (.lreturn, 1) := by decide +kernel
set_option maxHeartbeats 4000000 in
theorem own_ef39 (m : MethodId) (x0 : Int64) (x1 : Int64) (x2 : Int32) : entryFrame m #[(.long x0), (.long x1), (.int x2)] maxLocals = mkF m 0 #[.val (.long x0), .second, .val (.long x1), .second, .val (.int x2), .unset, .unset, .unset, .unset, .unset, .unset, .unset, .unset, .unset, .unset, .unset, .unset, .unset, .unset, .unset, .unset] [] := by first | (simp [entryFrame, mkF, argsToLocals, Value.category, maxLocals]; done) | rfl
theorem own_pd40 : parseMethodDescriptor "([D[DII)D" = some ⟨[(.array .double), (.array .double), .int, .int], some .double⟩ := by decide +kernel
theorem own_pd41 : parseMethodDescriptor "(IIIII)J" = some ⟨[.int, .int, .int, .int, .int], some .long⟩ := by decide +kernel
def QSame (u : Value) (h0 : Heap) (n0 : Nat) (v : Option Value) (h : Heap) (L : List Loc) : Prop := v = some u ∧ Fr n0 L ∧ h = h0
section Flt
open Jvm.FP.Core
/-- a stands for the number m * 2^-16 -/
def Rep (a : UInt64) (m : Int) : Prop := ∃ (sg : Bool) (cc : Nat) (q : Int), val64 a = .fin sg cc q ∧ signed sg cc * 2 ^ (q + 4000).toNat = m * 2 ^ 3984
theorem own_qm : b64.qmin = -1074 ∧ b64.qmax = 971 ∧ b64.p = 53 ∧ b64.tails = 2 ^ 52 := by decide
theorem own_canon (M : Nat) (h0 : 0 < M) (h : M < 2 ^ 53) (sg : Bool) : ∃ (cc : Nat) (q : Int), Jvm.FP.Core.fits b64 (.fin sg cc q) ∧ q ≤ -16 ∧ -1074 ≤ q ∧ cc = M * 2 ^ (-16 - q).toNat := by
  have hl : 2 ^ M.log2 ≤ M := Nat.log2_self_le (by omega)
  have hu : M < 2 ^ (M.log2 + 1) := Nat.lt_log2_self
  have h52 : M.log2 ≤ 52 := by
    have : M.log2 < 53 := (Nat.log2_lt (by omega)).mpr h
    omega
  refine ⟨M * 2 ^ (52 - M.log2), (M.log2 : Int) - 68, ⟨?_, ?_, ?_, Or.inr ?_⟩, by omega, by omega, by congr 2; omega⟩
  · rw [own_qm.2.2.1]
    have e : 2 ^ (M.log2 + 1) * 2 ^ (52 - M.log2) = 2 ^ 53 := by rw [← Nat.pow_add]; congr 1; omega
    rw [← e]
    exact Nat.mul_lt_mul_of_pos_right hu (Nat.two_pow_pos _)
  · rw [own_qm.1]; omega
  · rw [own_qm.2.1]; omega
  · rw [own_qm.2.2.2]
    have e : 2 ^ M.log2 * 2 ^ (52 - M.log2) = 2 ^ 52 := by rw [← Nat.pow_add]; congr 1; omega
    rw [← e]
    exact Nat.mul_le_mul_right _ hl
theorem own_p0 (n : Nat) : (2 : Int) ^ n ≠ 0 := by
  have : (0 : Int) < 2 ^ n := Int.pow_pos (by decide)
  omega
theorem own_rr (sg : Bool) (A : Nat) (q m : Int) (hq : -4000 ≤ q) (hv : signed sg A * 2 ^ (q + 4000).toNat = m * 2 ^ 3984) (hm : m.natAbs < 2 ^ 53) :
    ∃ (cc : Nat) (q' : Int), roundRatio b64 sg A 1 q = .fin sg cc q' ∧ signed sg cc * 2 ^ (q' + 4000).toNat = m * 2 ^ 3984 := by
  have hN : A * 2 ^ (q + 4000).toNat = m.natAbs * 2 ^ 3984 := by
    have e := congrArg Int.natAbs hv
    rw [Int.natAbs_mul, Int.natAbs_mul, natAbs_signed, Int.natAbs_pow, Int.natAbs_pow] at e
    exact e
  have hms : m = signed sg m.natAbs := by
    have e1 : signed sg A * 2 ^ (q + 4000).toNat = signed sg m.natAbs * 2 ^ 3984 := by
      have e2 := congrArg (signed sg) hN
      rw [signed_mul, signed_mul] at e2
      push_cast at e2
      exact e2
    exact Int.eq_of_mul_eq_mul_right (own_p0 3984) (hv.symm.trans e1)
  by_cases h0 : A = 0
  · subst h0
    refine ⟨0, b64.qmin, by simp [roundRatio], ?_⟩
    have hz : m.natAbs = 0 := by
      rw [Nat.zero_mul] at hN
      rcases Nat.mul_eq_zero.mp hN.symm with h | h
      · exact h
      · exact absurd h (Nat.ne_of_gt (Nat.two_pow_pos _))
    rw [show m = 0 by omega, signed_zero]
    simp
  have hM : 0 < m.natAbs := by
    rcases Nat.eq_zero_or_pos m.natAbs with h | h
    · rw [h, Nat.zero_mul] at hN
      rcases Nat.mul_eq_zero.mp hN with h | h
      · exact absurd h h0
      · exact absurd h (Nat.ne_of_gt (Nat.two_pow_pos _))
    · exact h
  obtain ⟨cc, q', hf, h1, h2, hc⟩ := own_canon m.natAbs hM hm sg
  refine ⟨cc, q', ?_, ?_⟩
  · rw [roundRatio_congr (A' := m.natAbs) (B' := 1) (e' := -16) (by decide) (by decide) ?_]
    · exact roundRatio_exact good_b64 (by decide) hf (by rw [hc, show (q' - -16).toNat = 0 by omega]; simp)
    · by_cases hge : -16 ≤ q
      · rw [show (-16 - q).toNat = 0 by omega]
        simp only [Nat.mul_one, Nat.pow_zero]
        refine Nat.eq_of_mul_eq_mul_right (Nat.two_pow_pos 3984) ?_
        rw [← hN, Nat.mul_assoc, ← Nat.pow_add]
        congr 2
        omega
      · rw [show (q - -16).toNat = 0 by omega]
        simp only [Nat.mul_one, Nat.pow_zero]
        refine Nat.eq_of_mul_eq_mul_right (Nat.two_pow_pos (q + 4000).toNat) ?_
        rw [hN, Nat.mul_assoc, ← Nat.pow_add]
        congr 2
        omega
  · rw [hc, signed_mul]
    conv => rhs; rw [hms]
    push_cast
    rw [Int.mul_assoc, ← Int.pow_add]
    congr 2
    omega
theorem Rep.of {a : UInt64} {sg : Bool} {A : Nat} {q m : Int} (e : val64 a = roundRatio b64 sg A 1 q) (hq : -4000 ≤ q) (hv : signed sg A * 2 ^ (q + 4000).toNat = m * 2 ^ 3984) (hm : m.natAbs < 2 ^ 53) : Rep a m := by
  obtain ⟨cc, q', h1, h2⟩ := own_rr sg A q m hq hv hm
  exact ⟨sg, cc, q', e.trans h1, h2⟩
theorem own_qge {a : UInt64} {sg : Bool} {cc : Nat} {q : Int} (h : val64 a = .fin sg cc q) : -1074 ≤ q := by
  have hf := val64_fits a
  rw [h] at hf
  have := hf.2.1
  rw [own_qm.1] at this
  exact this
theorem own_sgn (n : Int) (x y : Bool) : signed (sumSign x y n) n.natAbs = n := by
  unfold sumSign
  by_cases h : n = 0
  · subst h; simp [signed_zero]
  · rw [if_neg h]
    by_cases h2 : n < 0
    · simp only [signed, h2, decide_true, if_true]; omega
    · simp only [signed, h2, decide_false]; simp only [Bool.false_eq_true, if_false]; omega
theorem Rep.add {a b : UInt64} {m k : Int} (Ra : Rep a m) (Rb : Rep b k) (h : (m + k).natAbs < 2 ^ 53) : Rep (Jvm.FP.dadd a b) (m + k) := by
  obtain ⟨s1, c1, q1, e1, v1⟩ := Ra
  obtain ⟨s2, c2, q2, e2, v2⟩ := Rb
  have g1 := own_qge e1
  have g2 := own_qge e2
  have e := val64_dadd a b
  rw [e1, e2] at e
  refine Rep.of (e := e) (by omega) ?_ h
  rw [own_sgn]
  unfold sumUnits inUnits
  rw [signed_mul, signed_mul, Int.add_mul]
  push_cast
  rw [Int.mul_assoc, Int.mul_assoc, ← Int.pow_add, ← Int.pow_add, Int.add_mul, ← v1, ← v2]
  congr 3 <;> omega
theorem own_smul (x y : Bool) (c d : Nat) : signed (x != y) (c * d) = signed x c * signed y d := by
  cases x <;> cases y <;> simp [signed, Int.neg_mul, Int.mul_neg]
theorem Rep.mul {a b : UInt64} {m k : Int} (Ra : Rep a m) (Rb : Rep b (k * 65536)) (h : (m * k).natAbs < 2 ^ 53) : Rep (Jvm.FP.dmul a b) (m * k) := by
  obtain ⟨s1, c1, q1, e1, v1⟩ := Ra
  obtain ⟨s2, c2, q2, e2, v2⟩ := Rb
  have g1 := own_qge e1
  have g2 := own_qge e2
  have e := val64_dmul a b
  rw [e1, e2] at e
  refine Rep.of (e := e) (by omega) ?_ h
  rw [own_smul]
  refine Int.eq_of_mul_eq_mul_right (own_p0 4000) ?_
  have e3 : signed s1 c1 * signed s2 c2 * 2 ^ (q1 + q2 + 4000).toNat * 2 ^ 4000 = (signed s1 c1 * 2 ^ (q1 + 4000).toNat) * (signed s2 c2 * 2 ^ (q2 + 4000).toNat) := by
    have : (2 : Int) ^ (q1 + q2 + 4000).toNat * 2 ^ 4000 = 2 ^ (q1 + 4000).toNat * 2 ^ (q2 + 4000).toNat := by rw [← Int.pow_add, ← Int.pow_add]; congr 1; omega
    rw [Int.mul_assoc, this]
    simp only [Int.mul_assoc, Int.mul_left_comm, Int.mul_comm]
  rw [e3, v1, v2]
  have e4 : (65536 : Int) * 2 ^ 3984 = 2 ^ 4000 := by rw [show (65536 : Int) = 2 ^ 16 by decide, ← Int.pow_add]
  rw [show m * 2 ^ 3984 * (k * 65536 * 2 ^ 3984) = m * k * 2 ^ 3984 * (65536 * 2 ^ 3984) by simp only [Int.mul_assoc, Int.mul_left_comm, Int.mul_comm], e4]
theorem Rep.divK {a : UInt64} {m : Int} (Ra : Rep a (m * 65536)) (h : m.natAbs < 2 ^ 53) : Rep (Jvm.FP.ddiv a 4679240012837945344) m := by
  obtain ⟨s1, c1, q1, e1, v1⟩ := Ra
  have g1 := own_qge e1
  have eK : val64 4679240012837945344 = .fin false (2 ^ 52) (-36) := by decide
  have e := val64_ddiv a 4679240012837945344
  rw [e1, eK] at e
  have e2 : quotient b64 (.fin s1 c1 q1) (.fin false (2 ^ 52) (-36)) = roundRatio b64 s1 c1 1 (q1 - 16) := by
    have e3 : quotient b64 (.fin s1 c1 q1) (.fin false (2 ^ 52) (-36)) = if (2 ^ 52 : Nat) = 0 then (if c1 = 0 then .nan else .inf (s1 != false)) else roundRatio b64 (s1 != false) c1 (2 ^ 52) (q1 - -36) := rfl
    rw [e3, if_neg (by decide), show (s1 != false) = s1 by cases s1 <;> rfl]
    refine roundRatio_congr (by decide) (by decide) ?_
    rw [show (q1 - -36 - (q1 - 16)).toNat = 52 by omega, show (q1 - 16 - (q1 - -36)).toNat = 0 by omega]
    simp
  refine Rep.of (e := e.trans e2) (by omega) ?_ h
  refine Int.eq_of_mul_eq_mul_right (own_p0 16) ?_
  rw [Int.mul_assoc, ← Int.pow_add, show (q1 - 16 + 4000).toNat + 16 = (q1 + 4000).toNat by omega, v1, show (2 : Int) ^ 16 = 65536 by decide]
  simp only [Int.mul_assoc, Int.mul_left_comm, Int.mul_comm]
theorem own_ofInt {a : UInt64} (z : Int) (e : val64 a = round b64 (ofInt z)) (h : (z * 65536).natAbs < 2 ^ 53) : Rep a (z * 65536) := by
  refine Rep.of (sg := decide (z < 0)) (A := z.natAbs) (q := 0) e (by decide) ?_ h
  have e1 : signed (decide (z < 0)) z.natAbs = z := by
    by_cases h2 : z < 0
    · simp only [signed, h2, decide_true, if_true]; omega
    · simp only [signed, h2, decide_false]; simp only [Bool.false_eq_true, if_false]; omega
  rw [e1, show ((0 : Int) + 4000).toNat = 16 + 3984 from rfl, Int.pow_add, show (2 : Int) ^ 16 = 65536 by decide, Int.mul_assoc]
theorem Rep.i2d (x : Int32) : Rep (Jvm.FP.i2d x) (x.toInt * 65536) := own_ofInt _ (val64_i2d x) (by have := x.toInt_lt; have := x.le_toInt; omega)
theorem Rep.l2d (x : Int64) (h : (x.toInt * 65536).natAbs < 2 ^ 53) : Rep (Jvm.FP.l2d x) (x.toInt * 65536) := own_ofInt _ (val64_l2d x) h
theorem Rep.zero : Rep Jvm.FP.dconst0 0 := ⟨false, 0, -1074, by decide, by simp [signed]⟩
theorem Rep.no {a : UInt64} {m : Int} (R : Rep a m) : Jvm.Free.Fl.NoNaN64 a := Jvm.Free.Fl.val64_no.mpr fun z => by
  obtain ⟨_, _, _, e, -⟩ := R
  rw [e] at z
  cases z
theorem Rep.same {a b : UInt64} {m : Int} (Ra : Rep a m) (Rb : Rep b m) : Jvm.FP.dcmp a b = some .eq := by
  obtain ⟨s1, c1, q1, e1, v1⟩ := Ra
  obtain ⟨s2, c2, q2, e2, v2⟩ := Rb
  have g1 := own_qge e1
  have g2 := own_qge e2
  show order (val64 a) (val64 b) = _
  rw [e1, e2]
  show some (compare (signed s1 (inUnits c1 q1 (min q1 q2))) (signed s2 (inUnits c2 q2 (min q1 q2)))) = _
  have e : signed s1 (inUnits c1 q1 (min q1 q2)) = signed s2 (inUnits c2 q2 (min q1 q2)) := by
    refine Int.eq_of_mul_eq_mul_right (own_p0 (min q1 q2 + 4000).toNat) ?_
    unfold inUnits
    rw [signed_mul, signed_mul]
    push_cast
    rw [Int.mul_assoc, Int.mul_assoc, ← Int.pow_add, ← Int.pow_add, show (q1 - min q1 q2).toNat + (min q1 q2 + 4000).toNat = (q1 + 4000).toNat by omega, show (q2 - min q1 q2).toNat + (min q1 q2 + 4000).toNat = (q2 + 4000).toNat by omega, v1, v2]
  rw [e]
  simp [compare, compareOfLessAndEq]
end Flt
theorem own_int {n : Nat} (h : n ≤ 4000) : (Int32.ofNat n).toInt = n := Int32.toInt_ofNat_of_lt (by omega)
theorem own_lt32 {a b : Nat} (h : a < b) (hb : b ≤ 4000) : Int32.ofNat a < Int32.ofNat b := by
  rw [Int32.lt_iff_toInt_lt, own_int hb, own_int (show a ≤ 4000 by omega)]
  omega
theorem own_nle32 {a b : Nat} (h : a ≤ b) (hb : b ≤ 4000) : ¬ Int32.ofNat b < Int32.ofNat a := by
  rw [Int32.lt_iff_toInt_lt, own_int hb, own_int (show a ≤ 4000 by omega)]
  omega
theorem own_nat5 (y : Int32) : ∃ k, ((y &&& (2147483647 : Int32)) % (5 : Int32)) = Int32.ofNat k ∧ k ≤ 4 := by
  have q1 := (c_and y 2147483647 (by decide)).1
  have q2 := (c_irem (y &&& (2147483647 : Int32)) 5 5 rfl).1 q1
  refine ⟨((y &&& (2147483647 : Int32)) % (5 : Int32)).toInt.toNat, ?_, by omega⟩
  apply Int32.toInt_inj.mp
  rw [own_int (show ((y &&& (2147483647 : Int32)) % (5 : Int32)).toInt.toNat ≤ 4000 by omega)]
  omega
def own_tm (k f t : Nat) (z : Int) : Int := if f ≤ k ∧ k < t then z else 0
def own_sum (f t : Nat) (z0 z1 z2 z3 : Int) : Int := own_tm 0 f t z0 + own_tm 1 f t z1 + own_tm 2 f t z2 + own_tm 3 f t z3
def own_tl (k f t : Nat) (z : Int64) : Int64 := if f ≤ k ∧ k < t then z else 0
theorem own_tlI (k f t : Nat) {z : Int64} {y : Int} (h : z.toInt = y) : (own_tl k f t z).toInt = own_tm k f t y := by
  unfold own_tl own_tm
  split
  · exact h
  · rfl
theorem own_tmb (k f t : Nat) {z : Int} (h : z.natAbs ≤ 1073741824) : (own_tm k f t z).natAbs ≤ 1073741824 := by
  unfold own_tm
  split
  · exact h
  · decide
theorem own_ladd {x y : Int64} {a b : Int} (hx : x.toInt = a) (hy : y.toInt = b) (h : (a + b).natAbs ≤ 4294967296) : (x + y).toInt = a + b := by
  rw [Int64.toInt_add, hx, hy, Int.bmod_eq_of_le (by omega) (by omega)]
theorem own_prod {x y : Int32} (hx : -32768 ≤ x.toInt ∧ x.toInt < 32768) (hy : -32768 ≤ y.toInt ∧ y.toInt < 32768) : (x.toInt * y.toInt).natAbs ≤ 1073741824 := by
  rw [Int.natAbs_mul]
  have h1 : x.toInt.natAbs ≤ 32768 := by omega
  have h2 : y.toInt.natAbs ≤ 32768 := by omega
  exact Nat.mul_le_mul h1 h2
theorem own_lmul {x y : Int32} (h : (x.toInt * y.toInt).natAbs ≤ 1073741824) : (x.toInt64 * y.toInt64).toInt = x.toInt * y.toInt := by
  rw [Int64.toInt_mul, Int32.toInt_toInt64, Int32.toInt_toInt64, Int.bmod_eq_of_le (by omega) (by omega)]
theorem own_ref {f t : Nat} {A0 A1 A2 A3 : Int64} {z0 z1 z2 z3 : Int} (e0 : A0.toInt = z0) (e1 : A1.toInt = z1) (e2 : A2.toInt = z2) (e3 : A3.toInt = z3) (h0 : z0.natAbs ≤ 1073741824) (h1 : z1.natAbs ≤ 1073741824) (h2 : z2.natAbs ≤ 1073741824) (h3 : z3.natAbs ≤ 1073741824) :
    (((own_tl 0 f t A0 + own_tl 1 f t A1) + own_tl 2 f t A2) + own_tl 3 f t A3).toInt = own_sum f t z0 z1 z2 z3 ∧ (own_sum f t z0 z1 z2 z3).natAbs ≤ 4294967296 := by
  have b0 := own_tmb 0 f t h0
  have b1 := own_tmb 1 f t h1
  have b2 := own_tmb 2 f t h2
  have b3 := own_tmb 3 f t h3
  have hs : (own_sum f t z0 z1 z2 z3).natAbs ≤ 4294967296 := by unfold own_sum; omega
  refine ⟨?_, hs⟩
  have s1 := own_ladd (own_tlI 0 f t e0) (own_tlI 1 f t e1) (by omega)
  have s2 := own_ladd s1 (own_tlI 2 f t e2) (by omega)
  exact own_ladd s2 (own_tlI 3 f t e3) (by omega)
theorem own_sm_0_0 (z0 z1 z2 z3 : Int) : own_sum 0 0 z0 z1 z2 z3 = 0 := by simp [own_sum, own_tm]
theorem own_sm_0_1 (z0 z1 z2 z3 : Int) : own_sum 0 1 z0 z1 z2 z3 = (0 + z0) := by simp [own_sum, own_tm]
theorem own_sm_0_2 (z0 z1 z2 z3 : Int) : own_sum 0 2 z0 z1 z2 z3 = ((0 + z0) + z1) := by simp [own_sum, own_tm]
theorem own_sm_0_3 (z0 z1 z2 z3 : Int) : own_sum 0 3 z0 z1 z2 z3 = (((0 + z0) + z1) + z2) := by simp [own_sum, own_tm]
theorem own_sm_0_4 (z0 z1 z2 z3 : Int) : own_sum 0 4 z0 z1 z2 z3 = ((((0 + z0) + z1) + z2) + z3) := by simp [own_sum, own_tm]
theorem own_sm_1_0 (z0 z1 z2 z3 : Int) : own_sum 1 0 z0 z1 z2 z3 = 0 := by simp [own_sum, own_tm]
theorem own_sm_1_1 (z0 z1 z2 z3 : Int) : own_sum 1 1 z0 z1 z2 z3 = 0 := by simp [own_sum, own_tm]
theorem own_sm_1_2 (z0 z1 z2 z3 : Int) : own_sum 1 2 z0 z1 z2 z3 = (0 + z1) := by simp [own_sum, own_tm]
theorem own_sm_1_3 (z0 z1 z2 z3 : Int) : own_sum 1 3 z0 z1 z2 z3 = ((0 + z1) + z2) := by simp [own_sum, own_tm]
theorem own_sm_1_4 (z0 z1 z2 z3 : Int) : own_sum 1 4 z0 z1 z2 z3 = (((0 + z1) + z2) + z3) := by simp [own_sum, own_tm]
theorem own_sm_2_0 (z0 z1 z2 z3 : Int) : own_sum 2 0 z0 z1 z2 z3 = 0 := by simp [own_sum, own_tm]
theorem own_sm_2_1 (z0 z1 z2 z3 : Int) : own_sum 2 1 z0 z1 z2 z3 = 0 := by simp [own_sum, own_tm]
theorem own_sm_2_2 (z0 z1 z2 z3 : Int) : own_sum 2 2 z0 z1 z2 z3 = 0 := by simp [own_sum, own_tm]
theorem own_sm_2_3 (z0 z1 z2 z3 : Int) : own_sum 2 3 z0 z1 z2 z3 = (0 + z2) := by simp [own_sum, own_tm]
theorem own_sm_2_4 (z0 z1 z2 z3 : Int) : own_sum 2 4 z0 z1 z2 z3 = ((0 + z2) + z3) := by simp [own_sum, own_tm]
theorem own_sm_3_0 (z0 z1 z2 z3 : Int) : own_sum 3 0 z0 z1 z2 z3 = 0 := by simp [own_sum, own_tm]
theorem own_sm_3_1 (z0 z1 z2 z3 : Int) : own_sum 3 1 z0 z1 z2 z3 = 0 := by simp [own_sum, own_tm]
theorem own_sm_3_2 (z0 z1 z2 z3 : Int) : own_sum 3 2 z0 z1 z2 z3 = 0 := by simp [own_sum, own_tm]
theorem own_sm_3_3 (z0 z1 z2 z3 : Int) : own_sum 3 3 z0 z1 z2 z3 = 0 := by simp [own_sum, own_tm]
theorem own_sm_3_4 (z0 z1 z2 z3 : Int) : own_sum 3 4 z0 z1 z2 z3 = (0 + z3) := by simp [own_sum, own_tm]
theorem own_sm_4_0 (z0 z1 z2 z3 : Int) : own_sum 4 0 z0 z1 z2 z3 = 0 := by simp [own_sum, own_tm]
theorem own_sm_4_1 (z0 z1 z2 z3 : Int) : own_sum 4 1 z0 z1 z2 z3 = 0 := by simp [own_sum, own_tm]
theorem own_sm_4_2 (z0 z1 z2 z3 : Int) : own_sum 4 2 z0 z1 z2 z3 = 0 := by simp [own_sum, own_tm]
theorem own_sm_4_3 (z0 z1 z2 z3 : Int) : own_sum 4 3 z0 z1 z2 z3 = 0 := by simp [own_sum, own_tm]
theorem own_sm_4_4 (z0 z1 z2 z3 : Int) : own_sum 4 4 z0 z1 z2 z3 = 0 := by simp [own_sum, own_tm]
def QMean (f t : Nat) (z0 z1 z2 z3 : Int) (h0 : Heap) (n0 : Nat) (v : Option Value) (h : Heap) (L : List Loc) : Prop := ∃ r : UInt64, v = some (.double r) ∧ Fr n0 L ∧ h = h0 ∧ Rep r (own_sum f t z0 z1 z2 z3)
set_option maxRecDepth 65536 in
set_option maxHeartbeats 40000000 in
theorem rmMean (l : Launch) (Z : State) (a0 : Array Value) (hw : ∀ d ∈ tables_1, d.before a0 Z = true) (wa va : Addr) (kw kv : ClassId) (x0 x1 x2 x3 y0 y1 y2 y3 : UInt64) (z0 z1 z2 z3 : Int) (f t : Nat) (h0 : Heap) (n0 : Nat) (Z0 : n0 ≤ h0.size) (Vwa : Arv Z h0 wa kw .double (4 : Int32) [(.double x0), (.double x1), (.double x2), (.double x3)] (.double (0 : UInt64))) (Vva : Arv Z h0 va kv .double (4 : Int32) [(.double y0), (.double y1), (.double y2), (.double y3)] (.double (0 : UInt64))) (R0 : Rep (Jvm.FP.dmul x0 y0) z0) (R1 : Rep (Jvm.FP.dmul x1 y1) z1) (R2 : Rep (Jvm.FP.dmul x2 y2) z2) (R3 : Rep (Jvm.FP.dmul x3 y3) z3) (b0 : z0.natAbs ≤ 1073741824) (b1 : z1.natAbs ≤ 1073741824) (b2 : z2.natAbs ≤ 1073741824) (b3 : z3.natAbs ≤ 1073741824) (hf : f ≤ 4) (ht : t ≤ 4) :
    MetFree l (⟨"com/example/patokan/patokan/model/AbilityGrid", "mean", "([D[DII)D"⟩ : MethodName) (head1 [Jvm.Cond.code (⟨"com/example/patokan/patokan/model/AbilityGrid", "mean", "([D[DII)D"⟩ : MethodName) prog_41_method_6_code 7 (some .double)] ({ frames := 0, cells := 0, slots := 0, locals := 0 } : Room)) (fun aa U => aa = #[(.ref wa), (.ref va), (.int (Int32.ofNat f)), (.int (Int32.ofNat t))] ∧ Z.Warmed39 U.vm ∧ U.heap = h0) (fun _ _ _ _ _ => True) (fun _ U o U' => ∃ v L, o = .returned v ∧ QMean f t z0 z1 z2 z3 h0 n0 v U'.heap L ∧ FrameEnd U o U' L ({ frames := 0, cells := 0, slots := 0, locals := 0 } : Room).cells ({ frames := 0, cells := 0, slots := 0, locals := 0 } : Room).slots) := by
  refine MetFree.of_bodySF (plainFor_of_name own_pn1) hisR ?_
  intro p e s m args below meth c s₁ Bd hml0 hP hK
  obtain ⟨rfl, hZ, hh⟩ := hP
  have hx := Bd.exec
  have hby := Bd.bytes
  have hml : c.maxLocals = 7 := hml0
  have hown : s.vm.findClass "com/example/patokan/patokan/model/AbilityGrid" = some m.cls := findClass_of_methodNamed Bd.named
  have hnm := (name_of_methodNamed Bd.named Bd.method).1
  have X0 : Stand p l e ({ frames := 0, cells := 0, slots := 0, locals := 0 } : Room) s m #[(.ref wa), (.ref va), (.int (Int32.ofNat f)), (.int (Int32.ofNat t))] below meth c s₁ [] 0 0 := Stand.of_body Bd
  have e0 : s₁.heap = h0 := by rw [← hh, Bd.state]; rfl
  have N0 := Fr.nil n0
  have K0 : Keep h0 h0 [] := Keep.refl _ _
  show GoOn p e below (s₁.setTop (entryFrame m #[(.ref wa), (.ref va), (.int (Int32.ofNat f)), (.int (Int32.ofNat t))] 7)) (PostN s (QMean f t z0 z1 z2 z3 h0 n0) ({ frames := 0, cells := 0, slots := 0, locals := 0 } : Room).cells ({ frames := 0, cells := 0, slots := 0, locals := 0 } : Room).slots)
  refine GoOn.step (fun tq kq => castTop (own_ef0 m wa va (Int32.ofNat f) (Int32.ofNat t)) kq) ?_
  show GoOn p e below (s₁.setTop (mkF m 0 #[.val (.ref wa), .val (.ref va), .val (.int (Int32.ofNat f)), .val (.int (Int32.ofNat t)), .unset, .unset, .unset] [])) _
  have hf' : f = 0 ∨ f = 1 ∨ f = 2 ∨ f = 3 ∨ f = 4 := by omega
  have ht' : t = 0 ∨ t = 1 ∨ t = 2 ∨ t = 3 ∨ t = 4 := by omega
  rcases hf' with rfl | rfl | rfl | rfl | rfl <;> rcases ht' with rfl | rfl | rfl | rfl | rfl
  · skip
    show GoOn p e below (s₁.setTop (mkF m 0 #[.val (.ref wa), .val (.ref va), .val (.int (Int32.ofNat 0)), .val (.int (Int32.ofNat 0)), .unset, .unset, .unset] [])) _
    refine GoOn.step (fun tq kq => XS.dconst0 X0.here hx rfl (hb hby own_d2) (v := Jvm.FP.dconst0) rfl kq) ?_
    show GoOn p e below (s₁.setTop (mkF m 1 #[.val (.ref wa), .val (.ref va), .val (.int (Int32.ofNat 0)), .val (.int (Int32.ofNat 0)), .unset, .unset, .unset] [(.double Jvm.FP.dconst0)])) _
    refine GoOn.step (fun tq kq => XS.dstore X0.here hx rfl (hb hby own_d3) rfl (l' := #[.val (.ref wa), .val (.ref va), .val (.int (Int32.ofNat 0)), .val (.int (Int32.ofNat 0)), .val (.double Jvm.FP.dconst0), .second, .unset]) rfl kq) ?_
    show GoOn p e below (s₁.setTop (mkF m 3 #[.val (.ref wa), .val (.ref va), .val (.int (Int32.ofNat 0)), .val (.int (Int32.ofNat 0)), .val (.double Jvm.FP.dconst0), .second, .unset] [])) _
    refine GoOn.step (fun tq kq => XS.iloadN X0.here hx rfl (hb hby own_d4) rfl kq) ?_
    show GoOn p e below (s₁.setTop (mkF m 4 #[.val (.ref wa), .val (.ref va), .val (.int (Int32.ofNat 0)), .val (.int (Int32.ofNat 0)), .val (.double Jvm.FP.dconst0), .second, .unset] [(.int (Int32.ofNat 0))])) _
    refine GoOn.step (fun tq kq => XS.istore X0.here hx rfl (hb hby own_d5) rfl (l' := #[.val (.ref wa), .val (.ref va), .val (.int (Int32.ofNat 0)), .val (.int (Int32.ofNat 0)), .val (.double Jvm.FP.dconst0), .second, .val (.int (Int32.ofNat 0))]) rfl kq) ?_
    show GoOn p e below (s₁.setTop (mkF m 6 #[.val (.ref wa), .val (.ref va), .val (.int (Int32.ofNat 0)), .val (.int (Int32.ofNat 0)), .val (.double Jvm.FP.dconst0), .second, .val (.int (Int32.ofNat 0))] [])) _
    refine GoOn.step (fun tq kq => XS.iload X0.here hx rfl (hb hby own_d6) rfl kq) ?_
    show GoOn p e below (s₁.setTop (mkF m 8 #[.val (.ref wa), .val (.ref va), .val (.int (Int32.ofNat 0)), .val (.int (Int32.ofNat 0)), .val (.double Jvm.FP.dconst0), .second, .val (.int (Int32.ofNat 0))] [(.int (Int32.ofNat 0))])) _
    refine GoOn.step (fun tq kq => XS.iloadN X0.here hx rfl (hb hby own_d7) rfl kq) ?_
    show GoOn p e below (s₁.setTop (mkF m 9 #[.val (.ref wa), .val (.ref va), .val (.int (Int32.ofNat 0)), .val (.int (Int32.ofNat 0)), .val (.double Jvm.FP.dconst0), .second, .val (.int (Int32.ofNat 0))] [(.int (Int32.ofNat 0)), (.int (Int32.ofNat 0))])) _
    refine GoOn.step (fun tq kq => XS.icmpYes X0.here hx rfl (pc0 := 9) (pc' := 32) rfl (hb hby own_d8) rfl (flt (by decide)).2.1 (by decide) (by decide) kq) ?_
    show GoOn p e below (s₁.setTop (mkF m 32 #[.val (.ref wa), .val (.ref va), .val (.int (Int32.ofNat 0)), .val (.int (Int32.ofNat 0)), .val (.double Jvm.FP.dconst0), .second, .val (.int (Int32.ofNat 0))] [])) _
    refine GoOn.step (fun tq kq => XS.dload X0.here hx rfl (hb hby own_d9) rfl kq) ?_
    show GoOn p e below (s₁.setTop (mkF m 34 #[.val (.ref wa), .val (.ref va), .val (.int (Int32.ofNat 0)), .val (.int (Int32.ofNat 0)), .val (.double Jvm.FP.dconst0), .second, .val (.int (Int32.ofNat 0))] [(.double Jvm.FP.dconst0)])) _
    refine GoOn.ret X0 Bd.notSynchronized (v := some (.double Jvm.FP.dconst0)) (fun h => by rw [Bd.returns] at h; cases h) (fun fs hr => retOut X0 hx Bd.returns rfl (Or.inr (Or.inr (Or.inl ⟨rfl, rfl, _, rfl⟩))) (hb hby own_d10) hr) (by decide) (by decide) ?_
    rw [e0]
    exact ⟨_, rfl, N0, rfl, by rw [own_sm_0_0]; exact Rep.zero⟩
  · skip
    show GoOn p e below (s₁.setTop (mkF m 0 #[.val (.ref wa), .val (.ref va), .val (.int (Int32.ofNat 0)), .val (.int (Int32.ofNat 1)), .unset, .unset, .unset] [])) _
    refine GoOn.step (fun tq kq => XS.dconst0 X0.here hx rfl (hb hby own_d2) (v := Jvm.FP.dconst0) rfl kq) ?_
    show GoOn p e below (s₁.setTop (mkF m 1 #[.val (.ref wa), .val (.ref va), .val (.int (Int32.ofNat 0)), .val (.int (Int32.ofNat 1)), .unset, .unset, .unset] [(.double Jvm.FP.dconst0)])) _
    refine GoOn.step (fun tq kq => XS.dstore X0.here hx rfl (hb hby own_d3) rfl (l' := #[.val (.ref wa), .val (.ref va), .val (.int (Int32.ofNat 0)), .val (.int (Int32.ofNat 1)), .val (.double Jvm.FP.dconst0), .second, .unset]) rfl kq) ?_
    show GoOn p e below (s₁.setTop (mkF m 3 #[.val (.ref wa), .val (.ref va), .val (.int (Int32.ofNat 0)), .val (.int (Int32.ofNat 1)), .val (.double Jvm.FP.dconst0), .second, .unset] [])) _
    refine GoOn.step (fun tq kq => XS.iloadN X0.here hx rfl (hb hby own_d4) rfl kq) ?_
    show GoOn p e below (s₁.setTop (mkF m 4 #[.val (.ref wa), .val (.ref va), .val (.int (Int32.ofNat 0)), .val (.int (Int32.ofNat 1)), .val (.double Jvm.FP.dconst0), .second, .unset] [(.int (Int32.ofNat 0))])) _
    refine GoOn.step (fun tq kq => XS.istore X0.here hx rfl (hb hby own_d5) rfl (l' := #[.val (.ref wa), .val (.ref va), .val (.int (Int32.ofNat 0)), .val (.int (Int32.ofNat 1)), .val (.double Jvm.FP.dconst0), .second, .val (.int (Int32.ofNat 0))]) rfl kq) ?_
    show GoOn p e below (s₁.setTop (mkF m 6 #[.val (.ref wa), .val (.ref va), .val (.int (Int32.ofNat 0)), .val (.int (Int32.ofNat 1)), .val (.double Jvm.FP.dconst0), .second, .val (.int (Int32.ofNat 0))] [])) _
    refine GoOn.step (fun tq kq => XS.iload X0.here hx rfl (hb hby own_d6) rfl kq) ?_
    show GoOn p e below (s₁.setTop (mkF m 8 #[.val (.ref wa), .val (.ref va), .val (.int (Int32.ofNat 0)), .val (.int (Int32.ofNat 1)), .val (.double Jvm.FP.dconst0), .second, .val (.int (Int32.ofNat 0))] [(.int (Int32.ofNat 0))])) _
    refine GoOn.step (fun tq kq => XS.iloadN X0.here hx rfl (hb hby own_d7) rfl kq) ?_
    show GoOn p e below (s₁.setTop (mkF m 9 #[.val (.ref wa), .val (.ref va), .val (.int (Int32.ofNat 0)), .val (.int (Int32.ofNat 1)), .val (.double Jvm.FP.dconst0), .second, .val (.int (Int32.ofNat 0))] [(.int (Int32.ofNat 1)), (.int (Int32.ofNat 0))])) _
    refine GoOn.step (fun tq kq => XS.icmpNo X0.here hx rfl (hb hby own_d8) rfl (tlt (by decide)).2.1 kq) ?_
    show GoOn p e below (s₁.setTop (mkF m 12 #[.val (.ref wa), .val (.ref va), .val (.int (Int32.ofNat 0)), .val (.int (Int32.ofNat 1)), .val (.double Jvm.FP.dconst0), .second, .val (.int (Int32.ofNat 0))] [])) _
    refine GoOn.step (fun tq kq => XS.dload X0.here hx rfl (hb hby own_d11) rfl kq) ?_
    show GoOn p e below (s₁.setTop (mkF m 14 #[.val (.ref wa), .val (.ref va), .val (.int (Int32.ofNat 0)), .val (.int (Int32.ofNat 1)), .val (.double Jvm.FP.dconst0), .second, .val (.int (Int32.ofNat 0))] [(.double Jvm.FP.dconst0)])) _
    refine GoOn.step (fun tq kq => XS.aloadN X0.here hx rfl (hb hby own_d12) rfl rfl kq) ?_
    show GoOn p e below (s₁.setTop (mkF m 15 #[.val (.ref wa), .val (.ref va), .val (.int (Int32.ofNat 0)), .val (.int (Int32.ofNat 1)), .val (.double Jvm.FP.dconst0), .second, .val (.int (Int32.ofNat 0))] [(.ref wa), (.double Jvm.FP.dconst0)])) _
    refine GoOn.step (fun tq kq => XS.iload X0.here hx rfl (hb hby own_d13) rfl kq) ?_
    show GoOn p e below (s₁.setTop (mkF m 17 #[.val (.ref wa), .val (.ref va), .val (.int (Int32.ofNat 0)), .val (.int (Int32.ofNat 1)), .val (.double Jvm.FP.dconst0), .second, .val (.int (Int32.ofNat 0))] [(.int (Int32.ofNat 0)), (.ref wa), (.double Jvm.FP.dconst0)])) _
    obtain ⟨cq1, Aq1, qq1, Sq1, Mq1, Hq1, Uq1⟩ := id Vwa
    refine GoOn.step (fun tq kq => X0.daload hx (j := (Int32.ofNat 0)) (v := (.double x0)) (by rw [e0]; exact Aq1.1) (State.isArrayOf_alike hZ.alike Aq1.2.1) Aq1.2.2 (inb_of Sq1 (by decide)) (Hq1.at (inb_of Sq1 (by decide)) rfl) (g := (mkF m 17 #[.val (.ref wa), .val (.ref va), .val (.int (Int32.ofNat 0)), .val (.int (Int32.ofNat 1)), .val (.double Jvm.FP.dconst0), .second, .val (.int (Int32.ofNat 0))] [(.int (Int32.ofNat 0)), (.ref wa), (.double Jvm.FP.dconst0)])) rfl rfl (hb hby own_d14) _ kq) ?_
    show GoOn p e below (s₁.setTop (mkF m 18 #[.val (.ref wa), .val (.ref va), .val (.int (Int32.ofNat 0)), .val (.int (Int32.ofNat 1)), .val (.double Jvm.FP.dconst0), .second, .val (.int (Int32.ofNat 0))] [(.double x0), (.double Jvm.FP.dconst0)])) _
    refine GoOn.step (fun tq kq => XS.aloadN X0.here hx rfl (hb hby own_d15) rfl rfl kq) ?_
    show GoOn p e below (s₁.setTop (mkF m 19 #[.val (.ref wa), .val (.ref va), .val (.int (Int32.ofNat 0)), .val (.int (Int32.ofNat 1)), .val (.double Jvm.FP.dconst0), .second, .val (.int (Int32.ofNat 0))] [(.ref va), (.double x0), (.double Jvm.FP.dconst0)])) _
    refine GoOn.step (fun tq kq => XS.iload X0.here hx rfl (hb hby own_d16) rfl kq) ?_
    show GoOn p e below (s₁.setTop (mkF m 21 #[.val (.ref wa), .val (.ref va), .val (.int (Int32.ofNat 0)), .val (.int (Int32.ofNat 1)), .val (.double Jvm.FP.dconst0), .second, .val (.int (Int32.ofNat 0))] [(.int (Int32.ofNat 0)), (.ref va), (.double x0), (.double Jvm.FP.dconst0)])) _
    obtain ⟨cq2, Aq2, qq2, Sq2, Mq2, Hq2, Uq2⟩ := id Vva
    refine GoOn.step (fun tq kq => X0.daload hx (j := (Int32.ofNat 0)) (v := (.double y0)) (by rw [e0]; exact Aq2.1) (State.isArrayOf_alike hZ.alike Aq2.2.1) Aq2.2.2 (inb_of Sq2 (by decide)) (Hq2.at (inb_of Sq2 (by decide)) rfl) (g := (mkF m 21 #[.val (.ref wa), .val (.ref va), .val (.int (Int32.ofNat 0)), .val (.int (Int32.ofNat 1)), .val (.double Jvm.FP.dconst0), .second, .val (.int (Int32.ofNat 0))] [(.int (Int32.ofNat 0)), (.ref va), (.double x0), (.double Jvm.FP.dconst0)])) rfl rfl (hb hby own_d17) _ kq) ?_
    show GoOn p e below (s₁.setTop (mkF m 22 #[.val (.ref wa), .val (.ref va), .val (.int (Int32.ofNat 0)), .val (.int (Int32.ofNat 1)), .val (.double Jvm.FP.dconst0), .second, .val (.int (Int32.ofNat 0))] [(.double y0), (.double x0), (.double Jvm.FP.dconst0)])) _
    refine GoOn.step (fun tq kq => XS.dmulS X0.here hx rfl (hb hby own_d18) rfl R0.no (v := (Jvm.FP.dmul x0 y0)) rfl kq) ?_
    show GoOn p e below (s₁.setTop (mkF m 23 #[.val (.ref wa), .val (.ref va), .val (.int (Int32.ofNat 0)), .val (.int (Int32.ofNat 1)), .val (.double Jvm.FP.dconst0), .second, .val (.int (Int32.ofNat 0))] [(.double (Jvm.FP.dmul x0 y0)), (.double Jvm.FP.dconst0)])) _
    have P3 : Rep (Jvm.FP.dadd Jvm.FP.dconst0 (Jvm.FP.dmul x0 y0)) (0 + z0) := Rep.add Rep.zero R0 (by omega)
    refine GoOn.step (fun tq kq => XS.daddS X0.here hx rfl (hb hby own_d19) rfl P3.no (v := (Jvm.FP.dadd Jvm.FP.dconst0 (Jvm.FP.dmul x0 y0))) rfl kq) ?_
    show GoOn p e below (s₁.setTop (mkF m 24 #[.val (.ref wa), .val (.ref va), .val (.int (Int32.ofNat 0)), .val (.int (Int32.ofNat 1)), .val (.double Jvm.FP.dconst0), .second, .val (.int (Int32.ofNat 0))] [(.double (Jvm.FP.dadd Jvm.FP.dconst0 (Jvm.FP.dmul x0 y0)))])) _
    refine GoOn.step (fun tq kq => XS.dstore X0.here hx rfl (hb hby own_d20) rfl (l' := #[.val (.ref wa), .val (.ref va), .val (.int (Int32.ofNat 0)), .val (.int (Int32.ofNat 1)), .val (.double (Jvm.FP.dadd Jvm.FP.dconst0 (Jvm.FP.dmul x0 y0))), .second, .val (.int (Int32.ofNat 0))]) rfl kq) ?_
    show GoOn p e below (s₁.setTop (mkF m 26 #[.val (.ref wa), .val (.ref va), .val (.int (Int32.ofNat 0)), .val (.int (Int32.ofNat 1)), .val (.double (Jvm.FP.dadd Jvm.FP.dconst0 (Jvm.FP.dmul x0 y0))), .second, .val (.int (Int32.ofNat 0))] [])) _
    refine GoOn.step (fun tq kq => XS.iinc X0.here hx rfl (hb hby own_d21) rfl (l' := #[.val (.ref wa), .val (.ref va), .val (.int (Int32.ofNat 0)), .val (.int (Int32.ofNat 1)), .val (.double (Jvm.FP.dadd Jvm.FP.dconst0 (Jvm.FP.dmul x0 y0))), .second, .val (.int ((Int32.ofNat 0) + Int32.ofInt 1))]) rfl kq) ?_
    show GoOn p e below (s₁.setTop (mkF m 29 #[.val (.ref wa), .val (.ref va), .val (.int (Int32.ofNat 0)), .val (.int (Int32.ofNat 1)), .val (.double (Jvm.FP.dadd Jvm.FP.dconst0 (Jvm.FP.dmul x0 y0))), .second, .val (.int ((Int32.ofNat 0) + Int32.ofInt 1))] [])) _
    refine GoOn.step (fun tq kq => XS.goto X0.here hx rfl (pc0 := 29) (pc' := 6) rfl (hb hby own_d22) (by decide) (by decide) kq) ?_
    show GoOn p e below (s₁.setTop (mkF m 6 #[.val (.ref wa), .val (.ref va), .val (.int (Int32.ofNat 0)), .val (.int (Int32.ofNat 1)), .val (.double (Jvm.FP.dadd Jvm.FP.dconst0 (Jvm.FP.dmul x0 y0))), .second, .val (.int ((Int32.ofNat 0) + Int32.ofInt 1))] [])) _
    refine GoOn.step (fun tq kq => XS.iload X0.here hx rfl (hb hby own_d6) rfl kq) ?_
    show GoOn p e below (s₁.setTop (mkF m 8 #[.val (.ref wa), .val (.ref va), .val (.int (Int32.ofNat 0)), .val (.int (Int32.ofNat 1)), .val (.double (Jvm.FP.dadd Jvm.FP.dconst0 (Jvm.FP.dmul x0 y0))), .second, .val (.int ((Int32.ofNat 0) + Int32.ofInt 1))] [(.int ((Int32.ofNat 0) + Int32.ofInt 1))])) _
    refine GoOn.step (fun tq kq => XS.iloadN X0.here hx rfl (hb hby own_d7) rfl kq) ?_
    show GoOn p e below (s₁.setTop (mkF m 9 #[.val (.ref wa), .val (.ref va), .val (.int (Int32.ofNat 0)), .val (.int (Int32.ofNat 1)), .val (.double (Jvm.FP.dadd Jvm.FP.dconst0 (Jvm.FP.dmul x0 y0))), .second, .val (.int ((Int32.ofNat 0) + Int32.ofInt 1))] [(.int (Int32.ofNat 1)), (.int ((Int32.ofNat 0) + Int32.ofInt 1))])) _
    refine GoOn.step (fun tq kq => XS.icmpYes X0.here hx rfl (pc0 := 9) (pc' := 32) rfl (hb hby own_d8) rfl (flt (by decide)).2.1 (by decide) (by decide) kq) ?_
    show GoOn p e below (s₁.setTop (mkF m 32 #[.val (.ref wa), .val (.ref va), .val (.int (Int32.ofNat 0)), .val (.int (Int32.ofNat 1)), .val (.double (Jvm.FP.dadd Jvm.FP.dconst0 (Jvm.FP.dmul x0 y0))), .second, .val (.int ((Int32.ofNat 0) + Int32.ofInt 1))] [])) _
    refine GoOn.step (fun tq kq => XS.dload X0.here hx rfl (hb hby own_d9) rfl kq) ?_
    show GoOn p e below (s₁.setTop (mkF m 34 #[.val (.ref wa), .val (.ref va), .val (.int (Int32.ofNat 0)), .val (.int (Int32.ofNat 1)), .val (.double (Jvm.FP.dadd Jvm.FP.dconst0 (Jvm.FP.dmul x0 y0))), .second, .val (.int ((Int32.ofNat 0) + Int32.ofInt 1))] [(.double (Jvm.FP.dadd Jvm.FP.dconst0 (Jvm.FP.dmul x0 y0)))])) _
    refine GoOn.ret X0 Bd.notSynchronized (v := some (.double (Jvm.FP.dadd Jvm.FP.dconst0 (Jvm.FP.dmul x0 y0)))) (fun h => by rw [Bd.returns] at h; cases h) (fun fs hr => retOut X0 hx Bd.returns rfl (Or.inr (Or.inr (Or.inl ⟨rfl, rfl, _, rfl⟩))) (hb hby own_d10) hr) (by decide) (by decide) ?_
    rw [e0]
    exact ⟨_, rfl, N0, rfl, by rw [own_sm_0_1]; exact P3⟩
  · skip
    show GoOn p e below (s₁.setTop (mkF m 0 #[.val (.ref wa), .val (.ref va), .val (.int (Int32.ofNat 0)), .val (.int (Int32.ofNat 2)), .unset, .unset, .unset] [])) _
    refine GoOn.step (fun tq kq => XS.dconst0 X0.here hx rfl (hb hby own_d2) (v := Jvm.FP.dconst0) rfl kq) ?_
    show GoOn p e below (s₁.setTop (mkF m 1 #[.val (.ref wa), .val (.ref va), .val (.int (Int32.ofNat 0)), .val (.int (Int32.ofNat 2)), .unset, .unset, .unset] [(.double Jvm.FP.dconst0)])) _
    refine GoOn.step (fun tq kq => XS.dstore X0.here hx rfl (hb hby own_d3) rfl (l' := #[.val (.ref wa), .val (.ref va), .val (.int (Int32.ofNat 0)), .val (.int (Int32.ofNat 2)), .val (.double Jvm.FP.dconst0), .second, .unset]) rfl kq) ?_
    show GoOn p e below (s₁.setTop (mkF m 3 #[.val (.ref wa), .val (.ref va), .val (.int (Int32.ofNat 0)), .val (.int (Int32.ofNat 2)), .val (.double Jvm.FP.dconst0), .second, .unset] [])) _
    refine GoOn.step (fun tq kq => XS.iloadN X0.here hx rfl (hb hby own_d4) rfl kq) ?_
    show GoOn p e below (s₁.setTop (mkF m 4 #[.val (.ref wa), .val (.ref va), .val (.int (Int32.ofNat 0)), .val (.int (Int32.ofNat 2)), .val (.double Jvm.FP.dconst0), .second, .unset] [(.int (Int32.ofNat 0))])) _
    refine GoOn.step (fun tq kq => XS.istore X0.here hx rfl (hb hby own_d5) rfl (l' := #[.val (.ref wa), .val (.ref va), .val (.int (Int32.ofNat 0)), .val (.int (Int32.ofNat 2)), .val (.double Jvm.FP.dconst0), .second, .val (.int (Int32.ofNat 0))]) rfl kq) ?_
    show GoOn p e below (s₁.setTop (mkF m 6 #[.val (.ref wa), .val (.ref va), .val (.int (Int32.ofNat 0)), .val (.int (Int32.ofNat 2)), .val (.double Jvm.FP.dconst0), .second, .val (.int (Int32.ofNat 0))] [])) _
    refine GoOn.step (fun tq kq => XS.iload X0.here hx rfl (hb hby own_d6) rfl kq) ?_
    show GoOn p e below (s₁.setTop (mkF m 8 #[.val (.ref wa), .val (.ref va), .val (.int (Int32.ofNat 0)), .val (.int (Int32.ofNat 2)), .val (.double Jvm.FP.dconst0), .second, .val (.int (Int32.ofNat 0))] [(.int (Int32.ofNat 0))])) _
    refine GoOn.step (fun tq kq => XS.iloadN X0.here hx rfl (hb hby own_d7) rfl kq) ?_
    show GoOn p e below (s₁.setTop (mkF m 9 #[.val (.ref wa), .val (.ref va), .val (.int (Int32.ofNat 0)), .val (.int (Int32.ofNat 2)), .val (.double Jvm.FP.dconst0), .second, .val (.int (Int32.ofNat 0))] [(.int (Int32.ofNat 2)), (.int (Int32.ofNat 0))])) _
    refine GoOn.step (fun tq kq => XS.icmpNo X0.here hx rfl (hb hby own_d8) rfl (tlt (by decide)).2.1 kq) ?_
    show GoOn p e below (s₁.setTop (mkF m 12 #[.val (.ref wa), .val (.ref va), .val (.int (Int32.ofNat 0)), .val (.int (Int32.ofNat 2)), .val (.double Jvm.FP.dconst0), .second, .val (.int (Int32.ofNat 0))] [])) _
    refine GoOn.step (fun tq kq => XS.dload X0.here hx rfl (hb hby own_d11) rfl kq) ?_
    show GoOn p e below (s₁.setTop (mkF m 14 #[.val (.ref wa), .val (.ref va), .val (.int (Int32.ofNat 0)), .val (.int (Int32.ofNat 2)), .val (.double Jvm.FP.dconst0), .second, .val (.int (Int32.ofNat 0))] [(.double Jvm.FP.dconst0)])) _
    refine GoOn.step (fun tq kq => XS.aloadN X0.here hx rfl (hb hby own_d12) rfl rfl kq) ?_
    show GoOn p e below (s₁.setTop (mkF m 15 #[.val (.ref wa), .val (.ref va), .val (.int (Int32.ofNat 0)), .val (.int (Int32.ofNat 2)), .val (.double Jvm.FP.dconst0), .second, .val (.int (Int32.ofNat 0))] [(.ref wa), (.double Jvm.FP.dconst0)])) _
    refine GoOn.step (fun tq kq => XS.iload X0.here hx rfl (hb hby own_d13) rfl kq) ?_
    show GoOn p e below (s₁.setTop (mkF m 17 #[.val (.ref wa), .val (.ref va), .val (.int (Int32.ofNat 0)), .val (.int (Int32.ofNat 2)), .val (.double Jvm.FP.dconst0), .second, .val (.int (Int32.ofNat 0))] [(.int (Int32.ofNat 0)), (.ref wa), (.double Jvm.FP.dconst0)])) _
    obtain ⟨cq4, Aq4, qq4, Sq4, Mq4, Hq4, Uq4⟩ := id Vwa
    refine GoOn.step (fun tq kq => X0.daload hx (j := (Int32.ofNat 0)) (v := (.double x0)) (by rw [e0]; exact Aq4.1) (State.isArrayOf_alike hZ.alike Aq4.2.1) Aq4.2.2 (inb_of Sq4 (by decide)) (Hq4.at (inb_of Sq4 (by decide)) rfl) (g := (mkF m 17 #[.val (.ref wa), .val (.ref va), .val (.int (Int32.ofNat 0)), .val (.int (Int32.ofNat 2)), .val (.double Jvm.FP.dconst0), .second, .val (.int (Int32.ofNat 0))] [(.int (Int32.ofNat 0)), (.ref wa), (.double Jvm.FP.dconst0)])) rfl rfl (hb hby own_d14) _ kq) ?_
    show GoOn p e below (s₁.setTop (mkF m 18 #[.val (.ref wa), .val (.ref va), .val (.int (Int32.ofNat 0)), .val (.int (Int32.ofNat 2)), .val (.double Jvm.FP.dconst0), .second, .val (.int (Int32.ofNat 0))] [(.double x0), (.double Jvm.FP.dconst0)])) _
    refine GoOn.step (fun tq kq => XS.aloadN X0.here hx rfl (hb hby own_d15) rfl rfl kq) ?_
    show GoOn p e below (s₁.setTop (mkF m 19 #[.val (.ref wa), .val (.ref va), .val (.int (Int32.ofNat 0)), .val (.int (Int32.ofNat 2)), .val (.double Jvm.FP.dconst0), .second, .val (.int (Int32.ofNat 0))] [(.ref va), (.double x0), (.double Jvm.FP.dconst0)])) _
    refine GoOn.step (fun tq kq => XS.iload X0.here hx rfl (hb hby own_d16) rfl kq) ?_
    show GoOn p e below (s₁.setTop (mkF m 21 #[.val (.ref wa), .val (.ref va), .val (.int (Int32.ofNat 0)), .val (.int (Int32.ofNat 2)), .val (.double Jvm.FP.dconst0), .second, .val (.int (Int32.ofNat 0))] [(.int (Int32.ofNat 0)), (.ref va), (.double x0), (.double Jvm.FP.dconst0)])) _
    obtain ⟨cq5, Aq5, qq5, Sq5, Mq5, Hq5, Uq5⟩ := id Vva
    refine GoOn.step (fun tq kq => X0.daload hx (j := (Int32.ofNat 0)) (v := (.double y0)) (by rw [e0]; exact Aq5.1) (State.isArrayOf_alike hZ.alike Aq5.2.1) Aq5.2.2 (inb_of Sq5 (by decide)) (Hq5.at (inb_of Sq5 (by decide)) rfl) (g := (mkF m 21 #[.val (.ref wa), .val (.ref va), .val (.int (Int32.ofNat 0)), .val (.int (Int32.ofNat 2)), .val (.double Jvm.FP.dconst0), .second, .val (.int (Int32.ofNat 0))] [(.int (Int32.ofNat 0)), (.ref va), (.double x0), (.double Jvm.FP.dconst0)])) rfl rfl (hb hby own_d17) _ kq) ?_
    show GoOn p e below (s₁.setTop (mkF m 22 #[.val (.ref wa), .val (.ref va), .val (.int (Int32.ofNat 0)), .val (.int (Int32.ofNat 2)), .val (.double Jvm.FP.dconst0), .second, .val (.int (Int32.ofNat 0))] [(.double y0), (.double x0), (.double Jvm.FP.dconst0)])) _
    refine GoOn.step (fun tq kq => XS.dmulS X0.here hx rfl (hb hby own_d18) rfl R0.no (v := (Jvm.FP.dmul x0 y0)) rfl kq) ?_
    show GoOn p e below (s₁.setTop (mkF m 23 #[.val (.ref wa), .val (.ref va), .val (.int (Int32.ofNat 0)), .val (.int (Int32.ofNat 2)), .val (.double Jvm.FP.dconst0), .second, .val (.int (Int32.ofNat 0))] [(.double (Jvm.FP.dmul x0 y0)), (.double Jvm.FP.dconst0)])) _
    have P6 : Rep (Jvm.FP.dadd Jvm.FP.dconst0 (Jvm.FP.dmul x0 y0)) (0 + z0) := Rep.add Rep.zero R0 (by omega)
    refine GoOn.step (fun tq kq => XS.daddS X0.here hx rfl (hb hby own_d19) rfl P6.no (v := (Jvm.FP.dadd Jvm.FP.dconst0 (Jvm.FP.dmul x0 y0))) rfl kq) ?_
    show GoOn p e below (s₁.setTop (mkF m 24 #[.val (.ref wa), .val (.ref va), .val (.int (Int32.ofNat 0)), .val (.int (Int32.ofNat 2)), .val (.double Jvm.FP.dconst0), .second, .val (.int (Int32.ofNat 0))] [(.double (Jvm.FP.dadd Jvm.FP.dconst0 (Jvm.FP.dmul x0 y0)))])) _
    refine GoOn.step (fun tq kq => XS.dstore X0.here hx rfl (hb hby own_d20) rfl (l' := #[.val (.ref wa), .val (.ref va), .val (.int (Int32.ofNat 0)), .val (.int (Int32.ofNat 2)), .val (.double (Jvm.FP.dadd Jvm.FP.dconst0 (Jvm.FP.dmul x0 y0))), .second, .val (.int (Int32.ofNat 0))]) rfl kq) ?_
    show GoOn p e below (s₁.setTop (mkF m 26 #[.val (.ref wa), .val (.ref va), .val (.int (Int32.ofNat 0)), .val (.int (Int32.ofNat 2)), .val (.double (Jvm.FP.dadd Jvm.FP.dconst0 (Jvm.FP.dmul x0 y0))), .second, .val (.int (Int32.ofNat 0))] [])) _
    refine GoOn.step (fun tq kq => XS.iinc X0.here hx rfl (hb hby own_d21) rfl (l' := #[.val (.ref wa), .val (.ref va), .val (.int (Int32.ofNat 0)), .val (.int (Int32.ofNat 2)), .val (.double (Jvm.FP.dadd Jvm.FP.dconst0 (Jvm.FP.dmul x0 y0))), .second, .val (.int ((Int32.ofNat 0) + Int32.ofInt 1))]) rfl kq) ?_
    show GoOn p e below (s₁.setTop (mkF m 29 #[.val (.ref wa), .val (.ref va), .val (.int (Int32.ofNat 0)), .val (.int (Int32.ofNat 2)), .val (.double (Jvm.FP.dadd Jvm.FP.dconst0 (Jvm.FP.dmul x0 y0))), .second, .val (.int ((Int32.ofNat 0) + Int32.ofInt 1))] [])) _
    refine GoOn.step (fun tq kq => XS.goto X0.here hx rfl (pc0 := 29) (pc' := 6) rfl (hb hby own_d22) (by decide) (by decide) kq) ?_
    show GoOn p e below (s₁.setTop (mkF m 6 #[.val (.ref wa), .val (.ref va), .val (.int (Int32.ofNat 0)), .val (.int (Int32.ofNat 2)), .val (.double (Jvm.FP.dadd Jvm.FP.dconst0 (Jvm.FP.dmul x0 y0))), .second, .val (.int ((Int32.ofNat 0) + Int32.ofInt 1))] [])) _
    refine GoOn.step (fun tq kq => XS.iload X0.here hx rfl (hb hby own_d6) rfl kq) ?_
    show GoOn p e below (s₁.setTop (mkF m 8 #[.val (.ref wa), .val (.ref va), .val (.int (Int32.ofNat 0)), .val (.int (Int32.ofNat 2)), .val (.double (Jvm.FP.dadd Jvm.FP.dconst0 (Jvm.FP.dmul x0 y0))), .second, .val (.int ((Int32.ofNat 0) + Int32.ofInt 1))] [(.int ((Int32.ofNat 0) + Int32.ofInt 1))])) _
    refine GoOn.step (fun tq kq => XS.iloadN X0.here hx rfl (hb hby own_d7) rfl kq) ?_
    show GoOn p e below (s₁.setTop (mkF m 9 #[.val (.ref wa), .val (.ref va), .val (.int (Int32.ofNat 0)), .val (.int (Int32.ofNat 2)), .val (.double (Jvm.FP.dadd Jvm.FP.dconst0 (Jvm.FP.dmul x0 y0))), .second, .val (.int ((Int32.ofNat 0) + Int32.ofInt 1))] [(.int (Int32.ofNat 2)), (.int ((Int32.ofNat 0) + Int32.ofInt 1))])) _
    refine GoOn.step (fun tq kq => XS.icmpNo X0.here hx rfl (hb hby own_d8) rfl (tlt (by decide)).2.1 kq) ?_
    show GoOn p e below (s₁.setTop (mkF m 12 #[.val (.ref wa), .val (.ref va), .val (.int (Int32.ofNat 0)), .val (.int (Int32.ofNat 2)), .val (.double (Jvm.FP.dadd Jvm.FP.dconst0 (Jvm.FP.dmul x0 y0))), .second, .val (.int ((Int32.ofNat 0) + Int32.ofInt 1))] [])) _
    refine GoOn.step (fun tq kq => XS.dload X0.here hx rfl (hb hby own_d11) rfl kq) ?_
    show GoOn p e below (s₁.setTop (mkF m 14 #[.val (.ref wa), .val (.ref va), .val (.int (Int32.ofNat 0)), .val (.int (Int32.ofNat 2)), .val (.double (Jvm.FP.dadd Jvm.FP.dconst0 (Jvm.FP.dmul x0 y0))), .second, .val (.int ((Int32.ofNat 0) + Int32.ofInt 1))] [(.double (Jvm.FP.dadd Jvm.FP.dconst0 (Jvm.FP.dmul x0 y0)))])) _
    refine GoOn.step (fun tq kq => XS.aloadN X0.here hx rfl (hb hby own_d12) rfl rfl kq) ?_
    show GoOn p e below (s₁.setTop (mkF m 15 #[.val (.ref wa), .val (.ref va), .val (.int (Int32.ofNat 0)), .val (.int (Int32.ofNat 2)), .val (.double (Jvm.FP.dadd Jvm.FP.dconst0 (Jvm.FP.dmul x0 y0))), .second, .val (.int ((Int32.ofNat 0) + Int32.ofInt 1))] [(.ref wa), (.double (Jvm.FP.dadd Jvm.FP.dconst0 (Jvm.FP.dmul x0 y0)))])) _
    refine GoOn.step (fun tq kq => XS.iload X0.here hx rfl (hb hby own_d13) rfl kq) ?_
    show GoOn p e below (s₁.setTop (mkF m 17 #[.val (.ref wa), .val (.ref va), .val (.int (Int32.ofNat 0)), .val (.int (Int32.ofNat 2)), .val (.double (Jvm.FP.dadd Jvm.FP.dconst0 (Jvm.FP.dmul x0 y0))), .second, .val (.int ((Int32.ofNat 0) + Int32.ofInt 1))] [(.int ((Int32.ofNat 0) + Int32.ofInt 1)), (.ref wa), (.double (Jvm.FP.dadd Jvm.FP.dconst0 (Jvm.FP.dmul x0 y0)))])) _
    obtain ⟨cq7, Aq7, qq7, Sq7, Mq7, Hq7, Uq7⟩ := id Vwa
    refine GoOn.step (fun tq kq => X0.daload hx (j := ((Int32.ofNat 0) + Int32.ofInt 1)) (v := (.double x1)) (by rw [e0]; exact Aq7.1) (State.isArrayOf_alike hZ.alike Aq7.2.1) Aq7.2.2 (inb_of Sq7 (by decide)) (Hq7.at (inb_of Sq7 (by decide)) rfl) (g := (mkF m 17 #[.val (.ref wa), .val (.ref va), .val (.int (Int32.ofNat 0)), .val (.int (Int32.ofNat 2)), .val (.double (Jvm.FP.dadd Jvm.FP.dconst0 (Jvm.FP.dmul x0 y0))), .second, .val (.int ((Int32.ofNat 0) + Int32.ofInt 1))] [(.int ((Int32.ofNat 0) + Int32.ofInt 1)), (.ref wa), (.double (Jvm.FP.dadd Jvm.FP.dconst0 (Jvm.FP.dmul x0 y0)))])) rfl rfl (hb hby own_d14) _ kq) ?_
    show GoOn p e below (s₁.setTop (mkF m 18 #[.val (.ref wa), .val (.ref va), .val (.int (Int32.ofNat 0)), .val (.int (Int32.ofNat 2)), .val (.double (Jvm.FP.dadd Jvm.FP.dconst0 (Jvm.FP.dmul x0 y0))), .second, .val (.int ((Int32.ofNat 0) + Int32.ofInt 1))] [(.double x1), (.double (Jvm.FP.dadd Jvm.FP.dconst0 (Jvm.FP.dmul x0 y0)))])) _
    refine GoOn.step (fun tq kq => XS.aloadN X0.here hx rfl (hb hby own_d15) rfl rfl kq) ?_
    show GoOn p e below (s₁.setTop (mkF m 19 #[.val (.ref wa), .val (.ref va), .val (.int (Int32.ofNat 0)), .val (.int (Int32.ofNat 2)), .val (.double (Jvm.FP.dadd Jvm.FP.dconst0 (Jvm.FP.dmul x0 y0))), .second, .val (.int ((Int32.ofNat 0) + Int32.ofInt 1))] [(.ref va), (.double x1), (.double (Jvm.FP.dadd Jvm.FP.dconst0 (Jvm.FP.dmul x0 y0)))])) _
    refine GoOn.step (fun tq kq => XS.iload X0.here hx rfl (hb hby own_d16) rfl kq) ?_
    show GoOn p e below (s₁.setTop (mkF m 21 #[.val (.ref wa), .val (.ref va), .val (.int (Int32.ofNat 0)), .val (.int (Int32.ofNat 2)), .val (.double (Jvm.FP.dadd Jvm.FP.dconst0 (Jvm.FP.dmul x0 y0))), .second, .val (.int ((Int32.ofNat 0) + Int32.ofInt 1))] [(.int ((Int32.ofNat 0) + Int32.ofInt 1)), (.ref va), (.double x1), (.double (Jvm.FP.dadd Jvm.FP.dconst0 (Jvm.FP.dmul x0 y0)))])) _
    obtain ⟨cq8, Aq8, qq8, Sq8, Mq8, Hq8, Uq8⟩ := id Vva
    refine GoOn.step (fun tq kq => X0.daload hx (j := ((Int32.ofNat 0) + Int32.ofInt 1)) (v := (.double y1)) (by rw [e0]; exact Aq8.1) (State.isArrayOf_alike hZ.alike Aq8.2.1) Aq8.2.2 (inb_of Sq8 (by decide)) (Hq8.at (inb_of Sq8 (by decide)) rfl) (g := (mkF m 21 #[.val (.ref wa), .val (.ref va), .val (.int (Int32.ofNat 0)), .val (.int (Int32.ofNat 2)), .val (.double (Jvm.FP.dadd Jvm.FP.dconst0 (Jvm.FP.dmul x0 y0))), .second, .val (.int ((Int32.ofNat 0) + Int32.ofInt 1))] [(.int ((Int32.ofNat 0) + Int32.ofInt 1)), (.ref va), (.double x1), (.double (Jvm.FP.dadd Jvm.FP.dconst0 (Jvm.FP.dmul x0 y0)))])) rfl rfl (hb hby own_d17) _ kq) ?_
    show GoOn p e below (s₁.setTop (mkF m 22 #[.val (.ref wa), .val (.ref va), .val (.int (Int32.ofNat 0)), .val (.int (Int32.ofNat 2)), .val (.double (Jvm.FP.dadd Jvm.FP.dconst0 (Jvm.FP.dmul x0 y0))), .second, .val (.int ((Int32.ofNat 0) + Int32.ofInt 1))] [(.double y1), (.double x1), (.double (Jvm.FP.dadd Jvm.FP.dconst0 (Jvm.FP.dmul x0 y0)))])) _
    refine GoOn.step (fun tq kq => XS.dmulS X0.here hx rfl (hb hby own_d18) rfl R1.no (v := (Jvm.FP.dmul x1 y1)) rfl kq) ?_
    show GoOn p e below (s₁.setTop (mkF m 23 #[.val (.ref wa), .val (.ref va), .val (.int (Int32.ofNat 0)), .val (.int (Int32.ofNat 2)), .val (.double (Jvm.FP.dadd Jvm.FP.dconst0 (Jvm.FP.dmul x0 y0))), .second, .val (.int ((Int32.ofNat 0) + Int32.ofInt 1))] [(.double (Jvm.FP.dmul x1 y1)), (.double (Jvm.FP.dadd Jvm.FP.dconst0 (Jvm.FP.dmul x0 y0)))])) _
    have P9 : Rep (Jvm.FP.dadd (Jvm.FP.dadd Jvm.FP.dconst0 (Jvm.FP.dmul x0 y0)) (Jvm.FP.dmul x1 y1)) ((0 + z0) + z1) := Rep.add P6 R1 (by omega)
    refine GoOn.step (fun tq kq => XS.daddS X0.here hx rfl (hb hby own_d19) rfl P9.no (v := (Jvm.FP.dadd (Jvm.FP.dadd Jvm.FP.dconst0 (Jvm.FP.dmul x0 y0)) (Jvm.FP.dmul x1 y1))) rfl kq) ?_
    show GoOn p e below (s₁.setTop (mkF m 24 #[.val (.ref wa), .val (.ref va), .val (.int (Int32.ofNat 0)), .val (.int (Int32.ofNat 2)), .val (.double (Jvm.FP.dadd Jvm.FP.dconst0 (Jvm.FP.dmul x0 y0))), .second, .val (.int ((Int32.ofNat 0) + Int32.ofInt 1))] [(.double (Jvm.FP.dadd (Jvm.FP.dadd Jvm.FP.dconst0 (Jvm.FP.dmul x0 y0)) (Jvm.FP.dmul x1 y1)))])) _
    refine GoOn.step (fun tq kq => XS.dstore X0.here hx rfl (hb hby own_d20) rfl (l' := #[.val (.ref wa), .val (.ref va), .val (.int (Int32.ofNat 0)), .val (.int (Int32.ofNat 2)), .val (.double (Jvm.FP.dadd (Jvm.FP.dadd Jvm.FP.dconst0 (Jvm.FP.dmul x0 y0)) (Jvm.FP.dmul x1 y1))), .second, .val (.int ((Int32.ofNat 0) + Int32.ofInt 1))]) rfl kq) ?_
    show GoOn p e below (s₁.setTop (mkF m 26 #[.val (.ref wa), .val (.ref va), .val (.int (Int32.ofNat 0)), .val (.int (Int32.ofNat 2)), .val (.double (Jvm.FP.dadd (Jvm.FP.dadd Jvm.FP.dconst0 (Jvm.FP.dmul x0 y0)) (Jvm.FP.dmul x1 y1))), .second, .val (.int ((Int32.ofNat 0) + Int32.ofInt 1))] [])) _
    refine GoOn.step (fun tq kq => XS.iinc X0.here hx rfl (hb hby own_d21) rfl (l' := #[.val (.ref wa), .val (.ref va), .val (.int (Int32.ofNat 0)), .val (.int (Int32.ofNat 2)), .val (.double (Jvm.FP.dadd (Jvm.FP.dadd Jvm.FP.dconst0 (Jvm.FP.dmul x0 y0)) (Jvm.FP.dmul x1 y1))), .second, .val (.int (((Int32.ofNat 0) + Int32.ofInt 1) + Int32.ofInt 1))]) rfl kq) ?_
    show GoOn p e below (s₁.setTop (mkF m 29 #[.val (.ref wa), .val (.ref va), .val (.int (Int32.ofNat 0)), .val (.int (Int32.ofNat 2)), .val (.double (Jvm.FP.dadd (Jvm.FP.dadd Jvm.FP.dconst0 (Jvm.FP.dmul x0 y0)) (Jvm.FP.dmul x1 y1))), .second, .val (.int (((Int32.ofNat 0) + Int32.ofInt 1) + Int32.ofInt 1))] [])) _
    refine GoOn.step (fun tq kq => XS.goto X0.here hx rfl (pc0 := 29) (pc' := 6) rfl (hb hby own_d22) (by decide) (by decide) kq) ?_
    show GoOn p e below (s₁.setTop (mkF m 6 #[.val (.ref wa), .val (.ref va), .val (.int (Int32.ofNat 0)), .val (.int (Int32.ofNat 2)), .val (.double (Jvm.FP.dadd (Jvm.FP.dadd Jvm.FP.dconst0 (Jvm.FP.dmul x0 y0)) (Jvm.FP.dmul x1 y1))), .second, .val (.int (((Int32.ofNat 0) + Int32.ofInt 1) + Int32.ofInt 1))] [])) _
    refine GoOn.step (fun tq kq => XS.iload X0.here hx rfl (hb hby own_d6) rfl kq) ?_
    show GoOn p e below (s₁.setTop (mkF m 8 #[.val (.ref wa), .val (.ref va), .val (.int (Int32.ofNat 0)), .val (.int (Int32.ofNat 2)), .val (.double (Jvm.FP.dadd (Jvm.FP.dadd Jvm.FP.dconst0 (Jvm.FP.dmul x0 y0)) (Jvm.FP.dmul x1 y1))), .second, .val (.int (((Int32.ofNat 0) + Int32.ofInt 1) + Int32.ofInt 1))] [(.int (((Int32.ofNat 0) + Int32.ofInt 1) + Int32.ofInt 1))])) _
    refine GoOn.step (fun tq kq => XS.iloadN X0.here hx rfl (hb hby own_d7) rfl kq) ?_
    show GoOn p e below (s₁.setTop (mkF m 9 #[.val (.ref wa), .val (.ref va), .val (.int (Int32.ofNat 0)), .val (.int (Int32.ofNat 2)), .val (.double (Jvm.FP.dadd (Jvm.FP.dadd Jvm.FP.dconst0 (Jvm.FP.dmul x0 y0)) (Jvm.FP.dmul x1 y1))), .second, .val (.int (((Int32.ofNat 0) + Int32.ofInt 1) + Int32.ofInt 1))] [(.int (Int32.ofNat 2)), (.int (((Int32.ofNat 0) + Int32.ofInt 1) + Int32.ofInt 1))])) _
    refine GoOn.step (fun tq kq => XS.icmpYes X0.here hx rfl (pc0 := 9) (pc' := 32) rfl (hb hby own_d8) rfl (flt (by decide)).2.1 (by decide) (by decide) kq) ?_
    show GoOn p e below (s₁.setTop (mkF m 32 #[.val (.ref wa), .val (.ref va), .val (.int (Int32.ofNat 0)), .val (.int (Int32.ofNat 2)), .val (.double (Jvm.FP.dadd (Jvm.FP.dadd Jvm.FP.dconst0 (Jvm.FP.dmul x0 y0)) (Jvm.FP.dmul x1 y1))), .second, .val (.int (((Int32.ofNat 0) + Int32.ofInt 1) + Int32.ofInt 1))] [])) _
    refine GoOn.step (fun tq kq => XS.dload X0.here hx rfl (hb hby own_d9) rfl kq) ?_
    show GoOn p e below (s₁.setTop (mkF m 34 #[.val (.ref wa), .val (.ref va), .val (.int (Int32.ofNat 0)), .val (.int (Int32.ofNat 2)), .val (.double (Jvm.FP.dadd (Jvm.FP.dadd Jvm.FP.dconst0 (Jvm.FP.dmul x0 y0)) (Jvm.FP.dmul x1 y1))), .second, .val (.int (((Int32.ofNat 0) + Int32.ofInt 1) + Int32.ofInt 1))] [(.double (Jvm.FP.dadd (Jvm.FP.dadd Jvm.FP.dconst0 (Jvm.FP.dmul x0 y0)) (Jvm.FP.dmul x1 y1)))])) _
    refine GoOn.ret X0 Bd.notSynchronized (v := some (.double (Jvm.FP.dadd (Jvm.FP.dadd Jvm.FP.dconst0 (Jvm.FP.dmul x0 y0)) (Jvm.FP.dmul x1 y1)))) (fun h => by rw [Bd.returns] at h; cases h) (fun fs hr => retOut X0 hx Bd.returns rfl (Or.inr (Or.inr (Or.inl ⟨rfl, rfl, _, rfl⟩))) (hb hby own_d10) hr) (by decide) (by decide) ?_
    rw [e0]
    exact ⟨_, rfl, N0, rfl, by rw [own_sm_0_2]; exact P9⟩
  · skip
    show GoOn p e below (s₁.setTop (mkF m 0 #[.val (.ref wa), .val (.ref va), .val (.int (Int32.ofNat 0)), .val (.int (Int32.ofNat 3)), .unset, .unset, .unset] [])) _
    refine GoOn.step (fun tq kq => XS.dconst0 X0.here hx rfl (hb hby own_d2) (v := Jvm.FP.dconst0) rfl kq) ?_
    show GoOn p e below (s₁.setTop (mkF m 1 #[.val (.ref wa), .val (.ref va), .val (.int (Int32.ofNat 0)), .val (.int (Int32.ofNat 3)), .unset, .unset, .unset] [(.double Jvm.FP.dconst0)])) _
    refine GoOn.step (fun tq kq => XS.dstore X0.here hx rfl (hb hby own_d3) rfl (l' := #[.val (.ref wa), .val (.ref va), .val (.int (Int32.ofNat 0)), .val (.int (Int32.ofNat 3)), .val (.double Jvm.FP.dconst0), .second, .unset]) rfl kq) ?_
    show GoOn p e below (s₁.setTop (mkF m 3 #[.val (.ref wa), .val (.ref va), .val (.int (Int32.ofNat 0)), .val (.int (Int32.ofNat 3)), .val (.double Jvm.FP.dconst0), .second, .unset] [])) _
    refine GoOn.step (fun tq kq => XS.iloadN X0.here hx rfl (hb hby own_d4) rfl kq) ?_
    show GoOn p e below (s₁.setTop (mkF m 4 #[.val (.ref wa), .val (.ref va), .val (.int (Int32.ofNat 0)), .val (.int (Int32.ofNat 3)), .val (.double Jvm.FP.dconst0), .second, .unset] [(.int (Int32.ofNat 0))])) _
    refine GoOn.step (fun tq kq => XS.istore X0.here hx rfl (hb hby own_d5) rfl (l' := #[.val (.ref wa), .val (.ref va), .val (.int (Int32.ofNat 0)), .val (.int (Int32.ofNat 3)), .val (.double Jvm.FP.dconst0), .second, .val (.int (Int32.ofNat 0))]) rfl kq) ?_
    show GoOn p e below (s₁.setTop (mkF m 6 #[.val (.ref wa), .val (.ref va), .val (.int (Int32.ofNat 0)), .val (.int (Int32.ofNat 3)), .val (.double Jvm.FP.dconst0), .second, .val (.int (Int32.ofNat 0))] [])) _
    refine GoOn.step (fun tq kq => XS.iload X0.here hx rfl (hb hby own_d6) rfl kq) ?_
    show GoOn p e below (s₁.setTop (mkF m 8 #[.val (.ref wa), .val (.ref va), .val (.int (Int32.ofNat 0)), .val (.int (Int32.ofNat 3)), .val (.double Jvm.FP.dconst0), .second, .val (.int (Int32.ofNat 0))] [(.int (Int32.ofNat 0))])) _
    refine GoOn.step (fun tq kq => XS.iloadN X0.here hx rfl (hb hby own_d7) rfl kq) ?_
    show GoOn p e below (s₁.setTop (mkF m 9 #[.val (.ref wa), .val (.ref va), .val (.int (Int32.ofNat 0)), .val (.int (Int32.ofNat 3)), .val (.double Jvm.FP.dconst0), .second, .val (.int (Int32.ofNat 0))] [(.int (Int32.ofNat 3)), (.int (Int32.ofNat 0))])) _
    refine GoOn.step (fun tq kq => XS.icmpNo X0.here hx rfl (hb hby own_d8) rfl (tlt (by decide)).2.1 kq) ?_
    show GoOn p e below (s₁.setTop (mkF m 12 #[.val (.ref wa), .val (.ref va), .val (.int (Int32.ofNat 0)), .val (.int (Int32.ofNat 3)), .val (.double Jvm.FP.dconst0), .second, .val (.int (Int32.ofNat 0))] [])) _
    refine GoOn.step (fun tq kq => XS.dload X0.here hx rfl (hb hby own_d11) rfl kq) ?_
    show GoOn p e below (s₁.setTop (mkF m 14 #[.val (.ref wa), .val (.ref va), .val (.int (Int32.ofNat 0)), .val (.int (Int32.ofNat 3)), .val (.double Jvm.FP.dconst0), .second, .val (.int (Int32.ofNat 0))] [(.double Jvm.FP.dconst0)])) _
    refine GoOn.step (fun tq kq => XS.aloadN X0.here hx rfl (hb hby own_d12) rfl rfl kq) ?_
    show GoOn p e below (s₁.setTop (mkF m 15 #[.val (.ref wa), .val (.ref va), .val (.int (Int32.ofNat 0)), .val (.int (Int32.ofNat 3)), .val (.double Jvm.FP.dconst0), .second, .val (.int (Int32.ofNat 0))] [(.ref wa), (.double Jvm.FP.dconst0)])) _
    refine GoOn.step (fun tq kq => XS.iload X0.here hx rfl (hb hby own_d13) rfl kq) ?_
    show GoOn p e below (s₁.setTop (mkF m 17 #[.val (.ref wa), .val (.ref va), .val (.int (Int32.ofNat 0)), .val (.int (Int32.ofNat 3)), .val (.double Jvm.FP.dconst0), .second, .val (.int (Int32.ofNat 0))] [(.int (Int32.ofNat 0)), (.ref wa), (.double Jvm.FP.dconst0)])) _
    obtain ⟨cq10, Aq10, qq10, Sq10, Mq10, Hq10, Uq10⟩ := id Vwa
    refine GoOn.step (fun tq kq => X0.daload hx (j := (Int32.ofNat 0)) (v := (.double x0)) (by rw [e0]; exact Aq10.1) (State.isArrayOf_alike hZ.alike Aq10.2.1) Aq10.2.2 (inb_of Sq10 (by decide)) (Hq10.at (inb_of Sq10 (by decide)) rfl) (g := (mkF m 17 #[.val (.ref wa), .val (.ref va), .val (.int (Int32.ofNat 0)), .val (.int (Int32.ofNat 3)), .val (.double Jvm.FP.dconst0), .second, .val (.int (Int32.ofNat 0))] [(.int (Int32.ofNat 0)), (.ref wa), (.double Jvm.FP.dconst0)])) rfl rfl (hb hby own_d14) _ kq) ?_
    show GoOn p e below (s₁.setTop (mkF m 18 #[.val (.ref wa), .val (.ref va), .val (.int (Int32.ofNat 0)), .val (.int (Int32.ofNat 3)), .val (.double Jvm.FP.dconst0), .second, .val (.int (Int32.ofNat 0))] [(.double x0), (.double Jvm.FP.dconst0)])) _
    refine GoOn.step (fun tq kq => XS.aloadN X0.here hx rfl (hb hby own_d15) rfl rfl kq) ?_
    show GoOn p e below (s₁.setTop (mkF m 19 #[.val (.ref wa), .val (.ref va), .val (.int (Int32.ofNat 0)), .val (.int (Int32.ofNat 3)), .val (.double Jvm.FP.dconst0), .second, .val (.int (Int32.ofNat 0))] [(.ref va), (.double x0), (.double Jvm.FP.dconst0)])) _
    refine GoOn.step (fun tq kq => XS.iload X0.here hx rfl (hb hby own_d16) rfl kq) ?_
    show GoOn p e below (s₁.setTop (mkF m 21 #[.val (.ref wa), .val (.ref va), .val (.int (Int32.ofNat 0)), .val (.int (Int32.ofNat 3)), .val (.double Jvm.FP.dconst0), .second, .val (.int (Int32.ofNat 0))] [(.int (Int32.ofNat 0)), (.ref va), (.double x0), (.double Jvm.FP.dconst0)])) _
    obtain ⟨cq11, Aq11, qq11, Sq11, Mq11, Hq11, Uq11⟩ := id Vva
    refine GoOn.step (fun tq kq => X0.daload hx (j := (Int32.ofNat 0)) (v := (.double y0)) (by rw [e0]; exact Aq11.1) (State.isArrayOf_alike hZ.alike Aq11.2.1) Aq11.2.2 (inb_of Sq11 (by decide)) (Hq11.at (inb_of Sq11 (by decide)) rfl) (g := (mkF m 21 #[.val (.ref wa), .val (.ref va), .val (.int (Int32.ofNat 0)), .val (.int (Int32.ofNat 3)), .val (.double Jvm.FP.dconst0), .second, .val (.int (Int32.ofNat 0))] [(.int (Int32.ofNat 0)), (.ref va), (.double x0), (.double Jvm.FP.dconst0)])) rfl rfl (hb hby own_d17) _ kq) ?_
    show GoOn p e below (s₁.setTop (mkF m 22 #[.val (.ref wa), .val (.ref va), .val (.int (Int32.ofNat 0)), .val (.int (Int32.ofNat 3)), .val (.double Jvm.FP.dconst0), .second, .val (.int (Int32.ofNat 0))] [(.double y0), (.double x0), (.double Jvm.FP.dconst0)])) _
    refine GoOn.step (fun tq kq => XS.dmulS X0.here hx rfl (hb hby own_d18) rfl R0.no (v := (Jvm.FP.dmul x0 y0)) rfl kq) ?_
    show GoOn p e below (s₁.setTop (mkF m 23 #[.val (.ref wa), .val (.ref va), .val (.int (Int32.ofNat 0)), .val (.int (Int32.ofNat 3)), .val (.double Jvm.FP.dconst0), .second, .val (.int (Int32.ofNat 0))] [(.double (Jvm.FP.dmul x0 y0)), (.double Jvm.FP.dconst0)])) _
    have P12 : Rep (Jvm.FP.dadd Jvm.FP.dconst0 (Jvm.FP.dmul x0 y0)) (0 + z0) := Rep.add Rep.zero R0 (by omega)
    refine GoOn.step (fun tq kq => XS.daddS X0.here hx rfl (hb hby own_d19) rfl P12.no (v := (Jvm.FP.dadd Jvm.FP.dconst0 (Jvm.FP.dmul x0 y0))) rfl kq) ?_
    show GoOn p e below (s₁.setTop (mkF m 24 #[.val (.ref wa), .val (.ref va), .val (.int (Int32.ofNat 0)), .val (.int (Int32.ofNat 3)), .val (.double Jvm.FP.dconst0), .second, .val (.int (Int32.ofNat 0))] [(.double (Jvm.FP.dadd Jvm.FP.dconst0 (Jvm.FP.dmul x0 y0)))])) _
    refine GoOn.step (fun tq kq => XS.dstore X0.here hx rfl (hb hby own_d20) rfl (l' := #[.val (.ref wa), .val (.ref va), .val (.int (Int32.ofNat 0)), .val (.int (Int32.ofNat 3)), .val (.double (Jvm.FP.dadd Jvm.FP.dconst0 (Jvm.FP.dmul x0 y0))), .second, .val (.int (Int32.ofNat 0))]) rfl kq) ?_
    show GoOn p e below (s₁.setTop (mkF m 26 #[.val (.ref wa), .val (.ref va), .val (.int (Int32.ofNat 0)), .val (.int (Int32.ofNat 3)), .val (.double (Jvm.FP.dadd Jvm.FP.dconst0 (Jvm.FP.dmul x0 y0))), .second, .val (.int (Int32.ofNat 0))] [])) _
    refine GoOn.step (fun tq kq => XS.iinc X0.here hx rfl (hb hby own_d21) rfl (l' := #[.val (.ref wa), .val (.ref va), .val (.int (Int32.ofNat 0)), .val (.int (Int32.ofNat 3)), .val (.double (Jvm.FP.dadd Jvm.FP.dconst0 (Jvm.FP.dmul x0 y0))), .second, .val (.int ((Int32.ofNat 0) + Int32.ofInt 1))]) rfl kq) ?_
    show GoOn p e below (s₁.setTop (mkF m 29 #[.val (.ref wa), .val (.ref va), .val (.int (Int32.ofNat 0)), .val (.int (Int32.ofNat 3)), .val (.double (Jvm.FP.dadd Jvm.FP.dconst0 (Jvm.FP.dmul x0 y0))), .second, .val (.int ((Int32.ofNat 0) + Int32.ofInt 1))] [])) _
    refine GoOn.step (fun tq kq => XS.goto X0.here hx rfl (pc0 := 29) (pc' := 6) rfl (hb hby own_d22) (by decide) (by decide) kq) ?_
    show GoOn p e below (s₁.setTop (mkF m 6 #[.val (.ref wa), .val (.ref va), .val (.int (Int32.ofNat 0)), .val (.int (Int32.ofNat 3)), .val (.double (Jvm.FP.dadd Jvm.FP.dconst0 (Jvm.FP.dmul x0 y0))), .second, .val (.int ((Int32.ofNat 0) + Int32.ofInt 1))] [])) _
    refine GoOn.step (fun tq kq => XS.iload X0.here hx rfl (hb hby own_d6) rfl kq) ?_
    show GoOn p e below (s₁.setTop (mkF m 8 #[.val (.ref wa), .val (.ref va), .val (.int (Int32.ofNat 0)), .val (.int (Int32.ofNat 3)), .val (.double (Jvm.FP.dadd Jvm.FP.dconst0 (Jvm.FP.dmul x0 y0))), .second, .val (.int ((Int32.ofNat 0) + Int32.ofInt 1))] [(.int ((Int32.ofNat 0) + Int32.ofInt 1))])) _
    refine GoOn.step (fun tq kq => XS.iloadN X0.here hx rfl (hb hby own_d7) rfl kq) ?_
    show GoOn p e below (s₁.setTop (mkF m 9 #[.val (.ref wa), .val (.ref va), .val (.int (Int32.ofNat 0)), .val (.int (Int32.ofNat 3)), .val (.double (Jvm.FP.dadd Jvm.FP.dconst0 (Jvm.FP.dmul x0 y0))), .second, .val (.int ((Int32.ofNat 0) + Int32.ofInt 1))] [(.int (Int32.ofNat 3)), (.int ((Int32.ofNat 0) + Int32.ofInt 1))])) _
    refine GoOn.step (fun tq kq => XS.icmpNo X0.here hx rfl (hb hby own_d8) rfl (tlt (by decide)).2.1 kq) ?_
    show GoOn p e below (s₁.setTop (mkF m 12 #[.val (.ref wa), .val (.ref va), .val (.int (Int32.ofNat 0)), .val (.int (Int32.ofNat 3)), .val (.double (Jvm.FP.dadd Jvm.FP.dconst0 (Jvm.FP.dmul x0 y0))), .second, .val (.int ((Int32.ofNat 0) + Int32.ofInt 1))] [])) _
    refine GoOn.step (fun tq kq => XS.dload X0.here hx rfl (hb hby own_d11) rfl kq) ?_
    show GoOn p e below (s₁.setTop (mkF m 14 #[.val (.ref wa), .val (.ref va), .val (.int (Int32.ofNat 0)), .val (.int (Int32.ofNat 3)), .val (.double (Jvm.FP.dadd Jvm.FP.dconst0 (Jvm.FP.dmul x0 y0))), .second, .val (.int ((Int32.ofNat 0) + Int32.ofInt 1))] [(.double (Jvm.FP.dadd Jvm.FP.dconst0 (Jvm.FP.dmul x0 y0)))])) _
    refine GoOn.step (fun tq kq => XS.aloadN X0.here hx rfl (hb hby own_d12) rfl rfl kq) ?_
    show GoOn p e below (s₁.setTop (mkF m 15 #[.val (.ref wa), .val (.ref va), .val (.int (Int32.ofNat 0)), .val (.int (Int32.ofNat 3)), .val (.double (Jvm.FP.dadd Jvm.FP.dconst0 (Jvm.FP.dmul x0 y0))), .second, .val (.int ((Int32.ofNat 0) + Int32.ofInt 1))] [(.ref wa), (.double (Jvm.FP.dadd Jvm.FP.dconst0 (Jvm.FP.dmul x0 y0)))])) _
    refine GoOn.step (fun tq kq => XS.iload X0.here hx rfl (hb hby own_d13) rfl kq) ?_
    show GoOn p e below (s₁.setTop (mkF m 17 #[.val (.ref wa), .val (.ref va), .val (.int (Int32.ofNat 0)), .val (.int (Int32.ofNat 3)), .val (.double (Jvm.FP.dadd Jvm.FP.dconst0 (Jvm.FP.dmul x0 y0))), .second, .val (.int ((Int32.ofNat 0) + Int32.ofInt 1))] [(.int ((Int32.ofNat 0) + Int32.ofInt 1)), (.ref wa), (.double (Jvm.FP.dadd Jvm.FP.dconst0 (Jvm.FP.dmul x0 y0)))])) _
    obtain ⟨cq13, Aq13, qq13, Sq13, Mq13, Hq13, Uq13⟩ := id Vwa
    refine GoOn.step (fun tq kq => X0.daload hx (j := ((Int32.ofNat 0) + Int32.ofInt 1)) (v := (.double x1)) (by rw [e0]; exact Aq13.1) (State.isArrayOf_alike hZ.alike Aq13.2.1) Aq13.2.2 (inb_of Sq13 (by decide)) (Hq13.at (inb_of Sq13 (by decide)) rfl) (g := (mkF m 17 #[.val (.ref wa), .val (.ref va), .val (.int (Int32.ofNat 0)), .val (.int (Int32.ofNat 3)), .val (.double (Jvm.FP.dadd Jvm.FP.dconst0 (Jvm.FP.dmul x0 y0))), .second, .val (.int ((Int32.ofNat 0) + Int32.ofInt 1))] [(.int ((Int32.ofNat 0) + Int32.ofInt 1)), (.ref wa), (.double (Jvm.FP.dadd Jvm.FP.dconst0 (Jvm.FP.dmul x0 y0)))])) rfl rfl (hb hby own_d14) _ kq) ?_
    show GoOn p e below (s₁.setTop (mkF m 18 #[.val (.ref wa), .val (.ref va), .val (.int (Int32.ofNat 0)), .val (.int (Int32.ofNat 3)), .val (.double (Jvm.FP.dadd Jvm.FP.dconst0 (Jvm.FP.dmul x0 y0))), .second, .val (.int ((Int32.ofNat 0) + Int32.ofInt 1))] [(.double x1), (.double (Jvm.FP.dadd Jvm.FP.dconst0 (Jvm.FP.dmul x0 y0)))])) _
    refine GoOn.step (fun tq kq => XS.aloadN X0.here hx rfl (hb hby own_d15) rfl rfl kq) ?_
    show GoOn p e below (s₁.setTop (mkF m 19 #[.val (.ref wa), .val (.ref va), .val (.int (Int32.ofNat 0)), .val (.int (Int32.ofNat 3)), .val (.double (Jvm.FP.dadd Jvm.FP.dconst0 (Jvm.FP.dmul x0 y0))), .second, .val (.int ((Int32.ofNat 0) + Int32.ofInt 1))] [(.ref va), (.double x1), (.double (Jvm.FP.dadd Jvm.FP.dconst0 (Jvm.FP.dmul x0 y0)))])) _
    refine GoOn.step (fun tq kq => XS.iload X0.here hx rfl (hb hby own_d16) rfl kq) ?_
    show GoOn p e below (s₁.setTop (mkF m 21 #[.val (.ref wa), .val (.ref va), .val (.int (Int32.ofNat 0)), .val (.int (Int32.ofNat 3)), .val (.double (Jvm.FP.dadd Jvm.FP.dconst0 (Jvm.FP.dmul x0 y0))), .second, .val (.int ((Int32.ofNat 0) + Int32.ofInt 1))] [(.int ((Int32.ofNat 0) + Int32.ofInt 1)), (.ref va), (.double x1), (.double (Jvm.FP.dadd Jvm.FP.dconst0 (Jvm.FP.dmul x0 y0)))])) _
    obtain ⟨cq14, Aq14, qq14, Sq14, Mq14, Hq14, Uq14⟩ := id Vva
    refine GoOn.step (fun tq kq => X0.daload hx (j := ((Int32.ofNat 0) + Int32.ofInt 1)) (v := (.double y1)) (by rw [e0]; exact Aq14.1) (State.isArrayOf_alike hZ.alike Aq14.2.1) Aq14.2.2 (inb_of Sq14 (by decide)) (Hq14.at (inb_of Sq14 (by decide)) rfl) (g := (mkF m 21 #[.val (.ref wa), .val (.ref va), .val (.int (Int32.ofNat 0)), .val (.int (Int32.ofNat 3)), .val (.double (Jvm.FP.dadd Jvm.FP.dconst0 (Jvm.FP.dmul x0 y0))), .second, .val (.int ((Int32.ofNat 0) + Int32.ofInt 1))] [(.int ((Int32.ofNat 0) + Int32.ofInt 1)), (.ref va), (.double x1), (.double (Jvm.FP.dadd Jvm.FP.dconst0 (Jvm.FP.dmul x0 y0)))])) rfl rfl (hb hby own_d17) _ kq) ?_
    show GoOn p e below (s₁.setTop (mkF m 22 #[.val (.ref wa), .val (.ref va), .val (.int (Int32.ofNat 0)), .val (.int (Int32.ofNat 3)), .val (.double (Jvm.FP.dadd Jvm.FP.dconst0 (Jvm.FP.dmul x0 y0))), .second, .val (.int ((Int32.ofNat 0) + Int32.ofInt 1))] [(.double y1), (.double x1), (.double (Jvm.FP.dadd Jvm.FP.dconst0 (Jvm.FP.dmul x0 y0)))])) _
    refine GoOn.step (fun tq kq => XS.dmulS X0.here hx rfl (hb hby own_d18) rfl R1.no (v := (Jvm.FP.dmul x1 y1)) rfl kq) ?_
    show GoOn p e below (s₁.setTop (mkF m 23 #[.val (.ref wa), .val (.ref va), .val (.int (Int32.ofNat 0)), .val (.int (Int32.ofNat 3)), .val (.double (Jvm.FP.dadd Jvm.FP.dconst0 (Jvm.FP.dmul x0 y0))), .second, .val (.int ((Int32.ofNat 0) + Int32.ofInt 1))] [(.double (Jvm.FP.dmul x1 y1)), (.double (Jvm.FP.dadd Jvm.FP.dconst0 (Jvm.FP.dmul x0 y0)))])) _
    have P15 : Rep (Jvm.FP.dadd (Jvm.FP.dadd Jvm.FP.dconst0 (Jvm.FP.dmul x0 y0)) (Jvm.FP.dmul x1 y1)) ((0 + z0) + z1) := Rep.add P12 R1 (by omega)
    refine GoOn.step (fun tq kq => XS.daddS X0.here hx rfl (hb hby own_d19) rfl P15.no (v := (Jvm.FP.dadd (Jvm.FP.dadd Jvm.FP.dconst0 (Jvm.FP.dmul x0 y0)) (Jvm.FP.dmul x1 y1))) rfl kq) ?_
    show GoOn p e below (s₁.setTop (mkF m 24 #[.val (.ref wa), .val (.ref va), .val (.int (Int32.ofNat 0)), .val (.int (Int32.ofNat 3)), .val (.double (Jvm.FP.dadd Jvm.FP.dconst0 (Jvm.FP.dmul x0 y0))), .second, .val (.int ((Int32.ofNat 0) + Int32.ofInt 1))] [(.double (Jvm.FP.dadd (Jvm.FP.dadd Jvm.FP.dconst0 (Jvm.FP.dmul x0 y0)) (Jvm.FP.dmul x1 y1)))])) _
    refine GoOn.step (fun tq kq => XS.dstore X0.here hx rfl (hb hby own_d20) rfl (l' := #[.val (.ref wa), .val (.ref va), .val (.int (Int32.ofNat 0)), .val (.int (Int32.ofNat 3)), .val (.double (Jvm.FP.dadd (Jvm.FP.dadd Jvm.FP.dconst0 (Jvm.FP.dmul x0 y0)) (Jvm.FP.dmul x1 y1))), .second, .val (.int ((Int32.ofNat 0) + Int32.ofInt 1))]) rfl kq) ?_
    show GoOn p e below (s₁.setTop (mkF m 26 #[.val (.ref wa), .val (.ref va), .val (.int (Int32.ofNat 0)), .val (.int (Int32.ofNat 3)), .val (.double (Jvm.FP.dadd (Jvm.FP.dadd Jvm.FP.dconst0 (Jvm.FP.dmul x0 y0)) (Jvm.FP.dmul x1 y1))), .second, .val (.int ((Int32.ofNat 0) + Int32.ofInt 1))] [])) _
    refine GoOn.step (fun tq kq => XS.iinc X0.here hx rfl (hb hby own_d21) rfl (l' := #[.val (.ref wa), .val (.ref va), .val (.int (Int32.ofNat 0)), .val (.int (Int32.ofNat 3)), .val (.double (Jvm.FP.dadd (Jvm.FP.dadd Jvm.FP.dconst0 (Jvm.FP.dmul x0 y0)) (Jvm.FP.dmul x1 y1))), .second, .val (.int (((Int32.ofNat 0) + Int32.ofInt 1) + Int32.ofInt 1))]) rfl kq) ?_
    show GoOn p e below (s₁.setTop (mkF m 29 #[.val (.ref wa), .val (.ref va), .val (.int (Int32.ofNat 0)), .val (.int (Int32.ofNat 3)), .val (.double (Jvm.FP.dadd (Jvm.FP.dadd Jvm.FP.dconst0 (Jvm.FP.dmul x0 y0)) (Jvm.FP.dmul x1 y1))), .second, .val (.int (((Int32.ofNat 0) + Int32.ofInt 1) + Int32.ofInt 1))] [])) _
    refine GoOn.step (fun tq kq => XS.goto X0.here hx rfl (pc0 := 29) (pc' := 6) rfl (hb hby own_d22) (by decide) (by decide) kq) ?_
    show GoOn p e below (s₁.setTop (mkF m 6 #[.val (.ref wa), .val (.ref va), .val (.int (Int32.ofNat 0)), .val (.int (Int32.ofNat 3)), .val (.double (Jvm.FP.dadd (Jvm.FP.dadd Jvm.FP.dconst0 (Jvm.FP.dmul x0 y0)) (Jvm.FP.dmul x1 y1))), .second, .val (.int (((Int32.ofNat 0) + Int32.ofInt 1) + Int32.ofInt 1))] [])) _
    refine GoOn.step (fun tq kq => XS.iload X0.here hx rfl (hb hby own_d6) rfl kq) ?_
    show GoOn p e below (s₁.setTop (mkF m 8 #[.val (.ref wa), .val (.ref va), .val (.int (Int32.ofNat 0)), .val (.int (Int32.ofNat 3)), .val (.double (Jvm.FP.dadd (Jvm.FP.dadd Jvm.FP.dconst0 (Jvm.FP.dmul x0 y0)) (Jvm.FP.dmul x1 y1))), .second, .val (.int (((Int32.ofNat 0) + Int32.ofInt 1) + Int32.ofInt 1))] [(.int (((Int32.ofNat 0) + Int32.ofInt 1) + Int32.ofInt 1))])) _
    refine GoOn.step (fun tq kq => XS.iloadN X0.here hx rfl (hb hby own_d7) rfl kq) ?_
    show GoOn p e below (s₁.setTop (mkF m 9 #[.val (.ref wa), .val (.ref va), .val (.int (Int32.ofNat 0)), .val (.int (Int32.ofNat 3)), .val (.double (Jvm.FP.dadd (Jvm.FP.dadd Jvm.FP.dconst0 (Jvm.FP.dmul x0 y0)) (Jvm.FP.dmul x1 y1))), .second, .val (.int (((Int32.ofNat 0) + Int32.ofInt 1) + Int32.ofInt 1))] [(.int (Int32.ofNat 3)), (.int (((Int32.ofNat 0) + Int32.ofInt 1) + Int32.ofInt 1))])) _
    refine GoOn.step (fun tq kq => XS.icmpNo X0.here hx rfl (hb hby own_d8) rfl (tlt (by decide)).2.1 kq) ?_
    show GoOn p e below (s₁.setTop (mkF m 12 #[.val (.ref wa), .val (.ref va), .val (.int (Int32.ofNat 0)), .val (.int (Int32.ofNat 3)), .val (.double (Jvm.FP.dadd (Jvm.FP.dadd Jvm.FP.dconst0 (Jvm.FP.dmul x0 y0)) (Jvm.FP.dmul x1 y1))), .second, .val (.int (((Int32.ofNat 0) + Int32.ofInt 1) + Int32.ofInt 1))] [])) _
    refine GoOn.step (fun tq kq => XS.dload X0.here hx rfl (hb hby own_d11) rfl kq) ?_
    show GoOn p e below (s₁.setTop (mkF m 14 #[.val (.ref wa), .val (.ref va), .val (.int (Int32.ofNat 0)), .val (.int (Int32.ofNat 3)), .val (.double (Jvm.FP.dadd (Jvm.FP.dadd Jvm.FP.dconst0 (Jvm.FP.dmul x0 y0)) (Jvm.FP.dmul x1 y1))), .second, .val (.int (((Int32.ofNat 0) + Int32.ofInt 1) + Int32.ofInt 1))] [(.double (Jvm.FP.dadd (Jvm.FP.dadd Jvm.FP.dconst0 (Jvm.FP.dmul x0 y0)) (Jvm.FP.dmul x1 y1)))])) _
    refine GoOn.step (fun tq kq => XS.aloadN X0.here hx rfl (hb hby own_d12) rfl rfl kq) ?_
    show GoOn p e below (s₁.setTop (mkF m 15 #[.val (.ref wa), .val (.ref va), .val (.int (Int32.ofNat 0)), .val (.int (Int32.ofNat 3)), .val (.double (Jvm.FP.dadd (Jvm.FP.dadd Jvm.FP.dconst0 (Jvm.FP.dmul x0 y0)) (Jvm.FP.dmul x1 y1))), .second, .val (.int (((Int32.ofNat 0) + Int32.ofInt 1) + Int32.ofInt 1))] [(.ref wa), (.double (Jvm.FP.dadd (Jvm.FP.dadd Jvm.FP.dconst0 (Jvm.FP.dmul x0 y0)) (Jvm.FP.dmul x1 y1)))])) _
    refine GoOn.step (fun tq kq => XS.iload X0.here hx rfl (hb hby own_d13) rfl kq) ?_
    show GoOn p e below (s₁.setTop (mkF m 17 #[.val (.ref wa), .val (.ref va), .val (.int (Int32.ofNat 0)), .val (.int (Int32.ofNat 3)), .val (.double (Jvm.FP.dadd (Jvm.FP.dadd Jvm.FP.dconst0 (Jvm.FP.dmul x0 y0)) (Jvm.FP.dmul x1 y1))), .second, .val (.int (((Int32.ofNat 0) + Int32.ofInt 1) + Int32.ofInt 1))] [(.int (((Int32.ofNat 0) + Int32.ofInt 1) + Int32.ofInt 1)), (.ref wa), (.double (Jvm.FP.dadd (Jvm.FP.dadd Jvm.FP.dconst0 (Jvm.FP.dmul x0 y0)) (Jvm.FP.dmul x1 y1)))])) _
    obtain ⟨cq16, Aq16, qq16, Sq16, Mq16, Hq16, Uq16⟩ := id Vwa
    refine GoOn.step (fun tq kq => X0.daload hx (j := (((Int32.ofNat 0) + Int32.ofInt 1) + Int32.ofInt 1)) (v := (.double x2)) (by rw [e0]; exact Aq16.1) (State.isArrayOf_alike hZ.alike Aq16.2.1) Aq16.2.2 (inb_of Sq16 (by decide)) (Hq16.at (inb_of Sq16 (by decide)) rfl) (g := (mkF m 17 #[.val (.ref wa), .val (.ref va), .val (.int (Int32.ofNat 0)), .val (.int (Int32.ofNat 3)), .val (.double (Jvm.FP.dadd (Jvm.FP.dadd Jvm.FP.dconst0 (Jvm.FP.dmul x0 y0)) (Jvm.FP.dmul x1 y1))), .second, .val (.int (((Int32.ofNat 0) + Int32.ofInt 1) + Int32.ofInt 1))] [(.int (((Int32.ofNat 0) + Int32.ofInt 1) + Int32.ofInt 1)), (.ref wa), (.double (Jvm.FP.dadd (Jvm.FP.dadd Jvm.FP.dconst0 (Jvm.FP.dmul x0 y0)) (Jvm.FP.dmul x1 y1)))])) rfl rfl (hb hby own_d14) _ kq) ?_
    show GoOn p e below (s₁.setTop (mkF m 18 #[.val (.ref wa), .val (.ref va), .val (.int (Int32.ofNat 0)), .val (.int (Int32.ofNat 3)), .val (.double (Jvm.FP.dadd (Jvm.FP.dadd Jvm.FP.dconst0 (Jvm.FP.dmul x0 y0)) (Jvm.FP.dmul x1 y1))), .second, .val (.int (((Int32.ofNat 0) + Int32.ofInt 1) + Int32.ofInt 1))] [(.double x2), (.double (Jvm.FP.dadd (Jvm.FP.dadd Jvm.FP.dconst0 (Jvm.FP.dmul x0 y0)) (Jvm.FP.dmul x1 y1)))])) _
    refine GoOn.step (fun tq kq => XS.aloadN X0.here hx rfl (hb hby own_d15) rfl rfl kq) ?_
    show GoOn p e below (s₁.setTop (mkF m 19 #[.val (.ref wa), .val (.ref va), .val (.int (Int32.ofNat 0)), .val (.int (Int32.ofNat 3)), .val (.double (Jvm.FP.dadd (Jvm.FP.dadd Jvm.FP.dconst0 (Jvm.FP.dmul x0 y0)) (Jvm.FP.dmul x1 y1))), .second, .val (.int (((Int32.ofNat 0) + Int32.ofInt 1) + Int32.ofInt 1))] [(.ref va), (.double x2), (.double (Jvm.FP.dadd (Jvm.FP.dadd Jvm.FP.dconst0 (Jvm.FP.dmul x0 y0)) (Jvm.FP.dmul x1 y1)))])) _
    refine GoOn.step (fun tq kq => XS.iload X0.here hx rfl (hb hby own_d16) rfl kq) ?_
    show GoOn p e below (s₁.setTop (mkF m 21 #[.val (.ref wa), .val (.ref va), .val (.int (Int32.ofNat 0)), .val (.int (Int32.ofNat 3)), .val (.double (Jvm.FP.dadd (Jvm.FP.dadd Jvm.FP.dconst0 (Jvm.FP.dmul x0 y0)) (Jvm.FP.dmul x1 y1))), .second, .val (.int (((Int32.ofNat 0) + Int32.ofInt 1) + Int32.ofInt 1))] [(.int (((Int32.ofNat 0) + Int32.ofInt 1) + Int32.ofInt 1)), (.ref va), (.double x2), (.double (Jvm.FP.dadd (Jvm.FP.dadd Jvm.FP.dconst0 (Jvm.FP.dmul x0 y0)) (Jvm.FP.dmul x1 y1)))])) _
    obtain ⟨cq17, Aq17, qq17, Sq17, Mq17, Hq17, Uq17⟩ := id Vva
    refine GoOn.step (fun tq kq => X0.daload hx (j := (((Int32.ofNat 0) + Int32.ofInt 1) + Int32.ofInt 1)) (v := (.double y2)) (by rw [e0]; exact Aq17.1) (State.isArrayOf_alike hZ.alike Aq17.2.1) Aq17.2.2 (inb_of Sq17 (by decide)) (Hq17.at (inb_of Sq17 (by decide)) rfl) (g := (mkF m 21 #[.val (.ref wa), .val (.ref va), .val (.int (Int32.ofNat 0)), .val (.int (Int32.ofNat 3)), .val (.double (Jvm.FP.dadd (Jvm.FP.dadd Jvm.FP.dconst0 (Jvm.FP.dmul x0 y0)) (Jvm.FP.dmul x1 y1))), .second, .val (.int (((Int32.ofNat 0) + Int32.ofInt 1) + Int32.ofInt 1))] [(.int (((Int32.ofNat 0) + Int32.ofInt 1) + Int32.ofInt 1)), (.ref va), (.double x2), (.double (Jvm.FP.dadd (Jvm.FP.dadd Jvm.FP.dconst0 (Jvm.FP.dmul x0 y0)) (Jvm.FP.dmul x1 y1)))])) rfl rfl (hb hby own_d17) _ kq) ?_
    show GoOn p e below (s₁.setTop (mkF m 22 #[.val (.ref wa), .val (.ref va), .val (.int (Int32.ofNat 0)), .val (.int (Int32.ofNat 3)), .val (.double (Jvm.FP.dadd (Jvm.FP.dadd Jvm.FP.dconst0 (Jvm.FP.dmul x0 y0)) (Jvm.FP.dmul x1 y1))), .second, .val (.int (((Int32.ofNat 0) + Int32.ofInt 1) + Int32.ofInt 1))] [(.double y2), (.double x2), (.double (Jvm.FP.dadd (Jvm.FP.dadd Jvm.FP.dconst0 (Jvm.FP.dmul x0 y0)) (Jvm.FP.dmul x1 y1)))])) _
    refine GoOn.step (fun tq kq => XS.dmulS X0.here hx rfl (hb hby own_d18) rfl R2.no (v := (Jvm.FP.dmul x2 y2)) rfl kq) ?_
    show GoOn p e below (s₁.setTop (mkF m 23 #[.val (.ref wa), .val (.ref va), .val (.int (Int32.ofNat 0)), .val (.int (Int32.ofNat 3)), .val (.double (Jvm.FP.dadd (Jvm.FP.dadd Jvm.FP.dconst0 (Jvm.FP.dmul x0 y0)) (Jvm.FP.dmul x1 y1))), .second, .val (.int (((Int32.ofNat 0) + Int32.ofInt 1) + Int32.ofInt 1))] [(.double (Jvm.FP.dmul x2 y2)), (.double (Jvm.FP.dadd (Jvm.FP.dadd Jvm.FP.dconst0 (Jvm.FP.dmul x0 y0)) (Jvm.FP.dmul x1 y1)))])) _
    have P18 : Rep (Jvm.FP.dadd (Jvm.FP.dadd (Jvm.FP.dadd Jvm.FP.dconst0 (Jvm.FP.dmul x0 y0)) (Jvm.FP.dmul x1 y1)) (Jvm.FP.dmul x2 y2)) (((0 + z0) + z1) + z2) := Rep.add P15 R2 (by omega)
    refine GoOn.step (fun tq kq => XS.daddS X0.here hx rfl (hb hby own_d19) rfl P18.no (v := (Jvm.FP.dadd (Jvm.FP.dadd (Jvm.FP.dadd Jvm.FP.dconst0 (Jvm.FP.dmul x0 y0)) (Jvm.FP.dmul x1 y1)) (Jvm.FP.dmul x2 y2))) rfl kq) ?_
    show GoOn p e below (s₁.setTop (mkF m 24 #[.val (.ref wa), .val (.ref va), .val (.int (Int32.ofNat 0)), .val (.int (Int32.ofNat 3)), .val (.double (Jvm.FP.dadd (Jvm.FP.dadd Jvm.FP.dconst0 (Jvm.FP.dmul x0 y0)) (Jvm.FP.dmul x1 y1))), .second, .val (.int (((Int32.ofNat 0) + Int32.ofInt 1) + Int32.ofInt 1))] [(.double (Jvm.FP.dadd (Jvm.FP.dadd (Jvm.FP.dadd Jvm.FP.dconst0 (Jvm.FP.dmul x0 y0)) (Jvm.FP.dmul x1 y1)) (Jvm.FP.dmul x2 y2)))])) _
    refine GoOn.step (fun tq kq => XS.dstore X0.here hx rfl (hb hby own_d20) rfl (l' := #[.val (.ref wa), .val (.ref va), .val (.int (Int32.ofNat 0)), .val (.int (Int32.ofNat 3)), .val (.double (Jvm.FP.dadd (Jvm.FP.dadd (Jvm.FP.dadd Jvm.FP.dconst0 (Jvm.FP.dmul x0 y0)) (Jvm.FP.dmul x1 y1)) (Jvm.FP.dmul x2 y2))), .second, .val (.int (((Int32.ofNat 0) + Int32.ofInt 1) + Int32.ofInt 1))]) rfl kq) ?_
    show GoOn p e below (s₁.setTop (mkF m 26 #[.val (.ref wa), .val (.ref va), .val (.int (Int32.ofNat 0)), .val (.int (Int32.ofNat 3)), .val (.double (Jvm.FP.dadd (Jvm.FP.dadd (Jvm.FP.dadd Jvm.FP.dconst0 (Jvm.FP.dmul x0 y0)) (Jvm.FP.dmul x1 y1)) (Jvm.FP.dmul x2 y2))), .second, .val (.int (((Int32.ofNat 0) + Int32.ofInt 1) + Int32.ofInt 1))] [])) _
    refine GoOn.step (fun tq kq => XS.iinc X0.here hx rfl (hb hby own_d21) rfl (l' := #[.val (.ref wa), .val (.ref va), .val (.int (Int32.ofNat 0)), .val (.int (Int32.ofNat 3)), .val (.double (Jvm.FP.dadd (Jvm.FP.dadd (Jvm.FP.dadd Jvm.FP.dconst0 (Jvm.FP.dmul x0 y0)) (Jvm.FP.dmul x1 y1)) (Jvm.FP.dmul x2 y2))), .second, .val (.int ((((Int32.ofNat 0) + Int32.ofInt 1) + Int32.ofInt 1) + Int32.ofInt 1))]) rfl kq) ?_
    show GoOn p e below (s₁.setTop (mkF m 29 #[.val (.ref wa), .val (.ref va), .val (.int (Int32.ofNat 0)), .val (.int (Int32.ofNat 3)), .val (.double (Jvm.FP.dadd (Jvm.FP.dadd (Jvm.FP.dadd Jvm.FP.dconst0 (Jvm.FP.dmul x0 y0)) (Jvm.FP.dmul x1 y1)) (Jvm.FP.dmul x2 y2))), .second, .val (.int ((((Int32.ofNat 0) + Int32.ofInt 1) + Int32.ofInt 1) + Int32.ofInt 1))] [])) _
    refine GoOn.step (fun tq kq => XS.goto X0.here hx rfl (pc0 := 29) (pc' := 6) rfl (hb hby own_d22) (by decide) (by decide) kq) ?_
    show GoOn p e below (s₁.setTop (mkF m 6 #[.val (.ref wa), .val (.ref va), .val (.int (Int32.ofNat 0)), .val (.int (Int32.ofNat 3)), .val (.double (Jvm.FP.dadd (Jvm.FP.dadd (Jvm.FP.dadd Jvm.FP.dconst0 (Jvm.FP.dmul x0 y0)) (Jvm.FP.dmul x1 y1)) (Jvm.FP.dmul x2 y2))), .second, .val (.int ((((Int32.ofNat 0) + Int32.ofInt 1) + Int32.ofInt 1) + Int32.ofInt 1))] [])) _
    refine GoOn.step (fun tq kq => XS.iload X0.here hx rfl (hb hby own_d6) rfl kq) ?_
    show GoOn p e below (s₁.setTop (mkF m 8 #[.val (.ref wa), .val (.ref va), .val (.int (Int32.ofNat 0)), .val (.int (Int32.ofNat 3)), .val (.double (Jvm.FP.dadd (Jvm.FP.dadd (Jvm.FP.dadd Jvm.FP.dconst0 (Jvm.FP.dmul x0 y0)) (Jvm.FP.dmul x1 y1)) (Jvm.FP.dmul x2 y2))), .second, .val (.int ((((Int32.ofNat 0) + Int32.ofInt 1) + Int32.ofInt 1) + Int32.ofInt 1))] [(.int ((((Int32.ofNat 0) + Int32.ofInt 1) + Int32.ofInt 1) + Int32.ofInt 1))])) _
    refine GoOn.step (fun tq kq => XS.iloadN X0.here hx rfl (hb hby own_d7) rfl kq) ?_
    show GoOn p e below (s₁.setTop (mkF m 9 #[.val (.ref wa), .val (.ref va), .val (.int (Int32.ofNat 0)), .val (.int (Int32.ofNat 3)), .val (.double (Jvm.FP.dadd (Jvm.FP.dadd (Jvm.FP.dadd Jvm.FP.dconst0 (Jvm.FP.dmul x0 y0)) (Jvm.FP.dmul x1 y1)) (Jvm.FP.dmul x2 y2))), .second, .val (.int ((((Int32.ofNat 0) + Int32.ofInt 1) + Int32.ofInt 1) + Int32.ofInt 1))] [(.int (Int32.ofNat 3)), (.int ((((Int32.ofNat 0) + Int32.ofInt 1) + Int32.ofInt 1) + Int32.ofInt 1))])) _
    refine GoOn.step (fun tq kq => XS.icmpYes X0.here hx rfl (pc0 := 9) (pc' := 32) rfl (hb hby own_d8) rfl (flt (by decide)).2.1 (by decide) (by decide) kq) ?_
    show GoOn p e below (s₁.setTop (mkF m 32 #[.val (.ref wa), .val (.ref va), .val (.int (Int32.ofNat 0)), .val (.int (Int32.ofNat 3)), .val (.double (Jvm.FP.dadd (Jvm.FP.dadd (Jvm.FP.dadd Jvm.FP.dconst0 (Jvm.FP.dmul x0 y0)) (Jvm.FP.dmul x1 y1)) (Jvm.FP.dmul x2 y2))), .second, .val (.int ((((Int32.ofNat 0) + Int32.ofInt 1) + Int32.ofInt 1) + Int32.ofInt 1))] [])) _
    refine GoOn.step (fun tq kq => XS.dload X0.here hx rfl (hb hby own_d9) rfl kq) ?_
    show GoOn p e below (s₁.setTop (mkF m 34 #[.val (.ref wa), .val (.ref va), .val (.int (Int32.ofNat 0)), .val (.int (Int32.ofNat 3)), .val (.double (Jvm.FP.dadd (Jvm.FP.dadd (Jvm.FP.dadd Jvm.FP.dconst0 (Jvm.FP.dmul x0 y0)) (Jvm.FP.dmul x1 y1)) (Jvm.FP.dmul x2 y2))), .second, .val (.int ((((Int32.ofNat 0) + Int32.ofInt 1) + Int32.ofInt 1) + Int32.ofInt 1))] [(.double (Jvm.FP.dadd (Jvm.FP.dadd (Jvm.FP.dadd Jvm.FP.dconst0 (Jvm.FP.dmul x0 y0)) (Jvm.FP.dmul x1 y1)) (Jvm.FP.dmul x2 y2)))])) _
    refine GoOn.ret X0 Bd.notSynchronized (v := some (.double (Jvm.FP.dadd (Jvm.FP.dadd (Jvm.FP.dadd Jvm.FP.dconst0 (Jvm.FP.dmul x0 y0)) (Jvm.FP.dmul x1 y1)) (Jvm.FP.dmul x2 y2)))) (fun h => by rw [Bd.returns] at h; cases h) (fun fs hr => retOut X0 hx Bd.returns rfl (Or.inr (Or.inr (Or.inl ⟨rfl, rfl, _, rfl⟩))) (hb hby own_d10) hr) (by decide) (by decide) ?_
    rw [e0]
    exact ⟨_, rfl, N0, rfl, by rw [own_sm_0_3]; exact P18⟩
  · skip
    show GoOn p e below (s₁.setTop (mkF m 0 #[.val (.ref wa), .val (.ref va), .val (.int (Int32.ofNat 0)), .val (.int (Int32.ofNat 4)), .unset, .unset, .unset] [])) _
    refine GoOn.step (fun tq kq => XS.dconst0 X0.here hx rfl (hb hby own_d2) (v := Jvm.FP.dconst0) rfl kq) ?_
    show GoOn p e below (s₁.setTop (mkF m 1 #[.val (.ref wa), .val (.ref va), .val (.int (Int32.ofNat 0)), .val (.int (Int32.ofNat 4)), .unset, .unset, .unset] [(.double Jvm.FP.dconst0)])) _
    refine GoOn.step (fun tq kq => XS.dstore X0.here hx rfl (hb hby own_d3) rfl (l' := #[.val (.ref wa), .val (.ref va), .val (.int (Int32.ofNat 0)), .val (.int (Int32.ofNat 4)), .val (.double Jvm.FP.dconst0), .second, .unset]) rfl kq) ?_
    show GoOn p e below (s₁.setTop (mkF m 3 #[.val (.ref wa), .val (.ref va), .val (.int (Int32.ofNat 0)), .val (.int (Int32.ofNat 4)), .val (.double Jvm.FP.dconst0), .second, .unset] [])) _
    refine GoOn.step (fun tq kq => XS.iloadN X0.here hx rfl (hb hby own_d4) rfl kq) ?_
    show GoOn p e below (s₁.setTop (mkF m 4 #[.val (.ref wa), .val (.ref va), .val (.int (Int32.ofNat 0)), .val (.int (Int32.ofNat 4)), .val (.double Jvm.FP.dconst0), .second, .unset] [(.int (Int32.ofNat 0))])) _
    refine GoOn.step (fun tq kq => XS.istore X0.here hx rfl (hb hby own_d5) rfl (l' := #[.val (.ref wa), .val (.ref va), .val (.int (Int32.ofNat 0)), .val (.int (Int32.ofNat 4)), .val (.double Jvm.FP.dconst0), .second, .val (.int (Int32.ofNat 0))]) rfl kq) ?_
    show GoOn p e below (s₁.setTop (mkF m 6 #[.val (.ref wa), .val (.ref va), .val (.int (Int32.ofNat 0)), .val (.int (Int32.ofNat 4)), .val (.double Jvm.FP.dconst0), .second, .val (.int (Int32.ofNat 0))] [])) _
    refine GoOn.step (fun tq kq => XS.iload X0.here hx rfl (hb hby own_d6) rfl kq) ?_
    show GoOn p e below (s₁.setTop (mkF m 8 #[.val (.ref wa), .val (.ref va), .val (.int (Int32.ofNat 0)), .val (.int (Int32.ofNat 4)), .val (.double Jvm.FP.dconst0), .second, .val (.int (Int32.ofNat 0))] [(.int (Int32.ofNat 0))])) _
    refine GoOn.step (fun tq kq => XS.iloadN X0.here hx rfl (hb hby own_d7) rfl kq) ?_
    show GoOn p e below (s₁.setTop (mkF m 9 #[.val (.ref wa), .val (.ref va), .val (.int (Int32.ofNat 0)), .val (.int (Int32.ofNat 4)), .val (.double Jvm.FP.dconst0), .second, .val (.int (Int32.ofNat 0))] [(.int (Int32.ofNat 4)), (.int (Int32.ofNat 0))])) _
    refine GoOn.step (fun tq kq => XS.icmpNo X0.here hx rfl (hb hby own_d8) rfl (tlt (by decide)).2.1 kq) ?_
    show GoOn p e below (s₁.setTop (mkF m 12 #[.val (.ref wa), .val (.ref va), .val (.int (Int32.ofNat 0)), .val (.int (Int32.ofNat 4)), .val (.double Jvm.FP.dconst0), .second, .val (.int (Int32.ofNat 0))] [])) _
    refine GoOn.step (fun tq kq => XS.dload X0.here hx rfl (hb hby own_d11) rfl kq) ?_
    show GoOn p e below (s₁.setTop (mkF m 14 #[.val (.ref wa), .val (.ref va), .val (.int (Int32.ofNat 0)), .val (.int (Int32.ofNat 4)), .val (.double Jvm.FP.dconst0), .second, .val (.int (Int32.ofNat 0))] [(.double Jvm.FP.dconst0)])) _
    refine GoOn.step (fun tq kq => XS.aloadN X0.here hx rfl (hb hby own_d12) rfl rfl kq) ?_
    show GoOn p e below (s₁.setTop (mkF m 15 #[.val (.ref wa), .val (.ref va), .val (.int (Int32.ofNat 0)), .val (.int (Int32.ofNat 4)), .val (.double Jvm.FP.dconst0), .second, .val (.int (Int32.ofNat 0))] [(.ref wa), (.double Jvm.FP.dconst0)])) _
    refine GoOn.step (fun tq kq => XS.iload X0.here hx rfl (hb hby own_d13) rfl kq) ?_
    show GoOn p e below (s₁.setTop (mkF m 17 #[.val (.ref wa), .val (.ref va), .val (.int (Int32.ofNat 0)), .val (.int (Int32.ofNat 4)), .val (.double Jvm.FP.dconst0), .second, .val (.int (Int32.ofNat 0))] [(.int (Int32.ofNat 0)), (.ref wa), (.double Jvm.FP.dconst0)])) _
    obtain ⟨cq19, Aq19, qq19, Sq19, Mq19, Hq19, Uq19⟩ := id Vwa
    refine GoOn.step (fun tq kq => X0.daload hx (j := (Int32.ofNat 0)) (v := (.double x0)) (by rw [e0]; exact Aq19.1) (State.isArrayOf_alike hZ.alike Aq19.2.1) Aq19.2.2 (inb_of Sq19 (by decide)) (Hq19.at (inb_of Sq19 (by decide)) rfl) (g := (mkF m 17 #[.val (.ref wa), .val (.ref va), .val (.int (Int32.ofNat 0)), .val (.int (Int32.ofNat 4)), .val (.double Jvm.FP.dconst0), .second, .val (.int (Int32.ofNat 0))] [(.int (Int32.ofNat 0)), (.ref wa), (.double Jvm.FP.dconst0)])) rfl rfl (hb hby own_d14) _ kq) ?_
    show GoOn p e below (s₁.setTop (mkF m 18 #[.val (.ref wa), .val (.ref va), .val (.int (Int32.ofNat 0)), .val (.int (Int32.ofNat 4)), .val (.double Jvm.FP.dconst0), .second, .val (.int (Int32.ofNat 0))] [(.double x0), (.double Jvm.FP.dconst0)])) _
    refine GoOn.step (fun tq kq => XS.aloadN X0.here hx rfl (hb hby own_d15) rfl rfl kq) ?_
    show GoOn p e below (s₁.setTop (mkF m 19 #[.val (.ref wa), .val (.ref va), .val (.int (Int32.ofNat 0)), .val (.int (Int32.ofNat 4)), .val (.double Jvm.FP.dconst0), .second, .val (.int (Int32.ofNat 0))] [(.ref va), (.double x0), (.double Jvm.FP.dconst0)])) _
    refine GoOn.step (fun tq kq => XS.iload X0.here hx rfl (hb hby own_d16) rfl kq) ?_
    show GoOn p e below (s₁.setTop (mkF m 21 #[.val (.ref wa), .val (.ref va), .val (.int (Int32.ofNat 0)), .val (.int (Int32.ofNat 4)), .val (.double Jvm.FP.dconst0), .second, .val (.int (Int32.ofNat 0))] [(.int (Int32.ofNat 0)), (.ref va), (.double x0), (.double Jvm.FP.dconst0)])) _
    obtain ⟨cq20, Aq20, qq20, Sq20, Mq20, Hq20, Uq20⟩ := id Vva
    refine GoOn.step (fun tq kq => X0.daload hx (j := (Int32.ofNat 0)) (v := (.double y0)) (by rw [e0]; exact Aq20.1) (State.isArrayOf_alike hZ.alike Aq20.2.1) Aq20.2.2 (inb_of Sq20 (by decide)) (Hq20.at (inb_of Sq20 (by decide)) rfl) (g := (mkF m 21 #[.val (.ref wa), .val (.ref va), .val (.int (Int32.ofNat 0)), .val (.int (Int32.ofNat 4)), .val (.double Jvm.FP.dconst0), .second, .val (.int (Int32.ofNat 0))] [(.int (Int32.ofNat 0)), (.ref va), (.double x0), (.double Jvm.FP.dconst0)])) rfl rfl (hb hby own_d17) _ kq) ?_
    show GoOn p e below (s₁.setTop (mkF m 22 #[.val (.ref wa), .val (.ref va), .val (.int (Int32.ofNat 0)), .val (.int (Int32.ofNat 4)), .val (.double Jvm.FP.dconst0), .second, .val (.int (Int32.ofNat 0))] [(.double y0), (.double x0), (.double Jvm.FP.dconst0)])) _
    refine GoOn.step (fun tq kq => XS.dmulS X0.here hx rfl (hb hby own_d18) rfl R0.no (v := (Jvm.FP.dmul x0 y0)) rfl kq) ?_
    show GoOn p e below (s₁.setTop (mkF m 23 #[.val (.ref wa), .val (.ref va), .val (.int (Int32.ofNat 0)), .val (.int (Int32.ofNat 4)), .val (.double Jvm.FP.dconst0), .second, .val (.int (Int32.ofNat 0))] [(.double (Jvm.FP.dmul x0 y0)), (.double Jvm.FP.dconst0)])) _
    have P21 : Rep (Jvm.FP.dadd Jvm.FP.dconst0 (Jvm.FP.dmul x0 y0)) (0 + z0) := Rep.add Rep.zero R0 (by omega)
    refine GoOn.step (fun tq kq => XS.daddS X0.here hx rfl (hb hby own_d19) rfl P21.no (v := (Jvm.FP.dadd Jvm.FP.dconst0 (Jvm.FP.dmul x0 y0))) rfl kq) ?_
    show GoOn p e below (s₁.setTop (mkF m 24 #[.val (.ref wa), .val (.ref va), .val (.int (Int32.ofNat 0)), .val (.int (Int32.ofNat 4)), .val (.double Jvm.FP.dconst0), .second, .val (.int (Int32.ofNat 0))] [(.double (Jvm.FP.dadd Jvm.FP.dconst0 (Jvm.FP.dmul x0 y0)))])) _
    refine GoOn.step (fun tq kq => XS.dstore X0.here hx rfl (hb hby own_d20) rfl (l' := #[.val (.ref wa), .val (.ref va), .val (.int (Int32.ofNat 0)), .val (.int (Int32.ofNat 4)), .val (.double (Jvm.FP.dadd Jvm.FP.dconst0 (Jvm.FP.dmul x0 y0))), .second, .val (.int (Int32.ofNat 0))]) rfl kq) ?_
    show GoOn p e below (s₁.setTop (mkF m 26 #[.val (.ref wa), .val (.ref va), .val (.int (Int32.ofNat 0)), .val (.int (Int32.ofNat 4)), .val (.double (Jvm.FP.dadd Jvm.FP.dconst0 (Jvm.FP.dmul x0 y0))), .second, .val (.int (Int32.ofNat 0))] [])) _
    refine GoOn.step (fun tq kq => XS.iinc X0.here hx rfl (hb hby own_d21) rfl (l' := #[.val (.ref wa), .val (.ref va), .val (.int (Int32.ofNat 0)), .val (.int (Int32.ofNat 4)), .val (.double (Jvm.FP.dadd Jvm.FP.dconst0 (Jvm.FP.dmul x0 y0))), .second, .val (.int ((Int32.ofNat 0) + Int32.ofInt 1))]) rfl kq) ?_
    show GoOn p e below (s₁.setTop (mkF m 29 #[.val (.ref wa), .val (.ref va), .val (.int (Int32.ofNat 0)), .val (.int (Int32.ofNat 4)), .val (.double (Jvm.FP.dadd Jvm.FP.dconst0 (Jvm.FP.dmul x0 y0))), .second, .val (.int ((Int32.ofNat 0) + Int32.ofInt 1))] [])) _
    refine GoOn.step (fun tq kq => XS.goto X0.here hx rfl (pc0 := 29) (pc' := 6) rfl (hb hby own_d22) (by decide) (by decide) kq) ?_
    show GoOn p e below (s₁.setTop (mkF m 6 #[.val (.ref wa), .val (.ref va), .val (.int (Int32.ofNat 0)), .val (.int (Int32.ofNat 4)), .val (.double (Jvm.FP.dadd Jvm.FP.dconst0 (Jvm.FP.dmul x0 y0))), .second, .val (.int ((Int32.ofNat 0) + Int32.ofInt 1))] [])) _
    refine GoOn.step (fun tq kq => XS.iload X0.here hx rfl (hb hby own_d6) rfl kq) ?_
    show GoOn p e below (s₁.setTop (mkF m 8 #[.val (.ref wa), .val (.ref va), .val (.int (Int32.ofNat 0)), .val (.int (Int32.ofNat 4)), .val (.double (Jvm.FP.dadd Jvm.FP.dconst0 (Jvm.FP.dmul x0 y0))), .second, .val (.int ((Int32.ofNat 0) + Int32.ofInt 1))] [(.int ((Int32.ofNat 0) + Int32.ofInt 1))])) _
    refine GoOn.step (fun tq kq => XS.iloadN X0.here hx rfl (hb hby own_d7) rfl kq) ?_
    show GoOn p e below (s₁.setTop (mkF m 9 #[.val (.ref wa), .val (.ref va), .val (.int (Int32.ofNat 0)), .val (.int (Int32.ofNat 4)), .val (.double (Jvm.FP.dadd Jvm.FP.dconst0 (Jvm.FP.dmul x0 y0))), .second, .val (.int ((Int32.ofNat 0) + Int32.ofInt 1))] [(.int (Int32.ofNat 4)), (.int ((Int32.ofNat 0) + Int32.ofInt 1))])) _
    refine GoOn.step (fun tq kq => XS.icmpNo X0.here hx rfl (hb hby own_d8) rfl (tlt (by decide)).2.1 kq) ?_
    show GoOn p e below (s₁.setTop (mkF m 12 #[.val (.ref wa), .val (.ref va), .val (.int (Int32.ofNat 0)), .val (.int (Int32.ofNat 4)), .val (.double (Jvm.FP.dadd Jvm.FP.dconst0 (Jvm.FP.dmul x0 y0))), .second, .val (.int ((Int32.ofNat 0) + Int32.ofInt 1))] [])) _
    refine GoOn.step (fun tq kq => XS.dload X0.here hx rfl (hb hby own_d11) rfl kq) ?_
    show GoOn p e below (s₁.setTop (mkF m 14 #[.val (.ref wa), .val (.ref va), .val (.int (Int32.ofNat 0)), .val (.int (Int32.ofNat 4)), .val (.double (Jvm.FP.dadd Jvm.FP.dconst0 (Jvm.FP.dmul x0 y0))), .second, .val (.int ((Int32.ofNat 0) + Int32.ofInt 1))] [(.double (Jvm.FP.dadd Jvm.FP.dconst0 (Jvm.FP.dmul x0 y0)))])) _
    refine GoOn.step (fun tq kq => XS.aloadN X0.here hx rfl (hb hby own_d12) rfl rfl kq) ?_
    show GoOn p e below (s₁.setTop (mkF m 15 #[.val (.ref wa), .val (.ref va), .val (.int (Int32.ofNat 0)), .val (.int (Int32.ofNat 4)), .val (.double (Jvm.FP.dadd Jvm.FP.dconst0 (Jvm.FP.dmul x0 y0))), .second, .val (.int ((Int32.ofNat 0) + Int32.ofInt 1))] [(.ref wa), (.double (Jvm.FP.dadd Jvm.FP.dconst0 (Jvm.FP.dmul x0 y0)))])) _
    refine GoOn.step (fun tq kq => XS.iload X0.here hx rfl (hb hby own_d13) rfl kq) ?_
    show GoOn p e below (s₁.setTop (mkF m 17 #[.val (.ref wa), .val (.ref va), .val (.int (Int32.ofNat 0)), .val (.int (Int32.ofNat 4)), .val (.double (Jvm.FP.dadd Jvm.FP.dconst0 (Jvm.FP.dmul x0 y0))), .second, .val (.int ((Int32.ofNat 0) + Int32.ofInt 1))] [(.int ((Int32.ofNat 0) + Int32.ofInt 1)), (.ref wa), (.double (Jvm.FP.dadd Jvm.FP.dconst0 (Jvm.FP.dmul x0 y0)))])) _
    obtain ⟨cq22, Aq22, qq22, Sq22, Mq22, Hq22, Uq22⟩ := id Vwa
    refine GoOn.step (fun tq kq => X0.daload hx (j := ((Int32.ofNat 0) + Int32.ofInt 1)) (v := (.double x1)) (by rw [e0]; exact Aq22.1) (State.isArrayOf_alike hZ.alike Aq22.2.1) Aq22.2.2 (inb_of Sq22 (by decide)) (Hq22.at (inb_of Sq22 (by decide)) rfl) (g := (mkF m 17 #[.val (.ref wa), .val (.ref va), .val (.int (Int32.ofNat 0)), .val (.int (Int32.ofNat 4)), .val (.double (Jvm.FP.dadd Jvm.FP.dconst0 (Jvm.FP.dmul x0 y0))), .second, .val (.int ((Int32.ofNat 0) + Int32.ofInt 1))] [(.int ((Int32.ofNat 0) + Int32.ofInt 1)), (.ref wa), (.double (Jvm.FP.dadd Jvm.FP.dconst0 (Jvm.FP.dmul x0 y0)))])) rfl rfl (hb hby own_d14) _ kq) ?_
    show GoOn p e below (s₁.setTop (mkF m 18 #[.val (.ref wa), .val (.ref va), .val (.int (Int32.ofNat 0)), .val (.int (Int32.ofNat 4)), .val (.double (Jvm.FP.dadd Jvm.FP.dconst0 (Jvm.FP.dmul x0 y0))), .second, .val (.int ((Int32.ofNat 0) + Int32.ofInt 1))] [(.double x1), (.double (Jvm.FP.dadd Jvm.FP.dconst0 (Jvm.FP.dmul x0 y0)))])) _
    refine GoOn.step (fun tq kq => XS.aloadN X0.here hx rfl (hb hby own_d15) rfl rfl kq) ?_
    show GoOn p e below (s₁.setTop (mkF m 19 #[.val (.ref wa), .val (.ref va), .val (.int (Int32.ofNat 0)), .val (.int (Int32.ofNat 4)), .val (.double (Jvm.FP.dadd Jvm.FP.dconst0 (Jvm.FP.dmul x0 y0))), .second, .val (.int ((Int32.ofNat 0) + Int32.ofInt 1))] [(.ref va), (.double x1), (.double (Jvm.FP.dadd Jvm.FP.dconst0 (Jvm.FP.dmul x0 y0)))])) _
    refine GoOn.step (fun tq kq => XS.iload X0.here hx rfl (hb hby own_d16) rfl kq) ?_
    show GoOn p e below (s₁.setTop (mkF m 21 #[.val (.ref wa), .val (.ref va), .val (.int (Int32.ofNat 0)), .val (.int (Int32.ofNat 4)), .val (.double (Jvm.FP.dadd Jvm.FP.dconst0 (Jvm.FP.dmul x0 y0))), .second, .val (.int ((Int32.ofNat 0) + Int32.ofInt 1))] [(.int ((Int32.ofNat 0) + Int32.ofInt 1)), (.ref va), (.double x1), (.double (Jvm.FP.dadd Jvm.FP.dconst0 (Jvm.FP.dmul x0 y0)))])) _
    obtain ⟨cq23, Aq23, qq23, Sq23, Mq23, Hq23, Uq23⟩ := id Vva
    refine GoOn.step (fun tq kq => X0.daload hx (j := ((Int32.ofNat 0) + Int32.ofInt 1)) (v := (.double y1)) (by rw [e0]; exact Aq23.1) (State.isArrayOf_alike hZ.alike Aq23.2.1) Aq23.2.2 (inb_of Sq23 (by decide)) (Hq23.at (inb_of Sq23 (by decide)) rfl) (g := (mkF m 21 #[.val (.ref wa), .val (.ref va), .val (.int (Int32.ofNat 0)), .val (.int (Int32.ofNat 4)), .val (.double (Jvm.FP.dadd Jvm.FP.dconst0 (Jvm.FP.dmul x0 y0))), .second, .val (.int ((Int32.ofNat 0) + Int32.ofInt 1))] [(.int ((Int32.ofNat 0) + Int32.ofInt 1)), (.ref va), (.double x1), (.double (Jvm.FP.dadd Jvm.FP.dconst0 (Jvm.FP.dmul x0 y0)))])) rfl rfl (hb hby own_d17) _ kq) ?_
    show GoOn p e below (s₁.setTop (mkF m 22 #[.val (.ref wa), .val (.ref va), .val (.int (Int32.ofNat 0)), .val (.int (Int32.ofNat 4)), .val (.double (Jvm.FP.dadd Jvm.FP.dconst0 (Jvm.FP.dmul x0 y0))), .second, .val (.int ((Int32.ofNat 0) + Int32.ofInt 1))] [(.double y1), (.double x1), (.double (Jvm.FP.dadd Jvm.FP.dconst0 (Jvm.FP.dmul x0 y0)))])) _
    refine GoOn.step (fun tq kq => XS.dmulS X0.here hx rfl (hb hby own_d18) rfl R1.no (v := (Jvm.FP.dmul x1 y1)) rfl kq) ?_
    show GoOn p e below (s₁.setTop (mkF m 23 #[.val (.ref wa), .val (.ref va), .val (.int (Int32.ofNat 0)), .val (.int (Int32.ofNat 4)), .val (.double (Jvm.FP.dadd Jvm.FP.dconst0 (Jvm.FP.dmul x0 y0))), .second, .val (.int ((Int32.ofNat 0) + Int32.ofInt 1))] [(.double (Jvm.FP.dmul x1 y1)), (.double (Jvm.FP.dadd Jvm.FP.dconst0 (Jvm.FP.dmul x0 y0)))])) _
    have P24 : Rep (Jvm.FP.dadd (Jvm.FP.dadd Jvm.FP.dconst0 (Jvm.FP.dmul x0 y0)) (Jvm.FP.dmul x1 y1)) ((0 + z0) + z1) := Rep.add P21 R1 (by omega)
    refine GoOn.step (fun tq kq => XS.daddS X0.here hx rfl (hb hby own_d19) rfl P24.no (v := (Jvm.FP.dadd (Jvm.FP.dadd Jvm.FP.dconst0 (Jvm.FP.dmul x0 y0)) (Jvm.FP.dmul x1 y1))) rfl kq) ?_
    show GoOn p e below (s₁.setTop (mkF m 24 #[.val (.ref wa), .val (.ref va), .val (.int (Int32.ofNat 0)), .val (.int (Int32.ofNat 4)), .val (.double (Jvm.FP.dadd Jvm.FP.dconst0 (Jvm.FP.dmul x0 y0))), .second, .val (.int ((Int32.ofNat 0) + Int32.ofInt 1))] [(.double (Jvm.FP.dadd (Jvm.FP.dadd Jvm.FP.dconst0 (Jvm.FP.dmul x0 y0)) (Jvm.FP.dmul x1 y1)))])) _
    refine GoOn.step (fun tq kq => XS.dstore X0.here hx rfl (hb hby own_d20) rfl (l' := #[.val (.ref wa), .val (.ref va), .val (.int (Int32.ofNat 0)), .val (.int (Int32.ofNat 4)), .val (.double (Jvm.FP.dadd (Jvm.FP.dadd Jvm.FP.dconst0 (Jvm.FP.dmul x0 y0)) (Jvm.FP.dmul x1 y1))), .second, .val (.int ((Int32.ofNat 0) + Int32.ofInt 1))]) rfl kq) ?_
    show GoOn p e below (s₁.setTop (mkF m 26 #[.val (.ref wa), .val (.ref va), .val (.int (Int32.ofNat 0)), .val (.int (Int32.ofNat 4)), .val (.double (Jvm.FP.dadd (Jvm.FP.dadd Jvm.FP.dconst0 (Jvm.FP.dmul x0 y0)) (Jvm.FP.dmul x1 y1))), .second, .val (.int ((Int32.ofNat 0) + Int32.ofInt 1))] [])) _
    refine GoOn.step (fun tq kq => XS.iinc X0.here hx rfl (hb hby own_d21) rfl (l' := #[.val (.ref wa), .val (.ref va), .val (.int (Int32.ofNat 0)), .val (.int (Int32.ofNat 4)), .val (.double (Jvm.FP.dadd (Jvm.FP.dadd Jvm.FP.dconst0 (Jvm.FP.dmul x0 y0)) (Jvm.FP.dmul x1 y1))), .second, .val (.int (((Int32.ofNat 0) + Int32.ofInt 1) + Int32.ofInt 1))]) rfl kq) ?_
    show GoOn p e below (s₁.setTop (mkF m 29 #[.val (.ref wa), .val (.ref va), .val (.int (Int32.ofNat 0)), .val (.int (Int32.ofNat 4)), .val (.double (Jvm.FP.dadd (Jvm.FP.dadd Jvm.FP.dconst0 (Jvm.FP.dmul x0 y0)) (Jvm.FP.dmul x1 y1))), .second, .val (.int (((Int32.ofNat 0) + Int32.ofInt 1) + Int32.ofInt 1))] [])) _
    refine GoOn.step (fun tq kq => XS.goto X0.here hx rfl (pc0 := 29) (pc' := 6) rfl (hb hby own_d22) (by decide) (by decide) kq) ?_
    show GoOn p e below (s₁.setTop (mkF m 6 #[.val (.ref wa), .val (.ref va), .val (.int (Int32.ofNat 0)), .val (.int (Int32.ofNat 4)), .val (.double (Jvm.FP.dadd (Jvm.FP.dadd Jvm.FP.dconst0 (Jvm.FP.dmul x0 y0)) (Jvm.FP.dmul x1 y1))), .second, .val (.int (((Int32.ofNat 0) + Int32.ofInt 1) + Int32.ofInt 1))] [])) _
    refine GoOn.step (fun tq kq => XS.iload X0.here hx rfl (hb hby own_d6) rfl kq) ?_
    show GoOn p e below (s₁.setTop (mkF m 8 #[.val (.ref wa), .val (.ref va), .val (.int (Int32.ofNat 0)), .val (.int (Int32.ofNat 4)), .val (.double (Jvm.FP.dadd (Jvm.FP.dadd Jvm.FP.dconst0 (Jvm.FP.dmul x0 y0)) (Jvm.FP.dmul x1 y1))), .second, .val (.int (((Int32.ofNat 0) + Int32.ofInt 1) + Int32.ofInt 1))] [(.int (((Int32.ofNat 0) + Int32.ofInt 1) + Int32.ofInt 1))])) _
    refine GoOn.step (fun tq kq => XS.iloadN X0.here hx rfl (hb hby own_d7) rfl kq) ?_
    show GoOn p e below (s₁.setTop (mkF m 9 #[.val (.ref wa), .val (.ref va), .val (.int (Int32.ofNat 0)), .val (.int (Int32.ofNat 4)), .val (.double (Jvm.FP.dadd (Jvm.FP.dadd Jvm.FP.dconst0 (Jvm.FP.dmul x0 y0)) (Jvm.FP.dmul x1 y1))), .second, .val (.int (((Int32.ofNat 0) + Int32.ofInt 1) + Int32.ofInt 1))] [(.int (Int32.ofNat 4)), (.int (((Int32.ofNat 0) + Int32.ofInt 1) + Int32.ofInt 1))])) _
    refine GoOn.step (fun tq kq => XS.icmpNo X0.here hx rfl (hb hby own_d8) rfl (tlt (by decide)).2.1 kq) ?_
    show GoOn p e below (s₁.setTop (mkF m 12 #[.val (.ref wa), .val (.ref va), .val (.int (Int32.ofNat 0)), .val (.int (Int32.ofNat 4)), .val (.double (Jvm.FP.dadd (Jvm.FP.dadd Jvm.FP.dconst0 (Jvm.FP.dmul x0 y0)) (Jvm.FP.dmul x1 y1))), .second, .val (.int (((Int32.ofNat 0) + Int32.ofInt 1) + Int32.ofInt 1))] [])) _
    refine GoOn.step (fun tq kq => XS.dload X0.here hx rfl (hb hby own_d11) rfl kq) ?_
    show GoOn p e below (s₁.setTop (mkF m 14 #[.val (.ref wa), .val (.ref va), .val (.int (Int32.ofNat 0)), .val (.int (Int32.ofNat 4)), .val (.double (Jvm.FP.dadd (Jvm.FP.dadd Jvm.FP.dconst0 (Jvm.FP.dmul x0 y0)) (Jvm.FP.dmul x1 y1))), .second, .val (.int (((Int32.ofNat 0) + Int32.ofInt 1) + Int32.ofInt 1))] [(.double (Jvm.FP.dadd (Jvm.FP.dadd Jvm.FP.dconst0 (Jvm.FP.dmul x0 y0)) (Jvm.FP.dmul x1 y1)))])) _
    refine GoOn.step (fun tq kq => XS.aloadN X0.here hx rfl (hb hby own_d12) rfl rfl kq) ?_
    show GoOn p e below (s₁.setTop (mkF m 15 #[.val (.ref wa), .val (.ref va), .val (.int (Int32.ofNat 0)), .val (.int (Int32.ofNat 4)), .val (.double (Jvm.FP.dadd (Jvm.FP.dadd Jvm.FP.dconst0 (Jvm.FP.dmul x0 y0)) (Jvm.FP.dmul x1 y1))), .second, .val (.int (((Int32.ofNat 0) + Int32.ofInt 1) + Int32.ofInt 1))] [(.ref wa), (.double (Jvm.FP.dadd (Jvm.FP.dadd Jvm.FP.dconst0 (Jvm.FP.dmul x0 y0)) (Jvm.FP.dmul x1 y1)))])) _
    refine GoOn.step (fun tq kq => XS.iload X0.here hx rfl (hb hby own_d13) rfl kq) ?_
    show GoOn p e below (s₁.setTop (mkF m 17 #[.val (.ref wa), .val (.ref va), .val (.int (Int32.ofNat 0)), .val (.int (Int32.ofNat 4)), .val (.double (Jvm.FP.dadd (Jvm.FP.dadd Jvm.FP.dconst0 (Jvm.FP.dmul x0 y0)) (Jvm.FP.dmul x1 y1))), .second, .val (.int (((Int32.ofNat 0) + Int32.ofInt 1) + Int32.ofInt 1))] [(.int (((Int32.ofNat 0) + Int32.ofInt 1) + Int32.ofInt 1)), (.ref wa), (.double (Jvm.FP.dadd (Jvm.FP.dadd Jvm.FP.dconst0 (Jvm.FP.dmul x0 y0)) (Jvm.FP.dmul x1 y1)))])) _
    obtain ⟨cq25, Aq25, qq25, Sq25, Mq25, Hq25, Uq25⟩ := id Vwa
    refine GoOn.step (fun tq kq => X0.daload hx (j := (((Int32.ofNat 0) + Int32.ofInt 1) + Int32.ofInt 1)) (v := (.double x2)) (by rw [e0]; exact Aq25.1) (State.isArrayOf_alike hZ.alike Aq25.2.1) Aq25.2.2 (inb_of Sq25 (by decide)) (Hq25.at (inb_of Sq25 (by decide)) rfl) (g := (mkF m 17 #[.val (.ref wa), .val (.ref va), .val (.int (Int32.ofNat 0)), .val (.int (Int32.ofNat 4)), .val (.double (Jvm.FP.dadd (Jvm.FP.dadd Jvm.FP.dconst0 (Jvm.FP.dmul x0 y0)) (Jvm.FP.dmul x1 y1))), .second, .val (.int (((Int32.ofNat 0) + Int32.ofInt 1) + Int32.ofInt 1))] [(.int (((Int32.ofNat 0) + Int32.ofInt 1) + Int32.ofInt 1)), (.ref wa), (.double (Jvm.FP.dadd (Jvm.FP.dadd Jvm.FP.dconst0 (Jvm.FP.dmul x0 y0)) (Jvm.FP.dmul x1 y1)))])) rfl rfl (hb hby own_d14) _ kq) ?_
    show GoOn p e below (s₁.setTop (mkF m 18 #[.val (.ref wa), .val (.ref va), .val (.int (Int32.ofNat 0)), .val (.int (Int32.ofNat 4)), .val (.double (Jvm.FP.dadd (Jvm.FP.dadd Jvm.FP.dconst0 (Jvm.FP.dmul x0 y0)) (Jvm.FP.dmul x1 y1))), .second, .val (.int (((Int32.ofNat 0) + Int32.ofInt 1) + Int32.ofInt 1))] [(.double x2), (.double (Jvm.FP.dadd (Jvm.FP.dadd Jvm.FP.dconst0 (Jvm.FP.dmul x0 y0)) (Jvm.FP.dmul x1 y1)))])) _
    refine GoOn.step (fun tq kq => XS.aloadN X0.here hx rfl (hb hby own_d15) rfl rfl kq) ?_
    show GoOn p e below (s₁.setTop (mkF m 19 #[.val (.ref wa), .val (.ref va), .val (.int (Int32.ofNat 0)), .val (.int (Int32.ofNat 4)), .val (.double (Jvm.FP.dadd (Jvm.FP.dadd Jvm.FP.dconst0 (Jvm.FP.dmul x0 y0)) (Jvm.FP.dmul x1 y1))), .second, .val (.int (((Int32.ofNat 0) + Int32.ofInt 1) + Int32.ofInt 1))] [(.ref va), (.double x2), (.double (Jvm.FP.dadd (Jvm.FP.dadd Jvm.FP.dconst0 (Jvm.FP.dmul x0 y0)) (Jvm.FP.dmul x1 y1)))])) _
    refine GoOn.step (fun tq kq => XS.iload X0.here hx rfl (hb hby own_d16) rfl kq) ?_
    show GoOn p e below (s₁.setTop (mkF m 21 #[.val (.ref wa), .val (.ref va), .val (.int (Int32.ofNat 0)), .val (.int (Int32.ofNat 4)), .val (.double (Jvm.FP.dadd (Jvm.FP.dadd Jvm.FP.dconst0 (Jvm.FP.dmul x0 y0)) (Jvm.FP.dmul x1 y1))), .second, .val (.int (((Int32.ofNat 0) + Int32.ofInt 1) + Int32.ofInt 1))] [(.int (((Int32.ofNat 0) + Int32.ofInt 1) + Int32.ofInt 1)), (.ref va), (.double x2), (.double (Jvm.FP.dadd (Jvm.FP.dadd Jvm.FP.dconst0 (Jvm.FP.dmul x0 y0)) (Jvm.FP.dmul x1 y1)))])) _
    obtain ⟨cq26, Aq26, qq26, Sq26, Mq26, Hq26, Uq26⟩ := id Vva
    refine GoOn.step (fun tq kq => X0.daload hx (j := (((Int32.ofNat 0) + Int32.ofInt 1) + Int32.ofInt 1)) (v := (.double y2)) (by rw [e0]; exact Aq26.1) (State.isArrayOf_alike hZ.alike Aq26.2.1) Aq26.2.2 (inb_of Sq26 (by decide)) (Hq26.at (inb_of Sq26 (by decide)) rfl) (g := (mkF m 21 #[.val (.ref wa), .val (.ref va), .val (.int (Int32.ofNat 0)), .val (.int (Int32.ofNat 4)), .val (.double (Jvm.FP.dadd (Jvm.FP.dadd Jvm.FP.dconst0 (Jvm.FP.dmul x0 y0)) (Jvm.FP.dmul x1 y1))), .second, .val (.int (((Int32.ofNat 0) + Int32.ofInt 1) + Int32.ofInt 1))] [(.int (((Int32.ofNat 0) + Int32.ofInt 1) + Int32.ofInt 1)), (.ref va), (.double x2), (.double (Jvm.FP.dadd (Jvm.FP.dadd Jvm.FP.dconst0 (Jvm.FP.dmul x0 y0)) (Jvm.FP.dmul x1 y1)))])) rfl rfl (hb hby own_d17) _ kq) ?_
    show GoOn p e below (s₁.setTop (mkF m 22 #[.val (.ref wa), .val (.ref va), .val (.int (Int32.ofNat 0)), .val (.int (Int32.ofNat 4)), .val (.double (Jvm.FP.dadd (Jvm.FP.dadd Jvm.FP.dconst0 (Jvm.FP.dmul x0 y0)) (Jvm.FP.dmul x1 y1))), .second, .val (.int (((Int32.ofNat 0) + Int32.ofInt 1) + Int32.ofInt 1))] [(.double y2), (.double x2), (.double (Jvm.FP.dadd (Jvm.FP.dadd Jvm.FP.dconst0 (Jvm.FP.dmul x0 y0)) (Jvm.FP.dmul x1 y1)))])) _
    refine GoOn.step (fun tq kq => XS.dmulS X0.here hx rfl (hb hby own_d18) rfl R2.no (v := (Jvm.FP.dmul x2 y2)) rfl kq) ?_
    show GoOn p e below (s₁.setTop (mkF m 23 #[.val (.ref wa), .val (.ref va), .val (.int (Int32.ofNat 0)), .val (.int (Int32.ofNat 4)), .val (.double (Jvm.FP.dadd (Jvm.FP.dadd Jvm.FP.dconst0 (Jvm.FP.dmul x0 y0)) (Jvm.FP.dmul x1 y1))), .second, .val (.int (((Int32.ofNat 0) + Int32.ofInt 1) + Int32.ofInt 1))] [(.double (Jvm.FP.dmul x2 y2)), (.double (Jvm.FP.dadd (Jvm.FP.dadd Jvm.FP.dconst0 (Jvm.FP.dmul x0 y0)) (Jvm.FP.dmul x1 y1)))])) _
    have P27 : Rep (Jvm.FP.dadd (Jvm.FP.dadd (Jvm.FP.dadd Jvm.FP.dconst0 (Jvm.FP.dmul x0 y0)) (Jvm.FP.dmul x1 y1)) (Jvm.FP.dmul x2 y2)) (((0 + z0) + z1) + z2) := Rep.add P24 R2 (by omega)
    refine GoOn.step (fun tq kq => XS.daddS X0.here hx rfl (hb hby own_d19) rfl P27.no (v := (Jvm.FP.dadd (Jvm.FP.dadd (Jvm.FP.dadd Jvm.FP.dconst0 (Jvm.FP.dmul x0 y0)) (Jvm.FP.dmul x1 y1)) (Jvm.FP.dmul x2 y2))) rfl kq) ?_
    show GoOn p e below (s₁.setTop (mkF m 24 #[.val (.ref wa), .val (.ref va), .val (.int (Int32.ofNat 0)), .val (.int (Int32.ofNat 4)), .val (.double (Jvm.FP.dadd (Jvm.FP.dadd Jvm.FP.dconst0 (Jvm.FP.dmul x0 y0)) (Jvm.FP.dmul x1 y1))), .second, .val (.int (((Int32.ofNat 0) + Int32.ofInt 1) + Int32.ofInt 1))] [(.double (Jvm.FP.dadd (Jvm.FP.dadd (Jvm.FP.dadd Jvm.FP.dconst0 (Jvm.FP.dmul x0 y0)) (Jvm.FP.dmul x1 y1)) (Jvm.FP.dmul x2 y2)))])) _
    refine GoOn.step (fun tq kq => XS.dstore X0.here hx rfl (hb hby own_d20) rfl (l' := #[.val (.ref wa), .val (.ref va), .val (.int (Int32.ofNat 0)), .val (.int (Int32.ofNat 4)), .val (.double (Jvm.FP.dadd (Jvm.FP.dadd (Jvm.FP.dadd Jvm.FP.dconst0 (Jvm.FP.dmul x0 y0)) (Jvm.FP.dmul x1 y1)) (Jvm.FP.dmul x2 y2))), .second, .val (.int (((Int32.ofNat 0) + Int32.ofInt 1) + Int32.ofInt 1))]) rfl kq) ?_
    show GoOn p e below (s₁.setTop (mkF m 26 #[.val (.ref wa), .val (.ref va), .val (.int (Int32.ofNat 0)), .val (.int (Int32.ofNat 4)), .val (.double (Jvm.FP.dadd (Jvm.FP.dadd (Jvm.FP.dadd Jvm.FP.dconst0 (Jvm.FP.dmul x0 y0)) (Jvm.FP.dmul x1 y1)) (Jvm.FP.dmul x2 y2))), .second, .val (.int (((Int32.ofNat 0) + Int32.ofInt 1) + Int32.ofInt 1))] [])) _
    refine GoOn.step (fun tq kq => XS.iinc X0.here hx rfl (hb hby own_d21) rfl (l' := #[.val (.ref wa), .val (.ref va), .val (.int (Int32.ofNat 0)), .val (.int (Int32.ofNat 4)), .val (.double (Jvm.FP.dadd (Jvm.FP.dadd (Jvm.FP.dadd Jvm.FP.dconst0 (Jvm.FP.dmul x0 y0)) (Jvm.FP.dmul x1 y1)) (Jvm.FP.dmul x2 y2))), .second, .val (.int ((((Int32.ofNat 0) + Int32.ofInt 1) + Int32.ofInt 1) + Int32.ofInt 1))]) rfl kq) ?_
    show GoOn p e below (s₁.setTop (mkF m 29 #[.val (.ref wa), .val (.ref va), .val (.int (Int32.ofNat 0)), .val (.int (Int32.ofNat 4)), .val (.double (Jvm.FP.dadd (Jvm.FP.dadd (Jvm.FP.dadd Jvm.FP.dconst0 (Jvm.FP.dmul x0 y0)) (Jvm.FP.dmul x1 y1)) (Jvm.FP.dmul x2 y2))), .second, .val (.int ((((Int32.ofNat 0) + Int32.ofInt 1) + Int32.ofInt 1) + Int32.ofInt 1))] [])) _
    refine GoOn.step (fun tq kq => XS.goto X0.here hx rfl (pc0 := 29) (pc' := 6) rfl (hb hby own_d22) (by decide) (by decide) kq) ?_
    show GoOn p e below (s₁.setTop (mkF m 6 #[.val (.ref wa), .val (.ref va), .val (.int (Int32.ofNat 0)), .val (.int (Int32.ofNat 4)), .val (.double (Jvm.FP.dadd (Jvm.FP.dadd (Jvm.FP.dadd Jvm.FP.dconst0 (Jvm.FP.dmul x0 y0)) (Jvm.FP.dmul x1 y1)) (Jvm.FP.dmul x2 y2))), .second, .val (.int ((((Int32.ofNat 0) + Int32.ofInt 1) + Int32.ofInt 1) + Int32.ofInt 1))] [])) _
    refine GoOn.step (fun tq kq => XS.iload X0.here hx rfl (hb hby own_d6) rfl kq) ?_
    show GoOn p e below (s₁.setTop (mkF m 8 #[.val (.ref wa), .val (.ref va), .val (.int (Int32.ofNat 0)), .val (.int (Int32.ofNat 4)), .val (.double (Jvm.FP.dadd (Jvm.FP.dadd (Jvm.FP.dadd Jvm.FP.dconst0 (Jvm.FP.dmul x0 y0)) (Jvm.FP.dmul x1 y1)) (Jvm.FP.dmul x2 y2))), .second, .val (.int ((((Int32.ofNat 0) + Int32.ofInt 1) + Int32.ofInt 1) + Int32.ofInt 1))] [(.int ((((Int32.ofNat 0) + Int32.ofInt 1) + Int32.ofInt 1) + Int32.ofInt 1))])) _
    refine GoOn.step (fun tq kq => XS.iloadN X0.here hx rfl (hb hby own_d7) rfl kq) ?_
    show GoOn p e below (s₁.setTop (mkF m 9 #[.val (.ref wa), .val (.ref va), .val (.int (Int32.ofNat 0)), .val (.int (Int32.ofNat 4)), .val (.double (Jvm.FP.dadd (Jvm.FP.dadd (Jvm.FP.dadd Jvm.FP.dconst0 (Jvm.FP.dmul x0 y0)) (Jvm.FP.dmul x1 y1)) (Jvm.FP.dmul x2 y2))), .second, .val (.int ((((Int32.ofNat 0) + Int32.ofInt 1) + Int32.ofInt 1) + Int32.ofInt 1))] [(.int (Int32.ofNat 4)), (.int ((((Int32.ofNat 0) + Int32.ofInt 1) + Int32.ofInt 1) + Int32.ofInt 1))])) _
    refine GoOn.step (fun tq kq => XS.icmpNo X0.here hx rfl (hb hby own_d8) rfl (tlt (by decide)).2.1 kq) ?_
    show GoOn p e below (s₁.setTop (mkF m 12 #[.val (.ref wa), .val (.ref va), .val (.int (Int32.ofNat 0)), .val (.int (Int32.ofNat 4)), .val (.double (Jvm.FP.dadd (Jvm.FP.dadd (Jvm.FP.dadd Jvm.FP.dconst0 (Jvm.FP.dmul x0 y0)) (Jvm.FP.dmul x1 y1)) (Jvm.FP.dmul x2 y2))), .second, .val (.int ((((Int32.ofNat 0) + Int32.ofInt 1) + Int32.ofInt 1) + Int32.ofInt 1))] [])) _
    refine GoOn.step (fun tq kq => XS.dload X0.here hx rfl (hb hby own_d11) rfl kq) ?_
    show GoOn p e below (s₁.setTop (mkF m 14 #[.val (.ref wa), .val (.ref va), .val (.int (Int32.ofNat 0)), .val (.int (Int32.ofNat 4)), .val (.double (Jvm.FP.dadd (Jvm.FP.dadd (Jvm.FP.dadd Jvm.FP.dconst0 (Jvm.FP.dmul x0 y0)) (Jvm.FP.dmul x1 y1)) (Jvm.FP.dmul x2 y2))), .second, .val (.int ((((Int32.ofNat 0) + Int32.ofInt 1) + Int32.ofInt 1) + Int32.ofInt 1))] [(.double (Jvm.FP.dadd (Jvm.FP.dadd (Jvm.FP.dadd Jvm.FP.dconst0 (Jvm.FP.dmul x0 y0)) (Jvm.FP.dmul x1 y1)) (Jvm.FP.dmul x2 y2)))])) _
    refine GoOn.step (fun tq kq => XS.aloadN X0.here hx rfl (hb hby own_d12) rfl rfl kq) ?_
    show GoOn p e below (s₁.setTop (mkF m 15 #[.val (.ref wa), .val (.ref va), .val (.int (Int32.ofNat 0)), .val (.int (Int32.ofNat 4)), .val (.double (Jvm.FP.dadd (Jvm.FP.dadd (Jvm.FP.dadd Jvm.FP.dconst0 (Jvm.FP.dmul x0 y0)) (Jvm.FP.dmul x1 y1)) (Jvm.FP.dmul x2 y2))), .second, .val (.int ((((Int32.ofNat 0) + Int32.ofInt 1) + Int32.ofInt 1) + Int32.ofInt 1))] [(.ref wa), (.double (Jvm.FP.dadd (Jvm.FP.dadd (Jvm.FP.dadd Jvm.FP.dconst0 (Jvm.FP.dmul x0 y0)) (Jvm.FP.dmul x1 y1)) (Jvm.FP.dmul x2 y2)))])) _
    refine GoOn.step (fun tq kq => XS.iload X0.here hx rfl (hb hby own_d13) rfl kq) ?_
    show GoOn p e below (s₁.setTop (mkF m 17 #[.val (.ref wa), .val (.ref va), .val (.int (Int32.ofNat 0)), .val (.int (Int32.ofNat 4)), .val (.double (Jvm.FP.dadd (Jvm.FP.dadd (Jvm.FP.dadd Jvm.FP.dconst0 (Jvm.FP.dmul x0 y0)) (Jvm.FP.dmul x1 y1)) (Jvm.FP.dmul x2 y2))), .second, .val (.int ((((Int32.ofNat 0) + Int32.ofInt 1) + Int32.ofInt 1) + Int32.ofInt 1))] [(.int ((((Int32.ofNat 0) + Int32.ofInt 1) + Int32.ofInt 1) + Int32.ofInt 1)), (.ref wa), (.double (Jvm.FP.dadd (Jvm.FP.dadd (Jvm.FP.dadd Jvm.FP.dconst0 (Jvm.FP.dmul x0 y0)) (Jvm.FP.dmul x1 y1)) (Jvm.FP.dmul x2 y2)))])) _
    obtain ⟨cq28, Aq28, qq28, Sq28, Mq28, Hq28, Uq28⟩ := id Vwa
    refine GoOn.step (fun tq kq => X0.daload hx (j := ((((Int32.ofNat 0) + Int32.ofInt 1) + Int32.ofInt 1) + Int32.ofInt 1)) (v := (.double x3)) (by rw [e0]; exact Aq28.1) (State.isArrayOf_alike hZ.alike Aq28.2.1) Aq28.2.2 (inb_of Sq28 (by decide)) (Hq28.at (inb_of Sq28 (by decide)) rfl) (g := (mkF m 17 #[.val (.ref wa), .val (.ref va), .val (.int (Int32.ofNat 0)), .val (.int (Int32.ofNat 4)), .val (.double (Jvm.FP.dadd (Jvm.FP.dadd (Jvm.FP.dadd Jvm.FP.dconst0 (Jvm.FP.dmul x0 y0)) (Jvm.FP.dmul x1 y1)) (Jvm.FP.dmul x2 y2))), .second, .val (.int ((((Int32.ofNat 0) + Int32.ofInt 1) + Int32.ofInt 1) + Int32.ofInt 1))] [(.int ((((Int32.ofNat 0) + Int32.ofInt 1) + Int32.ofInt 1) + Int32.ofInt 1)), (.ref wa), (.double (Jvm.FP.dadd (Jvm.FP.dadd (Jvm.FP.dadd Jvm.FP.dconst0 (Jvm.FP.dmul x0 y0)) (Jvm.FP.dmul x1 y1)) (Jvm.FP.dmul x2 y2)))])) rfl rfl (hb hby own_d14) _ kq) ?_
    show GoOn p e below (s₁.setTop (mkF m 18 #[.val (.ref wa), .val (.ref va), .val (.int (Int32.ofNat 0)), .val (.int (Int32.ofNat 4)), .val (.double (Jvm.FP.dadd (Jvm.FP.dadd (Jvm.FP.dadd Jvm.FP.dconst0 (Jvm.FP.dmul x0 y0)) (Jvm.FP.dmul x1 y1)) (Jvm.FP.dmul x2 y2))), .second, .val (.int ((((Int32.ofNat 0) + Int32.ofInt 1) + Int32.ofInt 1) + Int32.ofInt 1))] [(.double x3), (.double (Jvm.FP.dadd (Jvm.FP.dadd (Jvm.FP.dadd Jvm.FP.dconst0 (Jvm.FP.dmul x0 y0)) (Jvm.FP.dmul x1 y1)) (Jvm.FP.dmul x2 y2)))])) _
    refine GoOn.step (fun tq kq => XS.aloadN X0.here hx rfl (hb hby own_d15) rfl rfl kq) ?_
    show GoOn p e below (s₁.setTop (mkF m 19 #[.val (.ref wa), .val (.ref va), .val (.int (Int32.ofNat 0)), .val (.int (Int32.ofNat 4)), .val (.double (Jvm.FP.dadd (Jvm.FP.dadd (Jvm.FP.dadd Jvm.FP.dconst0 (Jvm.FP.dmul x0 y0)) (Jvm.FP.dmul x1 y1)) (Jvm.FP.dmul x2 y2))), .second, .val (.int ((((Int32.ofNat 0) + Int32.ofInt 1) + Int32.ofInt 1) + Int32.ofInt 1))] [(.ref va), (.double x3), (.double (Jvm.FP.dadd (Jvm.FP.dadd (Jvm.FP.dadd Jvm.FP.dconst0 (Jvm.FP.dmul x0 y0)) (Jvm.FP.dmul x1 y1)) (Jvm.FP.dmul x2 y2)))])) _
    refine GoOn.step (fun tq kq => XS.iload X0.here hx rfl (hb hby own_d16) rfl kq) ?_
    show GoOn p e below (s₁.setTop (mkF m 21 #[.val (.ref wa), .val (.ref va), .val (.int (Int32.ofNat 0)), .val (.int (Int32.ofNat 4)), .val (.double (Jvm.FP.dadd (Jvm.FP.dadd (Jvm.FP.dadd Jvm.FP.dconst0 (Jvm.FP.dmul x0 y0)) (Jvm.FP.dmul x1 y1)) (Jvm.FP.dmul x2 y2))), .second, .val (.int ((((Int32.ofNat 0) + Int32.ofInt 1) + Int32.ofInt 1) + Int32.ofInt 1))] [(.int ((((Int32.ofNat 0) + Int32.ofInt 1) + Int32.ofInt 1) + Int32.ofInt 1)), (.ref va), (.double x3), (.double (Jvm.FP.dadd (Jvm.FP.dadd (Jvm.FP.dadd Jvm.FP.dconst0 (Jvm.FP.dmul x0 y0)) (Jvm.FP.dmul x1 y1)) (Jvm.FP.dmul x2 y2)))])) _
    obtain ⟨cq29, Aq29, qq29, Sq29, Mq29, Hq29, Uq29⟩ := id Vva
    refine GoOn.step (fun tq kq => X0.daload hx (j := ((((Int32.ofNat 0) + Int32.ofInt 1) + Int32.ofInt 1) + Int32.ofInt 1)) (v := (.double y3)) (by rw [e0]; exact Aq29.1) (State.isArrayOf_alike hZ.alike Aq29.2.1) Aq29.2.2 (inb_of Sq29 (by decide)) (Hq29.at (inb_of Sq29 (by decide)) rfl) (g := (mkF m 21 #[.val (.ref wa), .val (.ref va), .val (.int (Int32.ofNat 0)), .val (.int (Int32.ofNat 4)), .val (.double (Jvm.FP.dadd (Jvm.FP.dadd (Jvm.FP.dadd Jvm.FP.dconst0 (Jvm.FP.dmul x0 y0)) (Jvm.FP.dmul x1 y1)) (Jvm.FP.dmul x2 y2))), .second, .val (.int ((((Int32.ofNat 0) + Int32.ofInt 1) + Int32.ofInt 1) + Int32.ofInt 1))] [(.int ((((Int32.ofNat 0) + Int32.ofInt 1) + Int32.ofInt 1) + Int32.ofInt 1)), (.ref va), (.double x3), (.double (Jvm.FP.dadd (Jvm.FP.dadd (Jvm.FP.dadd Jvm.FP.dconst0 (Jvm.FP.dmul x0 y0)) (Jvm.FP.dmul x1 y1)) (Jvm.FP.dmul x2 y2)))])) rfl rfl (hb hby own_d17) _ kq) ?_
    show GoOn p e below (s₁.setTop (mkF m 22 #[.val (.ref wa), .val (.ref va), .val (.int (Int32.ofNat 0)), .val (.int (Int32.ofNat 4)), .val (.double (Jvm.FP.dadd (Jvm.FP.dadd (Jvm.FP.dadd Jvm.FP.dconst0 (Jvm.FP.dmul x0 y0)) (Jvm.FP.dmul x1 y1)) (Jvm.FP.dmul x2 y2))), .second, .val (.int ((((Int32.ofNat 0) + Int32.ofInt 1) + Int32.ofInt 1) + Int32.ofInt 1))] [(.double y3), (.double x3), (.double (Jvm.FP.dadd (Jvm.FP.dadd (Jvm.FP.dadd Jvm.FP.dconst0 (Jvm.FP.dmul x0 y0)) (Jvm.FP.dmul x1 y1)) (Jvm.FP.dmul x2 y2)))])) _
    refine GoOn.step (fun tq kq => XS.dmulS X0.here hx rfl (hb hby own_d18) rfl R3.no (v := (Jvm.FP.dmul x3 y3)) rfl kq) ?_
    show GoOn p e below (s₁.setTop (mkF m 23 #[.val (.ref wa), .val (.ref va), .val (.int (Int32.ofNat 0)), .val (.int (Int32.ofNat 4)), .val (.double (Jvm.FP.dadd (Jvm.FP.dadd (Jvm.FP.dadd Jvm.FP.dconst0 (Jvm.FP.dmul x0 y0)) (Jvm.FP.dmul x1 y1)) (Jvm.FP.dmul x2 y2))), .second, .val (.int ((((Int32.ofNat 0) + Int32.ofInt 1) + Int32.ofInt 1) + Int32.ofInt 1))] [(.double (Jvm.FP.dmul x3 y3)), (.double (Jvm.FP.dadd (Jvm.FP.dadd (Jvm.FP.dadd Jvm.FP.dconst0 (Jvm.FP.dmul x0 y0)) (Jvm.FP.dmul x1 y1)) (Jvm.FP.dmul x2 y2)))])) _
    have P30 : Rep (Jvm.FP.dadd (Jvm.FP.dadd (Jvm.FP.dadd (Jvm.FP.dadd Jvm.FP.dconst0 (Jvm.FP.dmul x0 y0)) (Jvm.FP.dmul x1 y1)) (Jvm.FP.dmul x2 y2)) (Jvm.FP.dmul x3 y3)) ((((0 + z0) + z1) + z2) + z3) := Rep.add P27 R3 (by omega)
    refine GoOn.step (fun tq kq => XS.daddS X0.here hx rfl (hb hby own_d19) rfl P30.no (v := (Jvm.FP.dadd (Jvm.FP.dadd (Jvm.FP.dadd (Jvm.FP.dadd Jvm.FP.dconst0 (Jvm.FP.dmul x0 y0)) (Jvm.FP.dmul x1 y1)) (Jvm.FP.dmul x2 y2)) (Jvm.FP.dmul x3 y3))) rfl kq) ?_
    show GoOn p e below (s₁.setTop (mkF m 24 #[.val (.ref wa), .val (.ref va), .val (.int (Int32.ofNat 0)), .val (.int (Int32.ofNat 4)), .val (.double (Jvm.FP.dadd (Jvm.FP.dadd (Jvm.FP.dadd Jvm.FP.dconst0 (Jvm.FP.dmul x0 y0)) (Jvm.FP.dmul x1 y1)) (Jvm.FP.dmul x2 y2))), .second, .val (.int ((((Int32.ofNat 0) + Int32.ofInt 1) + Int32.ofInt 1) + Int32.ofInt 1))] [(.double (Jvm.FP.dadd (Jvm.FP.dadd (Jvm.FP.dadd (Jvm.FP.dadd Jvm.FP.dconst0 (Jvm.FP.dmul x0 y0)) (Jvm.FP.dmul x1 y1)) (Jvm.FP.dmul x2 y2)) (Jvm.FP.dmul x3 y3)))])) _
    refine GoOn.step (fun tq kq => XS.dstore X0.here hx rfl (hb hby own_d20) rfl (l' := #[.val (.ref wa), .val (.ref va), .val (.int (Int32.ofNat 0)), .val (.int (Int32.ofNat 4)), .val (.double (Jvm.FP.dadd (Jvm.FP.dadd (Jvm.FP.dadd (Jvm.FP.dadd Jvm.FP.dconst0 (Jvm.FP.dmul x0 y0)) (Jvm.FP.dmul x1 y1)) (Jvm.FP.dmul x2 y2)) (Jvm.FP.dmul x3 y3))), .second, .val (.int ((((Int32.ofNat 0) + Int32.ofInt 1) + Int32.ofInt 1) + Int32.ofInt 1))]) rfl kq) ?_
    show GoOn p e below (s₁.setTop (mkF m 26 #[.val (.ref wa), .val (.ref va), .val (.int (Int32.ofNat 0)), .val (.int (Int32.ofNat 4)), .val (.double (Jvm.FP.dadd (Jvm.FP.dadd (Jvm.FP.dadd (Jvm.FP.dadd Jvm.FP.dconst0 (Jvm.FP.dmul x0 y0)) (Jvm.FP.dmul x1 y1)) (Jvm.FP.dmul x2 y2)) (Jvm.FP.dmul x3 y3))), .second, .val (.int ((((Int32.ofNat 0) + Int32.ofInt 1) + Int32.ofInt 1) + Int32.ofInt 1))] [])) _
    refine GoOn.step (fun tq kq => XS.iinc X0.here hx rfl (hb hby own_d21) rfl (l' := #[.val (.ref wa), .val (.ref va), .val (.int (Int32.ofNat 0)), .val (.int (Int32.ofNat 4)), .val (.double (Jvm.FP.dadd (Jvm.FP.dadd (Jvm.FP.dadd (Jvm.FP.dadd Jvm.FP.dconst0 (Jvm.FP.dmul x0 y0)) (Jvm.FP.dmul x1 y1)) (Jvm.FP.dmul x2 y2)) (Jvm.FP.dmul x3 y3))), .second, .val (.int (((((Int32.ofNat 0) + Int32.ofInt 1) + Int32.ofInt 1) + Int32.ofInt 1) + Int32.ofInt 1))]) rfl kq) ?_
    show GoOn p e below (s₁.setTop (mkF m 29 #[.val (.ref wa), .val (.ref va), .val (.int (Int32.ofNat 0)), .val (.int (Int32.ofNat 4)), .val (.double (Jvm.FP.dadd (Jvm.FP.dadd (Jvm.FP.dadd (Jvm.FP.dadd Jvm.FP.dconst0 (Jvm.FP.dmul x0 y0)) (Jvm.FP.dmul x1 y1)) (Jvm.FP.dmul x2 y2)) (Jvm.FP.dmul x3 y3))), .second, .val (.int (((((Int32.ofNat 0) + Int32.ofInt 1) + Int32.ofInt 1) + Int32.ofInt 1) + Int32.ofInt 1))] [])) _
    refine GoOn.step (fun tq kq => XS.goto X0.here hx rfl (pc0 := 29) (pc' := 6) rfl (hb hby own_d22) (by decide) (by decide) kq) ?_
    show GoOn p e below (s₁.setTop (mkF m 6 #[.val (.ref wa), .val (.ref va), .val (.int (Int32.ofNat 0)), .val (.int (Int32.ofNat 4)), .val (.double (Jvm.FP.dadd (Jvm.FP.dadd (Jvm.FP.dadd (Jvm.FP.dadd Jvm.FP.dconst0 (Jvm.FP.dmul x0 y0)) (Jvm.FP.dmul x1 y1)) (Jvm.FP.dmul x2 y2)) (Jvm.FP.dmul x3 y3))), .second, .val (.int (((((Int32.ofNat 0) + Int32.ofInt 1) + Int32.ofInt 1) + Int32.ofInt 1) + Int32.ofInt 1))] [])) _
    refine GoOn.step (fun tq kq => XS.iload X0.here hx rfl (hb hby own_d6) rfl kq) ?_
    show GoOn p e below (s₁.setTop (mkF m 8 #[.val (.ref wa), .val (.ref va), .val (.int (Int32.ofNat 0)), .val (.int (Int32.ofNat 4)), .val (.double (Jvm.FP.dadd (Jvm.FP.dadd (Jvm.FP.dadd (Jvm.FP.dadd Jvm.FP.dconst0 (Jvm.FP.dmul x0 y0)) (Jvm.FP.dmul x1 y1)) (Jvm.FP.dmul x2 y2)) (Jvm.FP.dmul x3 y3))), .second, .val (.int (((((Int32.ofNat 0) + Int32.ofInt 1) + Int32.ofInt 1) + Int32.ofInt 1) + Int32.ofInt 1))] [(.int (((((Int32.ofNat 0) + Int32.ofInt 1) + Int32.ofInt 1) + Int32.ofInt 1) + Int32.ofInt 1))])) _
    refine GoOn.step (fun tq kq => XS.iloadN X0.here hx rfl (hb hby own_d7) rfl kq) ?_
    show GoOn p e below (s₁.setTop (mkF m 9 #[.val (.ref wa), .val (.ref va), .val (.int (Int32.ofNat 0)), .val (.int (Int32.ofNat 4)), .val (.double (Jvm.FP.dadd (Jvm.FP.dadd (Jvm.FP.dadd (Jvm.FP.dadd Jvm.FP.dconst0 (Jvm.FP.dmul x0 y0)) (Jvm.FP.dmul x1 y1)) (Jvm.FP.dmul x2 y2)) (Jvm.FP.dmul x3 y3))), .second, .val (.int (((((Int32.ofNat 0) + Int32.ofInt 1) + Int32.ofInt 1) + Int32.ofInt 1) + Int32.ofInt 1))] [(.int (Int32.ofNat 4)), (.int (((((Int32.ofNat 0) + Int32.ofInt 1) + Int32.ofInt 1) + Int32.ofInt 1) + Int32.ofInt 1))])) _
    refine GoOn.step (fun tq kq => XS.icmpYes X0.here hx rfl (pc0 := 9) (pc' := 32) rfl (hb hby own_d8) rfl (flt (by decide)).2.1 (by decide) (by decide) kq) ?_
    show GoOn p e below (s₁.setTop (mkF m 32 #[.val (.ref wa), .val (.ref va), .val (.int (Int32.ofNat 0)), .val (.int (Int32.ofNat 4)), .val (.double (Jvm.FP.dadd (Jvm.FP.dadd (Jvm.FP.dadd (Jvm.FP.dadd Jvm.FP.dconst0 (Jvm.FP.dmul x0 y0)) (Jvm.FP.dmul x1 y1)) (Jvm.FP.dmul x2 y2)) (Jvm.FP.dmul x3 y3))), .second, .val (.int (((((Int32.ofNat 0) + Int32.ofInt 1) + Int32.ofInt 1) + Int32.ofInt 1) + Int32.ofInt 1))] [])) _
    refine GoOn.step (fun tq kq => XS.dload X0.here hx rfl (hb hby own_d9) rfl kq) ?_
    show GoOn p e below (s₁.setTop (mkF m 34 #[.val (.ref wa), .val (.ref va), .val (.int (Int32.ofNat 0)), .val (.int (Int32.ofNat 4)), .val (.double (Jvm.FP.dadd (Jvm.FP.dadd (Jvm.FP.dadd (Jvm.FP.dadd Jvm.FP.dconst0 (Jvm.FP.dmul x0 y0)) (Jvm.FP.dmul x1 y1)) (Jvm.FP.dmul x2 y2)) (Jvm.FP.dmul x3 y3))), .second, .val (.int (((((Int32.ofNat 0) + Int32.ofInt 1) + Int32.ofInt 1) + Int32.ofInt 1) + Int32.ofInt 1))] [(.double (Jvm.FP.dadd (Jvm.FP.dadd (Jvm.FP.dadd (Jvm.FP.dadd Jvm.FP.dconst0 (Jvm.FP.dmul x0 y0)) (Jvm.FP.dmul x1 y1)) (Jvm.FP.dmul x2 y2)) (Jvm.FP.dmul x3 y3)))])) _
    refine GoOn.ret X0 Bd.notSynchronized (v := some (.double (Jvm.FP.dadd (Jvm.FP.dadd (Jvm.FP.dadd (Jvm.FP.dadd Jvm.FP.dconst0 (Jvm.FP.dmul x0 y0)) (Jvm.FP.dmul x1 y1)) (Jvm.FP.dmul x2 y2)) (Jvm.FP.dmul x3 y3)))) (fun h => by rw [Bd.returns] at h; cases h) (fun fs hr => retOut X0 hx Bd.returns rfl (Or.inr (Or.inr (Or.inl ⟨rfl, rfl, _, rfl⟩))) (hb hby own_d10) hr) (by decide) (by decide) ?_
    rw [e0]
    exact ⟨_, rfl, N0, rfl, by rw [own_sm_0_4]; exact P30⟩
  · skip
    show GoOn p e below (s₁.setTop (mkF m 0 #[.val (.ref wa), .val (.ref va), .val (.int (Int32.ofNat 1)), .val (.int (Int32.ofNat 0)), .unset, .unset, .unset] [])) _
    refine GoOn.step (fun tq kq => XS.dconst0 X0.here hx rfl (hb hby own_d2) (v := Jvm.FP.dconst0) rfl kq) ?_
    show GoOn p e below (s₁.setTop (mkF m 1 #[.val (.ref wa), .val (.ref va), .val (.int (Int32.ofNat 1)), .val (.int (Int32.ofNat 0)), .unset, .unset, .unset] [(.double Jvm.FP.dconst0)])) _
    refine GoOn.step (fun tq kq => XS.dstore X0.here hx rfl (hb hby own_d3) rfl (l' := #[.val (.ref wa), .val (.ref va), .val (.int (Int32.ofNat 1)), .val (.int (Int32.ofNat 0)), .val (.double Jvm.FP.dconst0), .second, .unset]) rfl kq) ?_
    show GoOn p e below (s₁.setTop (mkF m 3 #[.val (.ref wa), .val (.ref va), .val (.int (Int32.ofNat 1)), .val (.int (Int32.ofNat 0)), .val (.double Jvm.FP.dconst0), .second, .unset] [])) _
    refine GoOn.step (fun tq kq => XS.iloadN X0.here hx rfl (hb hby own_d4) rfl kq) ?_
    show GoOn p e below (s₁.setTop (mkF m 4 #[.val (.ref wa), .val (.ref va), .val (.int (Int32.ofNat 1)), .val (.int (Int32.ofNat 0)), .val (.double Jvm.FP.dconst0), .second, .unset] [(.int (Int32.ofNat 1))])) _
    refine GoOn.step (fun tq kq => XS.istore X0.here hx rfl (hb hby own_d5) rfl (l' := #[.val (.ref wa), .val (.ref va), .val (.int (Int32.ofNat 1)), .val (.int (Int32.ofNat 0)), .val (.double Jvm.FP.dconst0), .second, .val (.int (Int32.ofNat 1))]) rfl kq) ?_
    show GoOn p e below (s₁.setTop (mkF m 6 #[.val (.ref wa), .val (.ref va), .val (.int (Int32.ofNat 1)), .val (.int (Int32.ofNat 0)), .val (.double Jvm.FP.dconst0), .second, .val (.int (Int32.ofNat 1))] [])) _
    refine GoOn.step (fun tq kq => XS.iload X0.here hx rfl (hb hby own_d6) rfl kq) ?_
    show GoOn p e below (s₁.setTop (mkF m 8 #[.val (.ref wa), .val (.ref va), .val (.int (Int32.ofNat 1)), .val (.int (Int32.ofNat 0)), .val (.double Jvm.FP.dconst0), .second, .val (.int (Int32.ofNat 1))] [(.int (Int32.ofNat 1))])) _
    refine GoOn.step (fun tq kq => XS.iloadN X0.here hx rfl (hb hby own_d7) rfl kq) ?_
    show GoOn p e below (s₁.setTop (mkF m 9 #[.val (.ref wa), .val (.ref va), .val (.int (Int32.ofNat 1)), .val (.int (Int32.ofNat 0)), .val (.double Jvm.FP.dconst0), .second, .val (.int (Int32.ofNat 1))] [(.int (Int32.ofNat 0)), (.int (Int32.ofNat 1))])) _
    refine GoOn.step (fun tq kq => XS.icmpYes X0.here hx rfl (pc0 := 9) (pc' := 32) rfl (hb hby own_d8) rfl (flt (by decide)).2.1 (by decide) (by decide) kq) ?_
    show GoOn p e below (s₁.setTop (mkF m 32 #[.val (.ref wa), .val (.ref va), .val (.int (Int32.ofNat 1)), .val (.int (Int32.ofNat 0)), .val (.double Jvm.FP.dconst0), .second, .val (.int (Int32.ofNat 1))] [])) _
    refine GoOn.step (fun tq kq => XS.dload X0.here hx rfl (hb hby own_d9) rfl kq) ?_
    show GoOn p e below (s₁.setTop (mkF m 34 #[.val (.ref wa), .val (.ref va), .val (.int (Int32.ofNat 1)), .val (.int (Int32.ofNat 0)), .val (.double Jvm.FP.dconst0), .second, .val (.int (Int32.ofNat 1))] [(.double Jvm.FP.dconst0)])) _
    refine GoOn.ret X0 Bd.notSynchronized (v := some (.double Jvm.FP.dconst0)) (fun h => by rw [Bd.returns] at h; cases h) (fun fs hr => retOut X0 hx Bd.returns rfl (Or.inr (Or.inr (Or.inl ⟨rfl, rfl, _, rfl⟩))) (hb hby own_d10) hr) (by decide) (by decide) ?_
    rw [e0]
    exact ⟨_, rfl, N0, rfl, by rw [own_sm_1_0]; exact Rep.zero⟩
  · skip
    show GoOn p e below (s₁.setTop (mkF m 0 #[.val (.ref wa), .val (.ref va), .val (.int (Int32.ofNat 1)), .val (.int (Int32.ofNat 1)), .unset, .unset, .unset] [])) _
    refine GoOn.step (fun tq kq => XS.dconst0 X0.here hx rfl (hb hby own_d2) (v := Jvm.FP.dconst0) rfl kq) ?_
    show GoOn p e below (s₁.setTop (mkF m 1 #[.val (.ref wa), .val (.ref va), .val (.int (Int32.ofNat 1)), .val (.int (Int32.ofNat 1)), .unset, .unset, .unset] [(.double Jvm.FP.dconst0)])) _
    refine GoOn.step (fun tq kq => XS.dstore X0.here hx rfl (hb hby own_d3) rfl (l' := #[.val (.ref wa), .val (.ref va), .val (.int (Int32.ofNat 1)), .val (.int (Int32.ofNat 1)), .val (.double Jvm.FP.dconst0), .second, .unset]) rfl kq) ?_
    show GoOn p e below (s₁.setTop (mkF m 3 #[.val (.ref wa), .val (.ref va), .val (.int (Int32.ofNat 1)), .val (.int (Int32.ofNat 1)), .val (.double Jvm.FP.dconst0), .second, .unset] [])) _
    refine GoOn.step (fun tq kq => XS.iloadN X0.here hx rfl (hb hby own_d4) rfl kq) ?_
    show GoOn p e below (s₁.setTop (mkF m 4 #[.val (.ref wa), .val (.ref va), .val (.int (Int32.ofNat 1)), .val (.int (Int32.ofNat 1)), .val (.double Jvm.FP.dconst0), .second, .unset] [(.int (Int32.ofNat 1))])) _
    refine GoOn.step (fun tq kq => XS.istore X0.here hx rfl (hb hby own_d5) rfl (l' := #[.val (.ref wa), .val (.ref va), .val (.int (Int32.ofNat 1)), .val (.int (Int32.ofNat 1)), .val (.double Jvm.FP.dconst0), .second, .val (.int (Int32.ofNat 1))]) rfl kq) ?_
    show GoOn p e below (s₁.setTop (mkF m 6 #[.val (.ref wa), .val (.ref va), .val (.int (Int32.ofNat 1)), .val (.int (Int32.ofNat 1)), .val (.double Jvm.FP.dconst0), .second, .val (.int (Int32.ofNat 1))] [])) _
    refine GoOn.step (fun tq kq => XS.iload X0.here hx rfl (hb hby own_d6) rfl kq) ?_
    show GoOn p e below (s₁.setTop (mkF m 8 #[.val (.ref wa), .val (.ref va), .val (.int (Int32.ofNat 1)), .val (.int (Int32.ofNat 1)), .val (.double Jvm.FP.dconst0), .second, .val (.int (Int32.ofNat 1))] [(.int (Int32.ofNat 1))])) _
    refine GoOn.step (fun tq kq => XS.iloadN X0.here hx rfl (hb hby own_d7) rfl kq) ?_
    show GoOn p e below (s₁.setTop (mkF m 9 #[.val (.ref wa), .val (.ref va), .val (.int (Int32.ofNat 1)), .val (.int (Int32.ofNat 1)), .val (.double Jvm.FP.dconst0), .second, .val (.int (Int32.ofNat 1))] [(.int (Int32.ofNat 1)), (.int (Int32.ofNat 1))])) _
    refine GoOn.step (fun tq kq => XS.icmpYes X0.here hx rfl (pc0 := 9) (pc' := 32) rfl (hb hby own_d8) rfl (flt (by decide)).2.1 (by decide) (by decide) kq) ?_
    show GoOn p e below (s₁.setTop (mkF m 32 #[.val (.ref wa), .val (.ref va), .val (.int (Int32.ofNat 1)), .val (.int (Int32.ofNat 1)), .val (.double Jvm.FP.dconst0), .second, .val (.int (Int32.ofNat 1))] [])) _
    refine GoOn.step (fun tq kq => XS.dload X0.here hx rfl (hb hby own_d9) rfl kq) ?_
    show GoOn p e below (s₁.setTop (mkF m 34 #[.val (.ref wa), .val (.ref va), .val (.int (Int32.ofNat 1)), .val (.int (Int32.ofNat 1)), .val (.double Jvm.FP.dconst0), .second, .val (.int (Int32.ofNat 1))] [(.double Jvm.FP.dconst0)])) _
    refine GoOn.ret X0 Bd.notSynchronized (v := some (.double Jvm.FP.dconst0)) (fun h => by rw [Bd.returns] at h; cases h) (fun fs hr => retOut X0 hx Bd.returns rfl (Or.inr (Or.inr (Or.inl ⟨rfl, rfl, _, rfl⟩))) (hb hby own_d10) hr) (by decide) (by decide) ?_
    rw [e0]
    exact ⟨_, rfl, N0, rfl, by rw [own_sm_1_1]; exact Rep.zero⟩
  · skip
    show GoOn p e below (s₁.setTop (mkF m 0 #[.val (.ref wa), .val (.ref va), .val (.int (Int32.ofNat 1)), .val (.int (Int32.ofNat 2)), .unset, .unset, .unset] [])) _
    refine GoOn.step (fun tq kq => XS.dconst0 X0.here hx rfl (hb hby own_d2) (v := Jvm.FP.dconst0) rfl kq) ?_
    show GoOn p e below (s₁.setTop (mkF m 1 #[.val (.ref wa), .val (.ref va), .val (.int (Int32.ofNat 1)), .val (.int (Int32.ofNat 2)), .unset, .unset, .unset] [(.double Jvm.FP.dconst0)])) _
    refine GoOn.step (fun tq kq => XS.dstore X0.here hx rfl (hb hby own_d3) rfl (l' := #[.val (.ref wa), .val (.ref va), .val (.int (Int32.ofNat 1)), .val (.int (Int32.ofNat 2)), .val (.double Jvm.FP.dconst0), .second, .unset]) rfl kq) ?_
    show GoOn p e below (s₁.setTop (mkF m 3 #[.val (.ref wa), .val (.ref va), .val (.int (Int32.ofNat 1)), .val (.int (Int32.ofNat 2)), .val (.double Jvm.FP.dconst0), .second, .unset] [])) _
    refine GoOn.step (fun tq kq => XS.iloadN X0.here hx rfl (hb hby own_d4) rfl kq) ?_
    show GoOn p e below (s₁.setTop (mkF m 4 #[.val (.ref wa), .val (.ref va), .val (.int (Int32.ofNat 1)), .val (.int (Int32.ofNat 2)), .val (.double Jvm.FP.dconst0), .second, .unset] [(.int (Int32.ofNat 1))])) _
    refine GoOn.step (fun tq kq => XS.istore X0.here hx rfl (hb hby own_d5) rfl (l' := #[.val (.ref wa), .val (.ref va), .val (.int (Int32.ofNat 1)), .val (.int (Int32.ofNat 2)), .val (.double Jvm.FP.dconst0), .second, .val (.int (Int32.ofNat 1))]) rfl kq) ?_
    show GoOn p e below (s₁.setTop (mkF m 6 #[.val (.ref wa), .val (.ref va), .val (.int (Int32.ofNat 1)), .val (.int (Int32.ofNat 2)), .val (.double Jvm.FP.dconst0), .second, .val (.int (Int32.ofNat 1))] [])) _
    refine GoOn.step (fun tq kq => XS.iload X0.here hx rfl (hb hby own_d6) rfl kq) ?_
    show GoOn p e below (s₁.setTop (mkF m 8 #[.val (.ref wa), .val (.ref va), .val (.int (Int32.ofNat 1)), .val (.int (Int32.ofNat 2)), .val (.double Jvm.FP.dconst0), .second, .val (.int (Int32.ofNat 1))] [(.int (Int32.ofNat 1))])) _
    refine GoOn.step (fun tq kq => XS.iloadN X0.here hx rfl (hb hby own_d7) rfl kq) ?_
    show GoOn p e below (s₁.setTop (mkF m 9 #[.val (.ref wa), .val (.ref va), .val (.int (Int32.ofNat 1)), .val (.int (Int32.ofNat 2)), .val (.double Jvm.FP.dconst0), .second, .val (.int (Int32.ofNat 1))] [(.int (Int32.ofNat 2)), (.int (Int32.ofNat 1))])) _
    refine GoOn.step (fun tq kq => XS.icmpNo X0.here hx rfl (hb hby own_d8) rfl (tlt (by decide)).2.1 kq) ?_
    show GoOn p e below (s₁.setTop (mkF m 12 #[.val (.ref wa), .val (.ref va), .val (.int (Int32.ofNat 1)), .val (.int (Int32.ofNat 2)), .val (.double Jvm.FP.dconst0), .second, .val (.int (Int32.ofNat 1))] [])) _
    refine GoOn.step (fun tq kq => XS.dload X0.here hx rfl (hb hby own_d11) rfl kq) ?_
    show GoOn p e below (s₁.setTop (mkF m 14 #[.val (.ref wa), .val (.ref va), .val (.int (Int32.ofNat 1)), .val (.int (Int32.ofNat 2)), .val (.double Jvm.FP.dconst0), .second, .val (.int (Int32.ofNat 1))] [(.double Jvm.FP.dconst0)])) _
    refine GoOn.step (fun tq kq => XS.aloadN X0.here hx rfl (hb hby own_d12) rfl rfl kq) ?_
    show GoOn p e below (s₁.setTop (mkF m 15 #[.val (.ref wa), .val (.ref va), .val (.int (Int32.ofNat 1)), .val (.int (Int32.ofNat 2)), .val (.double Jvm.FP.dconst0), .second, .val (.int (Int32.ofNat 1))] [(.ref wa), (.double Jvm.FP.dconst0)])) _
    refine GoOn.step (fun tq kq => XS.iload X0.here hx rfl (hb hby own_d13) rfl kq) ?_
    show GoOn p e below (s₁.setTop (mkF m 17 #[.val (.ref wa), .val (.ref va), .val (.int (Int32.ofNat 1)), .val (.int (Int32.ofNat 2)), .val (.double Jvm.FP.dconst0), .second, .val (.int (Int32.ofNat 1))] [(.int (Int32.ofNat 1)), (.ref wa), (.double Jvm.FP.dconst0)])) _
    obtain ⟨cq31, Aq31, qq31, Sq31, Mq31, Hq31, Uq31⟩ := id Vwa
    refine GoOn.step (fun tq kq => X0.daload hx (j := (Int32.ofNat 1)) (v := (.double x1)) (by rw [e0]; exact Aq31.1) (State.isArrayOf_alike hZ.alike Aq31.2.1) Aq31.2.2 (inb_of Sq31 (by decide)) (Hq31.at (inb_of Sq31 (by decide)) rfl) (g := (mkF m 17 #[.val (.ref wa), .val (.ref va), .val (.int (Int32.ofNat 1)), .val (.int (Int32.ofNat 2)), .val (.double Jvm.FP.dconst0), .second, .val (.int (Int32.ofNat 1))] [(.int (Int32.ofNat 1)), (.ref wa), (.double Jvm.FP.dconst0)])) rfl rfl (hb hby own_d14) _ kq) ?_
    show GoOn p e below (s₁.setTop (mkF m 18 #[.val (.ref wa), .val (.ref va), .val (.int (Int32.ofNat 1)), .val (.int (Int32.ofNat 2)), .val (.double Jvm.FP.dconst0), .second, .val (.int (Int32.ofNat 1))] [(.double x1), (.double Jvm.FP.dconst0)])) _
    refine GoOn.step (fun tq kq => XS.aloadN X0.here hx rfl (hb hby own_d15) rfl rfl kq) ?_
    show GoOn p e below (s₁.setTop (mkF m 19 #[.val (.ref wa), .val (.ref va), .val (.int (Int32.ofNat 1)), .val (.int (Int32.ofNat 2)), .val (.double Jvm.FP.dconst0), .second, .val (.int (Int32.ofNat 1))] [(.ref va), (.double x1), (.double Jvm.FP.dconst0)])) _
    refine GoOn.step (fun tq kq => XS.iload X0.here hx rfl (hb hby own_d16) rfl kq) ?_
    show GoOn p e below (s₁.setTop (mkF m 21 #[.val (.ref wa), .val (.ref va), .val (.int (Int32.ofNat 1)), .val (.int (Int32.ofNat 2)), .val (.double Jvm.FP.dconst0), .second, .val (.int (Int32.ofNat 1))] [(.int (Int32.ofNat 1)), (.ref va), (.double x1), (.double Jvm.FP.dconst0)])) _
    obtain ⟨cq32, Aq32, qq32, Sq32, Mq32, Hq32, Uq32⟩ := id Vva
    refine GoOn.step (fun tq kq => X0.daload hx (j := (Int32.ofNat 1)) (v := (.double y1)) (by rw [e0]; exact Aq32.1) (State.isArrayOf_alike hZ.alike Aq32.2.1) Aq32.2.2 (inb_of Sq32 (by decide)) (Hq32.at (inb_of Sq32 (by decide)) rfl) (g := (mkF m 21 #[.val (.ref wa), .val (.ref va), .val (.int (Int32.ofNat 1)), .val (.int (Int32.ofNat 2)), .val (.double Jvm.FP.dconst0), .second, .val (.int (Int32.ofNat 1))] [(.int (Int32.ofNat 1)), (.ref va), (.double x1), (.double Jvm.FP.dconst0)])) rfl rfl (hb hby own_d17) _ kq) ?_
    show GoOn p e below (s₁.setTop (mkF m 22 #[.val (.ref wa), .val (.ref va), .val (.int (Int32.ofNat 1)), .val (.int (Int32.ofNat 2)), .val (.double Jvm.FP.dconst0), .second, .val (.int (Int32.ofNat 1))] [(.double y1), (.double x1), (.double Jvm.FP.dconst0)])) _
    refine GoOn.step (fun tq kq => XS.dmulS X0.here hx rfl (hb hby own_d18) rfl R1.no (v := (Jvm.FP.dmul x1 y1)) rfl kq) ?_
    show GoOn p e below (s₁.setTop (mkF m 23 #[.val (.ref wa), .val (.ref va), .val (.int (Int32.ofNat 1)), .val (.int (Int32.ofNat 2)), .val (.double Jvm.FP.dconst0), .second, .val (.int (Int32.ofNat 1))] [(.double (Jvm.FP.dmul x1 y1)), (.double Jvm.FP.dconst0)])) _
    have P33 : Rep (Jvm.FP.dadd Jvm.FP.dconst0 (Jvm.FP.dmul x1 y1)) (0 + z1) := Rep.add Rep.zero R1 (by omega)
    refine GoOn.step (fun tq kq => XS.daddS X0.here hx rfl (hb hby own_d19) rfl P33.no (v := (Jvm.FP.dadd Jvm.FP.dconst0 (Jvm.FP.dmul x1 y1))) rfl kq) ?_
    show GoOn p e below (s₁.setTop (mkF m 24 #[.val (.ref wa), .val (.ref va), .val (.int (Int32.ofNat 1)), .val (.int (Int32.ofNat 2)), .val (.double Jvm.FP.dconst0), .second, .val (.int (Int32.ofNat 1))] [(.double (Jvm.FP.dadd Jvm.FP.dconst0 (Jvm.FP.dmul x1 y1)))])) _
    refine GoOn.step (fun tq kq => XS.dstore X0.here hx rfl (hb hby own_d20) rfl (l' := #[.val (.ref wa), .val (.ref va), .val (.int (Int32.ofNat 1)), .val (.int (Int32.ofNat 2)), .val (.double (Jvm.FP.dadd Jvm.FP.dconst0 (Jvm.FP.dmul x1 y1))), .second, .val (.int (Int32.ofNat 1))]) rfl kq) ?_
    show GoOn p e below (s₁.setTop (mkF m 26 #[.val (.ref wa), .val (.ref va), .val (.int (Int32.ofNat 1)), .val (.int (Int32.ofNat 2)), .val (.double (Jvm.FP.dadd Jvm.FP.dconst0 (Jvm.FP.dmul x1 y1))), .second, .val (.int (Int32.ofNat 1))] [])) _
    refine GoOn.step (fun tq kq => XS.iinc X0.here hx rfl (hb hby own_d21) rfl (l' := #[.val (.ref wa), .val (.ref va), .val (.int (Int32.ofNat 1)), .val (.int (Int32.ofNat 2)), .val (.double (Jvm.FP.dadd Jvm.FP.dconst0 (Jvm.FP.dmul x1 y1))), .second, .val (.int ((Int32.ofNat 1) + Int32.ofInt 1))]) rfl kq) ?_
    show GoOn p e below (s₁.setTop (mkF m 29 #[.val (.ref wa), .val (.ref va), .val (.int (Int32.ofNat 1)), .val (.int (Int32.ofNat 2)), .val (.double (Jvm.FP.dadd Jvm.FP.dconst0 (Jvm.FP.dmul x1 y1))), .second, .val (.int ((Int32.ofNat 1) + Int32.ofInt 1))] [])) _
    refine GoOn.step (fun tq kq => XS.goto X0.here hx rfl (pc0 := 29) (pc' := 6) rfl (hb hby own_d22) (by decide) (by decide) kq) ?_
    show GoOn p e below (s₁.setTop (mkF m 6 #[.val (.ref wa), .val (.ref va), .val (.int (Int32.ofNat 1)), .val (.int (Int32.ofNat 2)), .val (.double (Jvm.FP.dadd Jvm.FP.dconst0 (Jvm.FP.dmul x1 y1))), .second, .val (.int ((Int32.ofNat 1) + Int32.ofInt 1))] [])) _
    refine GoOn.step (fun tq kq => XS.iload X0.here hx rfl (hb hby own_d6) rfl kq) ?_
    show GoOn p e below (s₁.setTop (mkF m 8 #[.val (.ref wa), .val (.ref va), .val (.int (Int32.ofNat 1)), .val (.int (Int32.ofNat 2)), .val (.double (Jvm.FP.dadd Jvm.FP.dconst0 (Jvm.FP.dmul x1 y1))), .second, .val (.int ((Int32.ofNat 1) + Int32.ofInt 1))] [(.int ((Int32.ofNat 1) + Int32.ofInt 1))])) _
    refine GoOn.step (fun tq kq => XS.iloadN X0.here hx rfl (hb hby own_d7) rfl kq) ?_
    show GoOn p e below (s₁.setTop (mkF m 9 #[.val (.ref wa), .val (.ref va), .val (.int (Int32.ofNat 1)), .val (.int (Int32.ofNat 2)), .val (.double (Jvm.FP.dadd Jvm.FP.dconst0 (Jvm.FP.dmul x1 y1))), .second, .val (.int ((Int32.ofNat 1) + Int32.ofInt 1))] [(.int (Int32.ofNat 2)), (.int ((Int32.ofNat 1) + Int32.ofInt 1))])) _
    refine GoOn.step (fun tq kq => XS.icmpYes X0.here hx rfl (pc0 := 9) (pc' := 32) rfl (hb hby own_d8) rfl (flt (by decide)).2.1 (by decide) (by decide) kq) ?_
    show GoOn p e below (s₁.setTop (mkF m 32 #[.val (.ref wa), .val (.ref va), .val (.int (Int32.ofNat 1)), .val (.int (Int32.ofNat 2)), .val (.double (Jvm.FP.dadd Jvm.FP.dconst0 (Jvm.FP.dmul x1 y1))), .second, .val (.int ((Int32.ofNat 1) + Int32.ofInt 1))] [])) _
    refine GoOn.step (fun tq kq => XS.dload X0.here hx rfl (hb hby own_d9) rfl kq) ?_
    show GoOn p e below (s₁.setTop (mkF m 34 #[.val (.ref wa), .val (.ref va), .val (.int (Int32.ofNat 1)), .val (.int (Int32.ofNat 2)), .val (.double (Jvm.FP.dadd Jvm.FP.dconst0 (Jvm.FP.dmul x1 y1))), .second, .val (.int ((Int32.ofNat 1) + Int32.ofInt 1))] [(.double (Jvm.FP.dadd Jvm.FP.dconst0 (Jvm.FP.dmul x1 y1)))])) _
    refine GoOn.ret X0 Bd.notSynchronized (v := some (.double (Jvm.FP.dadd Jvm.FP.dconst0 (Jvm.FP.dmul x1 y1)))) (fun h => by rw [Bd.returns] at h; cases h) (fun fs hr => retOut X0 hx Bd.returns rfl (Or.inr (Or.inr (Or.inl ⟨rfl, rfl, _, rfl⟩))) (hb hby own_d10) hr) (by decide) (by decide) ?_
    rw [e0]
    exact ⟨_, rfl, N0, rfl, by rw [own_sm_1_2]; exact P33⟩
  · skip
    show GoOn p e below (s₁.setTop (mkF m 0 #[.val (.ref wa), .val (.ref va), .val (.int (Int32.ofNat 1)), .val (.int (Int32.ofNat 3)), .unset, .unset, .unset] [])) _
    refine GoOn.step (fun tq kq => XS.dconst0 X0.here hx rfl (hb hby own_d2) (v := Jvm.FP.dconst0) rfl kq) ?_
    show GoOn p e below (s₁.setTop (mkF m 1 #[.val (.ref wa), .val (.ref va), .val (.int (Int32.ofNat 1)), .val (.int (Int32.ofNat 3)), .unset, .unset, .unset] [(.double Jvm.FP.dconst0)])) _
    refine GoOn.step (fun tq kq => XS.dstore X0.here hx rfl (hb hby own_d3) rfl (l' := #[.val (.ref wa), .val (.ref va), .val (.int (Int32.ofNat 1)), .val (.int (Int32.ofNat 3)), .val (.double Jvm.FP.dconst0), .second, .unset]) rfl kq) ?_
    show GoOn p e below (s₁.setTop (mkF m 3 #[.val (.ref wa), .val (.ref va), .val (.int (Int32.ofNat 1)), .val (.int (Int32.ofNat 3)), .val (.double Jvm.FP.dconst0), .second, .unset] [])) _
    refine GoOn.step (fun tq kq => XS.iloadN X0.here hx rfl (hb hby own_d4) rfl kq) ?_
    show GoOn p e below (s₁.setTop (mkF m 4 #[.val (.ref wa), .val (.ref va), .val (.int (Int32.ofNat 1)), .val (.int (Int32.ofNat 3)), .val (.double Jvm.FP.dconst0), .second, .unset] [(.int (Int32.ofNat 1))])) _
    refine GoOn.step (fun tq kq => XS.istore X0.here hx rfl (hb hby own_d5) rfl (l' := #[.val (.ref wa), .val (.ref va), .val (.int (Int32.ofNat 1)), .val (.int (Int32.ofNat 3)), .val (.double Jvm.FP.dconst0), .second, .val (.int (Int32.ofNat 1))]) rfl kq) ?_
    show GoOn p e below (s₁.setTop (mkF m 6 #[.val (.ref wa), .val (.ref va), .val (.int (Int32.ofNat 1)), .val (.int (Int32.ofNat 3)), .val (.double Jvm.FP.dconst0), .second, .val (.int (Int32.ofNat 1))] [])) _
    refine GoOn.step (fun tq kq => XS.iload X0.here hx rfl (hb hby own_d6) rfl kq) ?_
    show GoOn p e below (s₁.setTop (mkF m 8 #[.val (.ref wa), .val (.ref va), .val (.int (Int32.ofNat 1)), .val (.int (Int32.ofNat 3)), .val (.double Jvm.FP.dconst0), .second, .val (.int (Int32.ofNat 1))] [(.int (Int32.ofNat 1))])) _
    refine GoOn.step (fun tq kq => XS.iloadN X0.here hx rfl (hb hby own_d7) rfl kq) ?_
    show GoOn p e below (s₁.setTop (mkF m 9 #[.val (.ref wa), .val (.ref va), .val (.int (Int32.ofNat 1)), .val (.int (Int32.ofNat 3)), .val (.double Jvm.FP.dconst0), .second, .val (.int (Int32.ofNat 1))] [(.int (Int32.ofNat 3)), (.int (Int32.ofNat 1))])) _
    refine GoOn.step (fun tq kq => XS.icmpNo X0.here hx rfl (hb hby own_d8) rfl (tlt (by decide)).2.1 kq) ?_
    show GoOn p e below (s₁.setTop (mkF m 12 #[.val (.ref wa), .val (.ref va), .val (.int (Int32.ofNat 1)), .val (.int (Int32.ofNat 3)), .val (.double Jvm.FP.dconst0), .second, .val (.int (Int32.ofNat 1))] [])) _
    refine GoOn.step (fun tq kq => XS.dload X0.here hx rfl (hb hby own_d11) rfl kq) ?_
    show GoOn p e below (s₁.setTop (mkF m 14 #[.val (.ref wa), .val (.ref va), .val (.int (Int32.ofNat 1)), .val (.int (Int32.ofNat 3)), .val (.double Jvm.FP.dconst0), .second, .val (.int (Int32.ofNat 1))] [(.double Jvm.FP.dconst0)])) _
    refine GoOn.step (fun tq kq => XS.aloadN X0.here hx rfl (hb hby own_d12) rfl rfl kq) ?_
    show GoOn p e below (s₁.setTop (mkF m 15 #[.val (.ref wa), .val (.ref va), .val (.int (Int32.ofNat 1)), .val (.int (Int32.ofNat 3)), .val (.double Jvm.FP.dconst0), .second, .val (.int (Int32.ofNat 1))] [(.ref wa), (.double Jvm.FP.dconst0)])) _
    refine GoOn.step (fun tq kq => XS.iload X0.here hx rfl (hb hby own_d13) rfl kq) ?_
    show GoOn p e below (s₁.setTop (mkF m 17 #[.val (.ref wa), .val (.ref va), .val (.int (Int32.ofNat 1)), .val (.int (Int32.ofNat 3)), .val (.double Jvm.FP.dconst0), .second, .val (.int (Int32.ofNat 1))] [(.int (Int32.ofNat 1)), (.ref wa), (.double Jvm.FP.dconst0)])) _
    obtain ⟨cq34, Aq34, qq34, Sq34, Mq34, Hq34, Uq34⟩ := id Vwa
    refine GoOn.step (fun tq kq => X0.daload hx (j := (Int32.ofNat 1)) (v := (.double x1)) (by rw [e0]; exact Aq34.1) (State.isArrayOf_alike hZ.alike Aq34.2.1) Aq34.2.2 (inb_of Sq34 (by decide)) (Hq34.at (inb_of Sq34 (by decide)) rfl) (g := (mkF m 17 #[.val (.ref wa), .val (.ref va), .val (.int (Int32.ofNat 1)), .val (.int (Int32.ofNat 3)), .val (.double Jvm.FP.dconst0), .second, .val (.int (Int32.ofNat 1))] [(.int (Int32.ofNat 1)), (.ref wa), (.double Jvm.FP.dconst0)])) rfl rfl (hb hby own_d14) _ kq) ?_
    show GoOn p e below (s₁.setTop (mkF m 18 #[.val (.ref wa), .val (.ref va), .val (.int (Int32.ofNat 1)), .val (.int (Int32.ofNat 3)), .val (.double Jvm.FP.dconst0), .second, .val (.int (Int32.ofNat 1))] [(.double x1), (.double Jvm.FP.dconst0)])) _
    refine GoOn.step (fun tq kq => XS.aloadN X0.here hx rfl (hb hby own_d15) rfl rfl kq) ?_
    show GoOn p e below (s₁.setTop (mkF m 19 #[.val (.ref wa), .val (.ref va), .val (.int (Int32.ofNat 1)), .val (.int (Int32.ofNat 3)), .val (.double Jvm.FP.dconst0), .second, .val (.int (Int32.ofNat 1))] [(.ref va), (.double x1), (.double Jvm.FP.dconst0)])) _
    refine GoOn.step (fun tq kq => XS.iload X0.here hx rfl (hb hby own_d16) rfl kq) ?_
    show GoOn p e below (s₁.setTop (mkF m 21 #[.val (.ref wa), .val (.ref va), .val (.int (Int32.ofNat 1)), .val (.int (Int32.ofNat 3)), .val (.double Jvm.FP.dconst0), .second, .val (.int (Int32.ofNat 1))] [(.int (Int32.ofNat 1)), (.ref va), (.double x1), (.double Jvm.FP.dconst0)])) _
    obtain ⟨cq35, Aq35, qq35, Sq35, Mq35, Hq35, Uq35⟩ := id Vva
    refine GoOn.step (fun tq kq => X0.daload hx (j := (Int32.ofNat 1)) (v := (.double y1)) (by rw [e0]; exact Aq35.1) (State.isArrayOf_alike hZ.alike Aq35.2.1) Aq35.2.2 (inb_of Sq35 (by decide)) (Hq35.at (inb_of Sq35 (by decide)) rfl) (g := (mkF m 21 #[.val (.ref wa), .val (.ref va), .val (.int (Int32.ofNat 1)), .val (.int (Int32.ofNat 3)), .val (.double Jvm.FP.dconst0), .second, .val (.int (Int32.ofNat 1))] [(.int (Int32.ofNat 1)), (.ref va), (.double x1), (.double Jvm.FP.dconst0)])) rfl rfl (hb hby own_d17) _ kq) ?_
    show GoOn p e below (s₁.setTop (mkF m 22 #[.val (.ref wa), .val (.ref va), .val (.int (Int32.ofNat 1)), .val (.int (Int32.ofNat 3)), .val (.double Jvm.FP.dconst0), .second, .val (.int (Int32.ofNat 1))] [(.double y1), (.double x1), (.double Jvm.FP.dconst0)])) _
    refine GoOn.step (fun tq kq => XS.dmulS X0.here hx rfl (hb hby own_d18) rfl R1.no (v := (Jvm.FP.dmul x1 y1)) rfl kq) ?_
    show GoOn p e below (s₁.setTop (mkF m 23 #[.val (.ref wa), .val (.ref va), .val (.int (Int32.ofNat 1)), .val (.int (Int32.ofNat 3)), .val (.double Jvm.FP.dconst0), .second, .val (.int (Int32.ofNat 1))] [(.double (Jvm.FP.dmul x1 y1)), (.double Jvm.FP.dconst0)])) _
    have P36 : Rep (Jvm.FP.dadd Jvm.FP.dconst0 (Jvm.FP.dmul x1 y1)) (0 + z1) := Rep.add Rep.zero R1 (by omega)
    refine GoOn.step (fun tq kq => XS.daddS X0.here hx rfl (hb hby own_d19) rfl P36.no (v := (Jvm.FP.dadd Jvm.FP.dconst0 (Jvm.FP.dmul x1 y1))) rfl kq) ?_
    show GoOn p e below (s₁.setTop (mkF m 24 #[.val (.ref wa), .val (.ref va), .val (.int (Int32.ofNat 1)), .val (.int (Int32.ofNat 3)), .val (.double Jvm.FP.dconst0), .second, .val (.int (Int32.ofNat 1))] [(.double (Jvm.FP.dadd Jvm.FP.dconst0 (Jvm.FP.dmul x1 y1)))])) _
    refine GoOn.step (fun tq kq => XS.dstore X0.here hx rfl (hb hby own_d20) rfl (l' := #[.val (.ref wa), .val (.ref va), .val (.int (Int32.ofNat 1)), .val (.int (Int32.ofNat 3)), .val (.double (Jvm.FP.dadd Jvm.FP.dconst0 (Jvm.FP.dmul x1 y1))), .second, .val (.int (Int32.ofNat 1))]) rfl kq) ?_
    show GoOn p e below (s₁.setTop (mkF m 26 #[.val (.ref wa), .val (.ref va), .val (.int (Int32.ofNat 1)), .val (.int (Int32.ofNat 3)), .val (.double (Jvm.FP.dadd Jvm.FP.dconst0 (Jvm.FP.dmul x1 y1))), .second, .val (.int (Int32.ofNat 1))] [])) _
    refine GoOn.step (fun tq kq => XS.iinc X0.here hx rfl (hb hby own_d21) rfl (l' := #[.val (.ref wa), .val (.ref va), .val (.int (Int32.ofNat 1)), .val (.int (Int32.ofNat 3)), .val (.double (Jvm.FP.dadd Jvm.FP.dconst0 (Jvm.FP.dmul x1 y1))), .second, .val (.int ((Int32.ofNat 1) + Int32.ofInt 1))]) rfl kq) ?_
    show GoOn p e below (s₁.setTop (mkF m 29 #[.val (.ref wa), .val (.ref va), .val (.int (Int32.ofNat 1)), .val (.int (Int32.ofNat 3)), .val (.double (Jvm.FP.dadd Jvm.FP.dconst0 (Jvm.FP.dmul x1 y1))), .second, .val (.int ((Int32.ofNat 1) + Int32.ofInt 1))] [])) _
    refine GoOn.step (fun tq kq => XS.goto X0.here hx rfl (pc0 := 29) (pc' := 6) rfl (hb hby own_d22) (by decide) (by decide) kq) ?_
    show GoOn p e below (s₁.setTop (mkF m 6 #[.val (.ref wa), .val (.ref va), .val (.int (Int32.ofNat 1)), .val (.int (Int32.ofNat 3)), .val (.double (Jvm.FP.dadd Jvm.FP.dconst0 (Jvm.FP.dmul x1 y1))), .second, .val (.int ((Int32.ofNat 1) + Int32.ofInt 1))] [])) _
    refine GoOn.step (fun tq kq => XS.iload X0.here hx rfl (hb hby own_d6) rfl kq) ?_
    show GoOn p e below (s₁.setTop (mkF m 8 #[.val (.ref wa), .val (.ref va), .val (.int (Int32.ofNat 1)), .val (.int (Int32.ofNat 3)), .val (.double (Jvm.FP.dadd Jvm.FP.dconst0 (Jvm.FP.dmul x1 y1))), .second, .val (.int ((Int32.ofNat 1) + Int32.ofInt 1))] [(.int ((Int32.ofNat 1) + Int32.ofInt 1))])) _
    refine GoOn.step (fun tq kq => XS.iloadN X0.here hx rfl (hb hby own_d7) rfl kq) ?_
    show GoOn p e below (s₁.setTop (mkF m 9 #[.val (.ref wa), .val (.ref va), .val (.int (Int32.ofNat 1)), .val (.int (Int32.ofNat 3)), .val (.double (Jvm.FP.dadd Jvm.FP.dconst0 (Jvm.FP.dmul x1 y1))), .second, .val (.int ((Int32.ofNat 1) + Int32.ofInt 1))] [(.int (Int32.ofNat 3)), (.int ((Int32.ofNat 1) + Int32.ofInt 1))])) _
    refine GoOn.step (fun tq kq => XS.icmpNo X0.here hx rfl (hb hby own_d8) rfl (tlt (by decide)).2.1 kq) ?_
    show GoOn p e below (s₁.setTop (mkF m 12 #[.val (.ref wa), .val (.ref va), .val (.int (Int32.ofNat 1)), .val (.int (Int32.ofNat 3)), .val (.double (Jvm.FP.dadd Jvm.FP.dconst0 (Jvm.FP.dmul x1 y1))), .second, .val (.int ((Int32.ofNat 1) + Int32.ofInt 1))] [])) _
    refine GoOn.step (fun tq kq => XS.dload X0.here hx rfl (hb hby own_d11) rfl kq) ?_
    show GoOn p e below (s₁.setTop (mkF m 14 #[.val (.ref wa), .val (.ref va), .val (.int (Int32.ofNat 1)), .val (.int (Int32.ofNat 3)), .val (.double (Jvm.FP.dadd Jvm.FP.dconst0 (Jvm.FP.dmul x1 y1))), .second, .val (.int ((Int32.ofNat 1) + Int32.ofInt 1))] [(.double (Jvm.FP.dadd Jvm.FP.dconst0 (Jvm.FP.dmul x1 y1)))])) _
    refine GoOn.step (fun tq kq => XS.aloadN X0.here hx rfl (hb hby own_d12) rfl rfl kq) ?_
    show GoOn p e below (s₁.setTop (mkF m 15 #[.val (.ref wa), .val (.ref va), .val (.int (Int32.ofNat 1)), .val (.int (Int32.ofNat 3)), .val (.double (Jvm.FP.dadd Jvm.FP.dconst0 (Jvm.FP.dmul x1 y1))), .second, .val (.int ((Int32.ofNat 1) + Int32.ofInt 1))] [(.ref wa), (.double (Jvm.FP.dadd Jvm.FP.dconst0 (Jvm.FP.dmul x1 y1)))])) _
    refine GoOn.step (fun tq kq => XS.iload X0.here hx rfl (hb hby own_d13) rfl kq) ?_
    show GoOn p e below (s₁.setTop (mkF m 17 #[.val (.ref wa), .val (.ref va), .val (.int (Int32.ofNat 1)), .val (.int (Int32.ofNat 3)), .val (.double (Jvm.FP.dadd Jvm.FP.dconst0 (Jvm.FP.dmul x1 y1))), .second, .val (.int ((Int32.ofNat 1) + Int32.ofInt 1))] [(.int ((Int32.ofNat 1) + Int32.ofInt 1)), (.ref wa), (.double (Jvm.FP.dadd Jvm.FP.dconst0 (Jvm.FP.dmul x1 y1)))])) _
    obtain ⟨cq37, Aq37, qq37, Sq37, Mq37, Hq37, Uq37⟩ := id Vwa
    refine GoOn.step (fun tq kq => X0.daload hx (j := ((Int32.ofNat 1) + Int32.ofInt 1)) (v := (.double x2)) (by rw [e0]; exact Aq37.1) (State.isArrayOf_alike hZ.alike Aq37.2.1) Aq37.2.2 (inb_of Sq37 (by decide)) (Hq37.at (inb_of Sq37 (by decide)) rfl) (g := (mkF m 17 #[.val (.ref wa), .val (.ref va), .val (.int (Int32.ofNat 1)), .val (.int (Int32.ofNat 3)), .val (.double (Jvm.FP.dadd Jvm.FP.dconst0 (Jvm.FP.dmul x1 y1))), .second, .val (.int ((Int32.ofNat 1) + Int32.ofInt 1))] [(.int ((Int32.ofNat 1) + Int32.ofInt 1)), (.ref wa), (.double (Jvm.FP.dadd Jvm.FP.dconst0 (Jvm.FP.dmul x1 y1)))])) rfl rfl (hb hby own_d14) _ kq) ?_
    show GoOn p e below (s₁.setTop (mkF m 18 #[.val (.ref wa), .val (.ref va), .val (.int (Int32.ofNat 1)), .val (.int (Int32.ofNat 3)), .val (.double (Jvm.FP.dadd Jvm.FP.dconst0 (Jvm.FP.dmul x1 y1))), .second, .val (.int ((Int32.ofNat 1) + Int32.ofInt 1))] [(.double x2), (.double (Jvm.FP.dadd Jvm.FP.dconst0 (Jvm.FP.dmul x1 y1)))])) _
    refine GoOn.step (fun tq kq => XS.aloadN X0.here hx rfl (hb hby own_d15) rfl rfl kq) ?_
    show GoOn p e below (s₁.setTop (mkF m 19 #[.val (.ref wa), .val (.ref va), .val (.int (Int32.ofNat 1)), .val (.int (Int32.ofNat 3)), .val (.double (Jvm.FP.dadd Jvm.FP.dconst0 (Jvm.FP.dmul x1 y1))), .second, .val (.int ((Int32.ofNat 1) + Int32.ofInt 1))] [(.ref va), (.double x2), (.double (Jvm.FP.dadd Jvm.FP.dconst0 (Jvm.FP.dmul x1 y1)))])) _
    refine GoOn.step (fun tq kq => XS.iload X0.here hx rfl (hb hby own_d16) rfl kq) ?_
    show GoOn p e below (s₁.setTop (mkF m 21 #[.val (.ref wa), .val (.ref va), .val (.int (Int32.ofNat 1)), .val (.int (Int32.ofNat 3)), .val (.double (Jvm.FP.dadd Jvm.FP.dconst0 (Jvm.FP.dmul x1 y1))), .second, .val (.int ((Int32.ofNat 1) + Int32.ofInt 1))] [(.int ((Int32.ofNat 1) + Int32.ofInt 1)), (.ref va), (.double x2), (.double (Jvm.FP.dadd Jvm.FP.dconst0 (Jvm.FP.dmul x1 y1)))])) _
    obtain ⟨cq38, Aq38, qq38, Sq38, Mq38, Hq38, Uq38⟩ := id Vva
    refine GoOn.step (fun tq kq => X0.daload hx (j := ((Int32.ofNat 1) + Int32.ofInt 1)) (v := (.double y2)) (by rw [e0]; exact Aq38.1) (State.isArrayOf_alike hZ.alike Aq38.2.1) Aq38.2.2 (inb_of Sq38 (by decide)) (Hq38.at (inb_of Sq38 (by decide)) rfl) (g := (mkF m 21 #[.val (.ref wa), .val (.ref va), .val (.int (Int32.ofNat 1)), .val (.int (Int32.ofNat 3)), .val (.double (Jvm.FP.dadd Jvm.FP.dconst0 (Jvm.FP.dmul x1 y1))), .second, .val (.int ((Int32.ofNat 1) + Int32.ofInt 1))] [(.int ((Int32.ofNat 1) + Int32.ofInt 1)), (.ref va), (.double x2), (.double (Jvm.FP.dadd Jvm.FP.dconst0 (Jvm.FP.dmul x1 y1)))])) rfl rfl (hb hby own_d17) _ kq) ?_
    show GoOn p e below (s₁.setTop (mkF m 22 #[.val (.ref wa), .val (.ref va), .val (.int (Int32.ofNat 1)), .val (.int (Int32.ofNat 3)), .val (.double (Jvm.FP.dadd Jvm.FP.dconst0 (Jvm.FP.dmul x1 y1))), .second, .val (.int ((Int32.ofNat 1) + Int32.ofInt 1))] [(.double y2), (.double x2), (.double (Jvm.FP.dadd Jvm.FP.dconst0 (Jvm.FP.dmul x1 y1)))])) _
    refine GoOn.step (fun tq kq => XS.dmulS X0.here hx rfl (hb hby own_d18) rfl R2.no (v := (Jvm.FP.dmul x2 y2)) rfl kq) ?_
    show GoOn p e below (s₁.setTop (mkF m 23 #[.val (.ref wa), .val (.ref va), .val (.int (Int32.ofNat 1)), .val (.int (Int32.ofNat 3)), .val (.double (Jvm.FP.dadd Jvm.FP.dconst0 (Jvm.FP.dmul x1 y1))), .second, .val (.int ((Int32.ofNat 1) + Int32.ofInt 1))] [(.double (Jvm.FP.dmul x2 y2)), (.double (Jvm.FP.dadd Jvm.FP.dconst0 (Jvm.FP.dmul x1 y1)))])) _
    have P39 : Rep (Jvm.FP.dadd (Jvm.FP.dadd Jvm.FP.dconst0 (Jvm.FP.dmul x1 y1)) (Jvm.FP.dmul x2 y2)) ((0 + z1) + z2) := Rep.add P36 R2 (by omega)
    refine GoOn.step (fun tq kq => XS.daddS X0.here hx rfl (hb hby own_d19) rfl P39.no (v := (Jvm.FP.dadd (Jvm.FP.dadd Jvm.FP.dconst0 (Jvm.FP.dmul x1 y1)) (Jvm.FP.dmul x2 y2))) rfl kq) ?_
    show GoOn p e below (s₁.setTop (mkF m 24 #[.val (.ref wa), .val (.ref va), .val (.int (Int32.ofNat 1)), .val (.int (Int32.ofNat 3)), .val (.double (Jvm.FP.dadd Jvm.FP.dconst0 (Jvm.FP.dmul x1 y1))), .second, .val (.int ((Int32.ofNat 1) + Int32.ofInt 1))] [(.double (Jvm.FP.dadd (Jvm.FP.dadd Jvm.FP.dconst0 (Jvm.FP.dmul x1 y1)) (Jvm.FP.dmul x2 y2)))])) _
    refine GoOn.step (fun tq kq => XS.dstore X0.here hx rfl (hb hby own_d20) rfl (l' := #[.val (.ref wa), .val (.ref va), .val (.int (Int32.ofNat 1)), .val (.int (Int32.ofNat 3)), .val (.double (Jvm.FP.dadd (Jvm.FP.dadd Jvm.FP.dconst0 (Jvm.FP.dmul x1 y1)) (Jvm.FP.dmul x2 y2))), .second, .val (.int ((Int32.ofNat 1) + Int32.ofInt 1))]) rfl kq) ?_
    show GoOn p e below (s₁.setTop (mkF m 26 #[.val (.ref wa), .val (.ref va), .val (.int (Int32.ofNat 1)), .val (.int (Int32.ofNat 3)), .val (.double (Jvm.FP.dadd (Jvm.FP.dadd Jvm.FP.dconst0 (Jvm.FP.dmul x1 y1)) (Jvm.FP.dmul x2 y2))), .second, .val (.int ((Int32.ofNat 1) + Int32.ofInt 1))] [])) _
    refine GoOn.step (fun tq kq => XS.iinc X0.here hx rfl (hb hby own_d21) rfl (l' := #[.val (.ref wa), .val (.ref va), .val (.int (Int32.ofNat 1)), .val (.int (Int32.ofNat 3)), .val (.double (Jvm.FP.dadd (Jvm.FP.dadd Jvm.FP.dconst0 (Jvm.FP.dmul x1 y1)) (Jvm.FP.dmul x2 y2))), .second, .val (.int (((Int32.ofNat 1) + Int32.ofInt 1) + Int32.ofInt 1))]) rfl kq) ?_
    show GoOn p e below (s₁.setTop (mkF m 29 #[.val (.ref wa), .val (.ref va), .val (.int (Int32.ofNat 1)), .val (.int (Int32.ofNat 3)), .val (.double (Jvm.FP.dadd (Jvm.FP.dadd Jvm.FP.dconst0 (Jvm.FP.dmul x1 y1)) (Jvm.FP.dmul x2 y2))), .second, .val (.int (((Int32.ofNat 1) + Int32.ofInt 1) + Int32.ofInt 1))] [])) _
    refine GoOn.step (fun tq kq => XS.goto X0.here hx rfl (pc0 := 29) (pc' := 6) rfl (hb hby own_d22) (by decide) (by decide) kq) ?_
    show GoOn p e below (s₁.setTop (mkF m 6 #[.val (.ref wa), .val (.ref va), .val (.int (Int32.ofNat 1)), .val (.int (Int32.ofNat 3)), .val (.double (Jvm.FP.dadd (Jvm.FP.dadd Jvm.FP.dconst0 (Jvm.FP.dmul x1 y1)) (Jvm.FP.dmul x2 y2))), .second, .val (.int (((Int32.ofNat 1) + Int32.ofInt 1) + Int32.ofInt 1))] [])) _
    refine GoOn.step (fun tq kq => XS.iload X0.here hx rfl (hb hby own_d6) rfl kq) ?_
    show GoOn p e below (s₁.setTop (mkF m 8 #[.val (.ref wa), .val (.ref va), .val (.int (Int32.ofNat 1)), .val (.int (Int32.ofNat 3)), .val (.double (Jvm.FP.dadd (Jvm.FP.dadd Jvm.FP.dconst0 (Jvm.FP.dmul x1 y1)) (Jvm.FP.dmul x2 y2))), .second, .val (.int (((Int32.ofNat 1) + Int32.ofInt 1) + Int32.ofInt 1))] [(.int (((Int32.ofNat 1) + Int32.ofInt 1) + Int32.ofInt 1))])) _
    refine GoOn.step (fun tq kq => XS.iloadN X0.here hx rfl (hb hby own_d7) rfl kq) ?_
    show GoOn p e below (s₁.setTop (mkF m 9 #[.val (.ref wa), .val (.ref va), .val (.int (Int32.ofNat 1)), .val (.int (Int32.ofNat 3)), .val (.double (Jvm.FP.dadd (Jvm.FP.dadd Jvm.FP.dconst0 (Jvm.FP.dmul x1 y1)) (Jvm.FP.dmul x2 y2))), .second, .val (.int (((Int32.ofNat 1) + Int32.ofInt 1) + Int32.ofInt 1))] [(.int (Int32.ofNat 3)), (.int (((Int32.ofNat 1) + Int32.ofInt 1) + Int32.ofInt 1))])) _
    refine GoOn.step (fun tq kq => XS.icmpYes X0.here hx rfl (pc0 := 9) (pc' := 32) rfl (hb hby own_d8) rfl (flt (by decide)).2.1 (by decide) (by decide) kq) ?_
    show GoOn p e below (s₁.setTop (mkF m 32 #[.val (.ref wa), .val (.ref va), .val (.int (Int32.ofNat 1)), .val (.int (Int32.ofNat 3)), .val (.double (Jvm.FP.dadd (Jvm.FP.dadd Jvm.FP.dconst0 (Jvm.FP.dmul x1 y1)) (Jvm.FP.dmul x2 y2))), .second, .val (.int (((Int32.ofNat 1) + Int32.ofInt 1) + Int32.ofInt 1))] [])) _
    refine GoOn.step (fun tq kq => XS.dload X0.here hx rfl (hb hby own_d9) rfl kq) ?_
    show GoOn p e below (s₁.setTop (mkF m 34 #[.val (.ref wa), .val (.ref va), .val (.int (Int32.ofNat 1)), .val (.int (Int32.ofNat 3)), .val (.double (Jvm.FP.dadd (Jvm.FP.dadd Jvm.FP.dconst0 (Jvm.FP.dmul x1 y1)) (Jvm.FP.dmul x2 y2))), .second, .val (.int (((Int32.ofNat 1) + Int32.ofInt 1) + Int32.ofInt 1))] [(.double (Jvm.FP.dadd (Jvm.FP.dadd Jvm.FP.dconst0 (Jvm.FP.dmul x1 y1)) (Jvm.FP.dmul x2 y2)))])) _
    refine GoOn.ret X0 Bd.notSynchronized (v := some (.double (Jvm.FP.dadd (Jvm.FP.dadd Jvm.FP.dconst0 (Jvm.FP.dmul x1 y1)) (Jvm.FP.dmul x2 y2)))) (fun h => by rw [Bd.returns] at h; cases h) (fun fs hr => retOut X0 hx Bd.returns rfl (Or.inr (Or.inr (Or.inl ⟨rfl, rfl, _, rfl⟩))) (hb hby own_d10) hr) (by decide) (by decide) ?_
    rw [e0]
    exact ⟨_, rfl, N0, rfl, by rw [own_sm_1_3]; exact P39⟩
  · skip
    show GoOn p e below (s₁.setTop (mkF m 0 #[.val (.ref wa), .val (.ref va), .val (.int (Int32.ofNat 1)), .val (.int (Int32.ofNat 4)), .unset, .unset, .unset] [])) _
    refine GoOn.step (fun tq kq => XS.dconst0 X0.here hx rfl (hb hby own_d2) (v := Jvm.FP.dconst0) rfl kq) ?_
    show GoOn p e below (s₁.setTop (mkF m 1 #[.val (.ref wa), .val (.ref va), .val (.int (Int32.ofNat 1)), .val (.int (Int32.ofNat 4)), .unset, .unset, .unset] [(.double Jvm.FP.dconst0)])) _
    refine GoOn.step (fun tq kq => XS.dstore X0.here hx rfl (hb hby own_d3) rfl (l' := #[.val (.ref wa), .val (.ref va), .val (.int (Int32.ofNat 1)), .val (.int (Int32.ofNat 4)), .val (.double Jvm.FP.dconst0), .second, .unset]) rfl kq) ?_
    show GoOn p e below (s₁.setTop (mkF m 3 #[.val (.ref wa), .val (.ref va), .val (.int (Int32.ofNat 1)), .val (.int (Int32.ofNat 4)), .val (.double Jvm.FP.dconst0), .second, .unset] [])) _
    refine GoOn.step (fun tq kq => XS.iloadN X0.here hx rfl (hb hby own_d4) rfl kq) ?_
    show GoOn p e below (s₁.setTop (mkF m 4 #[.val (.ref wa), .val (.ref va), .val (.int (Int32.ofNat 1)), .val (.int (Int32.ofNat 4)), .val (.double Jvm.FP.dconst0), .second, .unset] [(.int (Int32.ofNat 1))])) _
    refine GoOn.step (fun tq kq => XS.istore X0.here hx rfl (hb hby own_d5) rfl (l' := #[.val (.ref wa), .val (.ref va), .val (.int (Int32.ofNat 1)), .val (.int (Int32.ofNat 4)), .val (.double Jvm.FP.dconst0), .second, .val (.int (Int32.ofNat 1))]) rfl kq) ?_
    show GoOn p e below (s₁.setTop (mkF m 6 #[.val (.ref wa), .val (.ref va), .val (.int (Int32.ofNat 1)), .val (.int (Int32.ofNat 4)), .val (.double Jvm.FP.dconst0), .second, .val (.int (Int32.ofNat 1))] [])) _
    refine GoOn.step (fun tq kq => XS.iload X0.here hx rfl (hb hby own_d6) rfl kq) ?_
    show GoOn p e below (s₁.setTop (mkF m 8 #[.val (.ref wa), .val (.ref va), .val (.int (Int32.ofNat 1)), .val (.int (Int32.ofNat 4)), .val (.double Jvm.FP.dconst0), .second, .val (.int (Int32.ofNat 1))] [(.int (Int32.ofNat 1))])) _
    refine GoOn.step (fun tq kq => XS.iloadN X0.here hx rfl (hb hby own_d7) rfl kq) ?_
    show GoOn p e below (s₁.setTop (mkF m 9 #[.val (.ref wa), .val (.ref va), .val (.int (Int32.ofNat 1)), .val (.int (Int32.ofNat 4)), .val (.double Jvm.FP.dconst0), .second, .val (.int (Int32.ofNat 1))] [(.int (Int32.ofNat 4)), (.int (Int32.ofNat 1))])) _
    refine GoOn.step (fun tq kq => XS.icmpNo X0.here hx rfl (hb hby own_d8) rfl (tlt (by decide)).2.1 kq) ?_
    show GoOn p e below (s₁.setTop (mkF m 12 #[.val (.ref wa), .val (.ref va), .val (.int (Int32.ofNat 1)), .val (.int (Int32.ofNat 4)), .val (.double Jvm.FP.dconst0), .second, .val (.int (Int32.ofNat 1))] [])) _
    refine GoOn.step (fun tq kq => XS.dload X0.here hx rfl (hb hby own_d11) rfl kq) ?_
    show GoOn p e below (s₁.setTop (mkF m 14 #[.val (.ref wa), .val (.ref va), .val (.int (Int32.ofNat 1)), .val (.int (Int32.ofNat 4)), .val (.double Jvm.FP.dconst0), .second, .val (.int (Int32.ofNat 1))] [(.double Jvm.FP.dconst0)])) _
    refine GoOn.step (fun tq kq => XS.aloadN X0.here hx rfl (hb hby own_d12) rfl rfl kq) ?_
    show GoOn p e below (s₁.setTop (mkF m 15 #[.val (.ref wa), .val (.ref va), .val (.int (Int32.ofNat 1)), .val (.int (Int32.ofNat 4)), .val (.double Jvm.FP.dconst0), .second, .val (.int (Int32.ofNat 1))] [(.ref wa), (.double Jvm.FP.dconst0)])) _
    refine GoOn.step (fun tq kq => XS.iload X0.here hx rfl (hb hby own_d13) rfl kq) ?_
    show GoOn p e below (s₁.setTop (mkF m 17 #[.val (.ref wa), .val (.ref va), .val (.int (Int32.ofNat 1)), .val (.int (Int32.ofNat 4)), .val (.double Jvm.FP.dconst0), .second, .val (.int (Int32.ofNat 1))] [(.int (Int32.ofNat 1)), (.ref wa), (.double Jvm.FP.dconst0)])) _
    obtain ⟨cq40, Aq40, qq40, Sq40, Mq40, Hq40, Uq40⟩ := id Vwa
    refine GoOn.step (fun tq kq => X0.daload hx (j := (Int32.ofNat 1)) (v := (.double x1)) (by rw [e0]; exact Aq40.1) (State.isArrayOf_alike hZ.alike Aq40.2.1) Aq40.2.2 (inb_of Sq40 (by decide)) (Hq40.at (inb_of Sq40 (by decide)) rfl) (g := (mkF m 17 #[.val (.ref wa), .val (.ref va), .val (.int (Int32.ofNat 1)), .val (.int (Int32.ofNat 4)), .val (.double Jvm.FP.dconst0), .second, .val (.int (Int32.ofNat 1))] [(.int (Int32.ofNat 1)), (.ref wa), (.double Jvm.FP.dconst0)])) rfl rfl (hb hby own_d14) _ kq) ?_
    show GoOn p e below (s₁.setTop (mkF m 18 #[.val (.ref wa), .val (.ref va), .val (.int (Int32.ofNat 1)), .val (.int (Int32.ofNat 4)), .val (.double Jvm.FP.dconst0), .second, .val (.int (Int32.ofNat 1))] [(.double x1), (.double Jvm.FP.dconst0)])) _
    refine GoOn.step (fun tq kq => XS.aloadN X0.here hx rfl (hb hby own_d15) rfl rfl kq) ?_
    show GoOn p e below (s₁.setTop (mkF m 19 #[.val (.ref wa), .val (.ref va), .val (.int (Int32.ofNat 1)), .val (.int (Int32.ofNat 4)), .val (.double Jvm.FP.dconst0), .second, .val (.int (Int32.ofNat 1))] [(.ref va), (.double x1), (.double Jvm.FP.dconst0)])) _
    refine GoOn.step (fun tq kq => XS.iload X0.here hx rfl (hb hby own_d16) rfl kq) ?_
    show GoOn p e below (s₁.setTop (mkF m 21 #[.val (.ref wa), .val (.ref va), .val (.int (Int32.ofNat 1)), .val (.int (Int32.ofNat 4)), .val (.double Jvm.FP.dconst0), .second, .val (.int (Int32.ofNat 1))] [(.int (Int32.ofNat 1)), (.ref va), (.double x1), (.double Jvm.FP.dconst0)])) _
    obtain ⟨cq41, Aq41, qq41, Sq41, Mq41, Hq41, Uq41⟩ := id Vva
    refine GoOn.step (fun tq kq => X0.daload hx (j := (Int32.ofNat 1)) (v := (.double y1)) (by rw [e0]; exact Aq41.1) (State.isArrayOf_alike hZ.alike Aq41.2.1) Aq41.2.2 (inb_of Sq41 (by decide)) (Hq41.at (inb_of Sq41 (by decide)) rfl) (g := (mkF m 21 #[.val (.ref wa), .val (.ref va), .val (.int (Int32.ofNat 1)), .val (.int (Int32.ofNat 4)), .val (.double Jvm.FP.dconst0), .second, .val (.int (Int32.ofNat 1))] [(.int (Int32.ofNat 1)), (.ref va), (.double x1), (.double Jvm.FP.dconst0)])) rfl rfl (hb hby own_d17) _ kq) ?_
    show GoOn p e below (s₁.setTop (mkF m 22 #[.val (.ref wa), .val (.ref va), .val (.int (Int32.ofNat 1)), .val (.int (Int32.ofNat 4)), .val (.double Jvm.FP.dconst0), .second, .val (.int (Int32.ofNat 1))] [(.double y1), (.double x1), (.double Jvm.FP.dconst0)])) _
    refine GoOn.step (fun tq kq => XS.dmulS X0.here hx rfl (hb hby own_d18) rfl R1.no (v := (Jvm.FP.dmul x1 y1)) rfl kq) ?_
    show GoOn p e below (s₁.setTop (mkF m 23 #[.val (.ref wa), .val (.ref va), .val (.int (Int32.ofNat 1)), .val (.int (Int32.ofNat 4)), .val (.double Jvm.FP.dconst0), .second, .val (.int (Int32.ofNat 1))] [(.double (Jvm.FP.dmul x1 y1)), (.double Jvm.FP.dconst0)])) _
    have P42 : Rep (Jvm.FP.dadd Jvm.FP.dconst0 (Jvm.FP.dmul x1 y1)) (0 + z1) := Rep.add Rep.zero R1 (by omega)
    refine GoOn.step (fun tq kq => XS.daddS X0.here hx rfl (hb hby own_d19) rfl P42.no (v := (Jvm.FP.dadd Jvm.FP.dconst0 (Jvm.FP.dmul x1 y1))) rfl kq) ?_
    show GoOn p e below (s₁.setTop (mkF m 24 #[.val (.ref wa), .val (.ref va), .val (.int (Int32.ofNat 1)), .val (.int (Int32.ofNat 4)), .val (.double Jvm.FP.dconst0), .second, .val (.int (Int32.ofNat 1))] [(.double (Jvm.FP.dadd Jvm.FP.dconst0 (Jvm.FP.dmul x1 y1)))])) _
    refine GoOn.step (fun tq kq => XS.dstore X0.here hx rfl (hb hby own_d20) rfl (l' := #[.val (.ref wa), .val (.ref va), .val (.int (Int32.ofNat 1)), .val (.int (Int32.ofNat 4)), .val (.double (Jvm.FP.dadd Jvm.FP.dconst0 (Jvm.FP.dmul x1 y1))), .second, .val (.int (Int32.ofNat 1))]) rfl kq) ?_
    show GoOn p e below (s₁.setTop (mkF m 26 #[.val (.ref wa), .val (.ref va), .val (.int (Int32.ofNat 1)), .val (.int (Int32.ofNat 4)), .val (.double (Jvm.FP.dadd Jvm.FP.dconst0 (Jvm.FP.dmul x1 y1))), .second, .val (.int (Int32.ofNat 1))] [])) _
    refine GoOn.step (fun tq kq => XS.iinc X0.here hx rfl (hb hby own_d21) rfl (l' := #[.val (.ref wa), .val (.ref va), .val (.int (Int32.ofNat 1)), .val (.int (Int32.ofNat 4)), .val (.double (Jvm.FP.dadd Jvm.FP.dconst0 (Jvm.FP.dmul x1 y1))), .second, .val (.int ((Int32.ofNat 1) + Int32.ofInt 1))]) rfl kq) ?_
    show GoOn p e below (s₁.setTop (mkF m 29 #[.val (.ref wa), .val (.ref va), .val (.int (Int32.ofNat 1)), .val (.int (Int32.ofNat 4)), .val (.double (Jvm.FP.dadd Jvm.FP.dconst0 (Jvm.FP.dmul x1 y1))), .second, .val (.int ((Int32.ofNat 1) + Int32.ofInt 1))] [])) _
    refine GoOn.step (fun tq kq => XS.goto X0.here hx rfl (pc0 := 29) (pc' := 6) rfl (hb hby own_d22) (by decide) (by decide) kq) ?_
    show GoOn p e below (s₁.setTop (mkF m 6 #[.val (.ref wa), .val (.ref va), .val (.int (Int32.ofNat 1)), .val (.int (Int32.ofNat 4)), .val (.double (Jvm.FP.dadd Jvm.FP.dconst0 (Jvm.FP.dmul x1 y1))), .second, .val (.int ((Int32.ofNat 1) + Int32.ofInt 1))] [])) _
    refine GoOn.step (fun tq kq => XS.iload X0.here hx rfl (hb hby own_d6) rfl kq) ?_
    show GoOn p e below (s₁.setTop (mkF m 8 #[.val (.ref wa), .val (.ref va), .val (.int (Int32.ofNat 1)), .val (.int (Int32.ofNat 4)), .val (.double (Jvm.FP.dadd Jvm.FP.dconst0 (Jvm.FP.dmul x1 y1))), .second, .val (.int ((Int32.ofNat 1) + Int32.ofInt 1))] [(.int ((Int32.ofNat 1) + Int32.ofInt 1))])) _
    refine GoOn.step (fun tq kq => XS.iloadN X0.here hx rfl (hb hby own_d7) rfl kq) ?_
    show GoOn p e below (s₁.setTop (mkF m 9 #[.val (.ref wa), .val (.ref va), .val (.int (Int32.ofNat 1)), .val (.int (Int32.ofNat 4)), .val (.double (Jvm.FP.dadd Jvm.FP.dconst0 (Jvm.FP.dmul x1 y1))), .second, .val (.int ((Int32.ofNat 1) + Int32.ofInt 1))] [(.int (Int32.ofNat 4)), (.int ((Int32.ofNat 1) + Int32.ofInt 1))])) _
    refine GoOn.step (fun tq kq => XS.icmpNo X0.here hx rfl (hb hby own_d8) rfl (tlt (by decide)).2.1 kq) ?_
    show GoOn p e below (s₁.setTop (mkF m 12 #[.val (.ref wa), .val (.ref va), .val (.int (Int32.ofNat 1)), .val (.int (Int32.ofNat 4)), .val (.double (Jvm.FP.dadd Jvm.FP.dconst0 (Jvm.FP.dmul x1 y1))), .second, .val (.int ((Int32.ofNat 1) + Int32.ofInt 1))] [])) _
    refine GoOn.step (fun tq kq => XS.dload X0.here hx rfl (hb hby own_d11) rfl kq) ?_
    show GoOn p e below (s₁.setTop (mkF m 14 #[.val (.ref wa), .val (.ref va), .val (.int (Int32.ofNat 1)), .val (.int (Int32.ofNat 4)), .val (.double (Jvm.FP.dadd Jvm.FP.dconst0 (Jvm.FP.dmul x1 y1))), .second, .val (.int ((Int32.ofNat 1) + Int32.ofInt 1))] [(.double (Jvm.FP.dadd Jvm.FP.dconst0 (Jvm.FP.dmul x1 y1)))])) _
    refine GoOn.step (fun tq kq => XS.aloadN X0.here hx rfl (hb hby own_d12) rfl rfl kq) ?_
    show GoOn p e below (s₁.setTop (mkF m 15 #[.val (.ref wa), .val (.ref va), .val (.int (Int32.ofNat 1)), .val (.int (Int32.ofNat 4)), .val (.double (Jvm.FP.dadd Jvm.FP.dconst0 (Jvm.FP.dmul x1 y1))), .second, .val (.int ((Int32.ofNat 1) + Int32.ofInt 1))] [(.ref wa), (.double (Jvm.FP.dadd Jvm.FP.dconst0 (Jvm.FP.dmul x1 y1)))])) _
    refine GoOn.step (fun tq kq => XS.iload X0.here hx rfl (hb hby own_d13) rfl kq) ?_
    show GoOn p e below (s₁.setTop (mkF m 17 #[.val (.ref wa), .val (.ref va), .val (.int (Int32.ofNat 1)), .val (.int (Int32.ofNat 4)), .val (.double (Jvm.FP.dadd Jvm.FP.dconst0 (Jvm.FP.dmul x1 y1))), .second, .val (.int ((Int32.ofNat 1) + Int32.ofInt 1))] [(.int ((Int32.ofNat 1) + Int32.ofInt 1)), (.ref wa), (.double (Jvm.FP.dadd Jvm.FP.dconst0 (Jvm.FP.dmul x1 y1)))])) _
    obtain ⟨cq43, Aq43, qq43, Sq43, Mq43, Hq43, Uq43⟩ := id Vwa
    refine GoOn.step (fun tq kq => X0.daload hx (j := ((Int32.ofNat 1) + Int32.ofInt 1)) (v := (.double x2)) (by rw [e0]; exact Aq43.1) (State.isArrayOf_alike hZ.alike Aq43.2.1) Aq43.2.2 (inb_of Sq43 (by decide)) (Hq43.at (inb_of Sq43 (by decide)) rfl) (g := (mkF m 17 #[.val (.ref wa), .val (.ref va), .val (.int (Int32.ofNat 1)), .val (.int (Int32.ofNat 4)), .val (.double (Jvm.FP.dadd Jvm.FP.dconst0 (Jvm.FP.dmul x1 y1))), .second, .val (.int ((Int32.ofNat 1) + Int32.ofInt 1))] [(.int ((Int32.ofNat 1) + Int32.ofInt 1)), (.ref wa), (.double (Jvm.FP.dadd Jvm.FP.dconst0 (Jvm.FP.dmul x1 y1)))])) rfl rfl (hb hby own_d14) _ kq) ?_
    show GoOn p e below (s₁.setTop (mkF m 18 #[.val (.ref wa), .val (.ref va), .val (.int (Int32.ofNat 1)), .val (.int (Int32.ofNat 4)), .val (.double (Jvm.FP.dadd Jvm.FP.dconst0 (Jvm.FP.dmul x1 y1))), .second, .val (.int ((Int32.ofNat 1) + Int32.ofInt 1))] [(.double x2), (.double (Jvm.FP.dadd Jvm.FP.dconst0 (Jvm.FP.dmul x1 y1)))])) _
    refine GoOn.step (fun tq kq => XS.aloadN X0.here hx rfl (hb hby own_d15) rfl rfl kq) ?_
    show GoOn p e below (s₁.setTop (mkF m 19 #[.val (.ref wa), .val (.ref va), .val (.int (Int32.ofNat 1)), .val (.int (Int32.ofNat 4)), .val (.double (Jvm.FP.dadd Jvm.FP.dconst0 (Jvm.FP.dmul x1 y1))), .second, .val (.int ((Int32.ofNat 1) + Int32.ofInt 1))] [(.ref va), (.double x2), (.double (Jvm.FP.dadd Jvm.FP.dconst0 (Jvm.FP.dmul x1 y1)))])) _
    refine GoOn.step (fun tq kq => XS.iload X0.here hx rfl (hb hby own_d16) rfl kq) ?_
    show GoOn p e below (s₁.setTop (mkF m 21 #[.val (.ref wa), .val (.ref va), .val (.int (Int32.ofNat 1)), .val (.int (Int32.ofNat 4)), .val (.double (Jvm.FP.dadd Jvm.FP.dconst0 (Jvm.FP.dmul x1 y1))), .second, .val (.int ((Int32.ofNat 1) + Int32.ofInt 1))] [(.int ((Int32.ofNat 1) + Int32.ofInt 1)), (.ref va), (.double x2), (.double (Jvm.FP.dadd Jvm.FP.dconst0 (Jvm.FP.dmul x1 y1)))])) _
    obtain ⟨cq44, Aq44, qq44, Sq44, Mq44, Hq44, Uq44⟩ := id Vva
    refine GoOn.step (fun tq kq => X0.daload hx (j := ((Int32.ofNat 1) + Int32.ofInt 1)) (v := (.double y2)) (by rw [e0]; exact Aq44.1) (State.isArrayOf_alike hZ.alike Aq44.2.1) Aq44.2.2 (inb_of Sq44 (by decide)) (Hq44.at (inb_of Sq44 (by decide)) rfl) (g := (mkF m 21 #[.val (.ref wa), .val (.ref va), .val (.int (Int32.ofNat 1)), .val (.int (Int32.ofNat 4)), .val (.double (Jvm.FP.dadd Jvm.FP.dconst0 (Jvm.FP.dmul x1 y1))), .second, .val (.int ((Int32.ofNat 1) + Int32.ofInt 1))] [(.int ((Int32.ofNat 1) + Int32.ofInt 1)), (.ref va), (.double x2), (.double (Jvm.FP.dadd Jvm.FP.dconst0 (Jvm.FP.dmul x1 y1)))])) rfl rfl (hb hby own_d17) _ kq) ?_
    show GoOn p e below (s₁.setTop (mkF m 22 #[.val (.ref wa), .val (.ref va), .val (.int (Int32.ofNat 1)), .val (.int (Int32.ofNat 4)), .val (.double (Jvm.FP.dadd Jvm.FP.dconst0 (Jvm.FP.dmul x1 y1))), .second, .val (.int ((Int32.ofNat 1) + Int32.ofInt 1))] [(.double y2), (.double x2), (.double (Jvm.FP.dadd Jvm.FP.dconst0 (Jvm.FP.dmul x1 y1)))])) _
    refine GoOn.step (fun tq kq => XS.dmulS X0.here hx rfl (hb hby own_d18) rfl R2.no (v := (Jvm.FP.dmul x2 y2)) rfl kq) ?_
    show GoOn p e below (s₁.setTop (mkF m 23 #[.val (.ref wa), .val (.ref va), .val (.int (Int32.ofNat 1)), .val (.int (Int32.ofNat 4)), .val (.double (Jvm.FP.dadd Jvm.FP.dconst0 (Jvm.FP.dmul x1 y1))), .second, .val (.int ((Int32.ofNat 1) + Int32.ofInt 1))] [(.double (Jvm.FP.dmul x2 y2)), (.double (Jvm.FP.dadd Jvm.FP.dconst0 (Jvm.FP.dmul x1 y1)))])) _
    have P45 : Rep (Jvm.FP.dadd (Jvm.FP.dadd Jvm.FP.dconst0 (Jvm.FP.dmul x1 y1)) (Jvm.FP.dmul x2 y2)) ((0 + z1) + z2) := Rep.add P42 R2 (by omega)
    refine GoOn.step (fun tq kq => XS.daddS X0.here hx rfl (hb hby own_d19) rfl P45.no (v := (Jvm.FP.dadd (Jvm.FP.dadd Jvm.FP.dconst0 (Jvm.FP.dmul x1 y1)) (Jvm.FP.dmul x2 y2))) rfl kq) ?_
    show GoOn p e below (s₁.setTop (mkF m 24 #[.val (.ref wa), .val (.ref va), .val (.int (Int32.ofNat 1)), .val (.int (Int32.ofNat 4)), .val (.double (Jvm.FP.dadd Jvm.FP.dconst0 (Jvm.FP.dmul x1 y1))), .second, .val (.int ((Int32.ofNat 1) + Int32.ofInt 1))] [(.double (Jvm.FP.dadd (Jvm.FP.dadd Jvm.FP.dconst0 (Jvm.FP.dmul x1 y1)) (Jvm.FP.dmul x2 y2)))])) _
    refine GoOn.step (fun tq kq => XS.dstore X0.here hx rfl (hb hby own_d20) rfl (l' := #[.val (.ref wa), .val (.ref va), .val (.int (Int32.ofNat 1)), .val (.int (Int32.ofNat 4)), .val (.double (Jvm.FP.dadd (Jvm.FP.dadd Jvm.FP.dconst0 (Jvm.FP.dmul x1 y1)) (Jvm.FP.dmul x2 y2))), .second, .val (.int ((Int32.ofNat 1) + Int32.ofInt 1))]) rfl kq) ?_
    show GoOn p e below (s₁.setTop (mkF m 26 #[.val (.ref wa), .val (.ref va), .val (.int (Int32.ofNat 1)), .val (.int (Int32.ofNat 4)), .val (.double (Jvm.FP.dadd (Jvm.FP.dadd Jvm.FP.dconst0 (Jvm.FP.dmul x1 y1)) (Jvm.FP.dmul x2 y2))), .second, .val (.int ((Int32.ofNat 1) + Int32.ofInt 1))] [])) _
    refine GoOn.step (fun tq kq => XS.iinc X0.here hx rfl (hb hby own_d21) rfl (l' := #[.val (.ref wa), .val (.ref va), .val (.int (Int32.ofNat 1)), .val (.int (Int32.ofNat 4)), .val (.double (Jvm.FP.dadd (Jvm.FP.dadd Jvm.FP.dconst0 (Jvm.FP.dmul x1 y1)) (Jvm.FP.dmul x2 y2))), .second, .val (.int (((Int32.ofNat 1) + Int32.ofInt 1) + Int32.ofInt 1))]) rfl kq) ?_
    show GoOn p e below (s₁.setTop (mkF m 29 #[.val (.ref wa), .val (.ref va), .val (.int (Int32.ofNat 1)), .val (.int (Int32.ofNat 4)), .val (.double (Jvm.FP.dadd (Jvm.FP.dadd Jvm.FP.dconst0 (Jvm.FP.dmul x1 y1)) (Jvm.FP.dmul x2 y2))), .second, .val (.int (((Int32.ofNat 1) + Int32.ofInt 1) + Int32.ofInt 1))] [])) _
    refine GoOn.step (fun tq kq => XS.goto X0.here hx rfl (pc0 := 29) (pc' := 6) rfl (hb hby own_d22) (by decide) (by decide) kq) ?_
    show GoOn p e below (s₁.setTop (mkF m 6 #[.val (.ref wa), .val (.ref va), .val (.int (Int32.ofNat 1)), .val (.int (Int32.ofNat 4)), .val (.double (Jvm.FP.dadd (Jvm.FP.dadd Jvm.FP.dconst0 (Jvm.FP.dmul x1 y1)) (Jvm.FP.dmul x2 y2))), .second, .val (.int (((Int32.ofNat 1) + Int32.ofInt 1) + Int32.ofInt 1))] [])) _
    refine GoOn.step (fun tq kq => XS.iload X0.here hx rfl (hb hby own_d6) rfl kq) ?_
    show GoOn p e below (s₁.setTop (mkF m 8 #[.val (.ref wa), .val (.ref va), .val (.int (Int32.ofNat 1)), .val (.int (Int32.ofNat 4)), .val (.double (Jvm.FP.dadd (Jvm.FP.dadd Jvm.FP.dconst0 (Jvm.FP.dmul x1 y1)) (Jvm.FP.dmul x2 y2))), .second, .val (.int (((Int32.ofNat 1) + Int32.ofInt 1) + Int32.ofInt 1))] [(.int (((Int32.ofNat 1) + Int32.ofInt 1) + Int32.ofInt 1))])) _
    refine GoOn.step (fun tq kq => XS.iloadN X0.here hx rfl (hb hby own_d7) rfl kq) ?_
    show GoOn p e below (s₁.setTop (mkF m 9 #[.val (.ref wa), .val (.ref va), .val (.int (Int32.ofNat 1)), .val (.int (Int32.ofNat 4)), .val (.double (Jvm.FP.dadd (Jvm.FP.dadd Jvm.FP.dconst0 (Jvm.FP.dmul x1 y1)) (Jvm.FP.dmul x2 y2))), .second, .val (.int (((Int32.ofNat 1) + Int32.ofInt 1) + Int32.ofInt 1))] [(.int (Int32.ofNat 4)), (.int (((Int32.ofNat 1) + Int32.ofInt 1) + Int32.ofInt 1))])) _
    refine GoOn.step (fun tq kq => XS.icmpNo X0.here hx rfl (hb hby own_d8) rfl (tlt (by decide)).2.1 kq) ?_
    show GoOn p e below (s₁.setTop (mkF m 12 #[.val (.ref wa), .val (.ref va), .val (.int (Int32.ofNat 1)), .val (.int (Int32.ofNat 4)), .val (.double (Jvm.FP.dadd (Jvm.FP.dadd Jvm.FP.dconst0 (Jvm.FP.dmul x1 y1)) (Jvm.FP.dmul x2 y2))), .second, .val (.int (((Int32.ofNat 1) + Int32.ofInt 1) + Int32.ofInt 1))] [])) _
    refine GoOn.step (fun tq kq => XS.dload X0.here hx rfl (hb hby own_d11) rfl kq) ?_
    show GoOn p e below (s₁.setTop (mkF m 14 #[.val (.ref wa), .val (.ref va), .val (.int (Int32.ofNat 1)), .val (.int (Int32.ofNat 4)), .val (.double (Jvm.FP.dadd (Jvm.FP.dadd Jvm.FP.dconst0 (Jvm.FP.dmul x1 y1)) (Jvm.FP.dmul x2 y2))), .second, .val (.int (((Int32.ofNat 1) + Int32.ofInt 1) + Int32.ofInt 1))] [(.double (Jvm.FP.dadd (Jvm.FP.dadd Jvm.FP.dconst0 (Jvm.FP.dmul x1 y1)) (Jvm.FP.dmul x2 y2)))])) _
    refine GoOn.step (fun tq kq => XS.aloadN X0.here hx rfl (hb hby own_d12) rfl rfl kq) ?_
    show GoOn p e below (s₁.setTop (mkF m 15 #[.val (.ref wa), .val (.ref va), .val (.int (Int32.ofNat 1)), .val (.int (Int32.ofNat 4)), .val (.double (Jvm.FP.dadd (Jvm.FP.dadd Jvm.FP.dconst0 (Jvm.FP.dmul x1 y1)) (Jvm.FP.dmul x2 y2))), .second, .val (.int (((Int32.ofNat 1) + Int32.ofInt 1) + Int32.ofInt 1))] [(.ref wa), (.double (Jvm.FP.dadd (Jvm.FP.dadd Jvm.FP.dconst0 (Jvm.FP.dmul x1 y1)) (Jvm.FP.dmul x2 y2)))])) _
    refine GoOn.step (fun tq kq => XS.iload X0.here hx rfl (hb hby own_d13) rfl kq) ?_
    show GoOn p e below (s₁.setTop (mkF m 17 #[.val (.ref wa), .val (.ref va), .val (.int (Int32.ofNat 1)), .val (.int (Int32.ofNat 4)), .val (.double (Jvm.FP.dadd (Jvm.FP.dadd Jvm.FP.dconst0 (Jvm.FP.dmul x1 y1)) (Jvm.FP.dmul x2 y2))), .second, .val (.int (((Int32.ofNat 1) + Int32.ofInt 1) + Int32.ofInt 1))] [(.int (((Int32.ofNat 1) + Int32.ofInt 1) + Int32.ofInt 1)), (.ref wa), (.double (Jvm.FP.dadd (Jvm.FP.dadd Jvm.FP.dconst0 (Jvm.FP.dmul x1 y1)) (Jvm.FP.dmul x2 y2)))])) _
    obtain ⟨cq46, Aq46, qq46, Sq46, Mq46, Hq46, Uq46⟩ := id Vwa
    refine GoOn.step (fun tq kq => X0.daload hx (j := (((Int32.ofNat 1) + Int32.ofInt 1) + Int32.ofInt 1)) (v := (.double x3)) (by rw [e0]; exact Aq46.1) (State.isArrayOf_alike hZ.alike Aq46.2.1) Aq46.2.2 (inb_of Sq46 (by decide)) (Hq46.at (inb_of Sq46 (by decide)) rfl) (g := (mkF m 17 #[.val (.ref wa), .val (.ref va), .val (.int (Int32.ofNat 1)), .val (.int (Int32.ofNat 4)), .val (.double (Jvm.FP.dadd (Jvm.FP.dadd Jvm.FP.dconst0 (Jvm.FP.dmul x1 y1)) (Jvm.FP.dmul x2 y2))), .second, .val (.int (((Int32.ofNat 1) + Int32.ofInt 1) + Int32.ofInt 1))] [(.int (((Int32.ofNat 1) + Int32.ofInt 1) + Int32.ofInt 1)), (.ref wa), (.double (Jvm.FP.dadd (Jvm.FP.dadd Jvm.FP.dconst0 (Jvm.FP.dmul x1 y1)) (Jvm.FP.dmul x2 y2)))])) rfl rfl (hb hby own_d14) _ kq) ?_
    show GoOn p e below (s₁.setTop (mkF m 18 #[.val (.ref wa), .val (.ref va), .val (.int (Int32.ofNat 1)), .val (.int (Int32.ofNat 4)), .val (.double (Jvm.FP.dadd (Jvm.FP.dadd Jvm.FP.dconst0 (Jvm.FP.dmul x1 y1)) (Jvm.FP.dmul x2 y2))), .second, .val (.int (((Int32.ofNat 1) + Int32.ofInt 1) + Int32.ofInt 1))] [(.double x3), (.double (Jvm.FP.dadd (Jvm.FP.dadd Jvm.FP.dconst0 (Jvm.FP.dmul x1 y1)) (Jvm.FP.dmul x2 y2)))])) _
    refine GoOn.step (fun tq kq => XS.aloadN X0.here hx rfl (hb hby own_d15) rfl rfl kq) ?_
    show GoOn p e below (s₁.setTop (mkF m 19 #[.val (.ref wa), .val (.ref va), .val (.int (Int32.ofNat 1)), .val (.int (Int32.ofNat 4)), .val (.double (Jvm.FP.dadd (Jvm.FP.dadd Jvm.FP.dconst0 (Jvm.FP.dmul x1 y1)) (Jvm.FP.dmul x2 y2))), .second, .val (.int (((Int32.ofNat 1) + Int32.ofInt 1) + Int32.ofInt 1))] [(.ref va), (.double x3), (.double (Jvm.FP.dadd (Jvm.FP.dadd Jvm.FP.dconst0 (Jvm.FP.dmul x1 y1)) (Jvm.FP.dmul x2 y2)))])) _
    refine GoOn.step (fun tq kq => XS.iload X0.here hx rfl (hb hby own_d16) rfl kq) ?_
    show GoOn p e below (s₁.setTop (mkF m 21 #[.val (.ref wa), .val (.ref va), .val (.int (Int32.ofNat 1)), .val (.int (Int32.ofNat 4)), .val (.double (Jvm.FP.dadd (Jvm.FP.dadd Jvm.FP.dconst0 (Jvm.FP.dmul x1 y1)) (Jvm.FP.dmul x2 y2))), .second, .val (.int (((Int32.ofNat 1) + Int32.ofInt 1) + Int32.ofInt 1))] [(.int (((Int32.ofNat 1) + Int32.ofInt 1) + Int32.ofInt 1)), (.ref va), (.double x3), (.double (Jvm.FP.dadd (Jvm.FP.dadd Jvm.FP.dconst0 (Jvm.FP.dmul x1 y1)) (Jvm.FP.dmul x2 y2)))])) _
    obtain ⟨cq47, Aq47, qq47, Sq47, Mq47, Hq47, Uq47⟩ := id Vva
    refine GoOn.step (fun tq kq => X0.daload hx (j := (((Int32.ofNat 1) + Int32.ofInt 1) + Int32.ofInt 1)) (v := (.double y3)) (by rw [e0]; exact Aq47.1) (State.isArrayOf_alike hZ.alike Aq47.2.1) Aq47.2.2 (inb_of Sq47 (by decide)) (Hq47.at (inb_of Sq47 (by decide)) rfl) (g := (mkF m 21 #[.val (.ref wa), .val (.ref va), .val (.int (Int32.ofNat 1)), .val (.int (Int32.ofNat 4)), .val (.double (Jvm.FP.dadd (Jvm.FP.dadd Jvm.FP.dconst0 (Jvm.FP.dmul x1 y1)) (Jvm.FP.dmul x2 y2))), .second, .val (.int (((Int32.ofNat 1) + Int32.ofInt 1) + Int32.ofInt 1))] [(.int (((Int32.ofNat 1) + Int32.ofInt 1) + Int32.ofInt 1)), (.ref va), (.double x3), (.double (Jvm.FP.dadd (Jvm.FP.dadd Jvm.FP.dconst0 (Jvm.FP.dmul x1 y1)) (Jvm.FP.dmul x2 y2)))])) rfl rfl (hb hby own_d17) _ kq) ?_
    show GoOn p e below (s₁.setTop (mkF m 22 #[.val (.ref wa), .val (.ref va), .val (.int (Int32.ofNat 1)), .val (.int (Int32.ofNat 4)), .val (.double (Jvm.FP.dadd (Jvm.FP.dadd Jvm.FP.dconst0 (Jvm.FP.dmul x1 y1)) (Jvm.FP.dmul x2 y2))), .second, .val (.int (((Int32.ofNat 1) + Int32.ofInt 1) + Int32.ofInt 1))] [(.double y3), (.double x3), (.double (Jvm.FP.dadd (Jvm.FP.dadd Jvm.FP.dconst0 (Jvm.FP.dmul x1 y1)) (Jvm.FP.dmul x2 y2)))])) _
    refine GoOn.step (fun tq kq => XS.dmulS X0.here hx rfl (hb hby own_d18) rfl R3.no (v := (Jvm.FP.dmul x3 y3)) rfl kq) ?_
    show GoOn p e below (s₁.setTop (mkF m 23 #[.val (.ref wa), .val (.ref va), .val (.int (Int32.ofNat 1)), .val (.int (Int32.ofNat 4)), .val (.double (Jvm.FP.dadd (Jvm.FP.dadd Jvm.FP.dconst0 (Jvm.FP.dmul x1 y1)) (Jvm.FP.dmul x2 y2))), .second, .val (.int (((Int32.ofNat 1) + Int32.ofInt 1) + Int32.ofInt 1))] [(.double (Jvm.FP.dmul x3 y3)), (.double (Jvm.FP.dadd (Jvm.FP.dadd Jvm.FP.dconst0 (Jvm.FP.dmul x1 y1)) (Jvm.FP.dmul x2 y2)))])) _
    have P48 : Rep (Jvm.FP.dadd (Jvm.FP.dadd (Jvm.FP.dadd Jvm.FP.dconst0 (Jvm.FP.dmul x1 y1)) (Jvm.FP.dmul x2 y2)) (Jvm.FP.dmul x3 y3)) (((0 + z1) + z2) + z3) := Rep.add P45 R3 (by omega)
    refine GoOn.step (fun tq kq => XS.daddS X0.here hx rfl (hb hby own_d19) rfl P48.no (v := (Jvm.FP.dadd (Jvm.FP.dadd (Jvm.FP.dadd Jvm.FP.dconst0 (Jvm.FP.dmul x1 y1)) (Jvm.FP.dmul x2 y2)) (Jvm.FP.dmul x3 y3))) rfl kq) ?_
    show GoOn p e below (s₁.setTop (mkF m 24 #[.val (.ref wa), .val (.ref va), .val (.int (Int32.ofNat 1)), .val (.int (Int32.ofNat 4)), .val (.double (Jvm.FP.dadd (Jvm.FP.dadd Jvm.FP.dconst0 (Jvm.FP.dmul x1 y1)) (Jvm.FP.dmul x2 y2))), .second, .val (.int (((Int32.ofNat 1) + Int32.ofInt 1) + Int32.ofInt 1))] [(.double (Jvm.FP.dadd (Jvm.FP.dadd (Jvm.FP.dadd Jvm.FP.dconst0 (Jvm.FP.dmul x1 y1)) (Jvm.FP.dmul x2 y2)) (Jvm.FP.dmul x3 y3)))])) _
    refine GoOn.step (fun tq kq => XS.dstore X0.here hx rfl (hb hby own_d20) rfl (l' := #[.val (.ref wa), .val (.ref va), .val (.int (Int32.ofNat 1)), .val (.int (Int32.ofNat 4)), .val (.double (Jvm.FP.dadd (Jvm.FP.dadd (Jvm.FP.dadd Jvm.FP.dconst0 (Jvm.FP.dmul x1 y1)) (Jvm.FP.dmul x2 y2)) (Jvm.FP.dmul x3 y3))), .second, .val (.int (((Int32.ofNat 1) + Int32.ofInt 1) + Int32.ofInt 1))]) rfl kq) ?_
    show GoOn p e below (s₁.setTop (mkF m 26 #[.val (.ref wa), .val (.ref va), .val (.int (Int32.ofNat 1)), .val (.int (Int32.ofNat 4)), .val (.double (Jvm.FP.dadd (Jvm.FP.dadd (Jvm.FP.dadd Jvm.FP.dconst0 (Jvm.FP.dmul x1 y1)) (Jvm.FP.dmul x2 y2)) (Jvm.FP.dmul x3 y3))), .second, .val (.int (((Int32.ofNat 1) + Int32.ofInt 1) + Int32.ofInt 1))] [])) _
    refine GoOn.step (fun tq kq => XS.iinc X0.here hx rfl (hb hby own_d21) rfl (l' := #[.val (.ref wa), .val (.ref va), .val (.int (Int32.ofNat 1)), .val (.int (Int32.ofNat 4)), .val (.double (Jvm.FP.dadd (Jvm.FP.dadd (Jvm.FP.dadd Jvm.FP.dconst0 (Jvm.FP.dmul x1 y1)) (Jvm.FP.dmul x2 y2)) (Jvm.FP.dmul x3 y3))), .second, .val (.int ((((Int32.ofNat 1) + Int32.ofInt 1) + Int32.ofInt 1) + Int32.ofInt 1))]) rfl kq) ?_
    show GoOn p e below (s₁.setTop (mkF m 29 #[.val (.ref wa), .val (.ref va), .val (.int (Int32.ofNat 1)), .val (.int (Int32.ofNat 4)), .val (.double (Jvm.FP.dadd (Jvm.FP.dadd (Jvm.FP.dadd Jvm.FP.dconst0 (Jvm.FP.dmul x1 y1)) (Jvm.FP.dmul x2 y2)) (Jvm.FP.dmul x3 y3))), .second, .val (.int ((((Int32.ofNat 1) + Int32.ofInt 1) + Int32.ofInt 1) + Int32.ofInt 1))] [])) _
    refine GoOn.step (fun tq kq => XS.goto X0.here hx rfl (pc0 := 29) (pc' := 6) rfl (hb hby own_d22) (by decide) (by decide) kq) ?_
    show GoOn p e below (s₁.setTop (mkF m 6 #[.val (.ref wa), .val (.ref va), .val (.int (Int32.ofNat 1)), .val (.int (Int32.ofNat 4)), .val (.double (Jvm.FP.dadd (Jvm.FP.dadd (Jvm.FP.dadd Jvm.FP.dconst0 (Jvm.FP.dmul x1 y1)) (Jvm.FP.dmul x2 y2)) (Jvm.FP.dmul x3 y3))), .second, .val (.int ((((Int32.ofNat 1) + Int32.ofInt 1) + Int32.ofInt 1) + Int32.ofInt 1))] [])) _
    refine GoOn.step (fun tq kq => XS.iload X0.here hx rfl (hb hby own_d6) rfl kq) ?_
    show GoOn p e below (s₁.setTop (mkF m 8 #[.val (.ref wa), .val (.ref va), .val (.int (Int32.ofNat 1)), .val (.int (Int32.ofNat 4)), .val (.double (Jvm.FP.dadd (Jvm.FP.dadd (Jvm.FP.dadd Jvm.FP.dconst0 (Jvm.FP.dmul x1 y1)) (Jvm.FP.dmul x2 y2)) (Jvm.FP.dmul x3 y3))), .second, .val (.int ((((Int32.ofNat 1) + Int32.ofInt 1) + Int32.ofInt 1) + Int32.ofInt 1))] [(.int ((((Int32.ofNat 1) + Int32.ofInt 1) + Int32.ofInt 1) + Int32.ofInt 1))])) _
    refine GoOn.step (fun tq kq => XS.iloadN X0.here hx rfl (hb hby own_d7) rfl kq) ?_
    show GoOn p e below (s₁.setTop (mkF m 9 #[.val (.ref wa), .val (.ref va), .val (.int (Int32.ofNat 1)), .val (.int (Int32.ofNat 4)), .val (.double (Jvm.FP.dadd (Jvm.FP.dadd (Jvm.FP.dadd Jvm.FP.dconst0 (Jvm.FP.dmul x1 y1)) (Jvm.FP.dmul x2 y2)) (Jvm.FP.dmul x3 y3))), .second, .val (.int ((((Int32.ofNat 1) + Int32.ofInt 1) + Int32.ofInt 1) + Int32.ofInt 1))] [(.int (Int32.ofNat 4)), (.int ((((Int32.ofNat 1) + Int32.ofInt 1) + Int32.ofInt 1) + Int32.ofInt 1))])) _
    refine GoOn.step (fun tq kq => XS.icmpYes X0.here hx rfl (pc0 := 9) (pc' := 32) rfl (hb hby own_d8) rfl (flt (by decide)).2.1 (by decide) (by decide) kq) ?_
    show GoOn p e below (s₁.setTop (mkF m 32 #[.val (.ref wa), .val (.ref va), .val (.int (Int32.ofNat 1)), .val (.int (Int32.ofNat 4)), .val (.double (Jvm.FP.dadd (Jvm.FP.dadd (Jvm.FP.dadd Jvm.FP.dconst0 (Jvm.FP.dmul x1 y1)) (Jvm.FP.dmul x2 y2)) (Jvm.FP.dmul x3 y3))), .second, .val (.int ((((Int32.ofNat 1) + Int32.ofInt 1) + Int32.ofInt 1) + Int32.ofInt 1))] [])) _
    refine GoOn.step (fun tq kq => XS.dload X0.here hx rfl (hb hby own_d9) rfl kq) ?_
    show GoOn p e below (s₁.setTop (mkF m 34 #[.val (.ref wa), .val (.ref va), .val (.int (Int32.ofNat 1)), .val (.int (Int32.ofNat 4)), .val (.double (Jvm.FP.dadd (Jvm.FP.dadd (Jvm.FP.dadd Jvm.FP.dconst0 (Jvm.FP.dmul x1 y1)) (Jvm.FP.dmul x2 y2)) (Jvm.FP.dmul x3 y3))), .second, .val (.int ((((Int32.ofNat 1) + Int32.ofInt 1) + Int32.ofInt 1) + Int32.ofInt 1))] [(.double (Jvm.FP.dadd (Jvm.FP.dadd (Jvm.FP.dadd Jvm.FP.dconst0 (Jvm.FP.dmul x1 y1)) (Jvm.FP.dmul x2 y2)) (Jvm.FP.dmul x3 y3)))])) _
    refine GoOn.ret X0 Bd.notSynchronized (v := some (.double (Jvm.FP.dadd (Jvm.FP.dadd (Jvm.FP.dadd Jvm.FP.dconst0 (Jvm.FP.dmul x1 y1)) (Jvm.FP.dmul x2 y2)) (Jvm.FP.dmul x3 y3)))) (fun h => by rw [Bd.returns] at h; cases h) (fun fs hr => retOut X0 hx Bd.returns rfl (Or.inr (Or.inr (Or.inl ⟨rfl, rfl, _, rfl⟩))) (hb hby own_d10) hr) (by decide) (by decide) ?_
    rw [e0]
    exact ⟨_, rfl, N0, rfl, by rw [own_sm_1_4]; exact P48⟩
  · skip
    show GoOn p e below (s₁.setTop (mkF m 0 #[.val (.ref wa), .val (.ref va), .val (.int (Int32.ofNat 2)), .val (.int (Int32.ofNat 0)), .unset, .unset, .unset] [])) _
    refine GoOn.step (fun tq kq => XS.dconst0 X0.here hx rfl (hb hby own_d2) (v := Jvm.FP.dconst0) rfl kq) ?_
    show GoOn p e below (s₁.setTop (mkF m 1 #[.val (.ref wa), .val (.ref va), .val (.int (Int32.ofNat 2)), .val (.int (Int32.ofNat 0)), .unset, .unset, .unset] [(.double Jvm.FP.dconst0)])) _
    refine GoOn.step (fun tq kq => XS.dstore X0.here hx rfl (hb hby own_d3) rfl (l' := #[.val (.ref wa), .val (.ref va), .val (.int (Int32.ofNat 2)), .val (.int (Int32.ofNat 0)), .val (.double Jvm.FP.dconst0), .second, .unset]) rfl kq) ?_
    show GoOn p e below (s₁.setTop (mkF m 3 #[.val (.ref wa), .val (.ref va), .val (.int (Int32.ofNat 2)), .val (.int (Int32.ofNat 0)), .val (.double Jvm.FP.dconst0), .second, .unset] [])) _
    refine GoOn.step (fun tq kq => XS.iloadN X0.here hx rfl (hb hby own_d4) rfl kq) ?_
    show GoOn p e below (s₁.setTop (mkF m 4 #[.val (.ref wa), .val (.ref va), .val (.int (Int32.ofNat 2)), .val (.int (Int32.ofNat 0)), .val (.double Jvm.FP.dconst0), .second, .unset] [(.int (Int32.ofNat 2))])) _
    refine GoOn.step (fun tq kq => XS.istore X0.here hx rfl (hb hby own_d5) rfl (l' := #[.val (.ref wa), .val (.ref va), .val (.int (Int32.ofNat 2)), .val (.int (Int32.ofNat 0)), .val (.double Jvm.FP.dconst0), .second, .val (.int (Int32.ofNat 2))]) rfl kq) ?_
    show GoOn p e below (s₁.setTop (mkF m 6 #[.val (.ref wa), .val (.ref va), .val (.int (Int32.ofNat 2)), .val (.int (Int32.ofNat 0)), .val (.double Jvm.FP.dconst0), .second, .val (.int (Int32.ofNat 2))] [])) _
    refine GoOn.step (fun tq kq => XS.iload X0.here hx rfl (hb hby own_d6) rfl kq) ?_
    show GoOn p e below (s₁.setTop (mkF m 8 #[.val (.ref wa), .val (.ref va), .val (.int (Int32.ofNat 2)), .val (.int (Int32.ofNat 0)), .val (.double Jvm.FP.dconst0), .second, .val (.int (Int32.ofNat 2))] [(.int (Int32.ofNat 2))])) _
    refine GoOn.step (fun tq kq => XS.iloadN X0.here hx rfl (hb hby own_d7) rfl kq) ?_
    show GoOn p e below (s₁.setTop (mkF m 9 #[.val (.ref wa), .val (.ref va), .val (.int (Int32.ofNat 2)), .val (.int (Int32.ofNat 0)), .val (.double Jvm.FP.dconst0), .second, .val (.int (Int32.ofNat 2))] [(.int (Int32.ofNat 0)), (.int (Int32.ofNat 2))])) _
    refine GoOn.step (fun tq kq => XS.icmpYes X0.here hx rfl (pc0 := 9) (pc' := 32) rfl (hb hby own_d8) rfl (flt (by decide)).2.1 (by decide) (by decide) kq) ?_
    show GoOn p e below (s₁.setTop (mkF m 32 #[.val (.ref wa), .val (.ref va), .val (.int (Int32.ofNat 2)), .val (.int (Int32.ofNat 0)), .val (.double Jvm.FP.dconst0), .second, .val (.int (Int32.ofNat 2))] [])) _
    refine GoOn.step (fun tq kq => XS.dload X0.here hx rfl (hb hby own_d9) rfl kq) ?_
    show GoOn p e below (s₁.setTop (mkF m 34 #[.val (.ref wa), .val (.ref va), .val (.int (Int32.ofNat 2)), .val (.int (Int32.ofNat 0)), .val (.double Jvm.FP.dconst0), .second, .val (.int (Int32.ofNat 2))] [(.double Jvm.FP.dconst0)])) _
    refine GoOn.ret X0 Bd.notSynchronized (v := some (.double Jvm.FP.dconst0)) (fun h => by rw [Bd.returns] at h; cases h) (fun fs hr => retOut X0 hx Bd.returns rfl (Or.inr (Or.inr (Or.inl ⟨rfl, rfl, _, rfl⟩))) (hb hby own_d10) hr) (by decide) (by decide) ?_
    rw [e0]
    exact ⟨_, rfl, N0, rfl, by rw [own_sm_2_0]; exact Rep.zero⟩
  · skip
    show GoOn p e below (s₁.setTop (mkF m 0 #[.val (.ref wa), .val (.ref va), .val (.int (Int32.ofNat 2)), .val (.int (Int32.ofNat 1)), .unset, .unset, .unset] [])) _
    refine GoOn.step (fun tq kq => XS.dconst0 X0.here hx rfl (hb hby own_d2) (v := Jvm.FP.dconst0) rfl kq) ?_
    show GoOn p e below (s₁.setTop (mkF m 1 #[.val (.ref wa), .val (.ref va), .val (.int (Int32.ofNat 2)), .val (.int (Int32.ofNat 1)), .unset, .unset, .unset] [(.double Jvm.FP.dconst0)])) _
    refine GoOn.step (fun tq kq => XS.dstore X0.here hx rfl (hb hby own_d3) rfl (l' := #[.val (.ref wa), .val (.ref va), .val (.int (Int32.ofNat 2)), .val (.int (Int32.ofNat 1)), .val (.double Jvm.FP.dconst0), .second, .unset]) rfl kq) ?_
    show GoOn p e below (s₁.setTop (mkF m 3 #[.val (.ref wa), .val (.ref va), .val (.int (Int32.ofNat 2)), .val (.int (Int32.ofNat 1)), .val (.double Jvm.FP.dconst0), .second, .unset] [])) _
    refine GoOn.step (fun tq kq => XS.iloadN X0.here hx rfl (hb hby own_d4) rfl kq) ?_
    show GoOn p e below (s₁.setTop (mkF m 4 #[.val (.ref wa), .val (.ref va), .val (.int (Int32.ofNat 2)), .val (.int (Int32.ofNat 1)), .val (.double Jvm.FP.dconst0), .second, .unset] [(.int (Int32.ofNat 2))])) _
    refine GoOn.step (fun tq kq => XS.istore X0.here hx rfl (hb hby own_d5) rfl (l' := #[.val (.ref wa), .val (.ref va), .val (.int (Int32.ofNat 2)), .val (.int (Int32.ofNat 1)), .val (.double Jvm.FP.dconst0), .second, .val (.int (Int32.ofNat 2))]) rfl kq) ?_
    show GoOn p e below (s₁.setTop (mkF m 6 #[.val (.ref wa), .val (.ref va), .val (.int (Int32.ofNat 2)), .val (.int (Int32.ofNat 1)), .val (.double Jvm.FP.dconst0), .second, .val (.int (Int32.ofNat 2))] [])) _
    refine GoOn.step (fun tq kq => XS.iload X0.here hx rfl (hb hby own_d6) rfl kq) ?_
    show GoOn p e below (s₁.setTop (mkF m 8 #[.val (.ref wa), .val (.ref va), .val (.int (Int32.ofNat 2)), .val (.int (Int32.ofNat 1)), .val (.double Jvm.FP.dconst0), .second, .val (.int (Int32.ofNat 2))] [(.int (Int32.ofNat 2))])) _
    refine GoOn.step (fun tq kq => XS.iloadN X0.here hx rfl (hb hby own_d7) rfl kq) ?_
    show GoOn p e below (s₁.setTop (mkF m 9 #[.val (.ref wa), .val (.ref va), .val (.int (Int32.ofNat 2)), .val (.int (Int32.ofNat 1)), .val (.double Jvm.FP.dconst0), .second, .val (.int (Int32.ofNat 2))] [(.int (Int32.ofNat 1)), (.int (Int32.ofNat 2))])) _
    refine GoOn.step (fun tq kq => XS.icmpYes X0.here hx rfl (pc0 := 9) (pc' := 32) rfl (hb hby own_d8) rfl (flt (by decide)).2.1 (by decide) (by decide) kq) ?_
    show GoOn p e below (s₁.setTop (mkF m 32 #[.val (.ref wa), .val (.ref va), .val (.int (Int32.ofNat 2)), .val (.int (Int32.ofNat 1)), .val (.double Jvm.FP.dconst0), .second, .val (.int (Int32.ofNat 2))] [])) _
    refine GoOn.step (fun tq kq => XS.dload X0.here hx rfl (hb hby own_d9) rfl kq) ?_
    show GoOn p e below (s₁.setTop (mkF m 34 #[.val (.ref wa), .val (.ref va), .val (.int (Int32.ofNat 2)), .val (.int (Int32.ofNat 1)), .val (.double Jvm.FP.dconst0), .second, .val (.int (Int32.ofNat 2))] [(.double Jvm.FP.dconst0)])) _
    refine GoOn.ret X0 Bd.notSynchronized (v := some (.double Jvm.FP.dconst0)) (fun h => by rw [Bd.returns] at h; cases h) (fun fs hr => retOut X0 hx Bd.returns rfl (Or.inr (Or.inr (Or.inl ⟨rfl, rfl, _, rfl⟩))) (hb hby own_d10) hr) (by decide) (by decide) ?_
    rw [e0]
    exact ⟨_, rfl, N0, rfl, by rw [own_sm_2_1]; exact Rep.zero⟩
  · skip
    show GoOn p e below (s₁.setTop (mkF m 0 #[.val (.ref wa), .val (.ref va), .val (.int (Int32.ofNat 2)), .val (.int (Int32.ofNat 2)), .unset, .unset, .unset] [])) _
    refine GoOn.step (fun tq kq => XS.dconst0 X0.here hx rfl (hb hby own_d2) (v := Jvm.FP.dconst0) rfl kq) ?_
    show GoOn p e below (s₁.setTop (mkF m 1 #[.val (.ref wa), .val (.ref va), .val (.int (Int32.ofNat 2)), .val (.int (Int32.ofNat 2)), .unset, .unset, .unset] [(.double Jvm.FP.dconst0)])) _
    refine GoOn.step (fun tq kq => XS.dstore X0.here hx rfl (hb hby own_d3) rfl (l' := #[.val (.ref wa), .val (.ref va), .val (.int (Int32.ofNat 2)), .val (.int (Int32.ofNat 2)), .val (.double Jvm.FP.dconst0), .second, .unset]) rfl kq) ?_
    show GoOn p e below (s₁.setTop (mkF m 3 #[.val (.ref wa), .val (.ref va), .val (.int (Int32.ofNat 2)), .val (.int (Int32.ofNat 2)), .val (.double Jvm.FP.dconst0), .second, .unset] [])) _
    refine GoOn.step (fun tq kq => XS.iloadN X0.here hx rfl (hb hby own_d4) rfl kq) ?_
    show GoOn p e below (s₁.setTop (mkF m 4 #[.val (.ref wa), .val (.ref va), .val (.int (Int32.ofNat 2)), .val (.int (Int32.ofNat 2)), .val (.double Jvm.FP.dconst0), .second, .unset] [(.int (Int32.ofNat 2))])) _
    refine GoOn.step (fun tq kq => XS.istore X0.here hx rfl (hb hby own_d5) rfl (l' := #[.val (.ref wa), .val (.ref va), .val (.int (Int32.ofNat 2)), .val (.int (Int32.ofNat 2)), .val (.double Jvm.FP.dconst0), .second, .val (.int (Int32.ofNat 2))]) rfl kq) ?_
    show GoOn p e below (s₁.setTop (mkF m 6 #[.val (.ref wa), .val (.ref va), .val (.int (Int32.ofNat 2)), .val (.int (Int32.ofNat 2)), .val (.double Jvm.FP.dconst0), .second, .val (.int (Int32.ofNat 2))] [])) _
    refine GoOn.step (fun tq kq => XS.iload X0.here hx rfl (hb hby own_d6) rfl kq) ?_
    show GoOn p e below (s₁.setTop (mkF m 8 #[.val (.ref wa), .val (.ref va), .val (.int (Int32.ofNat 2)), .val (.int (Int32.ofNat 2)), .val (.double Jvm.FP.dconst0), .second, .val (.int (Int32.ofNat 2))] [(.int (Int32.ofNat 2))])) _
    refine GoOn.step (fun tq kq => XS.iloadN X0.here hx rfl (hb hby own_d7) rfl kq) ?_
    show GoOn p e below (s₁.setTop (mkF m 9 #[.val (.ref wa), .val (.ref va), .val (.int (Int32.ofNat 2)), .val (.int (Int32.ofNat 2)), .val (.double Jvm.FP.dconst0), .second, .val (.int (Int32.ofNat 2))] [(.int (Int32.ofNat 2)), (.int (Int32.ofNat 2))])) _
    refine GoOn.step (fun tq kq => XS.icmpYes X0.here hx rfl (pc0 := 9) (pc' := 32) rfl (hb hby own_d8) rfl (flt (by decide)).2.1 (by decide) (by decide) kq) ?_
    show GoOn p e below (s₁.setTop (mkF m 32 #[.val (.ref wa), .val (.ref va), .val (.int (Int32.ofNat 2)), .val (.int (Int32.ofNat 2)), .val (.double Jvm.FP.dconst0), .second, .val (.int (Int32.ofNat 2))] [])) _
    refine GoOn.step (fun tq kq => XS.dload X0.here hx rfl (hb hby own_d9) rfl kq) ?_
    show GoOn p e below (s₁.setTop (mkF m 34 #[.val (.ref wa), .val (.ref va), .val (.int (Int32.ofNat 2)), .val (.int (Int32.ofNat 2)), .val (.double Jvm.FP.dconst0), .second, .val (.int (Int32.ofNat 2))] [(.double Jvm.FP.dconst0)])) _
    refine GoOn.ret X0 Bd.notSynchronized (v := some (.double Jvm.FP.dconst0)) (fun h => by rw [Bd.returns] at h; cases h) (fun fs hr => retOut X0 hx Bd.returns rfl (Or.inr (Or.inr (Or.inl ⟨rfl, rfl, _, rfl⟩))) (hb hby own_d10) hr) (by decide) (by decide) ?_
    rw [e0]
    exact ⟨_, rfl, N0, rfl, by rw [own_sm_2_2]; exact Rep.zero⟩
  · skip
    show GoOn p e below (s₁.setTop (mkF m 0 #[.val (.ref wa), .val (.ref va), .val (.int (Int32.ofNat 2)), .val (.int (Int32.ofNat 3)), .unset, .unset, .unset] [])) _
    refine GoOn.step (fun tq kq => XS.dconst0 X0.here hx rfl (hb hby own_d2) (v := Jvm.FP.dconst0) rfl kq) ?_
    show GoOn p e below (s₁.setTop (mkF m 1 #[.val (.ref wa), .val (.ref va), .val (.int (Int32.ofNat 2)), .val (.int (Int32.ofNat 3)), .unset, .unset, .unset] [(.double Jvm.FP.dconst0)])) _
    refine GoOn.step (fun tq kq => XS.dstore X0.here hx rfl (hb hby own_d3) rfl (l' := #[.val (.ref wa), .val (.ref va), .val (.int (Int32.ofNat 2)), .val (.int (Int32.ofNat 3)), .val (.double Jvm.FP.dconst0), .second, .unset]) rfl kq) ?_
    show GoOn p e below (s₁.setTop (mkF m 3 #[.val (.ref wa), .val (.ref va), .val (.int (Int32.ofNat 2)), .val (.int (Int32.ofNat 3)), .val (.double Jvm.FP.dconst0), .second, .unset] [])) _
    refine GoOn.step (fun tq kq => XS.iloadN X0.here hx rfl (hb hby own_d4) rfl kq) ?_
    show GoOn p e below (s₁.setTop (mkF m 4 #[.val (.ref wa), .val (.ref va), .val (.int (Int32.ofNat 2)), .val (.int (Int32.ofNat 3)), .val (.double Jvm.FP.dconst0), .second, .unset] [(.int (Int32.ofNat 2))])) _
    refine GoOn.step (fun tq kq => XS.istore X0.here hx rfl (hb hby own_d5) rfl (l' := #[.val (.ref wa), .val (.ref va), .val (.int (Int32.ofNat 2)), .val (.int (Int32.ofNat 3)), .val (.double Jvm.FP.dconst0), .second, .val (.int (Int32.ofNat 2))]) rfl kq) ?_
    show GoOn p e below (s₁.setTop (mkF m 6 #[.val (.ref wa), .val (.ref va), .val (.int (Int32.ofNat 2)), .val (.int (Int32.ofNat 3)), .val (.double Jvm.FP.dconst0), .second, .val (.int (Int32.ofNat 2))] [])) _
    refine GoOn.step (fun tq kq => XS.iload X0.here hx rfl (hb hby own_d6) rfl kq) ?_
    show GoOn p e below (s₁.setTop (mkF m 8 #[.val (.ref wa), .val (.ref va), .val (.int (Int32.ofNat 2)), .val (.int (Int32.ofNat 3)), .val (.double Jvm.FP.dconst0), .second, .val (.int (Int32.ofNat 2))] [(.int (Int32.ofNat 2))])) _
    refine GoOn.step (fun tq kq => XS.iloadN X0.here hx rfl (hb hby own_d7) rfl kq) ?_
    show GoOn p e below (s₁.setTop (mkF m 9 #[.val (.ref wa), .val (.ref va), .val (.int (Int32.ofNat 2)), .val (.int (Int32.ofNat 3)), .val (.double Jvm.FP.dconst0), .second, .val (.int (Int32.ofNat 2))] [(.int (Int32.ofNat 3)), (.int (Int32.ofNat 2))])) _
    refine GoOn.step (fun tq kq => XS.icmpNo X0.here hx rfl (hb hby own_d8) rfl (tlt (by decide)).2.1 kq) ?_
    show GoOn p e below (s₁.setTop (mkF m 12 #[.val (.ref wa), .val (.ref va), .val (.int (Int32.ofNat 2)), .val (.int (Int32.ofNat 3)), .val (.double Jvm.FP.dconst0), .second, .val (.int (Int32.ofNat 2))] [])) _
    refine GoOn.step (fun tq kq => XS.dload X0.here hx rfl (hb hby own_d11) rfl kq) ?_
    show GoOn p e below (s₁.setTop (mkF m 14 #[.val (.ref wa), .val (.ref va), .val (.int (Int32.ofNat 2)), .val (.int (Int32.ofNat 3)), .val (.double Jvm.FP.dconst0), .second, .val (.int (Int32.ofNat 2))] [(.double Jvm.FP.dconst0)])) _
    refine GoOn.step (fun tq kq => XS.aloadN X0.here hx rfl (hb hby own_d12) rfl rfl kq) ?_
    show GoOn p e below (s₁.setTop (mkF m 15 #[.val (.ref wa), .val (.ref va), .val (.int (Int32.ofNat 2)), .val (.int (Int32.ofNat 3)), .val (.double Jvm.FP.dconst0), .second, .val (.int (Int32.ofNat 2))] [(.ref wa), (.double Jvm.FP.dconst0)])) _
    refine GoOn.step (fun tq kq => XS.iload X0.here hx rfl (hb hby own_d13) rfl kq) ?_
    show GoOn p e below (s₁.setTop (mkF m 17 #[.val (.ref wa), .val (.ref va), .val (.int (Int32.ofNat 2)), .val (.int (Int32.ofNat 3)), .val (.double Jvm.FP.dconst0), .second, .val (.int (Int32.ofNat 2))] [(.int (Int32.ofNat 2)), (.ref wa), (.double Jvm.FP.dconst0)])) _
    obtain ⟨cq49, Aq49, qq49, Sq49, Mq49, Hq49, Uq49⟩ := id Vwa
    refine GoOn.step (fun tq kq => X0.daload hx (j := (Int32.ofNat 2)) (v := (.double x2)) (by rw [e0]; exact Aq49.1) (State.isArrayOf_alike hZ.alike Aq49.2.1) Aq49.2.2 (inb_of Sq49 (by decide)) (Hq49.at (inb_of Sq49 (by decide)) rfl) (g := (mkF m 17 #[.val (.ref wa), .val (.ref va), .val (.int (Int32.ofNat 2)), .val (.int (Int32.ofNat 3)), .val (.double Jvm.FP.dconst0), .second, .val (.int (Int32.ofNat 2))] [(.int (Int32.ofNat 2)), (.ref wa), (.double Jvm.FP.dconst0)])) rfl rfl (hb hby own_d14) _ kq) ?_
    show GoOn p e below (s₁.setTop (mkF m 18 #[.val (.ref wa), .val (.ref va), .val (.int (Int32.ofNat 2)), .val (.int (Int32.ofNat 3)), .val (.double Jvm.FP.dconst0), .second, .val (.int (Int32.ofNat 2))] [(.double x2), (.double Jvm.FP.dconst0)])) _
    refine GoOn.step (fun tq kq => XS.aloadN X0.here hx rfl (hb hby own_d15) rfl rfl kq) ?_
    show GoOn p e below (s₁.setTop (mkF m 19 #[.val (.ref wa), .val (.ref va), .val (.int (Int32.ofNat 2)), .val (.int (Int32.ofNat 3)), .val (.double Jvm.FP.dconst0), .second, .val (.int (Int32.ofNat 2))] [(.ref va), (.double x2), (.double Jvm.FP.dconst0)])) _
    refine GoOn.step (fun tq kq => XS.iload X0.here hx rfl (hb hby own_d16) rfl kq) ?_
    show GoOn p e below (s₁.setTop (mkF m 21 #[.val (.ref wa), .val (.ref va), .val (.int (Int32.ofNat 2)), .val (.int (Int32.ofNat 3)), .val (.double Jvm.FP.dconst0), .second, .val (.int (Int32.ofNat 2))] [(.int (Int32.ofNat 2)), (.ref va), (.double x2), (.double Jvm.FP.dconst0)])) _
    obtain ⟨cq50, Aq50, qq50, Sq50, Mq50, Hq50, Uq50⟩ := id Vva
    refine GoOn.step (fun tq kq => X0.daload hx (j := (Int32.ofNat 2)) (v := (.double y2)) (by rw [e0]; exact Aq50.1) (State.isArrayOf_alike hZ.alike Aq50.2.1) Aq50.2.2 (inb_of Sq50 (by decide)) (Hq50.at (inb_of Sq50 (by decide)) rfl) (g := (mkF m 21 #[.val (.ref wa), .val (.ref va), .val (.int (Int32.ofNat 2)), .val (.int (Int32.ofNat 3)), .val (.double Jvm.FP.dconst0), .second, .val (.int (Int32.ofNat 2))] [(.int (Int32.ofNat 2)), (.ref va), (.double x2), (.double Jvm.FP.dconst0)])) rfl rfl (hb hby own_d17) _ kq) ?_
    show GoOn p e below (s₁.setTop (mkF m 22 #[.val (.ref wa), .val (.ref va), .val (.int (Int32.ofNat 2)), .val (.int (Int32.ofNat 3)), .val (.double Jvm.FP.dconst0), .second, .val (.int (Int32.ofNat 2))] [(.double y2), (.double x2), (.double Jvm.FP.dconst0)])) _
    refine GoOn.step (fun tq kq => XS.dmulS X0.here hx rfl (hb hby own_d18) rfl R2.no (v := (Jvm.FP.dmul x2 y2)) rfl kq) ?_
    show GoOn p e below (s₁.setTop (mkF m 23 #[.val (.ref wa), .val (.ref va), .val (.int (Int32.ofNat 2)), .val (.int (Int32.ofNat 3)), .val (.double Jvm.FP.dconst0), .second, .val (.int (Int32.ofNat 2))] [(.double (Jvm.FP.dmul x2 y2)), (.double Jvm.FP.dconst0)])) _
    have P51 : Rep (Jvm.FP.dadd Jvm.FP.dconst0 (Jvm.FP.dmul x2 y2)) (0 + z2) := Rep.add Rep.zero R2 (by omega)
    refine GoOn.step (fun tq kq => XS.daddS X0.here hx rfl (hb hby own_d19) rfl P51.no (v := (Jvm.FP.dadd Jvm.FP.dconst0 (Jvm.FP.dmul x2 y2))) rfl kq) ?_
    show GoOn p e below (s₁.setTop (mkF m 24 #[.val (.ref wa), .val (.ref va), .val (.int (Int32.ofNat 2)), .val (.int (Int32.ofNat 3)), .val (.double Jvm.FP.dconst0), .second, .val (.int (Int32.ofNat 2))] [(.double (Jvm.FP.dadd Jvm.FP.dconst0 (Jvm.FP.dmul x2 y2)))])) _
    refine GoOn.step (fun tq kq => XS.dstore X0.here hx rfl (hb hby own_d20) rfl (l' := #[.val (.ref wa), .val (.ref va), .val (.int (Int32.ofNat 2)), .val (.int (Int32.ofNat 3)), .val (.double (Jvm.FP.dadd Jvm.FP.dconst0 (Jvm.FP.dmul x2 y2))), .second, .val (.int (Int32.ofNat 2))]) rfl kq) ?_
    show GoOn p e below (s₁.setTop (mkF m 26 #[.val (.ref wa), .val (.ref va), .val (.int (Int32.ofNat 2)), .val (.int (Int32.ofNat 3)), .val (.double (Jvm.FP.dadd Jvm.FP.dconst0 (Jvm.FP.dmul x2 y2))), .second, .val (.int (Int32.ofNat 2))] [])) _
    refine GoOn.step (fun tq kq => XS.iinc X0.here hx rfl (hb hby own_d21) rfl (l' := #[.val (.ref wa), .val (.ref va), .val (.int (Int32.ofNat 2)), .val (.int (Int32.ofNat 3)), .val (.double (Jvm.FP.dadd Jvm.FP.dconst0 (Jvm.FP.dmul x2 y2))), .second, .val (.int ((Int32.ofNat 2) + Int32.ofInt 1))]) rfl kq) ?_
    show GoOn p e below (s₁.setTop (mkF m 29 #[.val (.ref wa), .val (.ref va), .val (.int (Int32.ofNat 2)), .val (.int (Int32.ofNat 3)), .val (.double (Jvm.FP.dadd Jvm.FP.dconst0 (Jvm.FP.dmul x2 y2))), .second, .val (.int ((Int32.ofNat 2) + Int32.ofInt 1))] [])) _
    refine GoOn.step (fun tq kq => XS.goto X0.here hx rfl (pc0 := 29) (pc' := 6) rfl (hb hby own_d22) (by decide) (by decide) kq) ?_
    show GoOn p e below (s₁.setTop (mkF m 6 #[.val (.ref wa), .val (.ref va), .val (.int (Int32.ofNat 2)), .val (.int (Int32.ofNat 3)), .val (.double (Jvm.FP.dadd Jvm.FP.dconst0 (Jvm.FP.dmul x2 y2))), .second, .val (.int ((Int32.ofNat 2) + Int32.ofInt 1))] [])) _
    refine GoOn.step (fun tq kq => XS.iload X0.here hx rfl (hb hby own_d6) rfl kq) ?_
    show GoOn p e below (s₁.setTop (mkF m 8 #[.val (.ref wa), .val (.ref va), .val (.int (Int32.ofNat 2)), .val (.int (Int32.ofNat 3)), .val (.double (Jvm.FP.dadd Jvm.FP.dconst0 (Jvm.FP.dmul x2 y2))), .second, .val (.int ((Int32.ofNat 2) + Int32.ofInt 1))] [(.int ((Int32.ofNat 2) + Int32.ofInt 1))])) _
    refine GoOn.step (fun tq kq => XS.iloadN X0.here hx rfl (hb hby own_d7) rfl kq) ?_
    show GoOn p e below (s₁.setTop (mkF m 9 #[.val (.ref wa), .val (.ref va), .val (.int (Int32.ofNat 2)), .val (.int (Int32.ofNat 3)), .val (.double (Jvm.FP.dadd Jvm.FP.dconst0 (Jvm.FP.dmul x2 y2))), .second, .val (.int ((Int32.ofNat 2) + Int32.ofInt 1))] [(.int (Int32.ofNat 3)), (.int ((Int32.ofNat 2) + Int32.ofInt 1))])) _
    refine GoOn.step (fun tq kq => XS.icmpYes X0.here hx rfl (pc0 := 9) (pc' := 32) rfl (hb hby own_d8) rfl (flt (by decide)).2.1 (by decide) (by decide) kq) ?_
    show GoOn p e below (s₁.setTop (mkF m 32 #[.val (.ref wa), .val (.ref va), .val (.int (Int32.ofNat 2)), .val (.int (Int32.ofNat 3)), .val (.double (Jvm.FP.dadd Jvm.FP.dconst0 (Jvm.FP.dmul x2 y2))), .second, .val (.int ((Int32.ofNat 2) + Int32.ofInt 1))] [])) _
    refine GoOn.step (fun tq kq => XS.dload X0.here hx rfl (hb hby own_d9) rfl kq) ?_
    show GoOn p e below (s₁.setTop (mkF m 34 #[.val (.ref wa), .val (.ref va), .val (.int (Int32.ofNat 2)), .val (.int (Int32.ofNat 3)), .val (.double (Jvm.FP.dadd Jvm.FP.dconst0 (Jvm.FP.dmul x2 y2))), .second, .val (.int ((Int32.ofNat 2) + Int32.ofInt 1))] [(.double (Jvm.FP.dadd Jvm.FP.dconst0 (Jvm.FP.dmul x2 y2)))])) _
    refine GoOn.ret X0 Bd.notSynchronized (v := some (.double (Jvm.FP.dadd Jvm.FP.dconst0 (Jvm.FP.dmul x2 y2)))) (fun h => by rw [Bd.returns] at h; cases h) (fun fs hr => retOut X0 hx Bd.returns rfl (Or.inr (Or.inr (Or.inl ⟨rfl, rfl, _, rfl⟩))) (hb hby own_d10) hr) (by decide) (by decide) ?_
    rw [e0]
    exact ⟨_, rfl, N0, rfl, by rw [own_sm_2_3]; exact P51⟩
  · skip
    show GoOn p e below (s₁.setTop (mkF m 0 #[.val (.ref wa), .val (.ref va), .val (.int (Int32.ofNat 2)), .val (.int (Int32.ofNat 4)), .unset, .unset, .unset] [])) _
    refine GoOn.step (fun tq kq => XS.dconst0 X0.here hx rfl (hb hby own_d2) (v := Jvm.FP.dconst0) rfl kq) ?_
    show GoOn p e below (s₁.setTop (mkF m 1 #[.val (.ref wa), .val (.ref va), .val (.int (Int32.ofNat 2)), .val (.int (Int32.ofNat 4)), .unset, .unset, .unset] [(.double Jvm.FP.dconst0)])) _
    refine GoOn.step (fun tq kq => XS.dstore X0.here hx rfl (hb hby own_d3) rfl (l' := #[.val (.ref wa), .val (.ref va), .val (.int (Int32.ofNat 2)), .val (.int (Int32.ofNat 4)), .val (.double Jvm.FP.dconst0), .second, .unset]) rfl kq) ?_
    show GoOn p e below (s₁.setTop (mkF m 3 #[.val (.ref wa), .val (.ref va), .val (.int (Int32.ofNat 2)), .val (.int (Int32.ofNat 4)), .val (.double Jvm.FP.dconst0), .second, .unset] [])) _
    refine GoOn.step (fun tq kq => XS.iloadN X0.here hx rfl (hb hby own_d4) rfl kq) ?_
    show GoOn p e below (s₁.setTop (mkF m 4 #[.val (.ref wa), .val (.ref va), .val (.int (Int32.ofNat 2)), .val (.int (Int32.ofNat 4)), .val (.double Jvm.FP.dconst0), .second, .unset] [(.int (Int32.ofNat 2))])) _
    refine GoOn.step (fun tq kq => XS.istore X0.here hx rfl (hb hby own_d5) rfl (l' := #[.val (.ref wa), .val (.ref va), .val (.int (Int32.ofNat 2)), .val (.int (Int32.ofNat 4)), .val (.double Jvm.FP.dconst0), .second, .val (.int (Int32.ofNat 2))]) rfl kq) ?_
    show GoOn p e below (s₁.setTop (mkF m 6 #[.val (.ref wa), .val (.ref va), .val (.int (Int32.ofNat 2)), .val (.int (Int32.ofNat 4)), .val (.double Jvm.FP.dconst0), .second, .val (.int (Int32.ofNat 2))] [])) _
    refine GoOn.step (fun tq kq => XS.iload X0.here hx rfl (hb hby own_d6) rfl kq) ?_
    show GoOn p e below (s₁.setTop (mkF m 8 #[.val (.ref wa), .val (.ref va), .val (.int (Int32.ofNat 2)), .val (.int (Int32.ofNat 4)), .val (.double Jvm.FP.dconst0), .second, .val (.int (Int32.ofNat 2))] [(.int (Int32.ofNat 2))])) _
    refine GoOn.step (fun tq kq => XS.iloadN X0.here hx rfl (hb hby own_d7) rfl kq) ?_
    show GoOn p e below (s₁.setTop (mkF m 9 #[.val (.ref wa), .val (.ref va), .val (.int (Int32.ofNat 2)), .val (.int (Int32.ofNat 4)), .val (.double Jvm.FP.dconst0), .second, .val (.int (Int32.ofNat 2))] [(.int (Int32.ofNat 4)), (.int (Int32.ofNat 2))])) _
    refine GoOn.step (fun tq kq => XS.icmpNo X0.here hx rfl (hb hby own_d8) rfl (tlt (by decide)).2.1 kq) ?_
    show GoOn p e below (s₁.setTop (mkF m 12 #[.val (.ref wa), .val (.ref va), .val (.int (Int32.ofNat 2)), .val (.int (Int32.ofNat 4)), .val (.double Jvm.FP.dconst0), .second, .val (.int (Int32.ofNat 2))] [])) _
    refine GoOn.step (fun tq kq => XS.dload X0.here hx rfl (hb hby own_d11) rfl kq) ?_
    show GoOn p e below (s₁.setTop (mkF m 14 #[.val (.ref wa), .val (.ref va), .val (.int (Int32.ofNat 2)), .val (.int (Int32.ofNat 4)), .val (.double Jvm.FP.dconst0), .second, .val (.int (Int32.ofNat 2))] [(.double Jvm.FP.dconst0)])) _
    refine GoOn.step (fun tq kq => XS.aloadN X0.here hx rfl (hb hby own_d12) rfl rfl kq) ?_
    show GoOn p e below (s₁.setTop (mkF m 15 #[.val (.ref wa), .val (.ref va), .val (.int (Int32.ofNat 2)), .val (.int (Int32.ofNat 4)), .val (.double Jvm.FP.dconst0), .second, .val (.int (Int32.ofNat 2))] [(.ref wa), (.double Jvm.FP.dconst0)])) _
    refine GoOn.step (fun tq kq => XS.iload X0.here hx rfl (hb hby own_d13) rfl kq) ?_
    show GoOn p e below (s₁.setTop (mkF m 17 #[.val (.ref wa), .val (.ref va), .val (.int (Int32.ofNat 2)), .val (.int (Int32.ofNat 4)), .val (.double Jvm.FP.dconst0), .second, .val (.int (Int32.ofNat 2))] [(.int (Int32.ofNat 2)), (.ref wa), (.double Jvm.FP.dconst0)])) _
    obtain ⟨cq52, Aq52, qq52, Sq52, Mq52, Hq52, Uq52⟩ := id Vwa
    refine GoOn.step (fun tq kq => X0.daload hx (j := (Int32.ofNat 2)) (v := (.double x2)) (by rw [e0]; exact Aq52.1) (State.isArrayOf_alike hZ.alike Aq52.2.1) Aq52.2.2 (inb_of Sq52 (by decide)) (Hq52.at (inb_of Sq52 (by decide)) rfl) (g := (mkF m 17 #[.val (.ref wa), .val (.ref va), .val (.int (Int32.ofNat 2)), .val (.int (Int32.ofNat 4)), .val (.double Jvm.FP.dconst0), .second, .val (.int (Int32.ofNat 2))] [(.int (Int32.ofNat 2)), (.ref wa), (.double Jvm.FP.dconst0)])) rfl rfl (hb hby own_d14) _ kq) ?_
    show GoOn p e below (s₁.setTop (mkF m 18 #[.val (.ref wa), .val (.ref va), .val (.int (Int32.ofNat 2)), .val (.int (Int32.ofNat 4)), .val (.double Jvm.FP.dconst0), .second, .val (.int (Int32.ofNat 2))] [(.double x2), (.double Jvm.FP.dconst0)])) _
    refine GoOn.step (fun tq kq => XS.aloadN X0.here hx rfl (hb hby own_d15) rfl rfl kq) ?_
    show GoOn p e below (s₁.setTop (mkF m 19 #[.val (.ref wa), .val (.ref va), .val (.int (Int32.ofNat 2)), .val (.int (Int32.ofNat 4)), .val (.double Jvm.FP.dconst0), .second, .val (.int (Int32.ofNat 2))] [(.ref va), (.double x2), (.double Jvm.FP.dconst0)])) _
    refine GoOn.step (fun tq kq => XS.iload X0.here hx rfl (hb hby own_d16) rfl kq) ?_
    show GoOn p e below (s₁.setTop (mkF m 21 #[.val (.ref wa), .val (.ref va), .val (.int (Int32.ofNat 2)), .val (.int (Int32.ofNat 4)), .val (.double Jvm.FP.dconst0), .second, .val (.int (Int32.ofNat 2))] [(.int (Int32.ofNat 2)), (.ref va), (.double x2), (.double Jvm.FP.dconst0)])) _
    obtain ⟨cq53, Aq53, qq53, Sq53, Mq53, Hq53, Uq53⟩ := id Vva
    refine GoOn.step (fun tq kq => X0.daload hx (j := (Int32.ofNat 2)) (v := (.double y2)) (by rw [e0]; exact Aq53.1) (State.isArrayOf_alike hZ.alike Aq53.2.1) Aq53.2.2 (inb_of Sq53 (by decide)) (Hq53.at (inb_of Sq53 (by decide)) rfl) (g := (mkF m 21 #[.val (.ref wa), .val (.ref va), .val (.int (Int32.ofNat 2)), .val (.int (Int32.ofNat 4)), .val (.double Jvm.FP.dconst0), .second, .val (.int (Int32.ofNat 2))] [(.int (Int32.ofNat 2)), (.ref va), (.double x2), (.double Jvm.FP.dconst0)])) rfl rfl (hb hby own_d17) _ kq) ?_
    show GoOn p e below (s₁.setTop (mkF m 22 #[.val (.ref wa), .val (.ref va), .val (.int (Int32.ofNat 2)), .val (.int (Int32.ofNat 4)), .val (.double Jvm.FP.dconst0), .second, .val (.int (Int32.ofNat 2))] [(.double y2), (.double x2), (.double Jvm.FP.dconst0)])) _
    refine GoOn.step (fun tq kq => XS.dmulS X0.here hx rfl (hb hby own_d18) rfl R2.no (v := (Jvm.FP.dmul x2 y2)) rfl kq) ?_
    show GoOn p e below (s₁.setTop (mkF m 23 #[.val (.ref wa), .val (.ref va), .val (.int (Int32.ofNat 2)), .val (.int (Int32.ofNat 4)), .val (.double Jvm.FP.dconst0), .second, .val (.int (Int32.ofNat 2))] [(.double (Jvm.FP.dmul x2 y2)), (.double Jvm.FP.dconst0)])) _
    have P54 : Rep (Jvm.FP.dadd Jvm.FP.dconst0 (Jvm.FP.dmul x2 y2)) (0 + z2) := Rep.add Rep.zero R2 (by omega)
    refine GoOn.step (fun tq kq => XS.daddS X0.here hx rfl (hb hby own_d19) rfl P54.no (v := (Jvm.FP.dadd Jvm.FP.dconst0 (Jvm.FP.dmul x2 y2))) rfl kq) ?_
    show GoOn p e below (s₁.setTop (mkF m 24 #[.val (.ref wa), .val (.ref va), .val (.int (Int32.ofNat 2)), .val (.int (Int32.ofNat 4)), .val (.double Jvm.FP.dconst0), .second, .val (.int (Int32.ofNat 2))] [(.double (Jvm.FP.dadd Jvm.FP.dconst0 (Jvm.FP.dmul x2 y2)))])) _
    refine GoOn.step (fun tq kq => XS.dstore X0.here hx rfl (hb hby own_d20) rfl (l' := #[.val (.ref wa), .val (.ref va), .val (.int (Int32.ofNat 2)), .val (.int (Int32.ofNat 4)), .val (.double (Jvm.FP.dadd Jvm.FP.dconst0 (Jvm.FP.dmul x2 y2))), .second, .val (.int (Int32.ofNat 2))]) rfl kq) ?_
    show GoOn p e below (s₁.setTop (mkF m 26 #[.val (.ref wa), .val (.ref va), .val (.int (Int32.ofNat 2)), .val (.int (Int32.ofNat 4)), .val (.double (Jvm.FP.dadd Jvm.FP.dconst0 (Jvm.FP.dmul x2 y2))), .second, .val (.int (Int32.ofNat 2))] [])) _
    refine GoOn.step (fun tq kq => XS.iinc X0.here hx rfl (hb hby own_d21) rfl (l' := #[.val (.ref wa), .val (.ref va), .val (.int (Int32.ofNat 2)), .val (.int (Int32.ofNat 4)), .val (.double (Jvm.FP.dadd Jvm.FP.dconst0 (Jvm.FP.dmul x2 y2))), .second, .val (.int ((Int32.ofNat 2) + Int32.ofInt 1))]) rfl kq) ?_
    show GoOn p e below (s₁.setTop (mkF m 29 #[.val (.ref wa), .val (.ref va), .val (.int (Int32.ofNat 2)), .val (.int (Int32.ofNat 4)), .val (.double (Jvm.FP.dadd Jvm.FP.dconst0 (Jvm.FP.dmul x2 y2))), .second, .val (.int ((Int32.ofNat 2) + Int32.ofInt 1))] [])) _
    refine GoOn.step (fun tq kq => XS.goto X0.here hx rfl (pc0 := 29) (pc' := 6) rfl (hb hby own_d22) (by decide) (by decide) kq) ?_
    show GoOn p e below (s₁.setTop (mkF m 6 #[.val (.ref wa), .val (.ref va), .val (.int (Int32.ofNat 2)), .val (.int (Int32.ofNat 4)), .val (.double (Jvm.FP.dadd Jvm.FP.dconst0 (Jvm.FP.dmul x2 y2))), .second, .val (.int ((Int32.ofNat 2) + Int32.ofInt 1))] [])) _
    refine GoOn.step (fun tq kq => XS.iload X0.here hx rfl (hb hby own_d6) rfl kq) ?_
    show GoOn p e below (s₁.setTop (mkF m 8 #[.val (.ref wa), .val (.ref va), .val (.int (Int32.ofNat 2)), .val (.int (Int32.ofNat 4)), .val (.double (Jvm.FP.dadd Jvm.FP.dconst0 (Jvm.FP.dmul x2 y2))), .second, .val (.int ((Int32.ofNat 2) + Int32.ofInt 1))] [(.int ((Int32.ofNat 2) + Int32.ofInt 1))])) _
    refine GoOn.step (fun tq kq => XS.iloadN X0.here hx rfl (hb hby own_d7) rfl kq) ?_
    show GoOn p e below (s₁.setTop (mkF m 9 #[.val (.ref wa), .val (.ref va), .val (.int (Int32.ofNat 2)), .val (.int (Int32.ofNat 4)), .val (.double (Jvm.FP.dadd Jvm.FP.dconst0 (Jvm.FP.dmul x2 y2))), .second, .val (.int ((Int32.ofNat 2) + Int32.ofInt 1))] [(.int (Int32.ofNat 4)), (.int ((Int32.ofNat 2) + Int32.ofInt 1))])) _
    refine GoOn.step (fun tq kq => XS.icmpNo X0.here hx rfl (hb hby own_d8) rfl (tlt (by decide)).2.1 kq) ?_
    show GoOn p e below (s₁.setTop (mkF m 12 #[.val (.ref wa), .val (.ref va), .val (.int (Int32.ofNat 2)), .val (.int (Int32.ofNat 4)), .val (.double (Jvm.FP.dadd Jvm.FP.dconst0 (Jvm.FP.dmul x2 y2))), .second, .val (.int ((Int32.ofNat 2) + Int32.ofInt 1))] [])) _
    refine GoOn.step (fun tq kq => XS.dload X0.here hx rfl (hb hby own_d11) rfl kq) ?_
    show GoOn p e below (s₁.setTop (mkF m 14 #[.val (.ref wa), .val (.ref va), .val (.int (Int32.ofNat 2)), .val (.int (Int32.ofNat 4)), .val (.double (Jvm.FP.dadd Jvm.FP.dconst0 (Jvm.FP.dmul x2 y2))), .second, .val (.int ((Int32.ofNat 2) + Int32.ofInt 1))] [(.double (Jvm.FP.dadd Jvm.FP.dconst0 (Jvm.FP.dmul x2 y2)))])) _
    refine GoOn.step (fun tq kq => XS.aloadN X0.here hx rfl (hb hby own_d12) rfl rfl kq) ?_
    show GoOn p e below (s₁.setTop (mkF m 15 #[.val (.ref wa), .val (.ref va), .val (.int (Int32.ofNat 2)), .val (.int (Int32.ofNat 4)), .val (.double (Jvm.FP.dadd Jvm.FP.dconst0 (Jvm.FP.dmul x2 y2))), .second, .val (.int ((Int32.ofNat 2) + Int32.ofInt 1))] [(.ref wa), (.double (Jvm.FP.dadd Jvm.FP.dconst0 (Jvm.FP.dmul x2 y2)))])) _
    refine GoOn.step (fun tq kq => XS.iload X0.here hx rfl (hb hby own_d13) rfl kq) ?_
    show GoOn p e below (s₁.setTop (mkF m 17 #[.val (.ref wa), .val (.ref va), .val (.int (Int32.ofNat 2)), .val (.int (Int32.ofNat 4)), .val (.double (Jvm.FP.dadd Jvm.FP.dconst0 (Jvm.FP.dmul x2 y2))), .second, .val (.int ((Int32.ofNat 2) + Int32.ofInt 1))] [(.int ((Int32.ofNat 2) + Int32.ofInt 1)), (.ref wa), (.double (Jvm.FP.dadd Jvm.FP.dconst0 (Jvm.FP.dmul x2 y2)))])) _
    obtain ⟨cq55, Aq55, qq55, Sq55, Mq55, Hq55, Uq55⟩ := id Vwa
    refine GoOn.step (fun tq kq => X0.daload hx (j := ((Int32.ofNat 2) + Int32.ofInt 1)) (v := (.double x3)) (by rw [e0]; exact Aq55.1) (State.isArrayOf_alike hZ.alike Aq55.2.1) Aq55.2.2 (inb_of Sq55 (by decide)) (Hq55.at (inb_of Sq55 (by decide)) rfl) (g := (mkF m 17 #[.val (.ref wa), .val (.ref va), .val (.int (Int32.ofNat 2)), .val (.int (Int32.ofNat 4)), .val (.double (Jvm.FP.dadd Jvm.FP.dconst0 (Jvm.FP.dmul x2 y2))), .second, .val (.int ((Int32.ofNat 2) + Int32.ofInt 1))] [(.int ((Int32.ofNat 2) + Int32.ofInt 1)), (.ref wa), (.double (Jvm.FP.dadd Jvm.FP.dconst0 (Jvm.FP.dmul x2 y2)))])) rfl rfl (hb hby own_d14) _ kq) ?_
    show GoOn p e below (s₁.setTop (mkF m 18 #[.val (.ref wa), .val (.ref va), .val (.int (Int32.ofNat 2)), .val (.int (Int32.ofNat 4)), .val (.double (Jvm.FP.dadd Jvm.FP.dconst0 (Jvm.FP.dmul x2 y2))), .second, .val (.int ((Int32.ofNat 2) + Int32.ofInt 1))] [(.double x3), (.double (Jvm.FP.dadd Jvm.FP.dconst0 (Jvm.FP.dmul x2 y2)))])) _
    refine GoOn.step (fun tq kq => XS.aloadN X0.here hx rfl (hb hby own_d15) rfl rfl kq) ?_
    show GoOn p e below (s₁.setTop (mkF m 19 #[.val (.ref wa), .val (.ref va), .val (.int (Int32.ofNat 2)), .val (.int (Int32.ofNat 4)), .val (.double (Jvm.FP.dadd Jvm.FP.dconst0 (Jvm.FP.dmul x2 y2))), .second, .val (.int ((Int32.ofNat 2) + Int32.ofInt 1))] [(.ref va), (.double x3), (.double (Jvm.FP.dadd Jvm.FP.dconst0 (Jvm.FP.dmul x2 y2)))])) _
    refine GoOn.step (fun tq kq => XS.iload X0.here hx rfl (hb hby own_d16) rfl kq) ?_
    show GoOn p e below (s₁.setTop (mkF m 21 #[.val (.ref wa), .val (.ref va), .val (.int (Int32.ofNat 2)), .val (.int (Int32.ofNat 4)), .val (.double (Jvm.FP.dadd Jvm.FP.dconst0 (Jvm.FP.dmul x2 y2))), .second, .val (.int ((Int32.ofNat 2) + Int32.ofInt 1))] [(.int ((Int32.ofNat 2) + Int32.ofInt 1)), (.ref va), (.double x3), (.double (Jvm.FP.dadd Jvm.FP.dconst0 (Jvm.FP.dmul x2 y2)))])) _
    obtain ⟨cq56, Aq56, qq56, Sq56, Mq56, Hq56, Uq56⟩ := id Vva
    refine GoOn.step (fun tq kq => X0.daload hx (j := ((Int32.ofNat 2) + Int32.ofInt 1)) (v := (.double y3)) (by rw [e0]; exact Aq56.1) (State.isArrayOf_alike hZ.alike Aq56.2.1) Aq56.2.2 (inb_of Sq56 (by decide)) (Hq56.at (inb_of Sq56 (by decide)) rfl) (g := (mkF m 21 #[.val (.ref wa), .val (.ref va), .val (.int (Int32.ofNat 2)), .val (.int (Int32.ofNat 4)), .val (.double (Jvm.FP.dadd Jvm.FP.dconst0 (Jvm.FP.dmul x2 y2))), .second, .val (.int ((Int32.ofNat 2) + Int32.ofInt 1))] [(.int ((Int32.ofNat 2) + Int32.ofInt 1)), (.ref va), (.double x3), (.double (Jvm.FP.dadd Jvm.FP.dconst0 (Jvm.FP.dmul x2 y2)))])) rfl rfl (hb hby own_d17) _ kq) ?_
    show GoOn p e below (s₁.setTop (mkF m 22 #[.val (.ref wa), .val (.ref va), .val (.int (Int32.ofNat 2)), .val (.int (Int32.ofNat 4)), .val (.double (Jvm.FP.dadd Jvm.FP.dconst0 (Jvm.FP.dmul x2 y2))), .second, .val (.int ((Int32.ofNat 2) + Int32.ofInt 1))] [(.double y3), (.double x3), (.double (Jvm.FP.dadd Jvm.FP.dconst0 (Jvm.FP.dmul x2 y2)))])) _
    refine GoOn.step (fun tq kq => XS.dmulS X0.here hx rfl (hb hby own_d18) rfl R3.no (v := (Jvm.FP.dmul x3 y3)) rfl kq) ?_
    show GoOn p e below (s₁.setTop (mkF m 23 #[.val (.ref wa), .val (.ref va), .val (.int (Int32.ofNat 2)), .val (.int (Int32.ofNat 4)), .val (.double (Jvm.FP.dadd Jvm.FP.dconst0 (Jvm.FP.dmul x2 y2))), .second, .val (.int ((Int32.ofNat 2) + Int32.ofInt 1))] [(.double (Jvm.FP.dmul x3 y3)), (.double (Jvm.FP.dadd Jvm.FP.dconst0 (Jvm.FP.dmul x2 y2)))])) _
    have P57 : Rep (Jvm.FP.dadd (Jvm.FP.dadd Jvm.FP.dconst0 (Jvm.FP.dmul x2 y2)) (Jvm.FP.dmul x3 y3)) ((0 + z2) + z3) := Rep.add P54 R3 (by omega)
    refine GoOn.step (fun tq kq => XS.daddS X0.here hx rfl (hb hby own_d19) rfl P57.no (v := (Jvm.FP.dadd (Jvm.FP.dadd Jvm.FP.dconst0 (Jvm.FP.dmul x2 y2)) (Jvm.FP.dmul x3 y3))) rfl kq) ?_
    show GoOn p e below (s₁.setTop (mkF m 24 #[.val (.ref wa), .val (.ref va), .val (.int (Int32.ofNat 2)), .val (.int (Int32.ofNat 4)), .val (.double (Jvm.FP.dadd Jvm.FP.dconst0 (Jvm.FP.dmul x2 y2))), .second, .val (.int ((Int32.ofNat 2) + Int32.ofInt 1))] [(.double (Jvm.FP.dadd (Jvm.FP.dadd Jvm.FP.dconst0 (Jvm.FP.dmul x2 y2)) (Jvm.FP.dmul x3 y3)))])) _
    refine GoOn.step (fun tq kq => XS.dstore X0.here hx rfl (hb hby own_d20) rfl (l' := #[.val (.ref wa), .val (.ref va), .val (.int (Int32.ofNat 2)), .val (.int (Int32.ofNat 4)), .val (.double (Jvm.FP.dadd (Jvm.FP.dadd Jvm.FP.dconst0 (Jvm.FP.dmul x2 y2)) (Jvm.FP.dmul x3 y3))), .second, .val (.int ((Int32.ofNat 2) + Int32.ofInt 1))]) rfl kq) ?_
    show GoOn p e below (s₁.setTop (mkF m 26 #[.val (.ref wa), .val (.ref va), .val (.int (Int32.ofNat 2)), .val (.int (Int32.ofNat 4)), .val (.double (Jvm.FP.dadd (Jvm.FP.dadd Jvm.FP.dconst0 (Jvm.FP.dmul x2 y2)) (Jvm.FP.dmul x3 y3))), .second, .val (.int ((Int32.ofNat 2) + Int32.ofInt 1))] [])) _
    refine GoOn.step (fun tq kq => XS.iinc X0.here hx rfl (hb hby own_d21) rfl (l' := #[.val (.ref wa), .val (.ref va), .val (.int (Int32.ofNat 2)), .val (.int (Int32.ofNat 4)), .val (.double (Jvm.FP.dadd (Jvm.FP.dadd Jvm.FP.dconst0 (Jvm.FP.dmul x2 y2)) (Jvm.FP.dmul x3 y3))), .second, .val (.int (((Int32.ofNat 2) + Int32.ofInt 1) + Int32.ofInt 1))]) rfl kq) ?_
    show GoOn p e below (s₁.setTop (mkF m 29 #[.val (.ref wa), .val (.ref va), .val (.int (Int32.ofNat 2)), .val (.int (Int32.ofNat 4)), .val (.double (Jvm.FP.dadd (Jvm.FP.dadd Jvm.FP.dconst0 (Jvm.FP.dmul x2 y2)) (Jvm.FP.dmul x3 y3))), .second, .val (.int (((Int32.ofNat 2) + Int32.ofInt 1) + Int32.ofInt 1))] [])) _
    refine GoOn.step (fun tq kq => XS.goto X0.here hx rfl (pc0 := 29) (pc' := 6) rfl (hb hby own_d22) (by decide) (by decide) kq) ?_
    show GoOn p e below (s₁.setTop (mkF m 6 #[.val (.ref wa), .val (.ref va), .val (.int (Int32.ofNat 2)), .val (.int (Int32.ofNat 4)), .val (.double (Jvm.FP.dadd (Jvm.FP.dadd Jvm.FP.dconst0 (Jvm.FP.dmul x2 y2)) (Jvm.FP.dmul x3 y3))), .second, .val (.int (((Int32.ofNat 2) + Int32.ofInt 1) + Int32.ofInt 1))] [])) _
    refine GoOn.step (fun tq kq => XS.iload X0.here hx rfl (hb hby own_d6) rfl kq) ?_
    show GoOn p e below (s₁.setTop (mkF m 8 #[.val (.ref wa), .val (.ref va), .val (.int (Int32.ofNat 2)), .val (.int (Int32.ofNat 4)), .val (.double (Jvm.FP.dadd (Jvm.FP.dadd Jvm.FP.dconst0 (Jvm.FP.dmul x2 y2)) (Jvm.FP.dmul x3 y3))), .second, .val (.int (((Int32.ofNat 2) + Int32.ofInt 1) + Int32.ofInt 1))] [(.int (((Int32.ofNat 2) + Int32.ofInt 1) + Int32.ofInt 1))])) _
    refine GoOn.step (fun tq kq => XS.iloadN X0.here hx rfl (hb hby own_d7) rfl kq) ?_
    show GoOn p e below (s₁.setTop (mkF m 9 #[.val (.ref wa), .val (.ref va), .val (.int (Int32.ofNat 2)), .val (.int (Int32.ofNat 4)), .val (.double (Jvm.FP.dadd (Jvm.FP.dadd Jvm.FP.dconst0 (Jvm.FP.dmul x2 y2)) (Jvm.FP.dmul x3 y3))), .second, .val (.int (((Int32.ofNat 2) + Int32.ofInt 1) + Int32.ofInt 1))] [(.int (Int32.ofNat 4)), (.int (((Int32.ofNat 2) + Int32.ofInt 1) + Int32.ofInt 1))])) _
    refine GoOn.step (fun tq kq => XS.icmpYes X0.here hx rfl (pc0 := 9) (pc' := 32) rfl (hb hby own_d8) rfl (flt (by decide)).2.1 (by decide) (by decide) kq) ?_
    show GoOn p e below (s₁.setTop (mkF m 32 #[.val (.ref wa), .val (.ref va), .val (.int (Int32.ofNat 2)), .val (.int (Int32.ofNat 4)), .val (.double (Jvm.FP.dadd (Jvm.FP.dadd Jvm.FP.dconst0 (Jvm.FP.dmul x2 y2)) (Jvm.FP.dmul x3 y3))), .second, .val (.int (((Int32.ofNat 2) + Int32.ofInt 1) + Int32.ofInt 1))] [])) _
    refine GoOn.step (fun tq kq => XS.dload X0.here hx rfl (hb hby own_d9) rfl kq) ?_
    show GoOn p e below (s₁.setTop (mkF m 34 #[.val (.ref wa), .val (.ref va), .val (.int (Int32.ofNat 2)), .val (.int (Int32.ofNat 4)), .val (.double (Jvm.FP.dadd (Jvm.FP.dadd Jvm.FP.dconst0 (Jvm.FP.dmul x2 y2)) (Jvm.FP.dmul x3 y3))), .second, .val (.int (((Int32.ofNat 2) + Int32.ofInt 1) + Int32.ofInt 1))] [(.double (Jvm.FP.dadd (Jvm.FP.dadd Jvm.FP.dconst0 (Jvm.FP.dmul x2 y2)) (Jvm.FP.dmul x3 y3)))])) _
    refine GoOn.ret X0 Bd.notSynchronized (v := some (.double (Jvm.FP.dadd (Jvm.FP.dadd Jvm.FP.dconst0 (Jvm.FP.dmul x2 y2)) (Jvm.FP.dmul x3 y3)))) (fun h => by rw [Bd.returns] at h; cases h) (fun fs hr => retOut X0 hx Bd.returns rfl (Or.inr (Or.inr (Or.inl ⟨rfl, rfl, _, rfl⟩))) (hb hby own_d10) hr) (by decide) (by decide) ?_
    rw [e0]
    exact ⟨_, rfl, N0, rfl, by rw [own_sm_2_4]; exact P57⟩
  · skip
    show GoOn p e below (s₁.setTop (mkF m 0 #[.val (.ref wa), .val (.ref va), .val (.int (Int32.ofNat 3)), .val (.int (Int32.ofNat 0)), .unset, .unset, .unset] [])) _
    refine GoOn.step (fun tq kq => XS.dconst0 X0.here hx rfl (hb hby own_d2) (v := Jvm.FP.dconst0) rfl kq) ?_
    show GoOn p e below (s₁.setTop (mkF m 1 #[.val (.ref wa), .val (.ref va), .val (.int (Int32.ofNat 3)), .val (.int (Int32.ofNat 0)), .unset, .unset, .unset] [(.double Jvm.FP.dconst0)])) _
    refine GoOn.step (fun tq kq => XS.dstore X0.here hx rfl (hb hby own_d3) rfl (l' := #[.val (.ref wa), .val (.ref va), .val (.int (Int32.ofNat 3)), .val (.int (Int32.ofNat 0)), .val (.double Jvm.FP.dconst0), .second, .unset]) rfl kq) ?_
    show GoOn p e below (s₁.setTop (mkF m 3 #[.val (.ref wa), .val (.ref va), .val (.int (Int32.ofNat 3)), .val (.int (Int32.ofNat 0)), .val (.double Jvm.FP.dconst0), .second, .unset] [])) _
    refine GoOn.step (fun tq kq => XS.iloadN X0.here hx rfl (hb hby own_d4) rfl kq) ?_
    show GoOn p e below (s₁.setTop (mkF m 4 #[.val (.ref wa), .val (.ref va), .val (.int (Int32.ofNat 3)), .val (.int (Int32.ofNat 0)), .val (.double Jvm.FP.dconst0), .second, .unset] [(.int (Int32.ofNat 3))])) _
    refine GoOn.step (fun tq kq => XS.istore X0.here hx rfl (hb hby own_d5) rfl (l' := #[.val (.ref wa), .val (.ref va), .val (.int (Int32.ofNat 3)), .val (.int (Int32.ofNat 0)), .val (.double Jvm.FP.dconst0), .second, .val (.int (Int32.ofNat 3))]) rfl kq) ?_
    show GoOn p e below (s₁.setTop (mkF m 6 #[.val (.ref wa), .val (.ref va), .val (.int (Int32.ofNat 3)), .val (.int (Int32.ofNat 0)), .val (.double Jvm.FP.dconst0), .second, .val (.int (Int32.ofNat 3))] [])) _
    refine GoOn.step (fun tq kq => XS.iload X0.here hx rfl (hb hby own_d6) rfl kq) ?_
    show GoOn p e below (s₁.setTop (mkF m 8 #[.val (.ref wa), .val (.ref va), .val (.int (Int32.ofNat 3)), .val (.int (Int32.ofNat 0)), .val (.double Jvm.FP.dconst0), .second, .val (.int (Int32.ofNat 3))] [(.int (Int32.ofNat 3))])) _
    refine GoOn.step (fun tq kq => XS.iloadN X0.here hx rfl (hb hby own_d7) rfl kq) ?_
    show GoOn p e below (s₁.setTop (mkF m 9 #[.val (.ref wa), .val (.ref va), .val (.int (Int32.ofNat 3)), .val (.int (Int32.ofNat 0)), .val (.double Jvm.FP.dconst0), .second, .val (.int (Int32.ofNat 3))] [(.int (Int32.ofNat 0)), (.int (Int32.ofNat 3))])) _
    refine GoOn.step (fun tq kq => XS.icmpYes X0.here hx rfl (pc0 := 9) (pc' := 32) rfl (hb hby own_d8) rfl (flt (by decide)).2.1 (by decide) (by decide) kq) ?_
    show GoOn p e below (s₁.setTop (mkF m 32 #[.val (.ref wa), .val (.ref va), .val (.int (Int32.ofNat 3)), .val (.int (Int32.ofNat 0)), .val (.double Jvm.FP.dconst0), .second, .val (.int (Int32.ofNat 3))] [])) _
    refine GoOn.step (fun tq kq => XS.dload X0.here hx rfl (hb hby own_d9) rfl kq) ?_
    show GoOn p e below (s₁.setTop (mkF m 34 #[.val (.ref wa), .val (.ref va), .val (.int (Int32.ofNat 3)), .val (.int (Int32.ofNat 0)), .val (.double Jvm.FP.dconst0), .second, .val (.int (Int32.ofNat 3))] [(.double Jvm.FP.dconst0)])) _
    refine GoOn.ret X0 Bd.notSynchronized (v := some (.double Jvm.FP.dconst0)) (fun h => by rw [Bd.returns] at h; cases h) (fun fs hr => retOut X0 hx Bd.returns rfl (Or.inr (Or.inr (Or.inl ⟨rfl, rfl, _, rfl⟩))) (hb hby own_d10) hr) (by decide) (by decide) ?_
    rw [e0]
    exact ⟨_, rfl, N0, rfl, by rw [own_sm_3_0]; exact Rep.zero⟩
  · skip
    show GoOn p e below (s₁.setTop (mkF m 0 #[.val (.ref wa), .val (.ref va), .val (.int (Int32.ofNat 3)), .val (.int (Int32.ofNat 1)), .unset, .unset, .unset] [])) _
    refine GoOn.step (fun tq kq => XS.dconst0 X0.here hx rfl (hb hby own_d2) (v := Jvm.FP.dconst0) rfl kq) ?_
    show GoOn p e below (s₁.setTop (mkF m 1 #[.val (.ref wa), .val (.ref va), .val (.int (Int32.ofNat 3)), .val (.int (Int32.ofNat 1)), .unset, .unset, .unset] [(.double Jvm.FP.dconst0)])) _
    refine GoOn.step (fun tq kq => XS.dstore X0.here hx rfl (hb hby own_d3) rfl (l' := #[.val (.ref wa), .val (.ref va), .val (.int (Int32.ofNat 3)), .val (.int (Int32.ofNat 1)), .val (.double Jvm.FP.dconst0), .second, .unset]) rfl kq) ?_
    show GoOn p e below (s₁.setTop (mkF m 3 #[.val (.ref wa), .val (.ref va), .val (.int (Int32.ofNat 3)), .val (.int (Int32.ofNat 1)), .val (.double Jvm.FP.dconst0), .second, .unset] [])) _
    refine GoOn.step (fun tq kq => XS.iloadN X0.here hx rfl (hb hby own_d4) rfl kq) ?_
    show GoOn p e below (s₁.setTop (mkF m 4 #[.val (.ref wa), .val (.ref va), .val (.int (Int32.ofNat 3)), .val (.int (Int32.ofNat 1)), .val (.double Jvm.FP.dconst0), .second, .unset] [(.int (Int32.ofNat 3))])) _
    refine GoOn.step (fun tq kq => XS.istore X0.here hx rfl (hb hby own_d5) rfl (l' := #[.val (.ref wa), .val (.ref va), .val (.int (Int32.ofNat 3)), .val (.int (Int32.ofNat 1)), .val (.double Jvm.FP.dconst0), .second, .val (.int (Int32.ofNat 3))]) rfl kq) ?_
    show GoOn p e below (s₁.setTop (mkF m 6 #[.val (.ref wa), .val (.ref va), .val (.int (Int32.ofNat 3)), .val (.int (Int32.ofNat 1)), .val (.double Jvm.FP.dconst0), .second, .val (.int (Int32.ofNat 3))] [])) _
    refine GoOn.step (fun tq kq => XS.iload X0.here hx rfl (hb hby own_d6) rfl kq) ?_
    show GoOn p e below (s₁.setTop (mkF m 8 #[.val (.ref wa), .val (.ref va), .val (.int (Int32.ofNat 3)), .val (.int (Int32.ofNat 1)), .val (.double Jvm.FP.dconst0), .second, .val (.int (Int32.ofNat 3))] [(.int (Int32.ofNat 3))])) _
    refine GoOn.step (fun tq kq => XS.iloadN X0.here hx rfl (hb hby own_d7) rfl kq) ?_
    show GoOn p e below (s₁.setTop (mkF m 9 #[.val (.ref wa), .val (.ref va), .val (.int (Int32.ofNat 3)), .val (.int (Int32.ofNat 1)), .val (.double Jvm.FP.dconst0), .second, .val (.int (Int32.ofNat 3))] [(.int (Int32.ofNat 1)), (.int (Int32.ofNat 3))])) _
    refine GoOn.step (fun tq kq => XS.icmpYes X0.here hx rfl (pc0 := 9) (pc' := 32) rfl (hb hby own_d8) rfl (flt (by decide)).2.1 (by decide) (by decide) kq) ?_
    show GoOn p e below (s₁.setTop (mkF m 32 #[.val (.ref wa), .val (.ref va), .val (.int (Int32.ofNat 3)), .val (.int (Int32.ofNat 1)), .val (.double Jvm.FP.dconst0), .second, .val (.int (Int32.ofNat 3))] [])) _
    refine GoOn.step (fun tq kq => XS.dload X0.here hx rfl (hb hby own_d9) rfl kq) ?_
    show GoOn p e below (s₁.setTop (mkF m 34 #[.val (.ref wa), .val (.ref va), .val (.int (Int32.ofNat 3)), .val (.int (Int32.ofNat 1)), .val (.double Jvm.FP.dconst0), .second, .val (.int (Int32.ofNat 3))] [(.double Jvm.FP.dconst0)])) _
    refine GoOn.ret X0 Bd.notSynchronized (v := some (.double Jvm.FP.dconst0)) (fun h => by rw [Bd.returns] at h; cases h) (fun fs hr => retOut X0 hx Bd.returns rfl (Or.inr (Or.inr (Or.inl ⟨rfl, rfl, _, rfl⟩))) (hb hby own_d10) hr) (by decide) (by decide) ?_
    rw [e0]
    exact ⟨_, rfl, N0, rfl, by rw [own_sm_3_1]; exact Rep.zero⟩
  · skip
    show GoOn p e below (s₁.setTop (mkF m 0 #[.val (.ref wa), .val (.ref va), .val (.int (Int32.ofNat 3)), .val (.int (Int32.ofNat 2)), .unset, .unset, .unset] [])) _
    refine GoOn.step (fun tq kq => XS.dconst0 X0.here hx rfl (hb hby own_d2) (v := Jvm.FP.dconst0) rfl kq) ?_
    show GoOn p e below (s₁.setTop (mkF m 1 #[.val (.ref wa), .val (.ref va), .val (.int (Int32.ofNat 3)), .val (.int (Int32.ofNat 2)), .unset, .unset, .unset] [(.double Jvm.FP.dconst0)])) _
    refine GoOn.step (fun tq kq => XS.dstore X0.here hx rfl (hb hby own_d3) rfl (l' := #[.val (.ref wa), .val (.ref va), .val (.int (Int32.ofNat 3)), .val (.int (Int32.ofNat 2)), .val (.double Jvm.FP.dconst0), .second, .unset]) rfl kq) ?_
    show GoOn p e below (s₁.setTop (mkF m 3 #[.val (.ref wa), .val (.ref va), .val (.int (Int32.ofNat 3)), .val (.int (Int32.ofNat 2)), .val (.double Jvm.FP.dconst0), .second, .unset] [])) _
    refine GoOn.step (fun tq kq => XS.iloadN X0.here hx rfl (hb hby own_d4) rfl kq) ?_
    show GoOn p e below (s₁.setTop (mkF m 4 #[.val (.ref wa), .val (.ref va), .val (.int (Int32.ofNat 3)), .val (.int (Int32.ofNat 2)), .val (.double Jvm.FP.dconst0), .second, .unset] [(.int (Int32.ofNat 3))])) _
    refine GoOn.step (fun tq kq => XS.istore X0.here hx rfl (hb hby own_d5) rfl (l' := #[.val (.ref wa), .val (.ref va), .val (.int (Int32.ofNat 3)), .val (.int (Int32.ofNat 2)), .val (.double Jvm.FP.dconst0), .second, .val (.int (Int32.ofNat 3))]) rfl kq) ?_
    show GoOn p e below (s₁.setTop (mkF m 6 #[.val (.ref wa), .val (.ref va), .val (.int (Int32.ofNat 3)), .val (.int (Int32.ofNat 2)), .val (.double Jvm.FP.dconst0), .second, .val (.int (Int32.ofNat 3))] [])) _
    refine GoOn.step (fun tq kq => XS.iload X0.here hx rfl (hb hby own_d6) rfl kq) ?_
    show GoOn p e below (s₁.setTop (mkF m 8 #[.val (.ref wa), .val (.ref va), .val (.int (Int32.ofNat 3)), .val (.int (Int32.ofNat 2)), .val (.double Jvm.FP.dconst0), .second, .val (.int (Int32.ofNat 3))] [(.int (Int32.ofNat 3))])) _
    refine GoOn.step (fun tq kq => XS.iloadN X0.here hx rfl (hb hby own_d7) rfl kq) ?_
    show GoOn p e below (s₁.setTop (mkF m 9 #[.val (.ref wa), .val (.ref va), .val (.int (Int32.ofNat 3)), .val (.int (Int32.ofNat 2)), .val (.double Jvm.FP.dconst0), .second, .val (.int (Int32.ofNat 3))] [(.int (Int32.ofNat 2)), (.int (Int32.ofNat 3))])) _
    refine GoOn.step (fun tq kq => XS.icmpYes X0.here hx rfl (pc0 := 9) (pc' := 32) rfl (hb hby own_d8) rfl (flt (by decide)).2.1 (by decide) (by decide) kq) ?_
    show GoOn p e below (s₁.setTop (mkF m 32 #[.val (.ref wa), .val (.ref va), .val (.int (Int32.ofNat 3)), .val (.int (Int32.ofNat 2)), .val (.double Jvm.FP.dconst0), .second, .val (.int (Int32.ofNat 3))] [])) _
    refine GoOn.step (fun tq kq => XS.dload X0.here hx rfl (hb hby own_d9) rfl kq) ?_
    show GoOn p e below (s₁.setTop (mkF m 34 #[.val (.ref wa), .val (.ref va), .val (.int (Int32.ofNat 3)), .val (.int (Int32.ofNat 2)), .val (.double Jvm.FP.dconst0), .second, .val (.int (Int32.ofNat 3))] [(.double Jvm.FP.dconst0)])) _
    refine GoOn.ret X0 Bd.notSynchronized (v := some (.double Jvm.FP.dconst0)) (fun h => by rw [Bd.returns] at h; cases h) (fun fs hr => retOut X0 hx Bd.returns rfl (Or.inr (Or.inr (Or.inl ⟨rfl, rfl, _, rfl⟩))) (hb hby own_d10) hr) (by decide) (by decide) ?_
    rw [e0]
    exact ⟨_, rfl, N0, rfl, by rw [own_sm_3_2]; exact Rep.zero⟩
  · skip
    show GoOn p e below (s₁.setTop (mkF m 0 #[.val (.ref wa), .val (.ref va), .val (.int (Int32.ofNat 3)), .val (.int (Int32.ofNat 3)), .unset, .unset, .unset] [])) _
    refine GoOn.step (fun tq kq => XS.dconst0 X0.here hx rfl (hb hby own_d2) (v := Jvm.FP.dconst0) rfl kq) ?_
    show GoOn p e below (s₁.setTop (mkF m 1 #[.val (.ref wa), .val (.ref va), .val (.int (Int32.ofNat 3)), .val (.int (Int32.ofNat 3)), .unset, .unset, .unset] [(.double Jvm.FP.dconst0)])) _
    refine GoOn.step (fun tq kq => XS.dstore X0.here hx rfl (hb hby own_d3) rfl (l' := #[.val (.ref wa), .val (.ref va), .val (.int (Int32.ofNat 3)), .val (.int (Int32.ofNat 3)), .val (.double Jvm.FP.dconst0), .second, .unset]) rfl kq) ?_
    show GoOn p e below (s₁.setTop (mkF m 3 #[.val (.ref wa), .val (.ref va), .val (.int (Int32.ofNat 3)), .val (.int (Int32.ofNat 3)), .val (.double Jvm.FP.dconst0), .second, .unset] [])) _
    refine GoOn.step (fun tq kq => XS.iloadN X0.here hx rfl (hb hby own_d4) rfl kq) ?_
    show GoOn p e below (s₁.setTop (mkF m 4 #[.val (.ref wa), .val (.ref va), .val (.int (Int32.ofNat 3)), .val (.int (Int32.ofNat 3)), .val (.double Jvm.FP.dconst0), .second, .unset] [(.int (Int32.ofNat 3))])) _
    refine GoOn.step (fun tq kq => XS.istore X0.here hx rfl (hb hby own_d5) rfl (l' := #[.val (.ref wa), .val (.ref va), .val (.int (Int32.ofNat 3)), .val (.int (Int32.ofNat 3)), .val (.double Jvm.FP.dconst0), .second, .val (.int (Int32.ofNat 3))]) rfl kq) ?_
    show GoOn p e below (s₁.setTop (mkF m 6 #[.val (.ref wa), .val (.ref va), .val (.int (Int32.ofNat 3)), .val (.int (Int32.ofNat 3)), .val (.double Jvm.FP.dconst0), .second, .val (.int (Int32.ofNat 3))] [])) _
    refine GoOn.step (fun tq kq => XS.iload X0.here hx rfl (hb hby own_d6) rfl kq) ?_
    show GoOn p e below (s₁.setTop (mkF m 8 #[.val (.ref wa), .val (.ref va), .val (.int (Int32.ofNat 3)), .val (.int (Int32.ofNat 3)), .val (.double Jvm.FP.dconst0), .second, .val (.int (Int32.ofNat 3))] [(.int (Int32.ofNat 3))])) _
    refine GoOn.step (fun tq kq => XS.iloadN X0.here hx rfl (hb hby own_d7) rfl kq) ?_
    show GoOn p e below (s₁.setTop (mkF m 9 #[.val (.ref wa), .val (.ref va), .val (.int (Int32.ofNat 3)), .val (.int (Int32.ofNat 3)), .val (.double Jvm.FP.dconst0), .second, .val (.int (Int32.ofNat 3))] [(.int (Int32.ofNat 3)), (.int (Int32.ofNat 3))])) _
    refine GoOn.step (fun tq kq => XS.icmpYes X0.here hx rfl (pc0 := 9) (pc' := 32) rfl (hb hby own_d8) rfl (flt (by decide)).2.1 (by decide) (by decide) kq) ?_
    show GoOn p e below (s₁.setTop (mkF m 32 #[.val (.ref wa), .val (.ref va), .val (.int (Int32.ofNat 3)), .val (.int (Int32.ofNat 3)), .val (.double Jvm.FP.dconst0), .second, .val (.int (Int32.ofNat 3))] [])) _
    refine GoOn.step (fun tq kq => XS.dload X0.here hx rfl (hb hby own_d9) rfl kq) ?_
    show GoOn p e below (s₁.setTop (mkF m 34 #[.val (.ref wa), .val (.ref va), .val (.int (Int32.ofNat 3)), .val (.int (Int32.ofNat 3)), .val (.double Jvm.FP.dconst0), .second, .val (.int (Int32.ofNat 3))] [(.double Jvm.FP.dconst0)])) _
    refine GoOn.ret X0 Bd.notSynchronized (v := some (.double Jvm.FP.dconst0)) (fun h => by rw [Bd.returns] at h; cases h) (fun fs hr => retOut X0 hx Bd.returns rfl (Or.inr (Or.inr (Or.inl ⟨rfl, rfl, _, rfl⟩))) (hb hby own_d10) hr) (by decide) (by decide) ?_
    rw [e0]
    exact ⟨_, rfl, N0, rfl, by rw [own_sm_3_3]; exact Rep.zero⟩
  · skip
    show GoOn p e below (s₁.setTop (mkF m 0 #[.val (.ref wa), .val (.ref va), .val (.int (Int32.ofNat 3)), .val (.int (Int32.ofNat 4)), .unset, .unset, .unset] [])) _
    refine GoOn.step (fun tq kq => XS.dconst0 X0.here hx rfl (hb hby own_d2) (v := Jvm.FP.dconst0) rfl kq) ?_
    show GoOn p e below (s₁.setTop (mkF m 1 #[.val (.ref wa), .val (.ref va), .val (.int (Int32.ofNat 3)), .val (.int (Int32.ofNat 4)), .unset, .unset, .unset] [(.double Jvm.FP.dconst0)])) _
    refine GoOn.step (fun tq kq => XS.dstore X0.here hx rfl (hb hby own_d3) rfl (l' := #[.val (.ref wa), .val (.ref va), .val (.int (Int32.ofNat 3)), .val (.int (Int32.ofNat 4)), .val (.double Jvm.FP.dconst0), .second, .unset]) rfl kq) ?_
    show GoOn p e below (s₁.setTop (mkF m 3 #[.val (.ref wa), .val (.ref va), .val (.int (Int32.ofNat 3)), .val (.int (Int32.ofNat 4)), .val (.double Jvm.FP.dconst0), .second, .unset] [])) _
    refine GoOn.step (fun tq kq => XS.iloadN X0.here hx rfl (hb hby own_d4) rfl kq) ?_
    show GoOn p e below (s₁.setTop (mkF m 4 #[.val (.ref wa), .val (.ref va), .val (.int (Int32.ofNat 3)), .val (.int (Int32.ofNat 4)), .val (.double Jvm.FP.dconst0), .second, .unset] [(.int (Int32.ofNat 3))])) _
    refine GoOn.step (fun tq kq => XS.istore X0.here hx rfl (hb hby own_d5) rfl (l' := #[.val (.ref wa), .val (.ref va), .val (.int (Int32.ofNat 3)), .val (.int (Int32.ofNat 4)), .val (.double Jvm.FP.dconst0), .second, .val (.int (Int32.ofNat 3))]) rfl kq) ?_
    show GoOn p e below (s₁.setTop (mkF m 6 #[.val (.ref wa), .val (.ref va), .val (.int (Int32.ofNat 3)), .val (.int (Int32.ofNat 4)), .val (.double Jvm.FP.dconst0), .second, .val (.int (Int32.ofNat 3))] [])) _
    refine GoOn.step (fun tq kq => XS.iload X0.here hx rfl (hb hby own_d6) rfl kq) ?_
    show GoOn p e below (s₁.setTop (mkF m 8 #[.val (.ref wa), .val (.ref va), .val (.int (Int32.ofNat 3)), .val (.int (Int32.ofNat 4)), .val (.double Jvm.FP.dconst0), .second, .val (.int (Int32.ofNat 3))] [(.int (Int32.ofNat 3))])) _
    refine GoOn.step (fun tq kq => XS.iloadN X0.here hx rfl (hb hby own_d7) rfl kq) ?_
    show GoOn p e below (s₁.setTop (mkF m 9 #[.val (.ref wa), .val (.ref va), .val (.int (Int32.ofNat 3)), .val (.int (Int32.ofNat 4)), .val (.double Jvm.FP.dconst0), .second, .val (.int (Int32.ofNat 3))] [(.int (Int32.ofNat 4)), (.int (Int32.ofNat 3))])) _
    refine GoOn.step (fun tq kq => XS.icmpNo X0.here hx rfl (hb hby own_d8) rfl (tlt (by decide)).2.1 kq) ?_
    show GoOn p e below (s₁.setTop (mkF m 12 #[.val (.ref wa), .val (.ref va), .val (.int (Int32.ofNat 3)), .val (.int (Int32.ofNat 4)), .val (.double Jvm.FP.dconst0), .second, .val (.int (Int32.ofNat 3))] [])) _
    refine GoOn.step (fun tq kq => XS.dload X0.here hx rfl (hb hby own_d11) rfl kq) ?_
    show GoOn p e below (s₁.setTop (mkF m 14 #[.val (.ref wa), .val (.ref va), .val (.int (Int32.ofNat 3)), .val (.int (Int32.ofNat 4)), .val (.double Jvm.FP.dconst0), .second, .val (.int (Int32.ofNat 3))] [(.double Jvm.FP.dconst0)])) _
    refine GoOn.step (fun tq kq => XS.aloadN X0.here hx rfl (hb hby own_d12) rfl rfl kq) ?_
    show GoOn p e below (s₁.setTop (mkF m 15 #[.val (.ref wa), .val (.ref va), .val (.int (Int32.ofNat 3)), .val (.int (Int32.ofNat 4)), .val (.double Jvm.FP.dconst0), .second, .val (.int (Int32.ofNat 3))] [(.ref wa), (.double Jvm.FP.dconst0)])) _
    refine GoOn.step (fun tq kq => XS.iload X0.here hx rfl (hb hby own_d13) rfl kq) ?_
    show GoOn p e below (s₁.setTop (mkF m 17 #[.val (.ref wa), .val (.ref va), .val (.int (Int32.ofNat 3)), .val (.int (Int32.ofNat 4)), .val (.double Jvm.FP.dconst0), .second, .val (.int (Int32.ofNat 3))] [(.int (Int32.ofNat 3)), (.ref wa), (.double Jvm.FP.dconst0)])) _
    obtain ⟨cq58, Aq58, qq58, Sq58, Mq58, Hq58, Uq58⟩ := id Vwa
    refine GoOn.step (fun tq kq => X0.daload hx (j := (Int32.ofNat 3)) (v := (.double x3)) (by rw [e0]; exact Aq58.1) (State.isArrayOf_alike hZ.alike Aq58.2.1) Aq58.2.2 (inb_of Sq58 (by decide)) (Hq58.at (inb_of Sq58 (by decide)) rfl) (g := (mkF m 17 #[.val (.ref wa), .val (.ref va), .val (.int (Int32.ofNat 3)), .val (.int (Int32.ofNat 4)), .val (.double Jvm.FP.dconst0), .second, .val (.int (Int32.ofNat 3))] [(.int (Int32.ofNat 3)), (.ref wa), (.double Jvm.FP.dconst0)])) rfl rfl (hb hby own_d14) _ kq) ?_
    show GoOn p e below (s₁.setTop (mkF m 18 #[.val (.ref wa), .val (.ref va), .val (.int (Int32.ofNat 3)), .val (.int (Int32.ofNat 4)), .val (.double Jvm.FP.dconst0), .second, .val (.int (Int32.ofNat 3))] [(.double x3), (.double Jvm.FP.dconst0)])) _
    refine GoOn.step (fun tq kq => XS.aloadN X0.here hx rfl (hb hby own_d15) rfl rfl kq) ?_
    show GoOn p e below (s₁.setTop (mkF m 19 #[.val (.ref wa), .val (.ref va), .val (.int (Int32.ofNat 3)), .val (.int (Int32.ofNat 4)), .val (.double Jvm.FP.dconst0), .second, .val (.int (Int32.ofNat 3))] [(.ref va), (.double x3), (.double Jvm.FP.dconst0)])) _
    refine GoOn.step (fun tq kq => XS.iload X0.here hx rfl (hb hby own_d16) rfl kq) ?_
    show GoOn p e below (s₁.setTop (mkF m 21 #[.val (.ref wa), .val (.ref va), .val (.int (Int32.ofNat 3)), .val (.int (Int32.ofNat 4)), .val (.double Jvm.FP.dconst0), .second, .val (.int (Int32.ofNat 3))] [(.int (Int32.ofNat 3)), (.ref va), (.double x3), (.double Jvm.FP.dconst0)])) _
    obtain ⟨cq59, Aq59, qq59, Sq59, Mq59, Hq59, Uq59⟩ := id Vva
    refine GoOn.step (fun tq kq => X0.daload hx (j := (Int32.ofNat 3)) (v := (.double y3)) (by rw [e0]; exact Aq59.1) (State.isArrayOf_alike hZ.alike Aq59.2.1) Aq59.2.2 (inb_of Sq59 (by decide)) (Hq59.at (inb_of Sq59 (by decide)) rfl) (g := (mkF m 21 #[.val (.ref wa), .val (.ref va), .val (.int (Int32.ofNat 3)), .val (.int (Int32.ofNat 4)), .val (.double Jvm.FP.dconst0), .second, .val (.int (Int32.ofNat 3))] [(.int (Int32.ofNat 3)), (.ref va), (.double x3), (.double Jvm.FP.dconst0)])) rfl rfl (hb hby own_d17) _ kq) ?_
    show GoOn p e below (s₁.setTop (mkF m 22 #[.val (.ref wa), .val (.ref va), .val (.int (Int32.ofNat 3)), .val (.int (Int32.ofNat 4)), .val (.double Jvm.FP.dconst0), .second, .val (.int (Int32.ofNat 3))] [(.double y3), (.double x3), (.double Jvm.FP.dconst0)])) _
    refine GoOn.step (fun tq kq => XS.dmulS X0.here hx rfl (hb hby own_d18) rfl R3.no (v := (Jvm.FP.dmul x3 y3)) rfl kq) ?_
    show GoOn p e below (s₁.setTop (mkF m 23 #[.val (.ref wa), .val (.ref va), .val (.int (Int32.ofNat 3)), .val (.int (Int32.ofNat 4)), .val (.double Jvm.FP.dconst0), .second, .val (.int (Int32.ofNat 3))] [(.double (Jvm.FP.dmul x3 y3)), (.double Jvm.FP.dconst0)])) _
    have P60 : Rep (Jvm.FP.dadd Jvm.FP.dconst0 (Jvm.FP.dmul x3 y3)) (0 + z3) := Rep.add Rep.zero R3 (by omega)
    refine GoOn.step (fun tq kq => XS.daddS X0.here hx rfl (hb hby own_d19) rfl P60.no (v := (Jvm.FP.dadd Jvm.FP.dconst0 (Jvm.FP.dmul x3 y3))) rfl kq) ?_
    show GoOn p e below (s₁.setTop (mkF m 24 #[.val (.ref wa), .val (.ref va), .val (.int (Int32.ofNat 3)), .val (.int (Int32.ofNat 4)), .val (.double Jvm.FP.dconst0), .second, .val (.int (Int32.ofNat 3))] [(.double (Jvm.FP.dadd Jvm.FP.dconst0 (Jvm.FP.dmul x3 y3)))])) _
    refine GoOn.step (fun tq kq => XS.dstore X0.here hx rfl (hb hby own_d20) rfl (l' := #[.val (.ref wa), .val (.ref va), .val (.int (Int32.ofNat 3)), .val (.int (Int32.ofNat 4)), .val (.double (Jvm.FP.dadd Jvm.FP.dconst0 (Jvm.FP.dmul x3 y3))), .second, .val (.int (Int32.ofNat 3))]) rfl kq) ?_
    show GoOn p e below (s₁.setTop (mkF m 26 #[.val (.ref wa), .val (.ref va), .val (.int (Int32.ofNat 3)), .val (.int (Int32.ofNat 4)), .val (.double (Jvm.FP.dadd Jvm.FP.dconst0 (Jvm.FP.dmul x3 y3))), .second, .val (.int (Int32.ofNat 3))] [])) _
    refine GoOn.step (fun tq kq => XS.iinc X0.here hx rfl (hb hby own_d21) rfl (l' := #[.val (.ref wa), .val (.ref va), .val (.int (Int32.ofNat 3)), .val (.int (Int32.ofNat 4)), .val (.double (Jvm.FP.dadd Jvm.FP.dconst0 (Jvm.FP.dmul x3 y3))), .second, .val (.int ((Int32.ofNat 3) + Int32.ofInt 1))]) rfl kq) ?_
    show GoOn p e below (s₁.setTop (mkF m 29 #[.val (.ref wa), .val (.ref va), .val (.int (Int32.ofNat 3)), .val (.int (Int32.ofNat 4)), .val (.double (Jvm.FP.dadd Jvm.FP.dconst0 (Jvm.FP.dmul x3 y3))), .second, .val (.int ((Int32.ofNat 3) + Int32.ofInt 1))] [])) _
    refine GoOn.step (fun tq kq => XS.goto X0.here hx rfl (pc0 := 29) (pc' := 6) rfl (hb hby own_d22) (by decide) (by decide) kq) ?_
    show GoOn p e below (s₁.setTop (mkF m 6 #[.val (.ref wa), .val (.ref va), .val (.int (Int32.ofNat 3)), .val (.int (Int32.ofNat 4)), .val (.double (Jvm.FP.dadd Jvm.FP.dconst0 (Jvm.FP.dmul x3 y3))), .second, .val (.int ((Int32.ofNat 3) + Int32.ofInt 1))] [])) _
    refine GoOn.step (fun tq kq => XS.iload X0.here hx rfl (hb hby own_d6) rfl kq) ?_
    show GoOn p e below (s₁.setTop (mkF m 8 #[.val (.ref wa), .val (.ref va), .val (.int (Int32.ofNat 3)), .val (.int (Int32.ofNat 4)), .val (.double (Jvm.FP.dadd Jvm.FP.dconst0 (Jvm.FP.dmul x3 y3))), .second, .val (.int ((Int32.ofNat 3) + Int32.ofInt 1))] [(.int ((Int32.ofNat 3) + Int32.ofInt 1))])) _
    refine GoOn.step (fun tq kq => XS.iloadN X0.here hx rfl (hb hby own_d7) rfl kq) ?_
    show GoOn p e below (s₁.setTop (mkF m 9 #[.val (.ref wa), .val (.ref va), .val (.int (Int32.ofNat 3)), .val (.int (Int32.ofNat 4)), .val (.double (Jvm.FP.dadd Jvm.FP.dconst0 (Jvm.FP.dmul x3 y3))), .second, .val (.int ((Int32.ofNat 3) + Int32.ofInt 1))] [(.int (Int32.ofNat 4)), (.int ((Int32.ofNat 3) + Int32.ofInt 1))])) _
    refine GoOn.step (fun tq kq => XS.icmpYes X0.here hx rfl (pc0 := 9) (pc' := 32) rfl (hb hby own_d8) rfl (flt (by decide)).2.1 (by decide) (by decide) kq) ?_
    show GoOn p e below (s₁.setTop (mkF m 32 #[.val (.ref wa), .val (.ref va), .val (.int (Int32.ofNat 3)), .val (.int (Int32.ofNat 4)), .val (.double (Jvm.FP.dadd Jvm.FP.dconst0 (Jvm.FP.dmul x3 y3))), .second, .val (.int ((Int32.ofNat 3) + Int32.ofInt 1))] [])) _
    refine GoOn.step (fun tq kq => XS.dload X0.here hx rfl (hb hby own_d9) rfl kq) ?_
    show GoOn p e below (s₁.setTop (mkF m 34 #[.val (.ref wa), .val (.ref va), .val (.int (Int32.ofNat 3)), .val (.int (Int32.ofNat 4)), .val (.double (Jvm.FP.dadd Jvm.FP.dconst0 (Jvm.FP.dmul x3 y3))), .second, .val (.int ((Int32.ofNat 3) + Int32.ofInt 1))] [(.double (Jvm.FP.dadd Jvm.FP.dconst0 (Jvm.FP.dmul x3 y3)))])) _
    refine GoOn.ret X0 Bd.notSynchronized (v := some (.double (Jvm.FP.dadd Jvm.FP.dconst0 (Jvm.FP.dmul x3 y3)))) (fun h => by rw [Bd.returns] at h; cases h) (fun fs hr => retOut X0 hx Bd.returns rfl (Or.inr (Or.inr (Or.inl ⟨rfl, rfl, _, rfl⟩))) (hb hby own_d10) hr) (by decide) (by decide) ?_
    rw [e0]
    exact ⟨_, rfl, N0, rfl, by rw [own_sm_3_4]; exact P60⟩
  · skip
    show GoOn p e below (s₁.setTop (mkF m 0 #[.val (.ref wa), .val (.ref va), .val (.int (Int32.ofNat 4)), .val (.int (Int32.ofNat 0)), .unset, .unset, .unset] [])) _
    refine GoOn.step (fun tq kq => XS.dconst0 X0.here hx rfl (hb hby own_d2) (v := Jvm.FP.dconst0) rfl kq) ?_
    show GoOn p e below (s₁.setTop (mkF m 1 #[.val (.ref wa), .val (.ref va), .val (.int (Int32.ofNat 4)), .val (.int (Int32.ofNat 0)), .unset, .unset, .unset] [(.double Jvm.FP.dconst0)])) _
    refine GoOn.step (fun tq kq => XS.dstore X0.here hx rfl (hb hby own_d3) rfl (l' := #[.val (.ref wa), .val (.ref va), .val (.int (Int32.ofNat 4)), .val (.int (Int32.ofNat 0)), .val (.double Jvm.FP.dconst0), .second, .unset]) rfl kq) ?_
    show GoOn p e below (s₁.setTop (mkF m 3 #[.val (.ref wa), .val (.ref va), .val (.int (Int32.ofNat 4)), .val (.int (Int32.ofNat 0)), .val (.double Jvm.FP.dconst0), .second, .unset] [])) _
    refine GoOn.step (fun tq kq => XS.iloadN X0.here hx rfl (hb hby own_d4) rfl kq) ?_
    show GoOn p e below (s₁.setTop (mkF m 4 #[.val (.ref wa), .val (.ref va), .val (.int (Int32.ofNat 4)), .val (.int (Int32.ofNat 0)), .val (.double Jvm.FP.dconst0), .second, .unset] [(.int (Int32.ofNat 4))])) _
    refine GoOn.step (fun tq kq => XS.istore X0.here hx rfl (hb hby own_d5) rfl (l' := #[.val (.ref wa), .val (.ref va), .val (.int (Int32.ofNat 4)), .val (.int (Int32.ofNat 0)), .val (.double Jvm.FP.dconst0), .second, .val (.int (Int32.ofNat 4))]) rfl kq) ?_
    show GoOn p e below (s₁.setTop (mkF m 6 #[.val (.ref wa), .val (.ref va), .val (.int (Int32.ofNat 4)), .val (.int (Int32.ofNat 0)), .val (.double Jvm.FP.dconst0), .second, .val (.int (Int32.ofNat 4))] [])) _
    refine GoOn.step (fun tq kq => XS.iload X0.here hx rfl (hb hby own_d6) rfl kq) ?_
    show GoOn p e below (s₁.setTop (mkF m 8 #[.val (.ref wa), .val (.ref va), .val (.int (Int32.ofNat 4)), .val (.int (Int32.ofNat 0)), .val (.double Jvm.FP.dconst0), .second, .val (.int (Int32.ofNat 4))] [(.int (Int32.ofNat 4))])) _
    refine GoOn.step (fun tq kq => XS.iloadN X0.here hx rfl (hb hby own_d7) rfl kq) ?_
    show GoOn p e below (s₁.setTop (mkF m 9 #[.val (.ref wa), .val (.ref va), .val (.int (Int32.ofNat 4)), .val (.int (Int32.ofNat 0)), .val (.double Jvm.FP.dconst0), .second, .val (.int (Int32.ofNat 4))] [(.int (Int32.ofNat 0)), (.int (Int32.ofNat 4))])) _
    refine GoOn.step (fun tq kq => XS.icmpYes X0.here hx rfl (pc0 := 9) (pc' := 32) rfl (hb hby own_d8) rfl (flt (by decide)).2.1 (by decide) (by decide) kq) ?_
    show GoOn p e below (s₁.setTop (mkF m 32 #[.val (.ref wa), .val (.ref va), .val (.int (Int32.ofNat 4)), .val (.int (Int32.ofNat 0)), .val (.double Jvm.FP.dconst0), .second, .val (.int (Int32.ofNat 4))] [])) _
    refine GoOn.step (fun tq kq => XS.dload X0.here hx rfl (hb hby own_d9) rfl kq) ?_
    show GoOn p e below (s₁.setTop (mkF m 34 #[.val (.ref wa), .val (.ref va), .val (.int (Int32.ofNat 4)), .val (.int (Int32.ofNat 0)), .val (.double Jvm.FP.dconst0), .second, .val (.int (Int32.ofNat 4))] [(.double Jvm.FP.dconst0)])) _
    refine GoOn.ret X0 Bd.notSynchronized (v := some (.double Jvm.FP.dconst0)) (fun h => by rw [Bd.returns] at h; cases h) (fun fs hr => retOut X0 hx Bd.returns rfl (Or.inr (Or.inr (Or.inl ⟨rfl, rfl, _, rfl⟩))) (hb hby own_d10) hr) (by decide) (by decide) ?_
    rw [e0]
    exact ⟨_, rfl, N0, rfl, by rw [own_sm_4_0]; exact Rep.zero⟩
  · skip
    show GoOn p e below (s₁.setTop (mkF m 0 #[.val (.ref wa), .val (.ref va), .val (.int (Int32.ofNat 4)), .val (.int (Int32.ofNat 1)), .unset, .unset, .unset] [])) _
    refine GoOn.step (fun tq kq => XS.dconst0 X0.here hx rfl (hb hby own_d2) (v := Jvm.FP.dconst0) rfl kq) ?_
    show GoOn p e below (s₁.setTop (mkF m 1 #[.val (.ref wa), .val (.ref va), .val (.int (Int32.ofNat 4)), .val (.int (Int32.ofNat 1)), .unset, .unset, .unset] [(.double Jvm.FP.dconst0)])) _
    refine GoOn.step (fun tq kq => XS.dstore X0.here hx rfl (hb hby own_d3) rfl (l' := #[.val (.ref wa), .val (.ref va), .val (.int (Int32.ofNat 4)), .val (.int (Int32.ofNat 1)), .val (.double Jvm.FP.dconst0), .second, .unset]) rfl kq) ?_
    show GoOn p e below (s₁.setTop (mkF m 3 #[.val (.ref wa), .val (.ref va), .val (.int (Int32.ofNat 4)), .val (.int (Int32.ofNat 1)), .val (.double Jvm.FP.dconst0), .second, .unset] [])) _
    refine GoOn.step (fun tq kq => XS.iloadN X0.here hx rfl (hb hby own_d4) rfl kq) ?_
    show GoOn p e below (s₁.setTop (mkF m 4 #[.val (.ref wa), .val (.ref va), .val (.int (Int32.ofNat 4)), .val (.int (Int32.ofNat 1)), .val (.double Jvm.FP.dconst0), .second, .unset] [(.int (Int32.ofNat 4))])) _
    refine GoOn.step (fun tq kq => XS.istore X0.here hx rfl (hb hby own_d5) rfl (l' := #[.val (.ref wa), .val (.ref va), .val (.int (Int32.ofNat 4)), .val (.int (Int32.ofNat 1)), .val (.double Jvm.FP.dconst0), .second, .val (.int (Int32.ofNat 4))]) rfl kq) ?_
    show GoOn p e below (s₁.setTop (mkF m 6 #[.val (.ref wa), .val (.ref va), .val (.int (Int32.ofNat 4)), .val (.int (Int32.ofNat 1)), .val (.double Jvm.FP.dconst0), .second, .val (.int (Int32.ofNat 4))] [])) _
    refine GoOn.step (fun tq kq => XS.iload X0.here hx rfl (hb hby own_d6) rfl kq) ?_
    show GoOn p e below (s₁.setTop (mkF m 8 #[.val (.ref wa), .val (.ref va), .val (.int (Int32.ofNat 4)), .val (.int (Int32.ofNat 1)), .val (.double Jvm.FP.dconst0), .second, .val (.int (Int32.ofNat 4))] [(.int (Int32.ofNat 4))])) _
    refine GoOn.step (fun tq kq => XS.iloadN X0.here hx rfl (hb hby own_d7) rfl kq) ?_
    show GoOn p e below (s₁.setTop (mkF m 9 #[.val (.ref wa), .val (.ref va), .val (.int (Int32.ofNat 4)), .val (.int (Int32.ofNat 1)), .val (.double Jvm.FP.dconst0), .second, .val (.int (Int32.ofNat 4))] [(.int (Int32.ofNat 1)), (.int (Int32.ofNat 4))])) _
    refine GoOn.step (fun tq kq => XS.icmpYes X0.here hx rfl (pc0 := 9) (pc' := 32) rfl (hb hby own_d8) rfl (flt (by decide)).2.1 (by decide) (by decide) kq) ?_
    show GoOn p e below (s₁.setTop (mkF m 32 #[.val (.ref wa), .val (.ref va), .val (.int (Int32.ofNat 4)), .val (.int (Int32.ofNat 1)), .val (.double Jvm.FP.dconst0), .second, .val (.int (Int32.ofNat 4))] [])) _
    refine GoOn.step (fun tq kq => XS.dload X0.here hx rfl (hb hby own_d9) rfl kq) ?_
    show GoOn p e below (s₁.setTop (mkF m 34 #[.val (.ref wa), .val (.ref va), .val (.int (Int32.ofNat 4)), .val (.int (Int32.ofNat 1)), .val (.double Jvm.FP.dconst0), .second, .val (.int (Int32.ofNat 4))] [(.double Jvm.FP.dconst0)])) _
    refine GoOn.ret X0 Bd.notSynchronized (v := some (.double Jvm.FP.dconst0)) (fun h => by rw [Bd.returns] at h; cases h) (fun fs hr => retOut X0 hx Bd.returns rfl (Or.inr (Or.inr (Or.inl ⟨rfl, rfl, _, rfl⟩))) (hb hby own_d10) hr) (by decide) (by decide) ?_
    rw [e0]
    exact ⟨_, rfl, N0, rfl, by rw [own_sm_4_1]; exact Rep.zero⟩
  · skip
    show GoOn p e below (s₁.setTop (mkF m 0 #[.val (.ref wa), .val (.ref va), .val (.int (Int32.ofNat 4)), .val (.int (Int32.ofNat 2)), .unset, .unset, .unset] [])) _
    refine GoOn.step (fun tq kq => XS.dconst0 X0.here hx rfl (hb hby own_d2) (v := Jvm.FP.dconst0) rfl kq) ?_
    show GoOn p e below (s₁.setTop (mkF m 1 #[.val (.ref wa), .val (.ref va), .val (.int (Int32.ofNat 4)), .val (.int (Int32.ofNat 2)), .unset, .unset, .unset] [(.double Jvm.FP.dconst0)])) _
    refine GoOn.step (fun tq kq => XS.dstore X0.here hx rfl (hb hby own_d3) rfl (l' := #[.val (.ref wa), .val (.ref va), .val (.int (Int32.ofNat 4)), .val (.int (Int32.ofNat 2)), .val (.double Jvm.FP.dconst0), .second, .unset]) rfl kq) ?_
    show GoOn p e below (s₁.setTop (mkF m 3 #[.val (.ref wa), .val (.ref va), .val (.int (Int32.ofNat 4)), .val (.int (Int32.ofNat 2)), .val (.double Jvm.FP.dconst0), .second, .unset] [])) _
    refine GoOn.step (fun tq kq => XS.iloadN X0.here hx rfl (hb hby own_d4) rfl kq) ?_
    show GoOn p e below (s₁.setTop (mkF m 4 #[.val (.ref wa), .val (.ref va), .val (.int (Int32.ofNat 4)), .val (.int (Int32.ofNat 2)), .val (.double Jvm.FP.dconst0), .second, .unset] [(.int (Int32.ofNat 4))])) _
    refine GoOn.step (fun tq kq => XS.istore X0.here hx rfl (hb hby own_d5) rfl (l' := #[.val (.ref wa), .val (.ref va), .val (.int (Int32.ofNat 4)), .val (.int (Int32.ofNat 2)), .val (.double Jvm.FP.dconst0), .second, .val (.int (Int32.ofNat 4))]) rfl kq) ?_
    show GoOn p e below (s₁.setTop (mkF m 6 #[.val (.ref wa), .val (.ref va), .val (.int (Int32.ofNat 4)), .val (.int (Int32.ofNat 2)), .val (.double Jvm.FP.dconst0), .second, .val (.int (Int32.ofNat 4))] [])) _
    refine GoOn.step (fun tq kq => XS.iload X0.here hx rfl (hb hby own_d6) rfl kq) ?_
    show GoOn p e below (s₁.setTop (mkF m 8 #[.val (.ref wa), .val (.ref va), .val (.int (Int32.ofNat 4)), .val (.int (Int32.ofNat 2)), .val (.double Jvm.FP.dconst0), .second, .val (.int (Int32.ofNat 4))] [(.int (Int32.ofNat 4))])) _
    refine GoOn.step (fun tq kq => XS.iloadN X0.here hx rfl (hb hby own_d7) rfl kq) ?_
    show GoOn p e below (s₁.setTop (mkF m 9 #[.val (.ref wa), .val (.ref va), .val (.int (Int32.ofNat 4)), .val (.int (Int32.ofNat 2)), .val (.double Jvm.FP.dconst0), .second, .val (.int (Int32.ofNat 4))] [(.int (Int32.ofNat 2)), (.int (Int32.ofNat 4))])) _
    refine GoOn.step (fun tq kq => XS.icmpYes X0.here hx rfl (pc0 := 9) (pc' := 32) rfl (hb hby own_d8) rfl (flt (by decide)).2.1 (by decide) (by decide) kq) ?_
    show GoOn p e below (s₁.setTop (mkF m 32 #[.val (.ref wa), .val (.ref va), .val (.int (Int32.ofNat 4)), .val (.int (Int32.ofNat 2)), .val (.double Jvm.FP.dconst0), .second, .val (.int (Int32.ofNat 4))] [])) _
    refine GoOn.step (fun tq kq => XS.dload X0.here hx rfl (hb hby own_d9) rfl kq) ?_
    show GoOn p e below (s₁.setTop (mkF m 34 #[.val (.ref wa), .val (.ref va), .val (.int (Int32.ofNat 4)), .val (.int (Int32.ofNat 2)), .val (.double Jvm.FP.dconst0), .second, .val (.int (Int32.ofNat 4))] [(.double Jvm.FP.dconst0)])) _
    refine GoOn.ret X0 Bd.notSynchronized (v := some (.double Jvm.FP.dconst0)) (fun h => by rw [Bd.returns] at h; cases h) (fun fs hr => retOut X0 hx Bd.returns rfl (Or.inr (Or.inr (Or.inl ⟨rfl, rfl, _, rfl⟩))) (hb hby own_d10) hr) (by decide) (by decide) ?_
    rw [e0]
    exact ⟨_, rfl, N0, rfl, by rw [own_sm_4_2]; exact Rep.zero⟩
  · skip
    show GoOn p e below (s₁.setTop (mkF m 0 #[.val (.ref wa), .val (.ref va), .val (.int (Int32.ofNat 4)), .val (.int (Int32.ofNat 3)), .unset, .unset, .unset] [])) _
    refine GoOn.step (fun tq kq => XS.dconst0 X0.here hx rfl (hb hby own_d2) (v := Jvm.FP.dconst0) rfl kq) ?_
    show GoOn p e below (s₁.setTop (mkF m 1 #[.val (.ref wa), .val (.ref va), .val (.int (Int32.ofNat 4)), .val (.int (Int32.ofNat 3)), .unset, .unset, .unset] [(.double Jvm.FP.dconst0)])) _
    refine GoOn.step (fun tq kq => XS.dstore X0.here hx rfl (hb hby own_d3) rfl (l' := #[.val (.ref wa), .val (.ref va), .val (.int (Int32.ofNat 4)), .val (.int (Int32.ofNat 3)), .val (.double Jvm.FP.dconst0), .second, .unset]) rfl kq) ?_
    show GoOn p e below (s₁.setTop (mkF m 3 #[.val (.ref wa), .val (.ref va), .val (.int (Int32.ofNat 4)), .val (.int (Int32.ofNat 3)), .val (.double Jvm.FP.dconst0), .second, .unset] [])) _
    refine GoOn.step (fun tq kq => XS.iloadN X0.here hx rfl (hb hby own_d4) rfl kq) ?_
    show GoOn p e below (s₁.setTop (mkF m 4 #[.val (.ref wa), .val (.ref va), .val (.int (Int32.ofNat 4)), .val (.int (Int32.ofNat 3)), .val (.double Jvm.FP.dconst0), .second, .unset] [(.int (Int32.ofNat 4))])) _
    refine GoOn.step (fun tq kq => XS.istore X0.here hx rfl (hb hby own_d5) rfl (l' := #[.val (.ref wa), .val (.ref va), .val (.int (Int32.ofNat 4)), .val (.int (Int32.ofNat 3)), .val (.double Jvm.FP.dconst0), .second, .val (.int (Int32.ofNat 4))]) rfl kq) ?_
    show GoOn p e below (s₁.setTop (mkF m 6 #[.val (.ref wa), .val (.ref va), .val (.int (Int32.ofNat 4)), .val (.int (Int32.ofNat 3)), .val (.double Jvm.FP.dconst0), .second, .val (.int (Int32.ofNat 4))] [])) _
    refine GoOn.step (fun tq kq => XS.iload X0.here hx rfl (hb hby own_d6) rfl kq) ?_
    show GoOn p e below (s₁.setTop (mkF m 8 #[.val (.ref wa), .val (.ref va), .val (.int (Int32.ofNat 4)), .val (.int (Int32.ofNat 3)), .val (.double Jvm.FP.dconst0), .second, .val (.int (Int32.ofNat 4))] [(.int (Int32.ofNat 4))])) _
    refine GoOn.step (fun tq kq => XS.iloadN X0.here hx rfl (hb hby own_d7) rfl kq) ?_
    show GoOn p e below (s₁.setTop (mkF m 9 #[.val (.ref wa), .val (.ref va), .val (.int (Int32.ofNat 4)), .val (.int (Int32.ofNat 3)), .val (.double Jvm.FP.dconst0), .second, .val (.int (Int32.ofNat 4))] [(.int (Int32.ofNat 3)), (.int (Int32.ofNat 4))])) _
    refine GoOn.step (fun tq kq => XS.icmpYes X0.here hx rfl (pc0 := 9) (pc' := 32) rfl (hb hby own_d8) rfl (flt (by decide)).2.1 (by decide) (by decide) kq) ?_
    show GoOn p e below (s₁.setTop (mkF m 32 #[.val (.ref wa), .val (.ref va), .val (.int (Int32.ofNat 4)), .val (.int (Int32.ofNat 3)), .val (.double Jvm.FP.dconst0), .second, .val (.int (Int32.ofNat 4))] [])) _
    refine GoOn.step (fun tq kq => XS.dload X0.here hx rfl (hb hby own_d9) rfl kq) ?_
    show GoOn p e below (s₁.setTop (mkF m 34 #[.val (.ref wa), .val (.ref va), .val (.int (Int32.ofNat 4)), .val (.int (Int32.ofNat 3)), .val (.double Jvm.FP.dconst0), .second, .val (.int (Int32.ofNat 4))] [(.double Jvm.FP.dconst0)])) _
    refine GoOn.ret X0 Bd.notSynchronized (v := some (.double Jvm.FP.dconst0)) (fun h => by rw [Bd.returns] at h; cases h) (fun fs hr => retOut X0 hx Bd.returns rfl (Or.inr (Or.inr (Or.inl ⟨rfl, rfl, _, rfl⟩))) (hb hby own_d10) hr) (by decide) (by decide) ?_
    rw [e0]
    exact ⟨_, rfl, N0, rfl, by rw [own_sm_4_3]; exact Rep.zero⟩
  · skip
    show GoOn p e below (s₁.setTop (mkF m 0 #[.val (.ref wa), .val (.ref va), .val (.int (Int32.ofNat 4)), .val (.int (Int32.ofNat 4)), .unset, .unset, .unset] [])) _
    refine GoOn.step (fun tq kq => XS.dconst0 X0.here hx rfl (hb hby own_d2) (v := Jvm.FP.dconst0) rfl kq) ?_
    show GoOn p e below (s₁.setTop (mkF m 1 #[.val (.ref wa), .val (.ref va), .val (.int (Int32.ofNat 4)), .val (.int (Int32.ofNat 4)), .unset, .unset, .unset] [(.double Jvm.FP.dconst0)])) _
    refine GoOn.step (fun tq kq => XS.dstore X0.here hx rfl (hb hby own_d3) rfl (l' := #[.val (.ref wa), .val (.ref va), .val (.int (Int32.ofNat 4)), .val (.int (Int32.ofNat 4)), .val (.double Jvm.FP.dconst0), .second, .unset]) rfl kq) ?_
    show GoOn p e below (s₁.setTop (mkF m 3 #[.val (.ref wa), .val (.ref va), .val (.int (Int32.ofNat 4)), .val (.int (Int32.ofNat 4)), .val (.double Jvm.FP.dconst0), .second, .unset] [])) _
    refine GoOn.step (fun tq kq => XS.iloadN X0.here hx rfl (hb hby own_d4) rfl kq) ?_
    show GoOn p e below (s₁.setTop (mkF m 4 #[.val (.ref wa), .val (.ref va), .val (.int (Int32.ofNat 4)), .val (.int (Int32.ofNat 4)), .val (.double Jvm.FP.dconst0), .second, .unset] [(.int (Int32.ofNat 4))])) _
    refine GoOn.step (fun tq kq => XS.istore X0.here hx rfl (hb hby own_d5) rfl (l' := #[.val (.ref wa), .val (.ref va), .val (.int (Int32.ofNat 4)), .val (.int (Int32.ofNat 4)), .val (.double Jvm.FP.dconst0), .second, .val (.int (Int32.ofNat 4))]) rfl kq) ?_
    show GoOn p e below (s₁.setTop (mkF m 6 #[.val (.ref wa), .val (.ref va), .val (.int (Int32.ofNat 4)), .val (.int (Int32.ofNat 4)), .val (.double Jvm.FP.dconst0), .second, .val (.int (Int32.ofNat 4))] [])) _
    refine GoOn.step (fun tq kq => XS.iload X0.here hx rfl (hb hby own_d6) rfl kq) ?_
    show GoOn p e below (s₁.setTop (mkF m 8 #[.val (.ref wa), .val (.ref va), .val (.int (Int32.ofNat 4)), .val (.int (Int32.ofNat 4)), .val (.double Jvm.FP.dconst0), .second, .val (.int (Int32.ofNat 4))] [(.int (Int32.ofNat 4))])) _
    refine GoOn.step (fun tq kq => XS.iloadN X0.here hx rfl (hb hby own_d7) rfl kq) ?_
    show GoOn p e below (s₁.setTop (mkF m 9 #[.val (.ref wa), .val (.ref va), .val (.int (Int32.ofNat 4)), .val (.int (Int32.ofNat 4)), .val (.double Jvm.FP.dconst0), .second, .val (.int (Int32.ofNat 4))] [(.int (Int32.ofNat 4)), (.int (Int32.ofNat 4))])) _
    refine GoOn.step (fun tq kq => XS.icmpYes X0.here hx rfl (pc0 := 9) (pc' := 32) rfl (hb hby own_d8) rfl (flt (by decide)).2.1 (by decide) (by decide) kq) ?_
    show GoOn p e below (s₁.setTop (mkF m 32 #[.val (.ref wa), .val (.ref va), .val (.int (Int32.ofNat 4)), .val (.int (Int32.ofNat 4)), .val (.double Jvm.FP.dconst0), .second, .val (.int (Int32.ofNat 4))] [])) _
    refine GoOn.step (fun tq kq => XS.dload X0.here hx rfl (hb hby own_d9) rfl kq) ?_
    show GoOn p e below (s₁.setTop (mkF m 34 #[.val (.ref wa), .val (.ref va), .val (.int (Int32.ofNat 4)), .val (.int (Int32.ofNat 4)), .val (.double Jvm.FP.dconst0), .second, .val (.int (Int32.ofNat 4))] [(.double Jvm.FP.dconst0)])) _
    refine GoOn.ret X0 Bd.notSynchronized (v := some (.double Jvm.FP.dconst0)) (fun h => by rw [Bd.returns] at h; cases h) (fun fs hr => retOut X0 hx Bd.returns rfl (Or.inr (Or.inr (Or.inl ⟨rfl, rfl, _, rfl⟩))) (hb hby own_d10) hr) (by decide) (by decide) ?_
    rw [e0]
    exact ⟨_, rfl, N0, rfl, by rw [own_sm_4_4]; exact Rep.zero⟩
set_option maxRecDepth 65536 in
set_option maxHeartbeats 40000000 in
theorem rmTerm (l : Launch) (Z : State) (a0 : Array Value) (hw : ∀ d ∈ tables_1, d.before a0 Z = true) (kx u v0 : Int32) (kk f t : Nat) (h0 : Heap) (n0 : Nat) (Z0 : n0 ≤ h0.size) (hk : kx = Int32.ofNat kk) (hk3 : kk ≤ 3) (hf : f ≤ 4) (ht : t ≤ 4) :
    MetFree l (⟨"com/example/patokan/patokan/model/AbilityGridMeanPinLaw", "term", "(IIIII)J"⟩ : MethodName) (head1 [Jvm.Cond.code (⟨"com/example/patokan/patokan/model/AbilityGridMeanPinLaw", "term", "(IIIII)J"⟩ : MethodName) method_3_code 5 (some .long)] ({ frames := 0, cells := 0, slots := 0, locals := 0 } : Room)) (fun aa U => aa = #[(.int kx), (.int (Int32.ofNat f)), (.int (Int32.ofNat t)), (.int u), (.int v0)] ∧ Z.Warmed39 U.vm ∧ U.heap = h0) (fun _ _ _ _ _ => True) (fun _ U o U' => ∃ v L, o = .returned v ∧ QSame (.long (own_tl kk f t (u.toInt64 * v0.toInt64))) h0 n0 v U'.heap L ∧ FrameEnd U o U' L ({ frames := 0, cells := 0, slots := 0, locals := 0 } : Room).cells ({ frames := 0, cells := 0, slots := 0, locals := 0 } : Room).slots) := by
  refine MetFree.of_bodySF (plainFor_of_name own_pn24) hisR ?_
  intro p e s m args below meth c s₁ Bd hml0 hP hK
  obtain ⟨rfl, hZ, hh⟩ := hP
  have hx := Bd.exec
  have hby := Bd.bytes
  have hml : c.maxLocals = 5 := hml0
  have hown : s.vm.findClass "com/example/patokan/patokan/model/AbilityGridMeanPinLaw" = some m.cls := findClass_of_methodNamed Bd.named
  have hnm := (name_of_methodNamed Bd.named Bd.method).1
  have X0 : Stand p l e ({ frames := 0, cells := 0, slots := 0, locals := 0 } : Room) s m #[(.int kx), (.int (Int32.ofNat f)), (.int (Int32.ofNat t)), (.int u), (.int v0)] below meth c s₁ [] 0 0 := Stand.of_body Bd
  have e0 : s₁.heap = h0 := by rw [← hh, Bd.state]; rfl
  have N0 := Fr.nil n0
  have K0 : Keep h0 h0 [] := Keep.refl _ _
  show GoOn p e below (s₁.setTop (entryFrame m #[(.int kx), (.int (Int32.ofNat f)), (.int (Int32.ofNat t)), (.int u), (.int v0)] 5)) (PostN s (QSame (.long (own_tl kk f t (u.toInt64 * v0.toInt64))) h0 n0) ({ frames := 0, cells := 0, slots := 0, locals := 0 } : Room).cells ({ frames := 0, cells := 0, slots := 0, locals := 0 } : Room).slots)
  refine GoOn.step (fun tq kq => castTop (own_ef23 m kx (Int32.ofNat f) (Int32.ofNat t) u v0) kq) ?_
  show GoOn p e below (s₁.setTop (mkF m 0 #[.val (.int kx), .val (.int (Int32.ofNat f)), .val (.int (Int32.ofNat t)), .val (.int u), .val (.int v0)] [])) _
  subst hk
  refine GoOn.step (fun tq kq => XS.iloadN X0.here hx rfl (hb hby own_d25) rfl kq) ?_
  show GoOn p e below (s₁.setTop (mkF m 1 #[.val (.int (Int32.ofNat kk)), .val (.int (Int32.ofNat f)), .val (.int (Int32.ofNat t)), .val (.int u), .val (.int v0)] [(.int (Int32.ofNat f))])) _
  refine GoOn.step (fun tq kq => XS.iloadN X0.here hx rfl (hb hby own_d26) rfl kq) ?_
  show GoOn p e below (s₁.setTop (mkF m 2 #[.val (.int (Int32.ofNat kk)), .val (.int (Int32.ofNat f)), .val (.int (Int32.ofNat t)), .val (.int u), .val (.int v0)] [(.int (Int32.ofNat kk)), (.int (Int32.ofNat f))])) _
  by_cases hc61 : f ≤ kk
  · skip
    refine GoOn.step (fun tq kq => XS.icmpNo X0.here hx rfl (hb hby own_d27) rfl (flt (own_nle32 hc61 (by omega))).2.2.1 kq) ?_
    show GoOn p e below (s₁.setTop (mkF m 5 #[.val (.int (Int32.ofNat kk)), .val (.int (Int32.ofNat f)), .val (.int (Int32.ofNat t)), .val (.int u), .val (.int v0)] [])) _
    refine GoOn.step (fun tq kq => XS.iloadN X0.here hx rfl (hb hby own_d28) rfl kq) ?_
    show GoOn p e below (s₁.setTop (mkF m 6 #[.val (.int (Int32.ofNat kk)), .val (.int (Int32.ofNat f)), .val (.int (Int32.ofNat t)), .val (.int u), .val (.int v0)] [(.int (Int32.ofNat kk))])) _
    refine GoOn.step (fun tq kq => XS.iloadN X0.here hx rfl (hb hby own_d29) rfl kq) ?_
    show GoOn p e below (s₁.setTop (mkF m 7 #[.val (.int (Int32.ofNat kk)), .val (.int (Int32.ofNat f)), .val (.int (Int32.ofNat t)), .val (.int u), .val (.int v0)] [(.int (Int32.ofNat t)), (.int (Int32.ofNat kk))])) _
    by_cases hc62 : kk < t
    · skip
      refine GoOn.step (fun tq kq => XS.icmpNo X0.here hx rfl (hb hby own_d30) rfl (tlt (own_lt32 hc62 (by omega))).2.1 kq) ?_
      show GoOn p e below (s₁.setTop (mkF m 10 #[.val (.int (Int32.ofNat kk)), .val (.int (Int32.ofNat f)), .val (.int (Int32.ofNat t)), .val (.int u), .val (.int v0)] [])) _
      refine GoOn.step (fun tq kq => XS.iloadN X0.here hx rfl (hb hby own_d31) rfl kq) ?_
      show GoOn p e below (s₁.setTop (mkF m 11 #[.val (.int (Int32.ofNat kk)), .val (.int (Int32.ofNat f)), .val (.int (Int32.ofNat t)), .val (.int u), .val (.int v0)] [(.int u)])) _
      refine GoOn.step (fun tq kq => XS.i2l X0.here hx rfl (hb hby own_d32) rfl kq) ?_
      show GoOn p e below (s₁.setTop (mkF m 12 #[.val (.int (Int32.ofNat kk)), .val (.int (Int32.ofNat f)), .val (.int (Int32.ofNat t)), .val (.int u), .val (.int v0)] [(.long ((u).toInt64))])) _
      refine GoOn.step (fun tq kq => XS.iload X0.here hx rfl (hb hby own_d33) rfl kq) ?_
      show GoOn p e below (s₁.setTop (mkF m 14 #[.val (.int (Int32.ofNat kk)), .val (.int (Int32.ofNat f)), .val (.int (Int32.ofNat t)), .val (.int u), .val (.int v0)] [(.int v0), (.long ((u).toInt64))])) _
      refine GoOn.step (fun tq kq => XS.i2l X0.here hx rfl (hb hby own_d34) rfl kq) ?_
      show GoOn p e below (s₁.setTop (mkF m 15 #[.val (.int (Int32.ofNat kk)), .val (.int (Int32.ofNat f)), .val (.int (Int32.ofNat t)), .val (.int u), .val (.int v0)] [(.long ((v0).toInt64)), (.long ((u).toInt64))])) _
      refine GoOn.step (fun tq kq => XS.lmul X0.here hx rfl (hb hby own_d35) rfl kq) ?_
      show GoOn p e below (s₁.setTop (mkF m 16 #[.val (.int (Int32.ofNat kk)), .val (.int (Int32.ofNat f)), .val (.int (Int32.ofNat t)), .val (.int u), .val (.int v0)] [(.long (((u).toInt64) * ((v0).toInt64)))])) _
      refine GoOn.ret X0 Bd.notSynchronized (v := some (.long (((u).toInt64) * ((v0).toInt64)))) (fun h => by rw [Bd.returns] at h; cases h) (fun fs hr => retOut X0 hx Bd.returns rfl (Or.inr (Or.inl ⟨rfl, rfl, _, rfl⟩)) (hb hby own_d36) hr) (by decide) (by decide) ?_
      rw [e0]
      exact ⟨by rw [own_tl, if_pos ⟨hc61, hc62⟩], N0, rfl⟩
    · skip
      refine GoOn.step (fun tq kq => XS.icmpYes X0.here hx rfl (pc0 := 7) (pc' := 17) rfl (hb hby own_d30) rfl (flt (own_nle32 (Nat.le_of_not_lt hc62) (by omega))).2.1 (by decide) (by decide) kq) ?_
      show GoOn p e below (s₁.setTop (mkF m 17 #[.val (.int (Int32.ofNat kk)), .val (.int (Int32.ofNat f)), .val (.int (Int32.ofNat t)), .val (.int u), .val (.int v0)] [])) _
      refine GoOn.step (fun tq kq => XS.lconst X0.here hx rfl (hb hby own_d37) kq) ?_
      show GoOn p e below (s₁.setTop (mkF m 18 #[.val (.int (Int32.ofNat kk)), .val (.int (Int32.ofNat f)), .val (.int (Int32.ofNat t)), .val (.int u), .val (.int v0)] [(.long (0 : Int64))])) _
      refine GoOn.ret X0 Bd.notSynchronized (v := some (.long (0 : Int64))) (fun h => by rw [Bd.returns] at h; cases h) (fun fs hr => retOut X0 hx Bd.returns rfl (Or.inr (Or.inl ⟨rfl, rfl, _, rfl⟩)) (hb hby own_d38) hr) (by decide) (by decide) ?_
      rw [e0]
      exact ⟨by rw [own_tl, if_neg (fun q => hc62 q.2)], N0, rfl⟩
  · skip
    refine GoOn.step (fun tq kq => XS.icmpYes X0.here hx rfl (pc0 := 2) (pc' := 17) rfl (hb hby own_d27) rfl (tlt (own_lt32 (Nat.lt_of_not_le hc61) (by omega))).2.2.1 (by decide) (by decide) kq) ?_
    show GoOn p e below (s₁.setTop (mkF m 17 #[.val (.int (Int32.ofNat kk)), .val (.int (Int32.ofNat f)), .val (.int (Int32.ofNat t)), .val (.int u), .val (.int v0)] [])) _
    refine GoOn.step (fun tq kq => XS.lconst X0.here hx rfl (hb hby own_d37) kq) ?_
    show GoOn p e below (s₁.setTop (mkF m 18 #[.val (.int (Int32.ofNat kk)), .val (.int (Int32.ofNat f)), .val (.int (Int32.ofNat t)), .val (.int u), .val (.int v0)] [(.long (0 : Int64))])) _
    refine GoOn.ret X0 Bd.notSynchronized (v := some (.long (0 : Int64))) (fun h => by rw [Bd.returns] at h; cases h) (fun fs hr => retOut X0 hx Bd.returns rfl (Or.inr (Or.inl ⟨rfl, rfl, _, rfl⟩)) (hb hby own_d38) hr) (by decide) (by decide) ?_
    rw [e0]
    exact ⟨by rw [own_tl, if_neg (fun q => hc61 q.1)], N0, rfl⟩
def QLaw (h0 : Heap) (n0 : Nat) (v : Option Value) (h : Heap) (L : List Loc) : Prop := v = some (.int 1) ∧ Fr n0 L
set_option maxRecDepth 65536 in
set_option maxHeartbeats 40000000 in
theorem rm0 (l : Launch) (Z : State) (a0 : Array Value) (hw : ∀ d ∈ tables_1, d.before a0 Z = true) (ws : List Jvm.Cond) (p0 p1 : Int64) (p2 : Int32) (h0 : Heap) (n0 : Nat) (Z0 : n0 ≤ h0.size) (O0 : Old Z n0 h0) :
    MetFree l x (head1 (Jvm.Cond.code x code maxLocals ret :: ws) room_1) (fun aa U => aa = #[(.long p0), (.long p1), (.int p2)] ∧ Z.Warmed39 U.vm ∧ U.heap = h0) (fun _ _ _ _ _ => True) (fun _ U o U' => ∃ v L, o = .returned v ∧ QLaw h0 n0 v U'.heap L ∧ FrameEnd U o U' L 16 128) := by
  refine MetFree.of_bodySF (plainFor_of_name own_pn24) hisR ?_
  intro p e s m args below meth c s₁ Bd hml0 hP hK
  obtain ⟨rfl, hZ, hh⟩ := hP
  have hx := Bd.exec
  have hby := Bd.bytes
  have hml : c.maxLocals = 21 := hml0
  have hown : s.vm.findClass "com/example/patokan/patokan/model/AbilityGridMeanPinLaw" = some m.cls := findClass_of_methodNamed Bd.named
  have hnm := (name_of_methodNamed Bd.named Bd.method).1
  have X0 : Stand p l e room_1 s m #[(.long p0), (.long p1), (.int p2)] below meth c s₁ [] 0 0 := Stand.of_body Bd
  have e0 : s₁.heap = h0 := by rw [← hh, Bd.state]; rfl
  have N0 := Fr.nil n0
  have K0 : Keep h0 h0 [] := Keep.refl _ _
  show GoOn p e below (s₁.setTop (entryFrame m #[(.long p0), (.long p1), (.int p2)] maxLocals)) (PostN s (QLaw h0 n0) 16 128)
  refine GoOn.step (fun tq kq => castTop (own_ef39 m p0 p1 p2) kq) ?_
  show GoOn p e below (s₁.setTop (mkF m 0 #[.val (.long p0), .second, .val (.long p1), .second, .val (.int p2), .unset, .unset, .unset, .unset, .unset, .unset, .unset, .unset, .unset, .unset, .unset, .unset, .unset, .unset, .unset, .unset] [])) _
  refine GoOn.step (fun tq kq => XS.lloadN X0.here hx rfl (hb hby at_0) rfl kq) ?_
  show GoOn p e below (s₁.setTop (mkF m 1 #[.val (.long p0), .second, .val (.long p1), .second, .val (.int p2), .unset, .unset, .unset, .unset, .unset, .unset, .unset, .unset, .unset, .unset, .unset, .unset, .unset, .unset, .unset, .unset] [(.long p0)])) _
  refine GoOn.step (fun tq kq => XS.l2i X0.here hx rfl (hb hby at_1) rfl kq) ?_
  show GoOn p e below (s₁.setTop (mkF m 2 #[.val (.long p0), .second, .val (.long p1), .second, .val (.int p2), .unset, .unset, .unset, .unset, .unset, .unset, .unset, .unset, .unset, .unset, .unset, .unset, .unset, .unset, .unset, .unset] [(.int ((p0).toInt32))])) _
  refine GoOn.step (fun tq kq => XS.i2s X0.here hx rfl (hb hby at_2) rfl kq) ?_
  show GoOn p e below (s₁.setTop (mkF m 3 #[.val (.long p0), .second, .val (.long p1), .second, .val (.int p2), .unset, .unset, .unset, .unset, .unset, .unset, .unset, .unset, .unset, .unset, .unset, .unset, .unset, .unset, .unset, .unset] [(.int ((((p0).toInt32)).toInt16.toInt32))])) _
  refine GoOn.step (fun tq kq => XS.istore X0.here hx rfl (hb hby at_3) rfl (l' := #[.val (.long p0), .second, .val (.long p1), .second, .val (.int p2), .val (.int ((((p0).toInt32)).toInt16.toInt32)), .unset, .unset, .unset, .unset, .unset, .unset, .unset, .unset, .unset, .unset, .unset, .unset, .unset, .unset, .unset]) rfl kq) ?_
  show GoOn p e below (s₁.setTop (mkF m 5 #[.val (.long p0), .second, .val (.long p1), .second, .val (.int p2), .val (.int ((((p0).toInt32)).toInt16.toInt32)), .unset, .unset, .unset, .unset, .unset, .unset, .unset, .unset, .unset, .unset, .unset, .unset, .unset, .unset, .unset] [])) _
  have hu0 := (c_i2s (((p0).toInt32))).2
  generalize hgu0 : ((((p0).toInt32)).toInt16.toInt32) = u0
  show GoOn p e below (s₁.setTop (mkF m 5 #[.val (.long p0), .second, .val (.long p1), .second, .val (.int p2), .val (.int u0), .unset, .unset, .unset, .unset, .unset, .unset, .unset, .unset, .unset, .unset, .unset, .unset, .unset, .unset, .unset] [])) _
  rw [hgu0] at hu0
  refine GoOn.step (fun tq kq => XS.lloadN X0.here hx rfl (hb hby at_5) rfl kq) ?_
  show GoOn p e below (s₁.setTop (mkF m 6 #[.val (.long p0), .second, .val (.long p1), .second, .val (.int p2), .val (.int u0), .unset, .unset, .unset, .unset, .unset, .unset, .unset, .unset, .unset, .unset, .unset, .unset, .unset, .unset, .unset] [(.long p0)])) _
  refine GoOn.step (fun tq kq => XS.bipush X0.here hx rfl (hb hby at_6) kq) ?_
  show GoOn p e below (s₁.setTop (mkF m 8 #[.val (.long p0), .second, .val (.long p1), .second, .val (.int p2), .val (.int u0), .unset, .unset, .unset, .unset, .unset, .unset, .unset, .unset, .unset, .unset, .unset, .unset, .unset, .unset, .unset] [(.int (16 : Int32)), (.long p0)])) _
  refine GoOn.step (fun tq kq => Jvm.Free.XT.lushr X0.here hx rfl (hb hby at_8) rfl kq) ?_
  show GoOn p e below (s₁.setTop (mkF m 9 #[.val (.long p0), .second, .val (.long p1), .second, .val (.int p2), .val (.int u0), .unset, .unset, .unset, .unset, .unset, .unset, .unset, .unset, .unset, .unset, .unset, .unset, .unset, .unset, .unset] [(.long (Jvm.Free.XT.ushrL p0 (16 : Int32)))])) _
  refine GoOn.step (fun tq kq => XS.l2i X0.here hx rfl (hb hby at_9) rfl kq) ?_
  show GoOn p e below (s₁.setTop (mkF m 10 #[.val (.long p0), .second, .val (.long p1), .second, .val (.int p2), .val (.int u0), .unset, .unset, .unset, .unset, .unset, .unset, .unset, .unset, .unset, .unset, .unset, .unset, .unset, .unset, .unset] [(.int (((Jvm.Free.XT.ushrL p0 (16 : Int32))).toInt32))])) _
  refine GoOn.step (fun tq kq => XS.i2s X0.here hx rfl (hb hby at_10) rfl kq) ?_
  show GoOn p e below (s₁.setTop (mkF m 11 #[.val (.long p0), .second, .val (.long p1), .second, .val (.int p2), .val (.int u0), .unset, .unset, .unset, .unset, .unset, .unset, .unset, .unset, .unset, .unset, .unset, .unset, .unset, .unset, .unset] [(.int (((((Jvm.Free.XT.ushrL p0 (16 : Int32))).toInt32)).toInt16.toInt32))])) _
  refine GoOn.step (fun tq kq => XS.istore X0.here hx rfl (hb hby at_11) rfl (l' := #[.val (.long p0), .second, .val (.long p1), .second, .val (.int p2), .val (.int u0), .val (.int (((((Jvm.Free.XT.ushrL p0 (16 : Int32))).toInt32)).toInt16.toInt32)), .unset, .unset, .unset, .unset, .unset, .unset, .unset, .unset, .unset, .unset, .unset, .unset, .unset, .unset]) rfl kq) ?_
  show GoOn p e below (s₁.setTop (mkF m 13 #[.val (.long p0), .second, .val (.long p1), .second, .val (.int p2), .val (.int u0), .val (.int (((((Jvm.Free.XT.ushrL p0 (16 : Int32))).toInt32)).toInt16.toInt32)), .unset, .unset, .unset, .unset, .unset, .unset, .unset, .unset, .unset, .unset, .unset, .unset, .unset, .unset] [])) _
  have hu1 := (c_i2s ((((Jvm.Free.XT.ushrL p0 (16 : Int32))).toInt32))).2
  generalize hgu1 : (((((Jvm.Free.XT.ushrL p0 (16 : Int32))).toInt32)).toInt16.toInt32) = u1
  show GoOn p e below (s₁.setTop (mkF m 13 #[.val (.long p0), .second, .val (.long p1), .second, .val (.int p2), .val (.int u0), .val (.int u1), .unset, .unset, .unset, .unset, .unset, .unset, .unset, .unset, .unset, .unset, .unset, .unset, .unset, .unset] [])) _
  rw [hgu1] at hu1
  refine GoOn.step (fun tq kq => XS.lloadN X0.here hx rfl (hb hby at_13) rfl kq) ?_
  show GoOn p e below (s₁.setTop (mkF m 14 #[.val (.long p0), .second, .val (.long p1), .second, .val (.int p2), .val (.int u0), .val (.int u1), .unset, .unset, .unset, .unset, .unset, .unset, .unset, .unset, .unset, .unset, .unset, .unset, .unset, .unset] [(.long p0)])) _
  refine GoOn.step (fun tq kq => XS.bipush X0.here hx rfl (hb hby at_14) kq) ?_
  show GoOn p e below (s₁.setTop (mkF m 16 #[.val (.long p0), .second, .val (.long p1), .second, .val (.int p2), .val (.int u0), .val (.int u1), .unset, .unset, .unset, .unset, .unset, .unset, .unset, .unset, .unset, .unset, .unset, .unset, .unset, .unset] [(.int (32 : Int32)), (.long p0)])) _
  refine GoOn.step (fun tq kq => Jvm.Free.XT.lushr X0.here hx rfl (hb hby at_16) rfl kq) ?_
  show GoOn p e below (s₁.setTop (mkF m 17 #[.val (.long p0), .second, .val (.long p1), .second, .val (.int p2), .val (.int u0), .val (.int u1), .unset, .unset, .unset, .unset, .unset, .unset, .unset, .unset, .unset, .unset, .unset, .unset, .unset, .unset] [(.long (Jvm.Free.XT.ushrL p0 (32 : Int32)))])) _
  refine GoOn.step (fun tq kq => XS.l2i X0.here hx rfl (hb hby at_17) rfl kq) ?_
  show GoOn p e below (s₁.setTop (mkF m 18 #[.val (.long p0), .second, .val (.long p1), .second, .val (.int p2), .val (.int u0), .val (.int u1), .unset, .unset, .unset, .unset, .unset, .unset, .unset, .unset, .unset, .unset, .unset, .unset, .unset, .unset] [(.int (((Jvm.Free.XT.ushrL p0 (32 : Int32))).toInt32))])) _
  refine GoOn.step (fun tq kq => XS.i2s X0.here hx rfl (hb hby at_18) rfl kq) ?_
  show GoOn p e below (s₁.setTop (mkF m 19 #[.val (.long p0), .second, .val (.long p1), .second, .val (.int p2), .val (.int u0), .val (.int u1), .unset, .unset, .unset, .unset, .unset, .unset, .unset, .unset, .unset, .unset, .unset, .unset, .unset, .unset] [(.int (((((Jvm.Free.XT.ushrL p0 (32 : Int32))).toInt32)).toInt16.toInt32))])) _
  refine GoOn.step (fun tq kq => XS.istore X0.here hx rfl (hb hby at_19) rfl (l' := #[.val (.long p0), .second, .val (.long p1), .second, .val (.int p2), .val (.int u0), .val (.int u1), .val (.int (((((Jvm.Free.XT.ushrL p0 (32 : Int32))).toInt32)).toInt16.toInt32)), .unset, .unset, .unset, .unset, .unset, .unset, .unset, .unset, .unset, .unset, .unset, .unset, .unset]) rfl kq) ?_
  show GoOn p e below (s₁.setTop (mkF m 21 #[.val (.long p0), .second, .val (.long p1), .second, .val (.int p2), .val (.int u0), .val (.int u1), .val (.int (((((Jvm.Free.XT.ushrL p0 (32 : Int32))).toInt32)).toInt16.toInt32)), .unset, .unset, .unset, .unset, .unset, .unset, .unset, .unset, .unset, .unset, .unset, .unset, .unset] [])) _
  have hu2 := (c_i2s ((((Jvm.Free.XT.ushrL p0 (32 : Int32))).toInt32))).2
  generalize hgu2 : (((((Jvm.Free.XT.ushrL p0 (32 : Int32))).toInt32)).toInt16.toInt32) = u2
  show GoOn p e below (s₁.setTop (mkF m 21 #[.val (.long p0), .second, .val (.long p1), .second, .val (.int p2), .val (.int u0), .val (.int u1), .val (.int u2), .unset, .unset, .unset, .unset, .unset, .unset, .unset, .unset, .unset, .unset, .unset, .unset, .unset] [])) _
  rw [hgu2] at hu2
  refine GoOn.step (fun tq kq => XS.lloadN X0.here hx rfl (hb hby at_21) rfl kq) ?_
  show GoOn p e below (s₁.setTop (mkF m 22 #[.val (.long p0), .second, .val (.long p1), .second, .val (.int p2), .val (.int u0), .val (.int u1), .val (.int u2), .unset, .unset, .unset, .unset, .unset, .unset, .unset, .unset, .unset, .unset, .unset, .unset, .unset] [(.long p0)])) _
  refine GoOn.step (fun tq kq => XS.bipush X0.here hx rfl (hb hby at_22) kq) ?_
  show GoOn p e below (s₁.setTop (mkF m 24 #[.val (.long p0), .second, .val (.long p1), .second, .val (.int p2), .val (.int u0), .val (.int u1), .val (.int u2), .unset, .unset, .unset, .unset, .unset, .unset, .unset, .unset, .unset, .unset, .unset, .unset, .unset] [(.int (48 : Int32)), (.long p0)])) _
  refine GoOn.step (fun tq kq => Jvm.Free.XT.lushr X0.here hx rfl (hb hby at_24) rfl kq) ?_
  show GoOn p e below (s₁.setTop (mkF m 25 #[.val (.long p0), .second, .val (.long p1), .second, .val (.int p2), .val (.int u0), .val (.int u1), .val (.int u2), .unset, .unset, .unset, .unset, .unset, .unset, .unset, .unset, .unset, .unset, .unset, .unset, .unset] [(.long (Jvm.Free.XT.ushrL p0 (48 : Int32)))])) _
  refine GoOn.step (fun tq kq => XS.l2i X0.here hx rfl (hb hby at_25) rfl kq) ?_
  show GoOn p e below (s₁.setTop (mkF m 26 #[.val (.long p0), .second, .val (.long p1), .second, .val (.int p2), .val (.int u0), .val (.int u1), .val (.int u2), .unset, .unset, .unset, .unset, .unset, .unset, .unset, .unset, .unset, .unset, .unset, .unset, .unset] [(.int (((Jvm.Free.XT.ushrL p0 (48 : Int32))).toInt32))])) _
  refine GoOn.step (fun tq kq => XS.i2s X0.here hx rfl (hb hby at_26) rfl kq) ?_
  show GoOn p e below (s₁.setTop (mkF m 27 #[.val (.long p0), .second, .val (.long p1), .second, .val (.int p2), .val (.int u0), .val (.int u1), .val (.int u2), .unset, .unset, .unset, .unset, .unset, .unset, .unset, .unset, .unset, .unset, .unset, .unset, .unset] [(.int (((((Jvm.Free.XT.ushrL p0 (48 : Int32))).toInt32)).toInt16.toInt32))])) _
  refine GoOn.step (fun tq kq => XS.istore X0.here hx rfl (hb hby at_27) rfl (l' := #[.val (.long p0), .second, .val (.long p1), .second, .val (.int p2), .val (.int u0), .val (.int u1), .val (.int u2), .val (.int (((((Jvm.Free.XT.ushrL p0 (48 : Int32))).toInt32)).toInt16.toInt32)), .unset, .unset, .unset, .unset, .unset, .unset, .unset, .unset, .unset, .unset, .unset, .unset]) rfl kq) ?_
  show GoOn p e below (s₁.setTop (mkF m 29 #[.val (.long p0), .second, .val (.long p1), .second, .val (.int p2), .val (.int u0), .val (.int u1), .val (.int u2), .val (.int (((((Jvm.Free.XT.ushrL p0 (48 : Int32))).toInt32)).toInt16.toInt32)), .unset, .unset, .unset, .unset, .unset, .unset, .unset, .unset, .unset, .unset, .unset, .unset] [])) _
  have hu3 := (c_i2s ((((Jvm.Free.XT.ushrL p0 (48 : Int32))).toInt32))).2
  generalize hgu3 : (((((Jvm.Free.XT.ushrL p0 (48 : Int32))).toInt32)).toInt16.toInt32) = u3
  show GoOn p e below (s₁.setTop (mkF m 29 #[.val (.long p0), .second, .val (.long p1), .second, .val (.int p2), .val (.int u0), .val (.int u1), .val (.int u2), .val (.int u3), .unset, .unset, .unset, .unset, .unset, .unset, .unset, .unset, .unset, .unset, .unset, .unset] [])) _
  rw [hgu3] at hu3
  refine GoOn.step (fun tq kq => XS.lloadN X0.here hx rfl (hb hby at_29) rfl kq) ?_
  show GoOn p e below (s₁.setTop (mkF m 30 #[.val (.long p0), .second, .val (.long p1), .second, .val (.int p2), .val (.int u0), .val (.int u1), .val (.int u2), .val (.int u3), .unset, .unset, .unset, .unset, .unset, .unset, .unset, .unset, .unset, .unset, .unset, .unset] [(.long p1)])) _
  refine GoOn.step (fun tq kq => XS.l2i X0.here hx rfl (hb hby at_30) rfl kq) ?_
  show GoOn p e below (s₁.setTop (mkF m 31 #[.val (.long p0), .second, .val (.long p1), .second, .val (.int p2), .val (.int u0), .val (.int u1), .val (.int u2), .val (.int u3), .unset, .unset, .unset, .unset, .unset, .unset, .unset, .unset, .unset, .unset, .unset, .unset] [(.int ((p1).toInt32))])) _
  refine GoOn.step (fun tq kq => XS.i2s X0.here hx rfl (hb hby at_31) rfl kq) ?_
  show GoOn p e below (s₁.setTop (mkF m 32 #[.val (.long p0), .second, .val (.long p1), .second, .val (.int p2), .val (.int u0), .val (.int u1), .val (.int u2), .val (.int u3), .unset, .unset, .unset, .unset, .unset, .unset, .unset, .unset, .unset, .unset, .unset, .unset] [(.int ((((p1).toInt32)).toInt16.toInt32))])) _
  refine GoOn.step (fun tq kq => XS.istore X0.here hx rfl (hb hby at_32) rfl (l' := #[.val (.long p0), .second, .val (.long p1), .second, .val (.int p2), .val (.int u0), .val (.int u1), .val (.int u2), .val (.int u3), .val (.int ((((p1).toInt32)).toInt16.toInt32)), .unset, .unset, .unset, .unset, .unset, .unset, .unset, .unset, .unset, .unset, .unset]) rfl kq) ?_
  show GoOn p e below (s₁.setTop (mkF m 34 #[.val (.long p0), .second, .val (.long p1), .second, .val (.int p2), .val (.int u0), .val (.int u1), .val (.int u2), .val (.int u3), .val (.int ((((p1).toInt32)).toInt16.toInt32)), .unset, .unset, .unset, .unset, .unset, .unset, .unset, .unset, .unset, .unset, .unset] [])) _
  have hv0 := (c_i2s (((p1).toInt32))).2
  generalize hgv0 : ((((p1).toInt32)).toInt16.toInt32) = v0
  show GoOn p e below (s₁.setTop (mkF m 34 #[.val (.long p0), .second, .val (.long p1), .second, .val (.int p2), .val (.int u0), .val (.int u1), .val (.int u2), .val (.int u3), .val (.int v0), .unset, .unset, .unset, .unset, .unset, .unset, .unset, .unset, .unset, .unset, .unset] [])) _
  rw [hgv0] at hv0
  refine GoOn.step (fun tq kq => XS.lloadN X0.here hx rfl (hb hby at_34) rfl kq) ?_
  show GoOn p e below (s₁.setTop (mkF m 35 #[.val (.long p0), .second, .val (.long p1), .second, .val (.int p2), .val (.int u0), .val (.int u1), .val (.int u2), .val (.int u3), .val (.int v0), .unset, .unset, .unset, .unset, .unset, .unset, .unset, .unset, .unset, .unset, .unset] [(.long p1)])) _
  refine GoOn.step (fun tq kq => XS.bipush X0.here hx rfl (hb hby at_35) kq) ?_
  show GoOn p e below (s₁.setTop (mkF m 37 #[.val (.long p0), .second, .val (.long p1), .second, .val (.int p2), .val (.int u0), .val (.int u1), .val (.int u2), .val (.int u3), .val (.int v0), .unset, .unset, .unset, .unset, .unset, .unset, .unset, .unset, .unset, .unset, .unset] [(.int (16 : Int32)), (.long p1)])) _
  refine GoOn.step (fun tq kq => Jvm.Free.XT.lushr X0.here hx rfl (hb hby at_37) rfl kq) ?_
  show GoOn p e below (s₁.setTop (mkF m 38 #[.val (.long p0), .second, .val (.long p1), .second, .val (.int p2), .val (.int u0), .val (.int u1), .val (.int u2), .val (.int u3), .val (.int v0), .unset, .unset, .unset, .unset, .unset, .unset, .unset, .unset, .unset, .unset, .unset] [(.long (Jvm.Free.XT.ushrL p1 (16 : Int32)))])) _
  refine GoOn.step (fun tq kq => XS.l2i X0.here hx rfl (hb hby at_38) rfl kq) ?_
  show GoOn p e below (s₁.setTop (mkF m 39 #[.val (.long p0), .second, .val (.long p1), .second, .val (.int p2), .val (.int u0), .val (.int u1), .val (.int u2), .val (.int u3), .val (.int v0), .unset, .unset, .unset, .unset, .unset, .unset, .unset, .unset, .unset, .unset, .unset] [(.int (((Jvm.Free.XT.ushrL p1 (16 : Int32))).toInt32))])) _
  refine GoOn.step (fun tq kq => XS.i2s X0.here hx rfl (hb hby at_39) rfl kq) ?_
  show GoOn p e below (s₁.setTop (mkF m 40 #[.val (.long p0), .second, .val (.long p1), .second, .val (.int p2), .val (.int u0), .val (.int u1), .val (.int u2), .val (.int u3), .val (.int v0), .unset, .unset, .unset, .unset, .unset, .unset, .unset, .unset, .unset, .unset, .unset] [(.int (((((Jvm.Free.XT.ushrL p1 (16 : Int32))).toInt32)).toInt16.toInt32))])) _
  refine GoOn.step (fun tq kq => XS.istore X0.here hx rfl (hb hby at_40) rfl (l' := #[.val (.long p0), .second, .val (.long p1), .second, .val (.int p2), .val (.int u0), .val (.int u1), .val (.int u2), .val (.int u3), .val (.int v0), .val (.int (((((Jvm.Free.XT.ushrL p1 (16 : Int32))).toInt32)).toInt16.toInt32)), .unset, .unset, .unset, .unset, .unset, .unset, .unset, .unset, .unset, .unset]) rfl kq) ?_
  show GoOn p e below (s₁.setTop (mkF m 42 #[.val (.long p0), .second, .val (.long p1), .second, .val (.int p2), .val (.int u0), .val (.int u1), .val (.int u2), .val (.int u3), .val (.int v0), .val (.int (((((Jvm.Free.XT.ushrL p1 (16 : Int32))).toInt32)).toInt16.toInt32)), .unset, .unset, .unset, .unset, .unset, .unset, .unset, .unset, .unset, .unset] [])) _
  have hv1 := (c_i2s ((((Jvm.Free.XT.ushrL p1 (16 : Int32))).toInt32))).2
  generalize hgv1 : (((((Jvm.Free.XT.ushrL p1 (16 : Int32))).toInt32)).toInt16.toInt32) = v1
  show GoOn p e below (s₁.setTop (mkF m 42 #[.val (.long p0), .second, .val (.long p1), .second, .val (.int p2), .val (.int u0), .val (.int u1), .val (.int u2), .val (.int u3), .val (.int v0), .val (.int v1), .unset, .unset, .unset, .unset, .unset, .unset, .unset, .unset, .unset, .unset] [])) _
  rw [hgv1] at hv1
  refine GoOn.step (fun tq kq => XS.lloadN X0.here hx rfl (hb hby at_42) rfl kq) ?_
  show GoOn p e below (s₁.setTop (mkF m 43 #[.val (.long p0), .second, .val (.long p1), .second, .val (.int p2), .val (.int u0), .val (.int u1), .val (.int u2), .val (.int u3), .val (.int v0), .val (.int v1), .unset, .unset, .unset, .unset, .unset, .unset, .unset, .unset, .unset, .unset] [(.long p1)])) _
  refine GoOn.step (fun tq kq => XS.bipush X0.here hx rfl (hb hby at_43) kq) ?_
  show GoOn p e below (s₁.setTop (mkF m 45 #[.val (.long p0), .second, .val (.long p1), .second, .val (.int p2), .val (.int u0), .val (.int u1), .val (.int u2), .val (.int u3), .val (.int v0), .val (.int v1), .unset, .unset, .unset, .unset, .unset, .unset, .unset, .unset, .unset, .unset] [(.int (32 : Int32)), (.long p1)])) _
  refine GoOn.step (fun tq kq => Jvm.Free.XT.lushr X0.here hx rfl (hb hby at_45) rfl kq) ?_
  show GoOn p e below (s₁.setTop (mkF m 46 #[.val (.long p0), .second, .val (.long p1), .second, .val (.int p2), .val (.int u0), .val (.int u1), .val (.int u2), .val (.int u3), .val (.int v0), .val (.int v1), .unset, .unset, .unset, .unset, .unset, .unset, .unset, .unset, .unset, .unset] [(.long (Jvm.Free.XT.ushrL p1 (32 : Int32)))])) _
  refine GoOn.step (fun tq kq => XS.l2i X0.here hx rfl (hb hby at_46) rfl kq) ?_
  show GoOn p e below (s₁.setTop (mkF m 47 #[.val (.long p0), .second, .val (.long p1), .second, .val (.int p2), .val (.int u0), .val (.int u1), .val (.int u2), .val (.int u3), .val (.int v0), .val (.int v1), .unset, .unset, .unset, .unset, .unset, .unset, .unset, .unset, .unset, .unset] [(.int (((Jvm.Free.XT.ushrL p1 (32 : Int32))).toInt32))])) _
  refine GoOn.step (fun tq kq => XS.i2s X0.here hx rfl (hb hby at_47) rfl kq) ?_
  show GoOn p e below (s₁.setTop (mkF m 48 #[.val (.long p0), .second, .val (.long p1), .second, .val (.int p2), .val (.int u0), .val (.int u1), .val (.int u2), .val (.int u3), .val (.int v0), .val (.int v1), .unset, .unset, .unset, .unset, .unset, .unset, .unset, .unset, .unset, .unset] [(.int (((((Jvm.Free.XT.ushrL p1 (32 : Int32))).toInt32)).toInt16.toInt32))])) _
  refine GoOn.step (fun tq kq => XS.istore X0.here hx rfl (hb hby at_48) rfl (l' := #[.val (.long p0), .second, .val (.long p1), .second, .val (.int p2), .val (.int u0), .val (.int u1), .val (.int u2), .val (.int u3), .val (.int v0), .val (.int v1), .val (.int (((((Jvm.Free.XT.ushrL p1 (32 : Int32))).toInt32)).toInt16.toInt32)), .unset, .unset, .unset, .unset, .unset, .unset, .unset, .unset, .unset]) rfl kq) ?_
  show GoOn p e below (s₁.setTop (mkF m 50 #[.val (.long p0), .second, .val (.long p1), .second, .val (.int p2), .val (.int u0), .val (.int u1), .val (.int u2), .val (.int u3), .val (.int v0), .val (.int v1), .val (.int (((((Jvm.Free.XT.ushrL p1 (32 : Int32))).toInt32)).toInt16.toInt32)), .unset, .unset, .unset, .unset, .unset, .unset, .unset, .unset, .unset] [])) _
  have hv2 := (c_i2s ((((Jvm.Free.XT.ushrL p1 (32 : Int32))).toInt32))).2
  generalize hgv2 : (((((Jvm.Free.XT.ushrL p1 (32 : Int32))).toInt32)).toInt16.toInt32) = v2
  show GoOn p e below (s₁.setTop (mkF m 50 #[.val (.long p0), .second, .val (.long p1), .second, .val (.int p2), .val (.int u0), .val (.int u1), .val (.int u2), .val (.int u3), .val (.int v0), .val (.int v1), .val (.int v2), .unset, .unset, .unset, .unset, .unset, .unset, .unset, .unset, .unset] [])) _
  rw [hgv2] at hv2
  refine GoOn.step (fun tq kq => XS.lloadN X0.here hx rfl (hb hby at_50) rfl kq) ?_
  show GoOn p e below (s₁.setTop (mkF m 51 #[.val (.long p0), .second, .val (.long p1), .second, .val (.int p2), .val (.int u0), .val (.int u1), .val (.int u2), .val (.int u3), .val (.int v0), .val (.int v1), .val (.int v2), .unset, .unset, .unset, .unset, .unset, .unset, .unset, .unset, .unset] [(.long p1)])) _
  refine GoOn.step (fun tq kq => XS.bipush X0.here hx rfl (hb hby at_51) kq) ?_
  show GoOn p e below (s₁.setTop (mkF m 53 #[.val (.long p0), .second, .val (.long p1), .second, .val (.int p2), .val (.int u0), .val (.int u1), .val (.int u2), .val (.int u3), .val (.int v0), .val (.int v1), .val (.int v2), .unset, .unset, .unset, .unset, .unset, .unset, .unset, .unset, .unset] [(.int (48 : Int32)), (.long p1)])) _
  refine GoOn.step (fun tq kq => Jvm.Free.XT.lushr X0.here hx rfl (hb hby at_53) rfl kq) ?_
  show GoOn p e below (s₁.setTop (mkF m 54 #[.val (.long p0), .second, .val (.long p1), .second, .val (.int p2), .val (.int u0), .val (.int u1), .val (.int u2), .val (.int u3), .val (.int v0), .val (.int v1), .val (.int v2), .unset, .unset, .unset, .unset, .unset, .unset, .unset, .unset, .unset] [(.long (Jvm.Free.XT.ushrL p1 (48 : Int32)))])) _
  refine GoOn.step (fun tq kq => XS.l2i X0.here hx rfl (hb hby at_54) rfl kq) ?_
  show GoOn p e below (s₁.setTop (mkF m 55 #[.val (.long p0), .second, .val (.long p1), .second, .val (.int p2), .val (.int u0), .val (.int u1), .val (.int u2), .val (.int u3), .val (.int v0), .val (.int v1), .val (.int v2), .unset, .unset, .unset, .unset, .unset, .unset, .unset, .unset, .unset] [(.int (((Jvm.Free.XT.ushrL p1 (48 : Int32))).toInt32))])) _
  refine GoOn.step (fun tq kq => XS.i2s X0.here hx rfl (hb hby at_55) rfl kq) ?_
  show GoOn p e below (s₁.setTop (mkF m 56 #[.val (.long p0), .second, .val (.long p1), .second, .val (.int p2), .val (.int u0), .val (.int u1), .val (.int u2), .val (.int u3), .val (.int v0), .val (.int v1), .val (.int v2), .unset, .unset, .unset, .unset, .unset, .unset, .unset, .unset, .unset] [(.int (((((Jvm.Free.XT.ushrL p1 (48 : Int32))).toInt32)).toInt16.toInt32))])) _
  refine GoOn.step (fun tq kq => XS.istore X0.here hx rfl (hb hby at_56) rfl (l' := #[.val (.long p0), .second, .val (.long p1), .second, .val (.int p2), .val (.int u0), .val (.int u1), .val (.int u2), .val (.int u3), .val (.int v0), .val (.int v1), .val (.int v2), .val (.int (((((Jvm.Free.XT.ushrL p1 (48 : Int32))).toInt32)).toInt16.toInt32)), .unset, .unset, .unset, .unset, .unset, .unset, .unset, .unset]) rfl kq) ?_
  show GoOn p e below (s₁.setTop (mkF m 58 #[.val (.long p0), .second, .val (.long p1), .second, .val (.int p2), .val (.int u0), .val (.int u1), .val (.int u2), .val (.int u3), .val (.int v0), .val (.int v1), .val (.int v2), .val (.int (((((Jvm.Free.XT.ushrL p1 (48 : Int32))).toInt32)).toInt16.toInt32)), .unset, .unset, .unset, .unset, .unset, .unset, .unset, .unset] [])) _
  have hv3 := (c_i2s ((((Jvm.Free.XT.ushrL p1 (48 : Int32))).toInt32))).2
  generalize hgv3 : (((((Jvm.Free.XT.ushrL p1 (48 : Int32))).toInt32)).toInt16.toInt32) = v3
  show GoOn p e below (s₁.setTop (mkF m 58 #[.val (.long p0), .second, .val (.long p1), .second, .val (.int p2), .val (.int u0), .val (.int u1), .val (.int u2), .val (.int u3), .val (.int v0), .val (.int v1), .val (.int v2), .val (.int v3), .unset, .unset, .unset, .unset, .unset, .unset, .unset, .unset] [])) _
  rw [hgv3] at hv3
  refine GoOn.step (fun tq kq => XS.iload X0.here hx rfl (hb hby at_58) rfl kq) ?_
  show GoOn p e below (s₁.setTop (mkF m 60 #[.val (.long p0), .second, .val (.long p1), .second, .val (.int p2), .val (.int u0), .val (.int u1), .val (.int u2), .val (.int u3), .val (.int v0), .val (.int v1), .val (.int v2), .val (.int v3), .unset, .unset, .unset, .unset, .unset, .unset, .unset, .unset] [(.int p2)])) _
  refine GoOn.step (fun tq kq => X0.ldcInt hx hown (mvT hZ (hw _ (List.mem_of_getElem? (i := 0) rfl))) (g := (mkF m 60 #[.val (.long p0), .second, .val (.long p1), .second, .val (.int p2), .val (.int u0), .val (.int u1), .val (.int u2), .val (.int u3), .val (.int v0), .val (.int v1), .val (.int v2), .val (.int v3), .unset, .unset, .unset, .unset, .unset, .unset, .unset, .unset] [(.int p2)])) rfl (hb hby at_60) _ kq) ?_
  show GoOn p e below (s₁.setTop (mkF m 62 #[.val (.long p0), .second, .val (.long p1), .second, .val (.int p2), .val (.int u0), .val (.int u1), .val (.int u2), .val (.int u3), .val (.int v0), .val (.int v1), .val (.int v2), .val (.int v3), .unset, .unset, .unset, .unset, .unset, .unset, .unset, .unset] [(.int (2147483647 : Int32)), (.int p2)])) _
  refine GoOn.step (fun tq kq => XS.iand X0.here hx rfl (hb hby at_62) rfl kq) ?_
  show GoOn p e below (s₁.setTop (mkF m 63 #[.val (.long p0), .second, .val (.long p1), .second, .val (.int p2), .val (.int u0), .val (.int u1), .val (.int u2), .val (.int u3), .val (.int v0), .val (.int v1), .val (.int v2), .val (.int v3), .unset, .unset, .unset, .unset, .unset, .unset, .unset, .unset] [(.int (p2 &&& (2147483647 : Int32)))])) _
  refine GoOn.step (fun tq kq => XS.iconst X0.here hx rfl (hb hby at_63) kq) ?_
  show GoOn p e below (s₁.setTop (mkF m 64 #[.val (.long p0), .second, .val (.long p1), .second, .val (.int p2), .val (.int u0), .val (.int u1), .val (.int u2), .val (.int u3), .val (.int v0), .val (.int v1), .val (.int v2), .val (.int v3), .unset, .unset, .unset, .unset, .unset, .unset, .unset, .unset] [(.int (5 : Int32)), (.int (p2 &&& (2147483647 : Int32)))])) _
  refine GoOn.step (fun tq kq => Jvm.RoadKit.iremM (g := (mkF m 64 #[.val (.long p0), .second, .val (.long p1), .second, .val (.int p2), .val (.int u0), .val (.int u1), .val (.int u2), .val (.int u3), .val (.int v0), .val (.int v1), .val (.int v2), .val (.int v3), .unset, .unset, .unset, .unset, .unset, .unset, .unset, .unset] [(.int (5 : Int32)), (.int (p2 &&& (2147483647 : Int32)))])) X0 hx rfl (hb hby at_64) rfl (by decide) kq) ?_
  show GoOn p e below (s₁.setTop (mkF m 65 #[.val (.long p0), .second, .val (.long p1), .second, .val (.int p2), .val (.int u0), .val (.int u1), .val (.int u2), .val (.int u3), .val (.int v0), .val (.int v1), .val (.int v2), .val (.int v3), .unset, .unset, .unset, .unset, .unset, .unset, .unset, .unset] [(.int ((p2 &&& (2147483647 : Int32)) % (5 : Int32)))])) _
  refine GoOn.step (fun tq kq => XS.istore X0.here hx rfl (hb hby at_65) rfl (l' := #[.val (.long p0), .second, .val (.long p1), .second, .val (.int p2), .val (.int u0), .val (.int u1), .val (.int u2), .val (.int u3), .val (.int v0), .val (.int v1), .val (.int v2), .val (.int v3), .val (.int ((p2 &&& (2147483647 : Int32)) % (5 : Int32))), .unset, .unset, .unset, .unset, .unset, .unset, .unset]) rfl kq) ?_
  show GoOn p e below (s₁.setTop (mkF m 67 #[.val (.long p0), .second, .val (.long p1), .second, .val (.int p2), .val (.int u0), .val (.int u1), .val (.int u2), .val (.int u3), .val (.int v0), .val (.int v1), .val (.int v2), .val (.int v3), .val (.int ((p2 &&& (2147483647 : Int32)) % (5 : Int32))), .unset, .unset, .unset, .unset, .unset, .unset, .unset] [])) _
  obtain ⟨f, hgf, hbf⟩ := own_nat5 p2
  rw [hgf]
  show GoOn p e below (s₁.setTop (mkF m 67 #[.val (.long p0), .second, .val (.long p1), .second, .val (.int p2), .val (.int u0), .val (.int u1), .val (.int u2), .val (.int u3), .val (.int v0), .val (.int v1), .val (.int v2), .val (.int v3), .val (.int (Int32.ofNat f)), .unset, .unset, .unset, .unset, .unset, .unset, .unset] [])) _
  refine GoOn.step (fun tq kq => XS.iload X0.here hx rfl (hb hby at_67) rfl kq) ?_
  show GoOn p e below (s₁.setTop (mkF m 69 #[.val (.long p0), .second, .val (.long p1), .second, .val (.int p2), .val (.int u0), .val (.int u1), .val (.int u2), .val (.int u3), .val (.int v0), .val (.int v1), .val (.int v2), .val (.int v3), .val (.int (Int32.ofNat f)), .unset, .unset, .unset, .unset, .unset, .unset, .unset] [(.int p2)])) _
  refine GoOn.step (fun tq kq => XS.bipush X0.here hx rfl (hb hby at_69) kq) ?_
  show GoOn p e below (s₁.setTop (mkF m 71 #[.val (.long p0), .second, .val (.long p1), .second, .val (.int p2), .val (.int u0), .val (.int u1), .val (.int u2), .val (.int u3), .val (.int v0), .val (.int v1), .val (.int v2), .val (.int v3), .val (.int (Int32.ofNat f)), .unset, .unset, .unset, .unset, .unset, .unset, .unset] [(.int (8 : Int32)), (.int p2)])) _
  refine GoOn.step (fun tq kq => XS.iushr X0.here hx rfl (hb hby at_71) rfl kq) ?_
  show GoOn p e below (s₁.setTop (mkF m 72 #[.val (.long p0), .second, .val (.long p1), .second, .val (.int p2), .val (.int u0), .val (.int u1), .val (.int u2), .val (.int u3), .val (.int v0), .val (.int v1), .val (.int v2), .val (.int v3), .val (.int (Int32.ofNat f)), .unset, .unset, .unset, .unset, .unset, .unset, .unset] [(.int (((p2).toUInt32 >>> ((8 : Int32) &&& 31).toUInt32).toInt32))])) _
  refine GoOn.step (fun tq kq => X0.ldcInt hx hown (mvT hZ (hw _ (List.mem_of_getElem? (i := 0) rfl))) (g := (mkF m 72 #[.val (.long p0), .second, .val (.long p1), .second, .val (.int p2), .val (.int u0), .val (.int u1), .val (.int u2), .val (.int u3), .val (.int v0), .val (.int v1), .val (.int v2), .val (.int v3), .val (.int (Int32.ofNat f)), .unset, .unset, .unset, .unset, .unset, .unset, .unset] [(.int (((p2).toUInt32 >>> ((8 : Int32) &&& 31).toUInt32).toInt32))])) rfl (hb hby at_72) _ kq) ?_
  show GoOn p e below (s₁.setTop (mkF m 74 #[.val (.long p0), .second, .val (.long p1), .second, .val (.int p2), .val (.int u0), .val (.int u1), .val (.int u2), .val (.int u3), .val (.int v0), .val (.int v1), .val (.int v2), .val (.int v3), .val (.int (Int32.ofNat f)), .unset, .unset, .unset, .unset, .unset, .unset, .unset] [(.int (2147483647 : Int32)), (.int (((p2).toUInt32 >>> ((8 : Int32) &&& 31).toUInt32).toInt32))])) _
  refine GoOn.step (fun tq kq => XS.iand X0.here hx rfl (hb hby at_74) rfl kq) ?_
  show GoOn p e below (s₁.setTop (mkF m 75 #[.val (.long p0), .second, .val (.long p1), .second, .val (.int p2), .val (.int u0), .val (.int u1), .val (.int u2), .val (.int u3), .val (.int v0), .val (.int v1), .val (.int v2), .val (.int v3), .val (.int (Int32.ofNat f)), .unset, .unset, .unset, .unset, .unset, .unset, .unset] [(.int ((((p2).toUInt32 >>> ((8 : Int32) &&& 31).toUInt32).toInt32) &&& (2147483647 : Int32)))])) _
  refine GoOn.step (fun tq kq => XS.iconst X0.here hx rfl (hb hby at_75) kq) ?_
  show GoOn p e below (s₁.setTop (mkF m 76 #[.val (.long p0), .second, .val (.long p1), .second, .val (.int p2), .val (.int u0), .val (.int u1), .val (.int u2), .val (.int u3), .val (.int v0), .val (.int v1), .val (.int v2), .val (.int v3), .val (.int (Int32.ofNat f)), .unset, .unset, .unset, .unset, .unset, .unset, .unset] [(.int (5 : Int32)), (.int ((((p2).toUInt32 >>> ((8 : Int32) &&& 31).toUInt32).toInt32) &&& (2147483647 : Int32)))])) _
  refine GoOn.step (fun tq kq => Jvm.RoadKit.iremM (g := (mkF m 76 #[.val (.long p0), .second, .val (.long p1), .second, .val (.int p2), .val (.int u0), .val (.int u1), .val (.int u2), .val (.int u3), .val (.int v0), .val (.int v1), .val (.int v2), .val (.int v3), .val (.int (Int32.ofNat f)), .unset, .unset, .unset, .unset, .unset, .unset, .unset] [(.int (5 : Int32)), (.int ((((p2).toUInt32 >>> ((8 : Int32) &&& 31).toUInt32).toInt32) &&& (2147483647 : Int32)))])) X0 hx rfl (hb hby at_76) rfl (by decide) kq) ?_
  show GoOn p e below (s₁.setTop (mkF m 77 #[.val (.long p0), .second, .val (.long p1), .second, .val (.int p2), .val (.int u0), .val (.int u1), .val (.int u2), .val (.int u3), .val (.int v0), .val (.int v1), .val (.int v2), .val (.int v3), .val (.int (Int32.ofNat f)), .unset, .unset, .unset, .unset, .unset, .unset, .unset] [(.int (((((p2).toUInt32 >>> ((8 : Int32) &&& 31).toUInt32).toInt32) &&& (2147483647 : Int32)) % (5 : Int32)))])) _
  refine GoOn.step (fun tq kq => XS.istore X0.here hx rfl (hb hby at_77) rfl (l' := #[.val (.long p0), .second, .val (.long p1), .second, .val (.int p2), .val (.int u0), .val (.int u1), .val (.int u2), .val (.int u3), .val (.int v0), .val (.int v1), .val (.int v2), .val (.int v3), .val (.int (Int32.ofNat f)), .val (.int (((((p2).toUInt32 >>> ((8 : Int32) &&& 31).toUInt32).toInt32) &&& (2147483647 : Int32)) % (5 : Int32))), .unset, .unset, .unset, .unset, .unset, .unset]) rfl kq) ?_
  show GoOn p e below (s₁.setTop (mkF m 79 #[.val (.long p0), .second, .val (.long p1), .second, .val (.int p2), .val (.int u0), .val (.int u1), .val (.int u2), .val (.int u3), .val (.int v0), .val (.int v1), .val (.int v2), .val (.int v3), .val (.int (Int32.ofNat f)), .val (.int (((((p2).toUInt32 >>> ((8 : Int32) &&& 31).toUInt32).toInt32) &&& (2147483647 : Int32)) % (5 : Int32))), .unset, .unset, .unset, .unset, .unset, .unset] [])) _
  obtain ⟨t, hgt, hbt⟩ := own_nat5 (((p2).toUInt32 >>> ((8 : Int32) &&& 31).toUInt32).toInt32)
  rw [hgt]
  show GoOn p e below (s₁.setTop (mkF m 79 #[.val (.long p0), .second, .val (.long p1), .second, .val (.int p2), .val (.int u0), .val (.int u1), .val (.int u2), .val (.int u3), .val (.int v0), .val (.int v1), .val (.int v2), .val (.int v3), .val (.int (Int32.ofNat f)), .val (.int (Int32.ofNat t)), .unset, .unset, .unset, .unset, .unset, .unset] [])) _
  have B0 := own_prod hu0 hv0
  have W0 : Rep (Jvm.FP.ddiv (Jvm.FP.i2d u0) (4679240012837945344 : UInt64)) u0.toInt := Rep.divK (Rep.i2d u0) (by omega)
  have Y0 : Rep (Jvm.FP.dmul (Jvm.FP.ddiv (Jvm.FP.i2d u0) (4679240012837945344 : UInt64)) (Jvm.FP.i2d v0)) (u0.toInt * v0.toInt) := Rep.mul W0 (Rep.i2d v0) (Nat.lt_of_le_of_lt B0 (by decide))
  have T0_ := own_lmul B0
  have B1 := own_prod hu1 hv1
  have W1 : Rep (Jvm.FP.ddiv (Jvm.FP.i2d u1) (4679240012837945344 : UInt64)) u1.toInt := Rep.divK (Rep.i2d u1) (by omega)
  have Y1 : Rep (Jvm.FP.dmul (Jvm.FP.ddiv (Jvm.FP.i2d u1) (4679240012837945344 : UInt64)) (Jvm.FP.i2d v1)) (u1.toInt * v1.toInt) := Rep.mul W1 (Rep.i2d v1) (Nat.lt_of_le_of_lt B1 (by decide))
  have T1_ := own_lmul B1
  have B2 := own_prod hu2 hv2
  have W2 : Rep (Jvm.FP.ddiv (Jvm.FP.i2d u2) (4679240012837945344 : UInt64)) u2.toInt := Rep.divK (Rep.i2d u2) (by omega)
  have Y2 : Rep (Jvm.FP.dmul (Jvm.FP.ddiv (Jvm.FP.i2d u2) (4679240012837945344 : UInt64)) (Jvm.FP.i2d v2)) (u2.toInt * v2.toInt) := Rep.mul W2 (Rep.i2d v2) (Nat.lt_of_le_of_lt B2 (by decide))
  have T2_ := own_lmul B2
  have B3 := own_prod hu3 hv3
  have W3 : Rep (Jvm.FP.ddiv (Jvm.FP.i2d u3) (4679240012837945344 : UInt64)) u3.toInt := Rep.divK (Rep.i2d u3) (by omega)
  have Y3 : Rep (Jvm.FP.dmul (Jvm.FP.ddiv (Jvm.FP.i2d u3) (4679240012837945344 : UInt64)) (Jvm.FP.i2d v3)) (u3.toInt * v3.toInt) := Rep.mul W3 (Rep.i2d v3) (Nat.lt_of_le_of_lt B3 (by decide))
  have T3_ := own_lmul B3
  refine GoOn.step (fun tq kq => XS.iconst X0.here hx rfl (hb hby at_79) kq) ?_
  show GoOn p e below (s₁.setTop (mkF m 80 #[.val (.long p0), .second, .val (.long p1), .second, .val (.int p2), .val (.int u0), .val (.int u1), .val (.int u2), .val (.int u3), .val (.int v0), .val (.int v1), .val (.int v2), .val (.int v3), .val (.int (Int32.ofNat f)), .val (.int (Int32.ofNat t)), .unset, .unset, .unset, .unset, .unset, .unset] [(.int (4 : Int32))])) _
  obtain ⟨T63, h63, k63, X63, e63, Ex63, A63, st63⟩ := newP X0 hx hZ (hw _ (List.mem_of_getElem? (i := 1) rfl)) e0 (g := (mkF m 80 #[.val (.long p0), .second, .val (.long p1), .second, .val (.int p2), .val (.int u0), .val (.int u1), .val (.int u2), .val (.int u3), .val (.int v0), .val (.int v1), .val (.int v2), .val (.int v3), .val (.int (Int32.ofNat f)), .val (.int (Int32.ofNat t)), .unset, .unset, .unset, .unset, .unset, .unset] [(.int (4 : Int32))])) rfl (hb hby at_80) rfl (by decide) (cap := 4) (by decide) (by decide) (by decide) (by decide)
  obtain ⟨wa, g63⟩ : ∃ z, z = h0.size := ⟨_, rfl⟩
  rw [← g63] at A63 st63
  have gn64 : n0 ≤ wa := Nat.le_trans Z0 (Nat.le_of_eq g63.symm)
  have sz65 : h0.size ≤ wa := Nat.le_trans K0.1 (Nat.le_of_eq g63.symm)
  have Kx63 : Keep h0 h63 [] := (Keep.refl _ _).ext Ex63
  refine GoOn.step st63 ?_
  have O66 : Old Z n0 h63 := O0.keep Kx63 all0
  have Z67 : n0 ≤ h63.size := Nat.le_trans Z0 Kx63.1
  have K68 : Keep h0 h63 [] := K0.trans Kx63 (all0)
  have V69 : Arv Z h63 wa k63 .double (4 : Int32) [] (.double (0 : UInt64)) := Arv.new A63 (by decide)
  show GoOn p e below (T63.setTop (mkF m 82 #[.val (.long p0), .second, .val (.long p1), .second, .val (.int p2), .val (.int u0), .val (.int u1), .val (.int u2), .val (.int u3), .val (.int v0), .val (.int v1), .val (.int v2), .val (.int v3), .val (.int (Int32.ofNat f)), .val (.int (Int32.ofNat t)), .unset, .unset, .unset, .unset, .unset, .unset] [(.ref wa)])) _
  refine GoOn.step (fun tq kq => XS.dup X63.here hx rfl (hb hby at_82) rfl rfl kq) ?_
  show GoOn p e below (T63.setTop (mkF m 83 #[.val (.long p0), .second, .val (.long p1), .second, .val (.int p2), .val (.int u0), .val (.int u1), .val (.int u2), .val (.int u3), .val (.int v0), .val (.int v1), .val (.int v2), .val (.int v3), .val (.int (Int32.ofNat f)), .val (.int (Int32.ofNat t)), .unset, .unset, .unset, .unset, .unset, .unset] [(.ref wa), (.ref wa)])) _
  refine GoOn.step (fun tq kq => XS.iconst X63.here hx rfl (hb hby at_83) kq) ?_
  show GoOn p e below (T63.setTop (mkF m 84 #[.val (.long p0), .second, .val (.long p1), .second, .val (.int p2), .val (.int u0), .val (.int u1), .val (.int u2), .val (.int u3), .val (.int v0), .val (.int v1), .val (.int v2), .val (.int v3), .val (.int (Int32.ofNat f)), .val (.int (Int32.ofNat t)), .unset, .unset, .unset, .unset, .unset, .unset] [(.int (0 : Int32)), (.ref wa), (.ref wa)])) _
  refine GoOn.step (fun tq kq => XS.iload X63.here hx rfl (hb hby at_84) rfl kq) ?_
  show GoOn p e below (T63.setTop (mkF m 86 #[.val (.long p0), .second, .val (.long p1), .second, .val (.int p2), .val (.int u0), .val (.int u1), .val (.int u2), .val (.int u3), .val (.int v0), .val (.int v1), .val (.int v2), .val (.int v3), .val (.int (Int32.ofNat f)), .val (.int (Int32.ofNat t)), .unset, .unset, .unset, .unset, .unset, .unset] [(.int u0), (.int (0 : Int32)), (.ref wa), (.ref wa)])) _
  refine GoOn.step (fun tq kq => XS.i2dS X63.here hx rfl (hb hby at_86) rfl (v := (Jvm.FP.i2d u0)) rfl kq) ?_
  show GoOn p e below (T63.setTop (mkF m 87 #[.val (.long p0), .second, .val (.long p1), .second, .val (.int p2), .val (.int u0), .val (.int u1), .val (.int u2), .val (.int u3), .val (.int v0), .val (.int v1), .val (.int v2), .val (.int v3), .val (.int (Int32.ofNat f)), .val (.int (Int32.ofNat t)), .unset, .unset, .unset, .unset, .unset, .unset] [(.double (Jvm.FP.i2d u0)), (.int (0 : Int32)), (.ref wa), (.ref wa)])) _
  refine GoOn.step (fun tq kq => X63.ldc2DoubleC hx hown (mvT hZ (hw _ (List.mem_of_getElem? (i := 2) rfl))) (g := (mkF m 87 #[.val (.long p0), .second, .val (.long p1), .second, .val (.int p2), .val (.int u0), .val (.int u1), .val (.int u2), .val (.int u3), .val (.int v0), .val (.int v1), .val (.int v2), .val (.int v3), .val (.int (Int32.ofNat f)), .val (.int (Int32.ofNat t)), .unset, .unset, .unset, .unset, .unset, .unset] [(.double (Jvm.FP.i2d u0)), (.int (0 : Int32)), (.ref wa), (.ref wa)])) rfl (hb hby at_87) _ kq) ?_
  show GoOn p e below (T63.setTop (mkF m 90 #[.val (.long p0), .second, .val (.long p1), .second, .val (.int p2), .val (.int u0), .val (.int u1), .val (.int u2), .val (.int u3), .val (.int v0), .val (.int v1), .val (.int v2), .val (.int v3), .val (.int (Int32.ofNat f)), .val (.int (Int32.ofNat t)), .unset, .unset, .unset, .unset, .unset, .unset] [(.double (4679240012837945344 : UInt64)), (.double (Jvm.FP.i2d u0)), (.int (0 : Int32)), (.ref wa), (.ref wa)])) _
  refine GoOn.step (fun tq kq => XS.ddivS X63.here hx rfl (hb hby at_90) rfl W0.no (v := (Jvm.FP.ddiv (Jvm.FP.i2d u0) (4679240012837945344 : UInt64))) rfl kq) ?_
  show GoOn p e below (T63.setTop (mkF m 91 #[.val (.long p0), .second, .val (.long p1), .second, .val (.int p2), .val (.int u0), .val (.int u1), .val (.int u2), .val (.int u3), .val (.int v0), .val (.int v1), .val (.int v2), .val (.int v3), .val (.int (Int32.ofNat f)), .val (.int (Int32.ofNat t)), .unset, .unset, .unset, .unset, .unset, .unset] [(.double (Jvm.FP.ddiv (Jvm.FP.i2d u0) (4679240012837945344 : UInt64))), (.int (0 : Int32)), (.ref wa), (.ref wa)])) _
  have V71 : Arv Z h63 wa k63 .double (4 : Int32) [(.double (0 : UInt64))] (.double (0 : UInt64)) := V69.pad (pad_rep [] (.double (0 : UInt64)) 1)
  obtain ⟨cq72, Aq72, qq72, Sq72, Mq72, Hq72, Uq72⟩ := id V71
  obtain ⟨T70, h70, X70, e70, W70, st70⟩ := stD X63 hx hZ e63 Aq72 (j := (0 : Int32)) (inb_of Sq72 ⟨(by decide : ¬ ((0 : Int32) < (0 : Int32))), (by decide : (0 : Int32) < (4 : Int32))⟩) (g := (mkF m 91 #[.val (.long p0), .second, .val (.long p1), .second, .val (.int p2), .val (.int u0), .val (.int u1), .val (.int u2), .val (.int u3), .val (.int v0), .val (.int v1), .val (.int v2), .val (.int v3), .val (.int (Int32.ofNat f)), .val (.int (Int32.ofNat t)), .unset, .unset, .unset, .unset, .unset, .unset] [(.double (Jvm.FP.ddiv (Jvm.FP.i2d u0) (4679240012837945344 : UInt64))), (.int (0 : Int32)), (.ref wa), (.ref wa)])) rfl rfl (hb hby at_91)
  have N73 := Fr.snoc X70 N0 gn64
  have V74 : Arv Z h70 wa k63 .double (4 : Int32) [(.double (Jvm.FP.ddiv (Jvm.FP.i2d u0) (4679240012837945344 : UInt64)))] (.double (0 : UInt64)) := Arv.set Aq72 qq72 Sq72 Mq72 Hq72 Uq72 rfl W70 0 rfl (Nat.le_of_ble_eq_true rfl)
  have Kx70 : Keep h63 h70 [wa] := Keep.of_wr W70
  refine GoOn.step st70 ?_
  have O75 : Old Z n0 h70 := O66.keep Kx70 (allS gn64 all0)
  have Z76 : n0 ≤ h70.size := Nat.le_trans Z67 Kx70.1
  have K77 : Keep h0 h70 [] := K68.trans Kx70 ((allS (Or.inr sz65) all0))
  show GoOn p e below (T70.setTop (mkF m 92 #[.val (.long p0), .second, .val (.long p1), .second, .val (.int p2), .val (.int u0), .val (.int u1), .val (.int u2), .val (.int u3), .val (.int v0), .val (.int v1), .val (.int v2), .val (.int v3), .val (.int (Int32.ofNat f)), .val (.int (Int32.ofNat t)), .unset, .unset, .unset, .unset, .unset, .unset] [(.ref wa)])) _
  refine GoOn.step (fun tq kq => XS.dup X70.here hx rfl (hb hby at_92) rfl rfl kq) ?_
  show GoOn p e below (T70.setTop (mkF m 93 #[.val (.long p0), .second, .val (.long p1), .second, .val (.int p2), .val (.int u0), .val (.int u1), .val (.int u2), .val (.int u3), .val (.int v0), .val (.int v1), .val (.int v2), .val (.int v3), .val (.int (Int32.ofNat f)), .val (.int (Int32.ofNat t)), .unset, .unset, .unset, .unset, .unset, .unset] [(.ref wa), (.ref wa)])) _
  refine GoOn.step (fun tq kq => XS.iconst X70.here hx rfl (hb hby at_93) kq) ?_
  show GoOn p e below (T70.setTop (mkF m 94 #[.val (.long p0), .second, .val (.long p1), .second, .val (.int p2), .val (.int u0), .val (.int u1), .val (.int u2), .val (.int u3), .val (.int v0), .val (.int v1), .val (.int v2), .val (.int v3), .val (.int (Int32.ofNat f)), .val (.int (Int32.ofNat t)), .unset, .unset, .unset, .unset, .unset, .unset] [(.int (1 : Int32)), (.ref wa), (.ref wa)])) _
  refine GoOn.step (fun tq kq => XS.iload X70.here hx rfl (hb hby at_94) rfl kq) ?_
  show GoOn p e below (T70.setTop (mkF m 96 #[.val (.long p0), .second, .val (.long p1), .second, .val (.int p2), .val (.int u0), .val (.int u1), .val (.int u2), .val (.int u3), .val (.int v0), .val (.int v1), .val (.int v2), .val (.int v3), .val (.int (Int32.ofNat f)), .val (.int (Int32.ofNat t)), .unset, .unset, .unset, .unset, .unset, .unset] [(.int u1), (.int (1 : Int32)), (.ref wa), (.ref wa)])) _
  refine GoOn.step (fun tq kq => XS.i2dS X70.here hx rfl (hb hby at_96) rfl (v := (Jvm.FP.i2d u1)) rfl kq) ?_
  show GoOn p e below (T70.setTop (mkF m 97 #[.val (.long p0), .second, .val (.long p1), .second, .val (.int p2), .val (.int u0), .val (.int u1), .val (.int u2), .val (.int u3), .val (.int v0), .val (.int v1), .val (.int v2), .val (.int v3), .val (.int (Int32.ofNat f)), .val (.int (Int32.ofNat t)), .unset, .unset, .unset, .unset, .unset, .unset] [(.double (Jvm.FP.i2d u1)), (.int (1 : Int32)), (.ref wa), (.ref wa)])) _
  refine GoOn.step (fun tq kq => X70.ldc2DoubleC hx hown (mvT hZ (hw _ (List.mem_of_getElem? (i := 2) rfl))) (g := (mkF m 97 #[.val (.long p0), .second, .val (.long p1), .second, .val (.int p2), .val (.int u0), .val (.int u1), .val (.int u2), .val (.int u3), .val (.int v0), .val (.int v1), .val (.int v2), .val (.int v3), .val (.int (Int32.ofNat f)), .val (.int (Int32.ofNat t)), .unset, .unset, .unset, .unset, .unset, .unset] [(.double (Jvm.FP.i2d u1)), (.int (1 : Int32)), (.ref wa), (.ref wa)])) rfl (hb hby at_97) _ kq) ?_
  show GoOn p e below (T70.setTop (mkF m 100 #[.val (.long p0), .second, .val (.long p1), .second, .val (.int p2), .val (.int u0), .val (.int u1), .val (.int u2), .val (.int u3), .val (.int v0), .val (.int v1), .val (.int v2), .val (.int v3), .val (.int (Int32.ofNat f)), .val (.int (Int32.ofNat t)), .unset, .unset, .unset, .unset, .unset, .unset] [(.double (4679240012837945344 : UInt64)), (.double (Jvm.FP.i2d u1)), (.int (1 : Int32)), (.ref wa), (.ref wa)])) _
  refine GoOn.step (fun tq kq => XS.ddivS X70.here hx rfl (hb hby at_100) rfl W1.no (v := (Jvm.FP.ddiv (Jvm.FP.i2d u1) (4679240012837945344 : UInt64))) rfl kq) ?_
  show GoOn p e below (T70.setTop (mkF m 101 #[.val (.long p0), .second, .val (.long p1), .second, .val (.int p2), .val (.int u0), .val (.int u1), .val (.int u2), .val (.int u3), .val (.int v0), .val (.int v1), .val (.int v2), .val (.int v3), .val (.int (Int32.ofNat f)), .val (.int (Int32.ofNat t)), .unset, .unset, .unset, .unset, .unset, .unset] [(.double (Jvm.FP.ddiv (Jvm.FP.i2d u1) (4679240012837945344 : UInt64))), (.int (1 : Int32)), (.ref wa), (.ref wa)])) _
  have V79 : Arv Z h70 wa k63 .double (4 : Int32) [(.double (Jvm.FP.ddiv (Jvm.FP.i2d u0) (4679240012837945344 : UInt64))), (.double (0 : UInt64))] (.double (0 : UInt64)) := V74.pad (pad_rep [(.double (Jvm.FP.ddiv (Jvm.FP.i2d u0) (4679240012837945344 : UInt64)))] (.double (0 : UInt64)) 1)
  obtain ⟨cq80, Aq80, qq80, Sq80, Mq80, Hq80, Uq80⟩ := id V79
  obtain ⟨T78, h78, X78, e78, W78, st78⟩ := stD X70 hx hZ e70 Aq80 (j := (1 : Int32)) (inb_of Sq80 ⟨(by decide : ¬ ((1 : Int32) < (0 : Int32))), (by decide : (1 : Int32) < (4 : Int32))⟩) (g := (mkF m 101 #[.val (.long p0), .second, .val (.long p1), .second, .val (.int p2), .val (.int u0), .val (.int u1), .val (.int u2), .val (.int u3), .val (.int v0), .val (.int v1), .val (.int v2), .val (.int v3), .val (.int (Int32.ofNat f)), .val (.int (Int32.ofNat t)), .unset, .unset, .unset, .unset, .unset, .unset] [(.double (Jvm.FP.ddiv (Jvm.FP.i2d u1) (4679240012837945344 : UInt64))), (.int (1 : Int32)), (.ref wa), (.ref wa)])) rfl rfl (hb hby at_101)
  have N81 := Fr.snoc X78 N73 gn64
  have V82 : Arv Z h78 wa k63 .double (4 : Int32) [(.double (Jvm.FP.ddiv (Jvm.FP.i2d u0) (4679240012837945344 : UInt64))), (.double (Jvm.FP.ddiv (Jvm.FP.i2d u1) (4679240012837945344 : UInt64)))] (.double (0 : UInt64)) := Arv.set Aq80 qq80 Sq80 Mq80 Hq80 Uq80 rfl W78 1 rfl (Nat.le_of_ble_eq_true rfl)
  have Kx78 : Keep h70 h78 [wa] := Keep.of_wr W78
  refine GoOn.step st78 ?_
  have O83 : Old Z n0 h78 := O75.keep Kx78 (allS gn64 all0)
  have Z84 : n0 ≤ h78.size := Nat.le_trans Z76 Kx78.1
  have K85 : Keep h0 h78 [] := K77.trans Kx78 ((allS (Or.inr sz65) all0))
  show GoOn p e below (T78.setTop (mkF m 102 #[.val (.long p0), .second, .val (.long p1), .second, .val (.int p2), .val (.int u0), .val (.int u1), .val (.int u2), .val (.int u3), .val (.int v0), .val (.int v1), .val (.int v2), .val (.int v3), .val (.int (Int32.ofNat f)), .val (.int (Int32.ofNat t)), .unset, .unset, .unset, .unset, .unset, .unset] [(.ref wa)])) _
  refine GoOn.step (fun tq kq => XS.dup X78.here hx rfl (hb hby at_102) rfl rfl kq) ?_
  show GoOn p e below (T78.setTop (mkF m 103 #[.val (.long p0), .second, .val (.long p1), .second, .val (.int p2), .val (.int u0), .val (.int u1), .val (.int u2), .val (.int u3), .val (.int v0), .val (.int v1), .val (.int v2), .val (.int v3), .val (.int (Int32.ofNat f)), .val (.int (Int32.ofNat t)), .unset, .unset, .unset, .unset, .unset, .unset] [(.ref wa), (.ref wa)])) _
  refine GoOn.step (fun tq kq => XS.iconst X78.here hx rfl (hb hby at_103) kq) ?_
  show GoOn p e below (T78.setTop (mkF m 104 #[.val (.long p0), .second, .val (.long p1), .second, .val (.int p2), .val (.int u0), .val (.int u1), .val (.int u2), .val (.int u3), .val (.int v0), .val (.int v1), .val (.int v2), .val (.int v3), .val (.int (Int32.ofNat f)), .val (.int (Int32.ofNat t)), .unset, .unset, .unset, .unset, .unset, .unset] [(.int (2 : Int32)), (.ref wa), (.ref wa)])) _
  refine GoOn.step (fun tq kq => XS.iload X78.here hx rfl (hb hby at_104) rfl kq) ?_
  show GoOn p e below (T78.setTop (mkF m 106 #[.val (.long p0), .second, .val (.long p1), .second, .val (.int p2), .val (.int u0), .val (.int u1), .val (.int u2), .val (.int u3), .val (.int v0), .val (.int v1), .val (.int v2), .val (.int v3), .val (.int (Int32.ofNat f)), .val (.int (Int32.ofNat t)), .unset, .unset, .unset, .unset, .unset, .unset] [(.int u2), (.int (2 : Int32)), (.ref wa), (.ref wa)])) _
  refine GoOn.step (fun tq kq => XS.i2dS X78.here hx rfl (hb hby at_106) rfl (v := (Jvm.FP.i2d u2)) rfl kq) ?_
  show GoOn p e below (T78.setTop (mkF m 107 #[.val (.long p0), .second, .val (.long p1), .second, .val (.int p2), .val (.int u0), .val (.int u1), .val (.int u2), .val (.int u3), .val (.int v0), .val (.int v1), .val (.int v2), .val (.int v3), .val (.int (Int32.ofNat f)), .val (.int (Int32.ofNat t)), .unset, .unset, .unset, .unset, .unset, .unset] [(.double (Jvm.FP.i2d u2)), (.int (2 : Int32)), (.ref wa), (.ref wa)])) _
  refine GoOn.step (fun tq kq => X78.ldc2DoubleC hx hown (mvT hZ (hw _ (List.mem_of_getElem? (i := 2) rfl))) (g := (mkF m 107 #[.val (.long p0), .second, .val (.long p1), .second, .val (.int p2), .val (.int u0), .val (.int u1), .val (.int u2), .val (.int u3), .val (.int v0), .val (.int v1), .val (.int v2), .val (.int v3), .val (.int (Int32.ofNat f)), .val (.int (Int32.ofNat t)), .unset, .unset, .unset, .unset, .unset, .unset] [(.double (Jvm.FP.i2d u2)), (.int (2 : Int32)), (.ref wa), (.ref wa)])) rfl (hb hby at_107) _ kq) ?_
  show GoOn p e below (T78.setTop (mkF m 110 #[.val (.long p0), .second, .val (.long p1), .second, .val (.int p2), .val (.int u0), .val (.int u1), .val (.int u2), .val (.int u3), .val (.int v0), .val (.int v1), .val (.int v2), .val (.int v3), .val (.int (Int32.ofNat f)), .val (.int (Int32.ofNat t)), .unset, .unset, .unset, .unset, .unset, .unset] [(.double (4679240012837945344 : UInt64)), (.double (Jvm.FP.i2d u2)), (.int (2 : Int32)), (.ref wa), (.ref wa)])) _
  refine GoOn.step (fun tq kq => XS.ddivS X78.here hx rfl (hb hby at_110) rfl W2.no (v := (Jvm.FP.ddiv (Jvm.FP.i2d u2) (4679240012837945344 : UInt64))) rfl kq) ?_
  show GoOn p e below (T78.setTop (mkF m 111 #[.val (.long p0), .second, .val (.long p1), .second, .val (.int p2), .val (.int u0), .val (.int u1), .val (.int u2), .val (.int u3), .val (.int v0), .val (.int v1), .val (.int v2), .val (.int v3), .val (.int (Int32.ofNat f)), .val (.int (Int32.ofNat t)), .unset, .unset, .unset, .unset, .unset, .unset] [(.double (Jvm.FP.ddiv (Jvm.FP.i2d u2) (4679240012837945344 : UInt64))), (.int (2 : Int32)), (.ref wa), (.ref wa)])) _
  have V87 : Arv Z h78 wa k63 .double (4 : Int32) [(.double (Jvm.FP.ddiv (Jvm.FP.i2d u0) (4679240012837945344 : UInt64))), (.double (Jvm.FP.ddiv (Jvm.FP.i2d u1) (4679240012837945344 : UInt64))), (.double (0 : UInt64))] (.double (0 : UInt64)) := V82.pad (pad_rep [(.double (Jvm.FP.ddiv (Jvm.FP.i2d u0) (4679240012837945344 : UInt64))), (.double (Jvm.FP.ddiv (Jvm.FP.i2d u1) (4679240012837945344 : UInt64)))] (.double (0 : UInt64)) 1)
  obtain ⟨cq88, Aq88, qq88, Sq88, Mq88, Hq88, Uq88⟩ := id V87
  obtain ⟨T86, h86, X86, e86, W86, st86⟩ := stD X78 hx hZ e78 Aq88 (j := (2 : Int32)) (inb_of Sq88 ⟨(by decide : ¬ ((2 : Int32) < (0 : Int32))), (by decide : (2 : Int32) < (4 : Int32))⟩) (g := (mkF m 111 #[.val (.long p0), .second, .val (.long p1), .second, .val (.int p2), .val (.int u0), .val (.int u1), .val (.int u2), .val (.int u3), .val (.int v0), .val (.int v1), .val (.int v2), .val (.int v3), .val (.int (Int32.ofNat f)), .val (.int (Int32.ofNat t)), .unset, .unset, .unset, .unset, .unset, .unset] [(.double (Jvm.FP.ddiv (Jvm.FP.i2d u2) (4679240012837945344 : UInt64))), (.int (2 : Int32)), (.ref wa), (.ref wa)])) rfl rfl (hb hby at_111)
  have N89 := Fr.snoc X86 N81 gn64
  have V90 : Arv Z h86 wa k63 .double (4 : Int32) [(.double (Jvm.FP.ddiv (Jvm.FP.i2d u0) (4679240012837945344 : UInt64))), (.double (Jvm.FP.ddiv (Jvm.FP.i2d u1) (4679240012837945344 : UInt64))), (.double (Jvm.FP.ddiv (Jvm.FP.i2d u2) (4679240012837945344 : UInt64)))] (.double (0 : UInt64)) := Arv.set Aq88 qq88 Sq88 Mq88 Hq88 Uq88 rfl W86 2 rfl (Nat.le_of_ble_eq_true rfl)
  have Kx86 : Keep h78 h86 [wa] := Keep.of_wr W86
  refine GoOn.step st86 ?_
  have O91 : Old Z n0 h86 := O83.keep Kx86 (allS gn64 all0)
  have Z92 : n0 ≤ h86.size := Nat.le_trans Z84 Kx86.1
  have K93 : Keep h0 h86 [] := K85.trans Kx86 ((allS (Or.inr sz65) all0))
  show GoOn p e below (T86.setTop (mkF m 112 #[.val (.long p0), .second, .val (.long p1), .second, .val (.int p2), .val (.int u0), .val (.int u1), .val (.int u2), .val (.int u3), .val (.int v0), .val (.int v1), .val (.int v2), .val (.int v3), .val (.int (Int32.ofNat f)), .val (.int (Int32.ofNat t)), .unset, .unset, .unset, .unset, .unset, .unset] [(.ref wa)])) _
  refine GoOn.step (fun tq kq => XS.dup X86.here hx rfl (hb hby at_112) rfl rfl kq) ?_
  show GoOn p e below (T86.setTop (mkF m 113 #[.val (.long p0), .second, .val (.long p1), .second, .val (.int p2), .val (.int u0), .val (.int u1), .val (.int u2), .val (.int u3), .val (.int v0), .val (.int v1), .val (.int v2), .val (.int v3), .val (.int (Int32.ofNat f)), .val (.int (Int32.ofNat t)), .unset, .unset, .unset, .unset, .unset, .unset] [(.ref wa), (.ref wa)])) _
  refine GoOn.step (fun tq kq => XS.iconst X86.here hx rfl (hb hby at_113) kq) ?_
  show GoOn p e below (T86.setTop (mkF m 114 #[.val (.long p0), .second, .val (.long p1), .second, .val (.int p2), .val (.int u0), .val (.int u1), .val (.int u2), .val (.int u3), .val (.int v0), .val (.int v1), .val (.int v2), .val (.int v3), .val (.int (Int32.ofNat f)), .val (.int (Int32.ofNat t)), .unset, .unset, .unset, .unset, .unset, .unset] [(.int (3 : Int32)), (.ref wa), (.ref wa)])) _
  refine GoOn.step (fun tq kq => XS.iload X86.here hx rfl (hb hby at_114) rfl kq) ?_
  show GoOn p e below (T86.setTop (mkF m 116 #[.val (.long p0), .second, .val (.long p1), .second, .val (.int p2), .val (.int u0), .val (.int u1), .val (.int u2), .val (.int u3), .val (.int v0), .val (.int v1), .val (.int v2), .val (.int v3), .val (.int (Int32.ofNat f)), .val (.int (Int32.ofNat t)), .unset, .unset, .unset, .unset, .unset, .unset] [(.int u3), (.int (3 : Int32)), (.ref wa), (.ref wa)])) _
  refine GoOn.step (fun tq kq => XS.i2dS X86.here hx rfl (hb hby at_116) rfl (v := (Jvm.FP.i2d u3)) rfl kq) ?_
  show GoOn p e below (T86.setTop (mkF m 117 #[.val (.long p0), .second, .val (.long p1), .second, .val (.int p2), .val (.int u0), .val (.int u1), .val (.int u2), .val (.int u3), .val (.int v0), .val (.int v1), .val (.int v2), .val (.int v3), .val (.int (Int32.ofNat f)), .val (.int (Int32.ofNat t)), .unset, .unset, .unset, .unset, .unset, .unset] [(.double (Jvm.FP.i2d u3)), (.int (3 : Int32)), (.ref wa), (.ref wa)])) _
  refine GoOn.step (fun tq kq => X86.ldc2DoubleC hx hown (mvT hZ (hw _ (List.mem_of_getElem? (i := 2) rfl))) (g := (mkF m 117 #[.val (.long p0), .second, .val (.long p1), .second, .val (.int p2), .val (.int u0), .val (.int u1), .val (.int u2), .val (.int u3), .val (.int v0), .val (.int v1), .val (.int v2), .val (.int v3), .val (.int (Int32.ofNat f)), .val (.int (Int32.ofNat t)), .unset, .unset, .unset, .unset, .unset, .unset] [(.double (Jvm.FP.i2d u3)), (.int (3 : Int32)), (.ref wa), (.ref wa)])) rfl (hb hby at_117) _ kq) ?_
  show GoOn p e below (T86.setTop (mkF m 120 #[.val (.long p0), .second, .val (.long p1), .second, .val (.int p2), .val (.int u0), .val (.int u1), .val (.int u2), .val (.int u3), .val (.int v0), .val (.int v1), .val (.int v2), .val (.int v3), .val (.int (Int32.ofNat f)), .val (.int (Int32.ofNat t)), .unset, .unset, .unset, .unset, .unset, .unset] [(.double (4679240012837945344 : UInt64)), (.double (Jvm.FP.i2d u3)), (.int (3 : Int32)), (.ref wa), (.ref wa)])) _
  refine GoOn.step (fun tq kq => XS.ddivS X86.here hx rfl (hb hby at_120) rfl W3.no (v := (Jvm.FP.ddiv (Jvm.FP.i2d u3) (4679240012837945344 : UInt64))) rfl kq) ?_
  show GoOn p e below (T86.setTop (mkF m 121 #[.val (.long p0), .second, .val (.long p1), .second, .val (.int p2), .val (.int u0), .val (.int u1), .val (.int u2), .val (.int u3), .val (.int v0), .val (.int v1), .val (.int v2), .val (.int v3), .val (.int (Int32.ofNat f)), .val (.int (Int32.ofNat t)), .unset, .unset, .unset, .unset, .unset, .unset] [(.double (Jvm.FP.ddiv (Jvm.FP.i2d u3) (4679240012837945344 : UInt64))), (.int (3 : Int32)), (.ref wa), (.ref wa)])) _
  have V95 : Arv Z h86 wa k63 .double (4 : Int32) [(.double (Jvm.FP.ddiv (Jvm.FP.i2d u0) (4679240012837945344 : UInt64))), (.double (Jvm.FP.ddiv (Jvm.FP.i2d u1) (4679240012837945344 : UInt64))), (.double (Jvm.FP.ddiv (Jvm.FP.i2d u2) (4679240012837945344 : UInt64))), (.double (0 : UInt64))] (.double (0 : UInt64)) := V90.pad (pad_rep [(.double (Jvm.FP.ddiv (Jvm.FP.i2d u0) (4679240012837945344 : UInt64))), (.double (Jvm.FP.ddiv (Jvm.FP.i2d u1) (4679240012837945344 : UInt64))), (.double (Jvm.FP.ddiv (Jvm.FP.i2d u2) (4679240012837945344 : UInt64)))] (.double (0 : UInt64)) 1)
  obtain ⟨cq96, Aq96, qq96, Sq96, Mq96, Hq96, Uq96⟩ := id V95
  obtain ⟨T94, h94, X94, e94, W94, st94⟩ := stD X86 hx hZ e86 Aq96 (j := (3 : Int32)) (inb_of Sq96 ⟨(by decide : ¬ ((3 : Int32) < (0 : Int32))), (by decide : (3 : Int32) < (4 : Int32))⟩) (g := (mkF m 121 #[.val (.long p0), .second, .val (.long p1), .second, .val (.int p2), .val (.int u0), .val (.int u1), .val (.int u2), .val (.int u3), .val (.int v0), .val (.int v1), .val (.int v2), .val (.int v3), .val (.int (Int32.ofNat f)), .val (.int (Int32.ofNat t)), .unset, .unset, .unset, .unset, .unset, .unset] [(.double (Jvm.FP.ddiv (Jvm.FP.i2d u3) (4679240012837945344 : UInt64))), (.int (3 : Int32)), (.ref wa), (.ref wa)])) rfl rfl (hb hby at_121)
  have N97 := Fr.snoc X94 N89 gn64
  have V98 : Arv Z h94 wa k63 .double (4 : Int32) [(.double (Jvm.FP.ddiv (Jvm.FP.i2d u0) (4679240012837945344 : UInt64))), (.double (Jvm.FP.ddiv (Jvm.FP.i2d u1) (4679240012837945344 : UInt64))), (.double (Jvm.FP.ddiv (Jvm.FP.i2d u2) (4679240012837945344 : UInt64))), (.double (Jvm.FP.ddiv (Jvm.FP.i2d u3) (4679240012837945344 : UInt64)))] (.double (0 : UInt64)) := Arv.set Aq96 qq96 Sq96 Mq96 Hq96 Uq96 rfl W94 3 rfl (Nat.le_of_ble_eq_true rfl)
  have Kx94 : Keep h86 h94 [wa] := Keep.of_wr W94
  refine GoOn.step st94 ?_
  have O99 : Old Z n0 h94 := O91.keep Kx94 (allS gn64 all0)
  have Z100 : n0 ≤ h94.size := Nat.le_trans Z92 Kx94.1
  have K101 : Keep h0 h94 [] := K93.trans Kx94 ((allS (Or.inr sz65) all0))
  show GoOn p e below (T94.setTop (mkF m 122 #[.val (.long p0), .second, .val (.long p1), .second, .val (.int p2), .val (.int u0), .val (.int u1), .val (.int u2), .val (.int u3), .val (.int v0), .val (.int v1), .val (.int v2), .val (.int v3), .val (.int (Int32.ofNat f)), .val (.int (Int32.ofNat t)), .unset, .unset, .unset, .unset, .unset, .unset] [(.ref wa)])) _
  refine GoOn.step (fun tq kq => XS.astore X94.here hx rfl (hb hby at_122) rfl rfl (l' := #[.val (.long p0), .second, .val (.long p1), .second, .val (.int p2), .val (.int u0), .val (.int u1), .val (.int u2), .val (.int u3), .val (.int v0), .val (.int v1), .val (.int v2), .val (.int v3), .val (.int (Int32.ofNat f)), .val (.int (Int32.ofNat t)), .val (.ref wa), .unset, .unset, .unset, .unset, .unset]) rfl kq) ?_
  show GoOn p e below (T94.setTop (mkF m 124 #[.val (.long p0), .second, .val (.long p1), .second, .val (.int p2), .val (.int u0), .val (.int u1), .val (.int u2), .val (.int u3), .val (.int v0), .val (.int v1), .val (.int v2), .val (.int v3), .val (.int (Int32.ofNat f)), .val (.int (Int32.ofNat t)), .val (.ref wa), .unset, .unset, .unset, .unset, .unset] [])) _
  refine GoOn.step (fun tq kq => XS.iconst X94.here hx rfl (hb hby at_124) kq) ?_
  show GoOn p e below (T94.setTop (mkF m 125 #[.val (.long p0), .second, .val (.long p1), .second, .val (.int p2), .val (.int u0), .val (.int u1), .val (.int u2), .val (.int u3), .val (.int v0), .val (.int v1), .val (.int v2), .val (.int v3), .val (.int (Int32.ofNat f)), .val (.int (Int32.ofNat t)), .val (.ref wa), .unset, .unset, .unset, .unset, .unset] [(.int (4 : Int32))])) _
  obtain ⟨T102, h102, k102, X102, e102, Ex102, A102, st102⟩ := newP X94 hx hZ (hw _ (List.mem_of_getElem? (i := 1) rfl)) e94 (g := (mkF m 125 #[.val (.long p0), .second, .val (.long p1), .second, .val (.int p2), .val (.int u0), .val (.int u1), .val (.int u2), .val (.int u3), .val (.int v0), .val (.int v1), .val (.int v2), .val (.int v3), .val (.int (Int32.ofNat f)), .val (.int (Int32.ofNat t)), .val (.ref wa), .unset, .unset, .unset, .unset, .unset] [(.int (4 : Int32))])) rfl (hb hby at_125) rfl (by decide) (cap := 4) (by decide) (by decide) (by decide) (by decide)
  obtain ⟨va, g102⟩ : ∃ z, z = h94.size := ⟨_, rfl⟩
  rw [← g102] at A102 st102
  have gn103 : n0 ≤ va := Nat.le_trans Z100 (Nat.le_of_eq g102.symm)
  have sz104 : h0.size ≤ va := Nat.le_trans K101.1 (Nat.le_of_eq g102.symm)
  have ne105 : wa ≠ va := Nat.ne_of_lt (Nat.lt_of_lt_of_le V98.lt (Nat.le_of_eq g102.symm))
  have Kx102 : Keep h94 h102 [] := (Keep.refl _ _).ext Ex102
  refine GoOn.step st102 ?_
  have O106 : Old Z n0 h102 := O99.keep Kx102 all0
  have Z107 : n0 ≤ h102.size := Nat.le_trans Z100 Kx102.1
  have K108 : Keep h0 h102 [] := K101.trans Kx102 (all0)
  have V109 : Arv Z h102 wa k63 .double (4 : Int32) [(.double (Jvm.FP.ddiv (Jvm.FP.i2d u0) (4679240012837945344 : UInt64))), (.double (Jvm.FP.ddiv (Jvm.FP.i2d u1) (4679240012837945344 : UInt64))), (.double (Jvm.FP.ddiv (Jvm.FP.i2d u2) (4679240012837945344 : UInt64))), (.double (Jvm.FP.ddiv (Jvm.FP.i2d u3) (4679240012837945344 : UInt64)))] (.double (0 : UInt64)) := V98.keep Kx102 nin0
  have V110 : Arv Z h102 va k102 .double (4 : Int32) [] (.double (0 : UInt64)) := Arv.new A102 (by decide)
  show GoOn p e below (T102.setTop (mkF m 127 #[.val (.long p0), .second, .val (.long p1), .second, .val (.int p2), .val (.int u0), .val (.int u1), .val (.int u2), .val (.int u3), .val (.int v0), .val (.int v1), .val (.int v2), .val (.int v3), .val (.int (Int32.ofNat f)), .val (.int (Int32.ofNat t)), .val (.ref wa), .unset, .unset, .unset, .unset, .unset] [(.ref va)])) _
  refine GoOn.step (fun tq kq => XS.dup X102.here hx rfl (hb hby at_127) rfl rfl kq) ?_
  show GoOn p e below (T102.setTop (mkF m 128 #[.val (.long p0), .second, .val (.long p1), .second, .val (.int p2), .val (.int u0), .val (.int u1), .val (.int u2), .val (.int u3), .val (.int v0), .val (.int v1), .val (.int v2), .val (.int v3), .val (.int (Int32.ofNat f)), .val (.int (Int32.ofNat t)), .val (.ref wa), .unset, .unset, .unset, .unset, .unset] [(.ref va), (.ref va)])) _
  refine GoOn.step (fun tq kq => XS.iconst X102.here hx rfl (hb hby at_128) kq) ?_
  show GoOn p e below (T102.setTop (mkF m 129 #[.val (.long p0), .second, .val (.long p1), .second, .val (.int p2), .val (.int u0), .val (.int u1), .val (.int u2), .val (.int u3), .val (.int v0), .val (.int v1), .val (.int v2), .val (.int v3), .val (.int (Int32.ofNat f)), .val (.int (Int32.ofNat t)), .val (.ref wa), .unset, .unset, .unset, .unset, .unset] [(.int (0 : Int32)), (.ref va), (.ref va)])) _
  refine GoOn.step (fun tq kq => XS.iload X102.here hx rfl (hb hby at_129) rfl kq) ?_
  show GoOn p e below (T102.setTop (mkF m 131 #[.val (.long p0), .second, .val (.long p1), .second, .val (.int p2), .val (.int u0), .val (.int u1), .val (.int u2), .val (.int u3), .val (.int v0), .val (.int v1), .val (.int v2), .val (.int v3), .val (.int (Int32.ofNat f)), .val (.int (Int32.ofNat t)), .val (.ref wa), .unset, .unset, .unset, .unset, .unset] [(.int v0), (.int (0 : Int32)), (.ref va), (.ref va)])) _
  refine GoOn.step (fun tq kq => XS.i2dS X102.here hx rfl (hb hby at_131) rfl (v := (Jvm.FP.i2d v0)) rfl kq) ?_
  show GoOn p e below (T102.setTop (mkF m 132 #[.val (.long p0), .second, .val (.long p1), .second, .val (.int p2), .val (.int u0), .val (.int u1), .val (.int u2), .val (.int u3), .val (.int v0), .val (.int v1), .val (.int v2), .val (.int v3), .val (.int (Int32.ofNat f)), .val (.int (Int32.ofNat t)), .val (.ref wa), .unset, .unset, .unset, .unset, .unset] [(.double (Jvm.FP.i2d v0)), (.int (0 : Int32)), (.ref va), (.ref va)])) _
  have V112 : Arv Z h102 va k102 .double (4 : Int32) [(.double (0 : UInt64))] (.double (0 : UInt64)) := V110.pad (pad_rep [] (.double (0 : UInt64)) 1)
  obtain ⟨cq113, Aq113, qq113, Sq113, Mq113, Hq113, Uq113⟩ := id V112
  obtain ⟨T111, h111, X111, e111, W111, st111⟩ := stD X102 hx hZ e102 Aq113 (j := (0 : Int32)) (inb_of Sq113 ⟨(by decide : ¬ ((0 : Int32) < (0 : Int32))), (by decide : (0 : Int32) < (4 : Int32))⟩) (g := (mkF m 132 #[.val (.long p0), .second, .val (.long p1), .second, .val (.int p2), .val (.int u0), .val (.int u1), .val (.int u2), .val (.int u3), .val (.int v0), .val (.int v1), .val (.int v2), .val (.int v3), .val (.int (Int32.ofNat f)), .val (.int (Int32.ofNat t)), .val (.ref wa), .unset, .unset, .unset, .unset, .unset] [(.double (Jvm.FP.i2d v0)), (.int (0 : Int32)), (.ref va), (.ref va)])) rfl rfl (hb hby at_132)
  have N114 := Fr.snoc X111 N97 gn103
  have V115 : Arv Z h111 va k102 .double (4 : Int32) [(.double (Jvm.FP.i2d v0))] (.double (0 : UInt64)) := Arv.set Aq113 qq113 Sq113 Mq113 Hq113 Uq113 rfl W111 0 rfl (Nat.le_of_ble_eq_true rfl)
  have Kx111 : Keep h102 h111 [va] := Keep.of_wr W111
  refine GoOn.step st111 ?_
  have O116 : Old Z n0 h111 := O106.keep Kx111 (allS gn103 all0)
  have Z117 : n0 ≤ h111.size := Nat.le_trans Z107 Kx111.1
  have K118 : Keep h0 h111 [] := K108.trans Kx111 ((allS (Or.inr sz104) all0))
  have V119 : Arv Z h111 wa k63 .double (4 : Int32) [(.double (Jvm.FP.ddiv (Jvm.FP.i2d u0) (4679240012837945344 : UInt64))), (.double (Jvm.FP.ddiv (Jvm.FP.i2d u1) (4679240012837945344 : UInt64))), (.double (Jvm.FP.ddiv (Jvm.FP.i2d u2) (4679240012837945344 : UInt64))), (.double (Jvm.FP.ddiv (Jvm.FP.i2d u3) (4679240012837945344 : UInt64)))] (.double (0 : UInt64)) := V109.keep Kx111 (ninS ne105 nin0)
  show GoOn p e below (T111.setTop (mkF m 133 #[.val (.long p0), .second, .val (.long p1), .second, .val (.int p2), .val (.int u0), .val (.int u1), .val (.int u2), .val (.int u3), .val (.int v0), .val (.int v1), .val (.int v2), .val (.int v3), .val (.int (Int32.ofNat f)), .val (.int (Int32.ofNat t)), .val (.ref wa), .unset, .unset, .unset, .unset, .unset] [(.ref va)])) _
  refine GoOn.step (fun tq kq => XS.dup X111.here hx rfl (hb hby at_133) rfl rfl kq) ?_
  show GoOn p e below (T111.setTop (mkF m 134 #[.val (.long p0), .second, .val (.long p1), .second, .val (.int p2), .val (.int u0), .val (.int u1), .val (.int u2), .val (.int u3), .val (.int v0), .val (.int v1), .val (.int v2), .val (.int v3), .val (.int (Int32.ofNat f)), .val (.int (Int32.ofNat t)), .val (.ref wa), .unset, .unset, .unset, .unset, .unset] [(.ref va), (.ref va)])) _
  refine GoOn.step (fun tq kq => XS.iconst X111.here hx rfl (hb hby at_134) kq) ?_
  show GoOn p e below (T111.setTop (mkF m 135 #[.val (.long p0), .second, .val (.long p1), .second, .val (.int p2), .val (.int u0), .val (.int u1), .val (.int u2), .val (.int u3), .val (.int v0), .val (.int v1), .val (.int v2), .val (.int v3), .val (.int (Int32.ofNat f)), .val (.int (Int32.ofNat t)), .val (.ref wa), .unset, .unset, .unset, .unset, .unset] [(.int (1 : Int32)), (.ref va), (.ref va)])) _
  refine GoOn.step (fun tq kq => XS.iload X111.here hx rfl (hb hby at_135) rfl kq) ?_
  show GoOn p e below (T111.setTop (mkF m 137 #[.val (.long p0), .second, .val (.long p1), .second, .val (.int p2), .val (.int u0), .val (.int u1), .val (.int u2), .val (.int u3), .val (.int v0), .val (.int v1), .val (.int v2), .val (.int v3), .val (.int (Int32.ofNat f)), .val (.int (Int32.ofNat t)), .val (.ref wa), .unset, .unset, .unset, .unset, .unset] [(.int v1), (.int (1 : Int32)), (.ref va), (.ref va)])) _
  refine GoOn.step (fun tq kq => XS.i2dS X111.here hx rfl (hb hby at_137) rfl (v := (Jvm.FP.i2d v1)) rfl kq) ?_
  show GoOn p e below (T111.setTop (mkF m 138 #[.val (.long p0), .second, .val (.long p1), .second, .val (.int p2), .val (.int u0), .val (.int u1), .val (.int u2), .val (.int u3), .val (.int v0), .val (.int v1), .val (.int v2), .val (.int v3), .val (.int (Int32.ofNat f)), .val (.int (Int32.ofNat t)), .val (.ref wa), .unset, .unset, .unset, .unset, .unset] [(.double (Jvm.FP.i2d v1)), (.int (1 : Int32)), (.ref va), (.ref va)])) _
  have V121 : Arv Z h111 va k102 .double (4 : Int32) [(.double (Jvm.FP.i2d v0)), (.double (0 : UInt64))] (.double (0 : UInt64)) := V115.pad (pad_rep [(.double (Jvm.FP.i2d v0))] (.double (0 : UInt64)) 1)
  obtain ⟨cq122, Aq122, qq122, Sq122, Mq122, Hq122, Uq122⟩ := id V121
  obtain ⟨T120, h120, X120, e120, W120, st120⟩ := stD X111 hx hZ e111 Aq122 (j := (1 : Int32)) (inb_of Sq122 ⟨(by decide : ¬ ((1 : Int32) < (0 : Int32))), (by decide : (1 : Int32) < (4 : Int32))⟩) (g := (mkF m 138 #[.val (.long p0), .second, .val (.long p1), .second, .val (.int p2), .val (.int u0), .val (.int u1), .val (.int u2), .val (.int u3), .val (.int v0), .val (.int v1), .val (.int v2), .val (.int v3), .val (.int (Int32.ofNat f)), .val (.int (Int32.ofNat t)), .val (.ref wa), .unset, .unset, .unset, .unset, .unset] [(.double (Jvm.FP.i2d v1)), (.int (1 : Int32)), (.ref va), (.ref va)])) rfl rfl (hb hby at_138)
  have N123 := Fr.snoc X120 N114 gn103
  have V124 : Arv Z h120 va k102 .double (4 : Int32) [(.double (Jvm.FP.i2d v0)), (.double (Jvm.FP.i2d v1))] (.double (0 : UInt64)) := Arv.set Aq122 qq122 Sq122 Mq122 Hq122 Uq122 rfl W120 1 rfl (Nat.le_of_ble_eq_true rfl)
  have Kx120 : Keep h111 h120 [va] := Keep.of_wr W120
  refine GoOn.step st120 ?_
  have O125 : Old Z n0 h120 := O116.keep Kx120 (allS gn103 all0)
  have Z126 : n0 ≤ h120.size := Nat.le_trans Z117 Kx120.1
  have K127 : Keep h0 h120 [] := K118.trans Kx120 ((allS (Or.inr sz104) all0))
  have V128 : Arv Z h120 wa k63 .double (4 : Int32) [(.double (Jvm.FP.ddiv (Jvm.FP.i2d u0) (4679240012837945344 : UInt64))), (.double (Jvm.FP.ddiv (Jvm.FP.i2d u1) (4679240012837945344 : UInt64))), (.double (Jvm.FP.ddiv (Jvm.FP.i2d u2) (4679240012837945344 : UInt64))), (.double (Jvm.FP.ddiv (Jvm.FP.i2d u3) (4679240012837945344 : UInt64)))] (.double (0 : UInt64)) := V119.keep Kx120 (ninS ne105 nin0)
  show GoOn p e below (T120.setTop (mkF m 139 #[.val (.long p0), .second, .val (.long p1), .second, .val (.int p2), .val (.int u0), .val (.int u1), .val (.int u2), .val (.int u3), .val (.int v0), .val (.int v1), .val (.int v2), .val (.int v3), .val (.int (Int32.ofNat f)), .val (.int (Int32.ofNat t)), .val (.ref wa), .unset, .unset, .unset, .unset, .unset] [(.ref va)])) _
  refine GoOn.step (fun tq kq => XS.dup X120.here hx rfl (hb hby at_139) rfl rfl kq) ?_
  show GoOn p e below (T120.setTop (mkF m 140 #[.val (.long p0), .second, .val (.long p1), .second, .val (.int p2), .val (.int u0), .val (.int u1), .val (.int u2), .val (.int u3), .val (.int v0), .val (.int v1), .val (.int v2), .val (.int v3), .val (.int (Int32.ofNat f)), .val (.int (Int32.ofNat t)), .val (.ref wa), .unset, .unset, .unset, .unset, .unset] [(.ref va), (.ref va)])) _
  refine GoOn.step (fun tq kq => XS.iconst X120.here hx rfl (hb hby at_140) kq) ?_
  show GoOn p e below (T120.setTop (mkF m 141 #[.val (.long p0), .second, .val (.long p1), .second, .val (.int p2), .val (.int u0), .val (.int u1), .val (.int u2), .val (.int u3), .val (.int v0), .val (.int v1), .val (.int v2), .val (.int v3), .val (.int (Int32.ofNat f)), .val (.int (Int32.ofNat t)), .val (.ref wa), .unset, .unset, .unset, .unset, .unset] [(.int (2 : Int32)), (.ref va), (.ref va)])) _
  refine GoOn.step (fun tq kq => XS.iload X120.here hx rfl (hb hby at_141) rfl kq) ?_
  show GoOn p e below (T120.setTop (mkF m 143 #[.val (.long p0), .second, .val (.long p1), .second, .val (.int p2), .val (.int u0), .val (.int u1), .val (.int u2), .val (.int u3), .val (.int v0), .val (.int v1), .val (.int v2), .val (.int v3), .val (.int (Int32.ofNat f)), .val (.int (Int32.ofNat t)), .val (.ref wa), .unset, .unset, .unset, .unset, .unset] [(.int v2), (.int (2 : Int32)), (.ref va), (.ref va)])) _
  refine GoOn.step (fun tq kq => XS.i2dS X120.here hx rfl (hb hby at_143) rfl (v := (Jvm.FP.i2d v2)) rfl kq) ?_
  show GoOn p e below (T120.setTop (mkF m 144 #[.val (.long p0), .second, .val (.long p1), .second, .val (.int p2), .val (.int u0), .val (.int u1), .val (.int u2), .val (.int u3), .val (.int v0), .val (.int v1), .val (.int v2), .val (.int v3), .val (.int (Int32.ofNat f)), .val (.int (Int32.ofNat t)), .val (.ref wa), .unset, .unset, .unset, .unset, .unset] [(.double (Jvm.FP.i2d v2)), (.int (2 : Int32)), (.ref va), (.ref va)])) _
  have V130 : Arv Z h120 va k102 .double (4 : Int32) [(.double (Jvm.FP.i2d v0)), (.double (Jvm.FP.i2d v1)), (.double (0 : UInt64))] (.double (0 : UInt64)) := V124.pad (pad_rep [(.double (Jvm.FP.i2d v0)), (.double (Jvm.FP.i2d v1))] (.double (0 : UInt64)) 1)
  obtain ⟨cq131, Aq131, qq131, Sq131, Mq131, Hq131, Uq131⟩ := id V130
  obtain ⟨T129, h129, X129, e129, W129, st129⟩ := stD X120 hx hZ e120 Aq131 (j := (2 : Int32)) (inb_of Sq131 ⟨(by decide : ¬ ((2 : Int32) < (0 : Int32))), (by decide : (2 : Int32) < (4 : Int32))⟩) (g := (mkF m 144 #[.val (.long p0), .second, .val (.long p1), .second, .val (.int p2), .val (.int u0), .val (.int u1), .val (.int u2), .val (.int u3), .val (.int v0), .val (.int v1), .val (.int v2), .val (.int v3), .val (.int (Int32.ofNat f)), .val (.int (Int32.ofNat t)), .val (.ref wa), .unset, .unset, .unset, .unset, .unset] [(.double (Jvm.FP.i2d v2)), (.int (2 : Int32)), (.ref va), (.ref va)])) rfl rfl (hb hby at_144)
  have N132 := Fr.snoc X129 N123 gn103
  have V133 : Arv Z h129 va k102 .double (4 : Int32) [(.double (Jvm.FP.i2d v0)), (.double (Jvm.FP.i2d v1)), (.double (Jvm.FP.i2d v2))] (.double (0 : UInt64)) := Arv.set Aq131 qq131 Sq131 Mq131 Hq131 Uq131 rfl W129 2 rfl (Nat.le_of_ble_eq_true rfl)
  have Kx129 : Keep h120 h129 [va] := Keep.of_wr W129
  refine GoOn.step st129 ?_
  have O134 : Old Z n0 h129 := O125.keep Kx129 (allS gn103 all0)
  have Z135 : n0 ≤ h129.size := Nat.le_trans Z126 Kx129.1
  have K136 : Keep h0 h129 [] := K127.trans Kx129 ((allS (Or.inr sz104) all0))
  have V137 : Arv Z h129 wa k63 .double (4 : Int32) [(.double (Jvm.FP.ddiv (Jvm.FP.i2d u0) (4679240012837945344 : UInt64))), (.double (Jvm.FP.ddiv (Jvm.FP.i2d u1) (4679240012837945344 : UInt64))), (.double (Jvm.FP.ddiv (Jvm.FP.i2d u2) (4679240012837945344 : UInt64))), (.double (Jvm.FP.ddiv (Jvm.FP.i2d u3) (4679240012837945344 : UInt64)))] (.double (0 : UInt64)) := V128.keep Kx129 (ninS ne105 nin0)
  show GoOn p e below (T129.setTop (mkF m 145 #[.val (.long p0), .second, .val (.long p1), .second, .val (.int p2), .val (.int u0), .val (.int u1), .val (.int u2), .val (.int u3), .val (.int v0), .val (.int v1), .val (.int v2), .val (.int v3), .val (.int (Int32.ofNat f)), .val (.int (Int32.ofNat t)), .val (.ref wa), .unset, .unset, .unset, .unset, .unset] [(.ref va)])) _
  refine GoOn.step (fun tq kq => XS.dup X129.here hx rfl (hb hby at_145) rfl rfl kq) ?_
  show GoOn p e below (T129.setTop (mkF m 146 #[.val (.long p0), .second, .val (.long p1), .second, .val (.int p2), .val (.int u0), .val (.int u1), .val (.int u2), .val (.int u3), .val (.int v0), .val (.int v1), .val (.int v2), .val (.int v3), .val (.int (Int32.ofNat f)), .val (.int (Int32.ofNat t)), .val (.ref wa), .unset, .unset, .unset, .unset, .unset] [(.ref va), (.ref va)])) _
  refine GoOn.step (fun tq kq => XS.iconst X129.here hx rfl (hb hby at_146) kq) ?_
  show GoOn p e below (T129.setTop (mkF m 147 #[.val (.long p0), .second, .val (.long p1), .second, .val (.int p2), .val (.int u0), .val (.int u1), .val (.int u2), .val (.int u3), .val (.int v0), .val (.int v1), .val (.int v2), .val (.int v3), .val (.int (Int32.ofNat f)), .val (.int (Int32.ofNat t)), .val (.ref wa), .unset, .unset, .unset, .unset, .unset] [(.int (3 : Int32)), (.ref va), (.ref va)])) _
  refine GoOn.step (fun tq kq => XS.iload X129.here hx rfl (hb hby at_147) rfl kq) ?_
  show GoOn p e below (T129.setTop (mkF m 149 #[.val (.long p0), .second, .val (.long p1), .second, .val (.int p2), .val (.int u0), .val (.int u1), .val (.int u2), .val (.int u3), .val (.int v0), .val (.int v1), .val (.int v2), .val (.int v3), .val (.int (Int32.ofNat f)), .val (.int (Int32.ofNat t)), .val (.ref wa), .unset, .unset, .unset, .unset, .unset] [(.int v3), (.int (3 : Int32)), (.ref va), (.ref va)])) _
  refine GoOn.step (fun tq kq => XS.i2dS X129.here hx rfl (hb hby at_149) rfl (v := (Jvm.FP.i2d v3)) rfl kq) ?_
  show GoOn p e below (T129.setTop (mkF m 150 #[.val (.long p0), .second, .val (.long p1), .second, .val (.int p2), .val (.int u0), .val (.int u1), .val (.int u2), .val (.int u3), .val (.int v0), .val (.int v1), .val (.int v2), .val (.int v3), .val (.int (Int32.ofNat f)), .val (.int (Int32.ofNat t)), .val (.ref wa), .unset, .unset, .unset, .unset, .unset] [(.double (Jvm.FP.i2d v3)), (.int (3 : Int32)), (.ref va), (.ref va)])) _
  have V139 : Arv Z h129 va k102 .double (4 : Int32) [(.double (Jvm.FP.i2d v0)), (.double (Jvm.FP.i2d v1)), (.double (Jvm.FP.i2d v2)), (.double (0 : UInt64))] (.double (0 : UInt64)) := V133.pad (pad_rep [(.double (Jvm.FP.i2d v0)), (.double (Jvm.FP.i2d v1)), (.double (Jvm.FP.i2d v2))] (.double (0 : UInt64)) 1)
  obtain ⟨cq140, Aq140, qq140, Sq140, Mq140, Hq140, Uq140⟩ := id V139
  obtain ⟨T138, h138, X138, e138, W138, st138⟩ := stD X129 hx hZ e129 Aq140 (j := (3 : Int32)) (inb_of Sq140 ⟨(by decide : ¬ ((3 : Int32) < (0 : Int32))), (by decide : (3 : Int32) < (4 : Int32))⟩) (g := (mkF m 150 #[.val (.long p0), .second, .val (.long p1), .second, .val (.int p2), .val (.int u0), .val (.int u1), .val (.int u2), .val (.int u3), .val (.int v0), .val (.int v1), .val (.int v2), .val (.int v3), .val (.int (Int32.ofNat f)), .val (.int (Int32.ofNat t)), .val (.ref wa), .unset, .unset, .unset, .unset, .unset] [(.double (Jvm.FP.i2d v3)), (.int (3 : Int32)), (.ref va), (.ref va)])) rfl rfl (hb hby at_150)
  have N141 := Fr.snoc X138 N132 gn103
  have V142 : Arv Z h138 va k102 .double (4 : Int32) [(.double (Jvm.FP.i2d v0)), (.double (Jvm.FP.i2d v1)), (.double (Jvm.FP.i2d v2)), (.double (Jvm.FP.i2d v3))] (.double (0 : UInt64)) := Arv.set Aq140 qq140 Sq140 Mq140 Hq140 Uq140 rfl W138 3 rfl (Nat.le_of_ble_eq_true rfl)
  have Kx138 : Keep h129 h138 [va] := Keep.of_wr W138
  refine GoOn.step st138 ?_
  have O143 : Old Z n0 h138 := O134.keep Kx138 (allS gn103 all0)
  have Z144 : n0 ≤ h138.size := Nat.le_trans Z135 Kx138.1
  have K145 : Keep h0 h138 [] := K136.trans Kx138 ((allS (Or.inr sz104) all0))
  have V146 : Arv Z h138 wa k63 .double (4 : Int32) [(.double (Jvm.FP.ddiv (Jvm.FP.i2d u0) (4679240012837945344 : UInt64))), (.double (Jvm.FP.ddiv (Jvm.FP.i2d u1) (4679240012837945344 : UInt64))), (.double (Jvm.FP.ddiv (Jvm.FP.i2d u2) (4679240012837945344 : UInt64))), (.double (Jvm.FP.ddiv (Jvm.FP.i2d u3) (4679240012837945344 : UInt64)))] (.double (0 : UInt64)) := V137.keep Kx138 (ninS ne105 nin0)
  show GoOn p e below (T138.setTop (mkF m 151 #[.val (.long p0), .second, .val (.long p1), .second, .val (.int p2), .val (.int u0), .val (.int u1), .val (.int u2), .val (.int u3), .val (.int v0), .val (.int v1), .val (.int v2), .val (.int v3), .val (.int (Int32.ofNat f)), .val (.int (Int32.ofNat t)), .val (.ref wa), .unset, .unset, .unset, .unset, .unset] [(.ref va)])) _
  refine GoOn.step (fun tq kq => XS.astore X138.here hx rfl (hb hby at_151) rfl rfl (l' := #[.val (.long p0), .second, .val (.long p1), .second, .val (.int p2), .val (.int u0), .val (.int u1), .val (.int u2), .val (.int u3), .val (.int v0), .val (.int v1), .val (.int v2), .val (.int v3), .val (.int (Int32.ofNat f)), .val (.int (Int32.ofNat t)), .val (.ref wa), .val (.ref va), .unset, .unset, .unset, .unset]) rfl kq) ?_
  show GoOn p e below (T138.setTop (mkF m 153 #[.val (.long p0), .second, .val (.long p1), .second, .val (.int p2), .val (.int u0), .val (.int u1), .val (.int u2), .val (.int u3), .val (.int v0), .val (.int v1), .val (.int v2), .val (.int v3), .val (.int (Int32.ofNat f)), .val (.int (Int32.ofNat t)), .val (.ref wa), .val (.ref va), .unset, .unset, .unset, .unset] [])) _
  refine GoOn.step (fun tq kq => XS.aload X138.here hx rfl (hb hby at_153) rfl rfl kq) ?_
  show GoOn p e below (T138.setTop (mkF m 155 #[.val (.long p0), .second, .val (.long p1), .second, .val (.int p2), .val (.int u0), .val (.int u1), .val (.int u2), .val (.int u3), .val (.int v0), .val (.int v1), .val (.int v2), .val (.int v3), .val (.int (Int32.ofNat f)), .val (.int (Int32.ofNat t)), .val (.ref wa), .val (.ref va), .unset, .unset, .unset, .unset] [(.ref wa)])) _
  refine GoOn.step (fun tq kq => XS.aload X138.here hx rfl (hb hby at_155) rfl rfl kq) ?_
  show GoOn p e below (T138.setTop (mkF m 157 #[.val (.long p0), .second, .val (.long p1), .second, .val (.int p2), .val (.int u0), .val (.int u1), .val (.int u2), .val (.int u3), .val (.int v0), .val (.int v1), .val (.int v2), .val (.int v3), .val (.int (Int32.ofNat f)), .val (.int (Int32.ofNat t)), .val (.ref wa), .val (.ref va), .unset, .unset, .unset, .unset] [(.ref va), (.ref wa)])) _
  refine GoOn.step (fun tq kq => XS.iload X138.here hx rfl (hb hby at_157) rfl kq) ?_
  show GoOn p e below (T138.setTop (mkF m 159 #[.val (.long p0), .second, .val (.long p1), .second, .val (.int p2), .val (.int u0), .val (.int u1), .val (.int u2), .val (.int u3), .val (.int v0), .val (.int v1), .val (.int v2), .val (.int v3), .val (.int (Int32.ofNat f)), .val (.int (Int32.ofNat t)), .val (.ref wa), .val (.ref va), .unset, .unset, .unset, .unset] [(.int (Int32.ofNat f)), (.ref va), (.ref wa)])) _
  refine GoOn.step (fun tq kq => XS.iload X138.here hx rfl (hb hby at_159) rfl kq) ?_
  show GoOn p e below (T138.setTop (mkF m 161 #[.val (.long p0), .second, .val (.long p1), .second, .val (.int p2), .val (.int u0), .val (.int u1), .val (.int u2), .val (.int u3), .val (.int v0), .val (.int v1), .val (.int v2), .val (.int v3), .val (.int (Int32.ofNat f)), .val (.int (Int32.ofNat t)), .val (.ref wa), .val (.ref va), .unset, .unset, .unset, .unset] [(.int (Int32.ofNat t)), (.int (Int32.ofNat f)), (.ref va), (.ref wa)])) _
  obtain ⟨_, _, ⟨T147, L147, k147, n147⟩, -, X147, ⟨Lc147, hQ147, l147, y147, z147⟩, st147⟩ := Jvm.LawKit.callS X138 hx (y := (⟨"com/example/patokan/patokan/model/AbilityGrid", "mean", "([D[DII)D"⟩ : MethodName)) hown (mvT hZ (hw _ (List.mem_of_getElem? (i := 3) rfl))) (mvT hZ (hw _ (List.mem_of_getElem? (i := 4) rfl))) (mvT hZ (hw _ (List.mem_of_getElem? (i := 5) rfl))) (mvT hZ (hw _ (List.mem_of_getElem? (i := 6) rfl))) (by decide) (backOf (W := 0) (rmMean l Z a0 hw wa va k63 k102 (Jvm.FP.ddiv (Jvm.FP.i2d u0) (4679240012837945344 : UInt64)) (Jvm.FP.ddiv (Jvm.FP.i2d u1) (4679240012837945344 : UInt64)) (Jvm.FP.ddiv (Jvm.FP.i2d u2) (4679240012837945344 : UInt64)) (Jvm.FP.ddiv (Jvm.FP.i2d u3) (4679240012837945344 : UInt64)) (Jvm.FP.i2d v0) (Jvm.FP.i2d v1) (Jvm.FP.i2d v2) (Jvm.FP.i2d v3) (u0.toInt * v0.toInt) (u1.toInt * v1.toInt) (u2.toInt * v2.toInt) (u3.toInt * v3.toInt) f t h138 n0 Z144 V146 V142 Y0 Y1 Y2 Y3 B0 B1 B2 B3 hbf hbt) hZ (hw _ (List.mem_of_getElem? (i := 6) rfl)) (hw _ (List.mem_of_getElem? (i := 5) rfl)) (by decide) (by decide)) (g := (mkF m 161 #[.val (.long p0), .second, .val (.long p1), .second, .val (.int p2), .val (.int u0), .val (.int u1), .val (.int u2), .val (.int u3), .val (.int v0), .val (.int v1), .val (.int v2), .val (.int v3), .val (.int (Int32.ofNat f)), .val (.int (Int32.ofNat t)), .val (.ref wa), .val (.ref va), .unset, .unset, .unset, .unset] [(.int (Int32.ofNat t)), (.int (Int32.ofNat f)), (.ref va), (.ref wa)])) rfl (by rw [hml]; rfl) (argsL := [(.ref wa), (.ref va), (.int (Int32.ofNat f)), (.int (Int32.ofNat t))]) (rest := []) (lenOf own_pd40 rfl) rfl (by show 2 * 0 + _ ≤ _; exact Nat.le_of_eq rfl) (hb hby at_161) (fun _ _ => ⟨rfl, e138, (by decide : 2 + 0 ≤ _), (by decide : 8 + 0 ≤ _)⟩)
  dsimp only [Pt.U, Pt.locs, Pt.cells, Pt.slots] at X147 l147 y147 z147 st147 hQ147
  subst l147 y147 z147
  obtain ⟨r147, rfl, N147, e147, Rr147⟩ := hQ147
  refine GoOn.step st147 ?_
  have N148 := Fr.app N141 N147
  show GoOn p e below (T147.setTop (mkF m 164 #[.val (.long p0), .second, .val (.long p1), .second, .val (.int p2), .val (.int u0), .val (.int u1), .val (.int u2), .val (.int u3), .val (.int v0), .val (.int v1), .val (.int v2), .val (.int v3), .val (.int (Int32.ofNat f)), .val (.int (Int32.ofNat t)), .val (.ref wa), .val (.ref va), .unset, .unset, .unset, .unset] [(.double r147)])) _
  refine GoOn.step (fun tq kq => XS.dstore X147.here hx rfl (hb hby at_164) rfl (l' := #[.val (.long p0), .second, .val (.long p1), .second, .val (.int p2), .val (.int u0), .val (.int u1), .val (.int u2), .val (.int u3), .val (.int v0), .val (.int v1), .val (.int v2), .val (.int v3), .val (.int (Int32.ofNat f)), .val (.int (Int32.ofNat t)), .val (.ref wa), .val (.ref va), .val (.double r147), .second, .unset, .unset]) rfl kq) ?_
  show GoOn p e below (T147.setTop (mkF m 166 #[.val (.long p0), .second, .val (.long p1), .second, .val (.int p2), .val (.int u0), .val (.int u1), .val (.int u2), .val (.int u3), .val (.int v0), .val (.int v1), .val (.int v2), .val (.int v3), .val (.int (Int32.ofNat f)), .val (.int (Int32.ofNat t)), .val (.ref wa), .val (.ref va), .val (.double r147), .second, .unset, .unset] [])) _
  refine GoOn.step (fun tq kq => XS.iconst X147.here hx rfl (hb hby at_166) kq) ?_
  show GoOn p e below (T147.setTop (mkF m 167 #[.val (.long p0), .second, .val (.long p1), .second, .val (.int p2), .val (.int u0), .val (.int u1), .val (.int u2), .val (.int u3), .val (.int v0), .val (.int v1), .val (.int v2), .val (.int v3), .val (.int (Int32.ofNat f)), .val (.int (Int32.ofNat t)), .val (.ref wa), .val (.ref va), .val (.double r147), .second, .unset, .unset] [(.int (0 : Int32))])) _
  refine GoOn.step (fun tq kq => XS.iload X147.here hx rfl (hb hby at_167) rfl kq) ?_
  show GoOn p e below (T147.setTop (mkF m 169 #[.val (.long p0), .second, .val (.long p1), .second, .val (.int p2), .val (.int u0), .val (.int u1), .val (.int u2), .val (.int u3), .val (.int v0), .val (.int v1), .val (.int v2), .val (.int v3), .val (.int (Int32.ofNat f)), .val (.int (Int32.ofNat t)), .val (.ref wa), .val (.ref va), .val (.double r147), .second, .unset, .unset] [(.int (Int32.ofNat f)), (.int (0 : Int32))])) _
  refine GoOn.step (fun tq kq => XS.iload X147.here hx rfl (hb hby at_169) rfl kq) ?_
  show GoOn p e below (T147.setTop (mkF m 171 #[.val (.long p0), .second, .val (.long p1), .second, .val (.int p2), .val (.int u0), .val (.int u1), .val (.int u2), .val (.int u3), .val (.int v0), .val (.int v1), .val (.int v2), .val (.int v3), .val (.int (Int32.ofNat f)), .val (.int (Int32.ofNat t)), .val (.ref wa), .val (.ref va), .val (.double r147), .second, .unset, .unset] [(.int (Int32.ofNat t)), (.int (Int32.ofNat f)), (.int (0 : Int32))])) _
  refine GoOn.step (fun tq kq => XS.iload X147.here hx rfl (hb hby at_171) rfl kq) ?_
  show GoOn p e below (T147.setTop (mkF m 173 #[.val (.long p0), .second, .val (.long p1), .second, .val (.int p2), .val (.int u0), .val (.int u1), .val (.int u2), .val (.int u3), .val (.int v0), .val (.int v1), .val (.int v2), .val (.int v3), .val (.int (Int32.ofNat f)), .val (.int (Int32.ofNat t)), .val (.ref wa), .val (.ref va), .val (.double r147), .second, .unset, .unset] [(.int u0), (.int (Int32.ofNat t)), (.int (Int32.ofNat f)), (.int (0 : Int32))])) _
  refine GoOn.step (fun tq kq => XS.iload X147.here hx rfl (hb hby at_173) rfl kq) ?_
  show GoOn p e below (T147.setTop (mkF m 175 #[.val (.long p0), .second, .val (.long p1), .second, .val (.int p2), .val (.int u0), .val (.int u1), .val (.int u2), .val (.int u3), .val (.int v0), .val (.int v1), .val (.int v2), .val (.int v3), .val (.int (Int32.ofNat f)), .val (.int (Int32.ofNat t)), .val (.ref wa), .val (.ref va), .val (.double r147), .second, .unset, .unset] [(.int v0), (.int u0), (.int (Int32.ofNat t)), (.int (Int32.ofNat f)), (.int (0 : Int32))])) _
  obtain ⟨_, _, ⟨T149, L149, k149, n149⟩, -, X149, ⟨Lc149, hQ149, l149, y149, z149⟩, st149⟩ := Jvm.LawKit.callS X147 hx (y := (⟨"com/example/patokan/patokan/model/AbilityGridMeanPinLaw", "term", "(IIIII)J"⟩ : MethodName)) hown (mvT hZ (hw _ (List.mem_of_getElem? (i := 7) rfl))) (mvT hZ (hw _ (List.mem_of_getElem? (i := 8) rfl))) (mvT hZ (hw _ (List.mem_of_getElem? (i := 9) rfl))) (mvT hZ (hw _ (List.mem_of_getElem? (i := 10) rfl))) (by decide) (backOf (W := 0) (rmTerm l Z a0 hw (0 : Int32) u0 v0 0 f t h138 n0 Z144 rfl (by decide) hbf hbt) hZ (hw _ (List.mem_of_getElem? (i := 10) rfl)) (hw _ (List.mem_of_getElem? (i := 9) rfl)) (by decide) (by decide)) (g := (mkF m 175 #[.val (.long p0), .second, .val (.long p1), .second, .val (.int p2), .val (.int u0), .val (.int u1), .val (.int u2), .val (.int u3), .val (.int v0), .val (.int v1), .val (.int v2), .val (.int v3), .val (.int (Int32.ofNat f)), .val (.int (Int32.ofNat t)), .val (.ref wa), .val (.ref va), .val (.double r147), .second, .unset, .unset] [(.int v0), (.int u0), (.int (Int32.ofNat t)), (.int (Int32.ofNat f)), (.int (0 : Int32))])) rfl (by rw [hml]; rfl) (argsL := [(.int (0 : Int32)), (.int (Int32.ofNat f)), (.int (Int32.ofNat t)), (.int u0), (.int v0)]) (rest := []) (lenOf own_pd41 rfl) rfl (by show 2 * 0 + _ ≤ _; exact Nat.le_of_eq rfl) (hb hby at_175) (fun _ _ => ⟨rfl, e147, (by decide : 2 + 0 ≤ _), (by decide : 8 + 0 ≤ _)⟩)
  dsimp only [Pt.U, Pt.locs, Pt.cells, Pt.slots] at X149 l149 y149 z149 st149 hQ149
  subst l149 y149 z149
  obtain ⟨rfl, N149, e149⟩ := hQ149
  refine GoOn.step st149 ?_
  have N150 := Fr.app N148 N149
  show GoOn p e below (T149.setTop (mkF m 178 #[.val (.long p0), .second, .val (.long p1), .second, .val (.int p2), .val (.int u0), .val (.int u1), .val (.int u2), .val (.int u3), .val (.int v0), .val (.int v1), .val (.int v2), .val (.int v3), .val (.int (Int32.ofNat f)), .val (.int (Int32.ofNat t)), .val (.ref wa), .val (.ref va), .val (.double r147), .second, .unset, .unset] [(.long (own_tl 0 f t (u0.toInt64 * v0.toInt64)))])) _
  refine GoOn.step (fun tq kq => XS.iconst X149.here hx rfl (hb hby at_178) kq) ?_
  show GoOn p e below (T149.setTop (mkF m 179 #[.val (.long p0), .second, .val (.long p1), .second, .val (.int p2), .val (.int u0), .val (.int u1), .val (.int u2), .val (.int u3), .val (.int v0), .val (.int v1), .val (.int v2), .val (.int v3), .val (.int (Int32.ofNat f)), .val (.int (Int32.ofNat t)), .val (.ref wa), .val (.ref va), .val (.double r147), .second, .unset, .unset] [(.int (1 : Int32)), (.long (own_tl 0 f t (u0.toInt64 * v0.toInt64)))])) _
  refine GoOn.step (fun tq kq => XS.iload X149.here hx rfl (hb hby at_179) rfl kq) ?_
  show GoOn p e below (T149.setTop (mkF m 181 #[.val (.long p0), .second, .val (.long p1), .second, .val (.int p2), .val (.int u0), .val (.int u1), .val (.int u2), .val (.int u3), .val (.int v0), .val (.int v1), .val (.int v2), .val (.int v3), .val (.int (Int32.ofNat f)), .val (.int (Int32.ofNat t)), .val (.ref wa), .val (.ref va), .val (.double r147), .second, .unset, .unset] [(.int (Int32.ofNat f)), (.int (1 : Int32)), (.long (own_tl 0 f t (u0.toInt64 * v0.toInt64)))])) _
  refine GoOn.step (fun tq kq => XS.iload X149.here hx rfl (hb hby at_181) rfl kq) ?_
  show GoOn p e below (T149.setTop (mkF m 183 #[.val (.long p0), .second, .val (.long p1), .second, .val (.int p2), .val (.int u0), .val (.int u1), .val (.int u2), .val (.int u3), .val (.int v0), .val (.int v1), .val (.int v2), .val (.int v3), .val (.int (Int32.ofNat f)), .val (.int (Int32.ofNat t)), .val (.ref wa), .val (.ref va), .val (.double r147), .second, .unset, .unset] [(.int (Int32.ofNat t)), (.int (Int32.ofNat f)), (.int (1 : Int32)), (.long (own_tl 0 f t (u0.toInt64 * v0.toInt64)))])) _
  refine GoOn.step (fun tq kq => XS.iload X149.here hx rfl (hb hby at_183) rfl kq) ?_
  show GoOn p e below (T149.setTop (mkF m 185 #[.val (.long p0), .second, .val (.long p1), .second, .val (.int p2), .val (.int u0), .val (.int u1), .val (.int u2), .val (.int u3), .val (.int v0), .val (.int v1), .val (.int v2), .val (.int v3), .val (.int (Int32.ofNat f)), .val (.int (Int32.ofNat t)), .val (.ref wa), .val (.ref va), .val (.double r147), .second, .unset, .unset] [(.int u1), (.int (Int32.ofNat t)), (.int (Int32.ofNat f)), (.int (1 : Int32)), (.long (own_tl 0 f t (u0.toInt64 * v0.toInt64)))])) _
  refine GoOn.step (fun tq kq => XS.iload X149.here hx rfl (hb hby at_185) rfl kq) ?_
  show GoOn p e below (T149.setTop (mkF m 187 #[.val (.long p0), .second, .val (.long p1), .second, .val (.int p2), .val (.int u0), .val (.int u1), .val (.int u2), .val (.int u3), .val (.int v0), .val (.int v1), .val (.int v2), .val (.int v3), .val (.int (Int32.ofNat f)), .val (.int (Int32.ofNat t)), .val (.ref wa), .val (.ref va), .val (.double r147), .second, .unset, .unset] [(.int v1), (.int u1), (.int (Int32.ofNat t)), (.int (Int32.ofNat f)), (.int (1 : Int32)), (.long (own_tl 0 f t (u0.toInt64 * v0.toInt64)))])) _
  obtain ⟨_, _, ⟨T151, L151, k151, n151⟩, -, X151, ⟨Lc151, hQ151, l151, y151, z151⟩, st151⟩ := Jvm.LawKit.callS X149 hx (y := (⟨"com/example/patokan/patokan/model/AbilityGridMeanPinLaw", "term", "(IIIII)J"⟩ : MethodName)) hown (mvT hZ (hw _ (List.mem_of_getElem? (i := 7) rfl))) (mvT hZ (hw _ (List.mem_of_getElem? (i := 8) rfl))) (mvT hZ (hw _ (List.mem_of_getElem? (i := 9) rfl))) (mvT hZ (hw _ (List.mem_of_getElem? (i := 10) rfl))) (by decide) (backOf (W := 2) (rmTerm l Z a0 hw (1 : Int32) u1 v1 1 f t h138 n0 Z144 rfl (by decide) hbf hbt) hZ (hw _ (List.mem_of_getElem? (i := 10) rfl)) (hw _ (List.mem_of_getElem? (i := 9) rfl)) (by decide) (by decide)) (g := (mkF m 187 #[.val (.long p0), .second, .val (.long p1), .second, .val (.int p2), .val (.int u0), .val (.int u1), .val (.int u2), .val (.int u3), .val (.int v0), .val (.int v1), .val (.int v2), .val (.int v3), .val (.int (Int32.ofNat f)), .val (.int (Int32.ofNat t)), .val (.ref wa), .val (.ref va), .val (.double r147), .second, .unset, .unset] [(.int v1), (.int u1), (.int (Int32.ofNat t)), (.int (Int32.ofNat f)), (.int (1 : Int32)), (.long (own_tl 0 f t (u0.toInt64 * v0.toInt64)))])) rfl (by rw [hml]; rfl) (argsL := [(.int (1 : Int32)), (.int (Int32.ofNat f)), (.int (Int32.ofNat t)), (.int u1), (.int v1)]) (rest := [(.long (own_tl 0 f t (u0.toInt64 * v0.toInt64)))]) (lenOf own_pd41 rfl) rfl (by show 2 * 0 + _ ≤ _; exact Nat.le_of_eq rfl) (hb hby at_187) (fun _ _ => ⟨rfl, e149, (by decide : 2 + 0 ≤ _), (by decide : 8 + 0 ≤ _)⟩)
  dsimp only [Pt.U, Pt.locs, Pt.cells, Pt.slots] at X151 l151 y151 z151 st151 hQ151
  subst l151 y151 z151
  obtain ⟨rfl, N151, e151⟩ := hQ151
  refine GoOn.step st151 ?_
  have N152 := Fr.app N150 N151
  show GoOn p e below (T151.setTop (mkF m 190 #[.val (.long p0), .second, .val (.long p1), .second, .val (.int p2), .val (.int u0), .val (.int u1), .val (.int u2), .val (.int u3), .val (.int v0), .val (.int v1), .val (.int v2), .val (.int v3), .val (.int (Int32.ofNat f)), .val (.int (Int32.ofNat t)), .val (.ref wa), .val (.ref va), .val (.double r147), .second, .unset, .unset] [(.long (own_tl 1 f t (u1.toInt64 * v1.toInt64))), (.long (own_tl 0 f t (u0.toInt64 * v0.toInt64)))])) _
  refine GoOn.step (fun tq kq => XS.ladd X151.here hx rfl (hb hby at_190) rfl kq) ?_
  show GoOn p e below (T151.setTop (mkF m 191 #[.val (.long p0), .second, .val (.long p1), .second, .val (.int p2), .val (.int u0), .val (.int u1), .val (.int u2), .val (.int u3), .val (.int v0), .val (.int v1), .val (.int v2), .val (.int v3), .val (.int (Int32.ofNat f)), .val (.int (Int32.ofNat t)), .val (.ref wa), .val (.ref va), .val (.double r147), .second, .unset, .unset] [(.long ((own_tl 0 f t (u0.toInt64 * v0.toInt64)) + (own_tl 1 f t (u1.toInt64 * v1.toInt64))))])) _
  refine GoOn.step (fun tq kq => XS.iconst X151.here hx rfl (hb hby at_191) kq) ?_
  show GoOn p e below (T151.setTop (mkF m 192 #[.val (.long p0), .second, .val (.long p1), .second, .val (.int p2), .val (.int u0), .val (.int u1), .val (.int u2), .val (.int u3), .val (.int v0), .val (.int v1), .val (.int v2), .val (.int v3), .val (.int (Int32.ofNat f)), .val (.int (Int32.ofNat t)), .val (.ref wa), .val (.ref va), .val (.double r147), .second, .unset, .unset] [(.int (2 : Int32)), (.long ((own_tl 0 f t (u0.toInt64 * v0.toInt64)) + (own_tl 1 f t (u1.toInt64 * v1.toInt64))))])) _
  refine GoOn.step (fun tq kq => XS.iload X151.here hx rfl (hb hby at_192) rfl kq) ?_
  show GoOn p e below (T151.setTop (mkF m 194 #[.val (.long p0), .second, .val (.long p1), .second, .val (.int p2), .val (.int u0), .val (.int u1), .val (.int u2), .val (.int u3), .val (.int v0), .val (.int v1), .val (.int v2), .val (.int v3), .val (.int (Int32.ofNat f)), .val (.int (Int32.ofNat t)), .val (.ref wa), .val (.ref va), .val (.double r147), .second, .unset, .unset] [(.int (Int32.ofNat f)), (.int (2 : Int32)), (.long ((own_tl 0 f t (u0.toInt64 * v0.toInt64)) + (own_tl 1 f t (u1.toInt64 * v1.toInt64))))])) _
  refine GoOn.step (fun tq kq => XS.iload X151.here hx rfl (hb hby at_194) rfl kq) ?_
  show GoOn p e below (T151.setTop (mkF m 196 #[.val (.long p0), .second, .val (.long p1), .second, .val (.int p2), .val (.int u0), .val (.int u1), .val (.int u2), .val (.int u3), .val (.int v0), .val (.int v1), .val (.int v2), .val (.int v3), .val (.int (Int32.ofNat f)), .val (.int (Int32.ofNat t)), .val (.ref wa), .val (.ref va), .val (.double r147), .second, .unset, .unset] [(.int (Int32.ofNat t)), (.int (Int32.ofNat f)), (.int (2 : Int32)), (.long ((own_tl 0 f t (u0.toInt64 * v0.toInt64)) + (own_tl 1 f t (u1.toInt64 * v1.toInt64))))])) _
  refine GoOn.step (fun tq kq => XS.iload X151.here hx rfl (hb hby at_196) rfl kq) ?_
  show GoOn p e below (T151.setTop (mkF m 198 #[.val (.long p0), .second, .val (.long p1), .second, .val (.int p2), .val (.int u0), .val (.int u1), .val (.int u2), .val (.int u3), .val (.int v0), .val (.int v1), .val (.int v2), .val (.int v3), .val (.int (Int32.ofNat f)), .val (.int (Int32.ofNat t)), .val (.ref wa), .val (.ref va), .val (.double r147), .second, .unset, .unset] [(.int u2), (.int (Int32.ofNat t)), (.int (Int32.ofNat f)), (.int (2 : Int32)), (.long ((own_tl 0 f t (u0.toInt64 * v0.toInt64)) + (own_tl 1 f t (u1.toInt64 * v1.toInt64))))])) _
  refine GoOn.step (fun tq kq => XS.iload X151.here hx rfl (hb hby at_198) rfl kq) ?_
  show GoOn p e below (T151.setTop (mkF m 200 #[.val (.long p0), .second, .val (.long p1), .second, .val (.int p2), .val (.int u0), .val (.int u1), .val (.int u2), .val (.int u3), .val (.int v0), .val (.int v1), .val (.int v2), .val (.int v3), .val (.int (Int32.ofNat f)), .val (.int (Int32.ofNat t)), .val (.ref wa), .val (.ref va), .val (.double r147), .second, .unset, .unset] [(.int v2), (.int u2), (.int (Int32.ofNat t)), (.int (Int32.ofNat f)), (.int (2 : Int32)), (.long ((own_tl 0 f t (u0.toInt64 * v0.toInt64)) + (own_tl 1 f t (u1.toInt64 * v1.toInt64))))])) _
  obtain ⟨_, _, ⟨T153, L153, k153, n153⟩, -, X153, ⟨Lc153, hQ153, l153, y153, z153⟩, st153⟩ := Jvm.LawKit.callS X151 hx (y := (⟨"com/example/patokan/patokan/model/AbilityGridMeanPinLaw", "term", "(IIIII)J"⟩ : MethodName)) hown (mvT hZ (hw _ (List.mem_of_getElem? (i := 7) rfl))) (mvT hZ (hw _ (List.mem_of_getElem? (i := 8) rfl))) (mvT hZ (hw _ (List.mem_of_getElem? (i := 9) rfl))) (mvT hZ (hw _ (List.mem_of_getElem? (i := 10) rfl))) (by decide) (backOf (W := 2) (rmTerm l Z a0 hw (2 : Int32) u2 v2 2 f t h138 n0 Z144 rfl (by decide) hbf hbt) hZ (hw _ (List.mem_of_getElem? (i := 10) rfl)) (hw _ (List.mem_of_getElem? (i := 9) rfl)) (by decide) (by decide)) (g := (mkF m 200 #[.val (.long p0), .second, .val (.long p1), .second, .val (.int p2), .val (.int u0), .val (.int u1), .val (.int u2), .val (.int u3), .val (.int v0), .val (.int v1), .val (.int v2), .val (.int v3), .val (.int (Int32.ofNat f)), .val (.int (Int32.ofNat t)), .val (.ref wa), .val (.ref va), .val (.double r147), .second, .unset, .unset] [(.int v2), (.int u2), (.int (Int32.ofNat t)), (.int (Int32.ofNat f)), (.int (2 : Int32)), (.long ((own_tl 0 f t (u0.toInt64 * v0.toInt64)) + (own_tl 1 f t (u1.toInt64 * v1.toInt64))))])) rfl (by rw [hml]; rfl) (argsL := [(.int (2 : Int32)), (.int (Int32.ofNat f)), (.int (Int32.ofNat t)), (.int u2), (.int v2)]) (rest := [(.long ((own_tl 0 f t (u0.toInt64 * v0.toInt64)) + (own_tl 1 f t (u1.toInt64 * v1.toInt64))))]) (lenOf own_pd41 rfl) rfl (by show 2 * 0 + _ ≤ _; exact Nat.le_of_eq rfl) (hb hby at_200) (fun _ _ => ⟨rfl, e151, (by decide : 2 + 0 ≤ _), (by decide : 8 + 0 ≤ _)⟩)
  dsimp only [Pt.U, Pt.locs, Pt.cells, Pt.slots] at X153 l153 y153 z153 st153 hQ153
  subst l153 y153 z153
  obtain ⟨rfl, N153, e153⟩ := hQ153
  refine GoOn.step st153 ?_
  have N154 := Fr.app N152 N153
  show GoOn p e below (T153.setTop (mkF m 203 #[.val (.long p0), .second, .val (.long p1), .second, .val (.int p2), .val (.int u0), .val (.int u1), .val (.int u2), .val (.int u3), .val (.int v0), .val (.int v1), .val (.int v2), .val (.int v3), .val (.int (Int32.ofNat f)), .val (.int (Int32.ofNat t)), .val (.ref wa), .val (.ref va), .val (.double r147), .second, .unset, .unset] [(.long (own_tl 2 f t (u2.toInt64 * v2.toInt64))), (.long ((own_tl 0 f t (u0.toInt64 * v0.toInt64)) + (own_tl 1 f t (u1.toInt64 * v1.toInt64))))])) _
  refine GoOn.step (fun tq kq => XS.ladd X153.here hx rfl (hb hby at_203) rfl kq) ?_
  show GoOn p e below (T153.setTop (mkF m 204 #[.val (.long p0), .second, .val (.long p1), .second, .val (.int p2), .val (.int u0), .val (.int u1), .val (.int u2), .val (.int u3), .val (.int v0), .val (.int v1), .val (.int v2), .val (.int v3), .val (.int (Int32.ofNat f)), .val (.int (Int32.ofNat t)), .val (.ref wa), .val (.ref va), .val (.double r147), .second, .unset, .unset] [(.long (((own_tl 0 f t (u0.toInt64 * v0.toInt64)) + (own_tl 1 f t (u1.toInt64 * v1.toInt64))) + (own_tl 2 f t (u2.toInt64 * v2.toInt64))))])) _
  refine GoOn.step (fun tq kq => XS.iconst X153.here hx rfl (hb hby at_204) kq) ?_
  show GoOn p e below (T153.setTop (mkF m 205 #[.val (.long p0), .second, .val (.long p1), .second, .val (.int p2), .val (.int u0), .val (.int u1), .val (.int u2), .val (.int u3), .val (.int v0), .val (.int v1), .val (.int v2), .val (.int v3), .val (.int (Int32.ofNat f)), .val (.int (Int32.ofNat t)), .val (.ref wa), .val (.ref va), .val (.double r147), .second, .unset, .unset] [(.int (3 : Int32)), (.long (((own_tl 0 f t (u0.toInt64 * v0.toInt64)) + (own_tl 1 f t (u1.toInt64 * v1.toInt64))) + (own_tl 2 f t (u2.toInt64 * v2.toInt64))))])) _
  refine GoOn.step (fun tq kq => XS.iload X153.here hx rfl (hb hby at_205) rfl kq) ?_
  show GoOn p e below (T153.setTop (mkF m 207 #[.val (.long p0), .second, .val (.long p1), .second, .val (.int p2), .val (.int u0), .val (.int u1), .val (.int u2), .val (.int u3), .val (.int v0), .val (.int v1), .val (.int v2), .val (.int v3), .val (.int (Int32.ofNat f)), .val (.int (Int32.ofNat t)), .val (.ref wa), .val (.ref va), .val (.double r147), .second, .unset, .unset] [(.int (Int32.ofNat f)), (.int (3 : Int32)), (.long (((own_tl 0 f t (u0.toInt64 * v0.toInt64)) + (own_tl 1 f t (u1.toInt64 * v1.toInt64))) + (own_tl 2 f t (u2.toInt64 * v2.toInt64))))])) _
  refine GoOn.step (fun tq kq => XS.iload X153.here hx rfl (hb hby at_207) rfl kq) ?_
  show GoOn p e below (T153.setTop (mkF m 209 #[.val (.long p0), .second, .val (.long p1), .second, .val (.int p2), .val (.int u0), .val (.int u1), .val (.int u2), .val (.int u3), .val (.int v0), .val (.int v1), .val (.int v2), .val (.int v3), .val (.int (Int32.ofNat f)), .val (.int (Int32.ofNat t)), .val (.ref wa), .val (.ref va), .val (.double r147), .second, .unset, .unset] [(.int (Int32.ofNat t)), (.int (Int32.ofNat f)), (.int (3 : Int32)), (.long (((own_tl 0 f t (u0.toInt64 * v0.toInt64)) + (own_tl 1 f t (u1.toInt64 * v1.toInt64))) + (own_tl 2 f t (u2.toInt64 * v2.toInt64))))])) _
  refine GoOn.step (fun tq kq => XS.iload X153.here hx rfl (hb hby at_209) rfl kq) ?_
  show GoOn p e below (T153.setTop (mkF m 211 #[.val (.long p0), .second, .val (.long p1), .second, .val (.int p2), .val (.int u0), .val (.int u1), .val (.int u2), .val (.int u3), .val (.int v0), .val (.int v1), .val (.int v2), .val (.int v3), .val (.int (Int32.ofNat f)), .val (.int (Int32.ofNat t)), .val (.ref wa), .val (.ref va), .val (.double r147), .second, .unset, .unset] [(.int u3), (.int (Int32.ofNat t)), (.int (Int32.ofNat f)), (.int (3 : Int32)), (.long (((own_tl 0 f t (u0.toInt64 * v0.toInt64)) + (own_tl 1 f t (u1.toInt64 * v1.toInt64))) + (own_tl 2 f t (u2.toInt64 * v2.toInt64))))])) _
  refine GoOn.step (fun tq kq => XS.iload X153.here hx rfl (hb hby at_211) rfl kq) ?_
  show GoOn p e below (T153.setTop (mkF m 213 #[.val (.long p0), .second, .val (.long p1), .second, .val (.int p2), .val (.int u0), .val (.int u1), .val (.int u2), .val (.int u3), .val (.int v0), .val (.int v1), .val (.int v2), .val (.int v3), .val (.int (Int32.ofNat f)), .val (.int (Int32.ofNat t)), .val (.ref wa), .val (.ref va), .val (.double r147), .second, .unset, .unset] [(.int v3), (.int u3), (.int (Int32.ofNat t)), (.int (Int32.ofNat f)), (.int (3 : Int32)), (.long (((own_tl 0 f t (u0.toInt64 * v0.toInt64)) + (own_tl 1 f t (u1.toInt64 * v1.toInt64))) + (own_tl 2 f t (u2.toInt64 * v2.toInt64))))])) _
  obtain ⟨_, _, ⟨T155, L155, k155, n155⟩, -, X155, ⟨Lc155, hQ155, l155, y155, z155⟩, st155⟩ := Jvm.LawKit.callS X153 hx (y := (⟨"com/example/patokan/patokan/model/AbilityGridMeanPinLaw", "term", "(IIIII)J"⟩ : MethodName)) hown (mvT hZ (hw _ (List.mem_of_getElem? (i := 7) rfl))) (mvT hZ (hw _ (List.mem_of_getElem? (i := 8) rfl))) (mvT hZ (hw _ (List.mem_of_getElem? (i := 9) rfl))) (mvT hZ (hw _ (List.mem_of_getElem? (i := 10) rfl))) (by decide) (backOf (W := 2) (rmTerm l Z a0 hw (3 : Int32) u3 v3 3 f t h138 n0 Z144 rfl (by decide) hbf hbt) hZ (hw _ (List.mem_of_getElem? (i := 10) rfl)) (hw _ (List.mem_of_getElem? (i := 9) rfl)) (by decide) (by decide)) (g := (mkF m 213 #[.val (.long p0), .second, .val (.long p1), .second, .val (.int p2), .val (.int u0), .val (.int u1), .val (.int u2), .val (.int u3), .val (.int v0), .val (.int v1), .val (.int v2), .val (.int v3), .val (.int (Int32.ofNat f)), .val (.int (Int32.ofNat t)), .val (.ref wa), .val (.ref va), .val (.double r147), .second, .unset, .unset] [(.int v3), (.int u3), (.int (Int32.ofNat t)), (.int (Int32.ofNat f)), (.int (3 : Int32)), (.long (((own_tl 0 f t (u0.toInt64 * v0.toInt64)) + (own_tl 1 f t (u1.toInt64 * v1.toInt64))) + (own_tl 2 f t (u2.toInt64 * v2.toInt64))))])) rfl (by rw [hml]; rfl) (argsL := [(.int (3 : Int32)), (.int (Int32.ofNat f)), (.int (Int32.ofNat t)), (.int u3), (.int v3)]) (rest := [(.long (((own_tl 0 f t (u0.toInt64 * v0.toInt64)) + (own_tl 1 f t (u1.toInt64 * v1.toInt64))) + (own_tl 2 f t (u2.toInt64 * v2.toInt64))))]) (lenOf own_pd41 rfl) rfl (by show 2 * 0 + _ ≤ _; exact Nat.le_of_eq rfl) (hb hby at_213) (fun _ _ => ⟨rfl, e153, (by decide : 2 + 0 ≤ _), (by decide : 8 + 0 ≤ _)⟩)
  dsimp only [Pt.U, Pt.locs, Pt.cells, Pt.slots] at X155 l155 y155 z155 st155 hQ155
  subst l155 y155 z155
  obtain ⟨rfl, N155, e155⟩ := hQ155
  refine GoOn.step st155 ?_
  have N156 := Fr.app N154 N155
  show GoOn p e below (T155.setTop (mkF m 216 #[.val (.long p0), .second, .val (.long p1), .second, .val (.int p2), .val (.int u0), .val (.int u1), .val (.int u2), .val (.int u3), .val (.int v0), .val (.int v1), .val (.int v2), .val (.int v3), .val (.int (Int32.ofNat f)), .val (.int (Int32.ofNat t)), .val (.ref wa), .val (.ref va), .val (.double r147), .second, .unset, .unset] [(.long (own_tl 3 f t (u3.toInt64 * v3.toInt64))), (.long (((own_tl 0 f t (u0.toInt64 * v0.toInt64)) + (own_tl 1 f t (u1.toInt64 * v1.toInt64))) + (own_tl 2 f t (u2.toInt64 * v2.toInt64))))])) _
  refine GoOn.step (fun tq kq => XS.ladd X155.here hx rfl (hb hby at_216) rfl kq) ?_
  show GoOn p e below (T155.setTop (mkF m 217 #[.val (.long p0), .second, .val (.long p1), .second, .val (.int p2), .val (.int u0), .val (.int u1), .val (.int u2), .val (.int u3), .val (.int v0), .val (.int v1), .val (.int v2), .val (.int v3), .val (.int (Int32.ofNat f)), .val (.int (Int32.ofNat t)), .val (.ref wa), .val (.ref va), .val (.double r147), .second, .unset, .unset] [(.long ((((own_tl 0 f t (u0.toInt64 * v0.toInt64)) + (own_tl 1 f t (u1.toInt64 * v1.toInt64))) + (own_tl 2 f t (u2.toInt64 * v2.toInt64))) + (own_tl 3 f t (u3.toInt64 * v3.toInt64))))])) _
  obtain ⟨hr1, hr2⟩ := own_ref (f := f) (t := t) T0_ T1_ T2_ T3_ B0 B1 B2 B3
  generalize hgr : ((((own_tl 0 f t (u0.toInt64 * v0.toInt64)) + (own_tl 1 f t (u1.toInt64 * v1.toInt64))) + (own_tl 2 f t (u2.toInt64 * v2.toInt64))) + (own_tl 3 f t (u3.toInt64 * v3.toInt64))) = rf
  show GoOn p e below (T155.setTop (mkF m 217 #[.val (.long p0), .second, .val (.long p1), .second, .val (.int p2), .val (.int u0), .val (.int u1), .val (.int u2), .val (.int u3), .val (.int v0), .val (.int v1), .val (.int v2), .val (.int v3), .val (.int (Int32.ofNat f)), .val (.int (Int32.ofNat t)), .val (.ref wa), .val (.ref va), .val (.double r147), .second, .unset, .unset] [(.long rf)])) _
  rw [hgr] at hr1
  have L1 : Rep (Jvm.FP.l2d rf) (rf.toInt * 65536) := Rep.l2d rf (by omega)
  have L2 : Rep (Jvm.FP.ddiv (Jvm.FP.l2d rf) (4679240012837945344 : UInt64)) rf.toInt := Rep.divK L1 (by omega)
  rw [hr1] at L2
  refine GoOn.step (fun tq kq => XS.lstore X155.here hx rfl (hb hby at_217) rfl (l' := #[.val (.long p0), .second, .val (.long p1), .second, .val (.int p2), .val (.int u0), .val (.int u1), .val (.int u2), .val (.int u3), .val (.int v0), .val (.int v1), .val (.int v2), .val (.int v3), .val (.int (Int32.ofNat f)), .val (.int (Int32.ofNat t)), .val (.ref wa), .val (.ref va), .val (.double r147), .second, .val (.long rf), .second]) rfl kq) ?_
  show GoOn p e below (T155.setTop (mkF m 219 #[.val (.long p0), .second, .val (.long p1), .second, .val (.int p2), .val (.int u0), .val (.int u1), .val (.int u2), .val (.int u3), .val (.int v0), .val (.int v1), .val (.int v2), .val (.int v3), .val (.int (Int32.ofNat f)), .val (.int (Int32.ofNat t)), .val (.ref wa), .val (.ref va), .val (.double r147), .second, .val (.long rf), .second] [])) _
  refine GoOn.step (fun tq kq => XS.dload X155.here hx rfl (hb hby at_219) rfl kq) ?_
  show GoOn p e below (T155.setTop (mkF m 221 #[.val (.long p0), .second, .val (.long p1), .second, .val (.int p2), .val (.int u0), .val (.int u1), .val (.int u2), .val (.int u3), .val (.int v0), .val (.int v1), .val (.int v2), .val (.int v3), .val (.int (Int32.ofNat f)), .val (.int (Int32.ofNat t)), .val (.ref wa), .val (.ref va), .val (.double r147), .second, .val (.long rf), .second] [(.double r147)])) _
  refine GoOn.step (fun tq kq => XS.lload X155.here hx rfl (hb hby at_221) rfl kq) ?_
  show GoOn p e below (T155.setTop (mkF m 223 #[.val (.long p0), .second, .val (.long p1), .second, .val (.int p2), .val (.int u0), .val (.int u1), .val (.int u2), .val (.int u3), .val (.int v0), .val (.int v1), .val (.int v2), .val (.int v3), .val (.int (Int32.ofNat f)), .val (.int (Int32.ofNat t)), .val (.ref wa), .val (.ref va), .val (.double r147), .second, .val (.long rf), .second] [(.long rf), (.double r147)])) _
  refine GoOn.step (fun tq kq => XS.l2dS X155.here hx rfl (hb hby at_223) rfl (v := (Jvm.FP.l2d rf)) rfl kq) ?_
  show GoOn p e below (T155.setTop (mkF m 224 #[.val (.long p0), .second, .val (.long p1), .second, .val (.int p2), .val (.int u0), .val (.int u1), .val (.int u2), .val (.int u3), .val (.int v0), .val (.int v1), .val (.int v2), .val (.int v3), .val (.int (Int32.ofNat f)), .val (.int (Int32.ofNat t)), .val (.ref wa), .val (.ref va), .val (.double r147), .second, .val (.long rf), .second] [(.double (Jvm.FP.l2d rf)), (.double r147)])) _
  refine GoOn.step (fun tq kq => X155.ldc2DoubleC hx hown (mvT hZ (hw _ (List.mem_of_getElem? (i := 2) rfl))) (g := (mkF m 224 #[.val (.long p0), .second, .val (.long p1), .second, .val (.int p2), .val (.int u0), .val (.int u1), .val (.int u2), .val (.int u3), .val (.int v0), .val (.int v1), .val (.int v2), .val (.int v3), .val (.int (Int32.ofNat f)), .val (.int (Int32.ofNat t)), .val (.ref wa), .val (.ref va), .val (.double r147), .second, .val (.long rf), .second] [(.double (Jvm.FP.l2d rf)), (.double r147)])) rfl (hb hby at_224) _ kq) ?_
  show GoOn p e below (T155.setTop (mkF m 227 #[.val (.long p0), .second, .val (.long p1), .second, .val (.int p2), .val (.int u0), .val (.int u1), .val (.int u2), .val (.int u3), .val (.int v0), .val (.int v1), .val (.int v2), .val (.int v3), .val (.int (Int32.ofNat f)), .val (.int (Int32.ofNat t)), .val (.ref wa), .val (.ref va), .val (.double r147), .second, .val (.long rf), .second] [(.double (4679240012837945344 : UInt64)), (.double (Jvm.FP.l2d rf)), (.double r147)])) _
  refine GoOn.step (fun tq kq => XS.ddivS X155.here hx rfl (hb hby at_227) rfl L2.no (v := (Jvm.FP.ddiv (Jvm.FP.l2d rf) (4679240012837945344 : UInt64))) rfl kq) ?_
  show GoOn p e below (T155.setTop (mkF m 228 #[.val (.long p0), .second, .val (.long p1), .second, .val (.int p2), .val (.int u0), .val (.int u1), .val (.int u2), .val (.int u3), .val (.int v0), .val (.int v1), .val (.int v2), .val (.int v3), .val (.int (Int32.ofNat f)), .val (.int (Int32.ofNat t)), .val (.ref wa), .val (.ref va), .val (.double r147), .second, .val (.long rf), .second] [(.double (Jvm.FP.ddiv (Jvm.FP.l2d rf) (4679240012837945344 : UInt64))), (.double r147)])) _
  refine GoOn.step (fun tq kq => XS.dcmpS X155.here hx rfl (hb hby at_228) rfl (v := (0 : Int32)) (by rw [Rep.same Rr147 L2]; rfl) kq) ?_
  show GoOn p e below (T155.setTop (mkF m 229 #[.val (.long p0), .second, .val (.long p1), .second, .val (.int p2), .val (.int u0), .val (.int u1), .val (.int u2), .val (.int u3), .val (.int v0), .val (.int v1), .val (.int v2), .val (.int v3), .val (.int (Int32.ofNat f)), .val (.int (Int32.ofNat t)), .val (.ref wa), .val (.ref va), .val (.double r147), .second, .val (.long rf), .second] [(.int (0 : Int32))])) _
  refine GoOn.step (fun tq kq => XS.ifNo X155.here hx rfl (hb hby at_229) rfl ((if0 _ _).trans (teq rfl).2) kq) ?_
  show GoOn p e below (T155.setTop (mkF m 232 #[.val (.long p0), .second, .val (.long p1), .second, .val (.int p2), .val (.int u0), .val (.int u1), .val (.int u2), .val (.int u3), .val (.int v0), .val (.int v1), .val (.int v2), .val (.int v3), .val (.int (Int32.ofNat f)), .val (.int (Int32.ofNat t)), .val (.ref wa), .val (.ref va), .val (.double r147), .second, .val (.long rf), .second] [])) _
  refine GoOn.step (fun tq kq => XS.iconst X155.here hx rfl (hb hby at_232) kq) ?_
  show GoOn p e below (T155.setTop (mkF m 233 #[.val (.long p0), .second, .val (.long p1), .second, .val (.int p2), .val (.int u0), .val (.int u1), .val (.int u2), .val (.int u3), .val (.int v0), .val (.int v1), .val (.int v2), .val (.int v3), .val (.int (Int32.ofNat f)), .val (.int (Int32.ofNat t)), .val (.ref wa), .val (.ref va), .val (.double r147), .second, .val (.long rf), .second] [(.int (1 : Int32))])) _
  refine GoOn.step (fun tq kq => XS.goto X155.here hx rfl (pc0 := 233) (pc' := 237) rfl (hb hby at_233) (by decide) (by decide) kq) ?_
  show GoOn p e below (T155.setTop (mkF m 237 #[.val (.long p0), .second, .val (.long p1), .second, .val (.int p2), .val (.int u0), .val (.int u1), .val (.int u2), .val (.int u3), .val (.int v0), .val (.int v1), .val (.int v2), .val (.int v3), .val (.int (Int32.ofNat f)), .val (.int (Int32.ofNat t)), .val (.ref wa), .val (.ref va), .val (.double r147), .second, .val (.long rf), .second] [(.int (1 : Int32))])) _
  refine GoOn.ret X155 Bd.notSynchronized (v := some (.int (nar .boolean (1 : Int32)))) (fun h => by rw [Bd.returns] at h; cases h) (fun fs hr => retN X155 hx (t := .boolean) Bd.returns (by simp) (hb hby at_237) hr) (by decide) (by decide) ?_
  rw [e155]
  exact ⟨rfl, N156⟩
set_option maxRecDepth 65536 in
set_option maxHeartbeats 40000000 in
theorem comes_1 {Post : Tables → Env → Array Value → State → Outcome → State → Prop} (hpost : ∀ tb e args s v u, (limb_1_1.after args s (.returned v) u = true ∧ limb_1_2.after args s (.returned v) u = true ∧ True) → FrameEnd s (.returned v) u (Jvm.fieldLocs frame_1_writes args s ++ Jvm.arrayLocs frame_1_arrays args s ++ Jvm.staticLocs frame_1_statics s) 16 128 → Post tb e args s (.returned v) u) :
    ArmFor flags0 classFile x code maxLocals ret World_1 tables_1 room_1 Calls_1 rest_1 Pre_1 Post := by
  intro l hfl _ _ p e ha hc hk s m args below hf hA hF happ hP
  obtain ⟨hcalls, hrest, hpre⟩ := hP
  obtain ⟨-, -, -, hnamed, -, -, -, hat⟩ := (Spec.applies_iff hf).mp happ
  obtain ⟨hg, hn⟩ := and_e (Cond.before_iff.mp (show (Jvm.Cond.and given_1 narrow_1).before args s = true from hpre))
  obtain ⟨hcount, hg0⟩ := and_e hg
  obtain ⟨ha0, hg1⟩ := and_e hg0
  obtain ⟨ha1, hg2⟩ := and_e hg1
  obtain ⟨w0, w1, w2, rfl⟩ : ∃ w0 w1 w2 : Value, args = #[w0, w1, w2] := by
    have hs : args.size = 3 := by simpa [Cond.value, given_1] using hcount
    obtain ⟨L⟩ := args
    match L, hs with
    | [w0, w1, w2], _ => exact ⟨w0, w1, w2, rfl⟩
  have hw := fun d (hd : d ∈ tables_1) => atoms_spec (ws := Jvm.Cond.code x code maxLocals ret :: tables_1) hat d (List.mem_cons_of_mem _ hd)
  have hfit : Fit s := fun {y c} hc i hi => by
    obtain ⟨ha, rfl⟩ := Array.getElem?_eq_some_iff.mp hc
    have q := List.all_eq_true.mp ((Array.all_eq_true_iff_forall_mem.mp hF) _ (Array.getElem_mem ha)) i (List.mem_range.mpr hi)
    simpa [Array.getElem?_eq_getElem hi] using q
  obtain ⟨i0, ei0⟩ := isL_v ha0
  obtain rfl : w0 = (.long i0) := Option.some.inj ei0
  obtain ⟨i1, ei1⟩ := isL_v ha1
  obtain rfl : w1 = (.long i1) := Option.some.inj ei1
  obtain ⟨i2, ei2⟩ := is_v hg2
  obtain rfl : w2 = (.int i2) := Option.some.inj ei2
  obtain ⟨n, o, h1, h2, h3, _, L, rfl, ⟨rfl, N⟩, hq⟩ := rm0 l s _ hw tables_1 i0 i1 i2  s.heap s.heap.size (Nat.le_refl _) (Old.start s) p e ha hc hk s m _ below hf ((Spec.applies_iff_loose hf).mp happ).1 ⟨rfl, State.Warmed39.refl s, rfl⟩ trivial
  refine ⟨n, _, h1, h2, h3, hpost _ _ _ _ _ _ ⟨Cond.after_iff.mpr rfl, Cond.after_iff.mpr (eq_i res_at (Term.int_eval (1)) rfl), trivial⟩ ⟨hq.1, hq.2.1, (hq.2.2.sift fun y hy => Or.inr (N y hy)).mono (by decide) (by decide)⟩⟩
theorem main_1_1 : Claimed_1_1 := comes_1 fun _ _ _ _ _ _ h hF => ⟨h.1, hF⟩
theorem main_1_2 : Claimed_1_2 := comes_1 fun _ _ _ _ _ _ h hF => ⟨h.2.1, hF⟩
end Jvm.Pilot.@@N@@
namespace Jvm.Pilot.@@N@@
open Jvm Jvm.ClassFile Sem Op Lib Jvm.Free Jvm.Stand Jvm.Pilot.@@N@@.Jvm.D
/-! MADE BY PROGRAM (witnessworld.py) out of the Statement's table words and the real class files: 11 classes; the members and pool entries that the words name. The judged class is class 1, her method 1. -/
namespace start1
open Jvm.ClassFile
def u (s : String) : CpInfo := .utf8 (stringToUtf16 s)
/-- a pool by its gaps: so many unusable entries, then the entry; so many at the end -/
def gap : Nat → List CpInfo → List CpInfo
  | 0, r => r
  | n + 1, r => .unusable :: gap n r
def poolList (es : List (Nat × CpInfo)) (last : Nat) : List CpInfo := es.foldr (fun e r => gap e.1 (e.2 :: r)) (gap last [])
def pool (es : List (Nat × CpInfo)) (last : Nat) : Array CpInfo := ⟨poolList es last⟩
def fileOf (pool : Array CpInfo) (this : Nat) (attrs : Array Attribute := #[]) (ms : Array MethodInfo := #[]) (fl : Nat := 33) (sup : Nat := 0) (ifs : Array Nat := #[]) (fds : Array FieldInfo := #[]) : ClassFile where
  minorVersion := 0
  majorVersion := 65
  constantPool := pool
  accessFlags := fl
  thisClass := this
  superClass := sup
  interfaces := ifs
  fields := fds
  methods := ms
  attributes := attrs
def plain (name : String) (sup : Option ClassId) : Class where
  name := name
  kind := .ordinary
  loader := none
  accessFlags := 33
  super := sup
  interfaces := #[]
  cf := none
  fields := #[]
  methods := #[]
  instanceTypes := #[]
  staticTypes := #[]
  resolved := #[]
  callSites := []
  init := .initialized
  statics := none
  mirror := none

def pool0 : Array CpInfo := pool [(5, u "<init>"), (0, u "()V"), (1, .class_ 10), (1, u "java/lang/Object")] 113

def k0m0 : Method := { name := "<init>", desc := "()V", sig := { parameters := [], returnType := none }, accessFlags := 1, code := none }
/-- java/lang/Object -/
def k0 : Class := { plain "java/lang/Object" none with
  accessFlags := 33
  interfaces := #[]
  cf := some (fileOf pool0 8 #[] #[{ accessFlags := 1, nameIndex := 5, descriptorIndex := 6, attributes := #[] }] 33 0 #[] #[])
  fields := #[]
  methods := #[k0m0]
  instanceTypes := #[]
  staticTypes := #[]
  resolved := Array.replicate 124 none
  statics := none }

def pool1 : Array CpInfo := pool [(2, .class_ 4), (1, u "java/lang/Object"), (0, u "<init>"), (0, u "()V"), (0, .integer 2147483647), (0, .double 4679240012837945344), (1, .methodref 11 12), (0, .class_ 13), (0, .nameAndType 14 15), (0, u "com/example/patokan/patokan/model/AbilityGrid"), (0, u "mean"), (0, u "([D[DII)D"), (0, .methodref 17 18), (0, .class_ 19), (0, .nameAndType 20 21), (0, u "com/example/patokan/patokan/model/AbilityGridMeanPinLaw"), (0, u "term"), (0, u "(IIIII)J"), (2, u "law"), (0, u "(JJI)Z")] 5

def k1m0 : Method := { name := "<init>", desc := "()V", sig := { parameters := [], returnType := none }, accessFlags := 1, code := none }
def k1c1 : Code := { maxStack := 7, maxLocals := 21, code := code, exceptionTable := #[], attributes := #[] }
def k1m1 : Method := { name := "law", desc := "(JJI)Z", sig := { parameters := [.long, .long, .int], returnType := some .boolean }, accessFlags := 9, code := some k1c1 }
def k1c2 : Code := { maxStack := 4, maxLocals := 5, code := method_3_code, exceptionTable := #[], attributes := #[] }
def k1m2 : Method := { name := "term", desc := "(IIIII)J", sig := { parameters := [.int, .int, .int, .int, .int], returnType := some .long }, accessFlags := 10, code := some k1c2 }
/-- com/example/patokan/patokan/model/AbilityGridMeanPinLaw -/
def k1 : Class := { plain "com/example/patokan/patokan/model/AbilityGridMeanPinLaw" (some 0) with
  accessFlags := 49
  interfaces := #[]
  cf := some (fileOf pool1 17 #[] #[{ accessFlags := 1, nameIndex := 5, descriptorIndex := 6, attributes := #[] }, { accessFlags := 9, nameIndex := 24, descriptorIndex := 25, attributes := #[] }, { accessFlags := 10, nameIndex := 20, descriptorIndex := 21, attributes := #[] }] 49 2 #[] #[])
  fields := #[]
  methods := #[k1m0, k1m1, k1m2]
  instanceTypes := #[]
  staticTypes := #[]
  resolved := Array.replicate 31 none
  statics := none }

def pool2 : Array CpInfo := pool [(2, .class_ 4), (1, u "java/lang/Object"), (0, u "<init>"), (0, u "()V"), (0, .class_ 8), (0, u "com/example/patokan/patokan/model/AbilityGrid"), (2, u "POINTS"), (0, u "[D"), (2, u "LOG_PRIOR"), (7, u "mean"), (0, u "([D[DII)D"), (26, u "SIZE"), (0, u "I"), (2, u "LOWEST"), (0, u "D"), (0, u "HIGHEST")] 17

def k2m0 : Method := { name := "<init>", desc := "()V", sig := { parameters := [], returnType := none }, accessFlags := 2, code := none }
def k2c1 : Code := { maxStack := 6, maxLocals := 7, code := prog_41_method_6_code, exceptionTable := #[], attributes := #[] }
def k2m1 : Method := { name := "mean", desc := "([D[DII)D", sig := { parameters := [(.array .double), (.array .double), .int, .int], returnType := some .double }, accessFlags := 8, code := some k2c1 }
/-- com/example/patokan/patokan/model/AbilityGrid -/
def k2 : Class := { plain "com/example/patokan/patokan/model/AbilityGrid" (some 0) with
  accessFlags := 48
  interfaces := #[]
  cf := some (fileOf pool2 7 #[] #[{ accessFlags := 2, nameIndex := 5, descriptorIndex := 6, attributes := #[] }, { accessFlags := 8, nameIndex := 23, descriptorIndex := 24, attributes := #[] }] 48 2 #[] #[{ accessFlags := 26, nameIndex := 51, descriptorIndex := 52, attributes := #[] }, { accessFlags := 26, nameIndex := 55, descriptorIndex := 56, attributes := #[] }, { accessFlags := 26, nameIndex := 57, descriptorIndex := 56, attributes := #[] }, { accessFlags := 26, nameIndex := 11, descriptorIndex := 12, attributes := #[] }, { accessFlags := 26, nameIndex := 15, descriptorIndex := 12, attributes := #[] }])
  fields := #[{ name := "SIZE", type := .int, accessFlags := 26, slot := 0, constantValue := 0 }, { name := "LOWEST", type := .double, accessFlags := 26, slot := 1, constantValue := 0 }, { name := "HIGHEST", type := .double, accessFlags := 26, slot := 2, constantValue := 0 }, { name := "POINTS", type := (.array .double), accessFlags := 26, slot := 3, constantValue := 0 }, { name := "LOG_PRIOR", type := (.array .double), accessFlags := 26, slot := 4, constantValue := 0 }]
  methods := #[k2m0, k2m1]
  instanceTypes := #[]
  staticTypes := #[.int, .double, .double, (.array .double), (.array .double)]
  resolved := Array.replicate 75 none
  statics := none }

def pool3 : Array CpInfo := pool [(1, u "java/lang/Cloneable"), (0, .class_ 1), (0, u "java/lang/Object"), (0, .class_ 3)] 3

/-- java/lang/Cloneable -/
def k3 : Class := { plain "java/lang/Cloneable" (some 0) with
  accessFlags := 1537
  interfaces := #[]
  cf := some (fileOf pool3 2 #[] #[] 1537 4 #[] #[])
  fields := #[]
  methods := #[]
  instanceTypes := #[]
  staticTypes := #[]
  resolved := Array.replicate 8 none
  statics := none }

def pool4 : Array CpInfo := pool [(1, u "java/io/Serializable"), (0, .class_ 1), (0, u "java/lang/Object"), (0, .class_ 3)] 3

/-- java/io/Serializable -/
def k4 : Class := { plain "java/io/Serializable" (some 0) with
  accessFlags := 1537
  interfaces := #[]
  cf := some (fileOf pool4 2 #[] #[] 1537 4 #[] #[])
  fields := #[]
  methods := #[]
  instanceTypes := #[]
  staticTypes := #[]
  resolved := Array.replicate 8 none
  statics := none }

/-- the primitive byte -/
def k5 : Class := { plain "byte" none with kind := .primitive 'B', accessFlags := 0x411 }
/-- [B -/
def k6 : Class := { plain "[B" (some 0) with kind := .array 5 .byte, interfaces := #[3, 4], accessFlags := 1041 }

/-- the primitive double -/
def k7 : Class := { plain "double" none with kind := .primitive 'D', accessFlags := 0x411 }
/-- [D -/
def k8 : Class := { plain "[D" (some 0) with kind := .array 7 .double, interfaces := #[3, 4], accessFlags := 1041 }

/-- the primitive int -/
def k9 : Class := { plain "int" none with kind := .primitive 'I', accessFlags := 0x411 }
/-- [I -/
def k10 : Class := { plain "[I" (some 0) with kind := .array 9 .int, interfaces := #[3, 4], accessFlags := 1041 }

def heap : Heap := #[]
def classes : Array Class := #[k0, k1, k2, k3, k4, k5, k6, k7, k8, k9, k10]
def interned : List (Array UInt16 × Addr) := []
def slotsUsed : Nat := 0
def theMethod : MethodId := ⟨1, 1⟩
def args0 : Array Value := #[.long 5, .long 5, .int 5]
def aboutOver (below : List Frame) : State where
  vm := { classes := classes, interned := interned.toArray }
  heap := heap
  slotsUsed := slotsUsed
  threads := #[{ frames := .invoking theMethod args0 :: below }]
def below0 : List Frame := [.native { method := ⟨0, 0⟩, args := #[] }]
def about1 : State := aboutOver below0
def p0 : Program := .bare "" "" ""
def e0 : Env := launch0.env 0 0 0
theorem w_frames : about1.frames = Frame.invoking theMethod args0 :: below0 := rfl
set_option maxRecDepth 65536 in
theorem w_args : argsFit about1.vm theMethod args0 = true := by decide +kernel
set_option maxRecDepth 65536 in
theorem w_heap : heapFits about1 = true := by decide +kernel
set_option maxRecDepth 65536 in
theorem w_runnable : about1.curStatus? = some .runnable := by decide +kernel
set_option maxRecDepth 65536 in
theorem w_alone : about1.alone = true := by decide +kernel
set_option maxRecDepth 65536 in
theorem w_named : about1.methodNamed? x = some theMethod := by decide +kernel
set_option maxRecDepth 65536 in
theorem w_hears : about1.hears theMethod below0 = true := by decide +kernel
set_option maxRecDepth 65536 in
theorem w_ripe : about1.ripe theMethod args0 below0 = true := by decide +kernel
theorem w_running : about1.status = .running := rfl
set_option maxRecDepth 65536 in
theorem w_room : about1.hasRoom e0.platform room_1 = true :=
  launch0.hasRoom_least _ room_1 (by decide +kernel) (by decide +kernel) (by decide +kernel) (by decide +kernel) (by decide +kernel) (by decide +kernel)
theorem allAtoms_all (ts : List Jvm.Cond) (a : Array Jvm.Value) (st : Jvm.State) : (allAtoms ts).before a st = ts.all (fun c => c.before a st) := by
  induction ts with
  | nil => rfl
  | cons c t ih =>
    show (Jvm.Cond.and c (allAtoms t)).before a st = _
    rw [Jvm.Cond.before_and, ih, List.all_cons]
def words1 : List Jvm.Cond := Jvm.Cond.code x code maxLocals ret :: tables_1
/-- a 'code' word, met by the world's own term for the bytes: nothing is compared byte by byte -/
theorem code_word {y : MethodName} {bytes : ByteArray} {mx : Nat} {rt : Option FieldType} {a : Array Value} {s : State} {m : MethodId} {meth : Method} {c : Code} (h1 : s.methodNamed? y = some m) (h2 : s.vm.method? m = some meth) (h3 : meth.code = some c) (h4 : c.code = bytes)
    (h5 : (c.maxLocals == mx && c.exceptionTable.isEmpty && decide (c.maxStack ≤ mostOperands) && decide (meth.sig.returnType = rt) && !meth.locks && decide (parseMethodDescriptor y.desc = some meth.sig)) = true) : (Jvm.Cond.code y bytes mx rt).before a s = true := by
  simp only [Bool.and_eq_true, beq_iff_eq, Bool.not_eq_true', decide_eq_true_eq] at h5
  obtain ⟨⟨⟨⟨⟨g1, g2⟩, g3⟩, g4⟩, g5⟩, g6⟩ := h5
  simp [Cond.before, Cond.holds, Cond.value, h1, h2, h3, h4, g1, g2, g3, g4, g5, g6]
def isCode : Jvm.Cond → Bool
  | .code _ _ _ _ => true
  | _ => false
theorem all_split {L : List Jvm.Cond} {P : Jvm.Cond → Bool} (h1 : L.all (fun c => isCode c || P c) = true) (h2 : ∀ c ∈ L.filter isCode, P c = true) : L.all P = true := by
  refine List.all_eq_true.mpr fun c hc => ?_
  have h := List.all_eq_true.mp h1 c hc
  rcases Bool.eq_false_or_eq_true (isCode c) with hi | hi
  · exact h2 c (List.mem_filter.mpr ⟨hc, hi⟩)
  · simpa [hi] using h
set_option maxRecDepth 65536 in
theorem w_c0 : (Jvm.Cond.code x code maxLocals ret).before args0 about1 = true := code_word (m := ⟨1, 1⟩) (meth := k1m1) (c := k1c1) (by decide +kernel) rfl rfl rfl (by decide +kernel)
set_option maxRecDepth 65536 in
theorem w_c1 : (Jvm.Cond.code ({ cls := "com/example/patokan/patokan/model/AbilityGrid", name := "mean", desc := "([D[DII)D" } : Jvm.MethodName) prog_41_method_6_code (7 : Nat) (Option.some Jvm.ClassFile.FieldType.double)).before args0 about1 = true := code_word (m := ⟨2, 1⟩) (meth := k2m1) (c := k2c1) (by decide +kernel) rfl rfl rfl (by decide +kernel)
set_option maxRecDepth 65536 in
theorem w_c2 : (Jvm.Cond.code ({ cls := "com/example/patokan/patokan/model/AbilityGridMeanPinLaw", name := "term", desc := "(IIIII)J" } : Jvm.MethodName) method_3_code (5 : Nat) (Option.some Jvm.ClassFile.FieldType.long)).before args0 about1 = true := code_word (m := ⟨1, 2⟩) (meth := k1m2) (c := k1c2) (by decide +kernel) rfl rfl rfl (by decide +kernel)
def codes1 : List Jvm.Cond := [Jvm.Cond.code x code maxLocals ret, Jvm.Cond.code ({ cls := "com/example/patokan/patokan/model/AbilityGrid", name := "mean", desc := "([D[DII)D" } : Jvm.MethodName) prog_41_method_6_code (7 : Nat) (Option.some Jvm.ClassFile.FieldType.double), Jvm.Cond.code ({ cls := "com/example/patokan/patokan/model/AbilityGridMeanPinLaw", name := "term", desc := "(IIIII)J" } : Jvm.MethodName) method_3_code (5 : Nat) (Option.some Jvm.ClassFile.FieldType.long)]
set_option maxRecDepth 65536 in
theorem codes_eq : words1.filter isCode = codes1 := rfl
theorem w_codes : ∀ c ∈ words1.filter isCode, c.before args0 about1 = true := by
  rw [codes_eq]
  intro c hc
  simp only [codes1, List.mem_cons, List.not_mem_nil, or_false] at hc
  rcases hc with rfl | rfl | rfl
  · exact w_c0
  · exact w_c1
  · exact w_c2
set_option maxRecDepth 65536 in
theorem w_t1 : words1.all (fun c => isCode c || c.before args0 about1) = true := by decide +kernel
theorem w_tables : (allAtoms (Jvm.Cond.code x code maxLocals ret :: tables_1)).before args0 about1 = true := by
  rw [allAtoms_all]
  show words1.all (fun c => c.before args0 about1) = true
  refine all_split ?_ w_codes
  rw [w_t1]
set_option maxRecDepth 65536 in
theorem w_case : (Jvm.Cond.and given_1 narrow_1).before args0 about1 = true := by decide +kernel
theorem w_applies : (headSpec (Jvm.Cond.code x code maxLocals ret :: tables_1) room_1).applies x e0.platform about1 = true :=
  (Spec.applies_iff w_frames).mpr ⟨w_running, w_runnable, w_alone, w_named, w_hears, w_ripe, w_room, w_tables⟩
theorem atStart : AtStart classFile x code maxLocals ret World_1 tables_1 room_1 Calls_1 rest_1 Pre_1 launch0 p0 e0 about1 theMethod args0 below0 :=
  ⟨lists_1, trivial, launch0.admits_env _ _ _, launch0.least_env, fairChoices_fair.cas, fairChoices_fair.clock, w_frames, w_args, w_heap, w_applies, trivial, trivial, w_case⟩
end start1
theorem witness_1 : WitnessClaimed_1 := ⟨start1.p0, start1.e0, start1.about1, start1.theMethod, start1.args0, start1.below0, start1.atStart⟩
end Jvm.Pilot.@@N@@
