import JvmDerived
import JvmDerived.Pilot.@@N@@Statement
import JvmDerived.Pilot.@@N@@Code
set_option linter.unusedVariables false
set_option linter.unusedSimpArgs false
namespace Jvm.RoadKit
open Sem ClassFile Op Lib Jvm.Stand Jvm.Free Jvm.LawKit
section New
variable {p : Program} {l : Launch} {e : Env} {R : Room} {s : State} {m : MethodId} {args : Array Value} {below : List Frame} {meth : Method} {c : Code} {T : State} {locs : List Loc} {cells slots : Nat}
theorem retI (X : Stand p l e R s m args below meth c T locs cells slots) (hx : p.tables.exec = Jvm.exec) {pc : Nat} {Ls : Array Slot} {z : Int32} {rest : List Value} (hret : meth.sig.returnType = some .int) (hd : decode c.code pc = .ok (.ireturn, 1)) {fs : List Frame}
    (hl : ∀ (f : JFrame) (acts : List Action), f.method = m → f.locked = none → f.entered = [] → (doReturn e (T.setTop f) acts (some (.int z))).1 = T.setFrames fs) : Steps p.tables e below (T.setTop (mkF m pc Ls (.int z :: rest))) (T.setFrames fs) := by
  have hm' : T.vm.method? m = some meth := X.method'
  have hn : narrow .int (.int z) = .int z := rfl
  show Steps p.tables e below (T.setTop { method := m, pc := pc, locals := Ls, stack := _ :: rest, locked := none }) _
  jvm_step X.here [X.here.top, hx, hd, hm', hret, hn]
  first | (intro acts; rw [hl _ acts rfl rfl rfl]) | rw [hl _ _ rfl rfl rfl]
  exact Steps.refl _
theorem gwLrem {tb : Tables} [Ours tb] {e : Env} {below : List Frame} {T target : State} {m : MethodId} {c : Code} {g : JFrame} (h : At T m c below) (hx : tb.exec = Jvm.exec) (hg : g.method = m) {x y : Int64} {rest : List Value} (hd : decode c.code g.pc = .ok (.lrem, 1)) (hs : g.stack = .long y :: .long x :: rest) (hy : y ≠ 0)
    (hr : Steps tb e below (T.setTop { g with pc := g.pc + 1, stack := .long (x % y) :: rest }) target) : Steps tb e below (T.setTop g) target :=
  XS.lrem h hx hg hd hs hy (by rw [lrem_mod]; exact hr)
theorem gwIrem {tb : Tables} [Ours tb] {e : Env} {below : List Frame} {T target : State} {m : MethodId} {c : Code} {g : JFrame} (h : At T m c below) (hx : tb.exec = Jvm.exec) (hg : g.method = m) {x y : Int32} {rest : List Value} (hd : decode c.code g.pc = .ok (.irem, 1)) (hs : g.stack = .int y :: .int x :: rest) (hy : y ≠ 0)
    (hr : Steps tb e below (T.setTop { g with pc := g.pc + 1, stack := .int (x % y) :: rest }) target) : Steps tb e below (T.setTop g) target :=
  XS.irem h hx hg hd hs hy (by rw [Jvm.irem_eq_mod]; exact hr)
end New
end Jvm.RoadKit
@@BLOCK:NumsL.lean.txt@@
namespace Jvm.Pilot.@@N@@
open Jvm Jvm.ClassFile Sem Op Lib Jvm.Free Jvm.Stand Jvm.LawKit Jvm.RoadKit Bundle Jvm.Pilot.@@N@@.Jvm.D

section DVs
open Jvm.FP.Core
/-- the double a is finite and is the number i * 2 ^ (n - 1074) -/
def DV (i : Int) (n : Nat) (a : UInt64) : Prop := (∃ s c q, val64 a = .fin s c q) ∧ zval b64 (val64 a) = i * ((2 ^ n : Nat) : Int)
theorem dv_up {i : Int} {n k : Nat} {a : UInt64} (h : DV i (n + k) a) : DV (i * ((2 ^ k : Nat) : Int)) n a := by
  refine ⟨h.1, ?_⟩
  rw [h.2, Nat.pow_add, Int.mul_assoc]
  congr 1
  rw [Nat.mul_comm]; push_cast; first | rfl | done
theorem round_units {s : Bool} {c : Nat} {q b : Int} {M n : Nat} (hb : b ≤ q) (h : c * 2 ^ (q - b).toNat = M * 2 ^ n) (hM : M < 2 ^ 53) (h1 : -1074 ≤ (n : Int) + b) (h2 : (n : Int) + b ≤ 971) :
    ∃ c' q', round b64 (.fin s c q) = .fin s c' q' ∧ inUnits c' q' b64.qmin = M * 2 ^ ((n : Int) + b + 1074).toNat := by
  have e : round b64 (.fin s c q) = round b64 (.fin s M ((n : Int) + b)) := by
    show roundRatio b64 s c 1 q = roundRatio b64 s M 1 ((n : Int) + b)
    refine roundRatio_congr (by decide) (by decide) ?_
    by_cases hc : q ≤ (n : Int) + b
    · have e1 : (q - ((n : Int) + b)).toNat = 0 := by omega
      have e2 : n = (q - b).toNat + ((n : Int) + b - q).toNat := by omega
      rw [e1]
      have h3 : c * 2 ^ (q - b).toNat = (M * 2 ^ ((n : Int) + b - q).toNat) * 2 ^ (q - b).toNat := by
        rw [h, Nat.mul_assoc, ← Nat.pow_add, Nat.add_comm, ← e2]
      have h4 := Nat.eq_of_mul_eq_mul_right (Nat.two_pow_pos _) h3
      rw [Nat.pow_zero, Nat.mul_one, Nat.mul_one, Nat.mul_one, h4]
    · have e1 : ((n : Int) + b - q).toNat = 0 := by omega
      have e2 : (q - b).toNat = (q - ((n : Int) + b)).toNat + n := by omega
      rw [e1]
      have h3 : (c * 2 ^ (q - ((n : Int) + b)).toNat) * 2 ^ n = M * 2 ^ n := by rw [Nat.mul_assoc, ← Nat.pow_add, ← e2, h]
      have h4 := Nat.eq_of_mul_eq_mul_right (Nat.two_pow_pos _) h3
      rw [Nat.pow_zero, Nat.mul_one, Nat.mul_one, Nat.mul_one, h4]
  obtain ⟨c', q', r1, r2⟩ := round_exact good_b64 s (c := M) (q := (n : Int) + b) hM (by rw [qmin_b64]; exact h1) (by show _ ≤ b64.qmax; rw [show b64.qmax = 971 by decide]; exact h2)
  refine ⟨c', q', e.trans r1, r2.trans ?_⟩
  unfold inUnits
  rw [qmin_b64]
  congr 3
theorem signed_natAbs {s : Bool} {c : Nat} {z : Int} (h : signed s c = z) : c = z.natAbs := by rw [← h, natAbs_signed]
theorem signed_of_natAbs {s : Bool} {c M k : Nat} {z : Int} (h : signed s c = z * ((2 ^ k : Nat) : Int)) (n : Nat) : signed s (z.natAbs * 2 ^ n) = z * ((2 ^ n : Nat) : Int) := by
  have hc := signed_natAbs h
  have hk : 0 < (2 ^ k : Nat) := Nat.two_pow_pos k
  rw [signed_mul]
  congr 1
  by_cases hz : z = 0
  · subst hz; exact signed_zero s
  · unfold signed at h ⊢
    cases s
    · simp only [Bool.false_eq_true, if_false] at h ⊢
      have : 0 ≤ z := by
        by_cases h0 : 0 ≤ z
        · exact h0
        · have := Int.mul_neg_of_neg_of_pos (show z < 0 by omega) (show (0 : Int) < ((2 ^ k : Nat) : Int) by omega)
          omega
      omega
    · simp only [if_true] at h ⊢
      have : z ≤ 0 := by
        by_cases h0 : z ≤ 0
        · exact h0
        · have := Int.mul_pos (show 0 < z by omega) (show (0 : Int) < ((2 ^ k : Nat) : Int) by omega)
          omega
      omega
theorem dv_round {a : UInt64} {s : Bool} {c : Nat} {q b : Int} {z : Int} {n : Nat} (ha : val64 a = round b64 (.fin s c q)) (hb : b ≤ q) (h : signed s (c * 2 ^ (q - b).toNat) = z * ((2 ^ n : Nat) : Int)) (hz : z.natAbs < 2 ^ 53)
    (h1 : -1074 ≤ (n : Int) + b) (h2 : (n : Int) + b ≤ 971) {N : Nat} (hN : (N : Int) = (n : Int) + b + 1074) : DV z N a := by
  have e1 : c * 2 ^ (q - b).toNat = z.natAbs * 2 ^ n := by
    rw [signed_natAbs h, Int.natAbs_mul, Int.natAbs_natCast]
  obtain ⟨c', q', r1, r2⟩ := round_units (s := s) hb e1 hz h1 h2
  rw [show ((n : Int) + b + 1074).toNat = N by omega] at r2
  refine ⟨⟨s, c', q', ha.trans r1⟩, ?_⟩
  rw [ha, r1]
  show signed s (inUnits c' q' b64.qmin) = _
  rw [r2]
  exact signed_of_natAbs (M := 0) h N
theorem dv_fits {a : UInt64} {s : Bool} {c : Nat} {q : Int} (h : val64 a = .fin s c q) : Jvm.FP.Core.fits b64 (.fin s c q) := h ▸ val64_fits a
theorem dv_l2d {a : Int64} (h : a.toInt.natAbs < 2 ^ 53) : DV a.toInt 1074 (FP.l2d a) := by
  refine dv_round (b := -1074) (n := 1074) (val64_l2d a) (by omega) ?_ h (by omega) (by omega) (by omega)
  show signed (decide (a.toInt < 0)) (a.toInt.natAbs * 2 ^ 1074) = _
  rw [signed_mul]
  congr 1
  unfold signed
  by_cases h : a.toInt < 0 <;> simp [h] <;> omega
theorem dv_i2d (a : Int32) : DV a.toInt 1074 (FP.i2d a) := by
  refine dv_round (b := -1074) (n := 1074) (val64_i2d a) (by omega) ?_ (by have := int32_abs a; omega) (by omega) (by omega) (by omega)
  show signed (decide (a.toInt < 0)) (a.toInt.natAbs * 2 ^ 1074) = _
  rw [signed_mul]
  congr 1
  unfold signed
  by_cases h : a.toInt < 0 <;> simp [h] <;> omega
theorem dv_add {i j : Int} {n : Nat} {a b : UInt64} (ha : DV i n a) (hb : DV j n b) (h : (i + j).natAbs < 2 ^ 53) (hn : n ≤ 2045) : DV (i + j) n (FP.dadd a b) := by
  obtain ⟨⟨s, c, q, va⟩, za⟩ := ha
  obtain ⟨⟨t, d, r, vb⟩, zb⟩ := hb
  obtain ⟨sg, k, e, e1, e2, e3⟩ := sum_units (dv_fits va) (dv_fits vb)
  rw [va] at za
  rw [vb] at zb
  rw [za, zb, ← Int.add_mul] at e3
  refine dv_round (s := sg) (c := k) (q := e) (b := -1074) (n := n) ?_ (by rw [qmin_b64] at e2; exact e2) ?_ h (by omega) (by omega) (by omega)
  · show val64 (dadd a b) = _
    rw [val64_dadd, va, vb, e1]
  · rw [← e3]; unfold inUnits; rw [qmin_b64]
theorem dv_cmp {i j : Int} {n : Nat} {a b : UInt64} (ha : DV i n a) (hb : DV j n b) : FP.dcmp a b = some (compare i j) := by
  obtain ⟨⟨s, c, q, va⟩, za⟩ := ha
  obtain ⟨⟨t, d, r, vb⟩, zb⟩ := hb
  show order (val64 a) (val64 b) = _
  rw [order_zval good_b64 (val64_fits a) (val64_fits b) (by rw [va]; simp) (by rw [vb]; simp), za, zb, compare_mul_pos _ _ _ (by have := Nat.two_pow_pos n; omega)]
theorem dv_of_bits {i : Int} {n : Nat} {a : UInt64} {s : Bool} {c : Nat} {q : Int} (h : val64 a = .fin s c q) (hz : zval b64 (.fin s c q) = i * ((2 ^ n : Nat) : Int)) : DV i n a := ⟨⟨s, c, q, h⟩, by rw [h, hz]⟩
theorem xor63_mod (n : Nat) : (n ^^^ 2 ^ 63) % 2 ^ 63 = n % 2 ^ 63 := by
  rw [Nat.xor_mod_two_pow, Nat.mod_self, Nat.xor_zero]
theorem xor63_div (n : Nat) (h : n < 2 ^ 64) : (n ^^^ 2 ^ 63) / 2 ^ 63 = 1 - n / 2 ^ 63 := by
  have h1 : (n ^^^ 2 ^ 63) / 2 ^ 63 = (n / 2 ^ 63) ^^^ 1 := by
    rw [← Nat.shiftRight_eq_div_pow, Nat.shiftRight_xor_distrib, Nat.shiftRight_eq_div_pow, Nat.shiftRight_eq_div_pow]
  rw [h1]
  have h2 : n / 2 ^ 63 = 0 ∨ n / 2 ^ 63 = 1 := by omega
  rcases h2 with h2 | h2 <;> rw [h2] <;> rfl
theorem dneg_toNat (a : UInt64) : (FP.dneg a).toNat = a.toNat ^^^ 2 ^ 63 := by
  show (a ^^^ 0x8000000000000000).toNat = _
  rw [UInt64.toNat_xor]
  rfl
theorem val_dneg (a : UInt64) : val64 (FP.dneg a) = negate (val64 a) := by
  have hm : mag b64 (FP.dneg a).toNat = mag b64 a.toNat := by
    rw [mag_toNat64, mag_toNat64, dneg_toNat, xor63_mod]
  have hs : fieldS b64 (FP.dneg a).toNat = !fieldS b64 a.toNat := by
    rw [fieldS_mag b64 (lt_full64 _), fieldS_mag b64 (lt_full64 _), half_b64, dneg_toNat]
    have h0 := a.toNat_lt
    have h1 := xor63_div a.toNat h0
    have h2 := xor63_mod a.toNat
    generalize a.toNat ^^^ 2 ^ 63 = y at h1 h2
    by_cases h3 : 2 ^ 63 ≤ a.toNat
    · have : ¬ 2 ^ 63 ≤ y := by omega
      simp [h3, this]
    · have : 2 ^ 63 ≤ y := by omega
      simp [h3, this]
  unfold val64 Jvm.FP.Core.decode
  rw [fieldE_mag, fieldE_mag, fieldT_mag, fieldT_mag, hm, hs]
  split
  · split <;> rfl
  · split <;> rfl
theorem dv_neg {i : Int} {n : Nat} {a : UInt64} (ha : DV i n a) : DV (-i) n (FP.dneg a) := by
  obtain ⟨⟨s, c, q, va⟩, za⟩ := ha
  refine ⟨⟨!s, c, q, by rw [val_dneg, va]; rfl⟩, ?_⟩
  rw [val_dneg, zval_negate, za, Int.neg_mul]
theorem dv_noNaN {i : Int} {n : Nat} {a : UInt64} (ha : DV i n a) : Jvm.Free.Fl.NoNaN64 a := by
  obtain ⟨⟨s, c, q, va⟩, za⟩ := ha
  exact (Jvm.Free.Fl.fin64_core.mpr ⟨s, c, q, va⟩).noNaN
end DVs

section DV2
open Jvm.FP.Core
theorem dv_down {i : Int} {n k : Nat} {a : UInt64} (h : DV (i * ((2 ^ k : Nat) : Int)) n a) : DV i (n + k) a := by
  refine ⟨h.1, ?_⟩
  rw [h.2, Nat.pow_add, Int.mul_assoc]
  congr 1
  rw [Nat.mul_comm]; push_cast; rfl
theorem dv_sub {i j : Int} {n : Nat} {a b : UInt64} (ha : DV i n a) (hb : DV j n b) (h : (i - j).natAbs < 2 ^ 53) (hn : n ≤ 2045) : DV (i - j) n (FP.dsub a b) := by
  obtain ⟨⟨s, c, q, va⟩, za⟩ := ha
  obtain ⟨⟨t, d, r, vb⟩, zb⟩ := hb
  have fn : Jvm.FP.Core.fits b64 (.fin (!t) d r) := show Jvm.FP.Core.fits b64 (.fin t d r) from dv_fits vb
  have zn : zval b64 (.fin (!t) d r) = -(j * ((2 ^ n : Nat) : Int)) := by
    rw [← zb, vb]; exact zval_negate b64 (.fin t d r)
  obtain ⟨sg, k, e, e1, e2, e3⟩ := sum_units (dv_fits va) fn
  rw [va] at za
  rw [za, zn, ← Int.sub_eq_add_neg, ← Int.sub_mul] at e3
  refine dv_round (s := sg) (c := k) (q := e) (b := -1074) (n := n) ?_ (by rw [qmin_b64] at e2; exact e2) ?_ h (by omega) (by omega) (by omega)
  · show val64 (dsub a b) = _
    rw [val64_dsub, va, vb, show negate (.fin t d r) = .fin (!t) d r from rfl, e1]
  · rw [← e3]; unfold inUnits; rw [qmin_b64]
theorem zval_fin (s : Bool) (c : Nat) (q : Int) : zval b64 (.fin s c q) = signed s (inUnits c q b64.qmin) := rfl
theorem dv_mul {i j : Int} {n k N : Nat} {a b : UInt64} (ha : DV i n a) (hb : DV j k b) (h : (i * j).natAbs < 2 ^ 53) (hN : N + 1074 = n + k) (hN2 : N ≤ 2045) : DV (i * j) N (FP.dmul a b) := by
  obtain ⟨⟨s, c, q, va⟩, za⟩ := ha
  obtain ⟨⟨t, d, r, vb⟩, zb⟩ := hb
  obtain ⟨e1, e2, e3⟩ := product_units (dv_fits va) (dv_fits vb)
  rw [va, zval_fin] at za
  rw [vb, zval_fin] at zb
  refine dv_round (s := s != t) (c := c * d) (q := q + r) (b := -2148) (n := n + k) ?_ (by rw [qmin_b64] at e2; omega) ?_ h (by omega) (by omega) (by omega)
  · show val64 (dmul a b) = _
    rw [val64_dmul, va, vb, e1]
  · have e4 : c * d * 2 ^ (q + r - -2148).toNat = inUnits c q b64.qmin * inUnits d r b64.qmin := by
      rw [show (-2148 : Int) = 2 * b64.qmin by decide]; exact e3
    rw [e4, signed_xor, za, zb, Nat.pow_add, Int.natCast_mul]
    ac_rfl
theorem signed_of_pos {s : Bool} {c : Nat} {z P : Int} (hP : 0 < P) (h : signed s c = z * P) (n : Nat) : signed s (z.natAbs * n) = z * (n : Int) := by
  rw [signed_mul]
  congr 1
  by_cases hz : z = 0
  · subst hz; exact signed_zero s
  · unfold signed at h ⊢
    cases s
    · simp only [Bool.false_eq_true, if_false] at h ⊢
      have : 0 ≤ z := by
        by_cases h0 : 0 ≤ z
        · exact h0
        · have := Int.mul_neg_of_neg_of_pos (show z < 0 by omega) hP
          omega
      omega
    · simp only [if_true] at h ⊢
      have : z ≤ 0 := by
        by_cases h0 : z ≤ 0
        · exact h0
        · have := Int.mul_pos (show 0 < z by omega) hP
          omega
      omega
theorem pow_cancel {x y A B : Nat} (h : x * 2 ^ A = y * 2 ^ B) : x * 2 ^ (A - B) = y * 2 ^ (B - A) := by
  by_cases hc : B ≤ A
  · rw [show B - A = 0 by omega, Nat.pow_zero, Nat.mul_one]
    refine Nat.eq_of_mul_eq_mul_right (Nat.two_pow_pos B) ?_
    rw [Nat.mul_assoc, ← Nat.pow_add, show A - B + B = A by omega, h]
  · rw [show A - B = 0 by omega, Nat.pow_zero, Nat.mul_one]
    refine Nat.eq_of_mul_eq_mul_right (Nat.two_pow_pos A) ?_
    rw [Nat.mul_assoc, ← Nat.pow_add, show B - A + A = B by omega, h]
/-- the quotient's datum, by the values alone -/
theorem dv_quot {i j : Int} {n k : Nat} {a b : UInt64} (ha : DV i n a) (hb : DV j k b) (hj : j ≠ 0) :
    ∃ s : Bool, val64 (FP.ddiv a b) = roundRatio b64 s i.natAbs j.natAbs ((n : Int) - k) ∧ ∀ m : Nat, signed s ((i * j).natAbs * m) = i * j * (m : Int) := by
  obtain ⟨⟨s, c, q, va⟩, za⟩ := ha
  obtain ⟨⟨t, d, r, vb⟩, zb⟩ := hb
  have fa := dv_fits va
  have fb := dv_fits vb
  have h1 := fa.2.1
  have h2 := fb.2.1
  rw [qmin_b64] at h1 h2
  rw [va, zval_fin] at za
  rw [vb, zval_fin] at zb
  have ea : inUnits c q b64.qmin = i.natAbs * 2 ^ n := by rw [signed_natAbs za, Int.natAbs_mul, Int.natAbs_natCast]
  have eb : inUnits d r b64.qmin = j.natAbs * 2 ^ k := by rw [signed_natAbs zb, Int.natAbs_mul, Int.natAbs_natCast]
  have hd0 : d ≠ 0 := fun z => by
    rw [z] at eb
    have : j.natAbs * 2 ^ k = 0 := by rw [← eb]; unfold inUnits; simp
    have h3 := Nat.two_pow_pos k
    rcases Nat.mul_eq_zero.mp this with h | h <;> omega
  refine ⟨s != t, ?_, ?_⟩
  · show val64 (ddiv a b) = _
    rw [val64_ddiv, va, vb]
    show (if d = 0 then _ else roundRatio b64 (s != t) c d (q - r)) = _
    rw [if_neg hd0]
    refine roundRatio_congr (by omega) (by omega) ?_
    have e1 : c * 2 ^ (q + 1074).toNat = i.natAbs * 2 ^ n := by rw [← ea]; unfold inUnits; rw [qmin_b64]; congr 2
    have e2 : d * 2 ^ (r + 1074).toNat = j.natAbs * 2 ^ k := by rw [← eb]; unfold inUnits; rw [qmin_b64]; congr 2
    have e3 : c * j.natAbs * 2 ^ ((q + 1074).toNat + k) = i.natAbs * d * 2 ^ (n + (r + 1074).toNat) := by
      calc c * j.natAbs * 2 ^ ((q + 1074).toNat + k) = (c * 2 ^ (q + 1074).toNat) * (j.natAbs * 2 ^ k) := by rw [Nat.pow_add]; ac_rfl
        _ = (i.natAbs * 2 ^ n) * (d * 2 ^ (r + 1074).toNat) := by rw [e1, e2]
        _ = i.natAbs * d * 2 ^ (n + (r + 1074).toNat) := by rw [Nat.pow_add]; ac_rfl
    have e4 := pow_cancel e3
    rw [show (q - r - ((n : Int) - k)).toNat = (q + 1074).toNat + k - (n + (r + 1074).toNat) by omega, show ((n : Int) - k - (q - r)).toNat = n + (r + 1074).toNat - ((q + 1074).toNat + k) by omega]
    exact e4
  · intro m
    have h3 : signed (s != t) (inUnits c q b64.qmin * inUnits d r b64.qmin) = i * j * ((2 ^ n * 2 ^ k : Nat) : Int) := by
      rw [signed_xor, za, zb, Int.natCast_mul]; ac_rfl
    exact signed_of_pos (by have := Nat.mul_pos (Nat.two_pow_pos n) (Nat.two_pow_pos k); omega) h3 m
theorem dv_div {i j z : Int} {n k N : Nat} {a b : UInt64} (ha : DV i n a) (hb : DV j k b) (hj : j ≠ 0) (h : i * ((2 ^ (n + 1074) : Nat) : Int) = z * j * ((2 ^ (N + k) : Nat) : Int)) (hz : z.natAbs < 2 ^ 53) (hN : N ≤ 2045) : DV z N (FP.ddiv a b) := by
  obtain ⟨s, e1, e2⟩ := dv_quot ha hb hj
  have hn : i.natAbs * 2 ^ (n + 1074) = z.natAbs * j.natAbs * 2 ^ (N + k) := by
    have := congrArg Int.natAbs h
    rw [Int.natAbs_mul, Int.natAbs_mul, Int.natAbs_mul, Int.natAbs_natCast, Int.natAbs_natCast] at this
    exact this
  have e3 : roundRatio b64 s i.natAbs j.natAbs ((n : Int) - k) = round b64 (.fin s z.natAbs ((N : Int) - 1074)) := by
    show _ = roundRatio b64 s z.natAbs 1 ((N : Int) - 1074)
    refine roundRatio_congr (by omega) (by decide) ?_
    have e4 := pow_cancel hn
    rw [show ((n : Int) - k - ((N : Int) - 1074)).toNat = n + 1074 - (N + k) by omega, show ((N : Int) - 1074 - ((n : Int) - k)).toNat = N + k - (n + 1074) by omega, Nat.mul_one]
    exact e4
  refine dv_round (s := s) (c := z.natAbs) (q := (N : Int) - 1074) (b := -1074) (n := N) (e1.trans e3) (by omega) ?_ hz (by omega) (by omega) (by omega)
  rw [show ((N : Int) - 1074 - -1074).toNat = N by omega]
  by_cases hz0 : z = 0
  · subst hz0; simp [signed_zero]
  · have e5 := e2 1
    rw [Nat.mul_one] at e5
    have hp : 0 < j * j * ((2 ^ (N + k) : Nat) : Int) := by
      refine Int.mul_pos ?_ (by have := Nat.two_pow_pos (N + k); omega)
      rcases Int.lt_or_gt_of_ne hj with q | q
      · exact Int.mul_pos_of_neg_of_neg q q
      · exact Int.mul_pos q q
    have e6 := e2 (2 ^ (n + 1074))
    have e7 : i * j * ((2 ^ (n + 1074) : Nat) : Int) = z * (j * j * ((2 ^ (N + k) : Nat) : Int)) := by
      rw [Int.mul_right_comm, h, Int.mul_right_comm, Int.mul_assoc z j j, Int.mul_assoc]
    rw [e7] at e6
    exact signed_of_pos hp e6 _
/-- two quotients of one value compare as equal -/
theorem dv_div_eq {i j i' j' : Int} {n k n' k' : Nat} {a b a' b' : UInt64} (ha : DV i n a) (hb : DV j k b) (ha' : DV i' n' a') (hb' : DV j' k' b') (hi : 0 ≤ i) (hi' : 0 ≤ i') (hj : 0 < j) (hj' : 0 < j')
    (h : i.natAbs * j'.natAbs * 2 ^ (n + k') = i'.natAbs * j.natAbs * 2 ^ (n' + k)) (hf : ∃ s c q, val64 (FP.ddiv a b) = .fin s c q) : FP.dcmp (FP.ddiv a b) (FP.ddiv a' b') = some .eq := by
  obtain ⟨s, e1, e2⟩ := dv_quot ha hb (by omega)
  obtain ⟨s', e1', e2'⟩ := dv_quot ha' hb' (by omega)
  have e3 : ∀ σ, roundRatio b64 σ i.natAbs j.natAbs ((n : Int) - k) = roundRatio b64 σ i'.natAbs j'.natAbs ((n' : Int) - k') := fun σ => by
    refine roundRatio_congr (by omega) (by omega) ?_
    have e4 := pow_cancel h
    rw [show ((n : Int) - k - ((n' : Int) - k')).toNat = n + k' - (n' + k) by omega, show ((n' : Int) - k' - ((n : Int) - k)).toNat = n' + k - (n + k') by omega]
    exact e4
  by_cases hi0 : i = 0
  · have hi0' : i' = 0 := by
      have h' : i'.natAbs * j.natAbs * 2 ^ (n' + k) = 0 := by rw [← h, hi0]; simp
      have p1 := Nat.two_pow_pos (n' + k)
      rcases Nat.mul_eq_zero.mp h' with h1 | h1
      · rcases Nat.mul_eq_zero.mp h1 with h2 | h2 <;> omega
      · omega
    have z1 : DV 0 0 (FP.ddiv a b) := by
      have q := dv_div ha hb (by omega) (z := 0) (N := 0) (by rw [hi0]; simp) (by decide) (by decide); exact q
    have z2 : DV 0 0 (FP.ddiv a' b') := by
      have q := dv_div ha' hb' (by omega) (z := 0) (N := 0) (by rw [hi0']; simp) (by decide) (by decide); exact q
    rw [dv_cmp z1 z2]; rfl
  · have hi0' : i' ≠ 0 := fun z => by
      have h' : i.natAbs * j'.natAbs * 2 ^ (n + k') = 0 := by rw [h, z]; simp
      have p1 := Nat.two_pow_pos (n + k')
      rcases Nat.mul_eq_zero.mp h' with h1 | h1
      · rcases Nat.mul_eq_zero.mp h1 with h2 | h2 <;> omega
      · omega
    have sg : ∀ {σ : Bool} {u v : Int}, 0 < u → 0 < v → (∀ m : Nat, signed σ ((u * v).natAbs * m) = u * v * (m : Int)) → σ = false := by
      intro σ u v hu hv hh
      have q := hh 1
      have p := Int.mul_pos hu hv
      cases σ
      · rfl
      · unfold signed at q; simp at q; omega
    have s0 := sg (show 0 < i by omega) hj e2
    have s0' := sg (show 0 < i' by omega) hj' e2'
    subst s0 s0'
    have ev : val64 (FP.ddiv a b) = val64 (FP.ddiv a' b') := by rw [e1, e1', e3]
    obtain ⟨s, c, q, hv⟩ := hf
    have : FP.ddiv a b = FP.ddiv a' b' := val64_inj (by rw [hv]; simp) ev
    rw [← this]
    exact dcmp_self (by show val64 (FP.ddiv a b) ≠ _; rw [hv]; simp)
end DV2

theorem d1_0 : decode prog_44_method_1_code 0 = .ok (.aload_n 0, 1) := by decide +kernel
theorem d1_1 : decode prog_44_method_1_code 1 = .ok (.invokespecial 1, 3) := by decide +kernel
theorem d1_4 : decode prog_44_method_1_code 4 = .ok (.ldc 7, 2) := by decide +kernel
theorem d1_6 : decode prog_44_method_1_code 6 = .ok (.dload_n 1, 1) := by decide +kernel
theorem d1_7 : decode prog_44_method_1_code 7 = .ok (.invokestatic 9, 3) := by decide +kernel
theorem d1_10 : decode prog_44_method_1_code 10 = .ok (.dload_n 3, 1) := by decide +kernel
theorem d1_11 : decode prog_44_method_1_code 11 = .ok (.dconst 0, 1) := by decide +kernel
theorem d1_12 : decode prog_44_method_1_code 12 = .ok (.dcmp .l, 1) := by decide +kernel
theorem d1_13 : decode prog_44_method_1_code 13 = .ok (.ifCond .lt 9, 3) := by decide +kernel
theorem d1_16 : decode prog_44_method_1_code 16 = .ok (.dload_n 3, 1) := by decide +kernel
theorem d1_17 : decode prog_44_method_1_code 17 = .ok (.dconst 1, 1) := by decide +kernel
theorem d1_18 : decode prog_44_method_1_code 18 = .ok (.dcmp .g, 1) := by decide +kernel
theorem d1_19 : decode prog_44_method_1_code 19 = .ok (.ifCond .lt 29, 3) := by decide +kernel
theorem d1_22 : decode prog_44_method_1_code 22 = .ok (.new 15, 3) := by decide +kernel
theorem d1_25 : decode prog_44_method_1_code 25 = .ok (.dup, 1) := by decide +kernel
theorem d1_26 : decode prog_44_method_1_code 26 = .ok (.ldc 17, 2) := by decide +kernel
theorem d1_28 : decode prog_44_method_1_code 28 = .ok (.ldc 19, 2) := by decide +kernel
theorem d1_30 : decode prog_44_method_1_code 30 = .ok (.iconst 1, 1) := by decide +kernel
theorem d1_31 : decode prog_44_method_1_code 31 = .ok (.anewarray 21, 3) := by decide +kernel
theorem d1_34 : decode prog_44_method_1_code 34 = .ok (.dup, 1) := by decide +kernel
theorem d1_35 : decode prog_44_method_1_code 35 = .ok (.iconst 0, 1) := by decide +kernel
theorem d1_36 : decode prog_44_method_1_code 36 = .ok (.dload_n 3, 1) := by decide +kernel
theorem d1_37 : decode prog_44_method_1_code 37 = .ok (.invokestatic 23, 3) := by decide +kernel
theorem d1_40 : decode prog_44_method_1_code 40 = .ok (.aastore, 1) := by decide +kernel
theorem d1_41 : decode prog_44_method_1_code 41 = .ok (.invokestatic 29, 3) := by decide +kernel
theorem d1_44 : decode prog_44_method_1_code 44 = .ok (.invokespecial 35, 3) := by decide +kernel
theorem d1_47 : decode prog_44_method_1_code 47 = .ok (.athrow, 1) := by decide +kernel
theorem d1_48 : decode prog_44_method_1_code 48 = .ok (.ldc 38, 2) := by decide +kernel
theorem d1_50 : decode prog_44_method_1_code 50 = .ok (.dload 5, 2) := by decide +kernel
theorem d1_52 : decode prog_44_method_1_code 52 = .ok (.invokestatic 9, 3) := by decide +kernel
theorem d1_55 : decode prog_44_method_1_code 55 = .ok (.aload_n 0, 1) := by decide +kernel
theorem d1_56 : decode prog_44_method_1_code 56 = .ok (.dload_n 1, 1) := by decide +kernel
theorem d1_57 : decode prog_44_method_1_code 57 = .ok (.putfield 40, 3) := by decide +kernel
theorem d1_60 : decode prog_44_method_1_code 60 = .ok (.aload_n 0, 1) := by decide +kernel
theorem d1_61 : decode prog_44_method_1_code 61 = .ok (.dload_n 3, 1) := by decide +kernel
theorem d1_62 : decode prog_44_method_1_code 62 = .ok (.putfield 45, 3) := by decide +kernel
theorem d1_65 : decode prog_44_method_1_code 65 = .ok (.aload_n 0, 1) := by decide +kernel
theorem d1_66 : decode prog_44_method_1_code 66 = .ok (.dload 5, 2) := by decide +kernel
theorem d1_68 : decode prog_44_method_1_code 68 = .ok (.putfield 47, 3) := by decide +kernel
theorem d1_71 : decode prog_44_method_1_code 71 = .ok (.return_, 1) := by decide +kernel
theorem pn_1 : plainName "com/example/retiremetric/retiremetric/model/preferences/Preferences" = true := by first | (simp [plainName, overriddenIn]; done) | decide +kernel
theorem ef_1 (m : MethodId) (x0 : Addr) (x1 : UInt64) (x2 : UInt64) (x3 : UInt64) : entryFrame m #[(.ref x0), (.double x1), (.double x2), (.double x3)] 7 = mkF m 0 #[.val (.ref x0), .val (.double x1), .second, .val (.double x2), .second, .val (.double x3), .second] [] := by first | (simp [entryFrame, mkF, argsToLocals, Value.category]; done) | rfl
theorem d2_0 : decode jdk_30_method_1_code 0 = .ok (.aload_n 0, 1) := by decide +kernel
theorem d2_1 : decode jdk_30_method_1_code 1 = .ok (.invokespecial 1, 3) := by decide +kernel
theorem d2_4 : decode jdk_30_method_1_code 4 = .ok (.return_, 1) := by decide +kernel
theorem pn_2 : plainName "java/lang/Record" = true := by first | (simp [plainName, overriddenIn]; done) | decide +kernel
theorem ef_2 (m : MethodId) (x0 : Addr) : entryFrame m #[(.ref x0)] 1 = mkF m 0 #[.val (.ref x0)] [] := by first | (simp [entryFrame, mkF, argsToLocals, Value.category]; done) | rfl
theorem d4_0 : decode prog_35_method_2_code 0 = .ok (.dload_n 1, 1) := by decide +kernel
theorem d4_1 : decode prog_35_method_2_code 1 = .ok (.dconst 0, 1) := by decide +kernel
theorem d4_2 : decode prog_35_method_2_code 2 = .ok (.dcmp .l, 1) := by decide +kernel
theorem d4_3 : decode prog_35_method_2_code 3 = .ok (.ifCond .le 11, 3) := by decide +kernel
theorem d4_6 : decode prog_35_method_2_code 6 = .ok (.dload_n 1, 1) := by decide +kernel
theorem d4_7 : decode prog_35_method_2_code 7 = .ok (.ldc2_w 9, 3) := by decide +kernel
theorem d4_10 : decode prog_35_method_2_code 10 = .ok (.dcmp .g, 1) := by decide +kernel
theorem d4_11 : decode prog_35_method_2_code 11 = .ok (.ifCond .lt 28, 3) := by decide +kernel
theorem d4_14 : decode prog_35_method_2_code 14 = .ok (.new 11, 3) := by decide +kernel
theorem d4_17 : decode prog_35_method_2_code 17 = .ok (.dup, 1) := by decide +kernel
theorem d4_18 : decode prog_35_method_2_code 18 = .ok (.aload_n 0, 1) := by decide +kernel
theorem d4_19 : decode prog_35_method_2_code 19 = .ok (.ldc 13, 2) := by decide +kernel
theorem d4_21 : decode prog_35_method_2_code 21 = .ok (.iconst 1, 1) := by decide +kernel
theorem d4_22 : decode prog_35_method_2_code 22 = .ok (.anewarray 2, 3) := by decide +kernel
theorem d4_25 : decode prog_35_method_2_code 25 = .ok (.dup, 1) := by decide +kernel
theorem d4_26 : decode prog_35_method_2_code 26 = .ok (.iconst 0, 1) := by decide +kernel
theorem d4_27 : decode prog_35_method_2_code 27 = .ok (.dload_n 1, 1) := by decide +kernel
theorem d4_28 : decode prog_35_method_2_code 28 = .ok (.invokestatic 15, 3) := by decide +kernel
theorem d4_31 : decode prog_35_method_2_code 31 = .ok (.aastore, 1) := by decide +kernel
theorem d4_32 : decode prog_35_method_2_code 32 = .ok (.invokestatic 19, 3) := by decide +kernel
theorem d4_35 : decode prog_35_method_2_code 35 = .ok (.invokespecial 25, 3) := by decide +kernel
theorem d4_38 : decode prog_35_method_2_code 38 = .ok (.athrow, 1) := by decide +kernel
theorem d4_39 : decode prog_35_method_2_code 39 = .ok (.return_, 1) := by decide +kernel
theorem pn_4 : plainName "com/example/retiremetric/retiremetric/model/InputRanges" = true := by first | (simp [plainName, overriddenIn]; done) | decide +kernel
theorem ef_4 (m : MethodId) (x0 : Addr) (x1 : UInt64) : entryFrame m #[(.ref x0), (.double x1)] 3 = mkF m 0 #[.val (.ref x0), .val (.double x1), .second] [] := by first | (simp [entryFrame, mkF, argsToLocals, Value.category]; done) | rfl
theorem d5_0 : decode prog_44_method_2_code 0 = .ok (.aload_n 0, 1) := by decide +kernel
theorem d5_1 : decode prog_44_method_2_code 1 = .ok (.getfield 45, 3) := by decide +kernel
theorem d5_4 : decode prog_44_method_2_code 4 = .ok (.dconst 0, 1) := by decide +kernel
theorem d5_5 : decode prog_44_method_2_code 5 = .ok (.dcmp .l, 1) := by decide +kernel
theorem d5_6 : decode prog_44_method_2_code 6 = .ok (.ifCond .le 7, 3) := by decide +kernel
theorem d5_9 : decode prog_44_method_2_code 9 = .ok (.iconst 1, 1) := by decide +kernel
theorem d5_10 : decode prog_44_method_2_code 10 = .ok (.goto 4, 3) := by decide +kernel
theorem d5_13 : decode prog_44_method_2_code 13 = .ok (.iconst 0, 1) := by decide +kernel
theorem d5_14 : decode prog_44_method_2_code 14 = .ok (.ireturn, 1) := by decide +kernel
theorem pn_5 : plainName "com/example/retiremetric/retiremetric/model/preferences/Preferences" = true := by first | (simp [plainName, overriddenIn]; done) | decide +kernel
theorem ef_5 (m : MethodId) (x0 : Addr) : entryFrame m #[(.ref x0)] 1 = mkF m 0 #[.val (.ref x0)] [] := by first | (simp [entryFrame, mkF, argsToLocals, Value.category]; done) | rfl
theorem pn_0 : plainName "com/example/retiremetric/retiremetric/model/preferences/PreferencesValuesResidualBenefitPinLaw" = true := by first | (simp [plainName, overriddenIn]; done) | decide +kernel
theorem ef_0 (m : MethodId) (x0 : Int32) (x1 : Int32) (x2 : Int32) (x3 : Int32) (x4 : Int32) : entryFrame m #[(.int x0), (.int x1), (.int x2), (.int x3), (.int x4)] maxLocals = mkF m 0 #[.val (.int x0), .val (.int x1), .val (.int x2), .val (.int x3), .val (.int x4), .unset, .unset, .unset, .unset, .unset, .unset, .unset, .unset, .unset, .unset] [] := by first | (simp [entryFrame, mkF, argsToLocals, Value.category, maxLocals]; done) | rfl
theorem pd_0 : parseMethodDescriptor "(DDD)V" = some ⟨[.double, .double, .double], none⟩ := by decide +kernel
theorem pd_1 : parseMethodDescriptor "()V" = some ⟨[], none⟩ := by decide +kernel
theorem pd_2 : parseMethodDescriptor "(Ljava/lang/String;D)V" = some ⟨[(.object "java/lang/String"), .double], none⟩ := by decide +kernel
theorem pd_3 : parseMethodDescriptor "()Z" = some ⟨[], some .boolean⟩ := by decide +kernel
def QV (h0 : Heap) (n0 : Nat) (v : Option Value) (h : Heap) (L : List Loc) : Prop := v = none ∧ Fr n0 L ∧ h = h0
set_option maxRecDepth 65536 in
set_option maxHeartbeats 40000000 in
theorem rm2 (l : Launch) (Z : State) (a0 : Array Value) (hw : ∀ d ∈ tables_1, d.before a0 Z = true) (ws : List Jvm.Cond) (ob : Addr)  (h0 : Heap) (n0 : Nat) (Z0 : n0 ≤ h0.size)   :
    MetFree l (⟨"java/lang/Record", "<init>", "()V"⟩ : MethodName) (head1 (Jvm.Cond.code (⟨"java/lang/Record", "<init>", "()V"⟩ : MethodName) jdk_30_method_1_code 1 none :: ws) ({ frames := 1, cells := 0, slots := 0, locals := 12 } : Room)) (fun aa U => aa = #[(.ref ob)] ∧ Z.Warmed39 U.vm ∧ U.heap = h0) (fun _ _ _ _ _ => True) (fun _ U o U' => ∃ v L, o = .returned v ∧ QV  h0 n0 v U'.heap L ∧ FrameEnd U o U' L ({ frames := 1, cells := 0, slots := 0, locals := 12 } : Room).cells ({ frames := 1, cells := 0, slots := 0, locals := 12 } : Room).slots) := by
  refine MetFree.of_bodySF (plainFor_of_name pn_2) hisR ?_
  intro p e s m args below meth c s₁ Bd hml0 hP hK
  obtain ⟨rfl, hZ, hh⟩ := hP
  have hx := Bd.exec
  have hby := Bd.bytes
  have hml : c.maxLocals = 1 := hml0
  have hown : s.vm.findClass "java/lang/Record" = some m.cls := findClass_of_methodNamed Bd.named
  have hnm := (name_of_methodNamed Bd.named Bd.method).1
  have X0 : Stand p l e ({ frames := 1, cells := 0, slots := 0, locals := 12 } : Room) s m #[(.ref ob)] below meth c s₁ [] 0 0 := Stand.of_body Bd
  have e0 : s₁.heap = h0 := by rw [← hh, Bd.state]; rfl
  have N0 := Fr.nil n0
  have pre0 : ∀ zz, Steps p.tables e below (s₁.setTop (mkF m 0 #[.val (.ref ob)] [])) zz → Steps p.tables e below (s₁.setTop (entryFrame m #[(.ref ob)] 1)) zz := fun zz k => castTop (ef_2 m ob) k
  obtain ⟨T1, X1, e1, st1⟩ := initO X0 hx hZ hown (hw _ (List.mem_of_getElem? (i := 14) rfl)) (hw _ (List.mem_of_getElem? (i := 15) rfl)) (hw _ (List.mem_of_getElem? (i := 16) rfl)) e0 (g := (mkF m 1 #[.val (.ref ob)] [(.ref ob)])) rfl (by rw [hml]; rfl) rfl (hb hby d2_1) (by decide) (W := 0) (by show 2 * 0 + _ ≤ _; exact Nat.le_of_eq rfl) (by decide)
  obtain ⟨fs, hr, hrun, hended, hW, hsame⟩ := X1.leave (v := none) (fun _ => rfl)
  refine ⟨_, _, pre0 _ ?_, hrun, hended, _, _, rfl, ?_, ⟨_, rfl⟩, hW, hsame.mono (by decide) (by decide)⟩
  · show Steps p.tables e below (s₁.setTop (mkF m 0 #[.val (.ref ob)] [])) _
    refine XS.aloadN X0.here hx rfl (hb hby d2_0) rfl rfl ?_
    show Steps p.tables e below (s₁.setTop (mkF m 1 #[.val (.ref ob)] [(.ref ob)])) _
    refine st1 _ ?_
    exact X1.returnOut hx Bd.returns (hb hby d2_4) hr
  · show QV  h0 n0 _ T1.heap _
    rw [e1]
    exact ⟨rfl, N0, rfl⟩
set_option maxRecDepth 65536 in
set_option maxHeartbeats 40000000 in
theorem rm4 (l : Launch) (Z : State) (a0 : Array Value) (hw : ∀ d ∈ tables_1, d.before a0 Z = true) (ws : List Jvm.Cond) (t : Addr) (d : UInt64)  (h0 : Heap) (n0 : Nat) (Z0 : n0 ≤ h0.size)  (hc3 : (0 : Int32) < (cmpValue (FP.dcmp d FP.dconst0) .l)) (hc11 : (cmpValue (FP.dcmp d (9218868437227405312 : UInt64)) .g) < (0 : Int32)) :
    MetFree l (⟨"com/example/retiremetric/retiremetric/model/InputRanges", "requirePositive", "(Ljava/lang/String;D)V"⟩ : MethodName) (head1 (Jvm.Cond.code (⟨"com/example/retiremetric/retiremetric/model/InputRanges", "requirePositive", "(Ljava/lang/String;D)V"⟩ : MethodName) prog_35_method_2_code 3 none :: ws) ({ frames := 0, cells := 0, slots := 0, locals := 0 } : Room)) (fun aa U => aa = #[(.ref t), (.double d)] ∧ Z.Warmed39 U.vm ∧ U.heap = h0) (fun _ _ _ _ _ => True) (fun _ U o U' => ∃ v L, o = .returned v ∧ QV  h0 n0 v U'.heap L ∧ FrameEnd U o U' L ({ frames := 0, cells := 0, slots := 0, locals := 0 } : Room).cells ({ frames := 0, cells := 0, slots := 0, locals := 0 } : Room).slots) := by
  refine MetFree.of_bodySF (plainFor_of_name pn_4) hisR ?_
  intro p e s m args below meth c s₁ Bd hml0 hP hK
  obtain ⟨rfl, hZ, hh⟩ := hP
  have hx := Bd.exec
  have hby := Bd.bytes
  have hml : c.maxLocals = 3 := hml0
  have hown : s.vm.findClass "com/example/retiremetric/retiremetric/model/InputRanges" = some m.cls := findClass_of_methodNamed Bd.named
  have hnm := (name_of_methodNamed Bd.named Bd.method).1
  have X0 : Stand p l e ({ frames := 0, cells := 0, slots := 0, locals := 0 } : Room) s m #[(.ref t), (.double d)] below meth c s₁ [] 0 0 := Stand.of_body Bd
  have e0 : s₁.heap = h0 := by rw [← hh, Bd.state]; rfl
  have N0 := Fr.nil n0
  have pre0 : ∀ zz, Steps p.tables e below (s₁.setTop (mkF m 0 #[.val (.ref t), .val (.double d), .second] [])) zz → Steps p.tables e below (s₁.setTop (entryFrame m #[(.ref t), (.double d)] 3)) zz := fun zz k => castTop (ef_4 m t d) k
  obtain ⟨fs, hr, hrun, hended, hW, hsame⟩ := X0.leave (v := none) (fun _ => rfl)
  refine ⟨_, _, pre0 _ ?_, hrun, hended, _, _, rfl, ?_, ⟨_, rfl⟩, hW, hsame.mono (by decide) (by decide)⟩
  · show Steps p.tables e below (s₁.setTop (mkF m 0 #[.val (.ref t), .val (.double d), .second] [])) _
    refine XS.dloadN X0.here hx rfl (hb hby d4_0) rfl ?_
    refine XS.dconst0 X0.here hx rfl (hb hby d4_1) rfl ?_
    refine XS.dcmpS X0.here hx rfl (hb hby d4_2) rfl rfl ?_
    refine XS.ifNo X0.here hx rfl (hb hby d4_3) rfl ((if0 _ _).trans (tlt hc3).2.2.2) ?_
    show Steps p.tables e below (s₁.setTop (mkF m 6 #[.val (.ref t), .val (.double d), .second] [])) _
    refine XS.dloadN X0.here hx rfl (hb hby d4_6) rfl ?_
    refine X0.ldc2DoubleC hx hown (mvT hZ (hw _ (List.mem_of_getElem? (i := 29) rfl))) (g := (mkF m 7 #[.val (.ref t), .val (.double d), .second] [(.double d)])) rfl (hb hby d4_7) _ ?_
    refine XS.dcmpS X0.here hx rfl (hb hby d4_10) rfl rfl ?_
    refine XS.ifYes X0.here hx rfl (pc0 := 11) (pc' := 39) rfl (hb hby d4_11) rfl ((if0 _ _).trans (tlt hc11).1) (by decide) (by decide) ?_
    show Steps p.tables e below (s₁.setTop (mkF m 39 #[.val (.ref t), .val (.double d), .second] [])) _
    exact X0.returnOut hx Bd.returns (hb hby d4_39) hr
  · show QV  h0 n0 _ s₁.heap _
    rw [e0]
    exact ⟨rfl, N0, rfl⟩
def Q1 (Z : State) (o : Addr) (phi : UInt64) (h0 : Heap) (n0 : Nat) (v : Option Value) (h : Heap) (L : List Loc) : Prop := v = none ∧ Fr n0 L ∧ Keep h0 h [o] ∧ Exa Z h o "com/example/retiremetric/retiremetric/model/preferences/Preferences" ∧ Fld Z h o "com/example/retiremetric/retiremetric/model/preferences/Preferences" "phi" "D" (.double phi)
set_option maxRecDepth 65536 in
set_option maxHeartbeats 40000000 in
theorem rm1 (l : Launch) (Z : State) (a0 : Array Value) (hw : ∀ d ∈ tables_1, d.before a0 Z = true) (ws : List Jvm.Cond) (ob : Addr) (rho : UInt64) (phi : UInt64) (bet : UInt64)  (h0 : Heap) (n0 : Nat) (Z0 : n0 ≤ h0.size) (g_ob : n0 ≤ ob) (E_o : Exa Z h0 ob "com/example/retiremetric/retiremetric/model/preferences/Preferences") (F_rho_o : Fld Z h0 ob "com/example/retiremetric/retiremetric/model/preferences/Preferences" "rho" "D" (.double 0)) (F_phi_o : Fld Z h0 ob "com/example/retiremetric/retiremetric/model/preferences/Preferences" "phi" "D" (.double 0)) (F_beta_o : Fld Z h0 ob "com/example/retiremetric/retiremetric/model/preferences/Preferences" "beta" "D" (.double 0)) (rhc3 : (0 : Int32) < (cmpValue (FP.dcmp rho FP.dconst0) .l)) (rhc11 : (cmpValue (FP.dcmp rho (9218868437227405312 : UInt64)) .g) < (0 : Int32)) (hc13 : ¬ ((cmpValue (FP.dcmp phi FP.dconst0) .l) < (0 : Int32))) (hc19 : (cmpValue (FP.dcmp phi FP.dconst1) .g) < (0 : Int32)) (rhc3_1 : (0 : Int32) < (cmpValue (FP.dcmp bet FP.dconst0) .l)) (rhc11_1 : (cmpValue (FP.dcmp bet (9218868437227405312 : UInt64)) .g) < (0 : Int32)) :
    MetFree l (⟨"com/example/retiremetric/retiremetric/model/preferences/Preferences", "<init>", "(DDD)V"⟩ : MethodName) (head1 (Jvm.Cond.code (⟨"com/example/retiremetric/retiremetric/model/preferences/Preferences", "<init>", "(DDD)V"⟩ : MethodName) prog_44_method_1_code 7 none :: ws) ({ frames := 2, cells := 4, slots := 36, locals := 24 } : Room)) (fun aa U => aa = #[(.ref ob), (.double rho), (.double phi), (.double bet)] ∧ Z.Warmed39 U.vm ∧ U.heap = h0) (fun _ _ _ _ _ => True) (fun _ U o U' => ∃ v L, o = .returned v ∧ Q1 Z ob phi h0 n0 v U'.heap L ∧ ReturnedEndW U o U' L ({ frames := 2, cells := 4, slots := 36, locals := 24 } : Room).cells ({ frames := 2, cells := 4, slots := 36, locals := 24 } : Room).slots) := by
  refine MetFree.of_bodySF (plainFor_of_name pn_1) hisR ?_
  intro p e s m args below meth c s₁ Bd hml0 hP hK
  obtain ⟨rfl, hZ, hh⟩ := hP
  have hx := Bd.exec
  have hby := Bd.bytes
  have hml : c.maxLocals = 7 := hml0
  have hown : s.vm.findClass "com/example/retiremetric/retiremetric/model/preferences/Preferences" = some m.cls := findClass_of_methodNamed Bd.named
  have hnm := (name_of_methodNamed Bd.named Bd.method).1
  have X0 : Stand p l e ({ frames := 2, cells := 4, slots := 36, locals := 24 } : Room) s m #[(.ref ob), (.double rho), (.double phi), (.double bet)] below meth c s₁ [] 0 0 := Stand.of_body Bd
  have e0 : s₁.heap = h0 := by rw [← hh, Bd.state]; rfl
  have N0 := Fr.nil n0
  have pre0 : ∀ zz, Steps p.tables e below (s₁.setTop (mkF m 0 #[.val (.ref ob), .val (.double rho), .second, .val (.double phi), .second, .val (.double bet), .second] [])) zz → Steps p.tables e below (s₁.setTop (entryFrame m #[(.ref ob), (.double rho), (.double phi), (.double bet)] 7)) zz := fun zz k => castTop (ef_1 m ob rho phi bet) k
  have hwS : ∀ a ∈ Bundle.stringAtoms, a.before a0 Z = true := fun d hd => hw d (by simpa using (List.all_eq_true.mp (by decide +kernel : (Bundle.stringAtoms.all fun c => tables_1.contains c) = true)) d hd)
  obtain ⟨_, _, ⟨T2, L2, k2, n2⟩, -, X2, ⟨Lc2, hQ2, l2, y2, z2⟩, st2⟩ := X0.specialBack hx (y := (⟨"java/lang/Record", "<init>", "()V"⟩ : MethodName)) rfl hown (mvT hZ (hw _ (List.mem_of_getElem? (i := 9) rfl))) (mvT hZ (hw _ (List.mem_of_getElem? (i := 10) rfl))) (mvT hZ (hw _ (List.mem_of_getElem? (i := 13) rfl))) (by decide) (backOf (W := 0) (rm2 l Z a0 hw [] ob h0 n0 Z0 ) hZ (hw _ (List.mem_of_getElem? (i := 13) rfl)) (hw _ (List.mem_of_getElem? (i := 12) rfl)) (by decide) (by decide)) (g := (mkF m 1 #[.val (.ref ob), .val (.double rho), .second, .val (.double phi), .second, .val (.double bet), .second] [(.ref ob)])) rfl (by rw [hml]; rfl) (Steps.refl _) (a := ob) (argsL := []) (rest := []) (lenOf pd_1 rfl) rfl (by show 2 * 0 + _ ≤ _; exact Nat.le_of_eq rfl) (hb hby d1_1) (fun _ _ => ⟨rfl, e0, (by decide : 0 + 0 ≤ _), (by decide : 0 + 0 ≤ _)⟩)
  dsimp only [Pt.U, Pt.locs, Pt.cells, Pt.slots] at X2 l2 y2 z2 st2 hQ2
  subst l2 y2 z2
  obtain ⟨rfl, N2q, e2⟩ := hQ2
  have N2 := Fr.app N0 N2q
  obtain ⟨a3, T3, h3, k3, X3, e3, E3, hS3, hk3, hZ3, hown3, st3⟩ := ldcS (s := s) (vm0 := s.vm) X2 hx hZ hown (hw _ (List.mem_of_getElem? (i := 17) rfl)) hwS e2 ((State.WarmedH.refl s).since 0) (Nat.zero_le _) (g := (mkF m 4 #[.val (.ref ob), .val (.double rho), .second, .val (.double phi), .second, .val (.double bet), .second] [])) rfl (hb hby d1_4) (n := 12) (by decide) (by decide) (by decide) (by decide)
  have F_rho_o_e3 := F_rho_o.ext E3
  have F_phi_o_e3 := F_phi_o.ext E3
  have F_beta_o_e3 := F_beta_o.ext E3
  have E_o_e3 := E_o.ext E3
  have K3 := (Keep.refl h0 [ob]).ext E3
  have Z3 : n0 ≤ h3.size := Nat.le_trans Z0 E3.1
  obtain ⟨_, _, ⟨T4, L4, k4, n4⟩, -, X4, ⟨Lc4, hQ4, l4, y4, z4⟩, st4⟩ := Jvm.LawKit.callS X3 hx (y := (⟨"com/example/retiremetric/retiremetric/model/InputRanges", "requirePositive", "(Ljava/lang/String;D)V"⟩ : MethodName)) hown3 (mvT hZ3 (hw _ (List.mem_of_getElem? (i := 25) rfl))) (mvT hZ3 (hw _ (List.mem_of_getElem? (i := 26) rfl))) (mvT hZ3 (hw _ (List.mem_of_getElem? (i := 27) rfl))) (mvT hZ3 (hw _ (List.mem_of_getElem? (i := 28) rfl))) (by decide) (backOf (W := 0) (rm4 l Z a0 hw [] a3 rho h3 n0 Z3 rhc3 rhc11) hZ3 (hw _ (List.mem_of_getElem? (i := 28) rfl)) (hw _ (List.mem_of_getElem? (i := 27) rfl)) (by decide) (by decide)) (g := (mkF m 7 #[.val (.ref ob), .val (.double rho), .second, .val (.double phi), .second, .val (.double bet), .second] [(.double rho), (.ref a3)])) rfl (by rw [hml]; rfl) (argsL := [(.ref a3), (.double rho)]) (rest := []) (lenOf pd_2 rfl) rfl (by show 2 * 0 + _ ≤ _; exact Nat.le_of_eq rfl) (hb hby d1_7) (fun _ _ => ⟨rfl, e3, (by decide : 2 + 0 ≤ _), (by decide : 16 + 0 ≤ _)⟩)
  dsimp only [Pt.U, Pt.locs, Pt.cells, Pt.slots] at X4 l4 y4 z4 st4 hQ4
  subst l4 y4 z4
  obtain ⟨rfl, N4q, e4⟩ := hQ4
  have N4 := Fr.app N2 N4q
  obtain ⟨a5, T5, h5, k5, X5, e5, E5, hS5, hk5, hZ5, hown5, st5⟩ := ldcS (s := s) (vm0 := T3.vm) X4 hx hZ3 hown3 (hw _ (List.mem_of_getElem? (i := 30) rfl)) hwS e4 hS3 hk3 (g := (mkF m 48 #[.val (.ref ob), .val (.double rho), .second, .val (.double phi), .second, .val (.double bet), .second] [])) rfl (hb hby d1_48) (n := 16) (by decide) (by decide) (by decide) (by decide)
  have F_rho_o_e5 := F_rho_o_e3.ext E5
  have F_phi_o_e5 := F_phi_o_e3.ext E5
  have F_beta_o_e5 := F_beta_o_e3.ext E5
  have E_o_e5 := E_o_e3.ext E5
  have K5 := K3.ext E5
  have Z5 : n0 ≤ h5.size := Nat.le_trans Z3 E5.1
  obtain ⟨_, _, ⟨T6, L6, k6, n6⟩, -, X6, ⟨Lc6, hQ6, l6, y6, z6⟩, st6⟩ := Jvm.LawKit.callS X5 hx (y := (⟨"com/example/retiremetric/retiremetric/model/InputRanges", "requirePositive", "(Ljava/lang/String;D)V"⟩ : MethodName)) hown5 (mvT hZ5 (hw _ (List.mem_of_getElem? (i := 25) rfl))) (mvT hZ5 (hw _ (List.mem_of_getElem? (i := 26) rfl))) (mvT hZ5 (hw _ (List.mem_of_getElem? (i := 27) rfl))) (mvT hZ5 (hw _ (List.mem_of_getElem? (i := 28) rfl))) (by decide) (backOf (W := 0) (rm4 l Z a0 hw [] a5 bet h5 n0 Z5 rhc3_1 rhc11_1) hZ5 (hw _ (List.mem_of_getElem? (i := 28) rfl)) (hw _ (List.mem_of_getElem? (i := 27) rfl)) (by decide) (by decide)) (g := (mkF m 52 #[.val (.ref ob), .val (.double rho), .second, .val (.double phi), .second, .val (.double bet), .second] [(.double bet), (.ref a5)])) rfl (by rw [hml]; rfl) (argsL := [(.ref a5), (.double bet)]) (rest := []) (lenOf pd_2 rfl) rfl (by show 2 * 0 + _ ≤ _; exact Nat.le_of_eq rfl) (hb hby d1_52) (fun _ _ => ⟨rfl, e5, (by decide : 4 + 0 ≤ _), (by decide : 36 + 0 ≤ _)⟩)
  dsimp only [Pt.U, Pt.locs, Pt.cells, Pt.slots] at X6 l6 y6 z6 st6 hQ6
  subst l6 y6 z6
  obtain ⟨rfl, N6q, e6⟩ := hQ6
  have N6 := Fr.app N4 N6q
  obtain ⟨T7, h7, X7, e7, W7, st7⟩ := putF X6 hx hZ5 hown5 (host := "") (Or.inl (hw _ (List.mem_of_getElem? (i := 31) rfl))) Via.refl e6 F_rho_o_e5 E_o_e5 (Or.inr ⟨(hw _ (List.mem_of_getElem? (i := 32) rfl)), rfl, hnm⟩) (hw _ (List.mem_of_getElem? (i := 4) rfl)) (ty := .double) (by decide) rfl rfl (g := (mkF m 57 #[.val (.ref ob), .val (.double rho), .second, .val (.double phi), .second, .val (.double bet), .second] [(.double rho), (.ref ob)])) rfl rfl (hb hby d1_57)
  have Fw7 := F_rho_o_e5.same W7
  have F_phi_o_e7 := F_phi_o_e5.other W7 (Or.inr (slot_ne (Or.inr (hw _ (List.mem_of_getElem? (i := 34) rfl))) (Or.inr (hw _ (List.mem_of_getElem? (i := 32) rfl))) (by decide) (t := .double) (t' := .double) (by decide) (by decide)))
  have F_beta_o_e7 := F_beta_o_e5.other W7 (Or.inr (slot_ne (Or.inr (hw _ (List.mem_of_getElem? (i := 36) rfl))) (Or.inr (hw _ (List.mem_of_getElem? (i := 32) rfl))) (by decide) (t := .double) (t' := .double) (by decide) (by decide)))
  have E_o_e7 := E_o_e5.wr W7
  have N7 := Fr.snoc X7 N6 g_ob
  have K7 := K5.wr W7 (Or.inl (List.mem_of_getElem? (i := 0) rfl))
  have Z7 : n0 ≤ h7.size := Nat.le_trans Z5 (Keep.of_wr W7).1
  have hk7 := Nat.le_trans hk5 (Keep.of_wr W7).1
  obtain ⟨T8, h8, X8, e8, W8, st8⟩ := putF X7 hx hZ5 hown5 (host := "") (Or.inl (hw _ (List.mem_of_getElem? (i := 33) rfl))) Via.refl e7 F_phi_o_e7 E_o_e7 (Or.inr ⟨(hw _ (List.mem_of_getElem? (i := 34) rfl)), rfl, hnm⟩) (hw _ (List.mem_of_getElem? (i := 4) rfl)) (ty := .double) (by decide) rfl rfl (g := (mkF m 62 #[.val (.ref ob), .val (.double rho), .second, .val (.double phi), .second, .val (.double bet), .second] [(.double phi), (.ref ob)])) rfl rfl (hb hby d1_62)
  have Fw8 := F_phi_o_e7.same W8
  have Fw7_e8 := Fw7.other W8 (Or.inr (slot_ne (Or.inr (hw _ (List.mem_of_getElem? (i := 32) rfl))) (Or.inr (hw _ (List.mem_of_getElem? (i := 34) rfl))) (by decide) (t := .double) (t' := .double) (by decide) (by decide)))
  have F_beta_o_e8 := F_beta_o_e7.other W8 (Or.inr (slot_ne (Or.inr (hw _ (List.mem_of_getElem? (i := 36) rfl))) (Or.inr (hw _ (List.mem_of_getElem? (i := 34) rfl))) (by decide) (t := .double) (t' := .double) (by decide) (by decide)))
  have E_o_e8 := E_o_e7.wr W8
  have N8 := Fr.snoc X8 N7 g_ob
  have K8 := K7.wr W8 (Or.inl (List.mem_of_getElem? (i := 0) rfl))
  have Z8 : n0 ≤ h8.size := Nat.le_trans Z7 (Keep.of_wr W8).1
  have hk8 := Nat.le_trans hk7 (Keep.of_wr W8).1
  obtain ⟨T9, h9, X9, e9, W9, st9⟩ := putF X8 hx hZ5 hown5 (host := "") (Or.inl (hw _ (List.mem_of_getElem? (i := 35) rfl))) Via.refl e8 F_beta_o_e8 E_o_e8 (Or.inr ⟨(hw _ (List.mem_of_getElem? (i := 36) rfl)), rfl, hnm⟩) (hw _ (List.mem_of_getElem? (i := 4) rfl)) (ty := .double) (by decide) rfl rfl (g := (mkF m 68 #[.val (.ref ob), .val (.double rho), .second, .val (.double phi), .second, .val (.double bet), .second] [(.double bet), (.ref ob)])) rfl rfl (hb hby d1_68)
  have Fw9 := F_beta_o_e8.same W9
  have Fw7_e9 := Fw7_e8.other W9 (Or.inr (slot_ne (Or.inr (hw _ (List.mem_of_getElem? (i := 32) rfl))) (Or.inr (hw _ (List.mem_of_getElem? (i := 36) rfl))) (by decide) (t := .double) (t' := .double) (by decide) (by decide)))
  have Fw8_e9 := Fw8.other W9 (Or.inr (slot_ne (Or.inr (hw _ (List.mem_of_getElem? (i := 34) rfl))) (Or.inr (hw _ (List.mem_of_getElem? (i := 36) rfl))) (by decide) (t := .double) (t' := .double) (by decide) (by decide)))
  have E_o_e9 := E_o_e8.wr W9
  have N9 := Fr.snoc X9 N8 g_ob
  have K9 := K8.wr W9 (Or.inl (List.mem_of_getElem? (i := 0) rfl))
  have Z9 : n0 ≤ h9.size := Nat.le_trans Z8 (Keep.of_wr W9).1
  have hk9 := Nat.le_trans hk8 (Keep.of_wr W9).1
  obtain ⟨fs, hr, hrun, hended, -, hWW, hBB, hSS⟩ := X9.leaveW hS5 (by rw [e9]; exact hk9) (v := none) (fun _ => rfl)
  refine ⟨_, _, pre0 _ ?_, hrun, hended, _, _, rfl, ?_, ⟨_, rfl⟩, hWW, hBB, hSS.mono (by decide) (by decide)⟩
  · show Steps p.tables e below (s₁.setTop (mkF m 0 #[.val (.ref ob), .val (.double rho), .second, .val (.double phi), .second, .val (.double bet), .second] [])) _
    refine XS.aloadN X0.here hx rfl (hb hby d1_0) rfl rfl ?_
    show Steps p.tables e below (s₁.setTop (mkF m 1 #[.val (.ref ob), .val (.double rho), .second, .val (.double phi), .second, .val (.double bet), .second] [(.ref ob)])) _
    refine st2.trans ?_
    show Steps p.tables e below (T2.setTop (mkF m 4 #[.val (.ref ob), .val (.double rho), .second, .val (.double phi), .second, .val (.double bet), .second] [])) _
    refine st3 _ ?_
    refine XS.dloadN X3.here hx rfl (hb hby d1_6) rfl ?_
    show Steps p.tables e below (T3.setTop (mkF m 7 #[.val (.ref ob), .val (.double rho), .second, .val (.double phi), .second, .val (.double bet), .second] [(.double rho), (.ref a3)])) _
    refine st4 _ ?_
    refine XS.dloadN X4.here hx rfl (hb hby d1_10) rfl ?_
    refine XS.dconst0 X4.here hx rfl (hb hby d1_11) rfl ?_
    refine XS.dcmpS X4.here hx rfl (hb hby d1_12) rfl rfl ?_
    show Steps p.tables e below (T4.setTop (mkF m 13 #[.val (.ref ob), .val (.double rho), .second, .val (.double phi), .second, .val (.double bet), .second] [(.int (cmpValue (FP.dcmp phi FP.dconst0) .l))])) _
    refine XS.ifNo X4.here hx rfl (hb hby d1_13) rfl ((if0 _ _).trans (flt hc13).1) ?_
    refine XS.dloadN X4.here hx rfl (hb hby d1_16) rfl ?_
    refine XS.dconst1 X4.here hx rfl (hb hby d1_17) rfl ?_
    refine XS.dcmpS X4.here hx rfl (hb hby d1_18) rfl rfl ?_
    show Steps p.tables e below (T4.setTop (mkF m 19 #[.val (.ref ob), .val (.double rho), .second, .val (.double phi), .second, .val (.double bet), .second] [(.int (cmpValue (FP.dcmp phi FP.dconst1) .g))])) _
    refine XS.ifYes X4.here hx rfl (pc0 := 19) (pc' := 48) rfl (hb hby d1_19) rfl ((if0 _ _).trans (tlt hc19).1) (by decide) (by decide) ?_
    show Steps p.tables e below (T4.setTop (mkF m 48 #[.val (.ref ob), .val (.double rho), .second, .val (.double phi), .second, .val (.double bet), .second] [])) _
    refine st5 _ ?_
    refine XS.dload X5.here hx rfl (hb hby d1_50) rfl ?_
    show Steps p.tables e below (T5.setTop (mkF m 52 #[.val (.ref ob), .val (.double rho), .second, .val (.double phi), .second, .val (.double bet), .second] [(.double bet), (.ref a5)])) _
    refine st6 _ ?_
    refine XS.aloadN X6.here hx rfl (hb hby d1_55) rfl rfl ?_
    refine XS.dloadN X6.here hx rfl (hb hby d1_56) rfl ?_
    show Steps p.tables e below (T6.setTop (mkF m 57 #[.val (.ref ob), .val (.double rho), .second, .val (.double phi), .second, .val (.double bet), .second] [(.double rho), (.ref ob)])) _
    refine st7 _ ?_
    refine XS.aloadN X7.here hx rfl (hb hby d1_60) rfl rfl ?_
    refine XS.dloadN X7.here hx rfl (hb hby d1_61) rfl ?_
    show Steps p.tables e below (T7.setTop (mkF m 62 #[.val (.ref ob), .val (.double rho), .second, .val (.double phi), .second, .val (.double bet), .second] [(.double phi), (.ref ob)])) _
    refine st8 _ ?_
    refine XS.aloadN X8.here hx rfl (hb hby d1_65) rfl rfl ?_
    refine XS.dload X8.here hx rfl (hb hby d1_66) rfl ?_
    show Steps p.tables e below (T8.setTop (mkF m 68 #[.val (.ref ob), .val (.double rho), .second, .val (.double phi), .second, .val (.double bet), .second] [(.double bet), (.ref ob)])) _
    refine st9 _ ?_
    exact X9.returnOut hx Bd.returns (hb hby d1_71) hr
  · show Q1 Z ob phi h0 n0 _ T9.heap _
    rw [e9]
    exact ⟨rfl, N9, K9, E_o_e9, Fw8_e9⟩
def valF (phi : UInt64) : Int32 := if (0 : Int32) < cmpValue (FP.dcmp phi FP.dconst0) .l then 1 else 0
def Q5 (phi : UInt64) (h0 : Heap) (n0 : Nat) (v : Option Value) (h : Heap) (L : List Loc) : Prop := v = some (.int (valF phi)) ∧ Fr n0 L ∧ h = h0
set_option maxRecDepth 65536 in
set_option maxHeartbeats 40000000 in
theorem rm5_0 (l : Launch) (Z : State) (a0 : Array Value) (hw : ∀ d ∈ tables_1, d.before a0 Z = true) (ws : List Jvm.Cond) (ob : Addr) (phi : UInt64) (h0 : Heap) (n0 : Nat) (Z0 : n0 ≤ h0.size) (F_phi_o : Fld Z h0 ob "com/example/retiremetric/retiremetric/model/preferences/Preferences" "phi" "D" (.double phi)) (hc6 : ¬ ((0 : Int32) < (cmpValue (FP.dcmp phi FP.dconst0) .l))) :
    MetFree l (⟨"com/example/retiremetric/retiremetric/model/preferences/Preferences", "valuesResidualBenefit", "()Z"⟩ : MethodName) (head1 (Jvm.Cond.code (⟨"com/example/retiremetric/retiremetric/model/preferences/Preferences", "valuesResidualBenefit", "()Z"⟩ : MethodName) prog_44_method_2_code 1 (some .boolean) :: ws) ({ frames := 0, cells := 0, slots := 0, locals := 0 } : Room)) (fun aa U => aa = #[(.ref ob)] ∧ Z.Warmed39 U.vm ∧ U.heap = h0) (fun _ _ _ _ _ => True) (fun _ U o U' => ∃ v L, o = .returned v ∧ Q5 phi h0 n0 v U'.heap L ∧ FrameEnd U o U' L ({ frames := 0, cells := 0, slots := 0, locals := 0 } : Room).cells ({ frames := 0, cells := 0, slots := 0, locals := 0 } : Room).slots) := by
  refine MetFree.of_bodySF (plainFor_of_name pn_5) hisR ?_
  intro p e s m args below meth c s₁ Bd hml0 hP hK
  obtain ⟨rfl, hZ, hh⟩ := hP
  have hx := Bd.exec
  have hby := Bd.bytes
  have hml : c.maxLocals = 1 := hml0
  have hown : s.vm.findClass "com/example/retiremetric/retiremetric/model/preferences/Preferences" = some m.cls := findClass_of_methodNamed Bd.named
  have hnm := (name_of_methodNamed Bd.named Bd.method).1
  have X0 : Stand p l e ({ frames := 0, cells := 0, slots := 0, locals := 0 } : Room) s m #[(.ref ob)] below meth c s₁ [] 0 0 := Stand.of_body Bd
  have e0 : s₁.heap = h0 := by rw [← hh, Bd.state]; rfl
  have N0 := Fr.nil n0
  have pre0 : ∀ zz, Steps p.tables e below (s₁.setTop (mkF m 0 #[.val (.ref ob)] [])) zz → Steps p.tables e below (s₁.setTop (entryFrame m #[(.ref ob)] 1)) zz := fun zz k => castTop (ef_5 m ob) k
  obtain ⟨T10, X10, e10, st10⟩ := getF X0 hx hZ hown (host := "") (Or.inl (hw _ (List.mem_of_getElem? (i := 33) rfl))) Via.refl e0 F_phi_o (g := (mkF m 1 #[.val (.ref ob)] [(.ref ob)])) rfl rfl (hb hby d5_1)
  obtain ⟨fs, hr, hrun, hended, hW, hsame⟩ := X10.leave (v := some (.int (0 : Int32))) (fun h => by rw [Bd.returns] at h; cases h)
  refine ⟨_, _, pre0 _ ?_, hrun, hended, _, _, rfl, ?_, ⟨_, rfl⟩, hW, hsame.mono (by decide) (by decide)⟩
  · show Steps p.tables e below (s₁.setTop (mkF m 0 #[.val (.ref ob)] [])) _
    refine XS.aloadN X0.here hx rfl (hb hby d5_0) rfl rfl ?_
    show Steps p.tables e below (s₁.setTop (mkF m 1 #[.val (.ref ob)] [(.ref ob)])) _
    refine st10 _ ?_
    refine XS.dconst0 X10.here hx rfl (hb hby d5_4) rfl ?_
    refine XS.dcmpS X10.here hx rfl (hb hby d5_5) rfl rfl ?_
    refine XS.ifYes X10.here hx rfl (pc0 := 6) (pc' := 13) rfl (hb hby d5_6) rfl ((if0 _ _).trans (flt hc6).2.2.2) (by decide) (by decide) ?_
    show Steps p.tables e below (T10.setTop (mkF m 13 #[.val (.ref ob)] [])) _
    refine XS.iconst X10.here hx rfl (hb hby d5_13) ?_
    exact retN X10 hx (t := .boolean) Bd.returns (by simp) (hb hby d5_14) hr
  · show Q5 phi h0 n0 _ T10.heap _
    rw [e10]
    exact ⟨by rw [valF, if_neg hc6], N0, rfl⟩
set_option maxRecDepth 65536 in
set_option maxHeartbeats 40000000 in
theorem rm5_1 (l : Launch) (Z : State) (a0 : Array Value) (hw : ∀ d ∈ tables_1, d.before a0 Z = true) (ws : List Jvm.Cond) (ob : Addr) (phi : UInt64) (h0 : Heap) (n0 : Nat) (Z0 : n0 ≤ h0.size) (F_phi_o : Fld Z h0 ob "com/example/retiremetric/retiremetric/model/preferences/Preferences" "phi" "D" (.double phi)) (hc6 : (0 : Int32) < (cmpValue (FP.dcmp phi FP.dconst0) .l)) :
    MetFree l (⟨"com/example/retiremetric/retiremetric/model/preferences/Preferences", "valuesResidualBenefit", "()Z"⟩ : MethodName) (head1 (Jvm.Cond.code (⟨"com/example/retiremetric/retiremetric/model/preferences/Preferences", "valuesResidualBenefit", "()Z"⟩ : MethodName) prog_44_method_2_code 1 (some .boolean) :: ws) ({ frames := 0, cells := 0, slots := 0, locals := 0 } : Room)) (fun aa U => aa = #[(.ref ob)] ∧ Z.Warmed39 U.vm ∧ U.heap = h0) (fun _ _ _ _ _ => True) (fun _ U o U' => ∃ v L, o = .returned v ∧ Q5 phi h0 n0 v U'.heap L ∧ FrameEnd U o U' L ({ frames := 0, cells := 0, slots := 0, locals := 0 } : Room).cells ({ frames := 0, cells := 0, slots := 0, locals := 0 } : Room).slots) := by
  refine MetFree.of_bodySF (plainFor_of_name pn_5) hisR ?_
  intro p e s m args below meth c s₁ Bd hml0 hP hK
  obtain ⟨rfl, hZ, hh⟩ := hP
  have hx := Bd.exec
  have hby := Bd.bytes
  have hml : c.maxLocals = 1 := hml0
  have hown : s.vm.findClass "com/example/retiremetric/retiremetric/model/preferences/Preferences" = some m.cls := findClass_of_methodNamed Bd.named
  have hnm := (name_of_methodNamed Bd.named Bd.method).1
  have X0 : Stand p l e ({ frames := 0, cells := 0, slots := 0, locals := 0 } : Room) s m #[(.ref ob)] below meth c s₁ [] 0 0 := Stand.of_body Bd
  have e0 : s₁.heap = h0 := by rw [← hh, Bd.state]; rfl
  have N0 := Fr.nil n0
  have pre0 : ∀ zz, Steps p.tables e below (s₁.setTop (mkF m 0 #[.val (.ref ob)] [])) zz → Steps p.tables e below (s₁.setTop (entryFrame m #[(.ref ob)] 1)) zz := fun zz k => castTop (ef_5 m ob) k
  obtain ⟨T11, X11, e11, st11⟩ := getF X0 hx hZ hown (host := "") (Or.inl (hw _ (List.mem_of_getElem? (i := 33) rfl))) Via.refl e0 F_phi_o (g := (mkF m 1 #[.val (.ref ob)] [(.ref ob)])) rfl rfl (hb hby d5_1)
  obtain ⟨fs, hr, hrun, hended, hW, hsame⟩ := X11.leave (v := some (.int (1 : Int32))) (fun h => by rw [Bd.returns] at h; cases h)
  refine ⟨_, _, pre0 _ ?_, hrun, hended, _, _, rfl, ?_, ⟨_, rfl⟩, hW, hsame.mono (by decide) (by decide)⟩
  · show Steps p.tables e below (s₁.setTop (mkF m 0 #[.val (.ref ob)] [])) _
    refine XS.aloadN X0.here hx rfl (hb hby d5_0) rfl rfl ?_
    show Steps p.tables e below (s₁.setTop (mkF m 1 #[.val (.ref ob)] [(.ref ob)])) _
    refine st11 _ ?_
    refine XS.dconst0 X11.here hx rfl (hb hby d5_4) rfl ?_
    refine XS.dcmpS X11.here hx rfl (hb hby d5_5) rfl rfl ?_
    refine XS.ifNo X11.here hx rfl (hb hby d5_6) rfl ((if0 _ _).trans (tlt hc6).2.2.2) ?_
    show Steps p.tables e below (T11.setTop (mkF m 9 #[.val (.ref ob)] [])) _
    refine XS.iconst X11.here hx rfl (hb hby d5_9) ?_
    refine XS.goto X11.here hx rfl (pc0 := 10) (pc' := 14) rfl (hb hby d5_10) (by decide) (by decide) ?_
    exact retN X11 hx (t := .boolean) Bd.returns (by simp) (hb hby d5_14) hr
  · show Q5 phi h0 n0 _ T11.heap _
    rw [e11]
    exact ⟨by rw [valF, if_pos hc6], N0, rfl⟩
set_option maxRecDepth 65536 in
set_option maxHeartbeats 40000000 in
theorem rm5 (l : Launch) (Z : State) (a0 : Array Value) (hw : ∀ d ∈ tables_1, d.before a0 Z = true) (ws : List Jvm.Cond) (ob : Addr) (phi : UInt64) (h0 : Heap) (n0 : Nat) (Z0 : n0 ≤ h0.size) (F_phi_o : Fld Z h0 ob "com/example/retiremetric/retiremetric/model/preferences/Preferences" "phi" "D" (.double phi))  :
    MetFree l (⟨"com/example/retiremetric/retiremetric/model/preferences/Preferences", "valuesResidualBenefit", "()Z"⟩ : MethodName) (head1 (Jvm.Cond.code (⟨"com/example/retiremetric/retiremetric/model/preferences/Preferences", "valuesResidualBenefit", "()Z"⟩ : MethodName) prog_44_method_2_code 1 (some .boolean) :: ws) ({ frames := 0, cells := 0, slots := 0, locals := 0 } : Room)) (fun aa U => aa = #[(.ref ob)] ∧ Z.Warmed39 U.vm ∧ U.heap = h0) (fun _ _ _ _ _ => True) (fun _ U o U' => ∃ v L, o = .returned v ∧ Q5 phi h0 n0 v U'.heap L ∧ FrameEnd U o U' L ({ frames := 0, cells := 0, slots := 0, locals := 0 } : Room).cells ({ frames := 0, cells := 0, slots := 0, locals := 0 } : Room).slots) := by
  by_cases h : (0 : Int32) < cmpValue (FP.dcmp phi FP.dconst0) .l
  · exact rm5_1 l Z a0 hw ws ob phi h0 n0 Z0 F_phi_o h
  · exact rm5_0 l Z a0 hw ws ob phi h0 n0 Z0 F_phi_o h
def Q0 (h0 : Heap) (n0 : Nat) (v : Option Value) (h : Heap) (L : List Loc) : Prop := v = some (.int 1) ∧ Fr n0 L
def dF (a : Int32) : Int32 := (a &&& (65535 : Int32)) + (1 : Int32)
def kF (a b : Int32) : Int32 := (b &&& (2147483647 : Int32)) % dF a
def phF (a b : Int32) : UInt64 := FP.ddiv (FP.i2d (kF a b)) (FP.i2d (dF a))
def rhF (r : Int32) : UInt64 := FP.ddiv (FP.i2d (dF r)) (4625196817309499392 : UInt64)
set_option maxRecDepth 65536 in
set_option maxHeartbeats 40000000 in
theorem rm0_k (l : Launch) (Z : State) (a0 : Array Value) (hw : ∀ d ∈ tables_1, d.before a0 Z = true) (ws : List Jvm.Cond) (a : Int32) (b : Int32) (r : Int32) (t : Int32) (fl : Int32)  (h0 : Heap) (n0 : Nat) (Z0 : n0 ≤ h0.size)  (hnz14 : ¬ ((dF a) = (0 : Int32))) (hnan23 : Jvm.Free.Fl.NoNaN64 (FP.ddiv (FP.i2d (kF a b)) (FP.i2d (dF a)))) (hc28 : ¬ ((kF a b) = (0 : Int32))) (hnan53 : Jvm.Free.Fl.NoNaN64 (FP.ddiv (FP.i2d (dF r)) (4625196817309499392 : UInt64))) (hnan66 : Jvm.Free.Fl.NoNaN64 (FP.ddiv (FP.i2d (dF t)) (4625196817309499392 : UInt64))) (frhc3 : (0 : Int32) < (cmpValue (FP.dcmp (rhF r) FP.dconst0) .l)) (frhc11 : (cmpValue (FP.dcmp (rhF r) (9218868437227405312 : UInt64)) .g) < (0 : Int32)) (fhc13 : ¬ ((cmpValue (FP.dcmp (phF a b) FP.dconst0) .l) < (0 : Int32))) (fhc19 : (cmpValue (FP.dcmp (phF a b) FP.dconst1) .g) < (0 : Int32)) (frhc3_1 : (0 : Int32) < (cmpValue (FP.dcmp (rhF t) FP.dconst0) .l)) (frhc11_1 : (cmpValue (FP.dcmp (rhF t) (9218868437227405312 : UInt64)) .g) < (0 : Int32)) (hc86 : ¬ ((kF a b) = (0 : Int32))) (hc103 : (valF (phF a b)) = (1 : Int32)) :
    MetFree l x (head1 (Jvm.Cond.code x code maxLocals ret :: ws) room_1) (fun aa U => aa = #[(.int a), (.int b), (.int r), (.int t), (.int fl)] ∧ Z.Warmed39 U.vm ∧ U.heap = h0) (fun _ _ _ _ _ => True) (fun _ U o U' => ∃ v L, o = .returned v ∧ Q0  h0 n0 v U'.heap L ∧ ReturnedEndW U o U' L room_1.cells room_1.slots) := by
  refine MetFree.of_bodySF (plainFor_of_name pn_0) hisR ?_
  intro p e s m args below meth c s₁ Bd hml0 hP hK
  obtain ⟨rfl, hZ, hh⟩ := hP
  have hx := Bd.exec
  have hby := Bd.bytes
  have hml : c.maxLocals = 15 := hml0
  have hown : s.vm.findClass "com/example/retiremetric/retiremetric/model/preferences/PreferencesValuesResidualBenefitPinLaw" = some m.cls := findClass_of_methodNamed Bd.named
  have hnm := (name_of_methodNamed Bd.named Bd.method).1
  have X0 : Stand p l e room_1 s m #[(.int a), (.int b), (.int r), (.int t), (.int fl)] below meth c s₁ [] 0 0 := Stand.of_body Bd
  have e0 : s₁.heap = h0 := by rw [← hh, Bd.state]; rfl
  have N0 := Fr.nil n0
  have pre0 : ∀ zz, Steps p.tables e below (s₁.setTop (mkF m 0 #[.val (.int a), .val (.int b), .val (.int r), .val (.int t), .val (.int fl), .unset, .unset, .unset, .unset, .unset, .unset, .unset, .unset, .unset, .unset] [])) zz → Steps p.tables e below (s₁.setTop (entryFrame m #[(.int a), (.int b), (.int r), (.int t), (.int fl)] maxLocals)) zz := fun zz k => castTop (ef_0 m a b r t fl) k
  obtain ⟨T12, h12, X12, e12, E12, A12, D12, -, st12⟩ := newO X0 hx hZ hown (hw _ (List.mem_of_getElem? (i := 3) rfl)) (hw _ (List.mem_of_getElem? (i := 4) rfl)) (hw _ (List.mem_of_getElem? (i := 5) rfl)) e0 (g := (mkF m 69 #[.val (.int a), .val (.int b), .val (.int r), .val (.int t), .val (.int fl), .val (.int (dF a)), .val (.int (kF a b)), .val (.double (phF a b)), .second, .val (.double (rhF r)), .second, .val (.double (rhF t)), .second, .unset, .unset] [])) rfl (hb hby at_69) (by decide) (by decide)
  obtain ⟨b12, g12⟩ : ∃ z, z = h0.size := ⟨_, rfl⟩
  rw [← g12] at A12 D12 st12
  have E_b12 := A12
  have g_b12 : n0 ≤ b12 := Nat.le_trans Z0 (Nat.le_of_eq g12.symm)
  have sz_b12 : h0.size ≤ b12 := Nat.le_trans (Keep.refl h0 []).1 (Nat.le_of_eq g12.symm)
  have K12 := (Keep.refl h0 []).ext E12
  have Z12 : n0 ≤ h12.size := Nat.le_trans Z0 E12.1
  have F_rho_b12 : Fld Z h12 b12 "com/example/retiremetric/retiremetric/model/preferences/Preferences" "rho" "D" (.double 0) := D12 (Or.inr (hw _ (List.mem_of_getElem? (i := 32) rfl))) (ty := .double) (by decide)
  have F_phi_b12 : Fld Z h12 b12 "com/example/retiremetric/retiremetric/model/preferences/Preferences" "phi" "D" (.double 0) := D12 (Or.inr (hw _ (List.mem_of_getElem? (i := 34) rfl))) (ty := .double) (by decide)
  have F_beta_b12 : Fld Z h12 b12 "com/example/retiremetric/retiremetric/model/preferences/Preferences" "beta" "D" (.double 0) := D12 (Or.inr (hw _ (List.mem_of_getElem? (i := 36) rfl))) (ty := .double) (by decide)
  obtain ⟨_, _, ⟨T13, L13, k13, n13⟩, -, X13, hS213, hg13, ⟨Lc13, hQ13, l13, y13, z13⟩, st13⟩ := X12.specialBackS hx (y := (⟨"com/example/retiremetric/retiremetric/model/preferences/Preferences", "<init>", "(DDD)V"⟩ : MethodName)) rfl hown (mvT hZ (hw _ (List.mem_of_getElem? (i := 6) rfl))) (mvT hZ (hw _ (List.mem_of_getElem? (i := 7) rfl))) (mvT hZ (hw _ (List.mem_of_getElem? (i := 8) rfl))) (by decide) (backOfS (W := 1) (rm1 l Z a0 hw [] b12 (rhF r) (phF a b) (rhF t) h12 n0 Z12 g_b12 E_b12 F_rho_b12 F_phi_b12 F_beta_b12 frhc3 frhc11 fhc13 fhc19 frhc3_1 frhc11_1) hZ (hw _ (List.mem_of_getElem? (i := 8) rfl)) (hw _ (List.mem_of_getElem? (i := 5) rfl)) (by decide) (by decide)) (g := (mkF m 79 #[.val (.int a), .val (.int b), .val (.int r), .val (.int t), .val (.int fl), .val (.int (dF a)), .val (.int (kF a b)), .val (.double (phF a b)), .second, .val (.double (rhF r)), .second, .val (.double (rhF t)), .second, .unset, .unset] [(.double (rhF t)), (.double (phF a b)), (.double (rhF r)), (.ref b12), (.ref b12)])) rfl (by rw [hml]; rfl) (Steps.refl _) (a := b12) (argsL := [(.double (rhF r)), (.double (phF a b)), (.double (rhF t))]) (rest := [(.ref b12)]) (lenOf pd_0 rfl) rfl (by show 2 * 0 + _ ≤ _; exact Nat.le_of_eq rfl) (hb hby at_79) (fun _ _ => ⟨rfl, e12, (by decide : 1 + 4 ≤ _), (by decide : 3 + 36 ≤ _)⟩)
  dsimp only [Pt.U, Pt.locs, Pt.cells, Pt.slots] at X13 l13 y13 z13 st13 hQ13 hS213 hg13
  subst l13 y13 z13
  obtain ⟨rfl, N13q, K13q, E13q, F13q⟩ := hQ13
  have N13 := Fr.app N0 N13q
  have hS13 := foldS ((State.WarmedH.refl s).since 0) (by rw [e12]; exact (Nat.zero_le _)) hS213 hg13
  have hZ13 : Z.Warmed39 (s.setVm T13.vm).vm := State.Warmed39.trans hZ hS213.1
  have hown13 : (s.setVm T13.vm).vm.findClass "com/example/retiremetric/retiremetric/model/preferences/PreferencesValuesResidualBenefitPinLaw" = some m.cls := by rw [show (s.setVm T13.vm).vm = T13.vm from rfl, hS213.1.alike.findClass]; exact hown
  have Z13 : n0 ≤ T13.heap.size := Nat.le_trans Z12 K13q.1
  obtain ⟨cq14, kq14, q14a, q14b, q14c⟩ := isOf hZ13 rfl E13q
  obtain ⟨_, _, ⟨T14, L14, k14, n14⟩, -, X14, ⟨Lc14, hQ14, l14, y14, z14⟩, st14⟩ := X13.virtualBack hx (y := (⟨"com/example/retiremetric/retiremetric/model/preferences/Preferences", "valuesResidualBenefit", "()Z"⟩ : MethodName)) (z := (⟨"com/example/retiremetric/retiremetric/model/preferences/Preferences", "valuesResidualBenefit", "()Z"⟩ : MethodName)) hown13 (mvT hZ13 (hw _ (List.mem_of_getElem? (i := 37) rfl))) (mvT hZ13 (hw _ (List.mem_of_getElem? (i := 38) rfl))) (notFace_of_selects (args := #[]) (mvT hZ13 (hw _ (List.mem_of_getElem? (i := 40) rfl)))) (mvT hZ13 (hw _ (List.mem_of_getElem? (i := 40) rfl))) (mvT hZ13 (hw _ (List.mem_of_getElem? (i := 39) rfl))) (by decide) (backOf (W := 0) (rm5 l Z a0 hw [] b12 (phF a b) T13.heap n0 Z13 F13q) hZ13 (hw _ (List.mem_of_getElem? (i := 41) rfl)) (hw _ (List.mem_of_getElem? (i := 5) rfl)) (by decide) (by decide)) q14a q14c (g := (mkF m 98 #[.val (.int a), .val (.int b), .val (.int r), .val (.int t), .val (.int fl), .val (.int (dF a)), .val (.int (kF a b)), .val (.double (phF a b)), .second, .val (.double (rhF r)), .second, .val (.double (rhF t)), .second, .val (.ref b12), .val (.int (1 : Int32))] [(.ref b12)])) rfl (by rw [hml]; rfl) (Steps.refl _) (argsL := []) (rest := []) (lenOf pd_3 rfl) rfl (by show 2 * 0 + _ ≤ _; exact Nat.le_of_eq rfl) (hb hby at_98) (fun _ _ => ⟨rfl, rfl, (by decide : 5 + 0 ≤ _), (by decide : 39 + 0 ≤ _)⟩)
  dsimp only [Pt.U, Pt.locs, Pt.cells, Pt.slots] at X14 l14 y14 z14 st14 hQ14
  subst l14 y14 z14
  obtain ⟨rfl, N14q, e14⟩ := hQ14
  have N14 := Fr.app N13 N14q
  obtain ⟨fs, hr, hrun, hended, -, hWW, hBB, hSS⟩ := X14.leaveW hS13 (by rw [e14]; exact (Nat.le_refl _)) (v := some (.int (1 : Int32))) (fun h => by rw [Bd.returns] at h; cases h)
  refine ⟨_, _, pre0 _ ?_, hrun, hended, _, _, rfl, ?_, ⟨_, rfl⟩, hWW, hBB, hSS.mono (by decide) (by decide)⟩
  · show Steps p.tables e below (s₁.setTop (mkF m 0 #[.val (.int a), .val (.int b), .val (.int r), .val (.int t), .val (.int fl), .unset, .unset, .unset, .unset, .unset, .unset, .unset, .unset, .unset, .unset] [])) _
    refine XS.iloadN X0.here hx rfl (hb hby at_0) rfl ?_
    refine X0.ldcInt hx hown (mvT hZ (hw _ (List.mem_of_getElem? (i := 0) rfl))) (g := (mkF m 1 #[.val (.int a), .val (.int b), .val (.int r), .val (.int t), .val (.int fl), .unset, .unset, .unset, .unset, .unset, .unset, .unset, .unset, .unset, .unset] [(.int a)])) rfl (hb hby at_1) _ ?_
    refine XS.iand X0.here hx rfl (hb hby at_3) rfl ?_
    refine XS.iconst X0.here hx rfl (hb hby at_4) ?_
    show Steps p.tables e below (s₁.setTop (mkF m 5 #[.val (.int a), .val (.int b), .val (.int r), .val (.int t), .val (.int fl), .unset, .unset, .unset, .unset, .unset, .unset, .unset, .unset, .unset, .unset] [(.int (1 : Int32)), (.int (a &&& (65535 : Int32)))])) _
    refine XS.iadd X0.here hx rfl (hb hby at_5) rfl ?_
    show Steps p.tables e below (s₁.setTop (mkF m 6 #[.val (.int a), .val (.int b), .val (.int r), .val (.int t), .val (.int fl), .unset, .unset, .unset, .unset, .unset, .unset, .unset, .unset, .unset, .unset] [(.int (dF a))])) _
    refine XS.istore X0.here hx rfl (hb hby at_6) rfl (l' := #[.val (.int a), .val (.int b), .val (.int r), .val (.int t), .val (.int fl), .val (.int (dF a)), .unset, .unset, .unset, .unset, .unset, .unset, .unset, .unset, .unset]) rfl ?_
    refine XS.iloadN X0.here hx rfl (hb hby at_8) rfl ?_
    refine X0.ldcInt hx hown (mvT hZ (hw _ (List.mem_of_getElem? (i := 1) rfl))) (g := (mkF m 9 #[.val (.int a), .val (.int b), .val (.int r), .val (.int t), .val (.int fl), .val (.int (dF a)), .unset, .unset, .unset, .unset, .unset, .unset, .unset, .unset, .unset] [(.int b)])) rfl (hb hby at_9) _ ?_
    refine XS.iand X0.here hx rfl (hb hby at_11) rfl ?_
    show Steps p.tables e below (s₁.setTop (mkF m 12 #[.val (.int a), .val (.int b), .val (.int r), .val (.int t), .val (.int fl), .val (.int (dF a)), .unset, .unset, .unset, .unset, .unset, .unset, .unset, .unset, .unset] [(.int (b &&& (2147483647 : Int32)))])) _
    refine XS.iload X0.here hx rfl (hb hby at_12) rfl ?_
    refine gwIrem X0.here hx rfl (hb hby at_14) rfl hnz14 ?_
    show Steps p.tables e below (s₁.setTop (mkF m 15 #[.val (.int a), .val (.int b), .val (.int r), .val (.int t), .val (.int fl), .val (.int (dF a)), .unset, .unset, .unset, .unset, .unset, .unset, .unset, .unset, .unset] [(.int (kF a b))])) _
    refine XS.istore X0.here hx rfl (hb hby at_15) rfl (l' := #[.val (.int a), .val (.int b), .val (.int r), .val (.int t), .val (.int fl), .val (.int (dF a)), .val (.int (kF a b)), .unset, .unset, .unset, .unset, .unset, .unset, .unset, .unset]) rfl ?_
    refine XS.iload X0.here hx rfl (hb hby at_17) rfl ?_
    refine XS.i2dS X0.here hx rfl (hb hby at_19) rfl rfl ?_
    refine XS.iload X0.here hx rfl (hb hby at_20) rfl ?_
    show Steps p.tables e below (s₁.setTop (mkF m 22 #[.val (.int a), .val (.int b), .val (.int r), .val (.int t), .val (.int fl), .val (.int (dF a)), .val (.int (kF a b)), .unset, .unset, .unset, .unset, .unset, .unset, .unset, .unset] [(.int (dF a)), (.double (FP.i2d (kF a b)))])) _
    refine XS.i2dS X0.here hx rfl (hb hby at_22) rfl rfl ?_
    refine XS.ddivS X0.here hx rfl (hb hby at_23) rfl hnan23 rfl ?_
    show Steps p.tables e below (s₁.setTop (mkF m 24 #[.val (.int a), .val (.int b), .val (.int r), .val (.int t), .val (.int fl), .val (.int (dF a)), .val (.int (kF a b)), .unset, .unset, .unset, .unset, .unset, .unset, .unset, .unset] [(.double (phF a b))])) _
    refine XS.dstore X0.here hx rfl (hb hby at_24) rfl (l' := #[.val (.int a), .val (.int b), .val (.int r), .val (.int t), .val (.int fl), .val (.int (dF a)), .val (.int (kF a b)), .val (.double (phF a b)), .second, .unset, .unset, .unset, .unset, .unset, .unset]) rfl ?_
    refine XS.iload X0.here hx rfl (hb hby at_26) rfl ?_
    refine XS.ifYes X0.here hx rfl (pc0 := 28) (pc' := 43) rfl (hb hby at_28) rfl ((if0 _ _).trans (feq hc28).2) (by decide) (by decide) ?_
    refine XS.iloadN X0.here hx rfl (hb hby at_43) rfl ?_
    show Steps p.tables e below (s₁.setTop (mkF m 44 #[.val (.int a), .val (.int b), .val (.int r), .val (.int t), .val (.int fl), .val (.int (dF a)), .val (.int (kF a b)), .val (.double (phF a b)), .second, .unset, .unset, .unset, .unset, .unset, .unset] [(.int r)])) _
    refine X0.ldcInt hx hown (mvT hZ (hw _ (List.mem_of_getElem? (i := 0) rfl))) (g := (mkF m 44 #[.val (.int a), .val (.int b), .val (.int r), .val (.int t), .val (.int fl), .val (.int (dF a)), .val (.int (kF a b)), .val (.double (phF a b)), .second, .unset, .unset, .unset, .unset, .unset, .unset] [(.int r)])) rfl (hb hby at_44) _ ?_
    refine XS.iand X0.here hx rfl (hb hby at_46) rfl ?_
    refine XS.iconst X0.here hx rfl (hb hby at_47) ?_
    refine XS.iadd X0.here hx rfl (hb hby at_48) rfl ?_
    show Steps p.tables e below (s₁.setTop (mkF m 49 #[.val (.int a), .val (.int b), .val (.int r), .val (.int t), .val (.int fl), .val (.int (dF a)), .val (.int (kF a b)), .val (.double (phF a b)), .second, .unset, .unset, .unset, .unset, .unset, .unset] [(.int (dF r))])) _
    refine XS.i2dS X0.here hx rfl (hb hby at_49) rfl rfl ?_
    refine X0.ldc2DoubleC hx hown (mvT hZ (hw _ (List.mem_of_getElem? (i := 2) rfl))) (g := (mkF m 50 #[.val (.int a), .val (.int b), .val (.int r), .val (.int t), .val (.int fl), .val (.int (dF a)), .val (.int (kF a b)), .val (.double (phF a b)), .second, .unset, .unset, .unset, .unset, .unset, .unset] [(.double (FP.i2d (dF r)))])) rfl (hb hby at_50) _ ?_
    refine XS.ddivS X0.here hx rfl (hb hby at_53) rfl hnan53 rfl ?_
    show Steps p.tables e below (s₁.setTop (mkF m 54 #[.val (.int a), .val (.int b), .val (.int r), .val (.int t), .val (.int fl), .val (.int (dF a)), .val (.int (kF a b)), .val (.double (phF a b)), .second, .unset, .unset, .unset, .unset, .unset, .unset] [(.double (rhF r))])) _
    refine XS.dstore X0.here hx rfl (hb hby at_54) rfl (l' := #[.val (.int a), .val (.int b), .val (.int r), .val (.int t), .val (.int fl), .val (.int (dF a)), .val (.int (kF a b)), .val (.double (phF a b)), .second, .val (.double (rhF r)), .second, .unset, .unset, .unset, .unset]) rfl ?_
    refine XS.iloadN X0.here hx rfl (hb hby at_56) rfl ?_
    refine X0.ldcInt hx hown (mvT hZ (hw _ (List.mem_of_getElem? (i := 0) rfl))) (g := (mkF m 57 #[.val (.int a), .val (.int b), .val (.int r), .val (.int t), .val (.int fl), .val (.int (dF a)), .val (.int (kF a b)), .val (.double (phF a b)), .second, .val (.double (rhF r)), .second, .unset, .unset, .unset, .unset] [(.int t)])) rfl (hb hby at_57) _ ?_
    refine XS.iand X0.here hx rfl (hb hby at_59) rfl ?_
    show Steps p.tables e below (s₁.setTop (mkF m 60 #[.val (.int a), .val (.int b), .val (.int r), .val (.int t), .val (.int fl), .val (.int (dF a)), .val (.int (kF a b)), .val (.double (phF a b)), .second, .val (.double (rhF r)), .second, .unset, .unset, .unset, .unset] [(.int (t &&& (65535 : Int32)))])) _
    refine XS.iconst X0.here hx rfl (hb hby at_60) ?_
    refine XS.iadd X0.here hx rfl (hb hby at_61) rfl ?_
    show Steps p.tables e below (s₁.setTop (mkF m 62 #[.val (.int a), .val (.int b), .val (.int r), .val (.int t), .val (.int fl), .val (.int (dF a)), .val (.int (kF a b)), .val (.double (phF a b)), .second, .val (.double (rhF r)), .second, .unset, .unset, .unset, .unset] [(.int (dF t))])) _
    refine XS.i2dS X0.here hx rfl (hb hby at_62) rfl rfl ?_
    refine X0.ldc2DoubleC hx hown (mvT hZ (hw _ (List.mem_of_getElem? (i := 2) rfl))) (g := (mkF m 63 #[.val (.int a), .val (.int b), .val (.int r), .val (.int t), .val (.int fl), .val (.int (dF a)), .val (.int (kF a b)), .val (.double (phF a b)), .second, .val (.double (rhF r)), .second, .unset, .unset, .unset, .unset] [(.double (FP.i2d (dF t)))])) rfl (hb hby at_63) _ ?_
    refine XS.ddivS X0.here hx rfl (hb hby at_66) rfl hnan66 rfl ?_
    show Steps p.tables e below (s₁.setTop (mkF m 67 #[.val (.int a), .val (.int b), .val (.int r), .val (.int t), .val (.int fl), .val (.int (dF a)), .val (.int (kF a b)), .val (.double (phF a b)), .second, .val (.double (rhF r)), .second, .unset, .unset, .unset, .unset] [(.double (rhF t))])) _
    refine XS.dstore X0.here hx rfl (hb hby at_67) rfl (l' := #[.val (.int a), .val (.int b), .val (.int r), .val (.int t), .val (.int fl), .val (.int (dF a)), .val (.int (kF a b)), .val (.double (phF a b)), .second, .val (.double (rhF r)), .second, .val (.double (rhF t)), .second, .unset, .unset]) rfl ?_
    show Steps p.tables e below (s₁.setTop (mkF m 69 #[.val (.int a), .val (.int b), .val (.int r), .val (.int t), .val (.int fl), .val (.int (dF a)), .val (.int (kF a b)), .val (.double (phF a b)), .second, .val (.double (rhF r)), .second, .val (.double (rhF t)), .second, .unset, .unset] [])) _
    refine st12 _ ?_
    refine XS.dup X12.here hx rfl (hb hby at_72) rfl rfl ?_
    refine XS.dload X12.here hx rfl (hb hby at_73) rfl ?_
    refine XS.dload X12.here hx rfl (hb hby at_75) rfl ?_
    show Steps p.tables e below (T12.setTop (mkF m 77 #[.val (.int a), .val (.int b), .val (.int r), .val (.int t), .val (.int fl), .val (.int (dF a)), .val (.int (kF a b)), .val (.double (phF a b)), .second, .val (.double (rhF r)), .second, .val (.double (rhF t)), .second, .unset, .unset] [(.double (phF a b)), (.double (rhF r)), (.ref b12), (.ref b12)])) _
    refine XS.dload X12.here hx rfl (hb hby at_77) rfl ?_
    show Steps p.tables e below (T12.setTop (mkF m 79 #[.val (.int a), .val (.int b), .val (.int r), .val (.int t), .val (.int fl), .val (.int (dF a)), .val (.int (kF a b)), .val (.double (phF a b)), .second, .val (.double (rhF r)), .second, .val (.double (rhF t)), .second, .unset, .unset] [(.double (rhF t)), (.double (phF a b)), (.double (rhF r)), (.ref b12), (.ref b12)])) _
    refine st13.trans ?_
    refine XS.astore X13.here hx rfl (hb hby at_82) rfl rfl (l' := #[.val (.int a), .val (.int b), .val (.int r), .val (.int t), .val (.int fl), .val (.int (dF a)), .val (.int (kF a b)), .val (.double (phF a b)), .second, .val (.double (rhF r)), .second, .val (.double (rhF t)), .second, .val (.ref b12), .unset]) rfl ?_
    refine XS.iload X13.here hx rfl (hb hby at_84) rfl ?_
    refine XS.ifNo X13.here hx rfl (hb hby at_86) rfl ((if0 _ _).trans (feq hc86).1) ?_
    show Steps p.tables e below (T13.setTop (mkF m 89 #[.val (.int a), .val (.int b), .val (.int r), .val (.int t), .val (.int fl), .val (.int (dF a)), .val (.int (kF a b)), .val (.double (phF a b)), .second, .val (.double (rhF r)), .second, .val (.double (rhF t)), .second, .val (.ref b12), .unset] [])) _
    refine XS.iconst X13.here hx rfl (hb hby at_89) ?_
    refine XS.goto X13.here hx rfl (pc0 := 90) (pc' := 94) rfl (hb hby at_90) (by decide) (by decide) ?_
    refine XS.istore X13.here hx rfl (hb hby at_94) rfl (l' := #[.val (.int a), .val (.int b), .val (.int r), .val (.int t), .val (.int fl), .val (.int (dF a)), .val (.int (kF a b)), .val (.double (phF a b)), .second, .val (.double (rhF r)), .second, .val (.double (rhF t)), .second, .val (.ref b12), .val (.int (1 : Int32))]) rfl ?_
    refine XS.aload X13.here hx rfl (hb hby at_96) rfl rfl ?_
    show Steps p.tables e below (T13.setTop (mkF m 98 #[.val (.int a), .val (.int b), .val (.int r), .val (.int t), .val (.int fl), .val (.int (dF a)), .val (.int (kF a b)), .val (.double (phF a b)), .second, .val (.double (rhF r)), .second, .val (.double (rhF t)), .second, .val (.ref b12), .val (.int (1 : Int32))] [(.ref b12)])) _
    refine st14.trans ?_
    refine XS.iload X14.here hx rfl (hb hby at_101) rfl ?_
    refine XS.icmpNo X14.here hx rfl (hb hby at_103) rfl (teq hc103).2 ?_
    refine XS.iconst X14.here hx rfl (hb hby at_106) ?_
    show Steps p.tables e below (T14.setTop (mkF m 107 #[.val (.int a), .val (.int b), .val (.int r), .val (.int t), .val (.int fl), .val (.int (dF a)), .val (.int (kF a b)), .val (.double (phF a b)), .second, .val (.double (rhF r)), .second, .val (.double (rhF t)), .second, .val (.ref b12), .val (.int (1 : Int32))] [(.int (1 : Int32))])) _
    refine XS.goto X14.here hx rfl (pc0 := 107) (pc' := 111) rfl (hb hby at_107) (by decide) (by decide) ?_
    exact retN X14 hx (t := .boolean) Bd.returns (by simp) (hb hby at_111) hr
  · show Q0  h0 n0 _ T14.heap _
    exact ⟨rfl, N14⟩
set_option maxRecDepth 65536 in
set_option maxHeartbeats 40000000 in
theorem rm0_z (l : Launch) (Z : State) (a0 : Array Value) (hw : ∀ d ∈ tables_1, d.before a0 Z = true) (ws : List Jvm.Cond) (a : Int32) (b : Int32) (r : Int32) (t : Int32) (fl : Int32)  (h0 : Heap) (n0 : Nat) (Z0 : n0 ≤ h0.size)  (hnz14 : ¬ ((dF a) = (0 : Int32))) (hnan23 : Jvm.Free.Fl.NoNaN64 (FP.ddiv (FP.i2d (kF a b)) (FP.i2d (dF a)))) (hc28 : (kF a b) = (0 : Int32)) (hc35 : (fl &&& (1 : Int32)) = (0 : Int32)) (hnan53 : Jvm.Free.Fl.NoNaN64 (FP.ddiv (FP.i2d (dF r)) (4625196817309499392 : UInt64))) (hnan66 : Jvm.Free.Fl.NoNaN64 (FP.ddiv (FP.i2d (dF t)) (4625196817309499392 : UInt64))) (frhc3 : (0 : Int32) < (cmpValue (FP.dcmp (rhF r) FP.dconst0) .l)) (frhc11 : (cmpValue (FP.dcmp (rhF r) (9218868437227405312 : UInt64)) .g) < (0 : Int32)) (fhc13 : ¬ ((cmpValue (FP.dcmp (phF a b) FP.dconst0) .l) < (0 : Int32))) (fhc19 : (cmpValue (FP.dcmp (phF a b) FP.dconst1) .g) < (0 : Int32)) (frhc3_1 : (0 : Int32) < (cmpValue (FP.dcmp (rhF t) FP.dconst0) .l)) (frhc11_1 : (cmpValue (FP.dcmp (rhF t) (9218868437227405312 : UInt64)) .g) < (0 : Int32)) (hc86 : (kF a b) = (0 : Int32)) (hc103 : (valF (phF a b)) = (0 : Int32)) :
    MetFree l x (head1 (Jvm.Cond.code x code maxLocals ret :: ws) room_1) (fun aa U => aa = #[(.int a), (.int b), (.int r), (.int t), (.int fl)] ∧ Z.Warmed39 U.vm ∧ U.heap = h0) (fun _ _ _ _ _ => True) (fun _ U o U' => ∃ v L, o = .returned v ∧ Q0  h0 n0 v U'.heap L ∧ ReturnedEndW U o U' L room_1.cells room_1.slots) := by
  refine MetFree.of_bodySF (plainFor_of_name pn_0) hisR ?_
  intro p e s m args below meth c s₁ Bd hml0 hP hK
  obtain ⟨rfl, hZ, hh⟩ := hP
  have hx := Bd.exec
  have hby := Bd.bytes
  have hml : c.maxLocals = 15 := hml0
  have hown : s.vm.findClass "com/example/retiremetric/retiremetric/model/preferences/PreferencesValuesResidualBenefitPinLaw" = some m.cls := findClass_of_methodNamed Bd.named
  have hnm := (name_of_methodNamed Bd.named Bd.method).1
  have X0 : Stand p l e room_1 s m #[(.int a), (.int b), (.int r), (.int t), (.int fl)] below meth c s₁ [] 0 0 := Stand.of_body Bd
  have e0 : s₁.heap = h0 := by rw [← hh, Bd.state]; rfl
  have N0 := Fr.nil n0
  have pre0 : ∀ zz, Steps p.tables e below (s₁.setTop (mkF m 0 #[.val (.int a), .val (.int b), .val (.int r), .val (.int t), .val (.int fl), .unset, .unset, .unset, .unset, .unset, .unset, .unset, .unset, .unset, .unset] [])) zz → Steps p.tables e below (s₁.setTop (entryFrame m #[(.int a), (.int b), (.int r), (.int t), (.int fl)] maxLocals)) zz := fun zz k => castTop (ef_0 m a b r t fl) k
  obtain ⟨T15, h15, X15, e15, E15, A15, D15, -, st15⟩ := newO X0 hx hZ hown (hw _ (List.mem_of_getElem? (i := 3) rfl)) (hw _ (List.mem_of_getElem? (i := 4) rfl)) (hw _ (List.mem_of_getElem? (i := 5) rfl)) e0 (g := (mkF m 69 #[.val (.int a), .val (.int b), .val (.int r), .val (.int t), .val (.int fl), .val (.int (dF a)), .val (.int (kF a b)), .val (.double (phF a b)), .second, .val (.double (rhF r)), .second, .val (.double (rhF t)), .second, .unset, .unset] [])) rfl (hb hby at_69) (by decide) (by decide)
  obtain ⟨b15, g15⟩ : ∃ z, z = h0.size := ⟨_, rfl⟩
  rw [← g15] at A15 D15 st15
  have E_b15 := A15
  have g_b15 : n0 ≤ b15 := Nat.le_trans Z0 (Nat.le_of_eq g15.symm)
  have sz_b15 : h0.size ≤ b15 := Nat.le_trans (Keep.refl h0 []).1 (Nat.le_of_eq g15.symm)
  have K15 := (Keep.refl h0 []).ext E15
  have Z15 : n0 ≤ h15.size := Nat.le_trans Z0 E15.1
  have F_rho_b15 : Fld Z h15 b15 "com/example/retiremetric/retiremetric/model/preferences/Preferences" "rho" "D" (.double 0) := D15 (Or.inr (hw _ (List.mem_of_getElem? (i := 32) rfl))) (ty := .double) (by decide)
  have F_phi_b15 : Fld Z h15 b15 "com/example/retiremetric/retiremetric/model/preferences/Preferences" "phi" "D" (.double 0) := D15 (Or.inr (hw _ (List.mem_of_getElem? (i := 34) rfl))) (ty := .double) (by decide)
  have F_beta_b15 : Fld Z h15 b15 "com/example/retiremetric/retiremetric/model/preferences/Preferences" "beta" "D" (.double 0) := D15 (Or.inr (hw _ (List.mem_of_getElem? (i := 36) rfl))) (ty := .double) (by decide)
  obtain ⟨_, _, ⟨T16, L16, k16, n16⟩, -, X16, hS216, hg16, ⟨Lc16, hQ16, l16, y16, z16⟩, st16⟩ := X15.specialBackS hx (y := (⟨"com/example/retiremetric/retiremetric/model/preferences/Preferences", "<init>", "(DDD)V"⟩ : MethodName)) rfl hown (mvT hZ (hw _ (List.mem_of_getElem? (i := 6) rfl))) (mvT hZ (hw _ (List.mem_of_getElem? (i := 7) rfl))) (mvT hZ (hw _ (List.mem_of_getElem? (i := 8) rfl))) (by decide) (backOfS (W := 1) (rm1 l Z a0 hw [] b15 (rhF r) (phF a b) (rhF t) h15 n0 Z15 g_b15 E_b15 F_rho_b15 F_phi_b15 F_beta_b15 frhc3 frhc11 fhc13 fhc19 frhc3_1 frhc11_1) hZ (hw _ (List.mem_of_getElem? (i := 8) rfl)) (hw _ (List.mem_of_getElem? (i := 5) rfl)) (by decide) (by decide)) (g := (mkF m 79 #[.val (.int a), .val (.int b), .val (.int r), .val (.int t), .val (.int fl), .val (.int (dF a)), .val (.int (kF a b)), .val (.double (phF a b)), .second, .val (.double (rhF r)), .second, .val (.double (rhF t)), .second, .unset, .unset] [(.double (rhF t)), (.double (phF a b)), (.double (rhF r)), (.ref b15), (.ref b15)])) rfl (by rw [hml]; rfl) (Steps.refl _) (a := b15) (argsL := [(.double (rhF r)), (.double (phF a b)), (.double (rhF t))]) (rest := [(.ref b15)]) (lenOf pd_0 rfl) rfl (by show 2 * 0 + _ ≤ _; exact Nat.le_of_eq rfl) (hb hby at_79) (fun _ _ => ⟨rfl, e15, (by decide : 1 + 4 ≤ _), (by decide : 3 + 36 ≤ _)⟩)
  dsimp only [Pt.U, Pt.locs, Pt.cells, Pt.slots] at X16 l16 y16 z16 st16 hQ16 hS216 hg16
  subst l16 y16 z16
  obtain ⟨rfl, N16q, K16q, E16q, F16q⟩ := hQ16
  have N16 := Fr.app N0 N16q
  have hS16 := foldS ((State.WarmedH.refl s).since 0) (by rw [e15]; exact (Nat.zero_le _)) hS216 hg16
  have hZ16 : Z.Warmed39 (s.setVm T16.vm).vm := State.Warmed39.trans hZ hS216.1
  have hown16 : (s.setVm T16.vm).vm.findClass "com/example/retiremetric/retiremetric/model/preferences/PreferencesValuesResidualBenefitPinLaw" = some m.cls := by rw [show (s.setVm T16.vm).vm = T16.vm from rfl, hS216.1.alike.findClass]; exact hown
  have Z16 : n0 ≤ T16.heap.size := Nat.le_trans Z15 K16q.1
  obtain ⟨cq17, kq17, q17a, q17b, q17c⟩ := isOf hZ16 rfl E16q
  obtain ⟨_, _, ⟨T17, L17, k17, n17⟩, -, X17, ⟨Lc17, hQ17, l17, y17, z17⟩, st17⟩ := X16.virtualBack hx (y := (⟨"com/example/retiremetric/retiremetric/model/preferences/Preferences", "valuesResidualBenefit", "()Z"⟩ : MethodName)) (z := (⟨"com/example/retiremetric/retiremetric/model/preferences/Preferences", "valuesResidualBenefit", "()Z"⟩ : MethodName)) hown16 (mvT hZ16 (hw _ (List.mem_of_getElem? (i := 37) rfl))) (mvT hZ16 (hw _ (List.mem_of_getElem? (i := 38) rfl))) (notFace_of_selects (args := #[]) (mvT hZ16 (hw _ (List.mem_of_getElem? (i := 40) rfl)))) (mvT hZ16 (hw _ (List.mem_of_getElem? (i := 40) rfl))) (mvT hZ16 (hw _ (List.mem_of_getElem? (i := 39) rfl))) (by decide) (backOf (W := 0) (rm5 l Z a0 hw [] b15 (phF a b) T16.heap n0 Z16 F16q) hZ16 (hw _ (List.mem_of_getElem? (i := 41) rfl)) (hw _ (List.mem_of_getElem? (i := 5) rfl)) (by decide) (by decide)) q17a q17c (g := (mkF m 98 #[.val (.int a), .val (.int b), .val (.int r), .val (.int t), .val (.int fl), .val (.int (dF a)), .val (.int (kF a b)), .val (.double (phF a b)), .second, .val (.double (rhF r)), .second, .val (.double (rhF t)), .second, .val (.ref b15), .val (.int (0 : Int32))] [(.ref b15)])) rfl (by rw [hml]; rfl) (Steps.refl _) (argsL := []) (rest := []) (lenOf pd_3 rfl) rfl (by show 2 * 0 + _ ≤ _; exact Nat.le_of_eq rfl) (hb hby at_98) (fun _ _ => ⟨rfl, rfl, (by decide : 5 + 0 ≤ _), (by decide : 39 + 0 ≤ _)⟩)
  dsimp only [Pt.U, Pt.locs, Pt.cells, Pt.slots] at X17 l17 y17 z17 st17 hQ17
  subst l17 y17 z17
  obtain ⟨rfl, N17q, e17⟩ := hQ17
  have N17 := Fr.app N16 N17q
  obtain ⟨fs, hr, hrun, hended, -, hWW, hBB, hSS⟩ := X17.leaveW hS16 (by rw [e17]; exact (Nat.le_refl _)) (v := some (.int (1 : Int32))) (fun h => by rw [Bd.returns] at h; cases h)
  refine ⟨_, _, pre0 _ ?_, hrun, hended, _, _, rfl, ?_, ⟨_, rfl⟩, hWW, hBB, hSS.mono (by decide) (by decide)⟩
  · show Steps p.tables e below (s₁.setTop (mkF m 0 #[.val (.int a), .val (.int b), .val (.int r), .val (.int t), .val (.int fl), .unset, .unset, .unset, .unset, .unset, .unset, .unset, .unset, .unset, .unset] [])) _
    refine XS.iloadN X0.here hx rfl (hb hby at_0) rfl ?_
    refine X0.ldcInt hx hown (mvT hZ (hw _ (List.mem_of_getElem? (i := 0) rfl))) (g := (mkF m 1 #[.val (.int a), .val (.int b), .val (.int r), .val (.int t), .val (.int fl), .unset, .unset, .unset, .unset, .unset, .unset, .unset, .unset, .unset, .unset] [(.int a)])) rfl (hb hby at_1) _ ?_
    refine XS.iand X0.here hx rfl (hb hby at_3) rfl ?_
    refine XS.iconst X0.here hx rfl (hb hby at_4) ?_
    show Steps p.tables e below (s₁.setTop (mkF m 5 #[.val (.int a), .val (.int b), .val (.int r), .val (.int t), .val (.int fl), .unset, .unset, .unset, .unset, .unset, .unset, .unset, .unset, .unset, .unset] [(.int (1 : Int32)), (.int (a &&& (65535 : Int32)))])) _
    refine XS.iadd X0.here hx rfl (hb hby at_5) rfl ?_
    show Steps p.tables e below (s₁.setTop (mkF m 6 #[.val (.int a), .val (.int b), .val (.int r), .val (.int t), .val (.int fl), .unset, .unset, .unset, .unset, .unset, .unset, .unset, .unset, .unset, .unset] [(.int (dF a))])) _
    refine XS.istore X0.here hx rfl (hb hby at_6) rfl (l' := #[.val (.int a), .val (.int b), .val (.int r), .val (.int t), .val (.int fl), .val (.int (dF a)), .unset, .unset, .unset, .unset, .unset, .unset, .unset, .unset, .unset]) rfl ?_
    refine XS.iloadN X0.here hx rfl (hb hby at_8) rfl ?_
    refine X0.ldcInt hx hown (mvT hZ (hw _ (List.mem_of_getElem? (i := 1) rfl))) (g := (mkF m 9 #[.val (.int a), .val (.int b), .val (.int r), .val (.int t), .val (.int fl), .val (.int (dF a)), .unset, .unset, .unset, .unset, .unset, .unset, .unset, .unset, .unset] [(.int b)])) rfl (hb hby at_9) _ ?_
    refine XS.iand X0.here hx rfl (hb hby at_11) rfl ?_
    show Steps p.tables e below (s₁.setTop (mkF m 12 #[.val (.int a), .val (.int b), .val (.int r), .val (.int t), .val (.int fl), .val (.int (dF a)), .unset, .unset, .unset, .unset, .unset, .unset, .unset, .unset, .unset] [(.int (b &&& (2147483647 : Int32)))])) _
    refine XS.iload X0.here hx rfl (hb hby at_12) rfl ?_
    refine gwIrem X0.here hx rfl (hb hby at_14) rfl hnz14 ?_
    show Steps p.tables e below (s₁.setTop (mkF m 15 #[.val (.int a), .val (.int b), .val (.int r), .val (.int t), .val (.int fl), .val (.int (dF a)), .unset, .unset, .unset, .unset, .unset, .unset, .unset, .unset, .unset] [(.int (kF a b))])) _
    refine XS.istore X0.here hx rfl (hb hby at_15) rfl (l' := #[.val (.int a), .val (.int b), .val (.int r), .val (.int t), .val (.int fl), .val (.int (dF a)), .val (.int (kF a b)), .unset, .unset, .unset, .unset, .unset, .unset, .unset, .unset]) rfl ?_
    refine XS.iload X0.here hx rfl (hb hby at_17) rfl ?_
    refine XS.i2dS X0.here hx rfl (hb hby at_19) rfl rfl ?_
    refine XS.iload X0.here hx rfl (hb hby at_20) rfl ?_
    show Steps p.tables e below (s₁.setTop (mkF m 22 #[.val (.int a), .val (.int b), .val (.int r), .val (.int t), .val (.int fl), .val (.int (dF a)), .val (.int (kF a b)), .unset, .unset, .unset, .unset, .unset, .unset, .unset, .unset] [(.int (dF a)), (.double (FP.i2d (kF a b)))])) _
    refine XS.i2dS X0.here hx rfl (hb hby at_22) rfl rfl ?_
    refine XS.ddivS X0.here hx rfl (hb hby at_23) rfl hnan23 rfl ?_
    show Steps p.tables e below (s₁.setTop (mkF m 24 #[.val (.int a), .val (.int b), .val (.int r), .val (.int t), .val (.int fl), .val (.int (dF a)), .val (.int (kF a b)), .unset, .unset, .unset, .unset, .unset, .unset, .unset, .unset] [(.double (phF a b))])) _
    refine XS.dstore X0.here hx rfl (hb hby at_24) rfl (l' := #[.val (.int a), .val (.int b), .val (.int r), .val (.int t), .val (.int fl), .val (.int (dF a)), .val (.int (kF a b)), .val (.double (phF a b)), .second, .unset, .unset, .unset, .unset, .unset, .unset]) rfl ?_
    refine XS.iload X0.here hx rfl (hb hby at_26) rfl ?_
    refine XS.ifNo X0.here hx rfl (hb hby at_28) rfl ((if0 _ _).trans (teq hc28).2) ?_
    refine XS.iload X0.here hx rfl (hb hby at_31) rfl ?_
    show Steps p.tables e below (s₁.setTop (mkF m 33 #[.val (.int a), .val (.int b), .val (.int r), .val (.int t), .val (.int fl), .val (.int (dF a)), .val (.int (kF a b)), .val (.double (phF a b)), .second, .unset, .unset, .unset, .unset, .unset, .unset] [(.int fl)])) _
    refine XS.iconst X0.here hx rfl (hb hby at_33) ?_
    refine XS.iand X0.here hx rfl (hb hby at_34) rfl ?_
    refine XS.ifYes X0.here hx rfl (pc0 := 35) (pc' := 43) rfl (hb hby at_35) rfl ((if0 _ _).trans (teq hc35).1) (by decide) (by decide) ?_
    refine XS.iloadN X0.here hx rfl (hb hby at_43) rfl ?_
    show Steps p.tables e below (s₁.setTop (mkF m 44 #[.val (.int a), .val (.int b), .val (.int r), .val (.int t), .val (.int fl), .val (.int (dF a)), .val (.int (kF a b)), .val (.double (phF a b)), .second, .unset, .unset, .unset, .unset, .unset, .unset] [(.int r)])) _
    refine X0.ldcInt hx hown (mvT hZ (hw _ (List.mem_of_getElem? (i := 0) rfl))) (g := (mkF m 44 #[.val (.int a), .val (.int b), .val (.int r), .val (.int t), .val (.int fl), .val (.int (dF a)), .val (.int (kF a b)), .val (.double (phF a b)), .second, .unset, .unset, .unset, .unset, .unset, .unset] [(.int r)])) rfl (hb hby at_44) _ ?_
    refine XS.iand X0.here hx rfl (hb hby at_46) rfl ?_
    refine XS.iconst X0.here hx rfl (hb hby at_47) ?_
    refine XS.iadd X0.here hx rfl (hb hby at_48) rfl ?_
    show Steps p.tables e below (s₁.setTop (mkF m 49 #[.val (.int a), .val (.int b), .val (.int r), .val (.int t), .val (.int fl), .val (.int (dF a)), .val (.int (kF a b)), .val (.double (phF a b)), .second, .unset, .unset, .unset, .unset, .unset, .unset] [(.int (dF r))])) _
    refine XS.i2dS X0.here hx rfl (hb hby at_49) rfl rfl ?_
    refine X0.ldc2DoubleC hx hown (mvT hZ (hw _ (List.mem_of_getElem? (i := 2) rfl))) (g := (mkF m 50 #[.val (.int a), .val (.int b), .val (.int r), .val (.int t), .val (.int fl), .val (.int (dF a)), .val (.int (kF a b)), .val (.double (phF a b)), .second, .unset, .unset, .unset, .unset, .unset, .unset] [(.double (FP.i2d (dF r)))])) rfl (hb hby at_50) _ ?_
    refine XS.ddivS X0.here hx rfl (hb hby at_53) rfl hnan53 rfl ?_
    show Steps p.tables e below (s₁.setTop (mkF m 54 #[.val (.int a), .val (.int b), .val (.int r), .val (.int t), .val (.int fl), .val (.int (dF a)), .val (.int (kF a b)), .val (.double (phF a b)), .second, .unset, .unset, .unset, .unset, .unset, .unset] [(.double (rhF r))])) _
    refine XS.dstore X0.here hx rfl (hb hby at_54) rfl (l' := #[.val (.int a), .val (.int b), .val (.int r), .val (.int t), .val (.int fl), .val (.int (dF a)), .val (.int (kF a b)), .val (.double (phF a b)), .second, .val (.double (rhF r)), .second, .unset, .unset, .unset, .unset]) rfl ?_
    refine XS.iloadN X0.here hx rfl (hb hby at_56) rfl ?_
    refine X0.ldcInt hx hown (mvT hZ (hw _ (List.mem_of_getElem? (i := 0) rfl))) (g := (mkF m 57 #[.val (.int a), .val (.int b), .val (.int r), .val (.int t), .val (.int fl), .val (.int (dF a)), .val (.int (kF a b)), .val (.double (phF a b)), .second, .val (.double (rhF r)), .second, .unset, .unset, .unset, .unset] [(.int t)])) rfl (hb hby at_57) _ ?_
    refine XS.iand X0.here hx rfl (hb hby at_59) rfl ?_
    show Steps p.tables e below (s₁.setTop (mkF m 60 #[.val (.int a), .val (.int b), .val (.int r), .val (.int t), .val (.int fl), .val (.int (dF a)), .val (.int (kF a b)), .val (.double (phF a b)), .second, .val (.double (rhF r)), .second, .unset, .unset, .unset, .unset] [(.int (t &&& (65535 : Int32)))])) _
    refine XS.iconst X0.here hx rfl (hb hby at_60) ?_
    refine XS.iadd X0.here hx rfl (hb hby at_61) rfl ?_
    show Steps p.tables e below (s₁.setTop (mkF m 62 #[.val (.int a), .val (.int b), .val (.int r), .val (.int t), .val (.int fl), .val (.int (dF a)), .val (.int (kF a b)), .val (.double (phF a b)), .second, .val (.double (rhF r)), .second, .unset, .unset, .unset, .unset] [(.int (dF t))])) _
    refine XS.i2dS X0.here hx rfl (hb hby at_62) rfl rfl ?_
    refine X0.ldc2DoubleC hx hown (mvT hZ (hw _ (List.mem_of_getElem? (i := 2) rfl))) (g := (mkF m 63 #[.val (.int a), .val (.int b), .val (.int r), .val (.int t), .val (.int fl), .val (.int (dF a)), .val (.int (kF a b)), .val (.double (phF a b)), .second, .val (.double (rhF r)), .second, .unset, .unset, .unset, .unset] [(.double (FP.i2d (dF t)))])) rfl (hb hby at_63) _ ?_
    refine XS.ddivS X0.here hx rfl (hb hby at_66) rfl hnan66 rfl ?_
    show Steps p.tables e below (s₁.setTop (mkF m 67 #[.val (.int a), .val (.int b), .val (.int r), .val (.int t), .val (.int fl), .val (.int (dF a)), .val (.int (kF a b)), .val (.double (phF a b)), .second, .val (.double (rhF r)), .second, .unset, .unset, .unset, .unset] [(.double (rhF t))])) _
    refine XS.dstore X0.here hx rfl (hb hby at_67) rfl (l' := #[.val (.int a), .val (.int b), .val (.int r), .val (.int t), .val (.int fl), .val (.int (dF a)), .val (.int (kF a b)), .val (.double (phF a b)), .second, .val (.double (rhF r)), .second, .val (.double (rhF t)), .second, .unset, .unset]) rfl ?_
    show Steps p.tables e below (s₁.setTop (mkF m 69 #[.val (.int a), .val (.int b), .val (.int r), .val (.int t), .val (.int fl), .val (.int (dF a)), .val (.int (kF a b)), .val (.double (phF a b)), .second, .val (.double (rhF r)), .second, .val (.double (rhF t)), .second, .unset, .unset] [])) _
    refine st15 _ ?_
    refine XS.dup X15.here hx rfl (hb hby at_72) rfl rfl ?_
    refine XS.dload X15.here hx rfl (hb hby at_73) rfl ?_
    refine XS.dload X15.here hx rfl (hb hby at_75) rfl ?_
    show Steps p.tables e below (T15.setTop (mkF m 77 #[.val (.int a), .val (.int b), .val (.int r), .val (.int t), .val (.int fl), .val (.int (dF a)), .val (.int (kF a b)), .val (.double (phF a b)), .second, .val (.double (rhF r)), .second, .val (.double (rhF t)), .second, .unset, .unset] [(.double (phF a b)), (.double (rhF r)), (.ref b15), (.ref b15)])) _
    refine XS.dload X15.here hx rfl (hb hby at_77) rfl ?_
    show Steps p.tables e below (T15.setTop (mkF m 79 #[.val (.int a), .val (.int b), .val (.int r), .val (.int t), .val (.int fl), .val (.int (dF a)), .val (.int (kF a b)), .val (.double (phF a b)), .second, .val (.double (rhF r)), .second, .val (.double (rhF t)), .second, .unset, .unset] [(.double (rhF t)), (.double (phF a b)), (.double (rhF r)), (.ref b15), (.ref b15)])) _
    refine st16.trans ?_
    refine XS.astore X16.here hx rfl (hb hby at_82) rfl rfl (l' := #[.val (.int a), .val (.int b), .val (.int r), .val (.int t), .val (.int fl), .val (.int (dF a)), .val (.int (kF a b)), .val (.double (phF a b)), .second, .val (.double (rhF r)), .second, .val (.double (rhF t)), .second, .val (.ref b15), .unset]) rfl ?_
    refine XS.iload X16.here hx rfl (hb hby at_84) rfl ?_
    refine XS.ifYes X16.here hx rfl (pc0 := 86) (pc' := 93) rfl (hb hby at_86) rfl ((if0 _ _).trans (teq hc86).1) (by decide) (by decide) ?_
    show Steps p.tables e below (T16.setTop (mkF m 93 #[.val (.int a), .val (.int b), .val (.int r), .val (.int t), .val (.int fl), .val (.int (dF a)), .val (.int (kF a b)), .val (.double (phF a b)), .second, .val (.double (rhF r)), .second, .val (.double (rhF t)), .second, .val (.ref b15), .unset] [])) _
    refine XS.iconst X16.here hx rfl (hb hby at_93) ?_
    refine XS.istore X16.here hx rfl (hb hby at_94) rfl (l' := #[.val (.int a), .val (.int b), .val (.int r), .val (.int t), .val (.int fl), .val (.int (dF a)), .val (.int (kF a b)), .val (.double (phF a b)), .second, .val (.double (rhF r)), .second, .val (.double (rhF t)), .second, .val (.ref b15), .val (.int (0 : Int32))]) rfl ?_
    refine XS.aload X16.here hx rfl (hb hby at_96) rfl rfl ?_
    show Steps p.tables e below (T16.setTop (mkF m 98 #[.val (.int a), .val (.int b), .val (.int r), .val (.int t), .val (.int fl), .val (.int (dF a)), .val (.int (kF a b)), .val (.double (phF a b)), .second, .val (.double (rhF r)), .second, .val (.double (rhF t)), .second, .val (.ref b15), .val (.int (0 : Int32))] [(.ref b15)])) _
    refine st17.trans ?_
    refine XS.iload X17.here hx rfl (hb hby at_101) rfl ?_
    refine XS.icmpNo X17.here hx rfl (hb hby at_103) rfl (teq hc103).2 ?_
    refine XS.iconst X17.here hx rfl (hb hby at_106) ?_
    show Steps p.tables e below (T17.setTop (mkF m 107 #[.val (.int a), .val (.int b), .val (.int r), .val (.int t), .val (.int fl), .val (.int (dF a)), .val (.int (kF a b)), .val (.double (phF a b)), .second, .val (.double (rhF r)), .second, .val (.double (rhF t)), .second, .val (.ref b15), .val (.int (0 : Int32))] [(.int (1 : Int32))])) _
    refine XS.goto X17.here hx rfl (pc0 := 107) (pc' := 111) rfl (hb hby at_107) (by decide) (by decide) ?_
    exact retN X17 hx (t := .boolean) Bd.returns (by simp) (hb hby at_111) hr
  · show Q0  h0 n0 _ T17.heap _
    exact ⟨rfl, N17⟩
set_option maxRecDepth 65536 in
set_option maxHeartbeats 40000000 in
theorem rm0_n (l : Launch) (Z : State) (a0 : Array Value) (hw : ∀ d ∈ tables_1, d.before a0 Z = true) (ws : List Jvm.Cond) (a : Int32) (b : Int32) (r : Int32) (t : Int32) (fl : Int32)  (h0 : Heap) (n0 : Nat) (Z0 : n0 ≤ h0.size)  (hnz14 : ¬ ((dF a) = (0 : Int32))) (hnan23 : Jvm.Free.Fl.NoNaN64 (FP.ddiv (FP.i2d (kF a b)) (FP.i2d (dF a)))) (hc28 : (kF a b) = (0 : Int32)) (hc35 : ¬ ((fl &&& (1 : Int32)) = (0 : Int32))) (hnan53 : Jvm.Free.Fl.NoNaN64 (FP.ddiv (FP.i2d (dF r)) (4625196817309499392 : UInt64))) (hnan66 : Jvm.Free.Fl.NoNaN64 (FP.ddiv (FP.i2d (dF t)) (4625196817309499392 : UInt64))) (frhc3 : (0 : Int32) < (cmpValue (FP.dcmp (rhF r) FP.dconst0) .l)) (frhc11 : (cmpValue (FP.dcmp (rhF r) (9218868437227405312 : UInt64)) .g) < (0 : Int32)) (fhc13 : ¬ ((cmpValue (FP.dcmp (FP.dneg (phF a b)) FP.dconst0) .l) < (0 : Int32))) (fhc19 : (cmpValue (FP.dcmp (FP.dneg (phF a b)) FP.dconst1) .g) < (0 : Int32)) (frhc3_1 : (0 : Int32) < (cmpValue (FP.dcmp (rhF t) FP.dconst0) .l)) (frhc11_1 : (cmpValue (FP.dcmp (rhF t) (9218868437227405312 : UInt64)) .g) < (0 : Int32)) (hc86 : (kF a b) = (0 : Int32)) (hc103 : (valF (FP.dneg (phF a b))) = (0 : Int32)) :
    MetFree l x (head1 (Jvm.Cond.code x code maxLocals ret :: ws) room_1) (fun aa U => aa = #[(.int a), (.int b), (.int r), (.int t), (.int fl)] ∧ Z.Warmed39 U.vm ∧ U.heap = h0) (fun _ _ _ _ _ => True) (fun _ U o U' => ∃ v L, o = .returned v ∧ Q0  h0 n0 v U'.heap L ∧ ReturnedEndW U o U' L room_1.cells room_1.slots) := by
  refine MetFree.of_bodySF (plainFor_of_name pn_0) hisR ?_
  intro p e s m args below meth c s₁ Bd hml0 hP hK
  obtain ⟨rfl, hZ, hh⟩ := hP
  have hx := Bd.exec
  have hby := Bd.bytes
  have hml : c.maxLocals = 15 := hml0
  have hown : s.vm.findClass "com/example/retiremetric/retiremetric/model/preferences/PreferencesValuesResidualBenefitPinLaw" = some m.cls := findClass_of_methodNamed Bd.named
  have hnm := (name_of_methodNamed Bd.named Bd.method).1
  have X0 : Stand p l e room_1 s m #[(.int a), (.int b), (.int r), (.int t), (.int fl)] below meth c s₁ [] 0 0 := Stand.of_body Bd
  have e0 : s₁.heap = h0 := by rw [← hh, Bd.state]; rfl
  have N0 := Fr.nil n0
  have pre0 : ∀ zz, Steps p.tables e below (s₁.setTop (mkF m 0 #[.val (.int a), .val (.int b), .val (.int r), .val (.int t), .val (.int fl), .unset, .unset, .unset, .unset, .unset, .unset, .unset, .unset, .unset, .unset] [])) zz → Steps p.tables e below (s₁.setTop (entryFrame m #[(.int a), (.int b), (.int r), (.int t), (.int fl)] maxLocals)) zz := fun zz k => castTop (ef_0 m a b r t fl) k
  obtain ⟨T18, h18, X18, e18, E18, A18, D18, -, st18⟩ := newO X0 hx hZ hown (hw _ (List.mem_of_getElem? (i := 3) rfl)) (hw _ (List.mem_of_getElem? (i := 4) rfl)) (hw _ (List.mem_of_getElem? (i := 5) rfl)) e0 (g := (mkF m 69 #[.val (.int a), .val (.int b), .val (.int r), .val (.int t), .val (.int fl), .val (.int (dF a)), .val (.int (kF a b)), .val (.double (FP.dneg (phF a b))), .second, .val (.double (rhF r)), .second, .val (.double (rhF t)), .second, .unset, .unset] [])) rfl (hb hby at_69) (by decide) (by decide)
  obtain ⟨b18, g18⟩ : ∃ z, z = h0.size := ⟨_, rfl⟩
  rw [← g18] at A18 D18 st18
  have E_b18 := A18
  have g_b18 : n0 ≤ b18 := Nat.le_trans Z0 (Nat.le_of_eq g18.symm)
  have sz_b18 : h0.size ≤ b18 := Nat.le_trans (Keep.refl h0 []).1 (Nat.le_of_eq g18.symm)
  have K18 := (Keep.refl h0 []).ext E18
  have Z18 : n0 ≤ h18.size := Nat.le_trans Z0 E18.1
  have F_rho_b18 : Fld Z h18 b18 "com/example/retiremetric/retiremetric/model/preferences/Preferences" "rho" "D" (.double 0) := D18 (Or.inr (hw _ (List.mem_of_getElem? (i := 32) rfl))) (ty := .double) (by decide)
  have F_phi_b18 : Fld Z h18 b18 "com/example/retiremetric/retiremetric/model/preferences/Preferences" "phi" "D" (.double 0) := D18 (Or.inr (hw _ (List.mem_of_getElem? (i := 34) rfl))) (ty := .double) (by decide)
  have F_beta_b18 : Fld Z h18 b18 "com/example/retiremetric/retiremetric/model/preferences/Preferences" "beta" "D" (.double 0) := D18 (Or.inr (hw _ (List.mem_of_getElem? (i := 36) rfl))) (ty := .double) (by decide)
  obtain ⟨_, _, ⟨T19, L19, k19, n19⟩, -, X19, hS219, hg19, ⟨Lc19, hQ19, l19, y19, z19⟩, st19⟩ := X18.specialBackS hx (y := (⟨"com/example/retiremetric/retiremetric/model/preferences/Preferences", "<init>", "(DDD)V"⟩ : MethodName)) rfl hown (mvT hZ (hw _ (List.mem_of_getElem? (i := 6) rfl))) (mvT hZ (hw _ (List.mem_of_getElem? (i := 7) rfl))) (mvT hZ (hw _ (List.mem_of_getElem? (i := 8) rfl))) (by decide) (backOfS (W := 1) (rm1 l Z a0 hw [] b18 (rhF r) (FP.dneg (phF a b)) (rhF t) h18 n0 Z18 g_b18 E_b18 F_rho_b18 F_phi_b18 F_beta_b18 frhc3 frhc11 fhc13 fhc19 frhc3_1 frhc11_1) hZ (hw _ (List.mem_of_getElem? (i := 8) rfl)) (hw _ (List.mem_of_getElem? (i := 5) rfl)) (by decide) (by decide)) (g := (mkF m 79 #[.val (.int a), .val (.int b), .val (.int r), .val (.int t), .val (.int fl), .val (.int (dF a)), .val (.int (kF a b)), .val (.double (FP.dneg (phF a b))), .second, .val (.double (rhF r)), .second, .val (.double (rhF t)), .second, .unset, .unset] [(.double (rhF t)), (.double (FP.dneg (phF a b))), (.double (rhF r)), (.ref b18), (.ref b18)])) rfl (by rw [hml]; rfl) (Steps.refl _) (a := b18) (argsL := [(.double (rhF r)), (.double (FP.dneg (phF a b))), (.double (rhF t))]) (rest := [(.ref b18)]) (lenOf pd_0 rfl) rfl (by show 2 * 0 + _ ≤ _; exact Nat.le_of_eq rfl) (hb hby at_79) (fun _ _ => ⟨rfl, e18, (by decide : 1 + 4 ≤ _), (by decide : 3 + 36 ≤ _)⟩)
  dsimp only [Pt.U, Pt.locs, Pt.cells, Pt.slots] at X19 l19 y19 z19 st19 hQ19 hS219 hg19
  subst l19 y19 z19
  obtain ⟨rfl, N19q, K19q, E19q, F19q⟩ := hQ19
  have N19 := Fr.app N0 N19q
  have hS19 := foldS ((State.WarmedH.refl s).since 0) (by rw [e18]; exact (Nat.zero_le _)) hS219 hg19
  have hZ19 : Z.Warmed39 (s.setVm T19.vm).vm := State.Warmed39.trans hZ hS219.1
  have hown19 : (s.setVm T19.vm).vm.findClass "com/example/retiremetric/retiremetric/model/preferences/PreferencesValuesResidualBenefitPinLaw" = some m.cls := by rw [show (s.setVm T19.vm).vm = T19.vm from rfl, hS219.1.alike.findClass]; exact hown
  have Z19 : n0 ≤ T19.heap.size := Nat.le_trans Z18 K19q.1
  obtain ⟨cq20, kq20, q20a, q20b, q20c⟩ := isOf hZ19 rfl E19q
  obtain ⟨_, _, ⟨T20, L20, k20, n20⟩, -, X20, ⟨Lc20, hQ20, l20, y20, z20⟩, st20⟩ := X19.virtualBack hx (y := (⟨"com/example/retiremetric/retiremetric/model/preferences/Preferences", "valuesResidualBenefit", "()Z"⟩ : MethodName)) (z := (⟨"com/example/retiremetric/retiremetric/model/preferences/Preferences", "valuesResidualBenefit", "()Z"⟩ : MethodName)) hown19 (mvT hZ19 (hw _ (List.mem_of_getElem? (i := 37) rfl))) (mvT hZ19 (hw _ (List.mem_of_getElem? (i := 38) rfl))) (notFace_of_selects (args := #[]) (mvT hZ19 (hw _ (List.mem_of_getElem? (i := 40) rfl)))) (mvT hZ19 (hw _ (List.mem_of_getElem? (i := 40) rfl))) (mvT hZ19 (hw _ (List.mem_of_getElem? (i := 39) rfl))) (by decide) (backOf (W := 0) (rm5 l Z a0 hw [] b18 (FP.dneg (phF a b)) T19.heap n0 Z19 F19q) hZ19 (hw _ (List.mem_of_getElem? (i := 41) rfl)) (hw _ (List.mem_of_getElem? (i := 5) rfl)) (by decide) (by decide)) q20a q20c (g := (mkF m 98 #[.val (.int a), .val (.int b), .val (.int r), .val (.int t), .val (.int fl), .val (.int (dF a)), .val (.int (kF a b)), .val (.double (FP.dneg (phF a b))), .second, .val (.double (rhF r)), .second, .val (.double (rhF t)), .second, .val (.ref b18), .val (.int (0 : Int32))] [(.ref b18)])) rfl (by rw [hml]; rfl) (Steps.refl _) (argsL := []) (rest := []) (lenOf pd_3 rfl) rfl (by show 2 * 0 + _ ≤ _; exact Nat.le_of_eq rfl) (hb hby at_98) (fun _ _ => ⟨rfl, rfl, (by decide : 5 + 0 ≤ _), (by decide : 39 + 0 ≤ _)⟩)
  dsimp only [Pt.U, Pt.locs, Pt.cells, Pt.slots] at X20 l20 y20 z20 st20 hQ20
  subst l20 y20 z20
  obtain ⟨rfl, N20q, e20⟩ := hQ20
  have N20 := Fr.app N19 N20q
  obtain ⟨fs, hr, hrun, hended, -, hWW, hBB, hSS⟩ := X20.leaveW hS19 (by rw [e20]; exact (Nat.le_refl _)) (v := some (.int (1 : Int32))) (fun h => by rw [Bd.returns] at h; cases h)
  refine ⟨_, _, pre0 _ ?_, hrun, hended, _, _, rfl, ?_, ⟨_, rfl⟩, hWW, hBB, hSS.mono (by decide) (by decide)⟩
  · show Steps p.tables e below (s₁.setTop (mkF m 0 #[.val (.int a), .val (.int b), .val (.int r), .val (.int t), .val (.int fl), .unset, .unset, .unset, .unset, .unset, .unset, .unset, .unset, .unset, .unset] [])) _
    refine XS.iloadN X0.here hx rfl (hb hby at_0) rfl ?_
    refine X0.ldcInt hx hown (mvT hZ (hw _ (List.mem_of_getElem? (i := 0) rfl))) (g := (mkF m 1 #[.val (.int a), .val (.int b), .val (.int r), .val (.int t), .val (.int fl), .unset, .unset, .unset, .unset, .unset, .unset, .unset, .unset, .unset, .unset] [(.int a)])) rfl (hb hby at_1) _ ?_
    refine XS.iand X0.here hx rfl (hb hby at_3) rfl ?_
    refine XS.iconst X0.here hx rfl (hb hby at_4) ?_
    show Steps p.tables e below (s₁.setTop (mkF m 5 #[.val (.int a), .val (.int b), .val (.int r), .val (.int t), .val (.int fl), .unset, .unset, .unset, .unset, .unset, .unset, .unset, .unset, .unset, .unset] [(.int (1 : Int32)), (.int (a &&& (65535 : Int32)))])) _
    refine XS.iadd X0.here hx rfl (hb hby at_5) rfl ?_
    show Steps p.tables e below (s₁.setTop (mkF m 6 #[.val (.int a), .val (.int b), .val (.int r), .val (.int t), .val (.int fl), .unset, .unset, .unset, .unset, .unset, .unset, .unset, .unset, .unset, .unset] [(.int (dF a))])) _
    refine XS.istore X0.here hx rfl (hb hby at_6) rfl (l' := #[.val (.int a), .val (.int b), .val (.int r), .val (.int t), .val (.int fl), .val (.int (dF a)), .unset, .unset, .unset, .unset, .unset, .unset, .unset, .unset, .unset]) rfl ?_
    refine XS.iloadN X0.here hx rfl (hb hby at_8) rfl ?_
    refine X0.ldcInt hx hown (mvT hZ (hw _ (List.mem_of_getElem? (i := 1) rfl))) (g := (mkF m 9 #[.val (.int a), .val (.int b), .val (.int r), .val (.int t), .val (.int fl), .val (.int (dF a)), .unset, .unset, .unset, .unset, .unset, .unset, .unset, .unset, .unset] [(.int b)])) rfl (hb hby at_9) _ ?_
    refine XS.iand X0.here hx rfl (hb hby at_11) rfl ?_
    show Steps p.tables e below (s₁.setTop (mkF m 12 #[.val (.int a), .val (.int b), .val (.int r), .val (.int t), .val (.int fl), .val (.int (dF a)), .unset, .unset, .unset, .unset, .unset, .unset, .unset, .unset, .unset] [(.int (b &&& (2147483647 : Int32)))])) _
    refine XS.iload X0.here hx rfl (hb hby at_12) rfl ?_
    refine gwIrem X0.here hx rfl (hb hby at_14) rfl hnz14 ?_
    show Steps p.tables e below (s₁.setTop (mkF m 15 #[.val (.int a), .val (.int b), .val (.int r), .val (.int t), .val (.int fl), .val (.int (dF a)), .unset, .unset, .unset, .unset, .unset, .unset, .unset, .unset, .unset] [(.int (kF a b))])) _
    refine XS.istore X0.here hx rfl (hb hby at_15) rfl (l' := #[.val (.int a), .val (.int b), .val (.int r), .val (.int t), .val (.int fl), .val (.int (dF a)), .val (.int (kF a b)), .unset, .unset, .unset, .unset, .unset, .unset, .unset, .unset]) rfl ?_
    refine XS.iload X0.here hx rfl (hb hby at_17) rfl ?_
    refine XS.i2dS X0.here hx rfl (hb hby at_19) rfl rfl ?_
    refine XS.iload X0.here hx rfl (hb hby at_20) rfl ?_
    show Steps p.tables e below (s₁.setTop (mkF m 22 #[.val (.int a), .val (.int b), .val (.int r), .val (.int t), .val (.int fl), .val (.int (dF a)), .val (.int (kF a b)), .unset, .unset, .unset, .unset, .unset, .unset, .unset, .unset] [(.int (dF a)), (.double (FP.i2d (kF a b)))])) _
    refine XS.i2dS X0.here hx rfl (hb hby at_22) rfl rfl ?_
    refine XS.ddivS X0.here hx rfl (hb hby at_23) rfl hnan23 rfl ?_
    show Steps p.tables e below (s₁.setTop (mkF m 24 #[.val (.int a), .val (.int b), .val (.int r), .val (.int t), .val (.int fl), .val (.int (dF a)), .val (.int (kF a b)), .unset, .unset, .unset, .unset, .unset, .unset, .unset, .unset] [(.double (phF a b))])) _
    refine XS.dstore X0.here hx rfl (hb hby at_24) rfl (l' := #[.val (.int a), .val (.int b), .val (.int r), .val (.int t), .val (.int fl), .val (.int (dF a)), .val (.int (kF a b)), .val (.double (phF a b)), .second, .unset, .unset, .unset, .unset, .unset, .unset]) rfl ?_
    refine XS.iload X0.here hx rfl (hb hby at_26) rfl ?_
    refine XS.ifNo X0.here hx rfl (hb hby at_28) rfl ((if0 _ _).trans (teq hc28).2) ?_
    refine XS.iload X0.here hx rfl (hb hby at_31) rfl ?_
    show Steps p.tables e below (s₁.setTop (mkF m 33 #[.val (.int a), .val (.int b), .val (.int r), .val (.int t), .val (.int fl), .val (.int (dF a)), .val (.int (kF a b)), .val (.double (phF a b)), .second, .unset, .unset, .unset, .unset, .unset, .unset] [(.int fl)])) _
    refine XS.iconst X0.here hx rfl (hb hby at_33) ?_
    refine XS.iand X0.here hx rfl (hb hby at_34) rfl ?_
    refine XS.ifNo X0.here hx rfl (hb hby at_35) rfl ((if0 _ _).trans (feq hc35).1) ?_
    refine XS.dload X0.here hx rfl (hb hby at_38) rfl ?_
    show Steps p.tables e below (s₁.setTop (mkF m 40 #[.val (.int a), .val (.int b), .val (.int r), .val (.int t), .val (.int fl), .val (.int (dF a)), .val (.int (kF a b)), .val (.double (phF a b)), .second, .unset, .unset, .unset, .unset, .unset, .unset] [(.double (phF a b))])) _
    refine XS.dnegS X0.here hx rfl (hb hby at_40) rfl rfl ?_
    refine XS.dstore X0.here hx rfl (hb hby at_41) rfl (l' := #[.val (.int a), .val (.int b), .val (.int r), .val (.int t), .val (.int fl), .val (.int (dF a)), .val (.int (kF a b)), .val (.double (FP.dneg (phF a b))), .second, .unset, .unset, .unset, .unset, .unset, .unset]) rfl ?_
    refine XS.iloadN X0.here hx rfl (hb hby at_43) rfl ?_
    refine X0.ldcInt hx hown (mvT hZ (hw _ (List.mem_of_getElem? (i := 0) rfl))) (g := (mkF m 44 #[.val (.int a), .val (.int b), .val (.int r), .val (.int t), .val (.int fl), .val (.int (dF a)), .val (.int (kF a b)), .val (.double (FP.dneg (phF a b))), .second, .unset, .unset, .unset, .unset, .unset, .unset] [(.int r)])) rfl (hb hby at_44) _ ?_
    show Steps p.tables e below (s₁.setTop (mkF m 46 #[.val (.int a), .val (.int b), .val (.int r), .val (.int t), .val (.int fl), .val (.int (dF a)), .val (.int (kF a b)), .val (.double (FP.dneg (phF a b))), .second, .unset, .unset, .unset, .unset, .unset, .unset] [(.int (65535 : Int32)), (.int r)])) _
    refine XS.iand X0.here hx rfl (hb hby at_46) rfl ?_
    refine XS.iconst X0.here hx rfl (hb hby at_47) ?_
    refine XS.iadd X0.here hx rfl (hb hby at_48) rfl ?_
    show Steps p.tables e below (s₁.setTop (mkF m 49 #[.val (.int a), .val (.int b), .val (.int r), .val (.int t), .val (.int fl), .val (.int (dF a)), .val (.int (kF a b)), .val (.double (FP.dneg (phF a b))), .second, .unset, .unset, .unset, .unset, .unset, .unset] [(.int (dF r))])) _
    refine XS.i2dS X0.here hx rfl (hb hby at_49) rfl rfl ?_
    refine X0.ldc2DoubleC hx hown (mvT hZ (hw _ (List.mem_of_getElem? (i := 2) rfl))) (g := (mkF m 50 #[.val (.int a), .val (.int b), .val (.int r), .val (.int t), .val (.int fl), .val (.int (dF a)), .val (.int (kF a b)), .val (.double (FP.dneg (phF a b))), .second, .unset, .unset, .unset, .unset, .unset, .unset] [(.double (FP.i2d (dF r)))])) rfl (hb hby at_50) _ ?_
    refine XS.ddivS X0.here hx rfl (hb hby at_53) rfl hnan53 rfl ?_
    show Steps p.tables e below (s₁.setTop (mkF m 54 #[.val (.int a), .val (.int b), .val (.int r), .val (.int t), .val (.int fl), .val (.int (dF a)), .val (.int (kF a b)), .val (.double (FP.dneg (phF a b))), .second, .unset, .unset, .unset, .unset, .unset, .unset] [(.double (rhF r))])) _
    refine XS.dstore X0.here hx rfl (hb hby at_54) rfl (l' := #[.val (.int a), .val (.int b), .val (.int r), .val (.int t), .val (.int fl), .val (.int (dF a)), .val (.int (kF a b)), .val (.double (FP.dneg (phF a b))), .second, .val (.double (rhF r)), .second, .unset, .unset, .unset, .unset]) rfl ?_
    refine XS.iloadN X0.here hx rfl (hb hby at_56) rfl ?_
    refine X0.ldcInt hx hown (mvT hZ (hw _ (List.mem_of_getElem? (i := 0) rfl))) (g := (mkF m 57 #[.val (.int a), .val (.int b), .val (.int r), .val (.int t), .val (.int fl), .val (.int (dF a)), .val (.int (kF a b)), .val (.double (FP.dneg (phF a b))), .second, .val (.double (rhF r)), .second, .unset, .unset, .unset, .unset] [(.int t)])) rfl (hb hby at_57) _ ?_
    refine XS.iand X0.here hx rfl (hb hby at_59) rfl ?_
    show Steps p.tables e below (s₁.setTop (mkF m 60 #[.val (.int a), .val (.int b), .val (.int r), .val (.int t), .val (.int fl), .val (.int (dF a)), .val (.int (kF a b)), .val (.double (FP.dneg (phF a b))), .second, .val (.double (rhF r)), .second, .unset, .unset, .unset, .unset] [(.int (t &&& (65535 : Int32)))])) _
    refine XS.iconst X0.here hx rfl (hb hby at_60) ?_
    refine XS.iadd X0.here hx rfl (hb hby at_61) rfl ?_
    show Steps p.tables e below (s₁.setTop (mkF m 62 #[.val (.int a), .val (.int b), .val (.int r), .val (.int t), .val (.int fl), .val (.int (dF a)), .val (.int (kF a b)), .val (.double (FP.dneg (phF a b))), .second, .val (.double (rhF r)), .second, .unset, .unset, .unset, .unset] [(.int (dF t))])) _
    refine XS.i2dS X0.here hx rfl (hb hby at_62) rfl rfl ?_
    refine X0.ldc2DoubleC hx hown (mvT hZ (hw _ (List.mem_of_getElem? (i := 2) rfl))) (g := (mkF m 63 #[.val (.int a), .val (.int b), .val (.int r), .val (.int t), .val (.int fl), .val (.int (dF a)), .val (.int (kF a b)), .val (.double (FP.dneg (phF a b))), .second, .val (.double (rhF r)), .second, .unset, .unset, .unset, .unset] [(.double (FP.i2d (dF t)))])) rfl (hb hby at_63) _ ?_
    refine XS.ddivS X0.here hx rfl (hb hby at_66) rfl hnan66 rfl ?_
    show Steps p.tables e below (s₁.setTop (mkF m 67 #[.val (.int a), .val (.int b), .val (.int r), .val (.int t), .val (.int fl), .val (.int (dF a)), .val (.int (kF a b)), .val (.double (FP.dneg (phF a b))), .second, .val (.double (rhF r)), .second, .unset, .unset, .unset, .unset] [(.double (rhF t))])) _
    refine XS.dstore X0.here hx rfl (hb hby at_67) rfl (l' := #[.val (.int a), .val (.int b), .val (.int r), .val (.int t), .val (.int fl), .val (.int (dF a)), .val (.int (kF a b)), .val (.double (FP.dneg (phF a b))), .second, .val (.double (rhF r)), .second, .val (.double (rhF t)), .second, .unset, .unset]) rfl ?_
    show Steps p.tables e below (s₁.setTop (mkF m 69 #[.val (.int a), .val (.int b), .val (.int r), .val (.int t), .val (.int fl), .val (.int (dF a)), .val (.int (kF a b)), .val (.double (FP.dneg (phF a b))), .second, .val (.double (rhF r)), .second, .val (.double (rhF t)), .second, .unset, .unset] [])) _
    refine st18 _ ?_
    refine XS.dup X18.here hx rfl (hb hby at_72) rfl rfl ?_
    refine XS.dload X18.here hx rfl (hb hby at_73) rfl ?_
    refine XS.dload X18.here hx rfl (hb hby at_75) rfl ?_
    show Steps p.tables e below (T18.setTop (mkF m 77 #[.val (.int a), .val (.int b), .val (.int r), .val (.int t), .val (.int fl), .val (.int (dF a)), .val (.int (kF a b)), .val (.double (FP.dneg (phF a b))), .second, .val (.double (rhF r)), .second, .val (.double (rhF t)), .second, .unset, .unset] [(.double (FP.dneg (phF a b))), (.double (rhF r)), (.ref b18), (.ref b18)])) _
    refine XS.dload X18.here hx rfl (hb hby at_77) rfl ?_
    show Steps p.tables e below (T18.setTop (mkF m 79 #[.val (.int a), .val (.int b), .val (.int r), .val (.int t), .val (.int fl), .val (.int (dF a)), .val (.int (kF a b)), .val (.double (FP.dneg (phF a b))), .second, .val (.double (rhF r)), .second, .val (.double (rhF t)), .second, .unset, .unset] [(.double (rhF t)), (.double (FP.dneg (phF a b))), (.double (rhF r)), (.ref b18), (.ref b18)])) _
    refine st19.trans ?_
    refine XS.astore X19.here hx rfl (hb hby at_82) rfl rfl (l' := #[.val (.int a), .val (.int b), .val (.int r), .val (.int t), .val (.int fl), .val (.int (dF a)), .val (.int (kF a b)), .val (.double (FP.dneg (phF a b))), .second, .val (.double (rhF r)), .second, .val (.double (rhF t)), .second, .val (.ref b18), .unset]) rfl ?_
    refine XS.iload X19.here hx rfl (hb hby at_84) rfl ?_
    refine XS.ifYes X19.here hx rfl (pc0 := 86) (pc' := 93) rfl (hb hby at_86) rfl ((if0 _ _).trans (teq hc86).1) (by decide) (by decide) ?_
    show Steps p.tables e below (T19.setTop (mkF m 93 #[.val (.int a), .val (.int b), .val (.int r), .val (.int t), .val (.int fl), .val (.int (dF a)), .val (.int (kF a b)), .val (.double (FP.dneg (phF a b))), .second, .val (.double (rhF r)), .second, .val (.double (rhF t)), .second, .val (.ref b18), .unset] [])) _
    refine XS.iconst X19.here hx rfl (hb hby at_93) ?_
    refine XS.istore X19.here hx rfl (hb hby at_94) rfl (l' := #[.val (.int a), .val (.int b), .val (.int r), .val (.int t), .val (.int fl), .val (.int (dF a)), .val (.int (kF a b)), .val (.double (FP.dneg (phF a b))), .second, .val (.double (rhF r)), .second, .val (.double (rhF t)), .second, .val (.ref b18), .val (.int (0 : Int32))]) rfl ?_
    refine XS.aload X19.here hx rfl (hb hby at_96) rfl rfl ?_
    show Steps p.tables e below (T19.setTop (mkF m 98 #[.val (.int a), .val (.int b), .val (.int r), .val (.int t), .val (.int fl), .val (.int (dF a)), .val (.int (kF a b)), .val (.double (FP.dneg (phF a b))), .second, .val (.double (rhF r)), .second, .val (.double (rhF t)), .second, .val (.ref b18), .val (.int (0 : Int32))] [(.ref b18)])) _
    refine st20.trans ?_
    refine XS.iload X20.here hx rfl (hb hby at_101) rfl ?_
    refine XS.icmpNo X20.here hx rfl (hb hby at_103) rfl (teq hc103).2 ?_
    refine XS.iconst X20.here hx rfl (hb hby at_106) ?_
    show Steps p.tables e below (T20.setTop (mkF m 107 #[.val (.int a), .val (.int b), .val (.int r), .val (.int t), .val (.int fl), .val (.int (dF a)), .val (.int (kF a b)), .val (.double (FP.dneg (phF a b))), .second, .val (.double (rhF r)), .second, .val (.double (rhF t)), .second, .val (.ref b18), .val (.int (0 : Int32))] [(.int (1 : Int32))])) _
    refine XS.goto X20.here hx rfl (pc0 := 107) (pc' := 111) rfl (hb hby at_107) (by decide) (by decide) ?_
    exact retN X20 hx (t := .boolean) Bd.returns (by simp) (hb hby at_111) hr
  · show Q0  h0 n0 _ T20.heap _
    exact ⟨rfl, N20⟩
section Plain1
open Jvm.FP.Core Jvm.Kit
theorem cz0 : DV 0 1074 FP.dconst0 := dv_of_bits (s := false) (c := 0) (q := -1074) (by decide +kernel) (by decide +kernel)
theorem cone : DV 1 1074 FP.dconst1 := dv_of_bits (s := false) (c := 4503599627370496) (q := -52) (by decide +kernel) (by decide +kernel)
theorem c16 : DV 16 1074 (4625196817309499392 : UInt64) := dv_of_bits (s := false) (c := 4503599627370496) (q := -48) (by decide +kernel) (by decide +kernel)
theorem cmp_val (i j : Int) (o : CmpOp) : cmpValue (some (compare i j)) o = if i < j then -1 else if i = j then 0 else 1 := by
  simp only [compare, compareOfLessAndEq]
  split
  · rfl
  · split <;> rfl
theorem vinf : val64 (9218868437227405312 : UInt64) = .inf false := by decide +kernel
theorem dv_lt_inf {i : Int} {n : Nat} {a : UInt64} (h : DV i n a) : FP.dcmp a (9218868437227405312 : UInt64) = some .lt := by
  obtain ⟨⟨s, c, q, va⟩, -⟩ := h
  show order (val64 a) (val64 (9218868437227405312 : UInt64)) = _
  rw [va, vinf]; rfl
theorem quot_unit {i j : Int} {a b : UInt64} (ha : DV i 1074 a) (hb : DV j 1074 b) (hi : 0 < i) (hij : i < j) (hj : j ≤ 65536) :
    (∃ c q, val64 (FP.ddiv a b) = .fin false c q) ∧ 0 < zval b64 (val64 (FP.ddiv a b)) ∧ zval b64 (val64 (FP.ddiv a b)) < ((2 ^ 1074 : Nat) : Int) := by
  obtain ⟨s, e1, e2⟩ := dv_quot ha hb (by omega)
  have s0 : s = false := by
    have q := e2 1
    have p := Int.mul_pos hi (show 0 < j by omega)
    cases s
    · rfl
    · unfold signed at q; simp at q; omega
  subst s0
  rw [show ((1074 : Nat) : Int) - ((1074 : Nat) : Int) = 0 by omega] at e1
  have lo : zmag b64 (.fin false (2 ^ 52) (-69)) ≤ zmag b64 (roundRatio b64 false i.natAbs j.natAbs 0) := by
    refine zmag_roundRatio_ge good_b64 (e0 := -1074) (by omega) (by unfold Jvm.FP.Core.fits; decide) (by decide) (by decide) ?_
    rw [show zmag b64 (.fin false (2 ^ 52) (-69)) = 2 ^ 1057 by decide +kernel, show (b64.qmin - -1074).toNat = 0 by decide]
    unfold inUnits
    rw [show ((0 : Int) - -1074).toNat = 1057 + 17 by decide, Nat.pow_add, Nat.pow_zero, Nat.mul_one, Nat.mul_comm (2 ^ 1057), Nat.mul_comm (2 ^ 1057), ← Nat.mul_assoc]
    generalize (2 : Nat) ^ 1057 = X
    exact Nat.mul_le_mul_right X (by omega)
  have hi' : zmag b64 (roundRatio b64 false i.natAbs j.natAbs 0) ≤ zmag b64 (.fin false (2 ^ 53 - 1) (-53)) := by
    refine zmag_roundRatio_le good_b64 (e0 := -1074) (by omega) (by unfold Jvm.FP.Core.fits; decide) (by decide) (by decide) (by decide) ?_
    rw [show zmag b64 (.fin false (2 ^ 53 - 1) (-53)) = (2 ^ 53 - 1) * 2 ^ 1021 by decide +kernel, show (b64.qmin - -1074).toNat = 0 by decide]
    unfold inUnits
    rw [show ((0 : Int) - -1074).toNat = 53 + 1021 by decide, Nat.pow_add, Nat.pow_zero, Nat.mul_one]
    generalize (2 : Nat) ^ 1021 = X
    rw [← Nat.mul_assoc, Nat.mul_right_comm (2 ^ 53 - 1)]
    exact Nat.mul_le_mul_right X (by omega)
  rw [← e1] at lo hi'
  have hfin : ∃ c q, val64 (FP.ddiv a b) = .fin false c q := by
    rcases roundRatio_cases b64 false i.natAbs j.natAbs 0 with h | h
    · obtain ⟨c, q, h⟩ := h; exact ⟨c, q, e1.trans h⟩
    · rw [e1, h] at hi'
      exact absurd hi' (by decide +kernel)
  obtain ⟨c, q, hv⟩ := hfin
  have ez : zval b64 (val64 (FP.ddiv a b)) = (zmag b64 (val64 (FP.ddiv a b)) : Int) := by rw [hv]; rfl
  have h1 : 0 < zmag b64 (.fin false (2 ^ 52) (-69)) := by decide +kernel
  have h2 : zmag b64 (.fin false (2 ^ 53 - 1) (-53)) < 2 ^ 1074 := by decide +kernel
  refine ⟨⟨c, q, hv⟩, ?_, ?_⟩
  · rw [ez]; omega
  · rw [ez]; exact Int.ofNat_lt.mpr (Nat.lt_of_le_of_lt hi' h2)
theorem dF_bd (a : Int32) : 1 ≤ (dF a).toInt ∧ (dF a).toInt ≤ 65536 := by
  have h : (a &&& (65535 : Int32)).toInt = a.toInt % 2 ^ 16 := i32_mask _ _ (k := 16) (by decide) (by decide)
  have e1 : ((1 : Int32)).toInt = 1 := rfl
  unfold dF
  rw [i32_add (by rw [h, e1]; omega) (by rw [h, e1]; omega), h, e1]
  omega
theorem kF_bd (a b : Int32) : 0 ≤ (kF a b).toInt ∧ (kF a b).toInt < (dF a).toInt := by
  have h : (b &&& (2147483647 : Int32)).toInt = b.toInt % 2 ^ 31 := i32_mask _ _ (k := 31) (by decide) (by decide)
  have hd := dF_bd a
  unfold kF
  rw [i32_rem_nonneg (by omega)]
  exact ⟨Int.emod_nonneg _ (by omega), Int.emod_lt_of_pos _ (by omega)⟩
theorem rh_dv (r : Int32) : DV (dF r).toInt 1070 (rhF r) := by
  unfold rhF
  refine dv_div (dv_i2d _) c16 (by decide) ?_ (by have := dF_bd r; omega) (by decide)
  rw [Int.mul_assoc, show (2 ^ (1074 + 1074) : Nat) = 16 * 2 ^ (1070 + 1074) by decide +kernel, Int.natCast_mul]
  rfl
theorem rh_ok (r : Int32) : (0 : Int32) < cmpValue (FP.dcmp (rhF r) FP.dconst0) .l ∧ cmpValue (FP.dcmp (rhF r) (9218868437227405312 : UInt64)) .g < (0 : Int32) ∧ Jvm.Free.Fl.NoNaN64 (rhF r) := by
  have h := rh_dv r
  have hd := dF_bd r
  have z : DV 0 1070 FP.dconst0 := dv_up (k := 4) (i := 0) cz0
  refine ⟨?_, ?_, dv_noNaN h⟩
  · rw [dv_cmp h z, cmp_val, if_neg (by omega), if_neg (by omega)]; decide
  · rw [dv_lt_inf h]; decide
end Plain1

set_option maxRecDepth 65536 in
set_option maxHeartbeats 40000000 in
theorem rm0 (l : Launch) (Z : State) (a0 : Array Value) (hw : ∀ d ∈ tables_1, d.before a0 Z = true) (ws : List Jvm.Cond) (a : Int32) (b : Int32) (r : Int32) (t : Int32) (fl : Int32)  (h0 : Heap) (n0 : Nat) (Z0 : n0 ≤ h0.size)   :
    MetFree l x (head1 (Jvm.Cond.code x code maxLocals ret :: ws) room_1) (fun aa U => aa = #[(.int a), (.int b), (.int r), (.int t), (.int fl)] ∧ Z.Warmed39 U.vm ∧ U.heap = h0) (fun _ _ _ _ _ => True) (fun _ U o U' => ∃ v L, o = .returned v ∧ Q0  h0 n0 v U'.heap L ∧ ReturnedEndW U o U' L room_1.cells room_1.slots) := by
  have hd := dF_bd a
  have hk := kF_bd a b
  have hnz14 : ¬ dF a = (0 : Int32) := fun q => by rw [q] at hd; exact absurd hd.1 (by decide)
  obtain ⟨p1, p2, p3⟩ := rh_ok r
  obtain ⟨u1, u2, u3⟩ := rh_ok t
  by_cases hc28 : kF a b = (0 : Int32)
  · have z : DV 0 1074 (phF a b) := by
      have q := dv_div (z := 0) (N := 1074) (dv_i2d (kF a b)) (dv_i2d (dF a)) (by omega) (by rw [hc28]; simp) (by decide) (by decide)
      exact q
    have zn : DV 0 1074 (FP.dneg (phF a b)) := dv_neg z
    have f1 : ∀ {x : UInt64}, DV 0 1074 x → (¬ cmpValue (FP.dcmp x FP.dconst0) .l < (0 : Int32)) ∧ cmpValue (FP.dcmp x FP.dconst1) .g < (0 : Int32) ∧ valF x = (0 : Int32) := fun hx => by
      refine ⟨?_, ?_, ?_⟩
      · rw [dv_cmp hx cz0]; decide
      · rw [dv_cmp hx cone]; decide
      · unfold valF; rw [dv_cmp hx cz0]; decide
    by_cases hc35 : (fl &&& (1 : Int32)) = (0 : Int32)
    · exact rm0_z l Z a0 hw ws a b r t fl h0 n0 Z0 hnz14 (dv_noNaN z) hc28 hc35 p3 u3 p1 p2 (f1 z).1 (f1 z).2.1 u1 u2 hc28 (f1 z).2.2
    · exact rm0_n l Z a0 hw ws a b r t fl h0 n0 Z0 hnz14 (dv_noNaN z) hc28 hc35 p3 u3 p1 p2 (f1 zn).1 (f1 zn).2.1 u1 u2 hc28 (f1 zn).2.2
  · have hk0 : 0 < (kF a b).toInt := by
      have : (kF a b).toInt ≠ 0 := fun q => hc28 (Int32.toInt_inj.mp q)
      omega
    obtain ⟨⟨c, q, hv⟩, z1, z2⟩ := quot_unit (dv_i2d (kF a b)) (dv_i2d (dF a)) hk0 hk.2 hd.2
    have z : DV (Jvm.FP.Core.zval Jvm.FP.Core.b64 (Jvm.FP.Core.val64 (phF a b))) 0 (phF a b) := ⟨⟨_, _, _, hv⟩, by simp⟩
    have zz : DV 0 0 FP.dconst0 := dv_up (n := 0) (k := 1074) (i := 0) cz0
    have zo : DV ((2 ^ 1074 : Nat) : Int) 0 FP.dconst1 := by
      have q := dv_up (n := 0) (k := 1074) (i := 1) cone
      rw [Int.one_mul] at q
      exact q
    have g1 : FP.dcmp (phF a b) FP.dconst0 = some .gt := by
      rw [dv_cmp z zz]
      simp only [compare, compareOfLessAndEq]
      rw [if_neg (by show ¬ Jvm.FP.Core.zval Jvm.FP.Core.b64 (Jvm.FP.Core.val64 (FP.ddiv _ _)) < 0; omega), if_neg (by show ¬ Jvm.FP.Core.zval Jvm.FP.Core.b64 (Jvm.FP.Core.val64 (FP.ddiv _ _)) = 0; omega)]
    have g2 : FP.dcmp (phF a b) FP.dconst1 = some .lt := by
      rw [dv_cmp z zo]
      simp only [compare, compareOfLessAndEq]
      rw [if_pos (by exact z2)]
    refine rm0_k l Z a0 hw ws a b r t fl h0 n0 Z0 hnz14 (dv_noNaN z) hc28 p3 u3 p1 p2 ?_ ?_ u1 u2 hc28 ?_
    · rw [g1]; decide
    · rw [g2]; decide
    · unfold valF; rw [g1]; decide

set_option maxRecDepth 65536 in
set_option maxHeartbeats 40000000 in
theorem comes_1 {Post : Tables → Env → Array Value → State → Outcome → State → Prop} (hpost : ∀ tb e args s v u, (limb_1_1.after args s (.returned v) u = true ∧ limb_1_2.after args s (.returned v) u = true ∧ True) → FramedW s (.returned v) u (Jvm.fieldLocs frame_1_writes args s ++ Jvm.arrayLocs frame_1_arrays args s ++ Jvm.staticLocs frame_1_statics s) 16 2176 → Post tb e args s (.returned v) u) :
    ArmFor flags0 classFile x code maxLocals ret World_1 tables_1 room_1 Calls_1 rest_1 Pre_1 Post := by
  intro l hfl _ _ p e ha hc hk s m args below hf hA hF happ hP
  obtain ⟨hcalls, hrest, hpre⟩ := hP
  obtain ⟨-, -, -, hnamed, -, -, -, hat⟩ := (Spec.applies_iff hf).mp happ
  obtain ⟨hg, hn⟩ := and_e (Cond.before_iff.mp (show (Jvm.Cond.and given_1 narrow_1).before args s = true from hpre))
  obtain ⟨hcount, hg0⟩ := and_e hg
  obtain ⟨ha0, hg1⟩ := and_e hg0
  obtain ⟨ha1, hg2⟩ := and_e hg1
  obtain ⟨ha2, hg3⟩ := and_e hg2
  obtain ⟨ha3, hg4⟩ := and_e hg3
  have ha4 := hg4
  obtain ⟨w0, w1, w2, w3, w4, rfl⟩ : ∃ w0 w1 w2 w3 w4 : Value, args = #[w0, w1, w2, w3, w4] := by
    have hs : args.size = 5 := by simpa [Cond.value, given_1] using hcount
    obtain ⟨L⟩ := args
    match L, hs with
    | [w0, w1, w2, w3, w4], _ => exact ⟨w0, w1, w2, w3, w4, rfl⟩
  have hw := fun d (hd : d ∈ tables_1) => atoms_spec (ws := Jvm.Cond.code x code maxLocals ret :: tables_1) hat d (List.mem_cons_of_mem _ hd)
  have hfit : Fit s := fun {y c} hc i hi => by
    obtain ⟨ha, rfl⟩ := Array.getElem?_eq_some_iff.mp hc
    have q := List.all_eq_true.mp ((Array.all_eq_true_iff_forall_mem.mp hF) _ (Array.getElem_mem ha)) i (List.mem_range.mpr hi)
    simpa [Array.getElem?_eq_getElem hi] using q
  obtain ⟨i0, ei0⟩ := is_v ha0
  obtain rfl : w0 = (.int i0) := Option.some.inj ei0
  obtain ⟨i1, ei1⟩ := is_v ha1
  obtain rfl : w1 = (.int i1) := Option.some.inj ei1
  obtain ⟨i2, ei2⟩ := is_v ha2
  obtain rfl : w2 = (.int i2) := Option.some.inj ei2
  obtain ⟨i3, ei3⟩ := is_v ha3
  obtain rfl : w3 = (.int i3) := Option.some.inj ei3
  obtain ⟨i4, ei4⟩ := is_v ha4
  obtain rfl : w4 = (.int i4) := Option.some.inj ei4
  obtain ⟨n, o, h1, h2, h3, _, L, rfl, ⟨rfl, N⟩, hq⟩ := rm0 l s _ hw tables_1 i0 i1 i2 i3 i4 s.heap s.heap.size (Nat.le_refl _)  p e ha hc hk s m _ below hf ((Spec.applies_iff_loose hf).mp happ).1 ⟨rfl, State.Warmed39.refl s, rfl⟩ trivial
  refine ⟨n, _, h1, h2, h3, hpost _ _ _ _ _ _ ⟨Cond.after_iff.mpr rfl, Cond.after_iff.mpr (eq_i res_at (Term.int_eval (1)) rfl), trivial⟩ ⟨hq.1, hq.2.1, hq.2.2.1, (hq.2.2.2.sift fun y hy => Or.inr (N y hy)).mono (by decide) (by decide)⟩⟩
theorem main_1_1 : Claimed_1_1 := comes_1 fun _ _ _ _ _ _ h hF => ⟨h.1, hF⟩
theorem main_1_2 : Claimed_1_2 := comes_1 fun _ _ _ _ _ _ h hF => ⟨h.2.1, hF⟩
end Jvm.Pilot.@@N@@
namespace Jvm.Pilot.@@N@@
open Jvm Jvm.ClassFile Sem Op Lib Jvm.Free Jvm.Stand Jvm.Pilot.@@N@@.Jvm.D
/-! MADE BY PROGRAM (witnessworld.py) out of the Statement's table words and the real class files: 16 classes; the members and pool entries that the words name. The judged class is class 1, her method 1. -/
namespace start1
open Jvm.ClassFile
def u (s : String) : CpInfo := .utf8 (stringToUtf16 s)
/-- a pool by its gaps: so many unusable entries, then the entry; so many at the end -/
def gap : Nat → List CpInfo → List CpInfo
  | 0, r => r
  | n + 1, r => .unusable :: gap n r
def poolList (es : List (Nat × CpInfo)) (last : Nat) : List CpInfo := es.foldr (fun e r => gap e.1 (e.2 :: r)) (gap last [])
def pool (es : List (Nat × CpInfo)) (last : Nat) : Array CpInfo := ⟨poolList es last⟩
def fileOf (pool : Array CpInfo) (this : Nat) (attrs : Array Attribute := #[]) (ms : Array MethodInfo := #[]) (fl : Nat := 33) (sup : Nat := 0) (ifs : Array Nat := #[]) (fds : Array FieldInfo := #[]) : ClassFile where
  minorVersion := 0
  majorVersion := 65
  constantPool := pool
  accessFlags := fl
  thisClass := this
  superClass := sup
  interfaces := ifs
  fields := fds
  methods := ms
  attributes := attrs
def plain (name : String) (sup : Option ClassId) : Class where
  name := name
  kind := .ordinary
  loader := none
  accessFlags := 33
  super := sup
  interfaces := #[]
  cf := none
  fields := #[]
  methods := #[]
  instanceTypes := #[]
  staticTypes := #[]
  resolved := #[]
  callSites := []
  init := .initialized
  statics := none
  mirror := none

def pool0 : Array CpInfo := pool [(5, u "<init>"), (0, u "()V"), (1, .class_ 10), (1, u "java/lang/Object")] 113

def k0c0 : Code := { maxStack := 0, maxLocals := 1, code := object_method_1_code, exceptionTable := #[], attributes := #[] }
def k0m0 : Method := { name := "<init>", desc := "()V", sig := { parameters := [], returnType := none }, accessFlags := 1, code := some k0c0 }
/-- java/lang/Object -/
def k0 : Class := { plain "java/lang/Object" none with
  accessFlags := 33
  interfaces := #[]
  cf := some (fileOf pool0 8 #[] #[{ accessFlags := 1, nameIndex := 5, descriptorIndex := 6, attributes := #[] }] 33 0 #[] #[])
  fields := #[]
  methods := #[k0m0]
  instanceTypes := #[]
  staticTypes := #[]
  resolved := Array.replicate 124 none
  statics := none }

def pool1 : Array CpInfo := pool [(2, .class_ 4), (1, u "java/lang/Object"), (0, u "<init>"), (0, u "()V"), (0, .integer 65535), (0, .integer 2147483647), (0, .double 4625196817309499392), (1, .class_ 12), (0, u "com/example/retiremetric/retiremetric/model/preferences/Preferences"), (0, .methodref 11 14), (0, .nameAndType 5 15), (0, u "(DDD)V"), (0, .methodref 11 17), (0, .nameAndType 18 19), (0, u "valuesResidualBenefit"), (0, u "()Z"), (0, .class_ 21), (0, u "com/example/retiremetric/retiremetric/model/preferences/PreferencesValuesResidualBenefitPinLaw"), (2, u "law"), (0, u "(IIIII)Z")] 3

def k1m0 : Method := { name := "<init>", desc := "()V", sig := { parameters := [], returnType := none }, accessFlags := 2, code := none }
def k1c1 : Code := { maxStack := 8, maxLocals := 15, code := code, exceptionTable := #[], attributes := #[] }
def k1m1 : Method := { name := "law", desc := "(IIIII)Z", sig := { parameters := [.int, .int, .int, .int, .int], returnType := some .boolean }, accessFlags := 9, code := some k1c1 }
/-- com/example/retiremetric/retiremetric/model/preferences/PreferencesValuesResidualBenefitPinLaw -/
def k1 : Class := { plain "com/example/retiremetric/retiremetric/model/preferences/PreferencesValuesResidualBenefitPinLaw" (some 0) with
  accessFlags := 49
  interfaces := #[]
  cf := some (fileOf pool1 20 #[] #[{ accessFlags := 2, nameIndex := 5, descriptorIndex := 6, attributes := #[] }, { accessFlags := 9, nameIndex := 24, descriptorIndex := 25, attributes := #[] }] 49 2 #[] #[])
  fields := #[]
  methods := #[k1m0, k1m1]
  instanceTypes := #[]
  staticTypes := #[]
  resolved := Array.replicate 29 none
  statics := none }

def pool2 : Array CpInfo := pool [(1, .methodref 2 3), (0, .class_ 4), (0, .nameAndType 5 6), (0, u "java/lang/Object"), (0, u "<init>"), (0, u "()V"), (0, .class_ 8), (0, u "java/lang/Record")] 13

def k2c0 : Code := { maxStack := 1, maxLocals := 1, code := jdk_30_method_1_code, exceptionTable := #[], attributes := #[] }
def k2m0 : Method := { name := "<init>", desc := "()V", sig := { parameters := [], returnType := none }, accessFlags := 4, code := some k2c0 }
/-- java/lang/Record -/
def k2 : Class := { plain "java/lang/Record" (some 0) with
  accessFlags := 1057
  interfaces := #[]
  cf := some (fileOf pool2 7 #[] #[{ accessFlags := 4, nameIndex := 5, descriptorIndex := 6, attributes := #[] }] 1057 2 #[] #[])
  fields := #[]
  methods := #[k2m0]
  instanceTypes := #[]
  staticTypes := #[]
  resolved := Array.replicate 22 none
  statics := none }

def pool3 : Array CpInfo := pool [(1, .methodref 2 3), (0, .class_ 4), (0, .nameAndType 5 6), (0, u "java/lang/Record"), (0, u "<init>"), (0, u "()V"), (0, .string 8), (0, u "rho"), (0, .methodref 10 11), (0, .class_ 12), (0, .nameAndType 13 14), (0, u "com/example/retiremetric/retiremetric/model/InputRanges"), (0, u "requirePositive"), (0, u "(Ljava/lang/String;D)V"), (3, u "phi"), (19, .string 39), (0, u "beta"), (0, .fieldref 41 42), (0, .class_ 43), (0, .nameAndType 8 44), (0, u "com/example/retiremetric/retiremetric/model/preferences/Preferences"), (0, u "D"), (0, .fieldref 41 46), (0, .nameAndType 18 44), (0, .fieldref 41 48), (0, .nameAndType 39 44), (29, u "(DDD)V"), (4, u "valuesResidualBenefit"), (0, u "()Z")] 28

def k3c0 : Code := { maxStack := 9, maxLocals := 7, code := prog_44_method_1_code, exceptionTable := #[], attributes := #[] }
def k3m0 : Method := { name := "<init>", desc := "(DDD)V", sig := { parameters := [.double, .double, .double], returnType := none }, accessFlags := 1, code := some k3c0 }
def k3c1 : Code := { maxStack := 4, maxLocals := 1, code := prog_44_method_2_code, exceptionTable := #[], attributes := #[] }
def k3m1 : Method := { name := "valuesResidualBenefit", desc := "()Z", sig := { parameters := [], returnType := some .boolean }, accessFlags := 1, code := some k3c1 }
/-- com/example/retiremetric/retiremetric/model/preferences/Preferences -/
def k3 : Class := { plain "com/example/retiremetric/retiremetric/model/preferences/Preferences" (some 2) with
  accessFlags := 49
  interfaces := #[]
  cf := some (fileOf pool3 41 #[] #[{ accessFlags := 1, nameIndex := 5, descriptorIndex := 78, attributes := #[] }, { accessFlags := 1, nameIndex := 83, descriptorIndex := 84, attributes := #[] }] 49 2 #[] #[{ accessFlags := 18, nameIndex := 8, descriptorIndex := 44, attributes := #[] }, { accessFlags := 18, nameIndex := 18, descriptorIndex := 44, attributes := #[] }, { accessFlags := 18, nameIndex := 39, descriptorIndex := 44, attributes := #[] }])
  fields := #[{ name := "rho", type := .double, accessFlags := 18, slot := 0, constantValue := 0 }, { name := "phi", type := .double, accessFlags := 18, slot := 1, constantValue := 0 }, { name := "beta", type := .double, accessFlags := 18, slot := 2, constantValue := 0 }]
  methods := #[k3m0, k3m1]
  instanceTypes := #[.double, .double, .double]
  staticTypes := #[]
  resolved := Array.replicate 113 none
  statics := none }

def pool4 : Array CpInfo := pool [(1, .class_ 2), (0, u "java/io/Serializable"), (0, .class_ 4), (0, u "java/lang/Object")] 2

/-- java/io/Serializable -/
def k4 : Class := { plain "java/io/Serializable" (some 0) with
  accessFlags := 1537
  interfaces := #[]
  cf := some (fileOf pool4 1 #[] #[] 1537 3 #[] #[])
  fields := #[]
  methods := #[]
  instanceTypes := #[]
  staticTypes := #[]
  resolved := Array.replicate 7 none
  statics := none }

def pool5 : Array CpInfo := pool [(1, .class_ 2), (0, u "java/lang/Comparable"), (0, .class_ 4), (0, u "java/lang/Object")] 7

/-- java/lang/Comparable -/
def k5 : Class := { plain "java/lang/Comparable" (some 0) with
  accessFlags := 1537
  interfaces := #[]
  cf := some (fileOf pool5 1 #[] #[] 1537 3 #[] #[])
  fields := #[]
  methods := #[]
  instanceTypes := #[]
  staticTypes := #[]
  resolved := Array.replicate 12 none
  statics := none }

def pool6 : Array CpInfo := pool [(2, .class_ 4), (1, u "java/lang/CharSequence"), (42, .class_ 48), (0, u "java/lang/CharSequence$1CodePointIterator"), (10, .class_ 60), (0, u "java/lang/CharSequence$1CharIterator"), (5, .class_ 67), (0, u "java/lang/Object")] 63

/-- java/lang/CharSequence -/
def k6 : Class := { plain "java/lang/CharSequence" (some 0) with
  accessFlags := 1537
  interfaces := #[]
  cf := some (fileOf pool6 2 #[.nestMembers #[47, 59]] #[] 1537 66 #[] #[])
  fields := #[]
  methods := #[]
  instanceTypes := #[]
  staticTypes := #[]
  resolved := Array.replicate 131 none
  statics := none }

def pool7 : Array CpInfo := pool [(1, .class_ 2), (0, u "java/lang/constant/Constable"), (0, .class_ 4), (0, u "java/lang/Object")] 6

/-- java/lang/constant/Constable -/
def k7 : Class := { plain "java/lang/constant/Constable" (some 0) with
  accessFlags := 1537
  interfaces := #[]
  cf := some (fileOf pool7 1 #[] #[] 1537 3 #[] #[])
  fields := #[]
  methods := #[]
  instanceTypes := #[]
  staticTypes := #[]
  resolved := Array.replicate 11 none
  statics := none }

def pool8 : Array CpInfo := pool [(1, .class_ 2), (0, u "java/lang/constant/ConstantDesc"), (0, .class_ 4), (0, u "java/lang/Object")] 32

/-- java/lang/constant/ConstantDesc -/
def k8 : Class := { plain "java/lang/constant/ConstantDesc" (some 0) with
  accessFlags := 1537
  interfaces := #[]
  cf := some (fileOf pool8 1 #[] #[] 1537 3 #[] #[])
  fields := #[]
  methods := #[]
  instanceTypes := #[]
  staticTypes := #[]
  resolved := Array.replicate 37 none
  statics := none }

def pool9 : Array CpInfo := pool [(2, .class_ 4), (1, u "java/lang/Object"), (0, u "<init>"), (0, u "()V"), (3, .class_ 12), (1, u "java/lang/String"), (0, u "value"), (0, u "[B"), (2, u "coder"), (0, u "B"), (2, u "hash"), (0, u "I"), (2, u "hashIsZero"), (0, u "Z"), (13, u "COMPACT_STRINGS"), (534, .class_ 576), (0, u "java/lang/CharSequence"), (22, u "CASE_INSENSITIVE_ORDER"), (0, u "Ljava/util/Comparator;"), (500, u "serialPersistentFields"), (0, u "[Ljava/io/ObjectStreamField;"), (0, .class_ 1104), (0, u "java/lang/String$CaseInsensitiveComparator"), (1, .class_ 1107), (0, u "java/io/Serializable"), (0, .class_ 1109), (0, u "java/lang/Comparable"), (0, .class_ 1111), (0, u "java/lang/constant/Constable"), (0, .class_ 1113), (0, u "java/lang/constant/ConstantDesc"), (2, u "serialVersionUID"), (0, u "J"), (3, u "REPL"), (0, u "C"), (2, u "LATIN1"), (1, u "UTF16")] 323

def k9m0 : Method := { name := "<init>", desc := "()V", sig := { parameters := [], returnType := none }, accessFlags := 1, code := none }
/-- java/lang/String -/
def k9 : Class := { plain "java/lang/String" (some 0) with
  accessFlags := 49
  interfaces := #[4, 5, 6, 7, 8]
  cf := some (fileOf pool9 10 #[.nestMembers #[1103]] #[{ accessFlags := 1, nameIndex := 5, descriptorIndex := 6, attributes := #[] }] 49 2 #[1106, 1108, 575, 1110, 1112] #[{ accessFlags := 18, nameIndex := 13, descriptorIndex := 14, attributes := #[] }, { accessFlags := 18, nameIndex := 17, descriptorIndex := 18, attributes := #[] }, { accessFlags := 2, nameIndex := 21, descriptorIndex := 22, attributes := #[] }, { accessFlags := 2, nameIndex := 25, descriptorIndex := 26, attributes := #[] }, { accessFlags := 26, nameIndex := 1116, descriptorIndex := 1117, attributes := #[] }, { accessFlags := 24, nameIndex := 40, descriptorIndex := 26, attributes := #[] }, { accessFlags := 26, nameIndex := 1101, descriptorIndex := 1102, attributes := #[] }, { accessFlags := 26, nameIndex := 1121, descriptorIndex := 1122, attributes := #[] }, { accessFlags := 25, nameIndex := 599, descriptorIndex := 600, attributes := #[] }, { accessFlags := 24, nameIndex := 1125, descriptorIndex := 18, attributes := #[] }, { accessFlags := 24, nameIndex := 1127, descriptorIndex := 18, attributes := #[] }])
  fields := #[{ name := "value", type := (.array .byte), accessFlags := 18, slot := 0, constantValue := 0 }, { name := "coder", type := .byte, accessFlags := 18, slot := 1, constantValue := 0 }, { name := "hash", type := .int, accessFlags := 2, slot := 2, constantValue := 0 }, { name := "hashIsZero", type := .boolean, accessFlags := 2, slot := 3, constantValue := 0 }, { name := "serialVersionUID", type := .long, accessFlags := 26, slot := 0, constantValue := 0 }, { name := "COMPACT_STRINGS", type := .boolean, accessFlags := 24, slot := 1, constantValue := 0 }, { name := "serialPersistentFields", type := (.array (.object "java/io/ObjectStreamField")), accessFlags := 26, slot := 2, constantValue := 0 }, { name := "REPL", type := .char, accessFlags := 26, slot := 3, constantValue := 0 }, { name := "CASE_INSENSITIVE_ORDER", type := (.object "java/util/Comparator"), accessFlags := 25, slot := 4, constantValue := 0 }, { name := "LATIN1", type := .byte, accessFlags := 24, slot := 5, constantValue := 0 }, { name := "UTF16", type := .byte, accessFlags := 24, slot := 6, constantValue := 0 }]
  methods := #[k9m0]
  instanceTypes := #[(.array .byte), .byte, .int, .boolean]
  staticTypes := #[.long, .boolean, (.array (.object "java/io/ObjectStreamField")), .char, (.object "java/util/Comparator"), .byte, .byte]
  resolved := Array.replicate 1451 none
  statics := none }

def pool10 : Array CpInfo := pool [(2, .class_ 4), (1, u "java/lang/Object"), (0, u "<init>"), (0, u "()V"), (2, .double 9218868437227405312), (26, .class_ 37), (0, u "com/example/retiremetric/retiremetric/model/InputRanges"), (2, u "requirePositive"), (0, u "(Ljava/lang/String;D)V")] 6

def k10m0 : Method := { name := "<init>", desc := "()V", sig := { parameters := [], returnType := none }, accessFlags := 2, code := none }
def k10c1 : Code := { maxStack := 9, maxLocals := 3, code := prog_35_method_2_code, exceptionTable := #[], attributes := #[] }
def k10m1 : Method := { name := "requirePositive", desc := "(Ljava/lang/String;D)V", sig := { parameters := [(.object "java/lang/String"), .double], returnType := none }, accessFlags := 9, code := some k10c1 }
/-- com/example/retiremetric/retiremetric/model/InputRanges -/
def k10 : Class := { plain "com/example/retiremetric/retiremetric/model/InputRanges" (some 0) with
  accessFlags := 49
  interfaces := #[]
  cf := some (fileOf pool10 36 #[] #[{ accessFlags := 2, nameIndex := 5, descriptorIndex := 6, attributes := #[] }, { accessFlags := 9, nameIndex := 40, descriptorIndex := 41, attributes := #[] }] 49 2 #[] #[])
  fields := #[]
  methods := #[k10m0, k10m1]
  instanceTypes := #[]
  staticTypes := #[]
  resolved := Array.replicate 48 none
  statics := none }

def pool11 : Array CpInfo := pool [(1, u "java/lang/Cloneable"), (0, .class_ 1), (0, u "java/lang/Object"), (0, .class_ 3)] 3

/-- java/lang/Cloneable -/
def k11 : Class := { plain "java/lang/Cloneable" (some 0) with
  accessFlags := 1537
  interfaces := #[]
  cf := some (fileOf pool11 2 #[] #[] 1537 4 #[] #[])
  fields := #[]
  methods := #[]
  instanceTypes := #[]
  staticTypes := #[]
  resolved := Array.replicate 8 none
  statics := none }

/-- the primitive byte -/
def k12 : Class := { plain "byte" none with kind := .primitive 'B', accessFlags := 0x411 }
/-- [B -/
def k13 : Class := { plain "[B" (some 0) with kind := .array 12 .byte, interfaces := #[11, 4], accessFlags := 1041 }

/-- the primitive int -/
def k14 : Class := { plain "int" none with kind := .primitive 'I', accessFlags := 0x411 }
/-- [I -/
def k15 : Class := { plain "[I" (some 0) with kind := .array 14 .int, interfaces := #[11, 4], accessFlags := 1041 }

def heap : Heap := #[]
def classes : Array Class := #[k0, k1, k2, k3, k4, k5, k6, k7, k8, k9, k10, k11, k12, k13, k14, k15]
def interned : List (Array UInt16 × Addr) := []
def slotsUsed : Nat := 0
def theMethod : MethodId := ⟨1, 1⟩
def args0 : Array Value := #[.int 5, .int 1, .int 1, .int 1, .int 1]
def aboutOver (below : List Frame) : State where
  vm := { classes := classes, interned := interned.toArray }
  heap := heap
  slotsUsed := slotsUsed
  threads := #[{ frames := .invoking theMethod args0 :: below }]
def below0 : List Frame := [.native { method := ⟨0, 0⟩, args := #[] }]
def about1 : State := aboutOver below0
def p0 : Program := .bare "" "" ""
def e0 : Env := launch0.env 0 0 0
theorem w_frames : about1.frames = Frame.invoking theMethod args0 :: below0 := rfl
set_option maxRecDepth 65536 in
theorem w_args : argsFit about1.vm theMethod args0 = true := by decide +kernel
set_option maxRecDepth 65536 in
theorem w_heap : heapFits about1 = true := by decide +kernel
set_option maxRecDepth 65536 in
theorem w_runnable : about1.curStatus? = some .runnable := by decide +kernel
set_option maxRecDepth 65536 in
theorem w_alone : about1.alone = true := by decide +kernel
set_option maxRecDepth 65536 in
theorem w_named : about1.methodNamed? x = some theMethod := by decide +kernel
set_option maxRecDepth 65536 in
theorem w_hears : about1.hears theMethod below0 = true := by decide +kernel
set_option maxRecDepth 65536 in
theorem w_ripe : about1.ripe theMethod args0 below0 = true := by decide +kernel
theorem w_running : about1.status = .running := rfl
set_option maxRecDepth 65536 in
theorem w_room : about1.hasRoom e0.platform room_1 = true :=
  launch0.hasRoom_least _ room_1 (by decide +kernel) (by decide +kernel) (by decide +kernel) (by decide +kernel) (by decide +kernel) (by decide +kernel)
theorem allAtoms_all (ts : List Jvm.Cond) (a : Array Jvm.Value) (st : Jvm.State) : (allAtoms ts).before a st = ts.all (fun c => c.before a st) := by
  induction ts with
  | nil => rfl
  | cons c t ih =>
    show (Jvm.Cond.and c (allAtoms t)).before a st = _
    rw [Jvm.Cond.before_and, ih, List.all_cons]
def words1 : List Jvm.Cond := Jvm.Cond.code x code maxLocals ret :: tables_1
/-- a 'code' word, met by the world's own term for the bytes: nothing is compared byte by byte -/
theorem code_word {y : MethodName} {bytes : ByteArray} {mx : Nat} {rt : Option FieldType} {a : Array Value} {s : State} {m : MethodId} {meth : Method} {c : Code} (h1 : s.methodNamed? y = some m) (h2 : s.vm.method? m = some meth) (h3 : meth.code = some c) (h4 : c.code = bytes)
    (h5 : (c.maxLocals == mx && c.exceptionTable.isEmpty && decide (c.maxStack ≤ mostOperands) && decide (meth.sig.returnType = rt) && !meth.locks && decide (parseMethodDescriptor y.desc = some meth.sig)) = true) : (Jvm.Cond.code y bytes mx rt).before a s = true := by
  simp only [Bool.and_eq_true, beq_iff_eq, Bool.not_eq_true', decide_eq_true_eq] at h5
  obtain ⟨⟨⟨⟨⟨g1, g2⟩, g3⟩, g4⟩, g5⟩, g6⟩ := h5
  simp [Cond.before, Cond.holds, Cond.value, h1, h2, h3, h4, g1, g2, g3, g4, g5, g6]
def isCode : Jvm.Cond → Bool
  | .code _ _ _ _ => true
  | _ => false
theorem all_split {L : List Jvm.Cond} {P : Jvm.Cond → Bool} (h1 : L.all (fun c => isCode c || P c) = true) (h2 : ∀ c ∈ L.filter isCode, P c = true) : L.all P = true := by
  refine List.all_eq_true.mpr fun c hc => ?_
  have h := List.all_eq_true.mp h1 c hc
  rcases Bool.eq_false_or_eq_true (isCode c) with hi | hi
  · exact h2 c (List.mem_filter.mpr ⟨hc, hi⟩)
  · simpa [hi] using h
set_option maxRecDepth 65536 in
theorem w_c0 : (Jvm.Cond.code x code maxLocals ret).before args0 about1 = true := code_word (m := ⟨1, 1⟩) (meth := k1m1) (c := k1c1) (by decide +kernel) rfl rfl rfl (by decide +kernel)
set_option maxRecDepth 65536 in
theorem w_c1 : (Jvm.Cond.code ({ cls := "com/example/retiremetric/retiremetric/model/preferences/Preferences", name := "<init>", desc := "(DDD)V" } : Jvm.MethodName) prog_44_method_1_code (7 : Nat) (Option.none : Option Jvm.ClassFile.FieldType)).before args0 about1 = true := code_word (m := ⟨3, 0⟩) (meth := k3m0) (c := k3c0) (by decide +kernel) rfl rfl rfl (by decide +kernel)
set_option maxRecDepth 65536 in
theorem w_c2 : (Jvm.Cond.code ({ cls := "java/lang/Record", name := "<init>", desc := "()V" } : Jvm.MethodName) jdk_30_method_1_code (1 : Nat) (Option.none : Option Jvm.ClassFile.FieldType)).before args0 about1 = true := code_word (m := ⟨2, 0⟩) (meth := k2m0) (c := k2c0) (by decide +kernel) rfl rfl rfl (by decide +kernel)
set_option maxRecDepth 65536 in
theorem w_c3 : (Jvm.Cond.code ({ cls := "java/lang/Object", name := "<init>", desc := "()V" } : Jvm.MethodName) object_method_1_code (1 : Nat) (Option.none : Option Jvm.ClassFile.FieldType)).before args0 about1 = true := code_word (m := ⟨0, 0⟩) (meth := k0m0) (c := k0c0) (by decide +kernel) rfl rfl rfl (by decide +kernel)
set_option maxRecDepth 65536 in
theorem w_c4 : (Jvm.Cond.code ({ cls := "com/example/retiremetric/retiremetric/model/InputRanges", name := "requirePositive", desc := "(Ljava/lang/String;D)V" } : Jvm.MethodName) prog_35_method_2_code (3 : Nat) (Option.none : Option Jvm.ClassFile.FieldType)).before args0 about1 = true := code_word (m := ⟨10, 1⟩) (meth := k10m1) (c := k10c1) (by decide +kernel) rfl rfl rfl (by decide +kernel)
set_option maxRecDepth 65536 in
theorem w_c5 : (Jvm.Cond.code ({ cls := "com/example/retiremetric/retiremetric/model/preferences/Preferences", name := "valuesResidualBenefit", desc := "()Z" } : Jvm.MethodName) prog_44_method_2_code (1 : Nat) (Option.some Jvm.ClassFile.FieldType.boolean)).before args0 about1 = true := code_word (m := ⟨3, 1⟩) (meth := k3m1) (c := k3c1) (by decide +kernel) rfl rfl rfl (by decide +kernel)
def codes1 : List Jvm.Cond := [Jvm.Cond.code x code maxLocals ret, Jvm.Cond.code ({ cls := "com/example/retiremetric/retiremetric/model/preferences/Preferences", name := "<init>", desc := "(DDD)V" } : Jvm.MethodName) prog_44_method_1_code (7 : Nat) (Option.none : Option Jvm.ClassFile.FieldType), Jvm.Cond.code ({ cls := "java/lang/Record", name := "<init>", desc := "()V" } : Jvm.MethodName) jdk_30_method_1_code (1 : Nat) (Option.none : Option Jvm.ClassFile.FieldType), Jvm.Cond.code ({ cls := "java/lang/Object", name := "<init>", desc := "()V" } : Jvm.MethodName) object_method_1_code (1 : Nat) (Option.none : Option Jvm.ClassFile.FieldType), Jvm.Cond.code ({ cls := "com/example/retiremetric/retiremetric/model/InputRanges", name := "requirePositive", desc := "(Ljava/lang/String;D)V" } : Jvm.MethodName) prog_35_method_2_code (3 : Nat) (Option.none : Option Jvm.ClassFile.FieldType), Jvm.Cond.code ({ cls := "com/example/retiremetric/retiremetric/model/preferences/Preferences", name := "valuesResidualBenefit", desc := "()Z" } : Jvm.MethodName) prog_44_method_2_code (1 : Nat) (Option.some Jvm.ClassFile.FieldType.boolean)]
set_option maxRecDepth 65536 in
theorem codes_eq : words1.filter isCode = codes1 := rfl
theorem w_codes : ∀ c ∈ words1.filter isCode, c.before args0 about1 = true := by
  rw [codes_eq]
  intro c hc
  simp only [codes1, List.mem_cons, List.not_mem_nil, or_false] at hc
  rcases hc with rfl | rfl | rfl | rfl | rfl | rfl
  · exact w_c0
  · exact w_c1
  · exact w_c2
  · exact w_c3
  · exact w_c4
  · exact w_c5
set_option maxRecDepth 65536 in
theorem w_t1 : (words1.take 24).all (fun c => isCode c || c.before args0 about1) = true := by decide +kernel
set_option maxRecDepth 65536 in
theorem w_t2 : (words1.drop 24).all (fun c => isCode c || c.before args0 about1) = true := by decide +kernel
theorem w_tables : (allAtoms (Jvm.Cond.code x code maxLocals ret :: tables_1)).before args0 about1 = true := by
  rw [allAtoms_all]
  show words1.all (fun c => c.before args0 about1) = true
  refine all_split ?_ w_codes
  rw [← List.take_append_drop 24 words1, List.all_append, w_t1, w_t2]
  rfl
set_option maxRecDepth 65536 in
theorem w_case : (Jvm.Cond.and given_1 narrow_1).before args0 about1 = true := by decide +kernel
theorem w_applies : (headSpec (Jvm.Cond.code x code maxLocals ret :: tables_1) room_1).applies x e0.platform about1 = true :=
  (Spec.applies_iff w_frames).mpr ⟨w_running, w_runnable, w_alone, w_named, w_hears, w_ripe, w_room, w_tables⟩
theorem atStart : AtStart classFile x code maxLocals ret World_1 tables_1 room_1 Calls_1 rest_1 Pre_1 launch0 p0 e0 about1 theMethod args0 below0 :=
  ⟨lists_1, trivial, launch0.admits_env _ _ _, launch0.least_env, fairChoices_fair.cas, fairChoices_fair.clock, w_frames, w_args, w_heap, w_applies, trivial, trivial, w_case⟩
end start1
theorem witness_1 : WitnessClaimed_1 := ⟨start1.p0, start1.e0, start1.about1, start1.theMethod, start1.args0, start1.below0, start1.atStart⟩
end Jvm.Pilot.@@N@@
