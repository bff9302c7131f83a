import JvmDerived
import JvmDerived.Pilot.@@N@@Statement
import JvmDerived.Pilot.@@N@@Code
set_option linter.unusedVariables false
set_option linter.unusedSimpArgs false
namespace Jvm.RoadKit
open Sem ClassFile Op Lib Jvm.Stand Jvm.Free Jvm.LawKit
section New
variable {p : Program} {l : Launch} {e : Env} {R : Room} {s : State} {m : MethodId} {args : Array Value} {below : List Frame} {meth : Method} {c : Code} {T : State} {locs : List Loc} {cells slots : Nat}
theorem retI (X : Stand p l e R s m args below meth c T locs cells slots) (hx : p.tables.exec = Jvm.exec) {pc : Nat} {Ls : Array Slot} {z : Int32} {rest : List Value} (hret : meth.sig.returnType = some .int) (hd : decode c.code pc = .ok (.ireturn, 1)) {fs : List Frame}
    (hl : ∀ (f : JFrame) (acts : List Action), f.method = m → f.locked = none → f.entered = [] → (doReturn e (T.setTop f) acts (some (.int z))).1 = T.setFrames fs) : Steps p.tables e below (T.setTop (mkF m pc Ls (.int z :: rest))) (T.setFrames fs) := by
  have hm' : T.vm.method? m = some meth := X.method'
  have hn : narrow .int (.int z) = .int z := rfl
  show Steps p.tables e below (T.setTop { method := m, pc := pc, locals := Ls, stack := _ :: rest, locked := none }) _
  jvm_step X.here [X.here.top, hx, hd, hm', hret, hn]
  first | (intro acts; rw [hl _ acts rfl rfl rfl]) | rw [hl _ _ rfl rfl rfl]
  exact Steps.refl _
theorem gwLrem {tb : Tables} [Ours tb] {e : Env} {below : List Frame} {T target : State} {m : MethodId} {c : Code} {g : JFrame} (h : At T m c below) (hx : tb.exec = Jvm.exec) (hg : g.method = m) {x y : Int64} {rest : List Value} (hd : decode c.code g.pc = .ok (.lrem, 1)) (hs : g.stack = .long y :: .long x :: rest) (hy : y ≠ 0)
    (hr : Steps tb e below (T.setTop { g with pc := g.pc + 1, stack := .long (x % y) :: rest }) target) : Steps tb e below (T.setTop g) target :=
  XS.lrem h hx hg hd hs hy (by rw [lrem_mod]; exact hr)
theorem gwIrem {tb : Tables} [Ours tb] {e : Env} {below : List Frame} {T target : State} {m : MethodId} {c : Code} {g : JFrame} (h : At T m c below) (hx : tb.exec = Jvm.exec) (hg : g.method = m) {x y : Int32} {rest : List Value} (hd : decode c.code g.pc = .ok (.irem, 1)) (hs : g.stack = .int y :: .int x :: rest) (hy : y ≠ 0)
    (hr : Steps tb e below (T.setTop { g with pc := g.pc + 1, stack := .int (x % y) :: rest }) target) : Steps tb e below (T.setTop g) target :=
  XS.irem h hx hg hd hs hy (by rw [Jvm.irem_eq_mod]; exact hr)
end New
end Jvm.RoadKit
@@BLOCK:NumsL.lean.txt@@
namespace Jvm.Pilot.@@N@@
open Jvm Jvm.ClassFile Sem Op Lib Jvm.Free Jvm.Stand Jvm.LawKit Jvm.RoadKit Bundle Jvm.Pilot.@@N@@.Jvm.D

section DVs
open Jvm.FP.Core
/-- the double a is finite and is the number i * 2 ^ (n - 1074) -/
def DV (i : Int) (n : Nat) (a : UInt64) : Prop := (∃ s c q, val64 a = .fin s c q) ∧ zval b64 (val64 a) = i * ((2 ^ n : Nat) : Int)
theorem dv_up {i : Int} {n k : Nat} {a : UInt64} (h : DV i (n + k) a) : DV (i * ((2 ^ k : Nat) : Int)) n a := by
  refine ⟨h.1, ?_⟩
  rw [h.2, Nat.pow_add, Int.mul_assoc]
  congr 1
  rw [Nat.mul_comm]; push_cast; first | rfl | done
theorem round_units {s : Bool} {c : Nat} {q b : Int} {M n : Nat} (hb : b ≤ q) (h : c * 2 ^ (q - b).toNat = M * 2 ^ n) (hM : M < 2 ^ 53) (h1 : -1074 ≤ (n : Int) + b) (h2 : (n : Int) + b ≤ 971) :
    ∃ c' q', round b64 (.fin s c q) = .fin s c' q' ∧ inUnits c' q' b64.qmin = M * 2 ^ ((n : Int) + b + 1074).toNat := by
  have e : round b64 (.fin s c q) = round b64 (.fin s M ((n : Int) + b)) := by
    show roundRatio b64 s c 1 q = roundRatio b64 s M 1 ((n : Int) + b)
    refine roundRatio_congr (by decide) (by decide) ?_
    by_cases hc : q ≤ (n : Int) + b
    · have e1 : (q - ((n : Int) + b)).toNat = 0 := by omega
      have e2 : n = (q - b).toNat + ((n : Int) + b - q).toNat := by omega
      rw [e1]
      have h3 : c * 2 ^ (q - b).toNat = (M * 2 ^ ((n : Int) + b - q).toNat) * 2 ^ (q - b).toNat := by
        rw [h, Nat.mul_assoc, ← Nat.pow_add, Nat.add_comm, ← e2]
      have h4 := Nat.eq_of_mul_eq_mul_right (Nat.two_pow_pos _) h3
      rw [Nat.pow_zero, Nat.mul_one, Nat.mul_one, Nat.mul_one, h4]
    · have e1 : ((n : Int) + b - q).toNat = 0 := by omega
      have e2 : (q - b).toNat = (q - ((n : Int) + b)).toNat + n := by omega
      rw [e1]
      have h3 : (c * 2 ^ (q - ((n : Int) + b)).toNat) * 2 ^ n = M * 2 ^ n := by rw [Nat.mul_assoc, ← Nat.pow_add, ← e2, h]
      have h4 := Nat.eq_of_mul_eq_mul_right (Nat.two_pow_pos _) h3
      rw [Nat.pow_zero, Nat.mul_one, Nat.mul_one, Nat.mul_one, h4]
  obtain ⟨c', q', r1, r2⟩ := round_exact good_b64 s (c := M) (q := (n : Int) + b) hM (by rw [qmin_b64]; exact h1) (by show _ ≤ b64.qmax; rw [show b64.qmax = 971 by decide]; exact h2)
  refine ⟨c', q', e.trans r1, r2.trans ?_⟩
  unfold inUnits
  rw [qmin_b64]
  congr 3
theorem signed_natAbs {s : Bool} {c : Nat} {z : Int} (h : signed s c = z) : c = z.natAbs := by rw [← h, natAbs_signed]
theorem signed_of_natAbs {s : Bool} {c M k : Nat} {z : Int} (h : signed s c = z * ((2 ^ k : Nat) : Int)) (n : Nat) : signed s (z.natAbs * 2 ^ n) = z * ((2 ^ n : Nat) : Int) := by
  have hc := signed_natAbs h
  have hk : 0 < (2 ^ k : Nat) := Nat.two_pow_pos k
  rw [signed_mul]
  congr 1
  by_cases hz : z = 0
  · subst hz; exact signed_zero s
  · unfold signed at h ⊢
    cases s
    · simp only [Bool.false_eq_true, if_false] at h ⊢
      have : 0 ≤ z := by
        by_cases h0 : 0 ≤ z
        · exact h0
        · have := Int.mul_neg_of_neg_of_pos (show z < 0 by omega) (show (0 : Int) < ((2 ^ k : Nat) : Int) by omega)
          omega
      omega
    · simp only [if_true] at h ⊢
      have : z ≤ 0 := by
        by_cases h0 : z ≤ 0
        · exact h0
        · have := Int.mul_pos (show 0 < z by omega) (show (0 : Int) < ((2 ^ k : Nat) : Int) by omega)
          omega
      omega
theorem dv_round {a : UInt64} {s : Bool} {c : Nat} {q b : Int} {z : Int} {n : Nat} (ha : val64 a = round b64 (.fin s c q)) (hb : b ≤ q) (h : signed s (c * 2 ^ (q - b).toNat) = z * ((2 ^ n : Nat) : Int)) (hz : z.natAbs < 2 ^ 53)
    (h1 : -1074 ≤ (n : Int) + b) (h2 : (n : Int) + b ≤ 971) {N : Nat} (hN : (N : Int) = (n : Int) + b + 1074) : DV z N a := by
  have e1 : c * 2 ^ (q - b).toNat = z.natAbs * 2 ^ n := by
    rw [signed_natAbs h, Int.natAbs_mul, Int.natAbs_natCast]
  obtain ⟨c', q', r1, r2⟩ := round_units (s := s) hb e1 hz h1 h2
  rw [show ((n : Int) + b + 1074).toNat = N by omega] at r2
  refine ⟨⟨s, c', q', ha.trans r1⟩, ?_⟩
  rw [ha, r1]
  show signed s (inUnits c' q' b64.qmin) = _
  rw [r2]
  exact signed_of_natAbs (M := 0) h N
theorem dv_fits {a : UInt64} {s : Bool} {c : Nat} {q : Int} (h : val64 a = .fin s c q) : Jvm.FP.Core.fits b64 (.fin s c q) := h ▸ val64_fits a
theorem dv_l2d {a : Int64} (h : a.toInt.natAbs < 2 ^ 53) : DV a.toInt 1074 (FP.l2d a) := by
  refine dv_round (b := -1074) (n := 1074) (val64_l2d a) (by omega) ?_ h (by omega) (by omega) (by omega)
  show signed (decide (a.toInt < 0)) (a.toInt.natAbs * 2 ^ 1074) = _
  rw [signed_mul]
  congr 1
  unfold signed
  by_cases h : a.toInt < 0 <;> simp [h] <;> omega
theorem dv_i2d (a : Int32) : DV a.toInt 1074 (FP.i2d a) := by
  refine dv_round (b := -1074) (n := 1074) (val64_i2d a) (by omega) ?_ (by have := int32_abs a; omega) (by omega) (by omega) (by omega)
  show signed (decide (a.toInt < 0)) (a.toInt.natAbs * 2 ^ 1074) = _
  rw [signed_mul]
  congr 1
  unfold signed
  by_cases h : a.toInt < 0 <;> simp [h] <;> omega
theorem dv_add {i j : Int} {n : Nat} {a b : UInt64} (ha : DV i n a) (hb : DV j n b) (h : (i + j).natAbs < 2 ^ 53) (hn : n ≤ 2045) : DV (i + j) n (FP.dadd a b) := by
  obtain ⟨⟨s, c, q, va⟩, za⟩ := ha
  obtain ⟨⟨t, d, r, vb⟩, zb⟩ := hb
  obtain ⟨sg, k, e, e1, e2, e3⟩ := sum_units (dv_fits va) (dv_fits vb)
  rw [va] at za
  rw [vb] at zb
  rw [za, zb, ← Int.add_mul] at e3
  refine dv_round (s := sg) (c := k) (q := e) (b := -1074) (n := n) ?_ (by rw [qmin_b64] at e2; exact e2) ?_ h (by omega) (by omega) (by omega)
  · show val64 (dadd a b) = _
    rw [val64_dadd, va, vb, e1]
  · rw [← e3]; unfold inUnits; rw [qmin_b64]
theorem dv_cmp {i j : Int} {n : Nat} {a b : UInt64} (ha : DV i n a) (hb : DV j n b) : FP.dcmp a b = some (compare i j) := by
  obtain ⟨⟨s, c, q, va⟩, za⟩ := ha
  obtain ⟨⟨t, d, r, vb⟩, zb⟩ := hb
  show order (val64 a) (val64 b) = _
  rw [order_zval good_b64 (val64_fits a) (val64_fits b) (by rw [va]; simp) (by rw [vb]; simp), za, zb, compare_mul_pos _ _ _ (by have := Nat.two_pow_pos n; omega)]
theorem dv_of_bits {i : Int} {n : Nat} {a : UInt64} {s : Bool} {c : Nat} {q : Int} (h : val64 a = .fin s c q) (hz : zval b64 (.fin s c q) = i * ((2 ^ n : Nat) : Int)) : DV i n a := ⟨⟨s, c, q, h⟩, by rw [h, hz]⟩
theorem xor63_mod (n : Nat) : (n ^^^ 2 ^ 63) % 2 ^ 63 = n % 2 ^ 63 := by
  rw [Nat.xor_mod_two_pow, Nat.mod_self, Nat.xor_zero]
theorem xor63_div (n : Nat) (h : n < 2 ^ 64) : (n ^^^ 2 ^ 63) / 2 ^ 63 = 1 - n / 2 ^ 63 := by
  have h1 : (n ^^^ 2 ^ 63) / 2 ^ 63 = (n / 2 ^ 63) ^^^ 1 := by
    rw [← Nat.shiftRight_eq_div_pow, Nat.shiftRight_xor_distrib, Nat.shiftRight_eq_div_pow, Nat.shiftRight_eq_div_pow]
  rw [h1]
  have h2 : n / 2 ^ 63 = 0 ∨ n / 2 ^ 63 = 1 := by omega
  rcases h2 with h2 | h2 <;> rw [h2] <;> rfl
theorem dneg_toNat (a : UInt64) : (FP.dneg a).toNat = a.toNat ^^^ 2 ^ 63 := by
  show (a ^^^ 0x8000000000000000).toNat = _
  rw [UInt64.toNat_xor]
  rfl
theorem val_dneg (a : UInt64) : val64 (FP.dneg a) = negate (val64 a) := by
  have hm : mag b64 (FP.dneg a).toNat = mag b64 a.toNat := by
    rw [mag_toNat64, mag_toNat64, dneg_toNat, xor63_mod]
  have hs : fieldS b64 (FP.dneg a).toNat = !fieldS b64 a.toNat := by
    rw [fieldS_mag b64 (lt_full64 _), fieldS_mag b64 (lt_full64 _), half_b64, dneg_toNat]
    have h0 := a.toNat_lt
    have h1 := xor63_div a.toNat h0
    have h2 := xor63_mod a.toNat
    generalize a.toNat ^^^ 2 ^ 63 = y at h1 h2
    by_cases h3 : 2 ^ 63 ≤ a.toNat
    · have : ¬ 2 ^ 63 ≤ y := by omega
      simp [h3, this]
    · have : 2 ^ 63 ≤ y := by omega
      simp [h3, this]
  unfold val64 Jvm.FP.Core.decode
  rw [fieldE_mag, fieldE_mag, fieldT_mag, fieldT_mag, hm, hs]
  split
  · split <;> rfl
  · split <;> rfl
theorem dv_neg {i : Int} {n : Nat} {a : UInt64} (ha : DV i n a) : DV (-i) n (FP.dneg a) := by
  obtain ⟨⟨s, c, q, va⟩, za⟩ := ha
  refine ⟨⟨!s, c, q, by rw [val_dneg, va]; rfl⟩, ?_⟩
  rw [val_dneg, zval_negate, za, Int.neg_mul]
theorem dv_noNaN {i : Int} {n : Nat} {a : UInt64} (ha : DV i n a) : Jvm.Free.Fl.NoNaN64 a := by
  obtain ⟨⟨s, c, q, va⟩, za⟩ := ha
  exact (Jvm.Free.Fl.fin64_core.mpr ⟨s, c, q, va⟩).noNaN
end DVs

section DV2
open Jvm.FP.Core
theorem dv_down {i : Int} {n k : Nat} {a : UInt64} (h : DV (i * ((2 ^ k : Nat) : Int)) n a) : DV i (n + k) a := by
  refine ⟨h.1, ?_⟩
  rw [h.2, Nat.pow_add, Int.mul_assoc]
  congr 1
  rw [Nat.mul_comm]; push_cast; rfl
theorem dv_sub {i j : Int} {n : Nat} {a b : UInt64} (ha : DV i n a) (hb : DV j n b) (h : (i - j).natAbs < 2 ^ 53) (hn : n ≤ 2045) : DV (i - j) n (FP.dsub a b) := by
  obtain ⟨⟨s, c, q, va⟩, za⟩ := ha
  obtain ⟨⟨t, d, r, vb⟩, zb⟩ := hb
  have fn : Jvm.FP.Core.fits b64 (.fin (!t) d r) := show Jvm.FP.Core.fits b64 (.fin t d r) from dv_fits vb
  have zn : zval b64 (.fin (!t) d r) = -(j * ((2 ^ n : Nat) : Int)) := by
    rw [← zb, vb]; exact zval_negate b64 (.fin t d r)
  obtain ⟨sg, k, e, e1, e2, e3⟩ := sum_units (dv_fits va) fn
  rw [va] at za
  rw [za, zn, ← Int.sub_eq_add_neg, ← Int.sub_mul] at e3
  refine dv_round (s := sg) (c := k) (q := e) (b := -1074) (n := n) ?_ (by rw [qmin_b64] at e2; exact e2) ?_ h (by omega) (by omega) (by omega)
  · show val64 (dsub a b) = _
    rw [val64_dsub, va, vb, show negate (.fin t d r) = .fin (!t) d r from rfl, e1]
  · rw [← e3]; unfold inUnits; rw [qmin_b64]
theorem zval_fin (s : Bool) (c : Nat) (q : Int) : zval b64 (.fin s c q) = signed s (inUnits c q b64.qmin) := rfl
theorem dv_mul {i j : Int} {n k N : Nat} {a b : UInt64} (ha : DV i n a) (hb : DV j k b) (h : (i * j).natAbs < 2 ^ 53) (hN : N + 1074 = n + k) (hN2 : N ≤ 2045) : DV (i * j) N (FP.dmul a b) := by
  obtain ⟨⟨s, c, q, va⟩, za⟩ := ha
  obtain ⟨⟨t, d, r, vb⟩, zb⟩ := hb
  obtain ⟨e1, e2, e3⟩ := product_units (dv_fits va) (dv_fits vb)
  rw [va, zval_fin] at za
  rw [vb, zval_fin] at zb
  refine dv_round (s := s != t) (c := c * d) (q := q + r) (b := -2148) (n := n + k) ?_ (by rw [qmin_b64] at e2; omega) ?_ h (by omega) (by omega) (by omega)
  · show val64 (dmul a b) = _
    rw [val64_dmul, va, vb, e1]
  · have e4 : c * d * 2 ^ (q + r - -2148).toNat = inUnits c q b64.qmin * inUnits d r b64.qmin := by
      rw [show (-2148 : Int) = 2 * b64.qmin by decide]; exact e3
    rw [e4, signed_xor, za, zb, Nat.pow_add, Int.natCast_mul]
    ac_rfl
theorem signed_of_pos {s : Bool} {c : Nat} {z P : Int} (hP : 0 < P) (h : signed s c = z * P) (n : Nat) : signed s (z.natAbs * n) = z * (n : Int) := by
  rw [signed_mul]
  congr 1
  by_cases hz : z = 0
  · subst hz; exact signed_zero s
  · unfold signed at h ⊢
    cases s
    · simp only [Bool.false_eq_true, if_false] at h ⊢
      have : 0 ≤ z := by
        by_cases h0 : 0 ≤ z
        · exact h0
        · have := Int.mul_neg_of_neg_of_pos (show z < 0 by omega) hP
          omega
      omega
    · simp only [if_true] at h ⊢
      have : z ≤ 0 := by
        by_cases h0 : z ≤ 0
        · exact h0
        · have := Int.mul_pos (show 0 < z by omega) hP
          omega
      omega
theorem pow_cancel {x y A B : Nat} (h : x * 2 ^ A = y * 2 ^ B) : x * 2 ^ (A - B) = y * 2 ^ (B - A) := by
  by_cases hc : B ≤ A
  · rw [show B - A = 0 by omega, Nat.pow_zero, Nat.mul_one]
    refine Nat.eq_of_mul_eq_mul_right (Nat.two_pow_pos B) ?_
    rw [Nat.mul_assoc, ← Nat.pow_add, show A - B + B = A by omega, h]
  · rw [show A - B = 0 by omega, Nat.pow_zero, Nat.mul_one]
    refine Nat.eq_of_mul_eq_mul_right (Nat.two_pow_pos A) ?_
    rw [Nat.mul_assoc, ← Nat.pow_add, show B - A + A = B by omega, h]
/-- the quotient's datum, by the values alone -/
theorem dv_quot {i j : Int} {n k : Nat} {a b : UInt64} (ha : DV i n a) (hb : DV j k b) (hj : j ≠ 0) :
    ∃ s : Bool, val64 (FP.ddiv a b) = roundRatio b64 s i.natAbs j.natAbs ((n : Int) - k) ∧ ∀ m : Nat, signed s ((i * j).natAbs * m) = i * j * (m : Int) := by
  obtain ⟨⟨s, c, q, va⟩, za⟩ := ha
  obtain ⟨⟨t, d, r, vb⟩, zb⟩ := hb
  have fa := dv_fits va
  have fb := dv_fits vb
  have h1 := fa.2.1
  have h2 := fb.2.1
  rw [qmin_b64] at h1 h2
  rw [va, zval_fin] at za
  rw [vb, zval_fin] at zb
  have ea : inUnits c q b64.qmin = i.natAbs * 2 ^ n := by rw [signed_natAbs za, Int.natAbs_mul, Int.natAbs_natCast]
  have eb : inUnits d r b64.qmin = j.natAbs * 2 ^ k := by rw [signed_natAbs zb, Int.natAbs_mul, Int.natAbs_natCast]
  have hd0 : d ≠ 0 := fun z => by
    rw [z] at eb
    have : j.natAbs * 2 ^ k = 0 := by rw [← eb]; unfold inUnits; simp
    have h3 := Nat.two_pow_pos k
    rcases Nat.mul_eq_zero.mp this with h | h <;> omega
  refine ⟨s != t, ?_, ?_⟩
  · show val64 (ddiv a b) = _
    rw [val64_ddiv, va, vb]
    show (if d = 0 then _ else roundRatio b64 (s != t) c d (q - r)) = _
    rw [if_neg hd0]
    refine roundRatio_congr (by omega) (by omega) ?_
    have e1 : c * 2 ^ (q + 1074).toNat = i.natAbs * 2 ^ n := by rw [← ea]; unfold inUnits; rw [qmin_b64]; congr 2
    have e2 : d * 2 ^ (r + 1074).toNat = j.natAbs * 2 ^ k := by rw [← eb]; unfold inUnits; rw [qmin_b64]; congr 2
    have e3 : c * j.natAbs * 2 ^ ((q + 1074).toNat + k) = i.natAbs * d * 2 ^ (n + (r + 1074).toNat) := by
      calc c * j.natAbs * 2 ^ ((q + 1074).toNat + k) = (c * 2 ^ (q + 1074).toNat) * (j.natAbs * 2 ^ k) := by rw [Nat.pow_add]; ac_rfl
        _ = (i.natAbs * 2 ^ n) * (d * 2 ^ (r + 1074).toNat) := by rw [e1, e2]
        _ = i.natAbs * d * 2 ^ (n + (r + 1074).toNat) := by rw [Nat.pow_add]; ac_rfl
    have e4 := pow_cancel e3
    rw [show (q - r - ((n : Int) - k)).toNat = (q + 1074).toNat + k - (n + (r + 1074).toNat) by omega, show ((n : Int) - k - (q - r)).toNat = n + (r + 1074).toNat - ((q + 1074).toNat + k) by omega]
    exact e4
  · intro m
    have h3 : signed (s != t) (inUnits c q b64.qmin * inUnits d r b64.qmin) = i * j * ((2 ^ n * 2 ^ k : Nat) : Int) := by
      rw [signed_xor, za, zb, Int.natCast_mul]; ac_rfl
    exact signed_of_pos (by have := Nat.mul_pos (Nat.two_pow_pos n) (Nat.two_pow_pos k); omega) h3 m
theorem dv_div {i j z : Int} {n k N : Nat} {a b : UInt64} (ha : DV i n a) (hb : DV j k b) (hj : j ≠ 0) (h : i * ((2 ^ (n + 1074) : Nat) : Int) = z * j * ((2 ^ (N + k) : Nat) : Int)) (hz : z.natAbs < 2 ^ 53) (hN : N ≤ 2045) : DV z N (FP.ddiv a b) := by
  obtain ⟨s, e1, e2⟩ := dv_quot ha hb hj
  have hn : i.natAbs * 2 ^ (n + 1074) = z.natAbs * j.natAbs * 2 ^ (N + k) := by
    have := congrArg Int.natAbs h
    rw [Int.natAbs_mul, Int.natAbs_mul, Int.natAbs_mul, Int.natAbs_natCast, Int.natAbs_natCast] at this
    exact this
  have e3 : roundRatio b64 s i.natAbs j.natAbs ((n : Int) - k) = round b64 (.fin s z.natAbs ((N : Int) - 1074)) := by
    show _ = roundRatio b64 s z.natAbs 1 ((N : Int) - 1074)
    refine roundRatio_congr (by omega) (by decide) ?_
    have e4 := pow_cancel hn
    rw [show ((n : Int) - k - ((N : Int) - 1074)).toNat = n + 1074 - (N + k) by omega, show ((N : Int) - 1074 - ((n : Int) - k)).toNat = N + k - (n + 1074) by omega, Nat.mul_one]
    exact e4
  refine dv_round (s := s) (c := z.natAbs) (q := (N : Int) - 1074) (b := -1074) (n := N) (e1.trans e3) (by omega) ?_ hz (by omega) (by omega) (by omega)
  rw [show ((N : Int) - 1074 - -1074).toNat = N by omega]
  by_cases hz0 : z = 0
  · subst hz0; simp [signed_zero]
  · have e5 := e2 1
    rw [Nat.mul_one] at e5
    have hp : 0 < j * j * ((2 ^ (N + k) : Nat) : Int) := by
      refine Int.mul_pos ?_ (by have := Nat.two_pow_pos (N + k); omega)
      rcases Int.lt_or_gt_of_ne hj with q | q
      · exact Int.mul_pos_of_neg_of_neg q q
      · exact Int.mul_pos q q
    have e6 := e2 (2 ^ (n + 1074))
    have e7 : i * j * ((2 ^ (n + 1074) : Nat) : Int) = z * (j * j * ((2 ^ (N + k) : Nat) : Int)) := by
      rw [Int.mul_right_comm, h, Int.mul_right_comm, Int.mul_assoc z j j, Int.mul_assoc]
    rw [e7] at e6
    exact signed_of_pos hp e6 _
/-- two quotients of one value compare as equal -/
theorem dv_div_eq {i j i' j' : Int} {n k n' k' : Nat} {a b a' b' : UInt64} (ha : DV i n a) (hb : DV j k b) (ha' : DV i' n' a') (hb' : DV j' k' b') (hi : 0 ≤ i) (hi' : 0 ≤ i') (hj : 0 < j) (hj' : 0 < j')
    (h : i.natAbs * j'.natAbs * 2 ^ (n + k') = i'.natAbs * j.natAbs * 2 ^ (n' + k)) (hf : ∃ s c q, val64 (FP.ddiv a b) = .fin s c q) : FP.dcmp (FP.ddiv a b) (FP.ddiv a' b') = some .eq := by
  obtain ⟨s, e1, e2⟩ := dv_quot ha hb (by omega)
  obtain ⟨s', e1', e2'⟩ := dv_quot ha' hb' (by omega)
  have e3 : ∀ σ, roundRatio b64 σ i.natAbs j.natAbs ((n : Int) - k) = roundRatio b64 σ i'.natAbs j'.natAbs ((n' : Int) - k') := fun σ => by
    refine roundRatio_congr (by omega) (by omega) ?_
    have e4 := pow_cancel h
    rw [show ((n : Int) - k - ((n' : Int) - k')).toNat = n + k' - (n' + k) by omega, show ((n' : Int) - k' - ((n : Int) - k)).toNat = n' + k - (n + k') by omega]
    exact e4
  by_cases hi0 : i = 0
  · have hi0' : i' = 0 := by
      have h' : i'.natAbs * j.natAbs * 2 ^ (n' + k) = 0 := by rw [← h, hi0]; simp
      have p1 := Nat.two_pow_pos (n' + k)
      rcases Nat.mul_eq_zero.mp h' with h1 | h1
      · rcases Nat.mul_eq_zero.mp h1 with h2 | h2 <;> omega
      · omega
    have z1 : DV 0 0 (FP.ddiv a b) := by
      have q := dv_div ha hb (by omega) (z := 0) (N := 0) (by rw [hi0]; simp) (by decide) (by decide); exact q
    have z2 : DV 0 0 (FP.ddiv a' b') := by
      have q := dv_div ha' hb' (by omega) (z := 0) (N := 0) (by rw [hi0']; simp) (by decide) (by decide); exact q
    rw [dv_cmp z1 z2]; rfl
  · have hi0' : i' ≠ 0 := fun z => by
      have h' : i.natAbs * j'.natAbs * 2 ^ (n + k') = 0 := by rw [h, z]; simp
      have p1 := Nat.two_pow_pos (n + k')
      rcases Nat.mul_eq_zero.mp h' with h1 | h1
      · rcases Nat.mul_eq_zero.mp h1 with h2 | h2 <;> omega
      · omega
    have sg : ∀ {σ : Bool} {u v : Int}, 0 < u → 0 < v → (∀ m : Nat, signed σ ((u * v).natAbs * m) = u * v * (m : Int)) → σ = false := by
      intro σ u v hu hv hh
      have q := hh 1
      have p := Int.mul_pos hu hv
      cases σ
      · rfl
      · unfold signed at q; simp at q; omega
    have s0 := sg (show 0 < i by omega) hj e2
    have s0' := sg (show 0 < i' by omega) hj' e2'
    subst s0 s0'
    have ev : val64 (FP.ddiv a b) = val64 (FP.ddiv a' b') := by rw [e1, e1', e3]
    obtain ⟨s, c, q, hv⟩ := hf
    have : FP.ddiv a b = FP.ddiv a' b' := val64_inj (by rw [hv]; simp) ev
    rw [← this]
    exact dcmp_self (by show val64 (FP.ddiv a b) ≠ _; rw [hv]; simp)
end DV2

theorem d1_0 : decode prog_44_method_1_code 0 = .ok (.aload_n 0, 1) := by decide +kernel
theorem d1_1 : decode prog_44_method_1_code 1 = .ok (.invokespecial 1, 3) := by decide +kernel
theorem d1_4 : decode prog_44_method_1_code 4 = .ok (.ldc 7, 2) := by decide +kernel
theorem d1_6 : decode prog_44_method_1_code 6 = .ok (.dload_n 1, 1) := by decide +kernel
theorem d1_7 : decode prog_44_method_1_code 7 = .ok (.invokestatic 9, 3) := by decide +kernel
theorem d1_10 : decode prog_44_method_1_code 10 = .ok (.dload_n 3, 1) := by decide +kernel
theorem d1_11 : decode prog_44_method_1_code 11 = .ok (.dconst 0, 1) := by decide +kernel
theorem d1_12 : decode prog_44_method_1_code 12 = .ok (.dcmp .l, 1) := by decide +kernel
theorem d1_13 : decode prog_44_method_1_code 13 = .ok (.ifCond .lt 9, 3) := by decide +kernel
theorem d1_16 : decode prog_44_method_1_code 16 = .ok (.dload_n 3, 1) := by decide +kernel
theorem d1_17 : decode prog_44_method_1_code 17 = .ok (.dconst 1, 1) := by decide +kernel
theorem d1_18 : decode prog_44_method_1_code 18 = .ok (.dcmp .g, 1) := by decide +kernel
theorem d1_19 : decode prog_44_method_1_code 19 = .ok (.ifCond .lt 29, 3) := by decide +kernel
theorem d1_22 : decode prog_44_method_1_code 22 = .ok (.new 15, 3) := by decide +kernel
theorem d1_25 : decode prog_44_method_1_code 25 = .ok (.dup, 1) := by decide +kernel
theorem d1_26 : decode prog_44_method_1_code 26 = .ok (.ldc 17, 2) := by decide +kernel
theorem d1_28 : decode prog_44_method_1_code 28 = .ok (.ldc 19, 2) := by decide +kernel
theorem d1_30 : decode prog_44_method_1_code 30 = .ok (.iconst 1, 1) := by decide +kernel
theorem d1_31 : decode prog_44_method_1_code 31 = .ok (.anewarray 21, 3) := by decide +kernel
theorem d1_34 : decode prog_44_method_1_code 34 = .ok (.dup, 1) := by decide +kernel
theorem d1_35 : decode prog_44_method_1_code 35 = .ok (.iconst 0, 1) := by decide +kernel
theorem d1_36 : decode prog_44_method_1_code 36 = .ok (.dload_n 3, 1) := by decide +kernel
theorem d1_37 : decode prog_44_method_1_code 37 = .ok (.invokestatic 23, 3) := by decide +kernel
theorem d1_40 : decode prog_44_method_1_code 40 = .ok (.aastore, 1) := by decide +kernel
theorem d1_41 : decode prog_44_method_1_code 41 = .ok (.invokestatic 29, 3) := by decide +kernel
theorem d1_44 : decode prog_44_method_1_code 44 = .ok (.invokespecial 35, 3) := by decide +kernel
theorem d1_47 : decode prog_44_method_1_code 47 = .ok (.athrow, 1) := by decide +kernel
theorem d1_48 : decode prog_44_method_1_code 48 = .ok (.ldc 38, 2) := by decide +kernel
theorem d1_50 : decode prog_44_method_1_code 50 = .ok (.dload 5, 2) := by decide +kernel
theorem d1_52 : decode prog_44_method_1_code 52 = .ok (.invokestatic 9, 3) := by decide +kernel
theorem d1_55 : decode prog_44_method_1_code 55 = .ok (.aload_n 0, 1) := by decide +kernel
theorem d1_56 : decode prog_44_method_1_code 56 = .ok (.dload_n 1, 1) := by decide +kernel
theorem d1_57 : decode prog_44_method_1_code 57 = .ok (.putfield 40, 3) := by decide +kernel
theorem d1_60 : decode prog_44_method_1_code 60 = .ok (.aload_n 0, 1) := by decide +kernel
theorem d1_61 : decode prog_44_method_1_code 61 = .ok (.dload_n 3, 1) := by decide +kernel
theorem d1_62 : decode prog_44_method_1_code 62 = .ok (.putfield 45, 3) := by decide +kernel
theorem d1_65 : decode prog_44_method_1_code 65 = .ok (.aload_n 0, 1) := by decide +kernel
theorem d1_66 : decode prog_44_method_1_code 66 = .ok (.dload 5, 2) := by decide +kernel
theorem d1_68 : decode prog_44_method_1_code 68 = .ok (.putfield 47, 3) := by decide +kernel
theorem d1_71 : decode prog_44_method_1_code 71 = .ok (.return_, 1) := by decide +kernel
theorem pn_1 : plainName "com/example/retiremetric/retiremetric/model/preferences/Preferences" = true := by first | (simp [plainName, overriddenIn]; done) | decide +kernel
theorem ef_1 (m : MethodId) (x0 : Addr) (x1 : UInt64) (x2 : UInt64) (x3 : UInt64) : entryFrame m #[(.ref x0), (.double x1), (.double x2), (.double x3)] 7 = mkF m 0 #[.val (.ref x0), .val (.double x1), .second, .val (.double x2), .second, .val (.double x3), .second] [] := by first | (simp [entryFrame, mkF, argsToLocals, Value.category]; done) | rfl
theorem d2_0 : decode jdk_30_method_1_code 0 = .ok (.aload_n 0, 1) := by decide +kernel
theorem d2_1 : decode jdk_30_method_1_code 1 = .ok (.invokespecial 1, 3) := by decide +kernel
theorem d2_4 : decode jdk_30_method_1_code 4 = .ok (.return_, 1) := by decide +kernel
theorem pn_2 : plainName "java/lang/Record" = true := by first | (simp [plainName, overriddenIn]; done) | decide +kernel
theorem ef_2 (m : MethodId) (x0 : Addr) : entryFrame m #[(.ref x0)] 1 = mkF m 0 #[.val (.ref x0)] [] := by first | (simp [entryFrame, mkF, argsToLocals, Value.category]; done) | rfl
theorem d4_0 : decode prog_35_method_2_code 0 = .ok (.dload_n 1, 1) := by decide +kernel
theorem d4_1 : decode prog_35_method_2_code 1 = .ok (.dconst 0, 1) := by decide +kernel
theorem d4_2 : decode prog_35_method_2_code 2 = .ok (.dcmp .l, 1) := by decide +kernel
theorem d4_3 : decode prog_35_method_2_code 3 = .ok (.ifCond .le 11, 3) := by decide +kernel
theorem d4_6 : decode prog_35_method_2_code 6 = .ok (.dload_n 1, 1) := by decide +kernel
theorem d4_7 : decode prog_35_method_2_code 7 = .ok (.ldc2_w 9, 3) := by decide +kernel
theorem d4_10 : decode prog_35_method_2_code 10 = .ok (.dcmp .g, 1) := by decide +kernel
theorem d4_11 : decode prog_35_method_2_code 11 = .ok (.ifCond .lt 28, 3) := by decide +kernel
theorem d4_14 : decode prog_35_method_2_code 14 = .ok (.new 11, 3) := by decide +kernel
theorem d4_17 : decode prog_35_method_2_code 17 = .ok (.dup, 1) := by decide +kernel
theorem d4_18 : decode prog_35_method_2_code 18 = .ok (.aload_n 0, 1) := by decide +kernel
theorem d4_19 : decode prog_35_method_2_code 19 = .ok (.ldc 13, 2) := by decide +kernel
theorem d4_21 : decode prog_35_method_2_code 21 = .ok (.iconst 1, 1) := by decide +kernel
theorem d4_22 : decode prog_35_method_2_code 22 = .ok (.anewarray 2, 3) := by decide +kernel
theorem d4_25 : decode prog_35_method_2_code 25 = .ok (.dup, 1) := by decide +kernel
theorem d4_26 : decode prog_35_method_2_code 26 = .ok (.iconst 0, 1) := by decide +kernel
theorem d4_27 : decode prog_35_method_2_code 27 = .ok (.dload_n 1, 1) := by decide +kernel
theorem d4_28 : decode prog_35_method_2_code 28 = .ok (.invokestatic 15, 3) := by decide +kernel
theorem d4_31 : decode prog_35_method_2_code 31 = .ok (.aastore, 1) := by decide +kernel
theorem d4_32 : decode prog_35_method_2_code 32 = .ok (.invokestatic 19, 3) := by decide +kernel
theorem d4_35 : decode prog_35_method_2_code 35 = .ok (.invokespecial 25, 3) := by decide +kernel
theorem d4_38 : decode prog_35_method_2_code 38 = .ok (.athrow, 1) := by decide +kernel
theorem d4_39 : decode prog_35_method_2_code 39 = .ok (.return_, 1) := by decide +kernel
theorem pn_4 : plainName "com/example/retiremetric/retiremetric/model/InputRanges" = true := by first | (simp [plainName, overriddenIn]; done) | decide +kernel
theorem ef_4 (m : MethodId) (x0 : Addr) (x1 : UInt64) : entryFrame m #[(.ref x0), (.double x1)] 3 = mkF m 0 #[.val (.ref x0), .val (.double x1), .second] [] := by first | (simp [entryFrame, mkF, argsToLocals, Value.category]; done) | rfl
theorem d5_0 : decode prog_44_method_3_code 0 = .ok (.aload_n 0, 1) := by decide +kernel
theorem d5_1 : decode prog_44_method_3_code 1 = .ok (.getfield 45, 3) := by decide +kernel
theorem d5_4 : decode prog_44_method_3_code 4 = .ok (.dconst 1, 1) := by decide +kernel
theorem d5_5 : decode prog_44_method_3_code 5 = .ok (.aload_n 0, 1) := by decide +kernel
theorem d5_6 : decode prog_44_method_3_code 6 = .ok (.getfield 45, 3) := by decide +kernel
theorem d5_9 : decode prog_44_method_3_code 9 = .ok (.dsub, 1) := by decide +kernel
theorem d5_10 : decode prog_44_method_3_code 10 = .ok (.ddiv, 1) := by decide +kernel
theorem d5_11 : decode prog_44_method_3_code 11 = .ok (.dreturn, 1) := by decide +kernel
theorem pn_5 : plainName "com/example/retiremetric/retiremetric/model/preferences/Preferences" = true := by first | (simp [plainName, overriddenIn]; done) | decide +kernel
theorem ef_5 (m : MethodId) (x0 : Addr) : entryFrame m #[(.ref x0)] 1 = mkF m 0 #[.val (.ref x0)] [] := by first | (simp [entryFrame, mkF, argsToLocals, Value.category]; done) | rfl
theorem pn_0 : plainName "com/example/retiremetric/retiremetric/model/preferences/PreferencesResidualBenefitWeightPinLaw" = true := by first | (simp [plainName, overriddenIn]; done) | decide +kernel
theorem ef_0 (m : MethodId) (x0 : Int32) (x1 : Int64) (x2 : Int32) (x3 : Int32) : entryFrame m #[(.int x0), (.long x1), (.int x2), (.int x3)] maxLocals = mkF m 0 #[.val (.int x0), .val (.long x1), .second, .val (.int x2), .val (.int x3), .unset, .unset, .unset, .unset, .unset, .unset, .unset, .unset, .unset, .unset, .unset, .unset, .unset, .unset] [] := by first | (simp [entryFrame, mkF, argsToLocals, Value.category, maxLocals]; done) | rfl
theorem pd_0 : parseMethodDescriptor "(DDD)V" = some ⟨[.double, .double, .double], none⟩ := by decide +kernel
theorem pd_1 : parseMethodDescriptor "()V" = some ⟨[], none⟩ := by decide +kernel
theorem pd_2 : parseMethodDescriptor "(Ljava/lang/String;D)V" = some ⟨[(.object "java/lang/String"), .double], none⟩ := by decide +kernel
theorem pd_3 : parseMethodDescriptor "()D" = some ⟨[], some .double⟩ := by decide +kernel
def QV (h0 : Heap) (n0 : Nat) (v : Option Value) (h : Heap) (L : List Loc) : Prop := v = none ∧ Fr n0 L ∧ h = h0
set_option maxRecDepth 65536 in
set_option maxHeartbeats 40000000 in
theorem rm2 (l : Launch) (Z : State) (a0 : Array Value) (hw : ∀ d ∈ tables_1, d.before a0 Z = true) (ws : List Jvm.Cond) (ob : Addr)  (h0 : Heap) (n0 : Nat) (Z0 : n0 ≤ h0.size)   :
    MetFree l (⟨"java/lang/Record", "<init>", "()V"⟩ : MethodName) (head1 (Jvm.Cond.code (⟨"java/lang/Record", "<init>", "()V"⟩ : MethodName) jdk_30_method_1_code 1 none :: ws) ({ frames := 1, cells := 0, slots := 0, locals := 12 } : Room)) (fun aa U => aa = #[(.ref ob)] ∧ Z.Warmed39 U.vm ∧ U.heap = h0) (fun _ _ _ _ _ => True) (fun _ U o U' => ∃ v L, o = .returned v ∧ QV  h0 n0 v U'.heap L ∧ FrameEnd U o U' L ({ frames := 1, cells := 0, slots := 0, locals := 12 } : Room).cells ({ frames := 1, cells := 0, slots := 0, locals := 12 } : Room).slots) := by
  refine MetFree.of_bodySF (plainFor_of_name pn_2) hisR ?_
  intro p e s m args below meth c s₁ Bd hml0 hP hK
  obtain ⟨rfl, hZ, hh⟩ := hP
  have hx := Bd.exec
  have hby := Bd.bytes
  have hml : c.maxLocals = 1 := hml0
  have hown : s.vm.findClass "java/lang/Record" = some m.cls := findClass_of_methodNamed Bd.named
  have hnm := (name_of_methodNamed Bd.named Bd.method).1
  have X0 : Stand p l e ({ frames := 1, cells := 0, slots := 0, locals := 12 } : Room) s m #[(.ref ob)] below meth c s₁ [] 0 0 := Stand.of_body Bd
  have e0 : s₁.heap = h0 := by rw [← hh, Bd.state]; rfl
  have N0 := Fr.nil n0
  have pre0 : ∀ zz, Steps p.tables e below (s₁.setTop (mkF m 0 #[.val (.ref ob)] [])) zz → Steps p.tables e below (s₁.setTop (entryFrame m #[(.ref ob)] 1)) zz := fun zz k => castTop (ef_2 m ob) k
  obtain ⟨T1, X1, e1, st1⟩ := initO X0 hx hZ hown (hw _ (List.mem_of_getElem? (i := 12) rfl)) (hw _ (List.mem_of_getElem? (i := 13) rfl)) (hw _ (List.mem_of_getElem? (i := 14) rfl)) e0 (g := (mkF m 1 #[.val (.ref ob)] [(.ref ob)])) rfl (by rw [hml]; rfl) rfl (hb hby d2_1) (by decide) (W := 0) (by show 2 * 0 + _ ≤ _; exact Nat.le_of_eq rfl) (by decide)
  obtain ⟨fs, hr, hrun, hended, hW, hsame⟩ := X1.leave (v := none) (fun _ => rfl)
  refine ⟨_, _, pre0 _ ?_, hrun, hended, _, _, rfl, ?_, ⟨_, rfl⟩, hW, hsame.mono (by decide) (by decide)⟩
  · show Steps p.tables e below (s₁.setTop (mkF m 0 #[.val (.ref ob)] [])) _
    refine XS.aloadN X0.here hx rfl (hb hby d2_0) rfl rfl ?_
    show Steps p.tables e below (s₁.setTop (mkF m 1 #[.val (.ref ob)] [(.ref ob)])) _
    refine st1 _ ?_
    show Steps p.tables e below (T1.setTop (mkF m 4 #[.val (.ref ob)] [])) _
    exact X1.returnOut hx Bd.returns (hb hby d2_4) hr
  · show QV  h0 n0 _ T1.heap _
    rw [e1]
    exact ⟨rfl, N0, rfl⟩
set_option maxRecDepth 65536 in
set_option maxHeartbeats 40000000 in
theorem rm4 (l : Launch) (Z : State) (a0 : Array Value) (hw : ∀ d ∈ tables_1, d.before a0 Z = true) (ws : List Jvm.Cond) (t : Addr) (d : UInt64)  (h0 : Heap) (n0 : Nat) (Z0 : n0 ≤ h0.size)  (hc3 : (0 : Int32) < (cmpValue (FP.dcmp d FP.dconst0) .l)) (hc11 : (cmpValue (FP.dcmp d (9218868437227405312 : UInt64)) .g) < (0 : Int32)) :
    MetFree l (⟨"com/example/retiremetric/retiremetric/model/InputRanges", "requirePositive", "(Ljava/lang/String;D)V"⟩ : MethodName) (head1 (Jvm.Cond.code (⟨"com/example/retiremetric/retiremetric/model/InputRanges", "requirePositive", "(Ljava/lang/String;D)V"⟩ : MethodName) prog_35_method_2_code 3 none :: ws) ({ frames := 0, cells := 0, slots := 0, locals := 0 } : Room)) (fun aa U => aa = #[(.ref t), (.double d)] ∧ Z.Warmed39 U.vm ∧ U.heap = h0) (fun _ _ _ _ _ => True) (fun _ U o U' => ∃ v L, o = .returned v ∧ QV  h0 n0 v U'.heap L ∧ FrameEnd U o U' L ({ frames := 0, cells := 0, slots := 0, locals := 0 } : Room).cells ({ frames := 0, cells := 0, slots := 0, locals := 0 } : Room).slots) := by
  refine MetFree.of_bodySF (plainFor_of_name pn_4) hisR ?_
  intro p e s m args below meth c s₁ Bd hml0 hP hK
  obtain ⟨rfl, hZ, hh⟩ := hP
  have hx := Bd.exec
  have hby := Bd.bytes
  have hml : c.maxLocals = 3 := hml0
  have hown : s.vm.findClass "com/example/retiremetric/retiremetric/model/InputRanges" = some m.cls := findClass_of_methodNamed Bd.named
  have hnm := (name_of_methodNamed Bd.named Bd.method).1
  have X0 : Stand p l e ({ frames := 0, cells := 0, slots := 0, locals := 0 } : Room) s m #[(.ref t), (.double d)] below meth c s₁ [] 0 0 := Stand.of_body Bd
  have e0 : s₁.heap = h0 := by rw [← hh, Bd.state]; rfl
  have N0 := Fr.nil n0
  have pre0 : ∀ zz, Steps p.tables e below (s₁.setTop (mkF m 0 #[.val (.ref t), .val (.double d), .second] [])) zz → Steps p.tables e below (s₁.setTop (entryFrame m #[(.ref t), (.double d)] 3)) zz := fun zz k => castTop (ef_4 m t d) k
  obtain ⟨fs, hr, hrun, hended, hW, hsame⟩ := X0.leave (v := none) (fun _ => rfl)
  refine ⟨_, _, pre0 _ ?_, hrun, hended, _, _, rfl, ?_, ⟨_, rfl⟩, hW, hsame.mono (by decide) (by decide)⟩
  · show Steps p.tables e below (s₁.setTop (mkF m 0 #[.val (.ref t), .val (.double d), .second] [])) _
    refine XS.dloadN X0.here hx rfl (hb hby d4_0) rfl ?_
    refine XS.dconst0 X0.here hx rfl (hb hby d4_1) rfl ?_
    refine XS.dcmpS X0.here hx rfl (hb hby d4_2) rfl rfl ?_
    refine XS.ifNo X0.here hx rfl (hb hby d4_3) rfl ((if0 _ _).trans (tlt hc3).2.2.2) ?_
    show Steps p.tables e below (s₁.setTop (mkF m 6 #[.val (.ref t), .val (.double d), .second] [])) _
    refine XS.dloadN X0.here hx rfl (hb hby d4_6) rfl ?_
    refine X0.ldc2DoubleC hx hown (mvT hZ (hw _ (List.mem_of_getElem? (i := 27) rfl))) (g := (mkF m 7 #[.val (.ref t), .val (.double d), .second] [(.double d)])) rfl (hb hby d4_7) _ ?_
    refine XS.dcmpS X0.here hx rfl (hb hby d4_10) rfl rfl ?_
    refine XS.ifYes X0.here hx rfl (pc0 := 11) (pc' := 39) rfl (hb hby d4_11) rfl ((if0 _ _).trans (tlt hc11).1) (by decide) (by decide) ?_
    show Steps p.tables e below (s₁.setTop (mkF m 39 #[.val (.ref t), .val (.double d), .second] [])) _
    exact X0.returnOut hx Bd.returns (hb hby d4_39) hr
  · show QV  h0 n0 _ s₁.heap _
    rw [e0]
    exact ⟨rfl, N0, rfl⟩
def Q1 (Z : State) (o : Addr) (phi : UInt64) (h0 : Heap) (n0 : Nat) (v : Option Value) (h : Heap) (L : List Loc) : Prop := v = none ∧ Fr n0 L ∧ Keep h0 h [o] ∧ Exa Z h o "com/example/retiremetric/retiremetric/model/preferences/Preferences" ∧ Fld Z h o "com/example/retiremetric/retiremetric/model/preferences/Preferences" "phi" "D" (.double phi)
set_option maxRecDepth 65536 in
set_option maxHeartbeats 40000000 in
theorem rm1 (l : Launch) (Z : State) (a0 : Array Value) (hw : ∀ d ∈ tables_1, d.before a0 Z = true) (ws : List Jvm.Cond) (ob : Addr) (rho : UInt64) (phi : UInt64) (bet : UInt64)  (h0 : Heap) (n0 : Nat) (Z0 : n0 ≤ h0.size) (g_ob : n0 ≤ ob) (E_o : Exa Z h0 ob "com/example/retiremetric/retiremetric/model/preferences/Preferences") (F_rho_o : Fld Z h0 ob "com/example/retiremetric/retiremetric/model/preferences/Preferences" "rho" "D" (.double 0)) (F_phi_o : Fld Z h0 ob "com/example/retiremetric/retiremetric/model/preferences/Preferences" "phi" "D" (.double 0)) (F_beta_o : Fld Z h0 ob "com/example/retiremetric/retiremetric/model/preferences/Preferences" "beta" "D" (.double 0)) (rhc3 : (0 : Int32) < (cmpValue (FP.dcmp rho FP.dconst0) .l)) (rhc11 : (cmpValue (FP.dcmp rho (9218868437227405312 : UInt64)) .g) < (0 : Int32)) (hc13 : ¬ ((cmpValue (FP.dcmp phi FP.dconst0) .l) < (0 : Int32))) (hc19 : (cmpValue (FP.dcmp phi FP.dconst1) .g) < (0 : Int32)) (rhc3_1 : (0 : Int32) < (cmpValue (FP.dcmp bet FP.dconst0) .l)) (rhc11_1 : (cmpValue (FP.dcmp bet (9218868437227405312 : UInt64)) .g) < (0 : Int32)) :
    MetFree l (⟨"com/example/retiremetric/retiremetric/model/preferences/Preferences", "<init>", "(DDD)V"⟩ : MethodName) (head1 (Jvm.Cond.code (⟨"com/example/retiremetric/retiremetric/model/preferences/Preferences", "<init>", "(DDD)V"⟩ : MethodName) prog_44_method_1_code 7 none :: ws) ({ frames := 2, cells := 4, slots := 36, locals := 24 } : Room)) (fun aa U => aa = #[(.ref ob), (.double rho), (.double phi), (.double bet)] ∧ Z.Warmed39 U.vm ∧ U.heap = h0) (fun _ _ _ _ _ => True) (fun _ U o U' => ∃ v L, o = .returned v ∧ Q1 Z ob phi h0 n0 v U'.heap L ∧ ReturnedEndW U o U' L ({ frames := 2, cells := 4, slots := 36, locals := 24 } : Room).cells ({ frames := 2, cells := 4, slots := 36, locals := 24 } : Room).slots) := by
  refine MetFree.of_bodySF (plainFor_of_name pn_1) hisR ?_
  intro p e s m args below meth c s₁ Bd hml0 hP hK
  obtain ⟨rfl, hZ, hh⟩ := hP
  have hx := Bd.exec
  have hby := Bd.bytes
  have hml : c.maxLocals = 7 := hml0
  have hown : s.vm.findClass "com/example/retiremetric/retiremetric/model/preferences/Preferences" = some m.cls := findClass_of_methodNamed Bd.named
  have hnm := (name_of_methodNamed Bd.named Bd.method).1
  have X0 : Stand p l e ({ frames := 2, cells := 4, slots := 36, locals := 24 } : Room) s m #[(.ref ob), (.double rho), (.double phi), (.double bet)] below meth c s₁ [] 0 0 := Stand.of_body Bd
  have e0 : s₁.heap = h0 := by rw [← hh, Bd.state]; rfl
  have N0 := Fr.nil n0
  have pre0 : ∀ zz, Steps p.tables e below (s₁.setTop (mkF m 0 #[.val (.ref ob), .val (.double rho), .second, .val (.double phi), .second, .val (.double bet), .second] [])) zz → Steps p.tables e below (s₁.setTop (entryFrame m #[(.ref ob), (.double rho), (.double phi), (.double bet)] 7)) zz := fun zz k => castTop (ef_1 m ob rho phi bet) k
  have hwS : ∀ a ∈ Bundle.stringAtoms, a.before a0 Z = true := fun d hd => hw d (by simpa using (List.all_eq_true.mp (by decide +kernel : (Bundle.stringAtoms.all fun c => tables_1.contains c) = true)) d hd)
  obtain ⟨_, _, ⟨T2, L2, k2, n2⟩, -, X2, ⟨Lc2, hQ2, l2, y2, z2⟩, st2⟩ := X0.specialBack hx (y := (⟨"java/lang/Record", "<init>", "()V"⟩ : MethodName)) rfl hown (mvT hZ (hw _ (List.mem_of_getElem? (i := 7) rfl))) (mvT hZ (hw _ (List.mem_of_getElem? (i := 8) rfl))) (mvT hZ (hw _ (List.mem_of_getElem? (i := 11) rfl))) (by decide) (backOf (W := 0) (rm2 l Z a0 hw [] ob h0 n0 Z0 ) hZ (hw _ (List.mem_of_getElem? (i := 11) rfl)) (hw _ (List.mem_of_getElem? (i := 10) rfl)) (by decide) (by decide)) (g := (mkF m 1 #[.val (.ref ob), .val (.double rho), .second, .val (.double phi), .second, .val (.double bet), .second] [(.ref ob)])) rfl (by rw [hml]; rfl) (Steps.refl _) (a := ob) (argsL := []) (rest := []) (lenOf pd_1 rfl) rfl (by show 2 * 0 + _ ≤ _; exact Nat.le_of_eq rfl) (hb hby d1_1) (fun _ _ => ⟨rfl, e0, (by decide : 0 + 0 ≤ _), (by decide : 0 + 0 ≤ _)⟩)
  dsimp only [Pt.U, Pt.locs, Pt.cells, Pt.slots] at X2 l2 y2 z2 st2 hQ2
  subst l2 y2 z2
  obtain ⟨rfl, N2q, e2⟩ := hQ2
  have N2 := Fr.app N0 N2q
  obtain ⟨a3, T3, h3, k3, X3, e3, E3, hS3, hk3, hZ3, hown3, st3⟩ := ldcS (s := s) (vm0 := s.vm) X2 hx hZ hown (hw _ (List.mem_of_getElem? (i := 15) rfl)) hwS e2 ((State.WarmedH.refl s).since 0) (Nat.zero_le _) (g := (mkF m 4 #[.val (.ref ob), .val (.double rho), .second, .val (.double phi), .second, .val (.double bet), .second] [])) rfl (hb hby d1_4) (n := 12) (by decide) (by decide) (by decide) (by decide)
  have F_rho_o_e3 := F_rho_o.ext E3
  have F_phi_o_e3 := F_phi_o.ext E3
  have F_beta_o_e3 := F_beta_o.ext E3
  have E_o_e3 := E_o.ext E3
  have K3 := (Keep.refl h0 [ob]).ext E3
  have Z3 : n0 ≤ h3.size := Nat.le_trans Z0 E3.1
  obtain ⟨_, _, ⟨T4, L4, k4, n4⟩, -, X4, ⟨Lc4, hQ4, l4, y4, z4⟩, st4⟩ := Jvm.LawKit.callS X3 hx (y := (⟨"com/example/retiremetric/retiremetric/model/InputRanges", "requirePositive", "(Ljava/lang/String;D)V"⟩ : MethodName)) hown3 (mvT hZ3 (hw _ (List.mem_of_getElem? (i := 23) rfl))) (mvT hZ3 (hw _ (List.mem_of_getElem? (i := 24) rfl))) (mvT hZ3 (hw _ (List.mem_of_getElem? (i := 25) rfl))) (mvT hZ3 (hw _ (List.mem_of_getElem? (i := 26) rfl))) (by decide) (backOf (W := 0) (rm4 l Z a0 hw [] a3 rho h3 n0 Z3 rhc3 rhc11) hZ3 (hw _ (List.mem_of_getElem? (i := 26) rfl)) (hw _ (List.mem_of_getElem? (i := 25) rfl)) (by decide) (by decide)) (g := (mkF m 7 #[.val (.ref ob), .val (.double rho), .second, .val (.double phi), .second, .val (.double bet), .second] [(.double rho), (.ref a3)])) rfl (by rw [hml]; rfl) (argsL := [(.ref a3), (.double rho)]) (rest := []) (lenOf pd_2 rfl) rfl (by show 2 * 0 + _ ≤ _; exact Nat.le_of_eq rfl) (hb hby d1_7) (fun _ _ => ⟨rfl, e3, (by decide : 2 + 0 ≤ _), (by decide : 16 + 0 ≤ _)⟩)
  dsimp only [Pt.U, Pt.locs, Pt.cells, Pt.slots] at X4 l4 y4 z4 st4 hQ4
  subst l4 y4 z4
  obtain ⟨rfl, N4q, e4⟩ := hQ4
  have N4 := Fr.app N2 N4q
  obtain ⟨a5, T5, h5, k5, X5, e5, E5, hS5, hk5, hZ5, hown5, st5⟩ := ldcS (s := s) (vm0 := T3.vm) X4 hx hZ3 hown3 (hw _ (List.mem_of_getElem? (i := 28) rfl)) hwS e4 hS3 hk3 (g := (mkF m 48 #[.val (.ref ob), .val (.double rho), .second, .val (.double phi), .second, .val (.double bet), .second] [])) rfl (hb hby d1_48) (n := 16) (by decide) (by decide) (by decide) (by decide)
  have F_rho_o_e5 := F_rho_o_e3.ext E5
  have F_phi_o_e5 := F_phi_o_e3.ext E5
  have F_beta_o_e5 := F_beta_o_e3.ext E5
  have E_o_e5 := E_o_e3.ext E5
  have K5 := K3.ext E5
  have Z5 : n0 ≤ h5.size := Nat.le_trans Z3 E5.1
  obtain ⟨_, _, ⟨T6, L6, k6, n6⟩, -, X6, ⟨Lc6, hQ6, l6, y6, z6⟩, st6⟩ := Jvm.LawKit.callS X5 hx (y := (⟨"com/example/retiremetric/retiremetric/model/InputRanges", "requirePositive", "(Ljava/lang/String;D)V"⟩ : MethodName)) hown5 (mvT hZ5 (hw _ (List.mem_of_getElem? (i := 23) rfl))) (mvT hZ5 (hw _ (List.mem_of_getElem? (i := 24) rfl))) (mvT hZ5 (hw _ (List.mem_of_getElem? (i := 25) rfl))) (mvT hZ5 (hw _ (List.mem_of_getElem? (i := 26) rfl))) (by decide) (backOf (W := 0) (rm4 l Z a0 hw [] a5 bet h5 n0 Z5 rhc3_1 rhc11_1) hZ5 (hw _ (List.mem_of_getElem? (i := 26) rfl)) (hw _ (List.mem_of_getElem? (i := 25) rfl)) (by decide) (by decide)) (g := (mkF m 52 #[.val (.ref ob), .val (.double rho), .second, .val (.double phi), .second, .val (.double bet), .second] [(.double bet), (.ref a5)])) rfl (by rw [hml]; rfl) (argsL := [(.ref a5), (.double bet)]) (rest := []) (lenOf pd_2 rfl) rfl (by show 2 * 0 + _ ≤ _; exact Nat.le_of_eq rfl) (hb hby d1_52) (fun _ _ => ⟨rfl, e5, (by decide : 4 + 0 ≤ _), (by decide : 36 + 0 ≤ _)⟩)
  dsimp only [Pt.U, Pt.locs, Pt.cells, Pt.slots] at X6 l6 y6 z6 st6 hQ6
  subst l6 y6 z6
  obtain ⟨rfl, N6q, e6⟩ := hQ6
  have N6 := Fr.app N4 N6q
  obtain ⟨T7, h7, X7, e7, W7, st7⟩ := putF X6 hx hZ5 hown5 (host := "") (Or.inl (hw _ (List.mem_of_getElem? (i := 29) rfl))) Via.refl e6 F_rho_o_e5 E_o_e5 (Or.inr ⟨(hw _ (List.mem_of_getElem? (i := 30) rfl)), rfl, hnm⟩) (hw _ (List.mem_of_getElem? (i := 2) rfl)) (ty := .double) (by decide) rfl rfl (g := (mkF m 57 #[.val (.ref ob), .val (.double rho), .second, .val (.double phi), .second, .val (.double bet), .second] [(.double rho), (.ref ob)])) rfl rfl (hb hby d1_57)
  have Fw7 := F_rho_o_e5.same W7
  have F_phi_o_e7 := F_phi_o_e5.other W7 (Or.inr (slot_ne (Or.inr (hw _ (List.mem_of_getElem? (i := 32) rfl))) (Or.inr (hw _ (List.mem_of_getElem? (i := 30) rfl))) (by decide) (t := .double) (t' := .double) (by decide) (by decide)))
  have F_beta_o_e7 := F_beta_o_e5.other W7 (Or.inr (slot_ne (Or.inr (hw _ (List.mem_of_getElem? (i := 34) rfl))) (Or.inr (hw _ (List.mem_of_getElem? (i := 30) rfl))) (by decide) (t := .double) (t' := .double) (by decide) (by decide)))
  have E_o_e7 := E_o_e5.wr W7
  have N7 := Fr.snoc X7 N6 g_ob
  have K7 := K5.wr W7 (Or.inl (List.mem_of_getElem? (i := 0) rfl))
  have Z7 : n0 ≤ h7.size := Nat.le_trans Z5 (Keep.of_wr W7).1
  have hk7 := Nat.le_trans hk5 (Keep.of_wr W7).1
  obtain ⟨T8, h8, X8, e8, W8, st8⟩ := putF X7 hx hZ5 hown5 (host := "") (Or.inl (hw _ (List.mem_of_getElem? (i := 31) rfl))) Via.refl e7 F_phi_o_e7 E_o_e7 (Or.inr ⟨(hw _ (List.mem_of_getElem? (i := 32) rfl)), rfl, hnm⟩) (hw _ (List.mem_of_getElem? (i := 2) rfl)) (ty := .double) (by decide) rfl rfl (g := (mkF m 62 #[.val (.ref ob), .val (.double rho), .second, .val (.double phi), .second, .val (.double bet), .second] [(.double phi), (.ref ob)])) rfl rfl (hb hby d1_62)
  have Fw8 := F_phi_o_e7.same W8
  have Fw7_e8 := Fw7.other W8 (Or.inr (slot_ne (Or.inr (hw _ (List.mem_of_getElem? (i := 30) rfl))) (Or.inr (hw _ (List.mem_of_getElem? (i := 32) rfl))) (by decide) (t := .double) (t' := .double) (by decide) (by decide)))
  have F_beta_o_e8 := F_beta_o_e7.other W8 (Or.inr (slot_ne (Or.inr (hw _ (List.mem_of_getElem? (i := 34) rfl))) (Or.inr (hw _ (List.mem_of_getElem? (i := 32) rfl))) (by decide) (t := .double) (t' := .double) (by decide) (by decide)))
  have E_o_e8 := E_o_e7.wr W8
  have N8 := Fr.snoc X8 N7 g_ob
  have K8 := K7.wr W8 (Or.inl (List.mem_of_getElem? (i := 0) rfl))
  have Z8 : n0 ≤ h8.size := Nat.le_trans Z7 (Keep.of_wr W8).1
  have hk8 := Nat.le_trans hk7 (Keep.of_wr W8).1
  obtain ⟨T9, h9, X9, e9, W9, st9⟩ := putF X8 hx hZ5 hown5 (host := "") (Or.inl (hw _ (List.mem_of_getElem? (i := 33) rfl))) Via.refl e8 F_beta_o_e8 E_o_e8 (Or.inr ⟨(hw _ (List.mem_of_getElem? (i := 34) rfl)), rfl, hnm⟩) (hw _ (List.mem_of_getElem? (i := 2) rfl)) (ty := .double) (by decide) rfl rfl (g := (mkF m 68 #[.val (.ref ob), .val (.double rho), .second, .val (.double phi), .second, .val (.double bet), .second] [(.double bet), (.ref ob)])) rfl rfl (hb hby d1_68)
  have Fw9 := F_beta_o_e8.same W9
  have Fw7_e9 := Fw7_e8.other W9 (Or.inr (slot_ne (Or.inr (hw _ (List.mem_of_getElem? (i := 30) rfl))) (Or.inr (hw _ (List.mem_of_getElem? (i := 34) rfl))) (by decide) (t := .double) (t' := .double) (by decide) (by decide)))
  have Fw8_e9 := Fw8.other W9 (Or.inr (slot_ne (Or.inr (hw _ (List.mem_of_getElem? (i := 32) rfl))) (Or.inr (hw _ (List.mem_of_getElem? (i := 34) rfl))) (by decide) (t := .double) (t' := .double) (by decide) (by decide)))
  have E_o_e9 := E_o_e8.wr W9
  have N9 := Fr.snoc X9 N8 g_ob
  have K9 := K8.wr W9 (Or.inl (List.mem_of_getElem? (i := 0) rfl))
  have Z9 : n0 ≤ h9.size := Nat.le_trans Z8 (Keep.of_wr W9).1
  have hk9 := Nat.le_trans hk8 (Keep.of_wr W9).1
  obtain ⟨fs, hr, hrun, hended, -, hWW, hBB, hSS⟩ := X9.leaveW hS5 (by rw [e9]; exact hk9) (v := none) (fun _ => rfl)
  refine ⟨_, _, pre0 _ ?_, hrun, hended, _, _, rfl, ?_, ⟨_, rfl⟩, hWW, hBB, hSS.mono (by decide) (by decide)⟩
  · show Steps p.tables e below (s₁.setTop (mkF m 0 #[.val (.ref ob), .val (.double rho), .second, .val (.double phi), .second, .val (.double bet), .second] [])) _
    refine XS.aloadN X0.here hx rfl (hb hby d1_0) rfl rfl ?_
    show Steps p.tables e below (s₁.setTop (mkF m 1 #[.val (.ref ob), .val (.double rho), .second, .val (.double phi), .second, .val (.double bet), .second] [(.ref ob)])) _
    refine st2.trans ?_
    show Steps p.tables e below (T2.setTop (mkF m 4 #[.val (.ref ob), .val (.double rho), .second, .val (.double phi), .second, .val (.double bet), .second] [])) _
    refine st3 _ ?_
    refine XS.dloadN X3.here hx rfl (hb hby d1_6) rfl ?_
    show Steps p.tables e below (T3.setTop (mkF m 7 #[.val (.ref ob), .val (.double rho), .second, .val (.double phi), .second, .val (.double bet), .second] [(.double rho), (.ref a3)])) _
    refine st4 _ ?_
    refine XS.dloadN X4.here hx rfl (hb hby d1_10) rfl ?_
    refine XS.dconst0 X4.here hx rfl (hb hby d1_11) rfl ?_
    refine XS.dcmpS X4.here hx rfl (hb hby d1_12) rfl rfl ?_
    show Steps p.tables e below (T4.setTop (mkF m 13 #[.val (.ref ob), .val (.double rho), .second, .val (.double phi), .second, .val (.double bet), .second] [(.int (cmpValue (FP.dcmp phi FP.dconst0) .l))])) _
    refine XS.ifNo X4.here hx rfl (hb hby d1_13) rfl ((if0 _ _).trans (flt hc13).1) ?_
    refine XS.dloadN X4.here hx rfl (hb hby d1_16) rfl ?_
    refine XS.dconst1 X4.here hx rfl (hb hby d1_17) rfl ?_
    refine XS.dcmpS X4.here hx rfl (hb hby d1_18) rfl rfl ?_
    show Steps p.tables e below (T4.setTop (mkF m 19 #[.val (.ref ob), .val (.double rho), .second, .val (.double phi), .second, .val (.double bet), .second] [(.int (cmpValue (FP.dcmp phi FP.dconst1) .g))])) _
    refine XS.ifYes X4.here hx rfl (pc0 := 19) (pc' := 48) rfl (hb hby d1_19) rfl ((if0 _ _).trans (tlt hc19).1) (by decide) (by decide) ?_
    show Steps p.tables e below (T4.setTop (mkF m 48 #[.val (.ref ob), .val (.double rho), .second, .val (.double phi), .second, .val (.double bet), .second] [])) _
    refine st5 _ ?_
    refine XS.dload X5.here hx rfl (hb hby d1_50) rfl ?_
    show Steps p.tables e below (T5.setTop (mkF m 52 #[.val (.ref ob), .val (.double rho), .second, .val (.double phi), .second, .val (.double bet), .second] [(.double bet), (.ref a5)])) _
    refine st6 _ ?_
    refine XS.aloadN X6.here hx rfl (hb hby d1_55) rfl rfl ?_
    refine XS.dloadN X6.here hx rfl (hb hby d1_56) rfl ?_
    show Steps p.tables e below (T6.setTop (mkF m 57 #[.val (.ref ob), .val (.double rho), .second, .val (.double phi), .second, .val (.double bet), .second] [(.double rho), (.ref ob)])) _
    refine st7 _ ?_
    refine XS.aloadN X7.here hx rfl (hb hby d1_60) rfl rfl ?_
    refine XS.dloadN X7.here hx rfl (hb hby d1_61) rfl ?_
    show Steps p.tables e below (T7.setTop (mkF m 62 #[.val (.ref ob), .val (.double rho), .second, .val (.double phi), .second, .val (.double bet), .second] [(.double phi), (.ref ob)])) _
    refine st8 _ ?_
    refine XS.aloadN X8.here hx rfl (hb hby d1_65) rfl rfl ?_
    refine XS.dload X8.here hx rfl (hb hby d1_66) rfl ?_
    show Steps p.tables e below (T8.setTop (mkF m 68 #[.val (.ref ob), .val (.double rho), .second, .val (.double phi), .second, .val (.double bet), .second] [(.double bet), (.ref ob)])) _
    refine st9 _ ?_
    show Steps p.tables e below (T9.setTop (mkF m 71 #[.val (.ref ob), .val (.double rho), .second, .val (.double phi), .second, .val (.double bet), .second] [])) _
    exact X9.returnOut hx Bd.returns (hb hby d1_71) hr
  · show Q1 Z ob phi h0 n0 _ T9.heap _
    rw [e9]
    exact ⟨rfl, N9, K9, E_o_e9, Fw8_e9⟩
def weiF (phi : UInt64) : UInt64 := FP.ddiv phi (FP.dsub FP.dconst1 phi)
def Q5 (phi : UInt64) (h0 : Heap) (n0 : Nat) (v : Option Value) (h : Heap) (L : List Loc) : Prop := v = some (.double (weiF phi)) ∧ Fr n0 L ∧ h = h0
set_option maxRecDepth 65536 in
set_option maxHeartbeats 40000000 in
theorem rm5 (l : Launch) (Z : State) (a0 : Array Value) (hw : ∀ d ∈ tables_1, d.before a0 Z = true) (ws : List Jvm.Cond) (ob : Addr) (phi : UInt64) (h0 : Heap) (n0 : Nat) (Z0 : n0 ≤ h0.size) (F_phi_o : Fld Z h0 ob "com/example/retiremetric/retiremetric/model/preferences/Preferences" "phi" "D" (.double phi)) (hnan9 : Jvm.Free.Fl.NoNaN64 (FP.dsub FP.dconst1 phi)) (hnan10 : Jvm.Free.Fl.NoNaN64 (FP.ddiv phi (FP.dsub FP.dconst1 phi))) :
    MetFree l (⟨"com/example/retiremetric/retiremetric/model/preferences/Preferences", "residualBenefitWeight", "()D"⟩ : MethodName) (head1 (Jvm.Cond.code (⟨"com/example/retiremetric/retiremetric/model/preferences/Preferences", "residualBenefitWeight", "()D"⟩ : MethodName) prog_44_method_3_code 1 (some .double) :: ws) ({ frames := 0, cells := 0, slots := 0, locals := 0 } : Room)) (fun aa U => aa = #[(.ref ob)] ∧ Z.Warmed39 U.vm ∧ U.heap = h0) (fun _ _ _ _ _ => True) (fun _ U o U' => ∃ v L, o = .returned v ∧ Q5 phi h0 n0 v U'.heap L ∧ FrameEnd U o U' L ({ frames := 0, cells := 0, slots := 0, locals := 0 } : Room).cells ({ frames := 0, cells := 0, slots := 0, locals := 0 } : Room).slots) := by
  refine MetFree.of_bodySF (plainFor_of_name pn_5) hisR ?_
  intro p e s m args below meth c s₁ Bd hml0 hP hK
  obtain ⟨rfl, hZ, hh⟩ := hP
  have hx := Bd.exec
  have hby := Bd.bytes
  have hml : c.maxLocals = 1 := hml0
  have hown : s.vm.findClass "com/example/retiremetric/retiremetric/model/preferences/Preferences" = some m.cls := findClass_of_methodNamed Bd.named
  have hnm := (name_of_methodNamed Bd.named Bd.method).1
  have X0 : Stand p l e ({ frames := 0, cells := 0, slots := 0, locals := 0 } : Room) s m #[(.ref ob)] below meth c s₁ [] 0 0 := Stand.of_body Bd
  have e0 : s₁.heap = h0 := by rw [← hh, Bd.state]; rfl
  have N0 := Fr.nil n0
  have pre0 : ∀ zz, Steps p.tables e below (s₁.setTop (mkF m 0 #[.val (.ref ob)] [])) zz → Steps p.tables e below (s₁.setTop (entryFrame m #[(.ref ob)] 1)) zz := fun zz k => castTop (ef_5 m ob) k
  obtain ⟨T10, X10, e10, st10⟩ := getF X0 hx hZ hown (host := "") (Or.inl (hw _ (List.mem_of_getElem? (i := 31) rfl))) Via.refl e0 F_phi_o (g := (mkF m 1 #[.val (.ref ob)] [(.ref ob)])) rfl rfl (hb hby d5_1)
  obtain ⟨T11, X11, e11, st11⟩ := getF X10 hx hZ hown (host := "") (Or.inl (hw _ (List.mem_of_getElem? (i := 31) rfl))) Via.refl e10 F_phi_o (g := (mkF m 6 #[.val (.ref ob)] [(.ref ob), (.double FP.dconst1), (.double phi)])) rfl rfl (hb hby d5_6)
  obtain ⟨fs, hr, hrun, hended, hW, hsame⟩ := X11.leave (v := some (.double (FP.ddiv phi (FP.dsub FP.dconst1 phi)))) (fun h => by rw [Bd.returns] at h; cases h)
  refine ⟨_, _, pre0 _ ?_, hrun, hended, _, _, rfl, ?_, ⟨_, rfl⟩, hW, hsame.mono (by decide) (by decide)⟩
  · show Steps p.tables e below (s₁.setTop (mkF m 0 #[.val (.ref ob)] [])) _
    refine XS.aloadN X0.here hx rfl (hb hby d5_0) rfl rfl ?_
    show Steps p.tables e below (s₁.setTop (mkF m 1 #[.val (.ref ob)] [(.ref ob)])) _
    refine st10 _ ?_
    refine XS.dconst1 X10.here hx rfl (hb hby d5_4) rfl ?_
    refine XS.aloadN X10.here hx rfl (hb hby d5_5) rfl rfl ?_
    show Steps p.tables e below (T10.setTop (mkF m 6 #[.val (.ref ob)] [(.ref ob), (.double FP.dconst1), (.double phi)])) _
    refine st11 _ ?_
    refine XS.dsubS X11.here hx rfl (hb hby d5_9) rfl hnan9 rfl ?_
    refine XS.ddivS X11.here hx rfl (hb hby d5_10) rfl hnan10 rfl ?_
    show Steps p.tables e below (T11.setTop (mkF m 11 #[.val (.ref ob)] [(.double (FP.ddiv phi (FP.dsub FP.dconst1 phi)))])) _
    jvm_step X11.here [X11.here.top, hx, (hb hby d5_11), X11.method', Bd.returns, narrow]
    first | (intro acts; rw [hr _ acts rfl rfl rfl]) | rw [hr _ _ rfl rfl rfl]
    exact Steps.refl _
  · show Q5 phi h0 n0 _ T11.heap _
    rw [e11]
    exact ⟨rfl, N0, rfl⟩
def Q0 (h0 : Heap) (n0 : Nat) (v : Option Value) (h : Heap) (L : List Loc) : Prop := v = some (.int 1) ∧ Fr n0 L
def kF (kr : Int32) : Int32 := (kr &&& (63 : Int32)) % (53 : Int32)
def scF (kr : Int32) : Int64 := (1 : Int64) <<< ((kF kr) &&& 0x3f).toInt64
def aF (kr : Int32) (ar : Int64) : Int64 := (ar &&& (9223372036854775807 : Int64)) % scF kr
def phF (kr : Int32) (ar : Int64) : UInt64 := FP.ddiv (FP.l2d (aF kr ar)) (FP.l2d (scF kr))
def rhF (r : Int32) : UInt64 := FP.i2d ((1 : Int32) + (r &&& (15 : Int32)))
set_option maxRecDepth 65536 in
set_option maxHeartbeats 40000000 in
theorem rm0_a (l : Launch) (Z : State) (a0 : Array Value) (hw : ∀ d ∈ tables_1, d.before a0 Z = true) (ws : List Jvm.Cond) (kr : Int32) (ar : Int64) (rr : Int32) (br : Int32)  (h0 : Heap) (n0 : Nat) (Z0 : n0 ≤ h0.size)  (hnz22 : ¬ ((scF kr) = (0 : Int64))) (hnan31 : Jvm.Free.Fl.NoNaN64 (FP.ddiv (FP.l2d (aF kr ar)) (FP.l2d (scF kr)))) (frhc3 : (0 : Int32) < (cmpValue (FP.dcmp (rhF rr) FP.dconst0) .l)) (frhc11 : (cmpValue (FP.dcmp (rhF rr) (9218868437227405312 : UInt64)) .g) < (0 : Int32)) (fhc13 : ¬ ((cmpValue (FP.dcmp (phF kr ar) FP.dconst0) .l) < (0 : Int32))) (fhc19 : (cmpValue (FP.dcmp (phF kr ar) FP.dconst1) .g) < (0 : Int32)) (frhc3_1 : (0 : Int32) < (cmpValue (FP.dcmp (rhF br) FP.dconst0) .l)) (frhc11_1 : (cmpValue (FP.dcmp (rhF br) (9218868437227405312 : UInt64)) .g) < (0 : Int32)) (hnan77 : Jvm.Free.Fl.NoNaN64 (FP.ddiv (FP.l2d (aF kr ar)) (FP.l2d ((scF kr) - (aF kr ar))))) (vhnan9 : Jvm.Free.Fl.NoNaN64 (FP.dsub FP.dconst1 (phF kr ar))) (vhnan10 : Jvm.Free.Fl.NoNaN64 (FP.ddiv (phF kr ar) (FP.dsub FP.dconst1 (phF kr ar)))) (hc88 : (cmpValue (FP.dcmp (weiF (phF kr ar)) (FP.ddiv (FP.l2d (aF kr ar)) (FP.l2d ((scF kr) - (aF kr ar))))) .l) = (0 : Int32)) :
    MetFree l x (head1 (Jvm.Cond.code x code maxLocals ret :: ws) room_1) (fun aa U => aa = #[(.int kr), (.long ar), (.int rr), (.int br)] ∧ Z.Warmed39 U.vm ∧ U.heap = h0) (fun _ _ _ _ _ => True) (fun _ U o U' => ∃ v L, o = .returned v ∧ Q0  h0 n0 v U'.heap L ∧ ReturnedEndW U o U' L room_1.cells room_1.slots) := by
  refine MetFree.of_bodySF (plainFor_of_name pn_0) hisR ?_
  intro p e s m args below meth c s₁ Bd hml0 hP hK
  obtain ⟨rfl, hZ, hh⟩ := hP
  have hx := Bd.exec
  have hby := Bd.bytes
  have hml : c.maxLocals = 19 := hml0
  have hown : s.vm.findClass "com/example/retiremetric/retiremetric/model/preferences/PreferencesResidualBenefitWeightPinLaw" = some m.cls := findClass_of_methodNamed Bd.named
  have hnm := (name_of_methodNamed Bd.named Bd.method).1
  have X0 : Stand p l e room_1 s m #[(.int kr), (.long ar), (.int rr), (.int br)] below meth c s₁ [] 0 0 := Stand.of_body Bd
  have e0 : s₁.heap = h0 := by rw [← hh, Bd.state]; rfl
  have N0 := Fr.nil n0
  have pre0 : ∀ zz, Steps p.tables e below (s₁.setTop (mkF m 0 #[.val (.int kr), .val (.long ar), .second, .val (.int rr), .val (.int br), .unset, .unset, .unset, .unset, .unset, .unset, .unset, .unset, .unset, .unset, .unset, .unset, .unset, .unset] [])) zz → Steps p.tables e below (s₁.setTop (entryFrame m #[(.int kr), (.long ar), (.int rr), (.int br)] maxLocals)) zz := fun zz k => castTop (ef_0 m kr ar rr br) k
  obtain ⟨T12, h12, X12, e12, E12, A12, D12, -, st12⟩ := newO X0 hx hZ hown (hw _ (List.mem_of_getElem? (i := 1) rfl)) (hw _ (List.mem_of_getElem? (i := 2) rfl)) (hw _ (List.mem_of_getElem? (i := 3) rfl)) e0 (g := (mkF m 53 #[.val (.int kr), .val (.long ar), .second, .val (.int rr), .val (.int br), .val (.int (kF kr)), .val (.long (scF kr)), .second, .val (.long (aF kr ar)), .second, .val (.double (phF kr ar)), .second, .val (.double (rhF rr)), .second, .val (.double (rhF br)), .second, .unset, .unset, .unset] [])) rfl (hb hby at_53) (by decide) (by decide)
  obtain ⟨b12, g12⟩ : ∃ z, z = h0.size := ⟨_, rfl⟩
  rw [← g12] at A12 D12 st12
  have E_b12 := A12
  have g_b12 : n0 ≤ b12 := Nat.le_trans Z0 (Nat.le_of_eq g12.symm)
  have sz_b12 : h0.size ≤ b12 := Nat.le_trans (Keep.refl h0 []).1 (Nat.le_of_eq g12.symm)
  have K12 := (Keep.refl h0 []).ext E12
  have Z12 : n0 ≤ h12.size := Nat.le_trans Z0 E12.1
  have F_rho_b12 : Fld Z h12 b12 "com/example/retiremetric/retiremetric/model/preferences/Preferences" "rho" "D" (.double 0) := D12 (Or.inr (hw _ (List.mem_of_getElem? (i := 30) rfl))) (ty := .double) (by decide)
  have F_phi_b12 : Fld Z h12 b12 "com/example/retiremetric/retiremetric/model/preferences/Preferences" "phi" "D" (.double 0) := D12 (Or.inr (hw _ (List.mem_of_getElem? (i := 32) rfl))) (ty := .double) (by decide)
  have F_beta_b12 : Fld Z h12 b12 "com/example/retiremetric/retiremetric/model/preferences/Preferences" "beta" "D" (.double 0) := D12 (Or.inr (hw _ (List.mem_of_getElem? (i := 34) rfl))) (ty := .double) (by decide)
  obtain ⟨_, _, ⟨T13, L13, k13, n13⟩, -, X13, hS213, hg13, ⟨Lc13, hQ13, l13, y13, z13⟩, st13⟩ := X12.specialBackS hx (y := (⟨"com/example/retiremetric/retiremetric/model/preferences/Preferences", "<init>", "(DDD)V"⟩ : MethodName)) rfl hown (mvT hZ (hw _ (List.mem_of_getElem? (i := 4) rfl))) (mvT hZ (hw _ (List.mem_of_getElem? (i := 5) rfl))) (mvT hZ (hw _ (List.mem_of_getElem? (i := 6) rfl))) (by decide) (backOfS (W := 1) (rm1 l Z a0 hw [] b12 (rhF rr) (phF kr ar) (rhF br) h12 n0 Z12 g_b12 E_b12 F_rho_b12 F_phi_b12 F_beta_b12 frhc3 frhc11 fhc13 fhc19 frhc3_1 frhc11_1) hZ (hw _ (List.mem_of_getElem? (i := 6) rfl)) (hw _ (List.mem_of_getElem? (i := 3) rfl)) (by decide) (by decide)) (g := (mkF m 63 #[.val (.int kr), .val (.long ar), .second, .val (.int rr), .val (.int br), .val (.int (kF kr)), .val (.long (scF kr)), .second, .val (.long (aF kr ar)), .second, .val (.double (phF kr ar)), .second, .val (.double (rhF rr)), .second, .val (.double (rhF br)), .second, .unset, .unset, .unset] [(.double (rhF br)), (.double (phF kr ar)), (.double (rhF rr)), (.ref b12), (.ref b12)])) rfl (by rw [hml]; rfl) (Steps.refl _) (a := b12) (argsL := [(.double (rhF rr)), (.double (phF kr ar)), (.double (rhF br))]) (rest := [(.ref b12)]) (lenOf pd_0 rfl) rfl (by show 2 * 0 + _ ≤ _; exact Nat.le_of_eq rfl) (hb hby at_63) (fun _ _ => ⟨rfl, e12, (by decide : 1 + 4 ≤ _), (by decide : 3 + 36 ≤ _)⟩)
  dsimp only [Pt.U, Pt.locs, Pt.cells, Pt.slots] at X13 l13 y13 z13 st13 hQ13 hS213 hg13
  subst l13 y13 z13
  obtain ⟨rfl, N13q, K13q, E13q, F13q⟩ := hQ13
  have N13 := Fr.app N0 N13q
  have hS13 := foldS ((State.WarmedH.refl s).since 0) (by rw [e12]; exact (Nat.zero_le _)) hS213 hg13
  have hZ13 : Z.Warmed39 (s.setVm T13.vm).vm := State.Warmed39.trans hZ hS213.1
  have hown13 : (s.setVm T13.vm).vm.findClass "com/example/retiremetric/retiremetric/model/preferences/PreferencesResidualBenefitWeightPinLaw" = some m.cls := by rw [show (s.setVm T13.vm).vm = T13.vm from rfl, hS213.1.alike.findClass]; exact hown
  have Z13 : n0 ≤ T13.heap.size := Nat.le_trans Z12 K13q.1
  obtain ⟨cq14, kq14, q14a, q14b, q14c⟩ := isOf hZ13 rfl E13q
  obtain ⟨_, _, ⟨T14, L14, k14, n14⟩, -, X14, ⟨Lc14, hQ14, l14, y14, z14⟩, st14⟩ := X13.virtualBack hx (y := (⟨"com/example/retiremetric/retiremetric/model/preferences/Preferences", "residualBenefitWeight", "()D"⟩ : MethodName)) (z := (⟨"com/example/retiremetric/retiremetric/model/preferences/Preferences", "residualBenefitWeight", "()D"⟩ : MethodName)) hown13 (mvT hZ13 (hw _ (List.mem_of_getElem? (i := 35) rfl))) (mvT hZ13 (hw _ (List.mem_of_getElem? (i := 36) rfl))) (notFace_of_selects (args := #[]) (mvT hZ13 (hw _ (List.mem_of_getElem? (i := 38) rfl)))) (mvT hZ13 (hw _ (List.mem_of_getElem? (i := 38) rfl))) (mvT hZ13 (hw _ (List.mem_of_getElem? (i := 37) rfl))) (by decide) (backOf (W := 0) (rm5 l Z a0 hw [] b12 (phF kr ar) T13.heap n0 Z13 F13q vhnan9 vhnan10) hZ13 (hw _ (List.mem_of_getElem? (i := 39) rfl)) (hw _ (List.mem_of_getElem? (i := 3) rfl)) (by decide) (by decide)) q14a q14c (g := (mkF m 82 #[.val (.int kr), .val (.long ar), .second, .val (.int rr), .val (.int br), .val (.int (kF kr)), .val (.long (scF kr)), .second, .val (.long (aF kr ar)), .second, .val (.double (phF kr ar)), .second, .val (.double (rhF rr)), .second, .val (.double (rhF br)), .second, .val (.ref b12), .val (.double (FP.ddiv (FP.l2d (aF kr ar)) (FP.l2d ((scF kr) - (aF kr ar))))), .second] [(.ref b12)])) rfl (by rw [hml]; rfl) (Steps.refl _) (argsL := []) (rest := []) (lenOf pd_3 rfl) rfl (by show 2 * 0 + _ ≤ _; exact Nat.le_of_eq rfl) (hb hby at_82) (fun _ _ => ⟨rfl, rfl, (by decide : 5 + 0 ≤ _), (by decide : 39 + 0 ≤ _)⟩)
  dsimp only [Pt.U, Pt.locs, Pt.cells, Pt.slots] at X14 l14 y14 z14 st14 hQ14
  subst l14 y14 z14
  obtain ⟨rfl, N14q, e14⟩ := hQ14
  have N14 := Fr.app N13 N14q
  obtain ⟨fs, hr, hrun, hended, -, hWW, hBB, hSS⟩ := X14.leaveW hS13 (by rw [e14]; exact (Nat.le_refl _)) (v := some (.int (1 : Int32))) (fun h => by rw [Bd.returns] at h; cases h)
  refine ⟨_, _, pre0 _ ?_, hrun, hended, _, _, rfl, ?_, ⟨_, rfl⟩, hWW, hBB, hSS.mono (by decide) (by decide)⟩
  · show Steps p.tables e below (s₁.setTop (mkF m 0 #[.val (.int kr), .val (.long ar), .second, .val (.int rr), .val (.int br), .unset, .unset, .unset, .unset, .unset, .unset, .unset, .unset, .unset, .unset, .unset, .unset, .unset, .unset] [])) _
    refine XS.iloadN X0.here hx rfl (hb hby at_0) rfl ?_
    refine XS.bipush X0.here hx rfl (hb hby at_1) ?_
    refine XS.iand X0.here hx rfl (hb hby at_3) rfl ?_
    refine XS.bipush X0.here hx rfl (hb hby at_4) ?_
    show Steps p.tables e below (s₁.setTop (mkF m 6 #[.val (.int kr), .val (.long ar), .second, .val (.int rr), .val (.int br), .unset, .unset, .unset, .unset, .unset, .unset, .unset, .unset, .unset, .unset, .unset, .unset, .unset, .unset] [(.int (53 : Int32)), (.int (kr &&& (63 : Int32)))])) _
    refine gwIrem X0.here hx rfl (hb hby at_6) rfl (by decide : ¬ ((53 : Int32) = (0 : Int32))) ?_
    show Steps p.tables e below (s₁.setTop (mkF m 7 #[.val (.int kr), .val (.long ar), .second, .val (.int rr), .val (.int br), .unset, .unset, .unset, .unset, .unset, .unset, .unset, .unset, .unset, .unset, .unset, .unset, .unset, .unset] [(.int (kF kr))])) _
    refine XS.istore X0.here hx rfl (hb hby at_7) rfl (l' := #[.val (.int kr), .val (.long ar), .second, .val (.int rr), .val (.int br), .val (.int (kF kr)), .unset, .unset, .unset, .unset, .unset, .unset, .unset, .unset, .unset, .unset, .unset, .unset, .unset]) rfl ?_
    refine XS.lconst X0.here hx rfl (hb hby at_9) ?_
    refine XS.iload X0.here hx rfl (hb hby at_10) rfl ?_
    refine XS.lshl X0.here hx rfl (hb hby at_12) rfl ?_
    show Steps p.tables e below (s₁.setTop (mkF m 13 #[.val (.int kr), .val (.long ar), .second, .val (.int rr), .val (.int br), .val (.int (kF kr)), .unset, .unset, .unset, .unset, .unset, .unset, .unset, .unset, .unset, .unset, .unset, .unset, .unset] [(.long (scF kr))])) _
    refine XS.lstore X0.here hx rfl (hb hby at_13) rfl (l' := #[.val (.int kr), .val (.long ar), .second, .val (.int rr), .val (.int br), .val (.int (kF kr)), .val (.long (scF kr)), .second, .unset, .unset, .unset, .unset, .unset, .unset, .unset, .unset, .unset, .unset, .unset]) rfl ?_
    refine XS.lloadN X0.here hx rfl (hb hby at_15) rfl ?_
    refine X0.ldc2Long hx hown (mvT hZ (hw _ (List.mem_of_getElem? (i := 0) rfl))) (g := (mkF m 16 #[.val (.int kr), .val (.long ar), .second, .val (.int rr), .val (.int br), .val (.int (kF kr)), .val (.long (scF kr)), .second, .unset, .unset, .unset, .unset, .unset, .unset, .unset, .unset, .unset, .unset, .unset] [(.long ar)])) rfl (hb hby at_16) _ ?_
    refine XS.land X0.here hx rfl (hb hby at_19) rfl ?_
    show Steps p.tables e below (s₁.setTop (mkF m 20 #[.val (.int kr), .val (.long ar), .second, .val (.int rr), .val (.int br), .val (.int (kF kr)), .val (.long (scF kr)), .second, .unset, .unset, .unset, .unset, .unset, .unset, .unset, .unset, .unset, .unset, .unset] [(.long (ar &&& (9223372036854775807 : Int64)))])) _
    refine XS.lload X0.here hx rfl (hb hby at_20) rfl ?_
    refine gwLrem X0.here hx rfl (hb hby at_22) rfl hnz22 ?_
    show Steps p.tables e below (s₁.setTop (mkF m 23 #[.val (.int kr), .val (.long ar), .second, .val (.int rr), .val (.int br), .val (.int (kF kr)), .val (.long (scF kr)), .second, .unset, .unset, .unset, .unset, .unset, .unset, .unset, .unset, .unset, .unset, .unset] [(.long (aF kr ar))])) _
    refine XS.lstore X0.here hx rfl (hb hby at_23) rfl (l' := #[.val (.int kr), .val (.long ar), .second, .val (.int rr), .val (.int br), .val (.int (kF kr)), .val (.long (scF kr)), .second, .val (.long (aF kr ar)), .second, .unset, .unset, .unset, .unset, .unset, .unset, .unset, .unset, .unset]) rfl ?_
    refine XS.lload X0.here hx rfl (hb hby at_25) rfl ?_
    refine XS.l2dS X0.here hx rfl (hb hby at_27) rfl rfl ?_
    refine XS.lload X0.here hx rfl (hb hby at_28) rfl ?_
    show Steps p.tables e below (s₁.setTop (mkF m 30 #[.val (.int kr), .val (.long ar), .second, .val (.int rr), .val (.int br), .val (.int (kF kr)), .val (.long (scF kr)), .second, .val (.long (aF kr ar)), .second, .unset, .unset, .unset, .unset, .unset, .unset, .unset, .unset, .unset] [(.long (scF kr)), (.double (FP.l2d (aF kr ar)))])) _
    refine XS.l2dS X0.here hx rfl (hb hby at_30) rfl rfl ?_
    refine XS.ddivS X0.here hx rfl (hb hby at_31) rfl hnan31 rfl ?_
    show Steps p.tables e below (s₁.setTop (mkF m 32 #[.val (.int kr), .val (.long ar), .second, .val (.int rr), .val (.int br), .val (.int (kF kr)), .val (.long (scF kr)), .second, .val (.long (aF kr ar)), .second, .unset, .unset, .unset, .unset, .unset, .unset, .unset, .unset, .unset] [(.double (phF kr ar))])) _
    refine XS.dstore X0.here hx rfl (hb hby at_32) rfl (l' := #[.val (.int kr), .val (.long ar), .second, .val (.int rr), .val (.int br), .val (.int (kF kr)), .val (.long (scF kr)), .second, .val (.long (aF kr ar)), .second, .val (.double (phF kr ar)), .second, .unset, .unset, .unset, .unset, .unset, .unset, .unset]) rfl ?_
    refine XS.iconst X0.here hx rfl (hb hby at_34) ?_
    refine XS.iloadN X0.here hx rfl (hb hby at_35) rfl ?_
    refine XS.bipush X0.here hx rfl (hb hby at_36) ?_
    show Steps p.tables e below (s₁.setTop (mkF m 38 #[.val (.int kr), .val (.long ar), .second, .val (.int rr), .val (.int br), .val (.int (kF kr)), .val (.long (scF kr)), .second, .val (.long (aF kr ar)), .second, .val (.double (phF kr ar)), .second, .unset, .unset, .unset, .unset, .unset, .unset, .unset] [(.int (15 : Int32)), (.int rr), (.int (1 : Int32))])) _
    refine XS.iand X0.here hx rfl (hb hby at_38) rfl ?_
    refine XS.iadd X0.here hx rfl (hb hby at_39) rfl ?_
    refine XS.i2dS X0.here hx rfl (hb hby at_40) rfl rfl ?_
    show Steps p.tables e below (s₁.setTop (mkF m 41 #[.val (.int kr), .val (.long ar), .second, .val (.int rr), .val (.int br), .val (.int (kF kr)), .val (.long (scF kr)), .second, .val (.long (aF kr ar)), .second, .val (.double (phF kr ar)), .second, .unset, .unset, .unset, .unset, .unset, .unset, .unset] [(.double (rhF rr))])) _
    refine XS.dstore X0.here hx rfl (hb hby at_41) rfl (l' := #[.val (.int kr), .val (.long ar), .second, .val (.int rr), .val (.int br), .val (.int (kF kr)), .val (.long (scF kr)), .second, .val (.long (aF kr ar)), .second, .val (.double (phF kr ar)), .second, .val (.double (rhF rr)), .second, .unset, .unset, .unset, .unset, .unset]) rfl ?_
    refine XS.iconst X0.here hx rfl (hb hby at_43) ?_
    refine XS.iload X0.here hx rfl (hb hby at_44) rfl ?_
    refine XS.bipush X0.here hx rfl (hb hby at_46) ?_
    show Steps p.tables e below (s₁.setTop (mkF m 48 #[.val (.int kr), .val (.long ar), .second, .val (.int rr), .val (.int br), .val (.int (kF kr)), .val (.long (scF kr)), .second, .val (.long (aF kr ar)), .second, .val (.double (phF kr ar)), .second, .val (.double (rhF rr)), .second, .unset, .unset, .unset, .unset, .unset] [(.int (15 : Int32)), (.int br), (.int (1 : Int32))])) _
    refine XS.iand X0.here hx rfl (hb hby at_48) rfl ?_
    refine XS.iadd X0.here hx rfl (hb hby at_49) rfl ?_
    refine XS.i2dS X0.here hx rfl (hb hby at_50) rfl rfl ?_
    show Steps p.tables e below (s₁.setTop (mkF m 51 #[.val (.int kr), .val (.long ar), .second, .val (.int rr), .val (.int br), .val (.int (kF kr)), .val (.long (scF kr)), .second, .val (.long (aF kr ar)), .second, .val (.double (phF kr ar)), .second, .val (.double (rhF rr)), .second, .unset, .unset, .unset, .unset, .unset] [(.double (rhF br))])) _
    refine XS.dstore X0.here hx rfl (hb hby at_51) rfl (l' := #[.val (.int kr), .val (.long ar), .second, .val (.int rr), .val (.int br), .val (.int (kF kr)), .val (.long (scF kr)), .second, .val (.long (aF kr ar)), .second, .val (.double (phF kr ar)), .second, .val (.double (rhF rr)), .second, .val (.double (rhF br)), .second, .unset, .unset, .unset]) rfl ?_
    show Steps p.tables e below (s₁.setTop (mkF m 53 #[.val (.int kr), .val (.long ar), .second, .val (.int rr), .val (.int br), .val (.int (kF kr)), .val (.long (scF kr)), .second, .val (.long (aF kr ar)), .second, .val (.double (phF kr ar)), .second, .val (.double (rhF rr)), .second, .val (.double (rhF br)), .second, .unset, .unset, .unset] [])) _
    refine st12 _ ?_
    refine XS.dup X12.here hx rfl (hb hby at_56) rfl rfl ?_
    refine XS.dload X12.here hx rfl (hb hby at_57) rfl ?_
    refine XS.dload X12.here hx rfl (hb hby at_59) rfl ?_
    show Steps p.tables e below (T12.setTop (mkF m 61 #[.val (.int kr), .val (.long ar), .second, .val (.int rr), .val (.int br), .val (.int (kF kr)), .val (.long (scF kr)), .second, .val (.long (aF kr ar)), .second, .val (.double (phF kr ar)), .second, .val (.double (rhF rr)), .second, .val (.double (rhF br)), .second, .unset, .unset, .unset] [(.double (phF kr ar)), (.double (rhF rr)), (.ref b12), (.ref b12)])) _
    refine XS.dload X12.here hx rfl (hb hby at_61) rfl ?_
    show Steps p.tables e below (T12.setTop (mkF m 63 #[.val (.int kr), .val (.long ar), .second, .val (.int rr), .val (.int br), .val (.int (kF kr)), .val (.long (scF kr)), .second, .val (.long (aF kr ar)), .second, .val (.double (phF kr ar)), .second, .val (.double (rhF rr)), .second, .val (.double (rhF br)), .second, .unset, .unset, .unset] [(.double (rhF br)), (.double (phF kr ar)), (.double (rhF rr)), (.ref b12), (.ref b12)])) _
    refine st13.trans ?_
    refine XS.astore X13.here hx rfl (hb hby at_66) rfl rfl (l' := #[.val (.int kr), .val (.long ar), .second, .val (.int rr), .val (.int br), .val (.int (kF kr)), .val (.long (scF kr)), .second, .val (.long (aF kr ar)), .second, .val (.double (phF kr ar)), .second, .val (.double (rhF rr)), .second, .val (.double (rhF br)), .second, .val (.ref b12), .unset, .unset]) rfl ?_
    refine XS.lload X13.here hx rfl (hb hby at_68) rfl ?_
    refine XS.l2dS X13.here hx rfl (hb hby at_70) rfl rfl ?_
    show Steps p.tables e below (T13.setTop (mkF m 71 #[.val (.int kr), .val (.long ar), .second, .val (.int rr), .val (.int br), .val (.int (kF kr)), .val (.long (scF kr)), .second, .val (.long (aF kr ar)), .second, .val (.double (phF kr ar)), .second, .val (.double (rhF rr)), .second, .val (.double (rhF br)), .second, .val (.ref b12), .unset, .unset] [(.double (FP.l2d (aF kr ar)))])) _
    refine XS.lload X13.here hx rfl (hb hby at_71) rfl ?_
    refine XS.lload X13.here hx rfl (hb hby at_73) rfl ?_
    refine XS.lsub X13.here hx rfl (hb hby at_75) rfl ?_
    refine XS.l2dS X13.here hx rfl (hb hby at_76) rfl rfl ?_
    show Steps p.tables e below (T13.setTop (mkF m 77 #[.val (.int kr), .val (.long ar), .second, .val (.int rr), .val (.int br), .val (.int (kF kr)), .val (.long (scF kr)), .second, .val (.long (aF kr ar)), .second, .val (.double (phF kr ar)), .second, .val (.double (rhF rr)), .second, .val (.double (rhF br)), .second, .val (.ref b12), .unset, .unset] [(.double (FP.l2d ((scF kr) - (aF kr ar)))), (.double (FP.l2d (aF kr ar)))])) _
    refine XS.ddivS X13.here hx rfl (hb hby at_77) rfl hnan77 rfl ?_
    refine XS.dstore X13.here hx rfl (hb hby at_78) rfl (l' := #[.val (.int kr), .val (.long ar), .second, .val (.int rr), .val (.int br), .val (.int (kF kr)), .val (.long (scF kr)), .second, .val (.long (aF kr ar)), .second, .val (.double (phF kr ar)), .second, .val (.double (rhF rr)), .second, .val (.double (rhF br)), .second, .val (.ref b12), .val (.double (FP.ddiv (FP.l2d (aF kr ar)) (FP.l2d ((scF kr) - (aF kr ar))))), .second]) rfl ?_
    refine XS.aload X13.here hx rfl (hb hby at_80) rfl rfl ?_
    show Steps p.tables e below (T13.setTop (mkF m 82 #[.val (.int kr), .val (.long ar), .second, .val (.int rr), .val (.int br), .val (.int (kF kr)), .val (.long (scF kr)), .second, .val (.long (aF kr ar)), .second, .val (.double (phF kr ar)), .second, .val (.double (rhF rr)), .second, .val (.double (rhF br)), .second, .val (.ref b12), .val (.double (FP.ddiv (FP.l2d (aF kr ar)) (FP.l2d ((scF kr) - (aF kr ar))))), .second] [(.ref b12)])) _
    refine st14.trans ?_
    refine XS.dload X14.here hx rfl (hb hby at_85) rfl ?_
    refine XS.dcmpS X14.here hx rfl (hb hby at_87) rfl rfl ?_
    refine XS.ifNo X14.here hx rfl (hb hby at_88) rfl ((if0 _ _).trans (teq hc88).2) ?_
    show Steps p.tables e below (T14.setTop (mkF m 91 #[.val (.int kr), .val (.long ar), .second, .val (.int rr), .val (.int br), .val (.int (kF kr)), .val (.long (scF kr)), .second, .val (.long (aF kr ar)), .second, .val (.double (phF kr ar)), .second, .val (.double (rhF rr)), .second, .val (.double (rhF br)), .second, .val (.ref b12), .val (.double (FP.ddiv (FP.l2d (aF kr ar)) (FP.l2d ((scF kr) - (aF kr ar))))), .second] [])) _
    refine XS.iconst X14.here hx rfl (hb hby at_91) ?_
    refine XS.goto X14.here hx rfl (pc0 := 92) (pc' := 96) rfl (hb hby at_92) (by decide) (by decide) ?_
    show Steps p.tables e below (T14.setTop (mkF m 96 #[.val (.int kr), .val (.long ar), .second, .val (.int rr), .val (.int br), .val (.int (kF kr)), .val (.long (scF kr)), .second, .val (.long (aF kr ar)), .second, .val (.double (phF kr ar)), .second, .val (.double (rhF rr)), .second, .val (.double (rhF br)), .second, .val (.ref b12), .val (.double (FP.ddiv (FP.l2d (aF kr ar)) (FP.l2d ((scF kr) - (aF kr ar))))), .second] [(.int (1 : Int32))])) _
    exact retN X14 hx (t := .boolean) Bd.returns (by simp) (hb hby at_96) hr
  · show Q0  h0 n0 _ T14.heap _
    exact ⟨rfl, N14⟩
section Plain2
open Jvm.FP.Core Jvm.Kit
theorem cz0 : DV 0 1074 FP.dconst0 := dv_of_bits (s := false) (c := 0) (q := -1074) (by decide +kernel) (by decide +kernel)
theorem cone : DV 1 1074 FP.dconst1 := dv_of_bits (s := false) (c := 4503599627370496) (q := -52) (by decide +kernel) (by decide +kernel)
theorem cmp_val (i j : Int) (o : CmpOp) : cmpValue (some (compare i j)) o = if i < j then -1 else if i = j then 0 else 1 := by
  simp only [compare, compareOfLessAndEq]
  split
  · rfl
  · split <;> rfl
theorem vinf : val64 (9218868437227405312 : UInt64) = .inf false := by decide +kernel
theorem dv_lt_inf {i : Int} {n : Nat} {a : UInt64} (h : DV i n a) : FP.dcmp a (9218868437227405312 : UInt64) = some .lt := by
  obtain ⟨⟨s, c, q, va⟩, -⟩ := h
  show order (val64 a) (val64 (9218868437227405312 : UInt64)) = _
  rw [va, vinf]; rfl
theorem quot_fin {i j : Int} {n : Nat} {a b : UInt64} (ha : DV i n a) (hb : DV j n b) (hi : i.natAbs < 2 ^ 53) (hj : j ≠ 0) : ∃ s c q, val64 (FP.ddiv a b) = .fin s c q := by
  obtain ⟨s, e1, e2⟩ := dv_quot ha hb hj
  rw [show (n : Int) - (n : Int) = 0 by omega] at e1
  have hi' : zmag b64 (roundRatio b64 s i.natAbs j.natAbs 0) ≤ zmag b64 (.fin false (2 ^ 52) 1) := by
    refine zmag_roundRatio_le good_b64 (e0 := -1074) (by omega) (by unfold Jvm.FP.Core.fits; decide) (by decide) (by decide) (by decide) ?_
    rw [show zmag b64 (.fin false (2 ^ 52) 1) = 2 ^ 53 * 2 ^ 1074 by decide +kernel, show (b64.qmin - -1074).toNat = 0 by decide]
    unfold inUnits
    rw [show ((0 : Int) - -1074).toNat = 1074 by decide, Nat.pow_zero, Nat.mul_one, Nat.mul_right_comm]
    generalize (2 : Nat) ^ 1074 = X
    exact Nat.mul_le_mul_right X (by omega)
  rcases roundRatio_cases b64 s i.natAbs j.natAbs 0 with h | h
  · obtain ⟨c, q, h⟩ := h; exact ⟨s, c, q, e1.trans h⟩
  · rw [h] at hi'
    exact absurd hi' (by cases s <;> decide +kernel)
theorem noNaN_fin {a : UInt64} (h : ∃ s c q, val64 a = .fin s c q) : Jvm.Free.Fl.NoNaN64 a := (Jvm.Free.Fl.fin64_core.mpr h).noNaN
theorem kF_bd (kr : Int32) : ∃ K : Nat, K < 53 ∧ kF kr = Int32.ofNat K := by
  have h : (kr &&& (63 : Int32)).toInt = kr.toInt % 2 ^ 6 := i32_mask _ _ (k := 6) (by decide) (by decide)
  have h2 : (kF kr).toInt = (kr.toInt % 2 ^ 6) % 53 := by
    unfold kF
    rw [i32_rem_nonneg (by omega), h]; rfl
  refine ⟨(kF kr).toInt.toNat, by omega, Int32.toInt_inj.mp ?_⟩
  rw [Int32.toInt_ofNat_small (by omega)]
  omega
theorem sc_pow : ∀ K, K < 53 → ((1 : Int64) <<< ((Int32.ofNat K) &&& 0x3f).toInt64).toInt = ((2 ^ K : Nat) : Int) := by decide +kernel
theorem rh_ok (r : Int32) : (0 : Int32) < cmpValue (FP.dcmp (rhF r) FP.dconst0) .l ∧ cmpValue (FP.dcmp (rhF r) (9218868437227405312 : UInt64)) .g < (0 : Int32) := by
  have h : DV ((1 : Int32) + (r &&& (15 : Int32))).toInt 1074 (rhF r) := dv_i2d _
  have hm : (r &&& (15 : Int32)).toInt = r.toInt % 2 ^ 4 := i32_mask _ _ (k := 4) (by decide) (by decide)
  have e1 : ((1 : Int32)).toInt = 1 := rfl
  have hd : ((1 : Int32) + (r &&& (15 : Int32))).toInt = 1 + r.toInt % 2 ^ 4 := by rw [i32_add (by rw [hm, e1]; omega) (by rw [hm, e1]; omega), hm, e1]
  refine ⟨?_, ?_⟩
  · rw [dv_cmp h cz0, cmp_val, if_neg (by omega), if_neg (by omega)]; decide
  · rw [dv_lt_inf h]; decide
theorem big_eq (K : Nat) (hK : K < 53) : ((2 ^ (1074 + 1074) : Nat) : Int) = ((2 ^ K : Nat) : Int) * ((2 ^ (1074 - K + 1074) : Nat) : Int) := by
  rw [← Int.natCast_mul, ← Nat.pow_add, show K + (1074 - K + 1074) = 1074 + 1074 by omega]
end Plain2

set_option maxRecDepth 65536 in
set_option maxHeartbeats 40000000 in
theorem rm0 (l : Launch) (Z : State) (a0 : Array Value) (hw : ∀ d ∈ tables_1, d.before a0 Z = true) (ws : List Jvm.Cond) (kr : Int32) (ar : Int64) (rr : Int32) (br : Int32)  (h0 : Heap) (n0 : Nat) (Z0 : n0 ≤ h0.size)   :
    MetFree l x (head1 (Jvm.Cond.code x code maxLocals ret :: ws) room_1) (fun aa U => aa = #[(.int kr), (.long ar), (.int rr), (.int br)] ∧ Z.Warmed39 U.vm ∧ U.heap = h0) (fun _ _ _ _ _ => True) (fun _ U o U' => ∃ v L, o = .returned v ∧ Q0  h0 n0 v U'.heap L ∧ ReturnedEndW U o U' L room_1.cells room_1.slots) := by
  obtain ⟨K, hK, hk⟩ := kF_bd kr
  have hs : (scF kr).toInt = ((2 ^ K : Nat) : Int) := by unfold scF; rw [hk]; exact sc_pow K hK
  have hp := Nat.two_pow_pos K
  have hp2 : 2 ^ K ≤ 2 ^ 52 := Nat.pow_le_pow_right (by decide) (by omega)
  have hnz22 : ¬ scF kr = (0 : Int64) := fun q => by rw [q, Int64.toInt_zero] at hs; omega
  have hm : (ar &&& (9223372036854775807 : Int64)).toInt = ar.toInt % 2 ^ 63 := Jvm.Kit.i64_mask _ _ (k := 63) (by decide) (by decide)
  have ha : (aF kr ar).toInt = (ar.toInt % 2 ^ 63) % ((2 ^ K : Nat) : Int) := by
    unfold aF
    rw [Int64.toInt_mod, hm, hs, Int.tmod_eq_emod_of_nonneg (by omega)]
  have a1 : 0 ≤ (aF kr ar).toInt := by rw [ha]; exact Int.emod_nonneg _ (by omega)
  have a2 : (aF kr ar).toInt < ((2 ^ K : Nat) : Int) := by rw [ha]; exact Int.emod_lt_of_pos _ (by omega)
  have dA : DV (aF kr ar).toInt 1074 (FP.l2d (aF kr ar)) := dv_l2d (by omega)
  have dS : DV (scF kr).toInt 1074 (FP.l2d (scF kr)) := dv_l2d (by omega)
  have dP : DV (aF kr ar).toInt (1074 - K) (phF kr ar) := by
    refine dv_div dA dS (by omega) ?_ (by omega) (by omega)
    rw [hs, Int.mul_assoc, ← big_eq K hK]
  have dO : DV ((2 ^ K : Nat) : Int) (1074 - K) FP.dconst1 := by
    have q := dv_up (n := 1074 - K) (k := K) (i := 1) (a := FP.dconst1) (by rw [show 1074 - K + K = 1074 by omega]; exact cone)
    rw [Int.one_mul] at q
    exact q
  have dZ : DV 0 (1074 - K) FP.dconst0 := by
    have q := dv_up (n := 1074 - K) (k := K) (i := 0) (a := FP.dconst0) (by rw [show 1074 - K + K = 1074 by omega]; exact cz0)
    rw [Int.zero_mul] at q
    exact q
  have dD := dv_sub dO dP (by omega) (by omega)
  have hsub : (scF kr - aF kr ar).toInt = ((2 ^ K : Nat) : Int) - (aF kr ar).toInt := by rw [Jvm.Kit.i64_sub (by omega) (by omega), hs]
  have dE : DV (((2 ^ K : Nat) : Int) - (aF kr ar).toInt) 1074 (FP.l2d (scF kr - aF kr ar)) := by rw [← hsub]; exact dv_l2d (by omega)
  have f1 := quot_fin dP dD (by omega) (by omega)
  have f2 := quot_fin dA dE (by omega) (by omega)
  obtain ⟨p1, p2⟩ := rh_ok rr
  obtain ⟨u1, u2⟩ := rh_ok br
  refine rm0_a l Z a0 hw ws kr ar rr br h0 n0 Z0 hnz22 (dv_noNaN dP) p1 p2 ?_ ?_ u1 u2 (noNaN_fin f2) (dv_noNaN dD) (noNaN_fin f1) ?_
  · rw [dv_cmp dP dZ, cmp_val, if_neg (by omega)]; split <;> decide
  · rw [dv_cmp dP dO, cmp_val, if_pos (by omega)]; decide
  · have e : FP.dcmp (weiF (phF kr ar)) (FP.ddiv (FP.l2d (aF kr ar)) (FP.l2d (scF kr - aF kr ar))) = some .eq := by
      refine dv_div_eq dP dD dA dE a1 a1 (by omega) (by omega) ?_ f1
      rw [Nat.add_comm (1074 - K) 1074]
    rw [e]; rfl

set_option maxRecDepth 65536 in
set_option maxHeartbeats 40000000 in
theorem comes_1 {Post : Tables → Env → Array Value → State → Outcome → State → Prop} (hpost : ∀ tb e args s v u, (limb_1_1.after args s (.returned v) u = true ∧ limb_1_2.after args s (.returned v) u = true ∧ True) → FramedW s (.returned v) u (Jvm.fieldLocs frame_1_writes args s ++ Jvm.arrayLocs frame_1_arrays args s ++ Jvm.staticLocs frame_1_statics s) 16 2176 → Post tb e args s (.returned v) u) :
    ArmFor flags0 classFile x code maxLocals ret World_1 tables_1 room_1 Calls_1 rest_1 Pre_1 Post := by
  intro l hfl _ _ p e ha hc hk s m args below hf hA hF happ hP
  obtain ⟨hcalls, hrest, hpre⟩ := hP
  obtain ⟨-, -, -, hnamed, -, -, -, hat⟩ := (Spec.applies_iff hf).mp happ
  obtain ⟨hg, hn⟩ := and_e (Cond.before_iff.mp (show (Jvm.Cond.and given_1 narrow_1).before args s = true from hpre))
  obtain ⟨hcount, hg0⟩ := and_e hg
  obtain ⟨ha0, hg1⟩ := and_e hg0
  obtain ⟨ha1, hg2⟩ := and_e hg1
  obtain ⟨ha2, hg3⟩ := and_e hg2
  have ha3 := hg3
  obtain ⟨w0, w1, w2, w3, rfl⟩ : ∃ w0 w1 w2 w3 : Value, args = #[w0, w1, w2, w3] := by
    have hs : args.size = 4 := by simpa [Cond.value, given_1] using hcount
    obtain ⟨L⟩ := args
    match L, hs with
    | [w0, w1, w2, w3], _ => exact ⟨w0, w1, w2, w3, rfl⟩
  have hw := fun d (hd : d ∈ tables_1) => atoms_spec (ws := Jvm.Cond.code x code maxLocals ret :: tables_1) hat d (List.mem_cons_of_mem _ hd)
  have hfit : Fit s := fun {y c} hc i hi => by
    obtain ⟨ha, rfl⟩ := Array.getElem?_eq_some_iff.mp hc
    have q := List.all_eq_true.mp ((Array.all_eq_true_iff_forall_mem.mp hF) _ (Array.getElem_mem ha)) i (List.mem_range.mpr hi)
    simpa [Array.getElem?_eq_getElem hi] using q
  obtain ⟨i0, ei0⟩ := is_v ha0
  obtain rfl : w0 = (.int i0) := Option.some.inj ei0
  obtain ⟨i1, ei1⟩ := isL_v ha1
  obtain rfl : w1 = (.long i1) := Option.some.inj ei1
  obtain ⟨i2, ei2⟩ := is_v ha2
  obtain rfl : w2 = (.int i2) := Option.some.inj ei2
  obtain ⟨i3, ei3⟩ := is_v ha3
  obtain rfl : w3 = (.int i3) := Option.some.inj ei3
  obtain ⟨n, o, h1, h2, h3, _, L, rfl, ⟨rfl, N⟩, hq⟩ := rm0 l s _ hw tables_1 i0 i1 i2 i3 s.heap s.heap.size (Nat.le_refl _)  p e ha hc hk s m _ below hf ((Spec.applies_iff_loose hf).mp happ).1 ⟨rfl, State.Warmed39.refl s, rfl⟩ trivial
  refine ⟨n, _, h1, h2, h3, hpost _ _ _ _ _ _ ⟨Cond.after_iff.mpr rfl, Cond.after_iff.mpr (eq_i res_at (Term.int_eval (1)) rfl), trivial⟩ ⟨hq.1, hq.2.1, hq.2.2.1, (hq.2.2.2.sift fun y hy => Or.inr (N y hy)).mono (by decide) (by decide)⟩⟩
theorem main_1_1 : Claimed_1_1 := comes_1 fun _ _ _ _ _ _ h hF => ⟨h.1, hF⟩
theorem main_1_2 : Claimed_1_2 := comes_1 fun _ _ _ _ _ _ h hF => ⟨h.2.1, hF⟩
end Jvm.Pilot.@@N@@
namespace Jvm.Pilot.@@N@@
open Jvm Jvm.ClassFile Sem Op Lib Jvm.Free Jvm.Stand Jvm.Pilot.@@N@@.Jvm.D
/-! MADE BY PROGRAM (witnessworld.py) out of the Statement's table words and the real class files: 16 classes; the members and pool entries that the words name. The judged class is class 1, her method 1. -/
namespace start1
open Jvm.ClassFile
def u (s : String) : CpInfo := .utf8 (stringToUtf16 s)
/-- a pool by its gaps: so many unusable entries, then the entry; so many at the end -/
def gap : Nat → List CpInfo → List CpInfo
  | 0, r => r
  | n + 1, r => .unusable :: gap n r
def poolList (es : List (Nat × CpInfo)) (last : Nat) : List CpInfo := es.foldr (fun e r => gap e.1 (e.2 :: r)) (gap last [])
def pool (es : List (Nat × CpInfo)) (last : Nat) : Array CpInfo := ⟨poolList es last⟩
def fileOf (pool : Array CpInfo) (this : Nat) (attrs : Array Attribute := #[]) (ms : Array MethodInfo := #[]) (fl : Nat := 33) (sup : Nat := 0) (ifs : Array Nat := #[]) (fds : Array FieldInfo := #[]) : ClassFile where
  minorVersion := 0
  majorVersion := 65
  constantPool := pool
  accessFlags := fl
  thisClass := this
  superClass := sup
  interfaces := ifs
  fields := fds
  methods := ms
  attributes := attrs
def plain (name : String) (sup : Option ClassId) : Class where
  name := name
  kind := .ordinary
  loader := none
  accessFlags := 33
  super := sup
  interfaces := #[]
  cf := none
  fields := #[]
  methods := #[]
  instanceTypes := #[]
  staticTypes := #[]
  resolved := #[]
  callSites := []
  init := .initialized
  statics := none
  mirror := none

def pool0 : Array CpInfo := pool [(5, u "<init>"), (0, u "()V"), (1, .class_ 10), (1, u "java/lang/Object")] 113

def k0c0 : Code := { maxStack := 0, maxLocals := 1, code := object_method_1_code, exceptionTable := #[], attributes := #[] }
def k0m0 : Method := { name := "<init>", desc := "()V", sig := { parameters := [], returnType := none }, accessFlags := 1, code := some k0c0 }
/-- java/lang/Object -/
def k0 : Class := { plain "java/lang/Object" none with
  accessFlags := 33
  interfaces := #[]
  cf := some (fileOf pool0 8 #[] #[{ accessFlags := 1, nameIndex := 5, descriptorIndex := 6, attributes := #[] }] 33 0 #[] #[])
  fields := #[]
  methods := #[k0m0]
  instanceTypes := #[]
  staticTypes := #[]
  resolved := Array.replicate 124 none
  statics := none }

def pool1 : Array CpInfo := pool [(2, .class_ 4), (1, u "java/lang/Object"), (0, u "<init>"), (0, u "()V"), (2, .long 9223372036854775807), (1, .class_ 12), (0, u "com/example/retiremetric/retiremetric/model/preferences/Preferences"), (0, .methodref 11 14), (0, .nameAndType 5 15), (0, u "(DDD)V"), (0, .methodref 11 17), (0, .nameAndType 18 19), (0, u "residualBenefitWeight"), (0, u "()D"), (0, .class_ 21), (0, u "com/example/retiremetric/retiremetric/model/preferences/PreferencesResidualBenefitWeightPinLaw"), (2, u "law"), (0, u "(IJII)Z")] 3

def k1m0 : Method := { name := "<init>", desc := "()V", sig := { parameters := [], returnType := none }, accessFlags := 2, code := none }
def k1c1 : Code := { maxStack := 8, maxLocals := 19, code := code, exceptionTable := #[], attributes := #[] }
def k1m1 : Method := { name := "law", desc := "(IJII)Z", sig := { parameters := [.int, .long, .int, .int], returnType := some .boolean }, accessFlags := 9, code := some k1c1 }
/-- com/example/retiremetric/retiremetric/model/preferences/PreferencesResidualBenefitWeightPinLaw -/
def k1 : Class := { plain "com/example/retiremetric/retiremetric/model/preferences/PreferencesResidualBenefitWeightPinLaw" (some 0) with
  accessFlags := 49
  interfaces := #[]
  cf := some (fileOf pool1 20 #[] #[{ accessFlags := 2, nameIndex := 5, descriptorIndex := 6, attributes := #[] }, { accessFlags := 9, nameIndex := 24, descriptorIndex := 25, attributes := #[] }] 49 2 #[] #[])
  fields := #[]
  methods := #[k1m0, k1m1]
  instanceTypes := #[]
  staticTypes := #[]
  resolved := Array.replicate 29 none
  statics := none }

def pool2 : Array CpInfo := pool [(1, .methodref 2 3), (0, .class_ 4), (0, .nameAndType 5 6), (0, u "java/lang/Object"), (0, u "<init>"), (0, u "()V"), (0, .class_ 8), (0, u "java/lang/Record")] 13

def k2c0 : Code := { maxStack := 1, maxLocals := 1, code := jdk_30_method_1_code, exceptionTable := #[], attributes := #[] }
def k2m0 : Method := { name := "<init>", desc := "()V", sig := { parameters := [], returnType := none }, accessFlags := 4, code := some k2c0 }
/-- java/lang/Record -/
def k2 : Class := { plain "java/lang/Record" (some 0) with
  accessFlags := 1057
  interfaces := #[]
  cf := some (fileOf pool2 7 #[] #[{ accessFlags := 4, nameIndex := 5, descriptorIndex := 6, attributes := #[] }] 1057 2 #[] #[])
  fields := #[]
  methods := #[k2m0]
  instanceTypes := #[]
  staticTypes := #[]
  resolved := Array.replicate 22 none
  statics := none }

def pool3 : Array CpInfo := pool [(1, .methodref 2 3), (0, .class_ 4), (0, .nameAndType 5 6), (0, u "java/lang/Record"), (0, u "<init>"), (0, u "()V"), (0, .string 8), (0, u "rho"), (0, .methodref 10 11), (0, .class_ 12), (0, .nameAndType 13 14), (0, u "com/example/retiremetric/retiremetric/model/InputRanges"), (0, u "requirePositive"), (0, u "(Ljava/lang/String;D)V"), (3, u "phi"), (19, .string 39), (0, u "beta"), (0, .fieldref 41 42), (0, .class_ 43), (0, .nameAndType 8 44), (0, u "com/example/retiremetric/retiremetric/model/preferences/Preferences"), (0, u "D"), (0, .fieldref 41 46), (0, .nameAndType 18 44), (0, .fieldref 41 48), (0, .nameAndType 39 44), (2, u "residualBenefitWeight"), (0, u "()D"), (25, u "(DDD)V")] 34

def k3c0 : Code := { maxStack := 9, maxLocals := 7, code := prog_44_method_1_code, exceptionTable := #[], attributes := #[] }
def k3m0 : Method := { name := "<init>", desc := "(DDD)V", sig := { parameters := [.double, .double, .double], returnType := none }, accessFlags := 1, code := some k3c0 }
def k3c1 : Code := { maxStack := 6, maxLocals := 1, code := prog_44_method_3_code, exceptionTable := #[], attributes := #[] }
def k3m1 : Method := { name := "residualBenefitWeight", desc := "()D", sig := { parameters := [], returnType := some .double }, accessFlags := 1, code := some k3c1 }
/-- com/example/retiremetric/retiremetric/model/preferences/Preferences -/
def k3 : Class := { plain "com/example/retiremetric/retiremetric/model/preferences/Preferences" (some 2) with
  accessFlags := 49
  interfaces := #[]
  cf := some (fileOf pool3 41 #[] #[{ accessFlags := 1, nameIndex := 5, descriptorIndex := 78, attributes := #[] }, { accessFlags := 1, nameIndex := 51, descriptorIndex := 52, attributes := #[] }] 49 2 #[] #[{ accessFlags := 18, nameIndex := 8, descriptorIndex := 44, attributes := #[] }, { accessFlags := 18, nameIndex := 18, descriptorIndex := 44, attributes := #[] }, { accessFlags := 18, nameIndex := 39, descriptorIndex := 44, attributes := #[] }])
  fields := #[{ name := "rho", type := .double, accessFlags := 18, slot := 0, constantValue := 0 }, { name := "phi", type := .double, accessFlags := 18, slot := 1, constantValue := 0 }, { name := "beta", type := .double, accessFlags := 18, slot := 2, constantValue := 0 }]
  methods := #[k3m0, k3m1]
  instanceTypes := #[.double, .double, .double]
  staticTypes := #[]
  resolved := Array.replicate 113 none
  statics := none }

def pool4 : Array CpInfo := pool [(1, .class_ 2), (0, u "java/io/Serializable"), (0, .class_ 4), (0, u "java/lang/Object")] 2

/-- java/io/Serializable -/
def k4 : Class := { plain "java/io/Serializable" (some 0) with
  accessFlags := 1537
  interfaces := #[]
  cf := some (fileOf pool4 1 #[] #[] 1537 3 #[] #[])
  fields := #[]
  methods := #[]
  instanceTypes := #[]
  staticTypes := #[]
  resolved := Array.replicate 7 none
  statics := none }

def pool5 : Array CpInfo := pool [(1, .class_ 2), (0, u "java/lang/Comparable"), (0, .class_ 4), (0, u "java/lang/Object")] 7

/-- java/lang/Comparable -/
def k5 : Class := { plain "java/lang/Comparable" (some 0) with
  accessFlags := 1537
  interfaces := #[]
  cf := some (fileOf pool5 1 #[] #[] 1537 3 #[] #[])
  fields := #[]
  methods := #[]
  instanceTypes := #[]
  staticTypes := #[]
  resolved := Array.replicate 12 none
  statics := none }

def pool6 : Array CpInfo := pool [(2, .class_ 4), (1, u "java/lang/CharSequence"), (42, .class_ 48), (0, u "java/lang/CharSequence$1CodePointIterator"), (10, .class_ 60), (0, u "java/lang/CharSequence$1CharIterator"), (5, .class_ 67), (0, u "java/lang/Object")] 63

/-- java/lang/CharSequence -/
def k6 : Class := { plain "java/lang/CharSequence" (some 0) with
  accessFlags := 1537
  interfaces := #[]
  cf := some (fileOf pool6 2 #[.nestMembers #[47, 59]] #[] 1537 66 #[] #[])
  fields := #[]
  methods := #[]
  instanceTypes := #[]
  staticTypes := #[]
  resolved := Array.replicate 131 none
  statics := none }

def pool7 : Array CpInfo := pool [(1, .class_ 2), (0, u "java/lang/constant/Constable"), (0, .class_ 4), (0, u "java/lang/Object")] 6

/-- java/lang/constant/Constable -/
def k7 : Class := { plain "java/lang/constant/Constable" (some 0) with
  accessFlags := 1537
  interfaces := #[]
  cf := some (fileOf pool7 1 #[] #[] 1537 3 #[] #[])
  fields := #[]
  methods := #[]
  instanceTypes := #[]
  staticTypes := #[]
  resolved := Array.replicate 11 none
  statics := none }

def pool8 : Array CpInfo := pool [(1, .class_ 2), (0, u "java/lang/constant/ConstantDesc"), (0, .class_ 4), (0, u "java/lang/Object")] 32

/-- java/lang/constant/ConstantDesc -/
def k8 : Class := { plain "java/lang/constant/ConstantDesc" (some 0) with
  accessFlags := 1537
  interfaces := #[]
  cf := some (fileOf pool8 1 #[] #[] 1537 3 #[] #[])
  fields := #[]
  methods := #[]
  instanceTypes := #[]
  staticTypes := #[]
  resolved := Array.replicate 37 none
  statics := none }

def pool9 : Array CpInfo := pool [(2, .class_ 4), (1, u "java/lang/Object"), (0, u "<init>"), (0, u "()V"), (3, .class_ 12), (1, u "java/lang/String"), (0, u "value"), (0, u "[B"), (2, u "coder"), (0, u "B"), (2, u "hash"), (0, u "I"), (2, u "hashIsZero"), (0, u "Z"), (13, u "COMPACT_STRINGS"), (534, .class_ 576), (0, u "java/lang/CharSequence"), (22, u "CASE_INSENSITIVE_ORDER"), (0, u "Ljava/util/Comparator;"), (500, u "serialPersistentFields"), (0, u "[Ljava/io/ObjectStreamField;"), (0, .class_ 1104), (0, u "java/lang/String$CaseInsensitiveComparator"), (1, .class_ 1107), (0, u "java/io/Serializable"), (0, .class_ 1109), (0, u "java/lang/Comparable"), (0, .class_ 1111), (0, u "java/lang/constant/Constable"), (0, .class_ 1113), (0, u "java/lang/constant/ConstantDesc"), (2, u "serialVersionUID"), (0, u "J"), (3, u "REPL"), (0, u "C"), (2, u "LATIN1"), (1, u "UTF16")] 323

def k9m0 : Method := { name := "<init>", desc := "()V", sig := { parameters := [], returnType := none }, accessFlags := 1, code := none }
/-- java/lang/String -/
def k9 : Class := { plain "java/lang/String" (some 0) with
  accessFlags := 49
  interfaces := #[4, 5, 6, 7, 8]
  cf := some (fileOf pool9 10 #[.nestMembers #[1103]] #[{ accessFlags := 1, nameIndex := 5, descriptorIndex := 6, attributes := #[] }] 49 2 #[1106, 1108, 575, 1110, 1112] #[{ accessFlags := 18, nameIndex := 13, descriptorIndex := 14, attributes := #[] }, { accessFlags := 18, nameIndex := 17, descriptorIndex := 18, attributes := #[] }, { accessFlags := 2, nameIndex := 21, descriptorIndex := 22, attributes := #[] }, { accessFlags := 2, nameIndex := 25, descriptorIndex := 26, attributes := #[] }, { accessFlags := 26, nameIndex := 1116, descriptorIndex := 1117, attributes := #[] }, { accessFlags := 24, nameIndex := 40, descriptorIndex := 26, attributes := #[] }, { accessFlags := 26, nameIndex := 1101, descriptorIndex := 1102, attributes := #[] }, { accessFlags := 26, nameIndex := 1121, descriptorIndex := 1122, attributes := #[] }, { accessFlags := 25, nameIndex := 599, descriptorIndex := 600, attributes := #[] }, { accessFlags := 24, nameIndex := 1125, descriptorIndex := 18, attributes := #[] }, { accessFlags := 24, nameIndex := 1127, descriptorIndex := 18, attributes := #[] }])
  fields := #[{ name := "value", type := (.array .byte), accessFlags := 18, slot := 0, constantValue := 0 }, { name := "coder", type := .byte, accessFlags := 18, slot := 1, constantValue := 0 }, { name := "hash", type := .int, accessFlags := 2, slot := 2, constantValue := 0 }, { name := "hashIsZero", type := .boolean, accessFlags := 2, slot := 3, constantValue := 0 }, { name := "serialVersionUID", type := .long, accessFlags := 26, slot := 0, constantValue := 0 }, { name := "COMPACT_STRINGS", type := .boolean, accessFlags := 24, slot := 1, constantValue := 0 }, { name := "serialPersistentFields", type := (.array (.object "java/io/ObjectStreamField")), accessFlags := 26, slot := 2, constantValue := 0 }, { name := "REPL", type := .char, accessFlags := 26, slot := 3, constantValue := 0 }, { name := "CASE_INSENSITIVE_ORDER", type := (.object "java/util/Comparator"), accessFlags := 25, slot := 4, constantValue := 0 }, { name := "LATIN1", type := .byte, accessFlags := 24, slot := 5, constantValue := 0 }, { name := "UTF16", type := .byte, accessFlags := 24, slot := 6, constantValue := 0 }]
  methods := #[k9m0]
  instanceTypes := #[(.array .byte), .byte, .int, .boolean]
  staticTypes := #[.long, .boolean, (.array (.object "java/io/ObjectStreamField")), .char, (.object "java/util/Comparator"), .byte, .byte]
  resolved := Array.replicate 1451 none
  statics := none }

def pool10 : Array CpInfo := pool [(2, .class_ 4), (1, u "java/lang/Object"), (0, u "<init>"), (0, u "()V"), (2, .double 9218868437227405312), (26, .class_ 37), (0, u "com/example/retiremetric/retiremetric/model/InputRanges"), (2, u "requirePositive"), (0, u "(Ljava/lang/String;D)V")] 6

def k10m0 : Method := { name := "<init>", desc := "()V", sig := { parameters := [], returnType := none }, accessFlags := 2, code := none }
def k10c1 : Code := { maxStack := 9, maxLocals := 3, code := prog_35_method_2_code, exceptionTable := #[], attributes := #[] }
def k10m1 : Method := { name := "requirePositive", desc := "(Ljava/lang/String;D)V", sig := { parameters := [(.object "java/lang/String"), .double], returnType := none }, accessFlags := 9, code := some k10c1 }
/-- com/example/retiremetric/retiremetric/model/InputRanges -/
def k10 : Class := { plain "com/example/retiremetric/retiremetric/model/InputRanges" (some 0) with
  accessFlags := 49
  interfaces := #[]
  cf := some (fileOf pool10 36 #[] #[{ accessFlags := 2, nameIndex := 5, descriptorIndex := 6, attributes := #[] }, { accessFlags := 9, nameIndex := 40, descriptorIndex := 41, attributes := #[] }] 49 2 #[] #[])
  fields := #[]
  methods := #[k10m0, k10m1]
  instanceTypes := #[]
  staticTypes := #[]
  resolved := Array.replicate 48 none
  statics := none }

def pool11 : Array CpInfo := pool [(1, u "java/lang/Cloneable"), (0, .class_ 1), (0, u "java/lang/Object"), (0, .class_ 3)] 3

/-- java/lang/Cloneable -/
def k11 : Class := { plain "java/lang/Cloneable" (some 0) with
  accessFlags := 1537
  interfaces := #[]
  cf := some (fileOf pool11 2 #[] #[] 1537 4 #[] #[])
  fields := #[]
  methods := #[]
  instanceTypes := #[]
  staticTypes := #[]
  resolved := Array.replicate 8 none
  statics := none }

/-- the primitive byte -/
def k12 : Class := { plain "byte" none with kind := .primitive 'B', accessFlags := 0x411 }
/-- [B -/
def k13 : Class := { plain "[B" (some 0) with kind := .array 12 .byte, interfaces := #[11, 4], accessFlags := 1041 }

/-- the primitive int -/
def k14 : Class := { plain "int" none with kind := .primitive 'I', accessFlags := 0x411 }
/-- [I -/
def k15 : Class := { plain "[I" (some 0) with kind := .array 14 .int, interfaces := #[11, 4], accessFlags := 1041 }

def heap : Heap := #[]
def classes : Array Class := #[k0, k1, k2, k3, k4, k5, k6, k7, k8, k9, k10, k11, k12, k13, k14, k15]
def interned : List (Array UInt16 × Addr) := []
def slotsUsed : Nat := 0
def theMethod : MethodId := ⟨1, 1⟩
def args0 : Array Value := #[.int 5, .long 1, .int 1, .int 1]
def aboutOver (below : List Frame) : State where
  vm := { classes := classes, interned := interned.toArray }
  heap := heap
  slotsUsed := slotsUsed
  threads := #[{ frames := .invoking theMethod args0 :: below }]
def below0 : List Frame := [.native { method := ⟨0, 0⟩, args := #[] }]
def about1 : State := aboutOver below0
def p0 : Program := .bare "" "" ""
def e0 : Env := launch0.env 0 0 0
theorem w_frames : about1.frames = Frame.invoking theMethod args0 :: below0 := rfl
set_option maxRecDepth 65536 in
theorem w_args : argsFit about1.vm theMethod args0 = true := by decide +kernel
set_option maxRecDepth 65536 in
theorem w_heap : heapFits about1 = true := by decide +kernel
set_option maxRecDepth 65536 in
theorem w_runnable : about1.curStatus? = some .runnable := by decide +kernel
set_option maxRecDepth 65536 in
theorem w_alone : about1.alone = true := by decide +kernel
set_option maxRecDepth 65536 in
theorem w_named : about1.methodNamed? x = some theMethod := by decide +kernel
set_option maxRecDepth 65536 in
theorem w_hears : about1.hears theMethod below0 = true := by decide +kernel
set_option maxRecDepth 65536 in
theorem w_ripe : about1.ripe theMethod args0 below0 = true := by decide +kernel
theorem w_running : about1.status = .running := rfl
set_option maxRecDepth 65536 in
theorem w_room : about1.hasRoom e0.platform room_1 = true :=
  launch0.hasRoom_least _ room_1 (by decide +kernel) (by decide +kernel) (by decide +kernel) (by decide +kernel) (by decide +kernel) (by decide +kernel)
theorem allAtoms_all (ts : List Jvm.Cond) (a : Array Jvm.Value) (st : Jvm.State) : (allAtoms ts).before a st = ts.all (fun c => c.before a st) := by
  induction ts with
  | nil => rfl
  | cons c t ih =>
    show (Jvm.Cond.and c (allAtoms t)).before a st = _
    rw [Jvm.Cond.before_and, ih, List.all_cons]
def words1 : List Jvm.Cond := Jvm.Cond.code x code maxLocals ret :: tables_1
/-- a 'code' word, met by the world's own term for the bytes: nothing is compared byte by byte -/
theorem code_word {y : MethodName} {bytes : ByteArray} {mx : Nat} {rt : Option FieldType} {a : Array Value} {s : State} {m : MethodId} {meth : Method} {c : Code} (h1 : s.methodNamed? y = some m) (h2 : s.vm.method? m = some meth) (h3 : meth.code = some c) (h4 : c.code = bytes)
    (h5 : (c.maxLocals == mx && c.exceptionTable.isEmpty && decide (c.maxStack ≤ mostOperands) && decide (meth.sig.returnType = rt) && !meth.locks && decide (parseMethodDescriptor y.desc = some meth.sig)) = true) : (Jvm.Cond.code y bytes mx rt).before a s = true := by
  simp only [Bool.and_eq_true, beq_iff_eq, Bool.not_eq_true', decide_eq_true_eq] at h5
  obtain ⟨⟨⟨⟨⟨g1, g2⟩, g3⟩, g4⟩, g5⟩, g6⟩ := h5
  simp [Cond.before, Cond.holds, Cond.value, h1, h2, h3, h4, g1, g2, g3, g4, g5, g6]
def isCode : Jvm.Cond → Bool
  | .code _ _ _ _ => true
  | _ => false
theorem all_split {L : List Jvm.Cond} {P : Jvm.Cond → Bool} (h1 : L.all (fun c => isCode c || P c) = true) (h2 : ∀ c ∈ L.filter isCode, P c = true) : L.all P = true := by
  refine List.all_eq_true.mpr fun c hc => ?_
  have h := List.all_eq_true.mp h1 c hc
  rcases Bool.eq_false_or_eq_true (isCode c) with hi | hi
  · exact h2 c (List.mem_filter.mpr ⟨hc, hi⟩)
  · simpa [hi] using h
set_option maxRecDepth 65536 in
theorem w_c0 : (Jvm.Cond.code x code maxLocals ret).before args0 about1 = true := code_word (m := ⟨1, 1⟩) (meth := k1m1) (c := k1c1) (by decide +kernel) rfl rfl rfl (by decide +kernel)
set_option maxRecDepth 65536 in
theorem w_c1 : (Jvm.Cond.code ({ cls := "com/example/retiremetric/retiremetric/model/preferences/Preferences", name := "<init>", desc := "(DDD)V" } : Jvm.MethodName) prog_44_method_1_code (7 : Nat) (Option.none : Option Jvm.ClassFile.FieldType)).before args0 about1 = true := code_word (m := ⟨3, 0⟩) (meth := k3m0) (c := k3c0) (by decide +kernel) rfl rfl rfl (by decide +kernel)
set_option maxRecDepth 65536 in
theorem w_c2 : (Jvm.Cond.code ({ cls := "java/lang/Record", name := "<init>", desc := "()V" } : Jvm.MethodName) jdk_30_method_1_code (1 : Nat) (Option.none : Option Jvm.ClassFile.FieldType)).before args0 about1 = true := code_word (m := ⟨2, 0⟩) (meth := k2m0) (c := k2c0) (by decide +kernel) rfl rfl rfl (by decide +kernel)
set_option maxRecDepth 65536 in
theorem w_c3 : (Jvm.Cond.code ({ cls := "java/lang/Object", name := "<init>", desc := "()V" } : Jvm.MethodName) object_method_1_code (1 : Nat) (Option.none : Option Jvm.ClassFile.FieldType)).before args0 about1 = true := code_word (m := ⟨0, 0⟩) (meth := k0m0) (c := k0c0) (by decide +kernel) rfl rfl rfl (by decide +kernel)
set_option maxRecDepth 65536 in
theorem w_c4 : (Jvm.Cond.code ({ cls := "com/example/retiremetric/retiremetric/model/InputRanges", name := "requirePositive", desc := "(Ljava/lang/String;D)V" } : Jvm.MethodName) prog_35_method_2_code (3 : Nat) (Option.none : Option Jvm.ClassFile.FieldType)).before args0 about1 = true := code_word (m := ⟨10, 1⟩) (meth := k10m1) (c := k10c1) (by decide +kernel) rfl rfl rfl (by decide +kernel)
set_option maxRecDepth 65536 in
theorem w_c5 : (Jvm.Cond.code ({ cls := "com/example/retiremetric/retiremetric/model/preferences/Preferences", name := "residualBenefitWeight", desc := "()D" } : Jvm.MethodName) prog_44_method_3_code (1 : Nat) (Option.some Jvm.ClassFile.FieldType.double)).before args0 about1 = true := code_word (m := ⟨3, 1⟩) (meth := k3m1) (c := k3c1) (by decide +kernel) rfl rfl rfl (by decide +kernel)
def codes1 : List Jvm.Cond := [Jvm.Cond.code x code maxLocals ret, Jvm.Cond.code ({ cls := "com/example/retiremetric/retiremetric/model/preferences/Preferences", name := "<init>", desc := "(DDD)V" } : Jvm.MethodName) prog_44_method_1_code (7 : Nat) (Option.none : Option Jvm.ClassFile.FieldType), Jvm.Cond.code ({ cls := "java/lang/Record", name := "<init>", desc := "()V" } : Jvm.MethodName) jdk_30_method_1_code (1 : Nat) (Option.none : Option Jvm.ClassFile.FieldType), Jvm.Cond.code ({ cls := "java/lang/Object", name := "<init>", desc := "()V" } : Jvm.MethodName) object_method_1_code (1 : Nat) (Option.none : Option Jvm.ClassFile.FieldType), Jvm.Cond.code ({ cls := "com/example/retiremetric/retiremetric/model/InputRanges", name := "requirePositive", desc := "(Ljava/lang/String;D)V" } : Jvm.MethodName) prog_35_method_2_code (3 : Nat) (Option.none : Option Jvm.ClassFile.FieldType), Jvm.Cond.code ({ cls := "com/example/retiremetric/retiremetric/model/preferences/Preferences", name := "residualBenefitWeight", desc := "()D" } : Jvm.MethodName) prog_44_method_3_code (1 : Nat) (Option.some Jvm.ClassFile.FieldType.double)]
set_option maxRecDepth 65536 in
theorem codes_eq : words1.filter isCode = codes1 := rfl
theorem w_codes : ∀ c ∈ words1.filter isCode, c.before args0 about1 = true := by
  rw [codes_eq]
  intro c hc
  simp only [codes1, List.mem_cons, List.not_mem_nil, or_false] at hc
  rcases hc with rfl | rfl | rfl | rfl | rfl | rfl
  · exact w_c0
  · exact w_c1
  · exact w_c2
  · exact w_c3
  · exact w_c4
  · exact w_c5
set_option maxRecDepth 65536 in
theorem w_t1 : (words1.take 24).all (fun c => isCode c || c.before args0 about1) = true := by decide +kernel
set_option maxRecDepth 65536 in
theorem w_t2 : (words1.drop 24).all (fun c => isCode c || c.before args0 about1) = true := by decide +kernel
theorem w_tables : (allAtoms (Jvm.Cond.code x code maxLocals ret :: tables_1)).before args0 about1 = true := by
  rw [allAtoms_all]
  show words1.all (fun c => c.before args0 about1) = true
  refine all_split ?_ w_codes
  rw [← List.take_append_drop 24 words1, List.all_append, w_t1, w_t2]
  rfl
set_option maxRecDepth 65536 in
theorem w_case : (Jvm.Cond.and given_1 narrow_1).before args0 about1 = true := by decide +kernel
theorem w_applies : (headSpec (Jvm.Cond.code x code maxLocals ret :: tables_1) room_1).applies x e0.platform about1 = true :=
  (Spec.applies_iff w_frames).mpr ⟨w_running, w_runnable, w_alone, w_named, w_hears, w_ripe, w_room, w_tables⟩
theorem atStart : AtStart classFile x code maxLocals ret World_1 tables_1 room_1 Calls_1 rest_1 Pre_1 launch0 p0 e0 about1 theMethod args0 below0 :=
  ⟨lists_1, trivial, launch0.admits_env _ _ _, launch0.least_env, fairChoices_fair.cas, fairChoices_fair.clock, w_frames, w_args, w_heap, w_applies, trivial, trivial, w_case⟩
end start1
theorem witness_1 : WitnessClaimed_1 := ⟨start1.p0, start1.e0, start1.about1, start1.theMethod, start1.args0, start1.below0, start1.atStart⟩
end Jvm.Pilot.@@N@@
