import JvmDerived
import JvmDerived.Pilot.@@N@@Statement
import JvmDerived.Pilot.@@N@@Code
set_option linter.unusedVariables false
set_option linter.unusedSimpArgs false
namespace Jvm.RoadKit
open Sem ClassFile Op Lib Jvm.Stand Jvm.Free Jvm.LawKit
section New
variable {p : Program} {l : Launch} {e : Env} {R : Room} {s : State} {m : MethodId} {args : Array Value} {below : List Frame} {meth : Method} {c : Code} {T : State} {locs : List Loc} {cells slots : Nat}
theorem retI (X : Stand p l e R s m args below meth c T locs cells slots) (hx : p.tables.exec = Jvm.exec) {pc : Nat} {Ls : Array Slot} {z : Int32} {rest : List Value} (hret : meth.sig.returnType = some .int) (hd : decode c.code pc = .ok (.ireturn, 1)) {fs : List Frame}
    (hl : ∀ (f : JFrame) (acts : List Action), f.method = m → f.locked = none → f.entered = [] → (doReturn e (T.setTop f) acts (some (.int z))).1 = T.setFrames fs) : Steps p.tables e below (T.setTop (mkF m pc Ls (.int z :: rest))) (T.setFrames fs) := by
  have hm' : T.vm.method? m = some meth := X.method'
  have hn : narrow .int (.int z) = .int z := rfl
  show Steps p.tables e below (T.setTop { method := m, pc := pc, locals := Ls, stack := _ :: rest, locked := none }) _
  jvm_step X.here [X.here.top, hx, hd, hm', hret, hn]
  first | (intro acts; rw [hl _ acts rfl rfl rfl]) | rw [hl _ _ rfl rfl rfl]
  exact Steps.refl _
theorem gwLrem {tb : Tables} [Ours tb] {e : Env} {below : List Frame} {T target : State} {m : MethodId} {c : Code} {g : JFrame} (h : At T m c below) (hx : tb.exec = Jvm.exec) (hg : g.method = m) {x y : Int64} {rest : List Value} (hd : decode c.code g.pc = .ok (.lrem, 1)) (hs : g.stack = .long y :: .long x :: rest) (hy : y ≠ 0)
    (hr : Steps tb e below (T.setTop { g with pc := g.pc + 1, stack := .long (x % y) :: rest }) target) : Steps tb e below (T.setTop g) target :=
  XS.lrem h hx hg hd hs hy (by rw [lrem_mod]; exact hr)
theorem gwIrem {tb : Tables} [Ours tb] {e : Env} {below : List Frame} {T target : State} {m : MethodId} {c : Code} {g : JFrame} (h : At T m c below) (hx : tb.exec = Jvm.exec) (hg : g.method = m) {x y : Int32} {rest : List Value} (hd : decode c.code g.pc = .ok (.irem, 1)) (hs : g.stack = .int y :: .int x :: rest) (hy : y ≠ 0)
    (hr : Steps tb e below (T.setTop { g with pc := g.pc + 1, stack := .int (x % y) :: rest }) target) : Steps tb e below (T.setTop g) target :=
  XS.irem h hx hg hd hs hy (by rw [Jvm.irem_eq_mod]; exact hr)
end New
end Jvm.RoadKit
@@BLOCK:NumsL.lean.txt@@
namespace Jvm.Pilot.@@N@@
open Jvm Jvm.ClassFile Sem Op Lib Jvm.Free Jvm.Stand Jvm.LawKit Jvm.RoadKit Bundle Jvm.Pilot.@@N@@.Jvm.D

section DVs
open Jvm.FP.Core
/-- the double a is finite and is the number i * 2 ^ (n - 1074) -/
def DV (i : Int) (n : Nat) (a : UInt64) : Prop := (∃ s c q, val64 a = .fin s c q) ∧ zval b64 (val64 a) = i * ((2 ^ n : Nat) : Int)
theorem dv_up {i : Int} {n k : Nat} {a : UInt64} (h : DV i (n + k) a) : DV (i * ((2 ^ k : Nat) : Int)) n a := by
  refine ⟨h.1, ?_⟩
  rw [h.2, Nat.pow_add, Int.mul_assoc]
  congr 1
  rw [Nat.mul_comm]; push_cast; first | rfl | done
theorem round_units {s : Bool} {c : Nat} {q b : Int} {M n : Nat} (hb : b ≤ q) (h : c * 2 ^ (q - b).toNat = M * 2 ^ n) (hM : M < 2 ^ 53) (h1 : -1074 ≤ (n : Int) + b) (h2 : (n : Int) + b ≤ 971) :
    ∃ c' q', round b64 (.fin s c q) = .fin s c' q' ∧ inUnits c' q' b64.qmin = M * 2 ^ ((n : Int) + b + 1074).toNat := by
  have e : round b64 (.fin s c q) = round b64 (.fin s M ((n : Int) + b)) := by
    show roundRatio b64 s c 1 q = roundRatio b64 s M 1 ((n : Int) + b)
    refine roundRatio_congr (by decide) (by decide) ?_
    by_cases hc : q ≤ (n : Int) + b
    · have e1 : (q - ((n : Int) + b)).toNat = 0 := by omega
      have e2 : n = (q - b).toNat + ((n : Int) + b - q).toNat := by omega
      rw [e1]
      have h3 : c * 2 ^ (q - b).toNat = (M * 2 ^ ((n : Int) + b - q).toNat) * 2 ^ (q - b).toNat := by
        rw [h, Nat.mul_assoc, ← Nat.pow_add, Nat.add_comm, ← e2]
      have h4 := Nat.eq_of_mul_eq_mul_right (Nat.two_pow_pos _) h3
      rw [Nat.pow_zero, Nat.mul_one, Nat.mul_one, Nat.mul_one, h4]
    · have e1 : ((n : Int) + b - q).toNat = 0 := by omega
      have e2 : (q - b).toNat = (q - ((n : Int) + b)).toNat + n := by omega
      rw [e1]
      have h3 : (c * 2 ^ (q - ((n : Int) + b)).toNat) * 2 ^ n = M * 2 ^ n := by rw [Nat.mul_assoc, ← Nat.pow_add, ← e2, h]
      have h4 := Nat.eq_of_mul_eq_mul_right (Nat.two_pow_pos _) h3
      rw [Nat.pow_zero, Nat.mul_one, Nat.mul_one, Nat.mul_one, h4]
  obtain ⟨c', q', r1, r2⟩ := round_exact good_b64 s (c := M) (q := (n : Int) + b) hM (by rw [qmin_b64]; exact h1) (by show _ ≤ b64.qmax; rw [show b64.qmax = 971 by decide]; exact h2)
  refine ⟨c', q', e.trans r1, r2.trans ?_⟩
  unfold inUnits
  rw [qmin_b64]
  congr 3
theorem signed_natAbs {s : Bool} {c : Nat} {z : Int} (h : signed s c = z) : c = z.natAbs := by rw [← h, natAbs_signed]
theorem signed_of_natAbs {s : Bool} {c M k : Nat} {z : Int} (h : signed s c = z * ((2 ^ k : Nat) : Int)) (n : Nat) : signed s (z.natAbs * 2 ^ n) = z * ((2 ^ n : Nat) : Int) := by
  have hc := signed_natAbs h
  have hk : 0 < (2 ^ k : Nat) := Nat.two_pow_pos k
  rw [signed_mul]
  congr 1
  by_cases hz : z = 0
  · subst hz; exact signed_zero s
  · unfold signed at h ⊢
    cases s
    · simp only [Bool.false_eq_true, if_false] at h ⊢
      have : 0 ≤ z := by
        by_cases h0 : 0 ≤ z
        · exact h0
        · have := Int.mul_neg_of_neg_of_pos (show z < 0 by omega) (show (0 : Int) < ((2 ^ k : Nat) : Int) by omega)
          omega
      omega
    · simp only [if_true] at h ⊢
      have : z ≤ 0 := by
        by_cases h0 : z ≤ 0
        · exact h0
        · have := Int.mul_pos (show 0 < z by omega) (show (0 : Int) < ((2 ^ k : Nat) : Int) by omega)
          omega
      omega
theorem dv_round {a : UInt64} {s : Bool} {c : Nat} {q b : Int} {z : Int} {n : Nat} (ha : val64 a = round b64 (.fin s c q)) (hb : b ≤ q) (h : signed s (c * 2 ^ (q - b).toNat) = z * ((2 ^ n : Nat) : Int)) (hz : z.natAbs < 2 ^ 53)
    (h1 : -1074 ≤ (n : Int) + b) (h2 : (n : Int) + b ≤ 971) {N : Nat} (hN : (N : Int) = (n : Int) + b + 1074) : DV z N a := by
  have e1 : c * 2 ^ (q - b).toNat = z.natAbs * 2 ^ n := by
    rw [signed_natAbs h, Int.natAbs_mul, Int.natAbs_natCast]
  obtain ⟨c', q', r1, r2⟩ := round_units (s := s) hb e1 hz h1 h2
  rw [show ((n : Int) + b + 1074).toNat = N by omega] at r2
  refine ⟨⟨s, c', q', ha.trans r1⟩, ?_⟩
  rw [ha, r1]
  show signed s (inUnits c' q' b64.qmin) = _
  rw [r2]
  exact signed_of_natAbs (M := 0) h N
theorem dv_fits {a : UInt64} {s : Bool} {c : Nat} {q : Int} (h : val64 a = .fin s c q) : Jvm.FP.Core.fits b64 (.fin s c q) := h ▸ val64_fits a
theorem dv_l2d {a : Int64} (h : a.toInt.natAbs < 2 ^ 53) : DV a.toInt 1074 (FP.l2d a) := by
  refine dv_round (b := -1074) (n := 1074) (val64_l2d a) (by omega) ?_ h (by omega) (by omega) (by omega)
  show signed (decide (a.toInt < 0)) (a.toInt.natAbs * 2 ^ 1074) = _
  rw [signed_mul]
  congr 1
  unfold signed
  by_cases h : a.toInt < 0 <;> simp [h] <;> omega
theorem dv_i2d (a : Int32) : DV a.toInt 1074 (FP.i2d a) := by
  refine dv_round (b := -1074) (n := 1074) (val64_i2d a) (by omega) ?_ (by have := int32_abs a; omega) (by omega) (by omega) (by omega)
  show signed (decide (a.toInt < 0)) (a.toInt.natAbs * 2 ^ 1074) = _
  rw [signed_mul]
  congr 1
  unfold signed
  by_cases h : a.toInt < 0 <;> simp [h] <;> omega
theorem dv_add {i j : Int} {n : Nat} {a b : UInt64} (ha : DV i n a) (hb : DV j n b) (h : (i + j).natAbs < 2 ^ 53) (hn : n ≤ 2045) : DV (i + j) n (FP.dadd a b) := by
  obtain ⟨⟨s, c, q, va⟩, za⟩ := ha
  obtain ⟨⟨t, d, r, vb⟩, zb⟩ := hb
  obtain ⟨sg, k, e, e1, e2, e3⟩ := sum_units (dv_fits va) (dv_fits vb)
  rw [va] at za
  rw [vb] at zb
  rw [za, zb, ← Int.add_mul] at e3
  refine dv_round (s := sg) (c := k) (q := e) (b := -1074) (n := n) ?_ (by rw [qmin_b64] at e2; exact e2) ?_ h (by omega) (by omega) (by omega)
  · show val64 (dadd a b) = _
    rw [val64_dadd, va, vb, e1]
  · rw [← e3]; unfold inUnits; rw [qmin_b64]
theorem dv_cmp {i j : Int} {n : Nat} {a b : UInt64} (ha : DV i n a) (hb : DV j n b) : FP.dcmp a b = some (compare i j) := by
  obtain ⟨⟨s, c, q, va⟩, za⟩ := ha
  obtain ⟨⟨t, d, r, vb⟩, zb⟩ := hb
  show order (val64 a) (val64 b) = _
  rw [order_zval good_b64 (val64_fits a) (val64_fits b) (by rw [va]; simp) (by rw [vb]; simp), za, zb, compare_mul_pos _ _ _ (by have := Nat.two_pow_pos n; omega)]
theorem dv_of_bits {i : Int} {n : Nat} {a : UInt64} {s : Bool} {c : Nat} {q : Int} (h : val64 a = .fin s c q) (hz : zval b64 (.fin s c q) = i * ((2 ^ n : Nat) : Int)) : DV i n a := ⟨⟨s, c, q, h⟩, by rw [h, hz]⟩
theorem xor63_mod (n : Nat) : (n ^^^ 2 ^ 63) % 2 ^ 63 = n % 2 ^ 63 := by
  rw [Nat.xor_mod_two_pow, Nat.mod_self, Nat.xor_zero]
theorem xor63_div (n : Nat) (h : n < 2 ^ 64) : (n ^^^ 2 ^ 63) / 2 ^ 63 = 1 - n / 2 ^ 63 := by
  have h1 : (n ^^^ 2 ^ 63) / 2 ^ 63 = (n / 2 ^ 63) ^^^ 1 := by
    rw [← Nat.shiftRight_eq_div_pow, Nat.shiftRight_xor_distrib, Nat.shiftRight_eq_div_pow, Nat.shiftRight_eq_div_pow]
  rw [h1]
  have h2 : n / 2 ^ 63 = 0 ∨ n / 2 ^ 63 = 1 := by omega
  rcases h2 with h2 | h2 <;> rw [h2] <;> rfl
theorem dneg_toNat (a : UInt64) : (FP.dneg a).toNat = a.toNat ^^^ 2 ^ 63 := by
  show (a ^^^ 0x8000000000000000).toNat = _
  rw [UInt64.toNat_xor]
  rfl
theorem val_dneg (a : UInt64) : val64 (FP.dneg a) = negate (val64 a) := by
  have hm : mag b64 (FP.dneg a).toNat = mag b64 a.toNat := by
    rw [mag_toNat64, mag_toNat64, dneg_toNat, xor63_mod]
  have hs : fieldS b64 (FP.dneg a).toNat = !fieldS b64 a.toNat := by
    rw [fieldS_mag b64 (lt_full64 _), fieldS_mag b64 (lt_full64 _), half_b64, dneg_toNat]
    have h0 := a.toNat_lt
    have h1 := xor63_div a.toNat h0
    have h2 := xor63_mod a.toNat
    generalize a.toNat ^^^ 2 ^ 63 = y at h1 h2
    by_cases h3 : 2 ^ 63 ≤ a.toNat
    · have : ¬ 2 ^ 63 ≤ y := by omega
      simp [h3, this]
    · have : 2 ^ 63 ≤ y := by omega
      simp [h3, this]
  unfold val64 Jvm.FP.Core.decode
  rw [fieldE_mag, fieldE_mag, fieldT_mag, fieldT_mag, hm, hs]
  split
  · split <;> rfl
  · split <;> rfl
theorem dv_neg {i : Int} {n : Nat} {a : UInt64} (ha : DV i n a) : DV (-i) n (FP.dneg a) := by
  obtain ⟨⟨s, c, q, va⟩, za⟩ := ha
  refine ⟨⟨!s, c, q, by rw [val_dneg, va]; rfl⟩, ?_⟩
  rw [val_dneg, zval_negate, za, Int.neg_mul]
theorem dv_noNaN {i : Int} {n : Nat} {a : UInt64} (ha : DV i n a) : Jvm.Free.Fl.NoNaN64 a := by
  obtain ⟨⟨s, c, q, va⟩, za⟩ := ha
  exact (Jvm.Free.Fl.fin64_core.mpr ⟨s, c, q, va⟩).noNaN
end DVs

section DV2
open Jvm.FP.Core
theorem dv_down {i : Int} {n k : Nat} {a : UInt64} (h : DV (i * ((2 ^ k : Nat) : Int)) n a) : DV i (n + k) a := by
  refine ⟨h.1, ?_⟩
  rw [h.2, Nat.pow_add, Int.mul_assoc]
  congr 1
  rw [Nat.mul_comm]; push_cast; rfl
theorem dv_sub {i j : Int} {n : Nat} {a b : UInt64} (ha : DV i n a) (hb : DV j n b) (h : (i - j).natAbs < 2 ^ 53) (hn : n ≤ 2045) : DV (i - j) n (FP.dsub a b) := by
  obtain ⟨⟨s, c, q, va⟩, za⟩ := ha
  obtain ⟨⟨t, d, r, vb⟩, zb⟩ := hb
  have fn : Jvm.FP.Core.fits b64 (.fin (!t) d r) := show Jvm.FP.Core.fits b64 (.fin t d r) from dv_fits vb
  have zn : zval b64 (.fin (!t) d r) = -(j * ((2 ^ n : Nat) : Int)) := by
    rw [← zb, vb]; exact zval_negate b64 (.fin t d r)
  obtain ⟨sg, k, e, e1, e2, e3⟩ := sum_units (dv_fits va) fn
  rw [va] at za
  rw [za, zn, ← Int.sub_eq_add_neg, ← Int.sub_mul] at e3
  refine dv_round (s := sg) (c := k) (q := e) (b := -1074) (n := n) ?_ (by rw [qmin_b64] at e2; exact e2) ?_ h (by omega) (by omega) (by omega)
  · show val64 (dsub a b) = _
    rw [val64_dsub, va, vb, show negate (.fin t d r) = .fin (!t) d r from rfl, e1]
  · rw [← e3]; unfold inUnits; rw [qmin_b64]
theorem zval_fin (s : Bool) (c : Nat) (q : Int) : zval b64 (.fin s c q) = signed s (inUnits c q b64.qmin) := rfl
theorem dv_mul {i j : Int} {n k N : Nat} {a b : UInt64} (ha : DV i n a) (hb : DV j k b) (h : (i * j).natAbs < 2 ^ 53) (hN : N + 1074 = n + k) (hN2 : N ≤ 2045) : DV (i * j) N (FP.dmul a b) := by
  obtain ⟨⟨s, c, q, va⟩, za⟩ := ha
  obtain ⟨⟨t, d, r, vb⟩, zb⟩ := hb
  obtain ⟨e1, e2, e3⟩ := product_units (dv_fits va) (dv_fits vb)
  rw [va, zval_fin] at za
  rw [vb, zval_fin] at zb
  refine dv_round (s := s != t) (c := c * d) (q := q + r) (b := -2148) (n := n + k) ?_ (by rw [qmin_b64] at e2; omega) ?_ h (by omega) (by omega) (by omega)
  · show val64 (dmul a b) = _
    rw [val64_dmul, va, vb, e1]
  · have e4 : c * d * 2 ^ (q + r - -2148).toNat = inUnits c q b64.qmin * inUnits d r b64.qmin := by
      rw [show (-2148 : Int) = 2 * b64.qmin by decide]; exact e3
    rw [e4, signed_xor, za, zb, Nat.pow_add, Int.natCast_mul]
    ac_rfl
theorem signed_of_pos {s : Bool} {c : Nat} {z P : Int} (hP : 0 < P) (h : signed s c = z * P) (n : Nat) : signed s (z.natAbs * n) = z * (n : Int) := by
  rw [signed_mul]
  congr 1
  by_cases hz : z = 0
  · subst hz; exact signed_zero s
  · unfold signed at h ⊢
    cases s
    · simp only [Bool.false_eq_true, if_false] at h ⊢
      have : 0 ≤ z := by
        by_cases h0 : 0 ≤ z
        · exact h0
        · have := Int.mul_neg_of_neg_of_pos (show z < 0 by omega) hP
          omega
      omega
    · simp only [if_true] at h ⊢
      have : z ≤ 0 := by
        by_cases h0 : z ≤ 0
        · exact h0
        · have := Int.mul_pos (show 0 < z by omega) hP
          omega
      omega
theorem pow_cancel {x y A B : Nat} (h : x * 2 ^ A = y * 2 ^ B) : x * 2 ^ (A - B) = y * 2 ^ (B - A) := by
  by_cases hc : B ≤ A
  · rw [show B - A = 0 by omega, Nat.pow_zero, Nat.mul_one]
    refine Nat.eq_of_mul_eq_mul_right (Nat.two_pow_pos B) ?_
    rw [Nat.mul_assoc, ← Nat.pow_add, show A - B + B = A by omega, h]
  · rw [show A - B = 0 by omega, Nat.pow_zero, Nat.mul_one]
    refine Nat.eq_of_mul_eq_mul_right (Nat.two_pow_pos A) ?_
    rw [Nat.mul_assoc, ← Nat.pow_add, show B - A + A = B by omega, h]
/-- the quotient's datum, by the values alone -/
theorem dv_quot {i j : Int} {n k : Nat} {a b : UInt64} (ha : DV i n a) (hb : DV j k b) (hj : j ≠ 0) :
    ∃ s : Bool, val64 (FP.ddiv a b) = roundRatio b64 s i.natAbs j.natAbs ((n : Int) - k) ∧ ∀ m : Nat, signed s ((i * j).natAbs * m) = i * j * (m : Int) := by
  obtain ⟨⟨s, c, q, va⟩, za⟩ := ha
  obtain ⟨⟨t, d, r, vb⟩, zb⟩ := hb
  have fa := dv_fits va
  have fb := dv_fits vb
  have h1 := fa.2.1
  have h2 := fb.2.1
  rw [qmin_b64] at h1 h2
  rw [va, zval_fin] at za
  rw [vb, zval_fin] at zb
  have ea : inUnits c q b64.qmin = i.natAbs * 2 ^ n := by rw [signed_natAbs za, Int.natAbs_mul, Int.natAbs_natCast]
  have eb : inUnits d r b64.qmin = j.natAbs * 2 ^ k := by rw [signed_natAbs zb, Int.natAbs_mul, Int.natAbs_natCast]
  have hd0 : d ≠ 0 := fun z => by
    rw [z] at eb
    have : j.natAbs * 2 ^ k = 0 := by rw [← eb]; unfold inUnits; simp
    have h3 := Nat.two_pow_pos k
    rcases Nat.mul_eq_zero.mp this with h | h <;> omega
  refine ⟨s != t, ?_, ?_⟩
  · show val64 (ddiv a b) = _
    rw [val64_ddiv, va, vb]
    show (if d = 0 then _ else roundRatio b64 (s != t) c d (q - r)) = _
    rw [if_neg hd0]
    refine roundRatio_congr (by omega) (by omega) ?_
    have e1 : c * 2 ^ (q + 1074).toNat = i.natAbs * 2 ^ n := by rw [← ea]; unfold inUnits; rw [qmin_b64]; congr 2
    have e2 : d * 2 ^ (r + 1074).toNat = j.natAbs * 2 ^ k := by rw [← eb]; unfold inUnits; rw [qmin_b64]; congr 2
    have e3 : c * j.natAbs * 2 ^ ((q + 1074).toNat + k) = i.natAbs * d * 2 ^ (n + (r + 1074).toNat) := by
      calc c * j.natAbs * 2 ^ ((q + 1074).toNat + k) = (c * 2 ^ (q + 1074).toNat) * (j.natAbs * 2 ^ k) := by rw [Nat.pow_add]; ac_rfl
        _ = (i.natAbs * 2 ^ n) * (d * 2 ^ (r + 1074).toNat) := by rw [e1, e2]
        _ = i.natAbs * d * 2 ^ (n + (r + 1074).toNat) := by rw [Nat.pow_add]; ac_rfl
    have e4 := pow_cancel e3
    rw [show (q - r - ((n : Int) - k)).toNat = (q + 1074).toNat + k - (n + (r + 1074).toNat) by omega, show ((n : Int) - k - (q - r)).toNat = n + (r + 1074).toNat - ((q + 1074).toNat + k) by omega]
    exact e4
  · intro m
    have h3 : signed (s != t) (inUnits c q b64.qmin * inUnits d r b64.qmin) = i * j * ((2 ^ n * 2 ^ k : Nat) : Int) := by
      rw [signed_xor, za, zb, Int.natCast_mul]; ac_rfl
    exact signed_of_pos (by have := Nat.mul_pos (Nat.two_pow_pos n) (Nat.two_pow_pos k); omega) h3 m
theorem dv_div {i j z : Int} {n k N : Nat} {a b : UInt64} (ha : DV i n a) (hb : DV j k b) (hj : j ≠ 0) (h : i * ((2 ^ (n + 1074) : Nat) : Int) = z * j * ((2 ^ (N + k) : Nat) : Int)) (hz : z.natAbs < 2 ^ 53) (hN : N ≤ 2045) : DV z N (FP.ddiv a b) := by
  obtain ⟨s, e1, e2⟩ := dv_quot ha hb hj
  have hn : i.natAbs * 2 ^ (n + 1074) = z.natAbs * j.natAbs * 2 ^ (N + k) := by
    have := congrArg Int.natAbs h
    rw [Int.natAbs_mul, Int.natAbs_mul, Int.natAbs_mul, Int.natAbs_natCast, Int.natAbs_natCast] at this
    exact this
  have e3 : roundRatio b64 s i.natAbs j.natAbs ((n : Int) - k) = round b64 (.fin s z.natAbs ((N : Int) - 1074)) := by
    show _ = roundRatio b64 s z.natAbs 1 ((N : Int) - 1074)
    refine roundRatio_congr (by omega) (by decide) ?_
    have e4 := pow_cancel hn
    rw [show ((n : Int) - k - ((N : Int) - 1074)).toNat = n + 1074 - (N + k) by omega, show ((N : Int) - 1074 - ((n : Int) - k)).toNat = N + k - (n + 1074) by omega, Nat.mul_one]
    exact e4
  refine dv_round (s := s) (c := z.natAbs) (q := (N : Int) - 1074) (b := -1074) (n := N) (e1.trans e3) (by omega) ?_ hz (by omega) (by omega) (by omega)
  rw [show ((N : Int) - 1074 - -1074).toNat = N by omega]
  by_cases hz0 : z = 0
  · subst hz0; simp [signed_zero]
  · have e5 := e2 1
    rw [Nat.mul_one] at e5
    have hp : 0 < j * j * ((2 ^ (N + k) : Nat) : Int) := by
      refine Int.mul_pos ?_ (by have := Nat.two_pow_pos (N + k); omega)
      rcases Int.lt_or_gt_of_ne hj with q | q
      · exact Int.mul_pos_of_neg_of_neg q q
      · exact Int.mul_pos q q
    have e6 := e2 (2 ^ (n + 1074))
    have e7 : i * j * ((2 ^ (n + 1074) : Nat) : Int) = z * (j * j * ((2 ^ (N + k) : Nat) : Int)) := by
      rw [Int.mul_right_comm, h, Int.mul_right_comm, Int.mul_assoc z j j, Int.mul_assoc]
    rw [e7] at e6
    exact signed_of_pos hp e6 _
/-- two quotients of one value compare as equal -/
theorem dv_div_eq {i j i' j' : Int} {n k n' k' : Nat} {a b a' b' : UInt64} (ha : DV i n a) (hb : DV j k b) (ha' : DV i' n' a') (hb' : DV j' k' b') (hi : 0 ≤ i) (hi' : 0 ≤ i') (hj : 0 < j) (hj' : 0 < j')
    (h : i.natAbs * j'.natAbs * 2 ^ (n + k') = i'.natAbs * j.natAbs * 2 ^ (n' + k)) (hf : ∃ s c q, val64 (FP.ddiv a b) = .fin s c q) : FP.dcmp (FP.ddiv a b) (FP.ddiv a' b') = some .eq := by
  obtain ⟨s, e1, e2⟩ := dv_quot ha hb (by omega)
  obtain ⟨s', e1', e2'⟩ := dv_quot ha' hb' (by omega)
  have e3 : ∀ σ, roundRatio b64 σ i.natAbs j.natAbs ((n : Int) - k) = roundRatio b64 σ i'.natAbs j'.natAbs ((n' : Int) - k') := fun σ => by
    refine roundRatio_congr (by omega) (by omega) ?_
    have e4 := pow_cancel h
    rw [show ((n : Int) - k - ((n' : Int) - k')).toNat = n + k' - (n' + k) by omega, show ((n' : Int) - k' - ((n : Int) - k)).toNat = n' + k - (n + k') by omega]
    exact e4
  by_cases hi0 : i = 0
  · have hi0' : i' = 0 := by
      have h' : i'.natAbs * j.natAbs * 2 ^ (n' + k) = 0 := by rw [← h, hi0]; simp
      have p1 := Nat.two_pow_pos (n' + k)
      rcases Nat.mul_eq_zero.mp h' with h1 | h1
      · rcases Nat.mul_eq_zero.mp h1 with h2 | h2 <;> omega
      · omega
    have z1 : DV 0 0 (FP.ddiv a b) := by
      have q := dv_div ha hb (by omega) (z := 0) (N := 0) (by rw [hi0]; simp) (by decide) (by decide); exact q
    have z2 : DV 0 0 (FP.ddiv a' b') := by
      have q := dv_div ha' hb' (by omega) (z := 0) (N := 0) (by rw [hi0']; simp) (by decide) (by decide); exact q
    rw [dv_cmp z1 z2]; rfl
  · have hi0' : i' ≠ 0 := fun z => by
      have h' : i.natAbs * j'.natAbs * 2 ^ (n + k') = 0 := by rw [h, z]; simp
      have p1 := Nat.two_pow_pos (n + k')
      rcases Nat.mul_eq_zero.mp h' with h1 | h1
      · rcases Nat.mul_eq_zero.mp h1 with h2 | h2 <;> omega
      · omega
    have sg : ∀ {σ : Bool} {u v : Int}, 0 < u → 0 < v → (∀ m : Nat, signed σ ((u * v).natAbs * m) = u * v * (m : Int)) → σ = false := by
      intro σ u v hu hv hh
      have q := hh 1
      have p := Int.mul_pos hu hv
      cases σ
      · rfl
      · unfold signed at q; simp at q; omega
    have s0 := sg (show 0 < i by omega) hj e2
    have s0' := sg (show 0 < i' by omega) hj' e2'
    subst s0 s0'
    have ev : val64 (FP.ddiv a b) = val64 (FP.ddiv a' b') := by rw [e1, e1', e3]
    obtain ⟨s, c, q, hv⟩ := hf
    have : FP.ddiv a b = FP.ddiv a' b' := val64_inj (by rw [hv]; simp) ev
    rw [← this]
    exact dcmp_self (by show val64 (FP.ddiv a b) ≠ _; rw [hv]; simp)
end DV2

section DV3
open Jvm.FP.Core
/-- dv_round without the upper bound on the exponent: the number must fit all the same -/
theorem dv_roundX {a : UInt64} {s : Bool} {c : Nat} {q b : Int} {z : Int} {n N : Nat} (ha : val64 a = round b64 (.fin s c q)) (hb : b ≤ q) (h : signed s (c * 2 ^ (q - b).toNat) = z * ((2 ^ n : Nat) : Int))
    (h1 : -1074 ≤ (n : Int) + b) (hb2 : b ≤ 971) (hN : (N : Int) = (n : Int) + b + 1074) (hz : z.natAbs * 2 ^ (N - 2045) < 2 ^ 53) : DV z N a := by
  by_cases hc : (n : Int) + b ≤ 971
  · rw [show N - 2045 = 0 by omega, Nat.pow_zero, Nat.mul_one] at hz
    exact dv_round ha hb h hz h1 hc hN
  · obtain ⟨k, hk⟩ : ∃ k : Nat, k = N - 2045 := ⟨_, rfl⟩
    rw [← hk] at hz
    have e1 : z * ((2 ^ n : Nat) : Int) = z * ((2 ^ k : Nat) : Int) * ((2 ^ (n - k) : Nat) : Int) := by
      rw [Int.mul_assoc, ← Int.natCast_mul, ← Nat.pow_add, show k + (n - k) = n by omega]
    have r := dv_round (z := z * ((2 ^ k : Nat) : Int)) (n := n - k) (N := N - k) ha hb (h.trans e1) (by rw [Int.natAbs_mul, Int.natAbs_natCast]; exact hz) (by omega) (by omega) (by omega)
    have r2 := dv_down r
    rw [show N - k + k = N by omega] at r2
    exact r2
theorem dv_addX {i j : Int} {n : Nat} {a b : UInt64} (ha : DV i n a) (hb : DV j n b) (h : (i + j).natAbs * 2 ^ (n - 2045) < 2 ^ 53) : DV (i + j) n (FP.dadd a b) := by
  obtain ⟨⟨s, c, q, va⟩, za⟩ := ha
  obtain ⟨⟨t, d, r, vb⟩, zb⟩ := hb
  obtain ⟨sg, k, e, e1, e2, e3⟩ := sum_units (dv_fits va) (dv_fits vb)
  rw [va] at za
  rw [vb] at zb
  rw [za, zb, ← Int.add_mul] at e3
  refine dv_roundX (s := sg) (c := k) (q := e) (b := -1074) (n := n) ?_ (by rw [qmin_b64] at e2; exact e2) ?_ (by omega) (by omega) (by omega) h
  · show val64 (dadd a b) = _
    rw [val64_dadd, va, vb, e1]
  · rw [← e3]; unfold inUnits; rw [qmin_b64]
theorem dv_subX {i j : Int} {n : Nat} {a b : UInt64} (ha : DV i n a) (hb : DV j n b) (h : (i - j).natAbs * 2 ^ (n - 2045) < 2 ^ 53) : DV (i - j) n (FP.dsub a b) := by
  obtain ⟨⟨s, c, q, va⟩, za⟩ := ha
  obtain ⟨⟨t, d, r, vb⟩, zb⟩ := hb
  have fn : Jvm.FP.Core.fits b64 (.fin (!t) d r) := show Jvm.FP.Core.fits b64 (.fin t d r) from dv_fits vb
  have zn : zval b64 (.fin (!t) d r) = -(j * ((2 ^ n : Nat) : Int)) := by
    rw [← zb, vb]; exact zval_negate b64 (.fin t d r)
  obtain ⟨sg, k, e, e1, e2, e3⟩ := sum_units (dv_fits va) fn
  rw [va] at za
  rw [za, zn, ← Int.sub_eq_add_neg, ← Int.sub_mul] at e3
  refine dv_roundX (s := sg) (c := k) (q := e) (b := -1074) (n := n) ?_ (by rw [qmin_b64] at e2; exact e2) ?_ (by omega) (by omega) (by omega) h
  · show val64 (dsub a b) = _
    rw [val64_dsub, va, vb, show negate (.fin t d r) = .fin (!t) d r from rfl, e1]
  · rw [← e3]; unfold inUnits; rw [qmin_b64]
theorem dv_mulX {i j : Int} {n k N : Nat} {a b : UInt64} (ha : DV i n a) (hb : DV j k b) (hN : N + 1074 = n + k) (h : (i * j).natAbs * 2 ^ (N - 2045) < 2 ^ 53) : DV (i * j) N (FP.dmul a b) := by
  obtain ⟨⟨s, c, q, va⟩, za⟩ := ha
  obtain ⟨⟨t, d, r, vb⟩, zb⟩ := hb
  obtain ⟨e1, e2, e3⟩ := product_units (dv_fits va) (dv_fits vb)
  rw [va, zval_fin] at za
  rw [vb, zval_fin] at zb
  refine dv_roundX (s := s != t) (c := c * d) (q := q + r) (b := -2148) (n := n + k) ?_ (by rw [qmin_b64] at e2; omega) ?_ (by omega) (by omega) (by omega) h
  · show val64 (dmul a b) = _
    rw [val64_dmul, va, vb, e1]
  · have e4 : c * d * 2 ^ (q + r - -2148).toNat = inUnits c q b64.qmin * inUnits d r b64.qmin := by
      rw [show (-2148 : Int) = 2 * b64.qmin by decide]; exact e3
    rw [e4, signed_xor, za, zb, Nat.pow_add, Int.natCast_mul]
    ac_rfl
theorem dv_divX {i j z : Int} {n k N : Nat} {a b : UInt64} (ha : DV i n a) (hb : DV j k b) (hj : j ≠ 0) (h : i * ((2 ^ (n + 1074) : Nat) : Int) = z * j * ((2 ^ (N + k) : Nat) : Int)) (hz : z.natAbs * 2 ^ (N - 2045) < 2 ^ 53) : DV z N (FP.ddiv a b) := by
  by_cases hN : N ≤ 2045
  · rw [show N - 2045 = 0 by omega, Nat.pow_zero, Nat.mul_one] at hz
    exact dv_div ha hb hj h hz hN
  · obtain ⟨m, hm⟩ : ∃ m : Nat, m = N - 2045 := ⟨_, rfl⟩
    rw [← hm] at hz
    have r := dv_div (z := z * ((2 ^ m : Nat) : Int)) (N := N - m) ha hb hj (h.trans (by
      rw [show N + k = m + (N - m + k) by omega, Nat.pow_add, Int.natCast_mul]; ac_rfl)) (by rw [Int.natAbs_mul, Int.natAbs_natCast]; exact hz) (by omega)
    have r2 := dv_down r
    rw [show N - m + m = N by omega] at r2
    exact r2
/-- a sum too great for a double is an infinity -/
theorem dv_add_inf {i j : Int} {n : Nat} {a b : UInt64} (ha : DV i n a) (hb : DV j n b) (h : 2 ^ 2098 ≤ (i + j).natAbs * 2 ^ n) : ∃ s, val64 (FP.dadd a b) = .inf s := by
  obtain ⟨⟨s, c, q, va⟩, za⟩ := ha
  obtain ⟨⟨t, d, r, vb⟩, zb⟩ := hb
  obtain ⟨sg, k, e, e1, e2, e3⟩ := sum_units (dv_fits va) (dv_fits vb)
  rw [va] at za
  rw [vb] at zb
  rw [za, zb, ← Int.add_mul] at e3
  have e4 : inUnits k e b64.qmin = (i + j).natAbs * 2 ^ n := by rw [signed_natAbs e3, Int.natAbs_mul, Int.natAbs_natCast]
  have e5 : inUnits k e (-1075) = (i + j).natAbs * 2 ^ n * 2 := by
    rw [← e4]
    unfold inUnits
    rw [qmin_b64] at e2 ⊢
    rw [show (e - -1075).toNat = (e - -1074).toNat + 1 by omega, Nat.pow_succ, Nat.mul_assoc]
  refine ⟨sg, ?_⟩
  show val64 (dadd a b) = _
  rw [val64_dadd, va, vb, e1]
  show roundRatio b64 sg k 1 e = _
  rw [roundRatio_inf good_b64 (e0 := -1075) (by decide) (by decide) (by rw [qmin_b64] at e2; omega), e5, show (2 ^ (b64.p + 1) - 1) * 2 ^ (b64.qmax - 1 - -1075).toNat * 1 = (2 ^ 54 - 1) * 2 ^ 2045 by decide +kernel]
  generalize (i + j).natAbs * 2 ^ n = Y at h
  have : (2 ^ 54 - 1) * 2 ^ 2045 ≤ 2 ^ 2098 * 2 := by decide +kernel
  omega
def infF (a : UInt64) : Int32 := if (0 : Int32) < cmpValue (FP.dcmp (a &&& 0x7fffffffffffffff) (9218868437227405311 : UInt64)) .l then 1 else 0
theorem cmp_gt (o : Option Ordering) : (0 : Int32) < cmpValue o .l ↔ o = some .gt := by
  rcases o with _ | (_ | _ | _) <;> decide
theorem infF_fin {a : UInt64} (h : ∃ s c q, val64 a = .fin s c q) : infF a = 0 := by
  have hf : Jvm.Free.Fl.Fin64 a := Jvm.Free.Fl.fin64_core.mpr h
  unfold infF
  rw [if_neg]
  intro q
  rw [cmp_gt] at q
  have := (Jvm.Free.Fl.gt_max_iff hf.noNaN).mp (by show Jvm.Free.Fl.relGt (FP.dcmp (a &&& 0x7fffffffffffffff) (9218868437227405311 : UInt64)) = true; rw [q]; rfl)
  exact this hf
theorem noNaN_inf {a : UInt64} {s : Bool} (h : val64 a = .inf s) : Jvm.Free.Fl.NoNaN64 a := by
  have := (notNaN_iff a).mpr (by rw [h]; simp)
  exact Jvm.Free.Fl.noNaN64_no.mpr this
theorem infF_inf {a : UInt64} {s : Bool} (h : val64 a = .inf s) : infF a = 1 := by
  have hn := noNaN_inf h
  unfold infF
  rw [if_pos]
  rw [cmp_gt]
  have := (Jvm.Free.Fl.gt_max_iff hn).mpr (fun hf => by
    obtain ⟨s', c, q, hv⟩ := Jvm.Free.Fl.fin64_core.mp hf
    have hv : val64 a = _ := hv
    rw [h] at hv; cases hv)
  have g : Jvm.Free.Fl.relGt (FP.dcmp (a &&& 0x7fffffffffffffff) (9218868437227405311 : UInt64)) = true := this
  revert g
  rcases FP.dcmp (a &&& 0x7fffffffffffffff) (9218868437227405311 : UInt64) with _ | (_ | _ | _) <;> decide
theorem noNaN_fin {a : UInt64} (h : ∃ s c q, val64 a = .fin s c q) : Jvm.Free.Fl.NoNaN64 a := (Jvm.Free.Fl.fin64_core.mpr h).noNaN
end DV3

theorem d1_0 : decode prog_16_method_1_code 0 = .ok (.aload_n 0, 1) := by decide +kernel
theorem d1_1 : decode prog_16_method_1_code 1 = .ok (.invokespecial 1, 3) := by decide +kernel
theorem d1_4 : decode prog_16_method_1_code 4 = .ok (.aload_n 0, 1) := by decide +kernel
theorem d1_5 : decode prog_16_method_1_code 5 = .ok (.dconst 1, 1) := by decide +kernel
theorem d1_6 : decode prog_16_method_1_code 6 = .ok (.putfield 7, 3) := by decide +kernel
theorem d1_9 : decode prog_16_method_1_code 9 = .ok (.return_, 1) := by decide +kernel
theorem pn_1 : plainName "com/example/retiremetric/retiremetric/engine/Mean" = true := by first | (simp [plainName, overriddenIn]; done) | decide +kernel
theorem ef_1 (m : MethodId) (x0 : Addr) : entryFrame m #[(.ref x0)] 1 = mkF m 0 #[.val (.ref x0)] [] := by first | (simp [entryFrame, mkF, argsToLocals, Value.category]; done) | rfl
theorem d3_0 : decode prog_16_method_3_code 0 = .ok (.dload_n 1, 1) := by decide +kernel
theorem d3_1 : decode prog_16_method_3_code 1 = .ok (.invokestatic 14, 3) := by decide +kernel
theorem d3_4 : decode prog_16_method_3_code 4 = .ok (.ifCond .eq 16, 3) := by decide +kernel
theorem d3_7 : decode prog_16_method_3_code 7 = .ok (.aload_n 0, 1) := by decide +kernel
theorem d3_8 : decode prog_16_method_3_code 8 = .ok (.dup, 1) := by decide +kernel
theorem d3_9 : decode prog_16_method_3_code 9 = .ok (.getfield 20, 3) := by decide +kernel
theorem d3_12 : decode prog_16_method_3_code 12 = .ok (.dload_n 1, 1) := by decide +kernel
theorem d3_13 : decode prog_16_method_3_code 13 = .ok (.dadd, 1) := by decide +kernel
theorem d3_14 : decode prog_16_method_3_code 14 = .ok (.putfield 20, 3) := by decide +kernel
theorem d3_17 : decode prog_16_method_3_code 17 = .ok (.goto 108, 3) := by decide +kernel
theorem d3_20 : decode prog_16_method_3_code 20 = .ok (.aload_n 0, 1) := by decide +kernel
theorem d3_21 : decode prog_16_method_3_code 21 = .ok (.getfield 23, 3) := by decide +kernel
theorem d3_24 : decode prog_16_method_3_code 24 = .ok (.lconst 0, 1) := by decide +kernel
theorem d3_25 : decode prog_16_method_3_code 25 = .ok (.lcmp, 1) := by decide +kernel
theorem d3_26 : decode prog_16_method_3_code 26 = .ok (.ifCond .ne 13, 3) := by decide +kernel
theorem d3_29 : decode prog_16_method_3_code 29 = .ok (.aload_n 0, 1) := by decide +kernel
theorem d3_30 : decode prog_16_method_3_code 30 = .ok (.dload_n 1, 1) := by decide +kernel
theorem d3_31 : decode prog_16_method_3_code 31 = .ok (.putfield 27, 3) := by decide +kernel
theorem d3_34 : decode prog_16_method_3_code 34 = .ok (.aload_n 0, 1) := by decide +kernel
theorem d3_35 : decode prog_16_method_3_code 35 = .ok (.dload_n 1, 1) := by decide +kernel
theorem d3_36 : decode prog_16_method_3_code 36 = .ok (.putfield 30, 3) := by decide +kernel
theorem d3_39 : decode prog_16_method_3_code 39 = .ok (.aload_n 0, 1) := by decide +kernel
theorem d3_40 : decode prog_16_method_3_code 40 = .ok (.getfield 33, 3) := by decide +kernel
theorem d3_43 : decode prog_16_method_3_code 43 = .ok (.dload_n 1, 1) := by decide +kernel
theorem d3_44 : decode prog_16_method_3_code 44 = .ok (.aload_n 0, 1) := by decide +kernel
theorem d3_45 : decode prog_16_method_3_code 45 = .ok (.getfield 7, 3) := by decide +kernel
theorem d3_48 : decode prog_16_method_3_code 48 = .ok (.dmul, 1) := by decide +kernel
theorem d3_49 : decode prog_16_method_3_code 49 = .ok (.aload_n 0, 1) := by decide +kernel
theorem d3_50 : decode prog_16_method_3_code 50 = .ok (.getfield 30, 3) := by decide +kernel
theorem d3_53 : decode prog_16_method_3_code 53 = .ok (.dsub, 1) := by decide +kernel
theorem d3_54 : decode prog_16_method_3_code 54 = .ok (.dadd, 1) := by decide +kernel
theorem d3_55 : decode prog_16_method_3_code 55 = .ok (.dstore_n 3, 1) := by decide +kernel
theorem d3_56 : decode prog_16_method_3_code 56 = .ok (.dload_n 3, 1) := by decide +kernel
theorem d3_57 : decode prog_16_method_3_code 57 = .ok (.invokestatic 14, 3) := by decide +kernel
theorem d3_60 : decode prog_16_method_3_code 60 = .ok (.ifCond .eq 60, 3) := by decide +kernel
theorem d3_63 : decode prog_16_method_3_code 63 = .ok (.aload_n 0, 1) := by decide +kernel
theorem d3_64 : decode prog_16_method_3_code 64 = .ok (.dup, 1) := by decide +kernel
theorem d3_65 : decode prog_16_method_3_code 65 = .ok (.getfield 7, 3) := by decide +kernel
theorem d3_68 : decode prog_16_method_3_code 68 = .ok (.ldc2_w 36, 3) := by decide +kernel
theorem d3_71 : decode prog_16_method_3_code 71 = .ok (.ddiv, 1) := by decide +kernel
theorem d3_72 : decode prog_16_method_3_code 72 = .ok (.putfield 7, 3) := by decide +kernel
theorem d3_75 : decode prog_16_method_3_code 75 = .ok (.aload_n 0, 1) := by decide +kernel
theorem d3_76 : decode prog_16_method_3_code 76 = .ok (.aload_n 0, 1) := by decide +kernel
theorem d3_77 : decode prog_16_method_3_code 77 = .ok (.getfield 27, 3) := by decide +kernel
theorem d3_80 : decode prog_16_method_3_code 80 = .ok (.aload_n 0, 1) := by decide +kernel
theorem d3_81 : decode prog_16_method_3_code 81 = .ok (.getfield 7, 3) := by decide +kernel
theorem d3_84 : decode prog_16_method_3_code 84 = .ok (.dmul, 1) := by decide +kernel
theorem d3_85 : decode prog_16_method_3_code 85 = .ok (.putfield 30, 3) := by decide +kernel
theorem d3_88 : decode prog_16_method_3_code 88 = .ok (.aload_n 0, 1) := by decide +kernel
theorem d3_89 : decode prog_16_method_3_code 89 = .ok (.dup, 1) := by decide +kernel
theorem d3_90 : decode prog_16_method_3_code 90 = .ok (.getfield 33, 3) := by decide +kernel
theorem d3_93 : decode prog_16_method_3_code 93 = .ok (.ldc2_w 36, 3) := by decide +kernel
theorem d3_96 : decode prog_16_method_3_code 96 = .ok (.ddiv, 1) := by decide +kernel
theorem d3_97 : decode prog_16_method_3_code 97 = .ok (.putfield 33, 3) := by decide +kernel
theorem d3_100 : decode prog_16_method_3_code 100 = .ok (.aload_n 0, 1) := by decide +kernel
theorem d3_101 : decode prog_16_method_3_code 101 = .ok (.getfield 33, 3) := by decide +kernel
theorem d3_104 : decode prog_16_method_3_code 104 = .ok (.dload_n 1, 1) := by decide +kernel
theorem d3_105 : decode prog_16_method_3_code 105 = .ok (.aload_n 0, 1) := by decide +kernel
theorem d3_106 : decode prog_16_method_3_code 106 = .ok (.getfield 7, 3) := by decide +kernel
theorem d3_109 : decode prog_16_method_3_code 109 = .ok (.dmul, 1) := by decide +kernel
theorem d3_110 : decode prog_16_method_3_code 110 = .ok (.aload_n 0, 1) := by decide +kernel
theorem d3_111 : decode prog_16_method_3_code 111 = .ok (.getfield 30, 3) := by decide +kernel
theorem d3_114 : decode prog_16_method_3_code 114 = .ok (.dsub, 1) := by decide +kernel
theorem d3_115 : decode prog_16_method_3_code 115 = .ok (.dadd, 1) := by decide +kernel
theorem d3_116 : decode prog_16_method_3_code 116 = .ok (.dstore_n 3, 1) := by decide +kernel
theorem d3_117 : decode prog_16_method_3_code 117 = .ok (.goto (-61), 3) := by decide +kernel
theorem d3_120 : decode prog_16_method_3_code 120 = .ok (.aload_n 0, 1) := by decide +kernel
theorem d3_121 : decode prog_16_method_3_code 121 = .ok (.dload_n 3, 1) := by decide +kernel
theorem d3_122 : decode prog_16_method_3_code 122 = .ok (.putfield 33, 3) := by decide +kernel
theorem d3_125 : decode prog_16_method_3_code 125 = .ok (.aload_n 0, 1) := by decide +kernel
theorem d3_126 : decode prog_16_method_3_code 126 = .ok (.dup, 1) := by decide +kernel
theorem d3_127 : decode prog_16_method_3_code 127 = .ok (.getfield 23, 3) := by decide +kernel
theorem d3_130 : decode prog_16_method_3_code 130 = .ok (.lconst 1, 1) := by decide +kernel
theorem d3_131 : decode prog_16_method_3_code 131 = .ok (.ladd, 1) := by decide +kernel
theorem d3_132 : decode prog_16_method_3_code 132 = .ok (.putfield 23, 3) := by decide +kernel
theorem d3_135 : decode prog_16_method_3_code 135 = .ok (.return_, 1) := by decide +kernel
theorem pn_3 : plainName "com/example/retiremetric/retiremetric/engine/Mean" = true := by first | (simp [plainName, overriddenIn]; done) | decide +kernel
theorem ef_3 (m : MethodId) (x0 : Addr) (x1 : UInt64) : entryFrame m #[(.ref x0), (.double x1)] 5 = mkF m 0 #[.val (.ref x0), .val (.double x1), .second, .unset, .unset] [] := by first | (simp [entryFrame, mkF, argsToLocals, Value.category]; done) | rfl
theorem d4_0 : decode jdk_117_method_7_code 0 = .ok (.dload_n 0, 1) := by decide +kernel
theorem d4_1 : decode jdk_117_method_7_code 1 = .ok (.invokestatic 38, 3) := by decide +kernel
theorem d4_4 : decode jdk_117_method_7_code 4 = .ok (.ldc2_w 111, 3) := by decide +kernel
theorem d4_7 : decode jdk_117_method_7_code 7 = .ok (.dcmp .l, 1) := by decide +kernel
theorem d4_8 : decode jdk_117_method_7_code 8 = .ok (.ifCond .le 7, 3) := by decide +kernel
theorem d4_11 : decode jdk_117_method_7_code 11 = .ok (.iconst 1, 1) := by decide +kernel
theorem d4_12 : decode jdk_117_method_7_code 12 = .ok (.goto 4, 3) := by decide +kernel
theorem d4_15 : decode jdk_117_method_7_code 15 = .ok (.iconst 0, 1) := by decide +kernel
theorem d4_16 : decode jdk_117_method_7_code 16 = .ok (.ireturn, 1) := by decide +kernel
theorem pn_4 : plainName "java/lang/Double" = true := by first | (simp [plainName, overriddenIn]; done) | decide +kernel
theorem ef_4 (m : MethodId) (x0 : UInt64) : entryFrame m #[(.double x0)] 2 = mkF m 0 #[.val (.double x0), .second] [] := by first | (simp [entryFrame, mkF, argsToLocals, Value.category]; done) | rfl
theorem d6_0 : decode prog_16_method_5_code 0 = .ok (.aload_n 0, 1) := by decide +kernel
theorem d6_1 : decode prog_16_method_5_code 1 = .ok (.getfield 23, 3) := by decide +kernel
theorem d6_4 : decode prog_16_method_5_code 4 = .ok (.lconst 0, 1) := by decide +kernel
theorem d6_5 : decode prog_16_method_5_code 5 = .ok (.lcmp, 1) := by decide +kernel
theorem d6_6 : decode prog_16_method_5_code 6 = .ok (.ifCond .ne 13, 3) := by decide +kernel
theorem d6_9 : decode prog_16_method_5_code 9 = .ok (.new 41, 3) := by decide +kernel
theorem d6_12 : decode prog_16_method_5_code 12 = .ok (.dup, 1) := by decide +kernel
theorem d6_13 : decode prog_16_method_5_code 13 = .ok (.ldc 43, 2) := by decide +kernel
theorem d6_15 : decode prog_16_method_5_code 15 = .ok (.invokespecial 45, 3) := by decide +kernel
theorem d6_18 : decode prog_16_method_5_code 18 = .ok (.athrow, 1) := by decide +kernel
theorem d6_19 : decode prog_16_method_5_code 19 = .ok (.aload_n 0, 1) := by decide +kernel
theorem d6_20 : decode prog_16_method_5_code 20 = .ok (.getfield 20, 3) := by decide +kernel
theorem d6_23 : decode prog_16_method_5_code 23 = .ok (.dconst 0, 1) := by decide +kernel
theorem d6_24 : decode prog_16_method_5_code 24 = .ok (.dcmp .l, 1) := by decide +kernel
theorem d6_25 : decode prog_16_method_5_code 25 = .ok (.ifCond .eq 10, 3) := by decide +kernel
theorem d6_28 : decode prog_16_method_5_code 28 = .ok (.aload_n 0, 1) := by decide +kernel
theorem d6_29 : decode prog_16_method_5_code 29 = .ok (.getfield 20, 3) := by decide +kernel
theorem d6_32 : decode prog_16_method_5_code 32 = .ok (.goto 23, 3) := by decide +kernel
theorem d6_35 : decode prog_16_method_5_code 35 = .ok (.aload_n 0, 1) := by decide +kernel
theorem d6_36 : decode prog_16_method_5_code 36 = .ok (.getfield 30, 3) := by decide +kernel
theorem d6_39 : decode prog_16_method_5_code 39 = .ok (.aload_n 0, 1) := by decide +kernel
theorem d6_40 : decode prog_16_method_5_code 40 = .ok (.getfield 33, 3) := by decide +kernel
theorem d6_43 : decode prog_16_method_5_code 43 = .ok (.aload_n 0, 1) := by decide +kernel
theorem d6_44 : decode prog_16_method_5_code 44 = .ok (.getfield 23, 3) := by decide +kernel
theorem d6_47 : decode prog_16_method_5_code 47 = .ok (.l2d, 1) := by decide +kernel
theorem d6_48 : decode prog_16_method_5_code 48 = .ok (.ddiv, 1) := by decide +kernel
theorem d6_49 : decode prog_16_method_5_code 49 = .ok (.dadd, 1) := by decide +kernel
theorem d6_50 : decode prog_16_method_5_code 50 = .ok (.aload_n 0, 1) := by decide +kernel
theorem d6_51 : decode prog_16_method_5_code 51 = .ok (.getfield 7, 3) := by decide +kernel
theorem d6_54 : decode prog_16_method_5_code 54 = .ok (.ddiv, 1) := by decide +kernel
theorem d6_55 : decode prog_16_method_5_code 55 = .ok (.dreturn, 1) := by decide +kernel
theorem pn_6 : plainName "com/example/retiremetric/retiremetric/engine/Mean" = true := by first | (simp [plainName, overriddenIn]; done) | decide +kernel
theorem ef_6 (m : MethodId) (x0 : Addr) : entryFrame m #[(.ref x0)] 1 = mkF m 0 #[.val (.ref x0)] [] := by first | (simp [entryFrame, mkF, argsToLocals, Value.category]; done) | rfl
theorem pn_0 : plainName "com/example/retiremetric/retiremetric/engine/MeanMeanPinLaw" = true := by first | (simp [plainName, overriddenIn]; done) | decide +kernel
theorem ef_0 (m : MethodId) (x0 : Int32) (x1 : Int32) (x2 : Int32) (x3 : Int32) (x4 : Int32) (x5 : Int32) : entryFrame m #[(.int x0), (.int x1), (.int x2), (.int x3), (.int x4), (.int x5)] maxLocals = mkF m 0 #[.val (.int x0), .val (.int x1), .val (.int x2), .val (.int x3), .val (.int x4), .val (.int x5), .unset, .unset, .unset, .unset, .unset, .unset, .unset, .unset, .unset, .unset, .unset, .unset, .unset, .unset, .unset, .unset, .unset, .unset, .unset, .unset] [] := by first | (simp [entryFrame, mkF, argsToLocals, Value.category, maxLocals]; done) | rfl
theorem pd_0 : parseMethodDescriptor "()V" = some ⟨[], none⟩ := by decide +kernel
theorem pd_1 : parseMethodDescriptor "(D)V" = some ⟨[.double], none⟩ := by decide +kernel
theorem pd_2 : parseMethodDescriptor "(D)Z" = some ⟨[.double], some .boolean⟩ := by decide +kernel
theorem pd_3 : parseMethodDescriptor "(D)D" = some ⟨[.double], some .double⟩ := by decide +kernel
theorem pd_4 : parseMethodDescriptor "()D" = some ⟨[], some .double⟩ := by decide +kernel
def MSt (Z : State) (h : Heap) (ob : Addr) (f sc sf df nf : UInt64) (ct : Int64) : Prop := Exa Z h ob "com/example/retiremetric/retiremetric/engine/Mean" ∧ Fld Z h ob "com/example/retiremetric/retiremetric/engine/Mean" "first" "D" (.double f) ∧ Fld Z h ob "com/example/retiremetric/retiremetric/engine/Mean" "scale" "D" (.double sc) ∧ Fld Z h ob "com/example/retiremetric/retiremetric/engine/Mean" "scaledFirst" "D" (.double sf) ∧ Fld Z h ob "com/example/retiremetric/retiremetric/engine/Mean" "differences" "D" (.double df) ∧ Fld Z h ob "com/example/retiremetric/retiremetric/engine/Mean" "infinities" "D" (.double nf) ∧ Fld Z h ob "com/example/retiremetric/retiremetric/engine/Mean" "count" "J" (.long ct)
def Q3 (Z : State) (ob : Addr) (f sc sf df nf : UInt64) (ct : Int64) (h0 : Heap) (n0 : Nat) (v : Option Value) (h : Heap) (L : List Loc) : Prop := v = none ∧ Fr n0 L ∧ Keep h0 h [ob] ∧ MSt Z h ob f sc sf df nf ct
def QI (r : Int32) (h0 : Heap) (n0 : Nat) (v : Option Value) (h : Heap) (L : List Loc) : Prop := v = some (.int r) ∧ Fr n0 L ∧ h = h0
def QD (r : UInt64) (h0 : Heap) (n0 : Nat) (v : Option Value) (h : Heap) (L : List Loc) : Prop := v = some (.double r) ∧ Fr n0 L ∧ h = h0
set_option maxRecDepth 65536 in
set_option maxHeartbeats 40000000 in
theorem rm4_0 (l : Launch) (Z : State) (a0 : Array Value) (hw : ∀ d ∈ tables_1, d.before a0 Z = true) (ws : List Jvm.Cond) (a : UInt64)  (h0 : Heap) (n0 : Nat) (Z0 : n0 ≤ h0.size) (hN : Jvm.Free.Fl.NoNaN64 a) (hc8 : ¬ ((0 : Int32) < (cmpValue (FP.dcmp (a &&& 0x7fffffffffffffff) (9218868437227405311 : UInt64)) .l))) :
    MetFree l (⟨"java/lang/Double", "isInfinite", "(D)Z"⟩ : MethodName) (head1 (Jvm.Cond.code (⟨"java/lang/Double", "isInfinite", "(D)Z"⟩ : MethodName) jdk_117_method_7_code 2 (some .boolean) :: ws) ({ frames := 1, cells := 0, slots := 0, locals := 13 } : Room)) (fun aa_ U_ => aa_ = #[(.double a)] ∧ Z.Warmed39 U_.vm ∧ U_.heap = h0) (fun _ _ _ _ _ => True) (fun _ U_ o_ V_ => ∃ v_ L_, o_ = .returned v_ ∧ QI (infF a) h0 n0 v_ V_.heap L_ ∧ FrameEnd U_ o_ V_ L_ ({ frames := 1, cells := 0, slots := 0, locals := 13 } : Room).cells ({ frames := 1, cells := 0, slots := 0, locals := 13 } : Room).slots) := by
  refine MetFree.of_bodySF (plainFor_of_name pn_4) hisR ?_
  intro p e s m args below meth c s₁ Bd hml0 hP hK
  obtain ⟨rfl, hZ, hh⟩ := hP
  have hx := Bd.exec
  have hby := Bd.bytes
  have hml : c.maxLocals = 2 := hml0
  have hown : s.vm.findClass "java/lang/Double" = some m.cls := findClass_of_methodNamed Bd.named
  have hnm := (name_of_methodNamed Bd.named Bd.method).1
  have X0 : Stand p l e ({ frames := 1, cells := 0, slots := 0, locals := 13 } : Room) s m #[(.double a)] below meth c s₁ [] 0 0 := Stand.of_body Bd
  have e0 : s₁.heap = h0 := by rw [← hh, Bd.state]; rfl
  have N0 := Fr.nil n0
  have pre0 : ∀ zz, Steps p.tables e below (s₁.setTop (mkF m 0 #[.val (.double a), .second] [])) zz → Steps p.tables e below (s₁.setTop (entryFrame m #[(.double a)] 2)) zz := fun zz k => castTop (ef_4 m a) k
  obtain ⟨T1, X1, e1, st1⟩ := natS X0 hx hZ hown (hw _ (List.mem_of_getElem? (i := 21) rfl)) (hw _ (List.mem_of_getElem? (i := 22) rfl)) (hw _ (List.mem_of_getElem? (i := 23) rfl)) (hw _ (List.mem_of_getElem? (i := 24) rfl)) (by decide) e0 (fun c4 => Jvm.Free.Fl.Abs.absD_pays (W := 0) a c4 (by decide) (by decide)) (g := (mkF m 1 #[.val (.double a), .second] [(.double a)])) rfl (by rw [hml]; rfl) (argsL := [.double a]) (rest := []) (lenOf pd_3 rfl) rfl (by show 2 * 0 + _ ≤ _; exact Nat.le_of_eq rfl) (hb hby d4_1) (by decide) (by decide) ⟨rfl, hN⟩ rfl
  obtain ⟨fs, hr, hrun, hended, hW, hsame⟩ := X1.leave (v := some (.int (0 : Int32))) (fun h => by rw [Bd.returns] at h; cases h)
  refine ⟨_, _, pre0 _ ?_, hrun, hended, _, _, rfl, ?_, ⟨_, rfl⟩, hW, hsame.mono (by decide) (by decide)⟩
  · show Steps p.tables e below (s₁.setTop (mkF m 0 #[.val (.double a), .second] [])) _
    refine XS.dloadN X0.here hx rfl (hb hby d4_0) rfl ?_
    show Steps p.tables e below (s₁.setTop (mkF m 1 #[.val (.double a), .second] [(.double a)])) _
    refine st1 _ ?_
    refine X1.ldc2DoubleC hx hown (mvT hZ (hw _ (List.mem_of_getElem? (i := 25) rfl))) (g := (mkF m 4 #[.val (.double a), .second] [(.double (a &&& 0x7fffffffffffffff))])) rfl (hb hby d4_4) _ ?_
    refine XS.dcmpS X1.here hx rfl (hb hby d4_7) rfl rfl ?_
    refine XS.ifYes X1.here hx rfl (pc0 := 8) (pc' := 15) rfl (hb hby d4_8) rfl ((if0 _ _).trans (flt hc8).2.2.2) (by decide) (by decide) ?_
    show Steps p.tables e below (T1.setTop (mkF m 15 #[.val (.double a), .second] [])) _
    refine XS.iconst X1.here hx rfl (hb hby d4_15) ?_
    show Steps p.tables e below (T1.setTop (mkF m 16 #[.val (.double a), .second] [(.int (0 : Int32))])) _
    exact retN X1 hx (t := .boolean) Bd.returns (by simp) (hb hby d4_16) hr
  · show QI (infF a) h0 n0 _ T1.heap _
    rw [e1]
    exact ⟨by rw [infF, if_neg hc8], N0, rfl⟩
set_option maxRecDepth 65536 in
set_option maxHeartbeats 40000000 in
theorem rm4_1 (l : Launch) (Z : State) (a0 : Array Value) (hw : ∀ d ∈ tables_1, d.before a0 Z = true) (ws : List Jvm.Cond) (a : UInt64)  (h0 : Heap) (n0 : Nat) (Z0 : n0 ≤ h0.size) (hN : Jvm.Free.Fl.NoNaN64 a) (hc8 : (0 : Int32) < (cmpValue (FP.dcmp (a &&& 0x7fffffffffffffff) (9218868437227405311 : UInt64)) .l)) :
    MetFree l (⟨"java/lang/Double", "isInfinite", "(D)Z"⟩ : MethodName) (head1 (Jvm.Cond.code (⟨"java/lang/Double", "isInfinite", "(D)Z"⟩ : MethodName) jdk_117_method_7_code 2 (some .boolean) :: ws) ({ frames := 1, cells := 0, slots := 0, locals := 13 } : Room)) (fun aa_ U_ => aa_ = #[(.double a)] ∧ Z.Warmed39 U_.vm ∧ U_.heap = h0) (fun _ _ _ _ _ => True) (fun _ U_ o_ V_ => ∃ v_ L_, o_ = .returned v_ ∧ QI (infF a) h0 n0 v_ V_.heap L_ ∧ FrameEnd U_ o_ V_ L_ ({ frames := 1, cells := 0, slots := 0, locals := 13 } : Room).cells ({ frames := 1, cells := 0, slots := 0, locals := 13 } : Room).slots) := by
  refine MetFree.of_bodySF (plainFor_of_name pn_4) hisR ?_
  intro p e s m args below meth c s₁ Bd hml0 hP hK
  obtain ⟨rfl, hZ, hh⟩ := hP
  have hx := Bd.exec
  have hby := Bd.bytes
  have hml : c.maxLocals = 2 := hml0
  have hown : s.vm.findClass "java/lang/Double" = some m.cls := findClass_of_methodNamed Bd.named
  have hnm := (name_of_methodNamed Bd.named Bd.method).1
  have X0 : Stand p l e ({ frames := 1, cells := 0, slots := 0, locals := 13 } : Room) s m #[(.double a)] below meth c s₁ [] 0 0 := Stand.of_body Bd
  have e0 : s₁.heap = h0 := by rw [← hh, Bd.state]; rfl
  have N0 := Fr.nil n0
  have pre0 : ∀ zz, Steps p.tables e below (s₁.setTop (mkF m 0 #[.val (.double a), .second] [])) zz → Steps p.tables e below (s₁.setTop (entryFrame m #[(.double a)] 2)) zz := fun zz k => castTop (ef_4 m a) k
  obtain ⟨T2, X2, e2, st2⟩ := natS X0 hx hZ hown (hw _ (List.mem_of_getElem? (i := 21) rfl)) (hw _ (List.mem_of_getElem? (i := 22) rfl)) (hw _ (List.mem_of_getElem? (i := 23) rfl)) (hw _ (List.mem_of_getElem? (i := 24) rfl)) (by decide) e0 (fun c4 => Jvm.Free.Fl.Abs.absD_pays (W := 0) a c4 (by decide) (by decide)) (g := (mkF m 1 #[.val (.double a), .second] [(.double a)])) rfl (by rw [hml]; rfl) (argsL := [.double a]) (rest := []) (lenOf pd_3 rfl) rfl (by show 2 * 0 + _ ≤ _; exact Nat.le_of_eq rfl) (hb hby d4_1) (by decide) (by decide) ⟨rfl, hN⟩ rfl
  obtain ⟨fs, hr, hrun, hended, hW, hsame⟩ := X2.leave (v := some (.int (1 : Int32))) (fun h => by rw [Bd.returns] at h; cases h)
  refine ⟨_, _, pre0 _ ?_, hrun, hended, _, _, rfl, ?_, ⟨_, rfl⟩, hW, hsame.mono (by decide) (by decide)⟩
  · show Steps p.tables e below (s₁.setTop (mkF m 0 #[.val (.double a), .second] [])) _
    refine XS.dloadN X0.here hx rfl (hb hby d4_0) rfl ?_
    show Steps p.tables e below (s₁.setTop (mkF m 1 #[.val (.double a), .second] [(.double a)])) _
    refine st2 _ ?_
    refine X2.ldc2DoubleC hx hown (mvT hZ (hw _ (List.mem_of_getElem? (i := 25) rfl))) (g := (mkF m 4 #[.val (.double a), .second] [(.double (a &&& 0x7fffffffffffffff))])) rfl (hb hby d4_4) _ ?_
    refine XS.dcmpS X2.here hx rfl (hb hby d4_7) rfl rfl ?_
    refine XS.ifNo X2.here hx rfl (hb hby d4_8) rfl ((if0 _ _).trans (tlt hc8).2.2.2) ?_
    show Steps p.tables e below (T2.setTop (mkF m 11 #[.val (.double a), .second] [])) _
    refine XS.iconst X2.here hx rfl (hb hby d4_11) ?_
    refine XS.goto X2.here hx rfl (pc0 := 12) (pc' := 16) rfl (hb hby d4_12) (by decide) (by decide) ?_
    show Steps p.tables e below (T2.setTop (mkF m 16 #[.val (.double a), .second] [(.int (1 : Int32))])) _
    exact retN X2 hx (t := .boolean) Bd.returns (by simp) (hb hby d4_16) hr
  · show QI (infF a) h0 n0 _ T2.heap _
    rw [e2]
    exact ⟨by rw [infF, if_pos hc8], N0, rfl⟩
set_option maxRecDepth 65536 in
set_option maxHeartbeats 40000000 in
theorem rm4 (l : Launch) (Z : State) (a0 : Array Value) (hw : ∀ d ∈ tables_1, d.before a0 Z = true) (ws : List Jvm.Cond) (a : UInt64)  (h0 : Heap) (n0 : Nat) (Z0 : n0 ≤ h0.size) (hN : Jvm.Free.Fl.NoNaN64 a)  :
    MetFree l (⟨"java/lang/Double", "isInfinite", "(D)Z"⟩ : MethodName) (head1 (Jvm.Cond.code (⟨"java/lang/Double", "isInfinite", "(D)Z"⟩ : MethodName) jdk_117_method_7_code 2 (some .boolean) :: ws) ({ frames := 1, cells := 0, slots := 0, locals := 13 } : Room)) (fun aa_ U_ => aa_ = #[(.double a)] ∧ Z.Warmed39 U_.vm ∧ U_.heap = h0) (fun _ _ _ _ _ => True) (fun _ U_ o_ V_ => ∃ v_ L_, o_ = .returned v_ ∧ QI (infF a) h0 n0 v_ V_.heap L_ ∧ FrameEnd U_ o_ V_ L_ ({ frames := 1, cells := 0, slots := 0, locals := 13 } : Room).cells ({ frames := 1, cells := 0, slots := 0, locals := 13 } : Room).slots) := by
  by_cases h : (0 : Int32) < cmpValue (FP.dcmp (a &&& 0x7fffffffffffffff) (9218868437227405311 : UInt64)) .l
  · exact rm4_1 l Z a0 hw ws a h0 n0 Z0 hN h
  · exact rm4_0 l Z a0 hw ws a h0 n0 Z0 hN h
set_option maxRecDepth 65536 in
set_option maxHeartbeats 40000000 in
theorem rm1 (l : Launch) (Z : State) (a0 : Array Value) (hw : ∀ d ∈ tables_1, d.before a0 Z = true) (ws : List Jvm.Cond) (ob : Addr)  (h0 : Heap) (n0 : Nat) (Z0 : n0 ≤ h0.size) (g_ob : n0 ≤ ob) (M : MSt Z h0 ob 0 0 0 0 0 0)  :
    MetFree l (⟨"com/example/retiremetric/retiremetric/engine/Mean", "<init>", "()V"⟩ : MethodName) (head1 (Jvm.Cond.code (⟨"com/example/retiremetric/retiremetric/engine/Mean", "<init>", "()V"⟩ : MethodName) prog_16_method_1_code 1 none :: ws) ({ frames := 1, cells := 0, slots := 0, locals := 12 } : Room)) (fun aa_ U_ => aa_ = #[(.ref ob)] ∧ Z.Warmed39 U_.vm ∧ U_.heap = h0) (fun _ _ _ _ _ => True) (fun _ U_ o_ V_ => ∃ v_ L_, o_ = .returned v_ ∧ Q3 Z ob 0 FP.dconst1 0 0 0 0 h0 n0 v_ V_.heap L_ ∧ FrameEnd U_ o_ V_ L_ ({ frames := 1, cells := 0, slots := 0, locals := 12 } : Room).cells ({ frames := 1, cells := 0, slots := 0, locals := 12 } : Room).slots) := by
  refine MetFree.of_bodySF (plainFor_of_name pn_1) hisR ?_
  intro p e s m args below meth c s₁ Bd hml0 hP hK
  obtain ⟨rfl, hZ, hh⟩ := hP
  have hx := Bd.exec
  have hby := Bd.bytes
  have hml : c.maxLocals = 1 := hml0
  have hown : s.vm.findClass "com/example/retiremetric/retiremetric/engine/Mean" = some m.cls := findClass_of_methodNamed Bd.named
  have hnm := (name_of_methodNamed Bd.named Bd.method).1
  have X0 : Stand p l e ({ frames := 1, cells := 0, slots := 0, locals := 12 } : Room) s m #[(.ref ob)] below meth c s₁ [] 0 0 := Stand.of_body Bd
  have e0 : s₁.heap = h0 := by rw [← hh, Bd.state]; rfl
  have N0 := Fr.nil n0
  have pre0 : ∀ zz, Steps p.tables e below (s₁.setTop (mkF m 0 #[.val (.ref ob)] [])) zz → Steps p.tables e below (s₁.setTop (entryFrame m #[(.ref ob)] 1)) zz := fun zz k => castTop (ef_1 m ob) k
  obtain ⟨E_o, F_first_o, F_scale_o, F_scaledFirst_o, F_differences_o, F_infinities_o, F_count_o⟩ := M
  obtain ⟨T3, X3, e3, st3⟩ := initO X0 hx hZ hown (hw _ (List.mem_of_getElem? (i := 7) rfl)) (hw _ (List.mem_of_getElem? (i := 8) rfl)) (hw _ (List.mem_of_getElem? (i := 9) rfl)) e0 (g := (mkF m 1 #[.val (.ref ob)] [(.ref ob)])) rfl (by rw [hml]; rfl) rfl (hb hby d1_1) (by decide) (W := 0) (by show 2 * 0 + _ ≤ _; exact Nat.le_of_eq rfl) (by decide)
  obtain ⟨T4, h4, X4, e4, W4, st4⟩ := putF X3 hx hZ hown (host := "") (Or.inl (hw _ (List.mem_of_getElem? (i := 10) rfl))) Via.refl e3 F_scale_o E_o (Or.inl (hw _ (List.mem_of_getElem? (i := 11) rfl))) (hw _ (List.mem_of_getElem? (i := 2) rfl)) (ty := .double) (by decide) rfl rfl (g := (mkF m 6 #[.val (.ref ob)] [(.double FP.dconst1), (.ref ob)])) rfl rfl (hb hby d1_6)
  have Fw4 := F_scale_o.same W4
  have E_o_e4 := E_o.wr W4
  have F_first_o_e4 := F_first_o.other W4 (Or.inr (slot_ne (Or.inl (hw _ (List.mem_of_getElem? (i := 29) rfl))) (Or.inl (hw _ (List.mem_of_getElem? (i := 11) rfl))) (by decide) (t := .double) (t' := .double) (by decide) (by decide)))
  have F_scaledFirst_o_e4 := F_scaledFirst_o.other W4 (Or.inr (slot_ne (Or.inl (hw _ (List.mem_of_getElem? (i := 31) rfl))) (Or.inl (hw _ (List.mem_of_getElem? (i := 11) rfl))) (by decide) (t := .double) (t' := .double) (by decide) (by decide)))
  have F_differences_o_e4 := F_differences_o.other W4 (Or.inr (slot_ne (Or.inl (hw _ (List.mem_of_getElem? (i := 33) rfl))) (Or.inl (hw _ (List.mem_of_getElem? (i := 11) rfl))) (by decide) (t := .double) (t' := .double) (by decide) (by decide)))
  have F_infinities_o_e4 := F_infinities_o.other W4 (Or.inr (slot_ne (Or.inl (hw _ (List.mem_of_getElem? (i := 40) rfl))) (Or.inl (hw _ (List.mem_of_getElem? (i := 11) rfl))) (by decide) (t := .double) (t' := .double) (by decide) (by decide)))
  have F_count_o_e4 := F_count_o.other W4 (Or.inr (slot_ne (Or.inl (hw _ (List.mem_of_getElem? (i := 27) rfl))) (Or.inl (hw _ (List.mem_of_getElem? (i := 11) rfl))) (by decide) (t := .long) (t' := .double) (by decide) (by decide)))
  have N4 := Fr.snoc X4 N0 g_ob
  have K4 := (Keep.refl h0 [ob]).wr W4 (Or.inl (List.mem_of_getElem? (i := 0) rfl))
  have Z4 : n0 ≤ h4.size := Nat.le_trans Z0 (Keep.of_wr W4).1
  obtain ⟨fs, hr, hrun, hended, hW, hsame⟩ := X4.leave (v := none) (fun _ => rfl)
  refine ⟨_, _, pre0 _ ?_, hrun, hended, _, _, rfl, ?_, ⟨_, rfl⟩, hW, hsame.mono (by decide) (by decide)⟩
  · show Steps p.tables e below (s₁.setTop (mkF m 0 #[.val (.ref ob)] [])) _
    refine XS.aloadN X0.here hx rfl (hb hby d1_0) rfl rfl ?_
    show Steps p.tables e below (s₁.setTop (mkF m 1 #[.val (.ref ob)] [(.ref ob)])) _
    refine st3 _ ?_
    refine XS.aloadN X3.here hx rfl (hb hby d1_4) rfl rfl ?_
    refine XS.dconst1 X3.here hx rfl (hb hby d1_5) rfl ?_
    show Steps p.tables e below (T3.setTop (mkF m 6 #[.val (.ref ob)] [(.double FP.dconst1), (.ref ob)])) _
    refine st4 _ ?_
    show Steps p.tables e below (T4.setTop (mkF m 9 #[.val (.ref ob)] [])) _
    exact X4.returnOut hx Bd.returns (hb hby d1_9) hr
  · show Q3 Z ob 0 FP.dconst1 0 0 0 0 h0 n0 _ T4.heap _
    rw [e4]
    exact ⟨rfl, N4, K4, E_o_e4, F_first_o_e4, Fw4, F_scaledFirst_o_e4, F_differences_o_e4, F_infinities_o_e4, F_count_o_e4⟩
def sumF (v sc sf df : UInt64) : UInt64 := FP.dadd df (FP.dsub (FP.dmul v sc) sf)
def hvF (x : UInt64) : UInt64 := FP.ddiv x (4611686018427387904 : UInt64)
set_option maxRecDepth 65536 in
set_option maxHeartbeats 40000000 in
theorem rm3_I (l : Launch) (Z : State) (a0 : Array Value) (hw : ∀ d ∈ tables_1, d.before a0 Z = true) (ws : List Jvm.Cond) (ob : Addr) (v : UInt64) (f sc sf df nf : UInt64) (ct : Int64) (h0 : Heap) (n0 : Nat) (Z0 : n0 ≤ h0.size) (g_ob : n0 ≤ ob) (M : MSt Z h0 ob f sc sf df nf ct) (hni1 : Jvm.Free.Fl.NoNaN64 v) (hc4 : ¬ ((infF v) = (0 : Int32))) (hnan13 : Jvm.Free.Fl.NoNaN64 (FP.dadd nf v)) :
    MetFree l (⟨"com/example/retiremetric/retiremetric/engine/Mean", "add", "(D)V"⟩ : MethodName) (head1 (Jvm.Cond.code (⟨"com/example/retiremetric/retiremetric/engine/Mean", "add", "(D)V"⟩ : MethodName) prog_16_method_3_code 5 none :: ws) ({ frames := 2, cells := 0, slots := 0, locals := 26 } : Room)) (fun aa_ U_ => aa_ = #[(.ref ob), (.double v)] ∧ Z.Warmed39 U_.vm ∧ U_.heap = h0) (fun _ _ _ _ _ => True) (fun _ U_ o_ V_ => ∃ v_ L_, o_ = .returned v_ ∧ Q3 Z ob f sc sf df (FP.dadd nf v) (ct + (1 : Int64)) h0 n0 v_ V_.heap L_ ∧ FrameEnd U_ o_ V_ L_ ({ frames := 2, cells := 0, slots := 0, locals := 26 } : Room).cells ({ frames := 2, cells := 0, slots := 0, locals := 26 } : Room).slots) := by
  refine MetFree.of_bodySF (plainFor_of_name pn_3) hisR ?_
  intro p e s m args below meth c s₁ Bd hml0 hP hK
  obtain ⟨rfl, hZ, hh⟩ := hP
  have hx := Bd.exec
  have hby := Bd.bytes
  have hml : c.maxLocals = 5 := hml0
  have hown : s.vm.findClass "com/example/retiremetric/retiremetric/engine/Mean" = some m.cls := findClass_of_methodNamed Bd.named
  have hnm := (name_of_methodNamed Bd.named Bd.method).1
  have X0 : Stand p l e ({ frames := 2, cells := 0, slots := 0, locals := 26 } : Room) s m #[(.ref ob), (.double v)] below meth c s₁ [] 0 0 := Stand.of_body Bd
  have e0 : s₁.heap = h0 := by rw [← hh, Bd.state]; rfl
  have N0 := Fr.nil n0
  have pre0 : ∀ zz, Steps p.tables e below (s₁.setTop (mkF m 0 #[.val (.ref ob), .val (.double v), .second, .unset, .unset] [])) zz → Steps p.tables e below (s₁.setTop (entryFrame m #[(.ref ob), (.double v)] 5)) zz := fun zz k => castTop (ef_3 m ob v) k
  obtain ⟨E_o, F_first_o, F_scale_o, F_scaledFirst_o, F_differences_o, F_infinities_o, F_count_o⟩ := M
  obtain ⟨_, _, ⟨T5, L5, k5, n5⟩, -, X5, ⟨Lc5, hQ5, l5, y5, z5⟩, st5⟩ := Jvm.LawKit.callS X0 hx (y := (⟨"java/lang/Double", "isInfinite", "(D)Z"⟩ : MethodName)) hown (mvT hZ (hw _ (List.mem_of_getElem? (i := 17) rfl))) (mvT hZ (hw _ (List.mem_of_getElem? (i := 18) rfl))) (mvT hZ (hw _ (List.mem_of_getElem? (i := 19) rfl))) (mvT hZ (hw _ (List.mem_of_getElem? (i := 20) rfl))) (by decide) (backOf (W := 0) (rm4 l Z a0 hw [] v h0 n0 Z0 hni1) hZ (hw _ (List.mem_of_getElem? (i := 20) rfl)) (hw _ (List.mem_of_getElem? (i := 19) rfl)) (by decide) (by decide)) (g := (mkF m 1 #[.val (.ref ob), .val (.double v), .second, .unset, .unset] [(.double v)])) rfl (by rw [hml]; rfl) (argsL := [(.double v)]) (rest := []) (lenOf pd_2 rfl) rfl (by show 2 * 0 + _ ≤ _; exact Nat.le_of_eq rfl) (hb hby d3_1) (fun _ _ => ⟨rfl, e0, (by decide : 0 + 0 ≤ _), (by decide : 0 + 0 ≤ _)⟩)
  dsimp only [Pt.U, Pt.locs, Pt.cells, Pt.slots] at X5 l5 y5 z5 st5 hQ5
  subst l5 y5 z5
  obtain ⟨rfl, N5q, e5⟩ := hQ5
  have N5 := Fr.app N0 N5q
  obtain ⟨T6, X6, e6, st6⟩ := getF X5 hx hZ hown (host := "") (Or.inl (hw _ (List.mem_of_getElem? (i := 39) rfl))) Via.refl e5 F_infinities_o (g := (mkF m 9 #[.val (.ref ob), .val (.double v), .second, .unset, .unset] [(.ref ob), (.ref ob)])) rfl rfl (hb hby d3_9)
  obtain ⟨T7, h7, X7, e7, W7, st7⟩ := putF X6 hx hZ hown (host := "") (Or.inl (hw _ (List.mem_of_getElem? (i := 39) rfl))) Via.refl e6 F_infinities_o E_o (Or.inl (hw _ (List.mem_of_getElem? (i := 40) rfl))) (hw _ (List.mem_of_getElem? (i := 2) rfl)) (ty := .double) (by decide) rfl rfl (g := (mkF m 14 #[.val (.ref ob), .val (.double v), .second, .unset, .unset] [(.double (FP.dadd nf v)), (.ref ob)])) rfl rfl (hb hby d3_14)
  have Fw7 := F_infinities_o.same W7
  have E_o_e7 := E_o.wr W7
  have F_first_o_e7 := F_first_o.other W7 (Or.inr (slot_ne (Or.inl (hw _ (List.mem_of_getElem? (i := 29) rfl))) (Or.inl (hw _ (List.mem_of_getElem? (i := 40) rfl))) (by decide) (t := .double) (t' := .double) (by decide) (by decide)))
  have F_scale_o_e7 := F_scale_o.other W7 (Or.inr (slot_ne (Or.inl (hw _ (List.mem_of_getElem? (i := 11) rfl))) (Or.inl (hw _ (List.mem_of_getElem? (i := 40) rfl))) (by decide) (t := .double) (t' := .double) (by decide) (by decide)))
  have F_scaledFirst_o_e7 := F_scaledFirst_o.other W7 (Or.inr (slot_ne (Or.inl (hw _ (List.mem_of_getElem? (i := 31) rfl))) (Or.inl (hw _ (List.mem_of_getElem? (i := 40) rfl))) (by decide) (t := .double) (t' := .double) (by decide) (by decide)))
  have F_differences_o_e7 := F_differences_o.other W7 (Or.inr (slot_ne (Or.inl (hw _ (List.mem_of_getElem? (i := 33) rfl))) (Or.inl (hw _ (List.mem_of_getElem? (i := 40) rfl))) (by decide) (t := .double) (t' := .double) (by decide) (by decide)))
  have F_count_o_e7 := F_count_o.other W7 (Or.inr (slot_ne (Or.inl (hw _ (List.mem_of_getElem? (i := 27) rfl))) (Or.inl (hw _ (List.mem_of_getElem? (i := 40) rfl))) (by decide) (t := .long) (t' := .double) (by decide) (by decide)))
  have N7 := Fr.snoc X7 N5 g_ob
  have K7 := (Keep.refl h0 [ob]).wr W7 (Or.inl (List.mem_of_getElem? (i := 0) rfl))
  have Z7 : n0 ≤ h7.size := Nat.le_trans Z0 (Keep.of_wr W7).1
  obtain ⟨T8, X8, e8, st8⟩ := getF X7 hx hZ hown (host := "") (Or.inl (hw _ (List.mem_of_getElem? (i := 26) rfl))) Via.refl e7 F_count_o_e7 (g := (mkF m 127 #[.val (.ref ob), .val (.double v), .second, .unset, .unset] [(.ref ob), (.ref ob)])) rfl rfl (hb hby d3_127)
  obtain ⟨T9, h9, X9, e9, W9, st9⟩ := putF X8 hx hZ hown (host := "") (Or.inl (hw _ (List.mem_of_getElem? (i := 26) rfl))) Via.refl e8 F_count_o_e7 E_o_e7 (Or.inl (hw _ (List.mem_of_getElem? (i := 27) rfl))) (hw _ (List.mem_of_getElem? (i := 2) rfl)) (ty := .long) (by decide) rfl rfl (g := (mkF m 132 #[.val (.ref ob), .val (.double v), .second, .unset, .unset] [(.long (ct + (1 : Int64))), (.ref ob)])) rfl rfl (hb hby d3_132)
  have Fw9 := F_count_o_e7.same W9
  have E_o_e9 := E_o_e7.wr W9
  have F_first_o_e9 := F_first_o_e7.other W9 (Or.inr (slot_ne (Or.inl (hw _ (List.mem_of_getElem? (i := 29) rfl))) (Or.inl (hw _ (List.mem_of_getElem? (i := 27) rfl))) (by decide) (t := .double) (t' := .long) (by decide) (by decide)))
  have F_scale_o_e9 := F_scale_o_e7.other W9 (Or.inr (slot_ne (Or.inl (hw _ (List.mem_of_getElem? (i := 11) rfl))) (Or.inl (hw _ (List.mem_of_getElem? (i := 27) rfl))) (by decide) (t := .double) (t' := .long) (by decide) (by decide)))
  have F_scaledFirst_o_e9 := F_scaledFirst_o_e7.other W9 (Or.inr (slot_ne (Or.inl (hw _ (List.mem_of_getElem? (i := 31) rfl))) (Or.inl (hw _ (List.mem_of_getElem? (i := 27) rfl))) (by decide) (t := .double) (t' := .long) (by decide) (by decide)))
  have F_differences_o_e9 := F_differences_o_e7.other W9 (Or.inr (slot_ne (Or.inl (hw _ (List.mem_of_getElem? (i := 33) rfl))) (Or.inl (hw _ (List.mem_of_getElem? (i := 27) rfl))) (by decide) (t := .double) (t' := .long) (by decide) (by decide)))
  have Fw7_e9 := Fw7.other W9 (Or.inr (slot_ne (Or.inl (hw _ (List.mem_of_getElem? (i := 40) rfl))) (Or.inl (hw _ (List.mem_of_getElem? (i := 27) rfl))) (by decide) (t := .double) (t' := .long) (by decide) (by decide)))
  have N9 := Fr.snoc X9 N7 g_ob
  have K9 := K7.wr W9 (Or.inl (List.mem_of_getElem? (i := 0) rfl))
  have Z9 : n0 ≤ h9.size := Nat.le_trans Z7 (Keep.of_wr W9).1
  obtain ⟨fs, hr, hrun, hended, hW, hsame⟩ := X9.leave (v := none) (fun _ => rfl)
  refine ⟨_, _, pre0 _ ?_, hrun, hended, _, _, rfl, ?_, ⟨_, rfl⟩, hW, hsame.mono (by decide) (by decide)⟩
  · show Steps p.tables e below (s₁.setTop (mkF m 0 #[.val (.ref ob), .val (.double v), .second, .unset, .unset] [])) _
    refine XS.dloadN X0.here hx rfl (hb hby d3_0) rfl ?_
    show Steps p.tables e below (s₁.setTop (mkF m 1 #[.val (.ref ob), .val (.double v), .second, .unset, .unset] [(.double v)])) _
    refine st5 _ ?_
    refine XS.ifNo X5.here hx rfl (hb hby d3_4) rfl ((if0 _ _).trans (feq hc4).1) ?_
    refine XS.aloadN X5.here hx rfl (hb hby d3_7) rfl rfl ?_
    refine XS.dup X5.here hx rfl (hb hby d3_8) rfl rfl ?_
    show Steps p.tables e below (T5.setTop (mkF m 9 #[.val (.ref ob), .val (.double v), .second, .unset, .unset] [(.ref ob), (.ref ob)])) _
    refine st6 _ ?_
    refine XS.dloadN X6.here hx rfl (hb hby d3_12) rfl ?_
    refine XS.daddS X6.here hx rfl (hb hby d3_13) rfl hnan13 rfl ?_
    show Steps p.tables e below (T6.setTop (mkF m 14 #[.val (.ref ob), .val (.double v), .second, .unset, .unset] [(.double (FP.dadd nf v)), (.ref ob)])) _
    refine st7 _ ?_
    refine XS.goto X7.here hx rfl (pc0 := 17) (pc' := 125) rfl (hb hby d3_17) (by decide) (by decide) ?_
    refine XS.aloadN X7.here hx rfl (hb hby d3_125) rfl rfl ?_
    refine XS.dup X7.here hx rfl (hb hby d3_126) rfl rfl ?_
    show Steps p.tables e below (T7.setTop (mkF m 127 #[.val (.ref ob), .val (.double v), .second, .unset, .unset] [(.ref ob), (.ref ob)])) _
    refine st8 _ ?_
    refine XS.lconst X8.here hx rfl (hb hby d3_130) ?_
    refine XS.ladd X8.here hx rfl (hb hby d3_131) rfl ?_
    show Steps p.tables e below (T8.setTop (mkF m 132 #[.val (.ref ob), .val (.double v), .second, .unset, .unset] [(.long (ct + (1 : Int64))), (.ref ob)])) _
    refine st9 _ ?_
    show Steps p.tables e below (T9.setTop (mkF m 135 #[.val (.ref ob), .val (.double v), .second, .unset, .unset] [])) _
    exact X9.returnOut hx Bd.returns (hb hby d3_135) hr
  · show Q3 Z ob f sc sf df (FP.dadd nf v) (ct + (1 : Int64)) h0 n0 _ T9.heap _
    rw [e9]
    exact ⟨rfl, N9, K9, E_o_e9, F_first_o_e9, F_scale_o_e9, F_scaledFirst_o_e9, F_differences_o_e9, Fw7_e9, Fw9⟩
set_option maxRecDepth 65536 in
set_option maxHeartbeats 40000000 in
theorem rm3_Z (l : Launch) (Z : State) (a0 : Array Value) (hw : ∀ d ∈ tables_1, d.before a0 Z = true) (ws : List Jvm.Cond) (ob : Addr) (v : UInt64) (f sc sf df nf : UInt64) (ct : Int64) (h0 : Heap) (n0 : Nat) (Z0 : n0 ≤ h0.size) (g_ob : n0 ≤ ob) (M : MSt Z h0 ob f sc sf df nf ct) (hni1 : Jvm.Free.Fl.NoNaN64 v) (hc4 : (infF v) = (0 : Int32)) (hc26 : (lcmpW ct (0 : Int64)) = (0 : Int32)) (hnan48 : Jvm.Free.Fl.NoNaN64 (FP.dmul v sc)) (hnan53 : Jvm.Free.Fl.NoNaN64 (FP.dsub (FP.dmul v sc) v)) (hnan54 : Jvm.Free.Fl.NoNaN64 (FP.dadd df (FP.dsub (FP.dmul v sc) v))) (hni57 : Jvm.Free.Fl.NoNaN64 (sumF v sc v df)) (hc60 : (infF (sumF v sc v df)) = (0 : Int32)) :
    MetFree l (⟨"com/example/retiremetric/retiremetric/engine/Mean", "add", "(D)V"⟩ : MethodName) (head1 (Jvm.Cond.code (⟨"com/example/retiremetric/retiremetric/engine/Mean", "add", "(D)V"⟩ : MethodName) prog_16_method_3_code 5 none :: ws) ({ frames := 2, cells := 0, slots := 0, locals := 26 } : Room)) (fun aa_ U_ => aa_ = #[(.ref ob), (.double v)] ∧ Z.Warmed39 U_.vm ∧ U_.heap = h0) (fun _ _ _ _ _ => True) (fun _ U_ o_ V_ => ∃ v_ L_, o_ = .returned v_ ∧ Q3 Z ob v sc v (sumF v sc v df) nf (ct + (1 : Int64)) h0 n0 v_ V_.heap L_ ∧ FrameEnd U_ o_ V_ L_ ({ frames := 2, cells := 0, slots := 0, locals := 26 } : Room).cells ({ frames := 2, cells := 0, slots := 0, locals := 26 } : Room).slots) := by
  refine MetFree.of_bodySF (plainFor_of_name pn_3) hisR ?_
  intro p e s m args below meth c s₁ Bd hml0 hP hK
  obtain ⟨rfl, hZ, hh⟩ := hP
  have hx := Bd.exec
  have hby := Bd.bytes
  have hml : c.maxLocals = 5 := hml0
  have hown : s.vm.findClass "com/example/retiremetric/retiremetric/engine/Mean" = some m.cls := findClass_of_methodNamed Bd.named
  have hnm := (name_of_methodNamed Bd.named Bd.method).1
  have X0 : Stand p l e ({ frames := 2, cells := 0, slots := 0, locals := 26 } : Room) s m #[(.ref ob), (.double v)] below meth c s₁ [] 0 0 := Stand.of_body Bd
  have e0 : s₁.heap = h0 := by rw [← hh, Bd.state]; rfl
  have N0 := Fr.nil n0
  have pre0 : ∀ zz, Steps p.tables e below (s₁.setTop (mkF m 0 #[.val (.ref ob), .val (.double v), .second, .unset, .unset] [])) zz → Steps p.tables e below (s₁.setTop (entryFrame m #[(.ref ob), (.double v)] 5)) zz := fun zz k => castTop (ef_3 m ob v) k
  obtain ⟨E_o, F_first_o, F_scale_o, F_scaledFirst_o, F_differences_o, F_infinities_o, F_count_o⟩ := M
  obtain ⟨_, _, ⟨T10, L10, k10, n10⟩, -, X10, ⟨Lc10, hQ10, l10, y10, z10⟩, st10⟩ := Jvm.LawKit.callS X0 hx (y := (⟨"java/lang/Double", "isInfinite", "(D)Z"⟩ : MethodName)) hown (mvT hZ (hw _ (List.mem_of_getElem? (i := 17) rfl))) (mvT hZ (hw _ (List.mem_of_getElem? (i := 18) rfl))) (mvT hZ (hw _ (List.mem_of_getElem? (i := 19) rfl))) (mvT hZ (hw _ (List.mem_of_getElem? (i := 20) rfl))) (by decide) (backOf (W := 0) (rm4 l Z a0 hw [] v h0 n0 Z0 hni1) hZ (hw _ (List.mem_of_getElem? (i := 20) rfl)) (hw _ (List.mem_of_getElem? (i := 19) rfl)) (by decide) (by decide)) (g := (mkF m 1 #[.val (.ref ob), .val (.double v), .second, .unset, .unset] [(.double v)])) rfl (by rw [hml]; rfl) (argsL := [(.double v)]) (rest := []) (lenOf pd_2 rfl) rfl (by show 2 * 0 + _ ≤ _; exact Nat.le_of_eq rfl) (hb hby d3_1) (fun _ _ => ⟨rfl, e0, (by decide : 0 + 0 ≤ _), (by decide : 0 + 0 ≤ _)⟩)
  dsimp only [Pt.U, Pt.locs, Pt.cells, Pt.slots] at X10 l10 y10 z10 st10 hQ10
  subst l10 y10 z10
  obtain ⟨rfl, N10q, e10⟩ := hQ10
  have N10 := Fr.app N0 N10q
  obtain ⟨T11, X11, e11, st11⟩ := getF X10 hx hZ hown (host := "") (Or.inl (hw _ (List.mem_of_getElem? (i := 26) rfl))) Via.refl e10 F_count_o (g := (mkF m 21 #[.val (.ref ob), .val (.double v), .second, .unset, .unset] [(.ref ob)])) rfl rfl (hb hby d3_21)
  obtain ⟨T12, h12, X12, e12, W12, st12⟩ := putF X11 hx hZ hown (host := "") (Or.inl (hw _ (List.mem_of_getElem? (i := 28) rfl))) Via.refl e11 F_first_o E_o (Or.inl (hw _ (List.mem_of_getElem? (i := 29) rfl))) (hw _ (List.mem_of_getElem? (i := 2) rfl)) (ty := .double) (by decide) rfl rfl (g := (mkF m 31 #[.val (.ref ob), .val (.double v), .second, .unset, .unset] [(.double v), (.ref ob)])) rfl rfl (hb hby d3_31)
  have Fw12 := F_first_o.same W12
  have E_o_e12 := E_o.wr W12
  have F_scale_o_e12 := F_scale_o.other W12 (Or.inr (slot_ne (Or.inl (hw _ (List.mem_of_getElem? (i := 11) rfl))) (Or.inl (hw _ (List.mem_of_getElem? (i := 29) rfl))) (by decide) (t := .double) (t' := .double) (by decide) (by decide)))
  have F_scaledFirst_o_e12 := F_scaledFirst_o.other W12 (Or.inr (slot_ne (Or.inl (hw _ (List.mem_of_getElem? (i := 31) rfl))) (Or.inl (hw _ (List.mem_of_getElem? (i := 29) rfl))) (by decide) (t := .double) (t' := .double) (by decide) (by decide)))
  have F_differences_o_e12 := F_differences_o.other W12 (Or.inr (slot_ne (Or.inl (hw _ (List.mem_of_getElem? (i := 33) rfl))) (Or.inl (hw _ (List.mem_of_getElem? (i := 29) rfl))) (by decide) (t := .double) (t' := .double) (by decide) (by decide)))
  have F_infinities_o_e12 := F_infinities_o.other W12 (Or.inr (slot_ne (Or.inl (hw _ (List.mem_of_getElem? (i := 40) rfl))) (Or.inl (hw _ (List.mem_of_getElem? (i := 29) rfl))) (by decide) (t := .double) (t' := .double) (by decide) (by decide)))
  have F_count_o_e12 := F_count_o.other W12 (Or.inr (slot_ne (Or.inl (hw _ (List.mem_of_getElem? (i := 27) rfl))) (Or.inl (hw _ (List.mem_of_getElem? (i := 29) rfl))) (by decide) (t := .long) (t' := .double) (by decide) (by decide)))
  have N12 := Fr.snoc X12 N10 g_ob
  have K12 := (Keep.refl h0 [ob]).wr W12 (Or.inl (List.mem_of_getElem? (i := 0) rfl))
  have Z12 : n0 ≤ h12.size := Nat.le_trans Z0 (Keep.of_wr W12).1
  obtain ⟨T13, h13, X13, e13, W13, st13⟩ := putF X12 hx hZ hown (host := "") (Or.inl (hw _ (List.mem_of_getElem? (i := 30) rfl))) Via.refl e12 F_scaledFirst_o_e12 E_o_e12 (Or.inl (hw _ (List.mem_of_getElem? (i := 31) rfl))) (hw _ (List.mem_of_getElem? (i := 2) rfl)) (ty := .double) (by decide) rfl rfl (g := (mkF m 36 #[.val (.ref ob), .val (.double v), .second, .unset, .unset] [(.double v), (.ref ob)])) rfl rfl (hb hby d3_36)
  have Fw13 := F_scaledFirst_o_e12.same W13
  have E_o_e13 := E_o_e12.wr W13
  have Fw12_e13 := Fw12.other W13 (Or.inr (slot_ne (Or.inl (hw _ (List.mem_of_getElem? (i := 29) rfl))) (Or.inl (hw _ (List.mem_of_getElem? (i := 31) rfl))) (by decide) (t := .double) (t' := .double) (by decide) (by decide)))
  have F_scale_o_e13 := F_scale_o_e12.other W13 (Or.inr (slot_ne (Or.inl (hw _ (List.mem_of_getElem? (i := 11) rfl))) (Or.inl (hw _ (List.mem_of_getElem? (i := 31) rfl))) (by decide) (t := .double) (t' := .double) (by decide) (by decide)))
  have F_differences_o_e13 := F_differences_o_e12.other W13 (Or.inr (slot_ne (Or.inl (hw _ (List.mem_of_getElem? (i := 33) rfl))) (Or.inl (hw _ (List.mem_of_getElem? (i := 31) rfl))) (by decide) (t := .double) (t' := .double) (by decide) (by decide)))
  have F_infinities_o_e13 := F_infinities_o_e12.other W13 (Or.inr (slot_ne (Or.inl (hw _ (List.mem_of_getElem? (i := 40) rfl))) (Or.inl (hw _ (List.mem_of_getElem? (i := 31) rfl))) (by decide) (t := .double) (t' := .double) (by decide) (by decide)))
  have F_count_o_e13 := F_count_o_e12.other W13 (Or.inr (slot_ne (Or.inl (hw _ (List.mem_of_getElem? (i := 27) rfl))) (Or.inl (hw _ (List.mem_of_getElem? (i := 31) rfl))) (by decide) (t := .long) (t' := .double) (by decide) (by decide)))
  have N13 := Fr.snoc X13 N12 g_ob
  have K13 := K12.wr W13 (Or.inl (List.mem_of_getElem? (i := 0) rfl))
  have Z13 : n0 ≤ h13.size := Nat.le_trans Z12 (Keep.of_wr W13).1
  obtain ⟨T14, X14, e14, st14⟩ := getF X13 hx hZ hown (host := "") (Or.inl (hw _ (List.mem_of_getElem? (i := 32) rfl))) Via.refl e13 F_differences_o_e13 (g := (mkF m 40 #[.val (.ref ob), .val (.double v), .second, .unset, .unset] [(.ref ob)])) rfl rfl (hb hby d3_40)
  obtain ⟨T15, X15, e15, st15⟩ := getF X14 hx hZ hown (host := "") (Or.inl (hw _ (List.mem_of_getElem? (i := 10) rfl))) Via.refl e14 F_scale_o_e13 (g := (mkF m 45 #[.val (.ref ob), .val (.double v), .second, .unset, .unset] [(.ref ob), (.double v), (.double df)])) rfl rfl (hb hby d3_45)
  obtain ⟨T16, X16, e16, st16⟩ := getF X15 hx hZ hown (host := "") (Or.inl (hw _ (List.mem_of_getElem? (i := 30) rfl))) Via.refl e15 Fw13 (g := (mkF m 50 #[.val (.ref ob), .val (.double v), .second, .unset, .unset] [(.ref ob), (.double (FP.dmul v sc)), (.double df)])) rfl rfl (hb hby d3_50)
  obtain ⟨_, _, ⟨T17, L17, k17, n17⟩, -, X17, ⟨Lc17, hQ17, l17, y17, z17⟩, st17⟩ := Jvm.LawKit.callS X16 hx (y := (⟨"java/lang/Double", "isInfinite", "(D)Z"⟩ : MethodName)) hown (mvT hZ (hw _ (List.mem_of_getElem? (i := 17) rfl))) (mvT hZ (hw _ (List.mem_of_getElem? (i := 18) rfl))) (mvT hZ (hw _ (List.mem_of_getElem? (i := 19) rfl))) (mvT hZ (hw _ (List.mem_of_getElem? (i := 20) rfl))) (by decide) (backOf (W := 0) (rm4 l Z a0 hw [] (sumF v sc v df) h13 n0 Z13 hni57) hZ (hw _ (List.mem_of_getElem? (i := 20) rfl)) (hw _ (List.mem_of_getElem? (i := 19) rfl)) (by decide) (by decide)) (g := (mkF m 57 #[.val (.ref ob), .val (.double v), .second, .val (.double (sumF v sc v df)), .second] [(.double (sumF v sc v df))])) rfl (by rw [hml]; rfl) (argsL := [(.double (sumF v sc v df))]) (rest := []) (lenOf pd_2 rfl) rfl (by show 2 * 0 + _ ≤ _; exact Nat.le_of_eq rfl) (hb hby d3_57) (fun _ _ => ⟨rfl, e16, (by decide : 0 + 0 ≤ _), (by decide : 0 + 0 ≤ _)⟩)
  dsimp only [Pt.U, Pt.locs, Pt.cells, Pt.slots] at X17 l17 y17 z17 st17 hQ17
  subst l17 y17 z17
  obtain ⟨rfl, N17q, e17⟩ := hQ17
  have N17 := Fr.app N13 N17q
  obtain ⟨T18, h18, X18, e18, W18, st18⟩ := putF X17 hx hZ hown (host := "") (Or.inl (hw _ (List.mem_of_getElem? (i := 32) rfl))) Via.refl e17 F_differences_o_e13 E_o_e13 (Or.inl (hw _ (List.mem_of_getElem? (i := 33) rfl))) (hw _ (List.mem_of_getElem? (i := 2) rfl)) (ty := .double) (by decide) rfl rfl (g := (mkF m 122 #[.val (.ref ob), .val (.double v), .second, .val (.double (sumF v sc v df)), .second] [(.double (sumF v sc v df)), (.ref ob)])) rfl rfl (hb hby d3_122)
  have Fw18 := F_differences_o_e13.same W18
  have E_o_e18 := E_o_e13.wr W18
  have Fw12_e18 := Fw12_e13.other W18 (Or.inr (slot_ne (Or.inl (hw _ (List.mem_of_getElem? (i := 29) rfl))) (Or.inl (hw _ (List.mem_of_getElem? (i := 33) rfl))) (by decide) (t := .double) (t' := .double) (by decide) (by decide)))
  have F_scale_o_e18 := F_scale_o_e13.other W18 (Or.inr (slot_ne (Or.inl (hw _ (List.mem_of_getElem? (i := 11) rfl))) (Or.inl (hw _ (List.mem_of_getElem? (i := 33) rfl))) (by decide) (t := .double) (t' := .double) (by decide) (by decide)))
  have Fw13_e18 := Fw13.other W18 (Or.inr (slot_ne (Or.inl (hw _ (List.mem_of_getElem? (i := 31) rfl))) (Or.inl (hw _ (List.mem_of_getElem? (i := 33) rfl))) (by decide) (t := .double) (t' := .double) (by decide) (by decide)))
  have F_infinities_o_e18 := F_infinities_o_e13.other W18 (Or.inr (slot_ne (Or.inl (hw _ (List.mem_of_getElem? (i := 40) rfl))) (Or.inl (hw _ (List.mem_of_getElem? (i := 33) rfl))) (by decide) (t := .double) (t' := .double) (by decide) (by decide)))
  have F_count_o_e18 := F_count_o_e13.other W18 (Or.inr (slot_ne (Or.inl (hw _ (List.mem_of_getElem? (i := 27) rfl))) (Or.inl (hw _ (List.mem_of_getElem? (i := 33) rfl))) (by decide) (t := .long) (t' := .double) (by decide) (by decide)))
  have N18 := Fr.snoc X18 N17 g_ob
  have K18 := K13.wr W18 (Or.inl (List.mem_of_getElem? (i := 0) rfl))
  have Z18 : n0 ≤ h18.size := Nat.le_trans Z13 (Keep.of_wr W18).1
  obtain ⟨T19, X19, e19, st19⟩ := getF X18 hx hZ hown (host := "") (Or.inl (hw _ (List.mem_of_getElem? (i := 26) rfl))) Via.refl e18 F_count_o_e18 (g := (mkF m 127 #[.val (.ref ob), .val (.double v), .second, .val (.double (sumF v sc v df)), .second] [(.ref ob), (.ref ob)])) rfl rfl (hb hby d3_127)
  obtain ⟨T20, h20, X20, e20, W20, st20⟩ := putF X19 hx hZ hown (host := "") (Or.inl (hw _ (List.mem_of_getElem? (i := 26) rfl))) Via.refl e19 F_count_o_e18 E_o_e18 (Or.inl (hw _ (List.mem_of_getElem? (i := 27) rfl))) (hw _ (List.mem_of_getElem? (i := 2) rfl)) (ty := .long) (by decide) rfl rfl (g := (mkF m 132 #[.val (.ref ob), .val (.double v), .second, .val (.double (sumF v sc v df)), .second] [(.long (ct + (1 : Int64))), (.ref ob)])) rfl rfl (hb hby d3_132)
  have Fw20 := F_count_o_e18.same W20
  have E_o_e20 := E_o_e18.wr W20
  have Fw12_e20 := Fw12_e18.other W20 (Or.inr (slot_ne (Or.inl (hw _ (List.mem_of_getElem? (i := 29) rfl))) (Or.inl (hw _ (List.mem_of_getElem? (i := 27) rfl))) (by decide) (t := .double) (t' := .long) (by decide) (by decide)))
  have F_scale_o_e20 := F_scale_o_e18.other W20 (Or.inr (slot_ne (Or.inl (hw _ (List.mem_of_getElem? (i := 11) rfl))) (Or.inl (hw _ (List.mem_of_getElem? (i := 27) rfl))) (by decide) (t := .double) (t' := .long) (by decide) (by decide)))
  have Fw13_e20 := Fw13_e18.other W20 (Or.inr (slot_ne (Or.inl (hw _ (List.mem_of_getElem? (i := 31) rfl))) (Or.inl (hw _ (List.mem_of_getElem? (i := 27) rfl))) (by decide) (t := .double) (t' := .long) (by decide) (by decide)))
  have Fw18_e20 := Fw18.other W20 (Or.inr (slot_ne (Or.inl (hw _ (List.mem_of_getElem? (i := 33) rfl))) (Or.inl (hw _ (List.mem_of_getElem? (i := 27) rfl))) (by decide) (t := .double) (t' := .long) (by decide) (by decide)))
  have F_infinities_o_e20 := F_infinities_o_e18.other W20 (Or.inr (slot_ne (Or.inl (hw _ (List.mem_of_getElem? (i := 40) rfl))) (Or.inl (hw _ (List.mem_of_getElem? (i := 27) rfl))) (by decide) (t := .double) (t' := .long) (by decide) (by decide)))
  have N20 := Fr.snoc X20 N18 g_ob
  have K20 := K18.wr W20 (Or.inl (List.mem_of_getElem? (i := 0) rfl))
  have Z20 : n0 ≤ h20.size := Nat.le_trans Z18 (Keep.of_wr W20).1
  obtain ⟨fs, hr, hrun, hended, hW, hsame⟩ := X20.leave (v := none) (fun _ => rfl)
  refine ⟨_, _, pre0 _ ?_, hrun, hended, _, _, rfl, ?_, ⟨_, rfl⟩, hW, hsame.mono (by decide) (by decide)⟩
  · show Steps p.tables e below (s₁.setTop (mkF m 0 #[.val (.ref ob), .val (.double v), .second, .unset, .unset] [])) _
    refine XS.dloadN X0.here hx rfl (hb hby d3_0) rfl ?_
    show Steps p.tables e below (s₁.setTop (mkF m 1 #[.val (.ref ob), .val (.double v), .second, .unset, .unset] [(.double v)])) _
    refine st10 _ ?_
    refine XS.ifYes X10.here hx rfl (pc0 := 4) (pc' := 20) rfl (hb hby d3_4) rfl ((if0 _ _).trans (teq hc4).1) (by decide) (by decide) ?_
    refine XS.aloadN X10.here hx rfl (hb hby d3_20) rfl rfl ?_
    show Steps p.tables e below (T10.setTop (mkF m 21 #[.val (.ref ob), .val (.double v), .second, .unset, .unset] [(.ref ob)])) _
    refine st11 _ ?_
    refine XS.lconst X11.here hx rfl (hb hby d3_24) ?_
    refine XS.lcmp X11.here hx rfl (hb hby d3_25) rfl ?_
    refine XS.ifNo X11.here hx rfl (hb hby d3_26) rfl ((if0 _ _).trans (teq hc26).2) ?_
    show Steps p.tables e below (T11.setTop (mkF m 29 #[.val (.ref ob), .val (.double v), .second, .unset, .unset] [])) _
    refine XS.aloadN X11.here hx rfl (hb hby d3_29) rfl rfl ?_
    refine XS.dloadN X11.here hx rfl (hb hby d3_30) rfl ?_
    show Steps p.tables e below (T11.setTop (mkF m 31 #[.val (.ref ob), .val (.double v), .second, .unset, .unset] [(.double v), (.ref ob)])) _
    refine st12 _ ?_
    refine XS.aloadN X12.here hx rfl (hb hby d3_34) rfl rfl ?_
    refine XS.dloadN X12.here hx rfl (hb hby d3_35) rfl ?_
    show Steps p.tables e below (T12.setTop (mkF m 36 #[.val (.ref ob), .val (.double v), .second, .unset, .unset] [(.double v), (.ref ob)])) _
    refine st13 _ ?_
    refine XS.aloadN X13.here hx rfl (hb hby d3_39) rfl rfl ?_
    show Steps p.tables e below (T13.setTop (mkF m 40 #[.val (.ref ob), .val (.double v), .second, .unset, .unset] [(.ref ob)])) _
    refine st14 _ ?_
    refine XS.dloadN X14.here hx rfl (hb hby d3_43) rfl ?_
    refine XS.aloadN X14.here hx rfl (hb hby d3_44) rfl rfl ?_
    show Steps p.tables e below (T14.setTop (mkF m 45 #[.val (.ref ob), .val (.double v), .second, .unset, .unset] [(.ref ob), (.double v), (.double df)])) _
    refine st15 _ ?_
    refine XS.dmulS X15.here hx rfl (hb hby d3_48) rfl hnan48 rfl ?_
    refine XS.aloadN X15.here hx rfl (hb hby d3_49) rfl rfl ?_
    show Steps p.tables e below (T15.setTop (mkF m 50 #[.val (.ref ob), .val (.double v), .second, .unset, .unset] [(.ref ob), (.double (FP.dmul v sc)), (.double df)])) _
    refine st16 _ ?_
    refine XS.dsubS X16.here hx rfl (hb hby d3_53) rfl hnan53 rfl ?_
    refine XS.daddS X16.here hx rfl (hb hby d3_54) rfl hnan54 rfl ?_
    show Steps p.tables e below (T16.setTop (mkF m 55 #[.val (.ref ob), .val (.double v), .second, .unset, .unset] [(.double (sumF v sc v df))])) _
    refine XS.dstoreN X16.here hx rfl (hb hby d3_55) rfl (l' := #[.val (.ref ob), .val (.double v), .second, .val (.double (sumF v sc v df)), .second]) rfl ?_
    refine XS.dloadN X16.here hx rfl (hb hby d3_56) rfl ?_
    show Steps p.tables e below (T16.setTop (mkF m 57 #[.val (.ref ob), .val (.double v), .second, .val (.double (sumF v sc v df)), .second] [(.double (sumF v sc v df))])) _
    refine st17 _ ?_
    refine XS.ifYes X17.here hx rfl (pc0 := 60) (pc' := 120) rfl (hb hby d3_60) rfl ((if0 _ _).trans (teq hc60).1) (by decide) (by decide) ?_
    refine XS.aloadN X17.here hx rfl (hb hby d3_120) rfl rfl ?_
    refine XS.dloadN X17.here hx rfl (hb hby d3_121) rfl ?_
    show Steps p.tables e below (T17.setTop (mkF m 122 #[.val (.ref ob), .val (.double v), .second, .val (.double (sumF v sc v df)), .second] [(.double (sumF v sc v df)), (.ref ob)])) _
    refine st18 _ ?_
    refine XS.aloadN X18.here hx rfl (hb hby d3_125) rfl rfl ?_
    refine XS.dup X18.here hx rfl (hb hby d3_126) rfl rfl ?_
    show Steps p.tables e below (T18.setTop (mkF m 127 #[.val (.ref ob), .val (.double v), .second, .val (.double (sumF v sc v df)), .second] [(.ref ob), (.ref ob)])) _
    refine st19 _ ?_
    refine XS.lconst X19.here hx rfl (hb hby d3_130) ?_
    refine XS.ladd X19.here hx rfl (hb hby d3_131) rfl ?_
    show Steps p.tables e below (T19.setTop (mkF m 132 #[.val (.ref ob), .val (.double v), .second, .val (.double (sumF v sc v df)), .second] [(.long (ct + (1 : Int64))), (.ref ob)])) _
    refine st20 _ ?_
    show Steps p.tables e below (T20.setTop (mkF m 135 #[.val (.ref ob), .val (.double v), .second, .val (.double (sumF v sc v df)), .second] [])) _
    exact X20.returnOut hx Bd.returns (hb hby d3_135) hr
  · show Q3 Z ob v sc v (sumF v sc v df) nf (ct + (1 : Int64)) h0 n0 _ T20.heap _
    rw [e20]
    exact ⟨rfl, N20, K20, E_o_e20, Fw12_e20, F_scale_o_e20, Fw13_e20, Fw18_e20, F_infinities_o_e20, Fw20⟩
set_option maxRecDepth 65536 in
set_option maxHeartbeats 40000000 in
theorem rm3_C0 (l : Launch) (Z : State) (a0 : Array Value) (hw : ∀ d ∈ tables_1, d.before a0 Z = true) (ws : List Jvm.Cond) (ob : Addr) (v : UInt64) (f sc sf df nf : UInt64) (ct : Int64) (h0 : Heap) (n0 : Nat) (Z0 : n0 ≤ h0.size) (g_ob : n0 ≤ ob) (M : MSt Z h0 ob f sc sf df nf ct) (hni1 : Jvm.Free.Fl.NoNaN64 v) (hc4 : (infF v) = (0 : Int32)) (hc26 : ¬ ((lcmpW ct (0 : Int64)) = (0 : Int32))) (hnan48 : Jvm.Free.Fl.NoNaN64 (FP.dmul v sc)) (hnan53 : Jvm.Free.Fl.NoNaN64 (FP.dsub (FP.dmul v sc) sf)) (hnan54 : Jvm.Free.Fl.NoNaN64 (FP.dadd df (FP.dsub (FP.dmul v sc) sf))) (hni57 : Jvm.Free.Fl.NoNaN64 (sumF v sc sf df)) (hc60 : (infF (sumF v sc sf df)) = (0 : Int32)) :
    MetFree l (⟨"com/example/retiremetric/retiremetric/engine/Mean", "add", "(D)V"⟩ : MethodName) (head1 (Jvm.Cond.code (⟨"com/example/retiremetric/retiremetric/engine/Mean", "add", "(D)V"⟩ : MethodName) prog_16_method_3_code 5 none :: ws) ({ frames := 2, cells := 0, slots := 0, locals := 26 } : Room)) (fun aa_ U_ => aa_ = #[(.ref ob), (.double v)] ∧ Z.Warmed39 U_.vm ∧ U_.heap = h0) (fun _ _ _ _ _ => True) (fun _ U_ o_ V_ => ∃ v_ L_, o_ = .returned v_ ∧ Q3 Z ob f sc sf (sumF v sc sf df) nf (ct + (1 : Int64)) h0 n0 v_ V_.heap L_ ∧ FrameEnd U_ o_ V_ L_ ({ frames := 2, cells := 0, slots := 0, locals := 26 } : Room).cells ({ frames := 2, cells := 0, slots := 0, locals := 26 } : Room).slots) := by
  refine MetFree.of_bodySF (plainFor_of_name pn_3) hisR ?_
  intro p e s m args below meth c s₁ Bd hml0 hP hK
  obtain ⟨rfl, hZ, hh⟩ := hP
  have hx := Bd.exec
  have hby := Bd.bytes
  have hml : c.maxLocals = 5 := hml0
  have hown : s.vm.findClass "com/example/retiremetric/retiremetric/engine/Mean" = some m.cls := findClass_of_methodNamed Bd.named
  have hnm := (name_of_methodNamed Bd.named Bd.method).1
  have X0 : Stand p l e ({ frames := 2, cells := 0, slots := 0, locals := 26 } : Room) s m #[(.ref ob), (.double v)] below meth c s₁ [] 0 0 := Stand.of_body Bd
  have e0 : s₁.heap = h0 := by rw [← hh, Bd.state]; rfl
  have N0 := Fr.nil n0
  have pre0 : ∀ zz, Steps p.tables e below (s₁.setTop (mkF m 0 #[.val (.ref ob), .val (.double v), .second, .unset, .unset] [])) zz → Steps p.tables e below (s₁.setTop (entryFrame m #[(.ref ob), (.double v)] 5)) zz := fun zz k => castTop (ef_3 m ob v) k
  obtain ⟨E_o, F_first_o, F_scale_o, F_scaledFirst_o, F_differences_o, F_infinities_o, F_count_o⟩ := M
  obtain ⟨_, _, ⟨T21, L21, k21, n21⟩, -, X21, ⟨Lc21, hQ21, l21, y21, z21⟩, st21⟩ := Jvm.LawKit.callS X0 hx (y := (⟨"java/lang/Double", "isInfinite", "(D)Z"⟩ : MethodName)) hown (mvT hZ (hw _ (List.mem_of_getElem? (i := 17) rfl))) (mvT hZ (hw _ (List.mem_of_getElem? (i := 18) rfl))) (mvT hZ (hw _ (List.mem_of_getElem? (i := 19) rfl))) (mvT hZ (hw _ (List.mem_of_getElem? (i := 20) rfl))) (by decide) (backOf (W := 0) (rm4 l Z a0 hw [] v h0 n0 Z0 hni1) hZ (hw _ (List.mem_of_getElem? (i := 20) rfl)) (hw _ (List.mem_of_getElem? (i := 19) rfl)) (by decide) (by decide)) (g := (mkF m 1 #[.val (.ref ob), .val (.double v), .second, .unset, .unset] [(.double v)])) rfl (by rw [hml]; rfl) (argsL := [(.double v)]) (rest := []) (lenOf pd_2 rfl) rfl (by show 2 * 0 + _ ≤ _; exact Nat.le_of_eq rfl) (hb hby d3_1) (fun _ _ => ⟨rfl, e0, (by decide : 0 + 0 ≤ _), (by decide : 0 + 0 ≤ _)⟩)
  dsimp only [Pt.U, Pt.locs, Pt.cells, Pt.slots] at X21 l21 y21 z21 st21 hQ21
  subst l21 y21 z21
  obtain ⟨rfl, N21q, e21⟩ := hQ21
  have N21 := Fr.app N0 N21q
  obtain ⟨T22, X22, e22, st22⟩ := getF X21 hx hZ hown (host := "") (Or.inl (hw _ (List.mem_of_getElem? (i := 26) rfl))) Via.refl e21 F_count_o (g := (mkF m 21 #[.val (.ref ob), .val (.double v), .second, .unset, .unset] [(.ref ob)])) rfl rfl (hb hby d3_21)
  obtain ⟨T23, X23, e23, st23⟩ := getF X22 hx hZ hown (host := "") (Or.inl (hw _ (List.mem_of_getElem? (i := 32) rfl))) Via.refl e22 F_differences_o (g := (mkF m 40 #[.val (.ref ob), .val (.double v), .second, .unset, .unset] [(.ref ob)])) rfl rfl (hb hby d3_40)
  obtain ⟨T24, X24, e24, st24⟩ := getF X23 hx hZ hown (host := "") (Or.inl (hw _ (List.mem_of_getElem? (i := 10) rfl))) Via.refl e23 F_scale_o (g := (mkF m 45 #[.val (.ref ob), .val (.double v), .second, .unset, .unset] [(.ref ob), (.double v), (.double df)])) rfl rfl (hb hby d3_45)
  obtain ⟨T25, X25, e25, st25⟩ := getF X24 hx hZ hown (host := "") (Or.inl (hw _ (List.mem_of_getElem? (i := 30) rfl))) Via.refl e24 F_scaledFirst_o (g := (mkF m 50 #[.val (.ref ob), .val (.double v), .second, .unset, .unset] [(.ref ob), (.double (FP.dmul v sc)), (.double df)])) rfl rfl (hb hby d3_50)
  obtain ⟨_, _, ⟨T26, L26, k26, n26⟩, -, X26, ⟨Lc26, hQ26, l26, y26, z26⟩, st26⟩ := Jvm.LawKit.callS X25 hx (y := (⟨"java/lang/Double", "isInfinite", "(D)Z"⟩ : MethodName)) hown (mvT hZ (hw _ (List.mem_of_getElem? (i := 17) rfl))) (mvT hZ (hw _ (List.mem_of_getElem? (i := 18) rfl))) (mvT hZ (hw _ (List.mem_of_getElem? (i := 19) rfl))) (mvT hZ (hw _ (List.mem_of_getElem? (i := 20) rfl))) (by decide) (backOf (W := 0) (rm4 l Z a0 hw [] (sumF v sc sf df) h0 n0 Z0 hni57) hZ (hw _ (List.mem_of_getElem? (i := 20) rfl)) (hw _ (List.mem_of_getElem? (i := 19) rfl)) (by decide) (by decide)) (g := (mkF m 57 #[.val (.ref ob), .val (.double v), .second, .val (.double (sumF v sc sf df)), .second] [(.double (sumF v sc sf df))])) rfl (by rw [hml]; rfl) (argsL := [(.double (sumF v sc sf df))]) (rest := []) (lenOf pd_2 rfl) rfl (by show 2 * 0 + _ ≤ _; exact Nat.le_of_eq rfl) (hb hby d3_57) (fun _ _ => ⟨rfl, e25, (by decide : 0 + 0 ≤ _), (by decide : 0 + 0 ≤ _)⟩)
  dsimp only [Pt.U, Pt.locs, Pt.cells, Pt.slots] at X26 l26 y26 z26 st26 hQ26
  subst l26 y26 z26
  obtain ⟨rfl, N26q, e26⟩ := hQ26
  have N26 := Fr.app N21 N26q
  obtain ⟨T27, h27, X27, e27, W27, st27⟩ := putF X26 hx hZ hown (host := "") (Or.inl (hw _ (List.mem_of_getElem? (i := 32) rfl))) Via.refl e26 F_differences_o E_o (Or.inl (hw _ (List.mem_of_getElem? (i := 33) rfl))) (hw _ (List.mem_of_getElem? (i := 2) rfl)) (ty := .double) (by decide) rfl rfl (g := (mkF m 122 #[.val (.ref ob), .val (.double v), .second, .val (.double (sumF v sc sf df)), .second] [(.double (sumF v sc sf df)), (.ref ob)])) rfl rfl (hb hby d3_122)
  have Fw27 := F_differences_o.same W27
  have E_o_e27 := E_o.wr W27
  have F_first_o_e27 := F_first_o.other W27 (Or.inr (slot_ne (Or.inl (hw _ (List.mem_of_getElem? (i := 29) rfl))) (Or.inl (hw _ (List.mem_of_getElem? (i := 33) rfl))) (by decide) (t := .double) (t' := .double) (by decide) (by decide)))
  have F_scale_o_e27 := F_scale_o.other W27 (Or.inr (slot_ne (Or.inl (hw _ (List.mem_of_getElem? (i := 11) rfl))) (Or.inl (hw _ (List.mem_of_getElem? (i := 33) rfl))) (by decide) (t := .double) (t' := .double) (by decide) (by decide)))
  have F_scaledFirst_o_e27 := F_scaledFirst_o.other W27 (Or.inr (slot_ne (Or.inl (hw _ (List.mem_of_getElem? (i := 31) rfl))) (Or.inl (hw _ (List.mem_of_getElem? (i := 33) rfl))) (by decide) (t := .double) (t' := .double) (by decide) (by decide)))
  have F_infinities_o_e27 := F_infinities_o.other W27 (Or.inr (slot_ne (Or.inl (hw _ (List.mem_of_getElem? (i := 40) rfl))) (Or.inl (hw _ (List.mem_of_getElem? (i := 33) rfl))) (by decide) (t := .double) (t' := .double) (by decide) (by decide)))
  have F_count_o_e27 := F_count_o.other W27 (Or.inr (slot_ne (Or.inl (hw _ (List.mem_of_getElem? (i := 27) rfl))) (Or.inl (hw _ (List.mem_of_getElem? (i := 33) rfl))) (by decide) (t := .long) (t' := .double) (by decide) (by decide)))
  have N27 := Fr.snoc X27 N26 g_ob
  have K27 := (Keep.refl h0 [ob]).wr W27 (Or.inl (List.mem_of_getElem? (i := 0) rfl))
  have Z27 : n0 ≤ h27.size := Nat.le_trans Z0 (Keep.of_wr W27).1
  obtain ⟨T28, X28, e28, st28⟩ := getF X27 hx hZ hown (host := "") (Or.inl (hw _ (List.mem_of_getElem? (i := 26) rfl))) Via.refl e27 F_count_o_e27 (g := (mkF m 127 #[.val (.ref ob), .val (.double v), .second, .val (.double (sumF v sc sf df)), .second] [(.ref ob), (.ref ob)])) rfl rfl (hb hby d3_127)
  obtain ⟨T29, h29, X29, e29, W29, st29⟩ := putF X28 hx hZ hown (host := "") (Or.inl (hw _ (List.mem_of_getElem? (i := 26) rfl))) Via.refl e28 F_count_o_e27 E_o_e27 (Or.inl (hw _ (List.mem_of_getElem? (i := 27) rfl))) (hw _ (List.mem_of_getElem? (i := 2) rfl)) (ty := .long) (by decide) rfl rfl (g := (mkF m 132 #[.val (.ref ob), .val (.double v), .second, .val (.double (sumF v sc sf df)), .second] [(.long (ct + (1 : Int64))), (.ref ob)])) rfl rfl (hb hby d3_132)
  have Fw29 := F_count_o_e27.same W29
  have E_o_e29 := E_o_e27.wr W29
  have F_first_o_e29 := F_first_o_e27.other W29 (Or.inr (slot_ne (Or.inl (hw _ (List.mem_of_getElem? (i := 29) rfl))) (Or.inl (hw _ (List.mem_of_getElem? (i := 27) rfl))) (by decide) (t := .double) (t' := .long) (by decide) (by decide)))
  have F_scale_o_e29 := F_scale_o_e27.other W29 (Or.inr (slot_ne (Or.inl (hw _ (List.mem_of_getElem? (i := 11) rfl))) (Or.inl (hw _ (List.mem_of_getElem? (i := 27) rfl))) (by decide) (t := .double) (t' := .long) (by decide) (by decide)))
  have F_scaledFirst_o_e29 := F_scaledFirst_o_e27.other W29 (Or.inr (slot_ne (Or.inl (hw _ (List.mem_of_getElem? (i := 31) rfl))) (Or.inl (hw _ (List.mem_of_getElem? (i := 27) rfl))) (by decide) (t := .double) (t' := .long) (by decide) (by decide)))
  have Fw27_e29 := Fw27.other W29 (Or.inr (slot_ne (Or.inl (hw _ (List.mem_of_getElem? (i := 33) rfl))) (Or.inl (hw _ (List.mem_of_getElem? (i := 27) rfl))) (by decide) (t := .double) (t' := .long) (by decide) (by decide)))
  have F_infinities_o_e29 := F_infinities_o_e27.other W29 (Or.inr (slot_ne (Or.inl (hw _ (List.mem_of_getElem? (i := 40) rfl))) (Or.inl (hw _ (List.mem_of_getElem? (i := 27) rfl))) (by decide) (t := .double) (t' := .long) (by decide) (by decide)))
  have N29 := Fr.snoc X29 N27 g_ob
  have K29 := K27.wr W29 (Or.inl (List.mem_of_getElem? (i := 0) rfl))
  have Z29 : n0 ≤ h29.size := Nat.le_trans Z27 (Keep.of_wr W29).1
  obtain ⟨fs, hr, hrun, hended, hW, hsame⟩ := X29.leave (v := none) (fun _ => rfl)
  refine ⟨_, _, pre0 _ ?_, hrun, hended, _, _, rfl, ?_, ⟨_, rfl⟩, hW, hsame.mono (by decide) (by decide)⟩
  · show Steps p.tables e below (s₁.setTop (mkF m 0 #[.val (.ref ob), .val (.double v), .second, .unset, .unset] [])) _
    refine XS.dloadN X0.here hx rfl (hb hby d3_0) rfl ?_
    show Steps p.tables e below (s₁.setTop (mkF m 1 #[.val (.ref ob), .val (.double v), .second, .unset, .unset] [(.double v)])) _
    refine st21 _ ?_
    refine XS.ifYes X21.here hx rfl (pc0 := 4) (pc' := 20) rfl (hb hby d3_4) rfl ((if0 _ _).trans (teq hc4).1) (by decide) (by decide) ?_
    refine XS.aloadN X21.here hx rfl (hb hby d3_20) rfl rfl ?_
    show Steps p.tables e below (T21.setTop (mkF m 21 #[.val (.ref ob), .val (.double v), .second, .unset, .unset] [(.ref ob)])) _
    refine st22 _ ?_
    refine XS.lconst X22.here hx rfl (hb hby d3_24) ?_
    refine XS.lcmp X22.here hx rfl (hb hby d3_25) rfl ?_
    refine XS.ifYes X22.here hx rfl (pc0 := 26) (pc' := 39) rfl (hb hby d3_26) rfl ((if0 _ _).trans (feq hc26).2) (by decide) (by decide) ?_
    show Steps p.tables e below (T22.setTop (mkF m 39 #[.val (.ref ob), .val (.double v), .second, .unset, .unset] [])) _
    refine XS.aloadN X22.here hx rfl (hb hby d3_39) rfl rfl ?_
    show Steps p.tables e below (T22.setTop (mkF m 40 #[.val (.ref ob), .val (.double v), .second, .unset, .unset] [(.ref ob)])) _
    refine st23 _ ?_
    refine XS.dloadN X23.here hx rfl (hb hby d3_43) rfl ?_
    refine XS.aloadN X23.here hx rfl (hb hby d3_44) rfl rfl ?_
    show Steps p.tables e below (T23.setTop (mkF m 45 #[.val (.ref ob), .val (.double v), .second, .unset, .unset] [(.ref ob), (.double v), (.double df)])) _
    refine st24 _ ?_
    refine XS.dmulS X24.here hx rfl (hb hby d3_48) rfl hnan48 rfl ?_
    refine XS.aloadN X24.here hx rfl (hb hby d3_49) rfl rfl ?_
    show Steps p.tables e below (T24.setTop (mkF m 50 #[.val (.ref ob), .val (.double v), .second, .unset, .unset] [(.ref ob), (.double (FP.dmul v sc)), (.double df)])) _
    refine st25 _ ?_
    refine XS.dsubS X25.here hx rfl (hb hby d3_53) rfl hnan53 rfl ?_
    refine XS.daddS X25.here hx rfl (hb hby d3_54) rfl hnan54 rfl ?_
    show Steps p.tables e below (T25.setTop (mkF m 55 #[.val (.ref ob), .val (.double v), .second, .unset, .unset] [(.double (sumF v sc sf df))])) _
    refine XS.dstoreN X25.here hx rfl (hb hby d3_55) rfl (l' := #[.val (.ref ob), .val (.double v), .second, .val (.double (sumF v sc sf df)), .second]) rfl ?_
    refine XS.dloadN X25.here hx rfl (hb hby d3_56) rfl ?_
    show Steps p.tables e below (T25.setTop (mkF m 57 #[.val (.ref ob), .val (.double v), .second, .val (.double (sumF v sc sf df)), .second] [(.double (sumF v sc sf df))])) _
    refine st26 _ ?_
    refine XS.ifYes X26.here hx rfl (pc0 := 60) (pc' := 120) rfl (hb hby d3_60) rfl ((if0 _ _).trans (teq hc60).1) (by decide) (by decide) ?_
    refine XS.aloadN X26.here hx rfl (hb hby d3_120) rfl rfl ?_
    refine XS.dloadN X26.here hx rfl (hb hby d3_121) rfl ?_
    show Steps p.tables e below (T26.setTop (mkF m 122 #[.val (.ref ob), .val (.double v), .second, .val (.double (sumF v sc sf df)), .second] [(.double (sumF v sc sf df)), (.ref ob)])) _
    refine st27 _ ?_
    refine XS.aloadN X27.here hx rfl (hb hby d3_125) rfl rfl ?_
    refine XS.dup X27.here hx rfl (hb hby d3_126) rfl rfl ?_
    show Steps p.tables e below (T27.setTop (mkF m 127 #[.val (.ref ob), .val (.double v), .second, .val (.double (sumF v sc sf df)), .second] [(.ref ob), (.ref ob)])) _
    refine st28 _ ?_
    refine XS.lconst X28.here hx rfl (hb hby d3_130) ?_
    refine XS.ladd X28.here hx rfl (hb hby d3_131) rfl ?_
    show Steps p.tables e below (T28.setTop (mkF m 132 #[.val (.ref ob), .val (.double v), .second, .val (.double (sumF v sc sf df)), .second] [(.long (ct + (1 : Int64))), (.ref ob)])) _
    refine st29 _ ?_
    show Steps p.tables e below (T29.setTop (mkF m 135 #[.val (.ref ob), .val (.double v), .second, .val (.double (sumF v sc sf df)), .second] [])) _
    exact X29.returnOut hx Bd.returns (hb hby d3_135) hr
  · show Q3 Z ob f sc sf (sumF v sc sf df) nf (ct + (1 : Int64)) h0 n0 _ T29.heap _
    rw [e29]
    exact ⟨rfl, N29, K29, E_o_e29, F_first_o_e29, F_scale_o_e29, F_scaledFirst_o_e29, Fw27_e29, F_infinities_o_e29, Fw29⟩
set_option maxRecDepth 65536 in
set_option maxHeartbeats 40000000 in
theorem rm3_C1 (l : Launch) (Z : State) (a0 : Array Value) (hw : ∀ d ∈ tables_1, d.before a0 Z = true) (ws : List Jvm.Cond) (ob : Addr) (v : UInt64) (f sc sf df nf : UInt64) (ct : Int64) (h0 : Heap) (n0 : Nat) (Z0 : n0 ≤ h0.size) (g_ob : n0 ≤ ob) (M : MSt Z h0 ob f sc sf df nf ct) (hni1 : Jvm.Free.Fl.NoNaN64 v) (hc4 : (infF v) = (0 : Int32)) (hc26 : ¬ ((lcmpW ct (0 : Int64)) = (0 : Int32))) (hnan48 : Jvm.Free.Fl.NoNaN64 (FP.dmul v sc)) (hnan53 : Jvm.Free.Fl.NoNaN64 (FP.dsub (FP.dmul v sc) sf)) (hnan54 : Jvm.Free.Fl.NoNaN64 (FP.dadd df (FP.dsub (FP.dmul v sc) sf))) (hni57 : Jvm.Free.Fl.NoNaN64 (sumF v sc sf df)) (hc60 : ¬ ((infF (sumF v sc sf df)) = (0 : Int32))) (hnan71 : Jvm.Free.Fl.NoNaN64 (FP.ddiv sc (4611686018427387904 : UInt64))) (hnan84 : Jvm.Free.Fl.NoNaN64 (FP.dmul f (hvF sc))) (hnan96 : Jvm.Free.Fl.NoNaN64 (FP.ddiv df (4611686018427387904 : UInt64))) (hnan109 : Jvm.Free.Fl.NoNaN64 (FP.dmul v (hvF sc))) (hnan114 : Jvm.Free.Fl.NoNaN64 (FP.dsub (FP.dmul v (hvF sc)) (FP.dmul f (hvF sc)))) (hnan115 : Jvm.Free.Fl.NoNaN64 (FP.dadd (hvF df) (FP.dsub (FP.dmul v (hvF sc)) (FP.dmul f (hvF sc))))) (hni57_1 : Jvm.Free.Fl.NoNaN64 (sumF v (hvF sc) (FP.dmul f (hvF sc)) (hvF df))) (hc60_1 : (infF (sumF v (hvF sc) (FP.dmul f (hvF sc)) (hvF df))) = (0 : Int32)) :
    MetFree l (⟨"com/example/retiremetric/retiremetric/engine/Mean", "add", "(D)V"⟩ : MethodName) (head1 (Jvm.Cond.code (⟨"com/example/retiremetric/retiremetric/engine/Mean", "add", "(D)V"⟩ : MethodName) prog_16_method_3_code 5 none :: ws) ({ frames := 2, cells := 0, slots := 0, locals := 26 } : Room)) (fun aa_ U_ => aa_ = #[(.ref ob), (.double v)] ∧ Z.Warmed39 U_.vm ∧ U_.heap = h0) (fun _ _ _ _ _ => True) (fun _ U_ o_ V_ => ∃ v_ L_, o_ = .returned v_ ∧ Q3 Z ob f (hvF sc) (FP.dmul f (hvF sc)) (sumF v (hvF sc) (FP.dmul f (hvF sc)) (hvF df)) nf (ct + (1 : Int64)) h0 n0 v_ V_.heap L_ ∧ FrameEnd U_ o_ V_ L_ ({ frames := 2, cells := 0, slots := 0, locals := 26 } : Room).cells ({ frames := 2, cells := 0, slots := 0, locals := 26 } : Room).slots) := by
  refine MetFree.of_bodySF (plainFor_of_name pn_3) hisR ?_
  intro p e s m args below meth c s₁ Bd hml0 hP hK
  obtain ⟨rfl, hZ, hh⟩ := hP
  have hx := Bd.exec
  have hby := Bd.bytes
  have hml : c.maxLocals = 5 := hml0
  have hown : s.vm.findClass "com/example/retiremetric/retiremetric/engine/Mean" = some m.cls := findClass_of_methodNamed Bd.named
  have hnm := (name_of_methodNamed Bd.named Bd.method).1
  have X0 : Stand p l e ({ frames := 2, cells := 0, slots := 0, locals := 26 } : Room) s m #[(.ref ob), (.double v)] below meth c s₁ [] 0 0 := Stand.of_body Bd
  have e0 : s₁.heap = h0 := by rw [← hh, Bd.state]; rfl
  have N0 := Fr.nil n0
  have pre0 : ∀ zz, Steps p.tables e below (s₁.setTop (mkF m 0 #[.val (.ref ob), .val (.double v), .second, .unset, .unset] [])) zz → Steps p.tables e below (s₁.setTop (entryFrame m #[(.ref ob), (.double v)] 5)) zz := fun zz k => castTop (ef_3 m ob v) k
  obtain ⟨E_o, F_first_o, F_scale_o, F_scaledFirst_o, F_differences_o, F_infinities_o, F_count_o⟩ := M
  obtain ⟨_, _, ⟨T30, L30, k30, n30⟩, -, X30, ⟨Lc30, hQ30, l30, y30, z30⟩, st30⟩ := Jvm.LawKit.callS X0 hx (y := (⟨"java/lang/Double", "isInfinite", "(D)Z"⟩ : MethodName)) hown (mvT hZ (hw _ (List.mem_of_getElem? (i := 17) rfl))) (mvT hZ (hw _ (List.mem_of_getElem? (i := 18) rfl))) (mvT hZ (hw _ (List.mem_of_getElem? (i := 19) rfl))) (mvT hZ (hw _ (List.mem_of_getElem? (i := 20) rfl))) (by decide) (backOf (W := 0) (rm4 l Z a0 hw [] v h0 n0 Z0 hni1) hZ (hw _ (List.mem_of_getElem? (i := 20) rfl)) (hw _ (List.mem_of_getElem? (i := 19) rfl)) (by decide) (by decide)) (g := (mkF m 1 #[.val (.ref ob), .val (.double v), .second, .unset, .unset] [(.double v)])) rfl (by rw [hml]; rfl) (argsL := [(.double v)]) (rest := []) (lenOf pd_2 rfl) rfl (by show 2 * 0 + _ ≤ _; exact Nat.le_of_eq rfl) (hb hby d3_1) (fun _ _ => ⟨rfl, e0, (by decide : 0 + 0 ≤ _), (by decide : 0 + 0 ≤ _)⟩)
  dsimp only [Pt.U, Pt.locs, Pt.cells, Pt.slots] at X30 l30 y30 z30 st30 hQ30
  subst l30 y30 z30
  obtain ⟨rfl, N30q, e30⟩ := hQ30
  have N30 := Fr.app N0 N30q
  obtain ⟨T31, X31, e31, st31⟩ := getF X30 hx hZ hown (host := "") (Or.inl (hw _ (List.mem_of_getElem? (i := 26) rfl))) Via.refl e30 F_count_o (g := (mkF m 21 #[.val (.ref ob), .val (.double v), .second, .unset, .unset] [(.ref ob)])) rfl rfl (hb hby d3_21)
  obtain ⟨T32, X32, e32, st32⟩ := getF X31 hx hZ hown (host := "") (Or.inl (hw _ (List.mem_of_getElem? (i := 32) rfl))) Via.refl e31 F_differences_o (g := (mkF m 40 #[.val (.ref ob), .val (.double v), .second, .unset, .unset] [(.ref ob)])) rfl rfl (hb hby d3_40)
  obtain ⟨T33, X33, e33, st33⟩ := getF X32 hx hZ hown (host := "") (Or.inl (hw _ (List.mem_of_getElem? (i := 10) rfl))) Via.refl e32 F_scale_o (g := (mkF m 45 #[.val (.ref ob), .val (.double v), .second, .unset, .unset] [(.ref ob), (.double v), (.double df)])) rfl rfl (hb hby d3_45)
  obtain ⟨T34, X34, e34, st34⟩ := getF X33 hx hZ hown (host := "") (Or.inl (hw _ (List.mem_of_getElem? (i := 30) rfl))) Via.refl e33 F_scaledFirst_o (g := (mkF m 50 #[.val (.ref ob), .val (.double v), .second, .unset, .unset] [(.ref ob), (.double (FP.dmul v sc)), (.double df)])) rfl rfl (hb hby d3_50)
  obtain ⟨_, _, ⟨T35, L35, k35, n35⟩, -, X35, ⟨Lc35, hQ35, l35, y35, z35⟩, st35⟩ := Jvm.LawKit.callS X34 hx (y := (⟨"java/lang/Double", "isInfinite", "(D)Z"⟩ : MethodName)) hown (mvT hZ (hw _ (List.mem_of_getElem? (i := 17) rfl))) (mvT hZ (hw _ (List.mem_of_getElem? (i := 18) rfl))) (mvT hZ (hw _ (List.mem_of_getElem? (i := 19) rfl))) (mvT hZ (hw _ (List.mem_of_getElem? (i := 20) rfl))) (by decide) (backOf (W := 0) (rm4 l Z a0 hw [] (sumF v sc sf df) h0 n0 Z0 hni57) hZ (hw _ (List.mem_of_getElem? (i := 20) rfl)) (hw _ (List.mem_of_getElem? (i := 19) rfl)) (by decide) (by decide)) (g := (mkF m 57 #[.val (.ref ob), .val (.double v), .second, .val (.double (sumF v sc sf df)), .second] [(.double (sumF v sc sf df))])) rfl (by rw [hml]; rfl) (argsL := [(.double (sumF v sc sf df))]) (rest := []) (lenOf pd_2 rfl) rfl (by show 2 * 0 + _ ≤ _; exact Nat.le_of_eq rfl) (hb hby d3_57) (fun _ _ => ⟨rfl, e34, (by decide : 0 + 0 ≤ _), (by decide : 0 + 0 ≤ _)⟩)
  dsimp only [Pt.U, Pt.locs, Pt.cells, Pt.slots] at X35 l35 y35 z35 st35 hQ35
  subst l35 y35 z35
  obtain ⟨rfl, N35q, e35⟩ := hQ35
  have N35 := Fr.app N30 N35q
  obtain ⟨T36, X36, e36, st36⟩ := getF X35 hx hZ hown (host := "") (Or.inl (hw _ (List.mem_of_getElem? (i := 10) rfl))) Via.refl e35 F_scale_o (g := (mkF m 65 #[.val (.ref ob), .val (.double v), .second, .val (.double (sumF v sc sf df)), .second] [(.ref ob), (.ref ob)])) rfl rfl (hb hby d3_65)
  obtain ⟨T37, h37, X37, e37, W37, st37⟩ := putF X36 hx hZ hown (host := "") (Or.inl (hw _ (List.mem_of_getElem? (i := 10) rfl))) Via.refl e36 F_scale_o E_o (Or.inl (hw _ (List.mem_of_getElem? (i := 11) rfl))) (hw _ (List.mem_of_getElem? (i := 2) rfl)) (ty := .double) (by decide) rfl rfl (g := (mkF m 72 #[.val (.ref ob), .val (.double v), .second, .val (.double (sumF v sc sf df)), .second] [(.double (hvF sc)), (.ref ob)])) rfl rfl (hb hby d3_72)
  have Fw37 := F_scale_o.same W37
  have E_o_e37 := E_o.wr W37
  have F_first_o_e37 := F_first_o.other W37 (Or.inr (slot_ne (Or.inl (hw _ (List.mem_of_getElem? (i := 29) rfl))) (Or.inl (hw _ (List.mem_of_getElem? (i := 11) rfl))) (by decide) (t := .double) (t' := .double) (by decide) (by decide)))
  have F_scaledFirst_o_e37 := F_scaledFirst_o.other W37 (Or.inr (slot_ne (Or.inl (hw _ (List.mem_of_getElem? (i := 31) rfl))) (Or.inl (hw _ (List.mem_of_getElem? (i := 11) rfl))) (by decide) (t := .double) (t' := .double) (by decide) (by decide)))
  have F_differences_o_e37 := F_differences_o.other W37 (Or.inr (slot_ne (Or.inl (hw _ (List.mem_of_getElem? (i := 33) rfl))) (Or.inl (hw _ (List.mem_of_getElem? (i := 11) rfl))) (by decide) (t := .double) (t' := .double) (by decide) (by decide)))
  have F_infinities_o_e37 := F_infinities_o.other W37 (Or.inr (slot_ne (Or.inl (hw _ (List.mem_of_getElem? (i := 40) rfl))) (Or.inl (hw _ (List.mem_of_getElem? (i := 11) rfl))) (by decide) (t := .double) (t' := .double) (by decide) (by decide)))
  have F_count_o_e37 := F_count_o.other W37 (Or.inr (slot_ne (Or.inl (hw _ (List.mem_of_getElem? (i := 27) rfl))) (Or.inl (hw _ (List.mem_of_getElem? (i := 11) rfl))) (by decide) (t := .long) (t' := .double) (by decide) (by decide)))
  have N37 := Fr.snoc X37 N35 g_ob
  have K37 := (Keep.refl h0 [ob]).wr W37 (Or.inl (List.mem_of_getElem? (i := 0) rfl))
  have Z37 : n0 ≤ h37.size := Nat.le_trans Z0 (Keep.of_wr W37).1
  obtain ⟨T38, X38, e38, st38⟩ := getF X37 hx hZ hown (host := "") (Or.inl (hw _ (List.mem_of_getElem? (i := 28) rfl))) Via.refl e37 F_first_o_e37 (g := (mkF m 77 #[.val (.ref ob), .val (.double v), .second, .val (.double (sumF v sc sf df)), .second] [(.ref ob), (.ref ob)])) rfl rfl (hb hby d3_77)
  obtain ⟨T39, X39, e39, st39⟩ := getF X38 hx hZ hown (host := "") (Or.inl (hw _ (List.mem_of_getElem? (i := 10) rfl))) Via.refl e38 Fw37 (g := (mkF m 81 #[.val (.ref ob), .val (.double v), .second, .val (.double (sumF v sc sf df)), .second] [(.ref ob), (.double f), (.ref ob)])) rfl rfl (hb hby d3_81)
  obtain ⟨T40, h40, X40, e40, W40, st40⟩ := putF X39 hx hZ hown (host := "") (Or.inl (hw _ (List.mem_of_getElem? (i := 30) rfl))) Via.refl e39 F_scaledFirst_o_e37 E_o_e37 (Or.inl (hw _ (List.mem_of_getElem? (i := 31) rfl))) (hw _ (List.mem_of_getElem? (i := 2) rfl)) (ty := .double) (by decide) rfl rfl (g := (mkF m 85 #[.val (.ref ob), .val (.double v), .second, .val (.double (sumF v sc sf df)), .second] [(.double (FP.dmul f (hvF sc))), (.ref ob)])) rfl rfl (hb hby d3_85)
  have Fw40 := F_scaledFirst_o_e37.same W40
  have E_o_e40 := E_o_e37.wr W40
  have F_first_o_e40 := F_first_o_e37.other W40 (Or.inr (slot_ne (Or.inl (hw _ (List.mem_of_getElem? (i := 29) rfl))) (Or.inl (hw _ (List.mem_of_getElem? (i := 31) rfl))) (by decide) (t := .double) (t' := .double) (by decide) (by decide)))
  have Fw37_e40 := Fw37.other W40 (Or.inr (slot_ne (Or.inl (hw _ (List.mem_of_getElem? (i := 11) rfl))) (Or.inl (hw _ (List.mem_of_getElem? (i := 31) rfl))) (by decide) (t := .double) (t' := .double) (by decide) (by decide)))
  have F_differences_o_e40 := F_differences_o_e37.other W40 (Or.inr (slot_ne (Or.inl (hw _ (List.mem_of_getElem? (i := 33) rfl))) (Or.inl (hw _ (List.mem_of_getElem? (i := 31) rfl))) (by decide) (t := .double) (t' := .double) (by decide) (by decide)))
  have F_infinities_o_e40 := F_infinities_o_e37.other W40 (Or.inr (slot_ne (Or.inl (hw _ (List.mem_of_getElem? (i := 40) rfl))) (Or.inl (hw _ (List.mem_of_getElem? (i := 31) rfl))) (by decide) (t := .double) (t' := .double) (by decide) (by decide)))
  have F_count_o_e40 := F_count_o_e37.other W40 (Or.inr (slot_ne (Or.inl (hw _ (List.mem_of_getElem? (i := 27) rfl))) (Or.inl (hw _ (List.mem_of_getElem? (i := 31) rfl))) (by decide) (t := .long) (t' := .double) (by decide) (by decide)))
  have N40 := Fr.snoc X40 N37 g_ob
  have K40 := K37.wr W40 (Or.inl (List.mem_of_getElem? (i := 0) rfl))
  have Z40 : n0 ≤ h40.size := Nat.le_trans Z37 (Keep.of_wr W40).1
  obtain ⟨T41, X41, e41, st41⟩ := getF X40 hx hZ hown (host := "") (Or.inl (hw _ (List.mem_of_getElem? (i := 32) rfl))) Via.refl e40 F_differences_o_e40 (g := (mkF m 90 #[.val (.ref ob), .val (.double v), .second, .val (.double (sumF v sc sf df)), .second] [(.ref ob), (.ref ob)])) rfl rfl (hb hby d3_90)
  obtain ⟨T42, h42, X42, e42, W42, st42⟩ := putF X41 hx hZ hown (host := "") (Or.inl (hw _ (List.mem_of_getElem? (i := 32) rfl))) Via.refl e41 F_differences_o_e40 E_o_e40 (Or.inl (hw _ (List.mem_of_getElem? (i := 33) rfl))) (hw _ (List.mem_of_getElem? (i := 2) rfl)) (ty := .double) (by decide) rfl rfl (g := (mkF m 97 #[.val (.ref ob), .val (.double v), .second, .val (.double (sumF v sc sf df)), .second] [(.double (hvF df)), (.ref ob)])) rfl rfl (hb hby d3_97)
  have Fw42 := F_differences_o_e40.same W42
  have E_o_e42 := E_o_e40.wr W42
  have F_first_o_e42 := F_first_o_e40.other W42 (Or.inr (slot_ne (Or.inl (hw _ (List.mem_of_getElem? (i := 29) rfl))) (Or.inl (hw _ (List.mem_of_getElem? (i := 33) rfl))) (by decide) (t := .double) (t' := .double) (by decide) (by decide)))
  have Fw37_e42 := Fw37_e40.other W42 (Or.inr (slot_ne (Or.inl (hw _ (List.mem_of_getElem? (i := 11) rfl))) (Or.inl (hw _ (List.mem_of_getElem? (i := 33) rfl))) (by decide) (t := .double) (t' := .double) (by decide) (by decide)))
  have Fw40_e42 := Fw40.other W42 (Or.inr (slot_ne (Or.inl (hw _ (List.mem_of_getElem? (i := 31) rfl))) (Or.inl (hw _ (List.mem_of_getElem? (i := 33) rfl))) (by decide) (t := .double) (t' := .double) (by decide) (by decide)))
  have F_infinities_o_e42 := F_infinities_o_e40.other W42 (Or.inr (slot_ne (Or.inl (hw _ (List.mem_of_getElem? (i := 40) rfl))) (Or.inl (hw _ (List.mem_of_getElem? (i := 33) rfl))) (by decide) (t := .double) (t' := .double) (by decide) (by decide)))
  have F_count_o_e42 := F_count_o_e40.other W42 (Or.inr (slot_ne (Or.inl (hw _ (List.mem_of_getElem? (i := 27) rfl))) (Or.inl (hw _ (List.mem_of_getElem? (i := 33) rfl))) (by decide) (t := .long) (t' := .double) (by decide) (by decide)))
  have N42 := Fr.snoc X42 N40 g_ob
  have K42 := K40.wr W42 (Or.inl (List.mem_of_getElem? (i := 0) rfl))
  have Z42 : n0 ≤ h42.size := Nat.le_trans Z40 (Keep.of_wr W42).1
  obtain ⟨T43, X43, e43, st43⟩ := getF X42 hx hZ hown (host := "") (Or.inl (hw _ (List.mem_of_getElem? (i := 32) rfl))) Via.refl e42 Fw42 (g := (mkF m 101 #[.val (.ref ob), .val (.double v), .second, .val (.double (sumF v sc sf df)), .second] [(.ref ob)])) rfl rfl (hb hby d3_101)
  obtain ⟨T44, X44, e44, st44⟩ := getF X43 hx hZ hown (host := "") (Or.inl (hw _ (List.mem_of_getElem? (i := 10) rfl))) Via.refl e43 Fw37_e42 (g := (mkF m 106 #[.val (.ref ob), .val (.double v), .second, .val (.double (sumF v sc sf df)), .second] [(.ref ob), (.double v), (.double (hvF df))])) rfl rfl (hb hby d3_106)
  obtain ⟨T45, X45, e45, st45⟩ := getF X44 hx hZ hown (host := "") (Or.inl (hw _ (List.mem_of_getElem? (i := 30) rfl))) Via.refl e44 Fw40_e42 (g := (mkF m 111 #[.val (.ref ob), .val (.double v), .second, .val (.double (sumF v sc sf df)), .second] [(.ref ob), (.double (FP.dmul v (hvF sc))), (.double (hvF df))])) rfl rfl (hb hby d3_111)
  obtain ⟨_, _, ⟨T46, L46, k46, n46⟩, -, X46, ⟨Lc46, hQ46, l46, y46, z46⟩, st46⟩ := Jvm.LawKit.callS X45 hx (y := (⟨"java/lang/Double", "isInfinite", "(D)Z"⟩ : MethodName)) hown (mvT hZ (hw _ (List.mem_of_getElem? (i := 17) rfl))) (mvT hZ (hw _ (List.mem_of_getElem? (i := 18) rfl))) (mvT hZ (hw _ (List.mem_of_getElem? (i := 19) rfl))) (mvT hZ (hw _ (List.mem_of_getElem? (i := 20) rfl))) (by decide) (backOf (W := 0) (rm4 l Z a0 hw [] (sumF v (hvF sc) (FP.dmul f (hvF sc)) (hvF df)) h42 n0 Z42 hni57_1) hZ (hw _ (List.mem_of_getElem? (i := 20) rfl)) (hw _ (List.mem_of_getElem? (i := 19) rfl)) (by decide) (by decide)) (g := (mkF m 57 #[.val (.ref ob), .val (.double v), .second, .val (.double (sumF v (hvF sc) (FP.dmul f (hvF sc)) (hvF df))), .second] [(.double (sumF v (hvF sc) (FP.dmul f (hvF sc)) (hvF df)))])) rfl (by rw [hml]; rfl) (argsL := [(.double (sumF v (hvF sc) (FP.dmul f (hvF sc)) (hvF df)))]) (rest := []) (lenOf pd_2 rfl) rfl (by show 2 * 0 + _ ≤ _; exact Nat.le_of_eq rfl) (hb hby d3_57) (fun _ _ => ⟨rfl, e45, (by decide : 0 + 0 ≤ _), (by decide : 0 + 0 ≤ _)⟩)
  dsimp only [Pt.U, Pt.locs, Pt.cells, Pt.slots] at X46 l46 y46 z46 st46 hQ46
  subst l46 y46 z46
  obtain ⟨rfl, N46q, e46⟩ := hQ46
  have N46 := Fr.app N42 N46q
  obtain ⟨T47, h47, X47, e47, W47, st47⟩ := putF X46 hx hZ hown (host := "") (Or.inl (hw _ (List.mem_of_getElem? (i := 32) rfl))) Via.refl e46 Fw42 E_o_e42 (Or.inl (hw _ (List.mem_of_getElem? (i := 33) rfl))) (hw _ (List.mem_of_getElem? (i := 2) rfl)) (ty := .double) (by decide) rfl rfl (g := (mkF m 122 #[.val (.ref ob), .val (.double v), .second, .val (.double (sumF v (hvF sc) (FP.dmul f (hvF sc)) (hvF df))), .second] [(.double (sumF v (hvF sc) (FP.dmul f (hvF sc)) (hvF df))), (.ref ob)])) rfl rfl (hb hby d3_122)
  have Fw47 := Fw42.same W47
  have E_o_e47 := E_o_e42.wr W47
  have F_first_o_e47 := F_first_o_e42.other W47 (Or.inr (slot_ne (Or.inl (hw _ (List.mem_of_getElem? (i := 29) rfl))) (Or.inl (hw _ (List.mem_of_getElem? (i := 33) rfl))) (by decide) (t := .double) (t' := .double) (by decide) (by decide)))
  have Fw37_e47 := Fw37_e42.other W47 (Or.inr (slot_ne (Or.inl (hw _ (List.mem_of_getElem? (i := 11) rfl))) (Or.inl (hw _ (List.mem_of_getElem? (i := 33) rfl))) (by decide) (t := .double) (t' := .double) (by decide) (by decide)))
  have Fw40_e47 := Fw40_e42.other W47 (Or.inr (slot_ne (Or.inl (hw _ (List.mem_of_getElem? (i := 31) rfl))) (Or.inl (hw _ (List.mem_of_getElem? (i := 33) rfl))) (by decide) (t := .double) (t' := .double) (by decide) (by decide)))
  have F_infinities_o_e47 := F_infinities_o_e42.other W47 (Or.inr (slot_ne (Or.inl (hw _ (List.mem_of_getElem? (i := 40) rfl))) (Or.inl (hw _ (List.mem_of_getElem? (i := 33) rfl))) (by decide) (t := .double) (t' := .double) (by decide) (by decide)))
  have F_count_o_e47 := F_count_o_e42.other W47 (Or.inr (slot_ne (Or.inl (hw _ (List.mem_of_getElem? (i := 27) rfl))) (Or.inl (hw _ (List.mem_of_getElem? (i := 33) rfl))) (by decide) (t := .long) (t' := .double) (by decide) (by decide)))
  have N47 := Fr.snoc X47 N46 g_ob
  have K47 := K42.wr W47 (Or.inl (List.mem_of_getElem? (i := 0) rfl))
  have Z47 : n0 ≤ h47.size := Nat.le_trans Z42 (Keep.of_wr W47).1
  obtain ⟨T48, X48, e48, st48⟩ := getF X47 hx hZ hown (host := "") (Or.inl (hw _ (List.mem_of_getElem? (i := 26) rfl))) Via.refl e47 F_count_o_e47 (g := (mkF m 127 #[.val (.ref ob), .val (.double v), .second, .val (.double (sumF v (hvF sc) (FP.dmul f (hvF sc)) (hvF df))), .second] [(.ref ob), (.ref ob)])) rfl rfl (hb hby d3_127)
  obtain ⟨T49, h49, X49, e49, W49, st49⟩ := putF X48 hx hZ hown (host := "") (Or.inl (hw _ (List.mem_of_getElem? (i := 26) rfl))) Via.refl e48 F_count_o_e47 E_o_e47 (Or.inl (hw _ (List.mem_of_getElem? (i := 27) rfl))) (hw _ (List.mem_of_getElem? (i := 2) rfl)) (ty := .long) (by decide) rfl rfl (g := (mkF m 132 #[.val (.ref ob), .val (.double v), .second, .val (.double (sumF v (hvF sc) (FP.dmul f (hvF sc)) (hvF df))), .second] [(.long (ct + (1 : Int64))), (.ref ob)])) rfl rfl (hb hby d3_132)
  have Fw49 := F_count_o_e47.same W49
  have E_o_e49 := E_o_e47.wr W49
  have F_first_o_e49 := F_first_o_e47.other W49 (Or.inr (slot_ne (Or.inl (hw _ (List.mem_of_getElem? (i := 29) rfl))) (Or.inl (hw _ (List.mem_of_getElem? (i := 27) rfl))) (by decide) (t := .double) (t' := .long) (by decide) (by decide)))
  have Fw37_e49 := Fw37_e47.other W49 (Or.inr (slot_ne (Or.inl (hw _ (List.mem_of_getElem? (i := 11) rfl))) (Or.inl (hw _ (List.mem_of_getElem? (i := 27) rfl))) (by decide) (t := .double) (t' := .long) (by decide) (by decide)))
  have Fw40_e49 := Fw40_e47.other W49 (Or.inr (slot_ne (Or.inl (hw _ (List.mem_of_getElem? (i := 31) rfl))) (Or.inl (hw _ (List.mem_of_getElem? (i := 27) rfl))) (by decide) (t := .double) (t' := .long) (by decide) (by decide)))
  have Fw47_e49 := Fw47.other W49 (Or.inr (slot_ne (Or.inl (hw _ (List.mem_of_getElem? (i := 33) rfl))) (Or.inl (hw _ (List.mem_of_getElem? (i := 27) rfl))) (by decide) (t := .double) (t' := .long) (by decide) (by decide)))
  have F_infinities_o_e49 := F_infinities_o_e47.other W49 (Or.inr (slot_ne (Or.inl (hw _ (List.mem_of_getElem? (i := 40) rfl))) (Or.inl (hw _ (List.mem_of_getElem? (i := 27) rfl))) (by decide) (t := .double) (t' := .long) (by decide) (by decide)))
  have N49 := Fr.snoc X49 N47 g_ob
  have K49 := K47.wr W49 (Or.inl (List.mem_of_getElem? (i := 0) rfl))
  have Z49 : n0 ≤ h49.size := Nat.le_trans Z47 (Keep.of_wr W49).1
  obtain ⟨fs, hr, hrun, hended, hW, hsame⟩ := X49.leave (v := none) (fun _ => rfl)
  refine ⟨_, _, pre0 _ ?_, hrun, hended, _, _, rfl, ?_, ⟨_, rfl⟩, hW, hsame.mono (by decide) (by decide)⟩
  · show Steps p.tables e below (s₁.setTop (mkF m 0 #[.val (.ref ob), .val (.double v), .second, .unset, .unset] [])) _
    refine XS.dloadN X0.here hx rfl (hb hby d3_0) rfl ?_
    show Steps p.tables e below (s₁.setTop (mkF m 1 #[.val (.ref ob), .val (.double v), .second, .unset, .unset] [(.double v)])) _
    refine st30 _ ?_
    refine XS.ifYes X30.here hx rfl (pc0 := 4) (pc' := 20) rfl (hb hby d3_4) rfl ((if0 _ _).trans (teq hc4).1) (by decide) (by decide) ?_
    refine XS.aloadN X30.here hx rfl (hb hby d3_20) rfl rfl ?_
    show Steps p.tables e below (T30.setTop (mkF m 21 #[.val (.ref ob), .val (.double v), .second, .unset, .unset] [(.ref ob)])) _
    refine st31 _ ?_
    refine XS.lconst X31.here hx rfl (hb hby d3_24) ?_
    refine XS.lcmp X31.here hx rfl (hb hby d3_25) rfl ?_
    refine XS.ifYes X31.here hx rfl (pc0 := 26) (pc' := 39) rfl (hb hby d3_26) rfl ((if0 _ _).trans (feq hc26).2) (by decide) (by decide) ?_
    show Steps p.tables e below (T31.setTop (mkF m 39 #[.val (.ref ob), .val (.double v), .second, .unset, .unset] [])) _
    refine XS.aloadN X31.here hx rfl (hb hby d3_39) rfl rfl ?_
    show Steps p.tables e below (T31.setTop (mkF m 40 #[.val (.ref ob), .val (.double v), .second, .unset, .unset] [(.ref ob)])) _
    refine st32 _ ?_
    refine XS.dloadN X32.here hx rfl (hb hby d3_43) rfl ?_
    refine XS.aloadN X32.here hx rfl (hb hby d3_44) rfl rfl ?_
    show Steps p.tables e below (T32.setTop (mkF m 45 #[.val (.ref ob), .val (.double v), .second, .unset, .unset] [(.ref ob), (.double v), (.double df)])) _
    refine st33 _ ?_
    refine XS.dmulS X33.here hx rfl (hb hby d3_48) rfl hnan48 rfl ?_
    refine XS.aloadN X33.here hx rfl (hb hby d3_49) rfl rfl ?_
    show Steps p.tables e below (T33.setTop (mkF m 50 #[.val (.ref ob), .val (.double v), .second, .unset, .unset] [(.ref ob), (.double (FP.dmul v sc)), (.double df)])) _
    refine st34 _ ?_
    refine XS.dsubS X34.here hx rfl (hb hby d3_53) rfl hnan53 rfl ?_
    refine XS.daddS X34.here hx rfl (hb hby d3_54) rfl hnan54 rfl ?_
    show Steps p.tables e below (T34.setTop (mkF m 55 #[.val (.ref ob), .val (.double v), .second, .unset, .unset] [(.double (sumF v sc sf df))])) _
    refine XS.dstoreN X34.here hx rfl (hb hby d3_55) rfl (l' := #[.val (.ref ob), .val (.double v), .second, .val (.double (sumF v sc sf df)), .second]) rfl ?_
    refine XS.dloadN X34.here hx rfl (hb hby d3_56) rfl ?_
    show Steps p.tables e below (T34.setTop (mkF m 57 #[.val (.ref ob), .val (.double v), .second, .val (.double (sumF v sc sf df)), .second] [(.double (sumF v sc sf df))])) _
    refine st35 _ ?_
    refine XS.ifNo X35.here hx rfl (hb hby d3_60) rfl ((if0 _ _).trans (feq hc60).1) ?_
    refine XS.aloadN X35.here hx rfl (hb hby d3_63) rfl rfl ?_
    refine XS.dup X35.here hx rfl (hb hby d3_64) rfl rfl ?_
    show Steps p.tables e below (T35.setTop (mkF m 65 #[.val (.ref ob), .val (.double v), .second, .val (.double (sumF v sc sf df)), .second] [(.ref ob), (.ref ob)])) _
    refine st36 _ ?_
    refine X36.ldc2DoubleC hx hown (mvT hZ (hw _ (List.mem_of_getElem? (i := 44) rfl))) (g := (mkF m 68 #[.val (.ref ob), .val (.double v), .second, .val (.double (sumF v sc sf df)), .second] [(.double sc), (.ref ob)])) rfl (hb hby d3_68) _ ?_
    refine XS.ddivS X36.here hx rfl (hb hby d3_71) rfl hnan71 rfl ?_
    show Steps p.tables e below (T36.setTop (mkF m 72 #[.val (.ref ob), .val (.double v), .second, .val (.double (sumF v sc sf df)), .second] [(.double (hvF sc)), (.ref ob)])) _
    refine st37 _ ?_
    refine XS.aloadN X37.here hx rfl (hb hby d3_75) rfl rfl ?_
    refine XS.aloadN X37.here hx rfl (hb hby d3_76) rfl rfl ?_
    show Steps p.tables e below (T37.setTop (mkF m 77 #[.val (.ref ob), .val (.double v), .second, .val (.double (sumF v sc sf df)), .second] [(.ref ob), (.ref ob)])) _
    refine st38 _ ?_
    refine XS.aloadN X38.here hx rfl (hb hby d3_80) rfl rfl ?_
    show Steps p.tables e below (T38.setTop (mkF m 81 #[.val (.ref ob), .val (.double v), .second, .val (.double (sumF v sc sf df)), .second] [(.ref ob), (.double f), (.ref ob)])) _
    refine st39 _ ?_
    refine XS.dmulS X39.here hx rfl (hb hby d3_84) rfl hnan84 rfl ?_
    show Steps p.tables e below (T39.setTop (mkF m 85 #[.val (.ref ob), .val (.double v), .second, .val (.double (sumF v sc sf df)), .second] [(.double (FP.dmul f (hvF sc))), (.ref ob)])) _
    refine st40 _ ?_
    refine XS.aloadN X40.here hx rfl (hb hby d3_88) rfl rfl ?_
    refine XS.dup X40.here hx rfl (hb hby d3_89) rfl rfl ?_
    show Steps p.tables e below (T40.setTop (mkF m 90 #[.val (.ref ob), .val (.double v), .second, .val (.double (sumF v sc sf df)), .second] [(.ref ob), (.ref ob)])) _
    refine st41 _ ?_
    refine X41.ldc2DoubleC hx hown (mvT hZ (hw _ (List.mem_of_getElem? (i := 44) rfl))) (g := (mkF m 93 #[.val (.ref ob), .val (.double v), .second, .val (.double (sumF v sc sf df)), .second] [(.double df), (.ref ob)])) rfl (hb hby d3_93) _ ?_
    refine XS.ddivS X41.here hx rfl (hb hby d3_96) rfl hnan96 rfl ?_
    show Steps p.tables e below (T41.setTop (mkF m 97 #[.val (.ref ob), .val (.double v), .second, .val (.double (sumF v sc sf df)), .second] [(.double (hvF df)), (.ref ob)])) _
    refine st42 _ ?_
    refine XS.aloadN X42.here hx rfl (hb hby d3_100) rfl rfl ?_
    show Steps p.tables e below (T42.setTop (mkF m 101 #[.val (.ref ob), .val (.double v), .second, .val (.double (sumF v sc sf df)), .second] [(.ref ob)])) _
    refine st43 _ ?_
    refine XS.dloadN X43.here hx rfl (hb hby d3_104) rfl ?_
    refine XS.aloadN X43.here hx rfl (hb hby d3_105) rfl rfl ?_
    show Steps p.tables e below (T43.setTop (mkF m 106 #[.val (.ref ob), .val (.double v), .second, .val (.double (sumF v sc sf df)), .second] [(.ref ob), (.double v), (.double (hvF df))])) _
    refine st44 _ ?_
    refine XS.dmulS X44.here hx rfl (hb hby d3_109) rfl hnan109 rfl ?_
    refine XS.aloadN X44.here hx rfl (hb hby d3_110) rfl rfl ?_
    show Steps p.tables e below (T44.setTop (mkF m 111 #[.val (.ref ob), .val (.double v), .second, .val (.double (sumF v sc sf df)), .second] [(.ref ob), (.double (FP.dmul v (hvF sc))), (.double (hvF df))])) _
    refine st45 _ ?_
    refine XS.dsubS X45.here hx rfl (hb hby d3_114) rfl hnan114 rfl ?_
    refine XS.daddS X45.here hx rfl (hb hby d3_115) rfl hnan115 rfl ?_
    show Steps p.tables e below (T45.setTop (mkF m 116 #[.val (.ref ob), .val (.double v), .second, .val (.double (sumF v sc sf df)), .second] [(.double (sumF v (hvF sc) (FP.dmul f (hvF sc)) (hvF df)))])) _
    refine XS.dstoreN X45.here hx rfl (hb hby d3_116) rfl (l' := #[.val (.ref ob), .val (.double v), .second, .val (.double (sumF v (hvF sc) (FP.dmul f (hvF sc)) (hvF df))), .second]) rfl ?_
    refine XS.goto X45.here hx rfl (pc0 := 117) (pc' := 56) rfl (hb hby d3_117) (by decide) (by decide) ?_
    refine XS.dloadN X45.here hx rfl (hb hby d3_56) rfl ?_
    show Steps p.tables e below (T45.setTop (mkF m 57 #[.val (.ref ob), .val (.double v), .second, .val (.double (sumF v (hvF sc) (FP.dmul f (hvF sc)) (hvF df))), .second] [(.double (sumF v (hvF sc) (FP.dmul f (hvF sc)) (hvF df)))])) _
    refine st46 _ ?_
    refine XS.ifYes X46.here hx rfl (pc0 := 60) (pc' := 120) rfl (hb hby d3_60) rfl ((if0 _ _).trans (teq hc60_1).1) (by decide) (by decide) ?_
    refine XS.aloadN X46.here hx rfl (hb hby d3_120) rfl rfl ?_
    refine XS.dloadN X46.here hx rfl (hb hby d3_121) rfl ?_
    show Steps p.tables e below (T46.setTop (mkF m 122 #[.val (.ref ob), .val (.double v), .second, .val (.double (sumF v (hvF sc) (FP.dmul f (hvF sc)) (hvF df))), .second] [(.double (sumF v (hvF sc) (FP.dmul f (hvF sc)) (hvF df))), (.ref ob)])) _
    refine st47 _ ?_
    refine XS.aloadN X47.here hx rfl (hb hby d3_125) rfl rfl ?_
    refine XS.dup X47.here hx rfl (hb hby d3_126) rfl rfl ?_
    show Steps p.tables e below (T47.setTop (mkF m 127 #[.val (.ref ob), .val (.double v), .second, .val (.double (sumF v (hvF sc) (FP.dmul f (hvF sc)) (hvF df))), .second] [(.ref ob), (.ref ob)])) _
    refine st48 _ ?_
    refine XS.lconst X48.here hx rfl (hb hby d3_130) ?_
    refine XS.ladd X48.here hx rfl (hb hby d3_131) rfl ?_
    show Steps p.tables e below (T48.setTop (mkF m 132 #[.val (.ref ob), .val (.double v), .second, .val (.double (sumF v (hvF sc) (FP.dmul f (hvF sc)) (hvF df))), .second] [(.long (ct + (1 : Int64))), (.ref ob)])) _
    refine st49 _ ?_
    show Steps p.tables e below (T49.setTop (mkF m 135 #[.val (.ref ob), .val (.double v), .second, .val (.double (sumF v (hvF sc) (FP.dmul f (hvF sc)) (hvF df))), .second] [])) _
    exact X49.returnOut hx Bd.returns (hb hby d3_135) hr
  · show Q3 Z ob f (hvF sc) (FP.dmul f (hvF sc)) (sumF v (hvF sc) (FP.dmul f (hvF sc)) (hvF df)) nf (ct + (1 : Int64)) h0 n0 _ T49.heap _
    rw [e49]
    exact ⟨rfl, N49, K49, E_o_e49, F_first_o_e49, Fw37_e49, Fw40_e49, Fw47_e49, F_infinities_o_e49, Fw49⟩
set_option maxRecDepth 65536 in
set_option maxHeartbeats 40000000 in
theorem rm3_C2 (l : Launch) (Z : State) (a0 : Array Value) (hw : ∀ d ∈ tables_1, d.before a0 Z = true) (ws : List Jvm.Cond) (ob : Addr) (v : UInt64) (f sc sf df nf : UInt64) (ct : Int64) (h0 : Heap) (n0 : Nat) (Z0 : n0 ≤ h0.size) (g_ob : n0 ≤ ob) (M : MSt Z h0 ob f sc sf df nf ct) (hni1 : Jvm.Free.Fl.NoNaN64 v) (hc4 : (infF v) = (0 : Int32)) (hc26 : ¬ ((lcmpW ct (0 : Int64)) = (0 : Int32))) (hnan48 : Jvm.Free.Fl.NoNaN64 (FP.dmul v sc)) (hnan53 : Jvm.Free.Fl.NoNaN64 (FP.dsub (FP.dmul v sc) sf)) (hnan54 : Jvm.Free.Fl.NoNaN64 (FP.dadd df (FP.dsub (FP.dmul v sc) sf))) (hni57 : Jvm.Free.Fl.NoNaN64 (sumF v sc sf df)) (hc60 : ¬ ((infF (sumF v sc sf df)) = (0 : Int32))) (hnan71 : Jvm.Free.Fl.NoNaN64 (FP.ddiv sc (4611686018427387904 : UInt64))) (hnan84 : Jvm.Free.Fl.NoNaN64 (FP.dmul f (hvF sc))) (hnan96 : Jvm.Free.Fl.NoNaN64 (FP.ddiv df (4611686018427387904 : UInt64))) (hnan109 : Jvm.Free.Fl.NoNaN64 (FP.dmul v (hvF sc))) (hnan114 : Jvm.Free.Fl.NoNaN64 (FP.dsub (FP.dmul v (hvF sc)) (FP.dmul f (hvF sc)))) (hnan115 : Jvm.Free.Fl.NoNaN64 (FP.dadd (hvF df) (FP.dsub (FP.dmul v (hvF sc)) (FP.dmul f (hvF sc))))) (hni57_1 : Jvm.Free.Fl.NoNaN64 (sumF v (hvF sc) (FP.dmul f (hvF sc)) (hvF df))) (hc60_1 : ¬ ((infF (sumF v (hvF sc) (FP.dmul f (hvF sc)) (hvF df))) = (0 : Int32))) (hnan71_1 : Jvm.Free.Fl.NoNaN64 (FP.ddiv (hvF sc) (4611686018427387904 : UInt64))) (hnan84_1 : Jvm.Free.Fl.NoNaN64 (FP.dmul f (hvF (hvF sc)))) (hnan96_1 : Jvm.Free.Fl.NoNaN64 (FP.ddiv (hvF df) (4611686018427387904 : UInt64))) (hnan109_1 : Jvm.Free.Fl.NoNaN64 (FP.dmul v (hvF (hvF sc)))) (hnan114_1 : Jvm.Free.Fl.NoNaN64 (FP.dsub (FP.dmul v (hvF (hvF sc))) (FP.dmul f (hvF (hvF sc))))) (hnan115_1 : Jvm.Free.Fl.NoNaN64 (FP.dadd (hvF (hvF df)) (FP.dsub (FP.dmul v (hvF (hvF sc))) (FP.dmul f (hvF (hvF sc)))))) (hni57_2 : Jvm.Free.Fl.NoNaN64 (sumF v (hvF (hvF sc)) (FP.dmul f (hvF (hvF sc))) (hvF (hvF df)))) (hc60_2 : (infF (sumF v (hvF (hvF sc)) (FP.dmul f (hvF (hvF sc))) (hvF (hvF df)))) = (0 : Int32)) :
    MetFree l (⟨"com/example/retiremetric/retiremetric/engine/Mean", "add", "(D)V"⟩ : MethodName) (head1 (Jvm.Cond.code (⟨"com/example/retiremetric/retiremetric/engine/Mean", "add", "(D)V"⟩ : MethodName) prog_16_method_3_code 5 none :: ws) ({ frames := 2, cells := 0, slots := 0, locals := 26 } : Room)) (fun aa_ U_ => aa_ = #[(.ref ob), (.double v)] ∧ Z.Warmed39 U_.vm ∧ U_.heap = h0) (fun _ _ _ _ _ => True) (fun _ U_ o_ V_ => ∃ v_ L_, o_ = .returned v_ ∧ Q3 Z ob f (hvF (hvF sc)) (FP.dmul f (hvF (hvF sc))) (sumF v (hvF (hvF sc)) (FP.dmul f (hvF (hvF sc))) (hvF (hvF df))) nf (ct + (1 : Int64)) h0 n0 v_ V_.heap L_ ∧ FrameEnd U_ o_ V_ L_ ({ frames := 2, cells := 0, slots := 0, locals := 26 } : Room).cells ({ frames := 2, cells := 0, slots := 0, locals := 26 } : Room).slots) := by
  refine MetFree.of_bodySF (plainFor_of_name pn_3) hisR ?_
  intro p e s m args below meth c s₁ Bd hml0 hP hK
  obtain ⟨rfl, hZ, hh⟩ := hP
  have hx := Bd.exec
  have hby := Bd.bytes
  have hml : c.maxLocals = 5 := hml0
  have hown : s.vm.findClass "com/example/retiremetric/retiremetric/engine/Mean" = some m.cls := findClass_of_methodNamed Bd.named
  have hnm := (name_of_methodNamed Bd.named Bd.method).1
  have X0 : Stand p l e ({ frames := 2, cells := 0, slots := 0, locals := 26 } : Room) s m #[(.ref ob), (.double v)] below meth c s₁ [] 0 0 := Stand.of_body Bd
  have e0 : s₁.heap = h0 := by rw [← hh, Bd.state]; rfl
  have N0 := Fr.nil n0
  have pre0 : ∀ zz, Steps p.tables e below (s₁.setTop (mkF m 0 #[.val (.ref ob), .val (.double v), .second, .unset, .unset] [])) zz → Steps p.tables e below (s₁.setTop (entryFrame m #[(.ref ob), (.double v)] 5)) zz := fun zz k => castTop (ef_3 m ob v) k
  obtain ⟨E_o, F_first_o, F_scale_o, F_scaledFirst_o, F_differences_o, F_infinities_o, F_count_o⟩ := M
  obtain ⟨_, _, ⟨T50, L50, k50, n50⟩, -, X50, ⟨Lc50, hQ50, l50, y50, z50⟩, st50⟩ := Jvm.LawKit.callS X0 hx (y := (⟨"java/lang/Double", "isInfinite", "(D)Z"⟩ : MethodName)) hown (mvT hZ (hw _ (List.mem_of_getElem? (i := 17) rfl))) (mvT hZ (hw _ (List.mem_of_getElem? (i := 18) rfl))) (mvT hZ (hw _ (List.mem_of_getElem? (i := 19) rfl))) (mvT hZ (hw _ (List.mem_of_getElem? (i := 20) rfl))) (by decide) (backOf (W := 0) (rm4 l Z a0 hw [] v h0 n0 Z0 hni1) hZ (hw _ (List.mem_of_getElem? (i := 20) rfl)) (hw _ (List.mem_of_getElem? (i := 19) rfl)) (by decide) (by decide)) (g := (mkF m 1 #[.val (.ref ob), .val (.double v), .second, .unset, .unset] [(.double v)])) rfl (by rw [hml]; rfl) (argsL := [(.double v)]) (rest := []) (lenOf pd_2 rfl) rfl (by show 2 * 0 + _ ≤ _; exact Nat.le_of_eq rfl) (hb hby d3_1) (fun _ _ => ⟨rfl, e0, (by decide : 0 + 0 ≤ _), (by decide : 0 + 0 ≤ _)⟩)
  dsimp only [Pt.U, Pt.locs, Pt.cells, Pt.slots] at X50 l50 y50 z50 st50 hQ50
  subst l50 y50 z50
  obtain ⟨rfl, N50q, e50⟩ := hQ50
  have N50 := Fr.app N0 N50q
  obtain ⟨T51, X51, e51, st51⟩ := getF X50 hx hZ hown (host := "") (Or.inl (hw _ (List.mem_of_getElem? (i := 26) rfl))) Via.refl e50 F_count_o (g := (mkF m 21 #[.val (.ref ob), .val (.double v), .second, .unset, .unset] [(.ref ob)])) rfl rfl (hb hby d3_21)
  obtain ⟨T52, X52, e52, st52⟩ := getF X51 hx hZ hown (host := "") (Or.inl (hw _ (List.mem_of_getElem? (i := 32) rfl))) Via.refl e51 F_differences_o (g := (mkF m 40 #[.val (.ref ob), .val (.double v), .second, .unset, .unset] [(.ref ob)])) rfl rfl (hb hby d3_40)
  obtain ⟨T53, X53, e53, st53⟩ := getF X52 hx hZ hown (host := "") (Or.inl (hw _ (List.mem_of_getElem? (i := 10) rfl))) Via.refl e52 F_scale_o (g := (mkF m 45 #[.val (.ref ob), .val (.double v), .second, .unset, .unset] [(.ref ob), (.double v), (.double df)])) rfl rfl (hb hby d3_45)
  obtain ⟨T54, X54, e54, st54⟩ := getF X53 hx hZ hown (host := "") (Or.inl (hw _ (List.mem_of_getElem? (i := 30) rfl))) Via.refl e53 F_scaledFirst_o (g := (mkF m 50 #[.val (.ref ob), .val (.double v), .second, .unset, .unset] [(.ref ob), (.double (FP.dmul v sc)), (.double df)])) rfl rfl (hb hby d3_50)
  obtain ⟨_, _, ⟨T55, L55, k55, n55⟩, -, X55, ⟨Lc55, hQ55, l55, y55, z55⟩, st55⟩ := Jvm.LawKit.callS X54 hx (y := (⟨"java/lang/Double", "isInfinite", "(D)Z"⟩ : MethodName)) hown (mvT hZ (hw _ (List.mem_of_getElem? (i := 17) rfl))) (mvT hZ (hw _ (List.mem_of_getElem? (i := 18) rfl))) (mvT hZ (hw _ (List.mem_of_getElem? (i := 19) rfl))) (mvT hZ (hw _ (List.mem_of_getElem? (i := 20) rfl))) (by decide) (backOf (W := 0) (rm4 l Z a0 hw [] (sumF v sc sf df) h0 n0 Z0 hni57) hZ (hw _ (List.mem_of_getElem? (i := 20) rfl)) (hw _ (List.mem_of_getElem? (i := 19) rfl)) (by decide) (by decide)) (g := (mkF m 57 #[.val (.ref ob), .val (.double v), .second, .val (.double (sumF v sc sf df)), .second] [(.double (sumF v sc sf df))])) rfl (by rw [hml]; rfl) (argsL := [(.double (sumF v sc sf df))]) (rest := []) (lenOf pd_2 rfl) rfl (by show 2 * 0 + _ ≤ _; exact Nat.le_of_eq rfl) (hb hby d3_57) (fun _ _ => ⟨rfl, e54, (by decide : 0 + 0 ≤ _), (by decide : 0 + 0 ≤ _)⟩)
  dsimp only [Pt.U, Pt.locs, Pt.cells, Pt.slots] at X55 l55 y55 z55 st55 hQ55
  subst l55 y55 z55
  obtain ⟨rfl, N55q, e55⟩ := hQ55
  have N55 := Fr.app N50 N55q
  obtain ⟨T56, X56, e56, st56⟩ := getF X55 hx hZ hown (host := "") (Or.inl (hw _ (List.mem_of_getElem? (i := 10) rfl))) Via.refl e55 F_scale_o (g := (mkF m 65 #[.val (.ref ob), .val (.double v), .second, .val (.double (sumF v sc sf df)), .second] [(.ref ob), (.ref ob)])) rfl rfl (hb hby d3_65)
  obtain ⟨T57, h57, X57, e57, W57, st57⟩ := putF X56 hx hZ hown (host := "") (Or.inl (hw _ (List.mem_of_getElem? (i := 10) rfl))) Via.refl e56 F_scale_o E_o (Or.inl (hw _ (List.mem_of_getElem? (i := 11) rfl))) (hw _ (List.mem_of_getElem? (i := 2) rfl)) (ty := .double) (by decide) rfl rfl (g := (mkF m 72 #[.val (.ref ob), .val (.double v), .second, .val (.double (sumF v sc sf df)), .second] [(.double (hvF sc)), (.ref ob)])) rfl rfl (hb hby d3_72)
  have Fw57 := F_scale_o.same W57
  have E_o_e57 := E_o.wr W57
  have F_first_o_e57 := F_first_o.other W57 (Or.inr (slot_ne (Or.inl (hw _ (List.mem_of_getElem? (i := 29) rfl))) (Or.inl (hw _ (List.mem_of_getElem? (i := 11) rfl))) (by decide) (t := .double) (t' := .double) (by decide) (by decide)))
  have F_scaledFirst_o_e57 := F_scaledFirst_o.other W57 (Or.inr (slot_ne (Or.inl (hw _ (List.mem_of_getElem? (i := 31) rfl))) (Or.inl (hw _ (List.mem_of_getElem? (i := 11) rfl))) (by decide) (t := .double) (t' := .double) (by decide) (by decide)))
  have F_differences_o_e57 := F_differences_o.other W57 (Or.inr (slot_ne (Or.inl (hw _ (List.mem_of_getElem? (i := 33) rfl))) (Or.inl (hw _ (List.mem_of_getElem? (i := 11) rfl))) (by decide) (t := .double) (t' := .double) (by decide) (by decide)))
  have F_infinities_o_e57 := F_infinities_o.other W57 (Or.inr (slot_ne (Or.inl (hw _ (List.mem_of_getElem? (i := 40) rfl))) (Or.inl (hw _ (List.mem_of_getElem? (i := 11) rfl))) (by decide) (t := .double) (t' := .double) (by decide) (by decide)))
  have F_count_o_e57 := F_count_o.other W57 (Or.inr (slot_ne (Or.inl (hw _ (List.mem_of_getElem? (i := 27) rfl))) (Or.inl (hw _ (List.mem_of_getElem? (i := 11) rfl))) (by decide) (t := .long) (t' := .double) (by decide) (by decide)))
  have N57 := Fr.snoc X57 N55 g_ob
  have K57 := (Keep.refl h0 [ob]).wr W57 (Or.inl (List.mem_of_getElem? (i := 0) rfl))
  have Z57 : n0 ≤ h57.size := Nat.le_trans Z0 (Keep.of_wr W57).1
  obtain ⟨T58, X58, e58, st58⟩ := getF X57 hx hZ hown (host := "") (Or.inl (hw _ (List.mem_of_getElem? (i := 28) rfl))) Via.refl e57 F_first_o_e57 (g := (mkF m 77 #[.val (.ref ob), .val (.double v), .second, .val (.double (sumF v sc sf df)), .second] [(.ref ob), (.ref ob)])) rfl rfl (hb hby d3_77)
  obtain ⟨T59, X59, e59, st59⟩ := getF X58 hx hZ hown (host := "") (Or.inl (hw _ (List.mem_of_getElem? (i := 10) rfl))) Via.refl e58 Fw57 (g := (mkF m 81 #[.val (.ref ob), .val (.double v), .second, .val (.double (sumF v sc sf df)), .second] [(.ref ob), (.double f), (.ref ob)])) rfl rfl (hb hby d3_81)
  obtain ⟨T60, h60, X60, e60, W60, st60⟩ := putF X59 hx hZ hown (host := "") (Or.inl (hw _ (List.mem_of_getElem? (i := 30) rfl))) Via.refl e59 F_scaledFirst_o_e57 E_o_e57 (Or.inl (hw _ (List.mem_of_getElem? (i := 31) rfl))) (hw _ (List.mem_of_getElem? (i := 2) rfl)) (ty := .double) (by decide) rfl rfl (g := (mkF m 85 #[.val (.ref ob), .val (.double v), .second, .val (.double (sumF v sc sf df)), .second] [(.double (FP.dmul f (hvF sc))), (.ref ob)])) rfl rfl (hb hby d3_85)
  have Fw60 := F_scaledFirst_o_e57.same W60
  have E_o_e60 := E_o_e57.wr W60
  have F_first_o_e60 := F_first_o_e57.other W60 (Or.inr (slot_ne (Or.inl (hw _ (List.mem_of_getElem? (i := 29) rfl))) (Or.inl (hw _ (List.mem_of_getElem? (i := 31) rfl))) (by decide) (t := .double) (t' := .double) (by decide) (by decide)))
  have Fw57_e60 := Fw57.other W60 (Or.inr (slot_ne (Or.inl (hw _ (List.mem_of_getElem? (i := 11) rfl))) (Or.inl (hw _ (List.mem_of_getElem? (i := 31) rfl))) (by decide) (t := .double) (t' := .double) (by decide) (by decide)))
  have F_differences_o_e60 := F_differences_o_e57.other W60 (Or.inr (slot_ne (Or.inl (hw _ (List.mem_of_getElem? (i := 33) rfl))) (Or.inl (hw _ (List.mem_of_getElem? (i := 31) rfl))) (by decide) (t := .double) (t' := .double) (by decide) (by decide)))
  have F_infinities_o_e60 := F_infinities_o_e57.other W60 (Or.inr (slot_ne (Or.inl (hw _ (List.mem_of_getElem? (i := 40) rfl))) (Or.inl (hw _ (List.mem_of_getElem? (i := 31) rfl))) (by decide) (t := .double) (t' := .double) (by decide) (by decide)))
  have F_count_o_e60 := F_count_o_e57.other W60 (Or.inr (slot_ne (Or.inl (hw _ (List.mem_of_getElem? (i := 27) rfl))) (Or.inl (hw _ (List.mem_of_getElem? (i := 31) rfl))) (by decide) (t := .long) (t' := .double) (by decide) (by decide)))
  have N60 := Fr.snoc X60 N57 g_ob
  have K60 := K57.wr W60 (Or.inl (List.mem_of_getElem? (i := 0) rfl))
  have Z60 : n0 ≤ h60.size := Nat.le_trans Z57 (Keep.of_wr W60).1
  obtain ⟨T61, X61, e61, st61⟩ := getF X60 hx hZ hown (host := "") (Or.inl (hw _ (List.mem_of_getElem? (i := 32) rfl))) Via.refl e60 F_differences_o_e60 (g := (mkF m 90 #[.val (.ref ob), .val (.double v), .second, .val (.double (sumF v sc sf df)), .second] [(.ref ob), (.ref ob)])) rfl rfl (hb hby d3_90)
  obtain ⟨T62, h62, X62, e62, W62, st62⟩ := putF X61 hx hZ hown (host := "") (Or.inl (hw _ (List.mem_of_getElem? (i := 32) rfl))) Via.refl e61 F_differences_o_e60 E_o_e60 (Or.inl (hw _ (List.mem_of_getElem? (i := 33) rfl))) (hw _ (List.mem_of_getElem? (i := 2) rfl)) (ty := .double) (by decide) rfl rfl (g := (mkF m 97 #[.val (.ref ob), .val (.double v), .second, .val (.double (sumF v sc sf df)), .second] [(.double (hvF df)), (.ref ob)])) rfl rfl (hb hby d3_97)
  have Fw62 := F_differences_o_e60.same W62
  have E_o_e62 := E_o_e60.wr W62
  have F_first_o_e62 := F_first_o_e60.other W62 (Or.inr (slot_ne (Or.inl (hw _ (List.mem_of_getElem? (i := 29) rfl))) (Or.inl (hw _ (List.mem_of_getElem? (i := 33) rfl))) (by decide) (t := .double) (t' := .double) (by decide) (by decide)))
  have Fw57_e62 := Fw57_e60.other W62 (Or.inr (slot_ne (Or.inl (hw _ (List.mem_of_getElem? (i := 11) rfl))) (Or.inl (hw _ (List.mem_of_getElem? (i := 33) rfl))) (by decide) (t := .double) (t' := .double) (by decide) (by decide)))
  have Fw60_e62 := Fw60.other W62 (Or.inr (slot_ne (Or.inl (hw _ (List.mem_of_getElem? (i := 31) rfl))) (Or.inl (hw _ (List.mem_of_getElem? (i := 33) rfl))) (by decide) (t := .double) (t' := .double) (by decide) (by decide)))
  have F_infinities_o_e62 := F_infinities_o_e60.other W62 (Or.inr (slot_ne (Or.inl (hw _ (List.mem_of_getElem? (i := 40) rfl))) (Or.inl (hw _ (List.mem_of_getElem? (i := 33) rfl))) (by decide) (t := .double) (t' := .double) (by decide) (by decide)))
  have F_count_o_e62 := F_count_o_e60.other W62 (Or.inr (slot_ne (Or.inl (hw _ (List.mem_of_getElem? (i := 27) rfl))) (Or.inl (hw _ (List.mem_of_getElem? (i := 33) rfl))) (by decide) (t := .long) (t' := .double) (by decide) (by decide)))
  have N62 := Fr.snoc X62 N60 g_ob
  have K62 := K60.wr W62 (Or.inl (List.mem_of_getElem? (i := 0) rfl))
  have Z62 : n0 ≤ h62.size := Nat.le_trans Z60 (Keep.of_wr W62).1
  obtain ⟨T63, X63, e63, st63⟩ := getF X62 hx hZ hown (host := "") (Or.inl (hw _ (List.mem_of_getElem? (i := 32) rfl))) Via.refl e62 Fw62 (g := (mkF m 101 #[.val (.ref ob), .val (.double v), .second, .val (.double (sumF v sc sf df)), .second] [(.ref ob)])) rfl rfl (hb hby d3_101)
  obtain ⟨T64, X64, e64, st64⟩ := getF X63 hx hZ hown (host := "") (Or.inl (hw _ (List.mem_of_getElem? (i := 10) rfl))) Via.refl e63 Fw57_e62 (g := (mkF m 106 #[.val (.ref ob), .val (.double v), .second, .val (.double (sumF v sc sf df)), .second] [(.ref ob), (.double v), (.double (hvF df))])) rfl rfl (hb hby d3_106)
  obtain ⟨T65, X65, e65, st65⟩ := getF X64 hx hZ hown (host := "") (Or.inl (hw _ (List.mem_of_getElem? (i := 30) rfl))) Via.refl e64 Fw60_e62 (g := (mkF m 111 #[.val (.ref ob), .val (.double v), .second, .val (.double (sumF v sc sf df)), .second] [(.ref ob), (.double (FP.dmul v (hvF sc))), (.double (hvF df))])) rfl rfl (hb hby d3_111)
  obtain ⟨_, _, ⟨T66, L66, k66, n66⟩, -, X66, ⟨Lc66, hQ66, l66, y66, z66⟩, st66⟩ := Jvm.LawKit.callS X65 hx (y := (⟨"java/lang/Double", "isInfinite", "(D)Z"⟩ : MethodName)) hown (mvT hZ (hw _ (List.mem_of_getElem? (i := 17) rfl))) (mvT hZ (hw _ (List.mem_of_getElem? (i := 18) rfl))) (mvT hZ (hw _ (List.mem_of_getElem? (i := 19) rfl))) (mvT hZ (hw _ (List.mem_of_getElem? (i := 20) rfl))) (by decide) (backOf (W := 0) (rm4 l Z a0 hw [] (sumF v (hvF sc) (FP.dmul f (hvF sc)) (hvF df)) h62 n0 Z62 hni57_1) hZ (hw _ (List.mem_of_getElem? (i := 20) rfl)) (hw _ (List.mem_of_getElem? (i := 19) rfl)) (by decide) (by decide)) (g := (mkF m 57 #[.val (.ref ob), .val (.double v), .second, .val (.double (sumF v (hvF sc) (FP.dmul f (hvF sc)) (hvF df))), .second] [(.double (sumF v (hvF sc) (FP.dmul f (hvF sc)) (hvF df)))])) rfl (by rw [hml]; rfl) (argsL := [(.double (sumF v (hvF sc) (FP.dmul f (hvF sc)) (hvF df)))]) (rest := []) (lenOf pd_2 rfl) rfl (by show 2 * 0 + _ ≤ _; exact Nat.le_of_eq rfl) (hb hby d3_57) (fun _ _ => ⟨rfl, e65, (by decide : 0 + 0 ≤ _), (by decide : 0 + 0 ≤ _)⟩)
  dsimp only [Pt.U, Pt.locs, Pt.cells, Pt.slots] at X66 l66 y66 z66 st66 hQ66
  subst l66 y66 z66
  obtain ⟨rfl, N66q, e66⟩ := hQ66
  have N66 := Fr.app N62 N66q
  obtain ⟨T67, X67, e67, st67⟩ := getF X66 hx hZ hown (host := "") (Or.inl (hw _ (List.mem_of_getElem? (i := 10) rfl))) Via.refl e66 Fw57_e62 (g := (mkF m 65 #[.val (.ref ob), .val (.double v), .second, .val (.double (sumF v (hvF sc) (FP.dmul f (hvF sc)) (hvF df))), .second] [(.ref ob), (.ref ob)])) rfl rfl (hb hby d3_65)
  obtain ⟨T68, h68, X68, e68, W68, st68⟩ := putF X67 hx hZ hown (host := "") (Or.inl (hw _ (List.mem_of_getElem? (i := 10) rfl))) Via.refl e67 Fw57_e62 E_o_e62 (Or.inl (hw _ (List.mem_of_getElem? (i := 11) rfl))) (hw _ (List.mem_of_getElem? (i := 2) rfl)) (ty := .double) (by decide) rfl rfl (g := (mkF m 72 #[.val (.ref ob), .val (.double v), .second, .val (.double (sumF v (hvF sc) (FP.dmul f (hvF sc)) (hvF df))), .second] [(.double (hvF (hvF sc))), (.ref ob)])) rfl rfl (hb hby d3_72)
  have Fw68 := Fw57_e62.same W68
  have E_o_e68 := E_o_e62.wr W68
  have F_first_o_e68 := F_first_o_e62.other W68 (Or.inr (slot_ne (Or.inl (hw _ (List.mem_of_getElem? (i := 29) rfl))) (Or.inl (hw _ (List.mem_of_getElem? (i := 11) rfl))) (by decide) (t := .double) (t' := .double) (by decide) (by decide)))
  have Fw60_e68 := Fw60_e62.other W68 (Or.inr (slot_ne (Or.inl (hw _ (List.mem_of_getElem? (i := 31) rfl))) (Or.inl (hw _ (List.mem_of_getElem? (i := 11) rfl))) (by decide) (t := .double) (t' := .double) (by decide) (by decide)))
  have Fw62_e68 := Fw62.other W68 (Or.inr (slot_ne (Or.inl (hw _ (List.mem_of_getElem? (i := 33) rfl))) (Or.inl (hw _ (List.mem_of_getElem? (i := 11) rfl))) (by decide) (t := .double) (t' := .double) (by decide) (by decide)))
  have F_infinities_o_e68 := F_infinities_o_e62.other W68 (Or.inr (slot_ne (Or.inl (hw _ (List.mem_of_getElem? (i := 40) rfl))) (Or.inl (hw _ (List.mem_of_getElem? (i := 11) rfl))) (by decide) (t := .double) (t' := .double) (by decide) (by decide)))
  have F_count_o_e68 := F_count_o_e62.other W68 (Or.inr (slot_ne (Or.inl (hw _ (List.mem_of_getElem? (i := 27) rfl))) (Or.inl (hw _ (List.mem_of_getElem? (i := 11) rfl))) (by decide) (t := .long) (t' := .double) (by decide) (by decide)))
  have N68 := Fr.snoc X68 N66 g_ob
  have K68 := K62.wr W68 (Or.inl (List.mem_of_getElem? (i := 0) rfl))
  have Z68 : n0 ≤ h68.size := Nat.le_trans Z62 (Keep.of_wr W68).1
  obtain ⟨T69, X69, e69, st69⟩ := getF X68 hx hZ hown (host := "") (Or.inl (hw _ (List.mem_of_getElem? (i := 28) rfl))) Via.refl e68 F_first_o_e68 (g := (mkF m 77 #[.val (.ref ob), .val (.double v), .second, .val (.double (sumF v (hvF sc) (FP.dmul f (hvF sc)) (hvF df))), .second] [(.ref ob), (.ref ob)])) rfl rfl (hb hby d3_77)
  obtain ⟨T70, X70, e70, st70⟩ := getF X69 hx hZ hown (host := "") (Or.inl (hw _ (List.mem_of_getElem? (i := 10) rfl))) Via.refl e69 Fw68 (g := (mkF m 81 #[.val (.ref ob), .val (.double v), .second, .val (.double (sumF v (hvF sc) (FP.dmul f (hvF sc)) (hvF df))), .second] [(.ref ob), (.double f), (.ref ob)])) rfl rfl (hb hby d3_81)
  obtain ⟨T71, h71, X71, e71, W71, st71⟩ := putF X70 hx hZ hown (host := "") (Or.inl (hw _ (List.mem_of_getElem? (i := 30) rfl))) Via.refl e70 Fw60_e68 E_o_e68 (Or.inl (hw _ (List.mem_of_getElem? (i := 31) rfl))) (hw _ (List.mem_of_getElem? (i := 2) rfl)) (ty := .double) (by decide) rfl rfl (g := (mkF m 85 #[.val (.ref ob), .val (.double v), .second, .val (.double (sumF v (hvF sc) (FP.dmul f (hvF sc)) (hvF df))), .second] [(.double (FP.dmul f (hvF (hvF sc)))), (.ref ob)])) rfl rfl (hb hby d3_85)
  have Fw71 := Fw60_e68.same W71
  have E_o_e71 := E_o_e68.wr W71
  have F_first_o_e71 := F_first_o_e68.other W71 (Or.inr (slot_ne (Or.inl (hw _ (List.mem_of_getElem? (i := 29) rfl))) (Or.inl (hw _ (List.mem_of_getElem? (i := 31) rfl))) (by decide) (t := .double) (t' := .double) (by decide) (by decide)))
  have Fw68_e71 := Fw68.other W71 (Or.inr (slot_ne (Or.inl (hw _ (List.mem_of_getElem? (i := 11) rfl))) (Or.inl (hw _ (List.mem_of_getElem? (i := 31) rfl))) (by decide) (t := .double) (t' := .double) (by decide) (by decide)))
  have Fw62_e71 := Fw62_e68.other W71 (Or.inr (slot_ne (Or.inl (hw _ (List.mem_of_getElem? (i := 33) rfl))) (Or.inl (hw _ (List.mem_of_getElem? (i := 31) rfl))) (by decide) (t := .double) (t' := .double) (by decide) (by decide)))
  have F_infinities_o_e71 := F_infinities_o_e68.other W71 (Or.inr (slot_ne (Or.inl (hw _ (List.mem_of_getElem? (i := 40) rfl))) (Or.inl (hw _ (List.mem_of_getElem? (i := 31) rfl))) (by decide) (t := .double) (t' := .double) (by decide) (by decide)))
  have F_count_o_e71 := F_count_o_e68.other W71 (Or.inr (slot_ne (Or.inl (hw _ (List.mem_of_getElem? (i := 27) rfl))) (Or.inl (hw _ (List.mem_of_getElem? (i := 31) rfl))) (by decide) (t := .long) (t' := .double) (by decide) (by decide)))
  have N71 := Fr.snoc X71 N68 g_ob
  have K71 := K68.wr W71 (Or.inl (List.mem_of_getElem? (i := 0) rfl))
  have Z71 : n0 ≤ h71.size := Nat.le_trans Z68 (Keep.of_wr W71).1
  obtain ⟨T72, X72, e72, st72⟩ := getF X71 hx hZ hown (host := "") (Or.inl (hw _ (List.mem_of_getElem? (i := 32) rfl))) Via.refl e71 Fw62_e71 (g := (mkF m 90 #[.val (.ref ob), .val (.double v), .second, .val (.double (sumF v (hvF sc) (FP.dmul f (hvF sc)) (hvF df))), .second] [(.ref ob), (.ref ob)])) rfl rfl (hb hby d3_90)
  obtain ⟨T73, h73, X73, e73, W73, st73⟩ := putF X72 hx hZ hown (host := "") (Or.inl (hw _ (List.mem_of_getElem? (i := 32) rfl))) Via.refl e72 Fw62_e71 E_o_e71 (Or.inl (hw _ (List.mem_of_getElem? (i := 33) rfl))) (hw _ (List.mem_of_getElem? (i := 2) rfl)) (ty := .double) (by decide) rfl rfl (g := (mkF m 97 #[.val (.ref ob), .val (.double v), .second, .val (.double (sumF v (hvF sc) (FP.dmul f (hvF sc)) (hvF df))), .second] [(.double (hvF (hvF df))), (.ref ob)])) rfl rfl (hb hby d3_97)
  have Fw73 := Fw62_e71.same W73
  have E_o_e73 := E_o_e71.wr W73
  have F_first_o_e73 := F_first_o_e71.other W73 (Or.inr (slot_ne (Or.inl (hw _ (List.mem_of_getElem? (i := 29) rfl))) (Or.inl (hw _ (List.mem_of_getElem? (i := 33) rfl))) (by decide) (t := .double) (t' := .double) (by decide) (by decide)))
  have Fw68_e73 := Fw68_e71.other W73 (Or.inr (slot_ne (Or.inl (hw _ (List.mem_of_getElem? (i := 11) rfl))) (Or.inl (hw _ (List.mem_of_getElem? (i := 33) rfl))) (by decide) (t := .double) (t' := .double) (by decide) (by decide)))
  have Fw71_e73 := Fw71.other W73 (Or.inr (slot_ne (Or.inl (hw _ (List.mem_of_getElem? (i := 31) rfl))) (Or.inl (hw _ (List.mem_of_getElem? (i := 33) rfl))) (by decide) (t := .double) (t' := .double) (by decide) (by decide)))
  have F_infinities_o_e73 := F_infinities_o_e71.other W73 (Or.inr (slot_ne (Or.inl (hw _ (List.mem_of_getElem? (i := 40) rfl))) (Or.inl (hw _ (List.mem_of_getElem? (i := 33) rfl))) (by decide) (t := .double) (t' := .double) (by decide) (by decide)))
  have F_count_o_e73 := F_count_o_e71.other W73 (Or.inr (slot_ne (Or.inl (hw _ (List.mem_of_getElem? (i := 27) rfl))) (Or.inl (hw _ (List.mem_of_getElem? (i := 33) rfl))) (by decide) (t := .long) (t' := .double) (by decide) (by decide)))
  have N73 := Fr.snoc X73 N71 g_ob
  have K73 := K71.wr W73 (Or.inl (List.mem_of_getElem? (i := 0) rfl))
  have Z73 : n0 ≤ h73.size := Nat.le_trans Z71 (Keep.of_wr W73).1
  obtain ⟨T74, X74, e74, st74⟩ := getF X73 hx hZ hown (host := "") (Or.inl (hw _ (List.mem_of_getElem? (i := 32) rfl))) Via.refl e73 Fw73 (g := (mkF m 101 #[.val (.ref ob), .val (.double v), .second, .val (.double (sumF v (hvF sc) (FP.dmul f (hvF sc)) (hvF df))), .second] [(.ref ob)])) rfl rfl (hb hby d3_101)
  obtain ⟨T75, X75, e75, st75⟩ := getF X74 hx hZ hown (host := "") (Or.inl (hw _ (List.mem_of_getElem? (i := 10) rfl))) Via.refl e74 Fw68_e73 (g := (mkF m 106 #[.val (.ref ob), .val (.double v), .second, .val (.double (sumF v (hvF sc) (FP.dmul f (hvF sc)) (hvF df))), .second] [(.ref ob), (.double v), (.double (hvF (hvF df)))])) rfl rfl (hb hby d3_106)
  obtain ⟨T76, X76, e76, st76⟩ := getF X75 hx hZ hown (host := "") (Or.inl (hw _ (List.mem_of_getElem? (i := 30) rfl))) Via.refl e75 Fw71_e73 (g := (mkF m 111 #[.val (.ref ob), .val (.double v), .second, .val (.double (sumF v (hvF sc) (FP.dmul f (hvF sc)) (hvF df))), .second] [(.ref ob), (.double (FP.dmul v (hvF (hvF sc)))), (.double (hvF (hvF df)))])) rfl rfl (hb hby d3_111)
  obtain ⟨_, _, ⟨T77, L77, k77, n77⟩, -, X77, ⟨Lc77, hQ77, l77, y77, z77⟩, st77⟩ := Jvm.LawKit.callS X76 hx (y := (⟨"java/lang/Double", "isInfinite", "(D)Z"⟩ : MethodName)) hown (mvT hZ (hw _ (List.mem_of_getElem? (i := 17) rfl))) (mvT hZ (hw _ (List.mem_of_getElem? (i := 18) rfl))) (mvT hZ (hw _ (List.mem_of_getElem? (i := 19) rfl))) (mvT hZ (hw _ (List.mem_of_getElem? (i := 20) rfl))) (by decide) (backOf (W := 0) (rm4 l Z a0 hw [] (sumF v (hvF (hvF sc)) (FP.dmul f (hvF (hvF sc))) (hvF (hvF df))) h73 n0 Z73 hni57_2) hZ (hw _ (List.mem_of_getElem? (i := 20) rfl)) (hw _ (List.mem_of_getElem? (i := 19) rfl)) (by decide) (by decide)) (g := (mkF m 57 #[.val (.ref ob), .val (.double v), .second, .val (.double (sumF v (hvF (hvF sc)) (FP.dmul f (hvF (hvF sc))) (hvF (hvF df)))), .second] [(.double (sumF v (hvF (hvF sc)) (FP.dmul f (hvF (hvF sc))) (hvF (hvF df))))])) rfl (by rw [hml]; rfl) (argsL := [(.double (sumF v (hvF (hvF sc)) (FP.dmul f (hvF (hvF sc))) (hvF (hvF df))))]) (rest := []) (lenOf pd_2 rfl) rfl (by show 2 * 0 + _ ≤ _; exact Nat.le_of_eq rfl) (hb hby d3_57) (fun _ _ => ⟨rfl, e76, (by decide : 0 + 0 ≤ _), (by decide : 0 + 0 ≤ _)⟩)
  dsimp only [Pt.U, Pt.locs, Pt.cells, Pt.slots] at X77 l77 y77 z77 st77 hQ77
  subst l77 y77 z77
  obtain ⟨rfl, N77q, e77⟩ := hQ77
  have N77 := Fr.app N73 N77q
  obtain ⟨T78, h78, X78, e78, W78, st78⟩ := putF X77 hx hZ hown (host := "") (Or.inl (hw _ (List.mem_of_getElem? (i := 32) rfl))) Via.refl e77 Fw73 E_o_e73 (Or.inl (hw _ (List.mem_of_getElem? (i := 33) rfl))) (hw _ (List.mem_of_getElem? (i := 2) rfl)) (ty := .double) (by decide) rfl rfl (g := (mkF m 122 #[.val (.ref ob), .val (.double v), .second, .val (.double (sumF v (hvF (hvF sc)) (FP.dmul f (hvF (hvF sc))) (hvF (hvF df)))), .second] [(.double (sumF v (hvF (hvF sc)) (FP.dmul f (hvF (hvF sc))) (hvF (hvF df)))), (.ref ob)])) rfl rfl (hb hby d3_122)
  have Fw78 := Fw73.same W78
  have E_o_e78 := E_o_e73.wr W78
  have F_first_o_e78 := F_first_o_e73.other W78 (Or.inr (slot_ne (Or.inl (hw _ (List.mem_of_getElem? (i := 29) rfl))) (Or.inl (hw _ (List.mem_of_getElem? (i := 33) rfl))) (by decide) (t := .double) (t' := .double) (by decide) (by decide)))
  have Fw68_e78 := Fw68_e73.other W78 (Or.inr (slot_ne (Or.inl (hw _ (List.mem_of_getElem? (i := 11) rfl))) (Or.inl (hw _ (List.mem_of_getElem? (i := 33) rfl))) (by decide) (t := .double) (t' := .double) (by decide) (by decide)))
  have Fw71_e78 := Fw71_e73.other W78 (Or.inr (slot_ne (Or.inl (hw _ (List.mem_of_getElem? (i := 31) rfl))) (Or.inl (hw _ (List.mem_of_getElem? (i := 33) rfl))) (by decide) (t := .double) (t' := .double) (by decide) (by decide)))
  have F_infinities_o_e78 := F_infinities_o_e73.other W78 (Or.inr (slot_ne (Or.inl (hw _ (List.mem_of_getElem? (i := 40) rfl))) (Or.inl (hw _ (List.mem_of_getElem? (i := 33) rfl))) (by decide) (t := .double) (t' := .double) (by decide) (by decide)))
  have F_count_o_e78 := F_count_o_e73.other W78 (Or.inr (slot_ne (Or.inl (hw _ (List.mem_of_getElem? (i := 27) rfl))) (Or.inl (hw _ (List.mem_of_getElem? (i := 33) rfl))) (by decide) (t := .long) (t' := .double) (by decide) (by decide)))
  have N78 := Fr.snoc X78 N77 g_ob
  have K78 := K73.wr W78 (Or.inl (List.mem_of_getElem? (i := 0) rfl))
  have Z78 : n0 ≤ h78.size := Nat.le_trans Z73 (Keep.of_wr W78).1
  obtain ⟨T79, X79, e79, st79⟩ := getF X78 hx hZ hown (host := "") (Or.inl (hw _ (List.mem_of_getElem? (i := 26) rfl))) Via.refl e78 F_count_o_e78 (g := (mkF m 127 #[.val (.ref ob), .val (.double v), .second, .val (.double (sumF v (hvF (hvF sc)) (FP.dmul f (hvF (hvF sc))) (hvF (hvF df)))), .second] [(.ref ob), (.ref ob)])) rfl rfl (hb hby d3_127)
  obtain ⟨T80, h80, X80, e80, W80, st80⟩ := putF X79 hx hZ hown (host := "") (Or.inl (hw _ (List.mem_of_getElem? (i := 26) rfl))) Via.refl e79 F_count_o_e78 E_o_e78 (Or.inl (hw _ (List.mem_of_getElem? (i := 27) rfl))) (hw _ (List.mem_of_getElem? (i := 2) rfl)) (ty := .long) (by decide) rfl rfl (g := (mkF m 132 #[.val (.ref ob), .val (.double v), .second, .val (.double (sumF v (hvF (hvF sc)) (FP.dmul f (hvF (hvF sc))) (hvF (hvF df)))), .second] [(.long (ct + (1 : Int64))), (.ref ob)])) rfl rfl (hb hby d3_132)
  have Fw80 := F_count_o_e78.same W80
  have E_o_e80 := E_o_e78.wr W80
  have F_first_o_e80 := F_first_o_e78.other W80 (Or.inr (slot_ne (Or.inl (hw _ (List.mem_of_getElem? (i := 29) rfl))) (Or.inl (hw _ (List.mem_of_getElem? (i := 27) rfl))) (by decide) (t := .double) (t' := .long) (by decide) (by decide)))
  have Fw68_e80 := Fw68_e78.other W80 (Or.inr (slot_ne (Or.inl (hw _ (List.mem_of_getElem? (i := 11) rfl))) (Or.inl (hw _ (List.mem_of_getElem? (i := 27) rfl))) (by decide) (t := .double) (t' := .long) (by decide) (by decide)))
  have Fw71_e80 := Fw71_e78.other W80 (Or.inr (slot_ne (Or.inl (hw _ (List.mem_of_getElem? (i := 31) rfl))) (Or.inl (hw _ (List.mem_of_getElem? (i := 27) rfl))) (by decide) (t := .double) (t' := .long) (by decide) (by decide)))
  have Fw78_e80 := Fw78.other W80 (Or.inr (slot_ne (Or.inl (hw _ (List.mem_of_getElem? (i := 33) rfl))) (Or.inl (hw _ (List.mem_of_getElem? (i := 27) rfl))) (by decide) (t := .double) (t' := .long) (by decide) (by decide)))
  have F_infinities_o_e80 := F_infinities_o_e78.other W80 (Or.inr (slot_ne (Or.inl (hw _ (List.mem_of_getElem? (i := 40) rfl))) (Or.inl (hw _ (List.mem_of_getElem? (i := 27) rfl))) (by decide) (t := .double) (t' := .long) (by decide) (by decide)))
  have N80 := Fr.snoc X80 N78 g_ob
  have K80 := K78.wr W80 (Or.inl (List.mem_of_getElem? (i := 0) rfl))
  have Z80 : n0 ≤ h80.size := Nat.le_trans Z78 (Keep.of_wr W80).1
  obtain ⟨fs, hr, hrun, hended, hW, hsame⟩ := X80.leave (v := none) (fun _ => rfl)
  refine ⟨_, _, pre0 _ ?_, hrun, hended, _, _, rfl, ?_, ⟨_, rfl⟩, hW, hsame.mono (by decide) (by decide)⟩
  · show Steps p.tables e below (s₁.setTop (mkF m 0 #[.val (.ref ob), .val (.double v), .second, .unset, .unset] [])) _
    refine XS.dloadN X0.here hx rfl (hb hby d3_0) rfl ?_
    show Steps p.tables e below (s₁.setTop (mkF m 1 #[.val (.ref ob), .val (.double v), .second, .unset, .unset] [(.double v)])) _
    refine st50 _ ?_
    refine XS.ifYes X50.here hx rfl (pc0 := 4) (pc' := 20) rfl (hb hby d3_4) rfl ((if0 _ _).trans (teq hc4).1) (by decide) (by decide) ?_
    refine XS.aloadN X50.here hx rfl (hb hby d3_20) rfl rfl ?_
    show Steps p.tables e below (T50.setTop (mkF m 21 #[.val (.ref ob), .val (.double v), .second, .unset, .unset] [(.ref ob)])) _
    refine st51 _ ?_
    refine XS.lconst X51.here hx rfl (hb hby d3_24) ?_
    refine XS.lcmp X51.here hx rfl (hb hby d3_25) rfl ?_
    refine XS.ifYes X51.here hx rfl (pc0 := 26) (pc' := 39) rfl (hb hby d3_26) rfl ((if0 _ _).trans (feq hc26).2) (by decide) (by decide) ?_
    show Steps p.tables e below (T51.setTop (mkF m 39 #[.val (.ref ob), .val (.double v), .second, .unset, .unset] [])) _
    refine XS.aloadN X51.here hx rfl (hb hby d3_39) rfl rfl ?_
    show Steps p.tables e below (T51.setTop (mkF m 40 #[.val (.ref ob), .val (.double v), .second, .unset, .unset] [(.ref ob)])) _
    refine st52 _ ?_
    refine XS.dloadN X52.here hx rfl (hb hby d3_43) rfl ?_
    refine XS.aloadN X52.here hx rfl (hb hby d3_44) rfl rfl ?_
    show Steps p.tables e below (T52.setTop (mkF m 45 #[.val (.ref ob), .val (.double v), .second, .unset, .unset] [(.ref ob), (.double v), (.double df)])) _
    refine st53 _ ?_
    refine XS.dmulS X53.here hx rfl (hb hby d3_48) rfl hnan48 rfl ?_
    refine XS.aloadN X53.here hx rfl (hb hby d3_49) rfl rfl ?_
    show Steps p.tables e below (T53.setTop (mkF m 50 #[.val (.ref ob), .val (.double v), .second, .unset, .unset] [(.ref ob), (.double (FP.dmul v sc)), (.double df)])) _
    refine st54 _ ?_
    refine XS.dsubS X54.here hx rfl (hb hby d3_53) rfl hnan53 rfl ?_
    refine XS.daddS X54.here hx rfl (hb hby d3_54) rfl hnan54 rfl ?_
    show Steps p.tables e below (T54.setTop (mkF m 55 #[.val (.ref ob), .val (.double v), .second, .unset, .unset] [(.double (sumF v sc sf df))])) _
    refine XS.dstoreN X54.here hx rfl (hb hby d3_55) rfl (l' := #[.val (.ref ob), .val (.double v), .second, .val (.double (sumF v sc sf df)), .second]) rfl ?_
    refine XS.dloadN X54.here hx rfl (hb hby d3_56) rfl ?_
    show Steps p.tables e below (T54.setTop (mkF m 57 #[.val (.ref ob), .val (.double v), .second, .val (.double (sumF v sc sf df)), .second] [(.double (sumF v sc sf df))])) _
    refine st55 _ ?_
    refine XS.ifNo X55.here hx rfl (hb hby d3_60) rfl ((if0 _ _).trans (feq hc60).1) ?_
    refine XS.aloadN X55.here hx rfl (hb hby d3_63) rfl rfl ?_
    refine XS.dup X55.here hx rfl (hb hby d3_64) rfl rfl ?_
    show Steps p.tables e below (T55.setTop (mkF m 65 #[.val (.ref ob), .val (.double v), .second, .val (.double (sumF v sc sf df)), .second] [(.ref ob), (.ref ob)])) _
    refine st56 _ ?_
    refine X56.ldc2DoubleC hx hown (mvT hZ (hw _ (List.mem_of_getElem? (i := 44) rfl))) (g := (mkF m 68 #[.val (.ref ob), .val (.double v), .second, .val (.double (sumF v sc sf df)), .second] [(.double sc), (.ref ob)])) rfl (hb hby d3_68) _ ?_
    refine XS.ddivS X56.here hx rfl (hb hby d3_71) rfl hnan71 rfl ?_
    show Steps p.tables e below (T56.setTop (mkF m 72 #[.val (.ref ob), .val (.double v), .second, .val (.double (sumF v sc sf df)), .second] [(.double (hvF sc)), (.ref ob)])) _
    refine st57 _ ?_
    refine XS.aloadN X57.here hx rfl (hb hby d3_75) rfl rfl ?_
    refine XS.aloadN X57.here hx rfl (hb hby d3_76) rfl rfl ?_
    show Steps p.tables e below (T57.setTop (mkF m 77 #[.val (.ref ob), .val (.double v), .second, .val (.double (sumF v sc sf df)), .second] [(.ref ob), (.ref ob)])) _
    refine st58 _ ?_
    refine XS.aloadN X58.here hx rfl (hb hby d3_80) rfl rfl ?_
    show Steps p.tables e below (T58.setTop (mkF m 81 #[.val (.ref ob), .val (.double v), .second, .val (.double (sumF v sc sf df)), .second] [(.ref ob), (.double f), (.ref ob)])) _
    refine st59 _ ?_
    refine XS.dmulS X59.here hx rfl (hb hby d3_84) rfl hnan84 rfl ?_
    show Steps p.tables e below (T59.setTop (mkF m 85 #[.val (.ref ob), .val (.double v), .second, .val (.double (sumF v sc sf df)), .second] [(.double (FP.dmul f (hvF sc))), (.ref ob)])) _
    refine st60 _ ?_
    refine XS.aloadN X60.here hx rfl (hb hby d3_88) rfl rfl ?_
    refine XS.dup X60.here hx rfl (hb hby d3_89) rfl rfl ?_
    show Steps p.tables e below (T60.setTop (mkF m 90 #[.val (.ref ob), .val (.double v), .second, .val (.double (sumF v sc sf df)), .second] [(.ref ob), (.ref ob)])) _
    refine st61 _ ?_
    refine X61.ldc2DoubleC hx hown (mvT hZ (hw _ (List.mem_of_getElem? (i := 44) rfl))) (g := (mkF m 93 #[.val (.ref ob), .val (.double v), .second, .val (.double (sumF v sc sf df)), .second] [(.double df), (.ref ob)])) rfl (hb hby d3_93) _ ?_
    refine XS.ddivS X61.here hx rfl (hb hby d3_96) rfl hnan96 rfl ?_
    show Steps p.tables e below (T61.setTop (mkF m 97 #[.val (.ref ob), .val (.double v), .second, .val (.double (sumF v sc sf df)), .second] [(.double (hvF df)), (.ref ob)])) _
    refine st62 _ ?_
    refine XS.aloadN X62.here hx rfl (hb hby d3_100) rfl rfl ?_
    show Steps p.tables e below (T62.setTop (mkF m 101 #[.val (.ref ob), .val (.double v), .second, .val (.double (sumF v sc sf df)), .second] [(.ref ob)])) _
    refine st63 _ ?_
    refine XS.dloadN X63.here hx rfl (hb hby d3_104) rfl ?_
    refine XS.aloadN X63.here hx rfl (hb hby d3_105) rfl rfl ?_
    show Steps p.tables e below (T63.setTop (mkF m 106 #[.val (.ref ob), .val (.double v), .second, .val (.double (sumF v sc sf df)), .second] [(.ref ob), (.double v), (.double (hvF df))])) _
    refine st64 _ ?_
    refine XS.dmulS X64.here hx rfl (hb hby d3_109) rfl hnan109 rfl ?_
    refine XS.aloadN X64.here hx rfl (hb hby d3_110) rfl rfl ?_
    show Steps p.tables e below (T64.setTop (mkF m 111 #[.val (.ref ob), .val (.double v), .second, .val (.double (sumF v sc sf df)), .second] [(.ref ob), (.double (FP.dmul v (hvF sc))), (.double (hvF df))])) _
    refine st65 _ ?_
    refine XS.dsubS X65.here hx rfl (hb hby d3_114) rfl hnan114 rfl ?_
    refine XS.daddS X65.here hx rfl (hb hby d3_115) rfl hnan115 rfl ?_
    show Steps p.tables e below (T65.setTop (mkF m 116 #[.val (.ref ob), .val (.double v), .second, .val (.double (sumF v sc sf df)), .second] [(.double (sumF v (hvF sc) (FP.dmul f (hvF sc)) (hvF df)))])) _
    refine XS.dstoreN X65.here hx rfl (hb hby d3_116) rfl (l' := #[.val (.ref ob), .val (.double v), .second, .val (.double (sumF v (hvF sc) (FP.dmul f (hvF sc)) (hvF df))), .second]) rfl ?_
    refine XS.goto X65.here hx rfl (pc0 := 117) (pc' := 56) rfl (hb hby d3_117) (by decide) (by decide) ?_
    refine XS.dloadN X65.here hx rfl (hb hby d3_56) rfl ?_
    show Steps p.tables e below (T65.setTop (mkF m 57 #[.val (.ref ob), .val (.double v), .second, .val (.double (sumF v (hvF sc) (FP.dmul f (hvF sc)) (hvF df))), .second] [(.double (sumF v (hvF sc) (FP.dmul f (hvF sc)) (hvF df)))])) _
    refine st66 _ ?_
    refine XS.ifNo X66.here hx rfl (hb hby d3_60) rfl ((if0 _ _).trans (feq hc60_1).1) ?_
    refine XS.aloadN X66.here hx rfl (hb hby d3_63) rfl rfl ?_
    refine XS.dup X66.here hx rfl (hb hby d3_64) rfl rfl ?_
    show Steps p.tables e below (T66.setTop (mkF m 65 #[.val (.ref ob), .val (.double v), .second, .val (.double (sumF v (hvF sc) (FP.dmul f (hvF sc)) (hvF df))), .second] [(.ref ob), (.ref ob)])) _
    refine st67 _ ?_
    refine X67.ldc2DoubleC hx hown (mvT hZ (hw _ (List.mem_of_getElem? (i := 44) rfl))) (g := (mkF m 68 #[.val (.ref ob), .val (.double v), .second, .val (.double (sumF v (hvF sc) (FP.dmul f (hvF sc)) (hvF df))), .second] [(.double (hvF sc)), (.ref ob)])) rfl (hb hby d3_68) _ ?_
    refine XS.ddivS X67.here hx rfl (hb hby d3_71) rfl hnan71_1 rfl ?_
    show Steps p.tables e below (T67.setTop (mkF m 72 #[.val (.ref ob), .val (.double v), .second, .val (.double (sumF v (hvF sc) (FP.dmul f (hvF sc)) (hvF df))), .second] [(.double (hvF (hvF sc))), (.ref ob)])) _
    refine st68 _ ?_
    refine XS.aloadN X68.here hx rfl (hb hby d3_75) rfl rfl ?_
    refine XS.aloadN X68.here hx rfl (hb hby d3_76) rfl rfl ?_
    show Steps p.tables e below (T68.setTop (mkF m 77 #[.val (.ref ob), .val (.double v), .second, .val (.double (sumF v (hvF sc) (FP.dmul f (hvF sc)) (hvF df))), .second] [(.ref ob), (.ref ob)])) _
    refine st69 _ ?_
    refine XS.aloadN X69.here hx rfl (hb hby d3_80) rfl rfl ?_
    show Steps p.tables e below (T69.setTop (mkF m 81 #[.val (.ref ob), .val (.double v), .second, .val (.double (sumF v (hvF sc) (FP.dmul f (hvF sc)) (hvF df))), .second] [(.ref ob), (.double f), (.ref ob)])) _
    refine st70 _ ?_
    refine XS.dmulS X70.here hx rfl (hb hby d3_84) rfl hnan84_1 rfl ?_
    show Steps p.tables e below (T70.setTop (mkF m 85 #[.val (.ref ob), .val (.double v), .second, .val (.double (sumF v (hvF sc) (FP.dmul f (hvF sc)) (hvF df))), .second] [(.double (FP.dmul f (hvF (hvF sc)))), (.ref ob)])) _
    refine st71 _ ?_
    refine XS.aloadN X71.here hx rfl (hb hby d3_88) rfl rfl ?_
    refine XS.dup X71.here hx rfl (hb hby d3_89) rfl rfl ?_
    show Steps p.tables e below (T71.setTop (mkF m 90 #[.val (.ref ob), .val (.double v), .second, .val (.double (sumF v (hvF sc) (FP.dmul f (hvF sc)) (hvF df))), .second] [(.ref ob), (.ref ob)])) _
    refine st72 _ ?_
    refine X72.ldc2DoubleC hx hown (mvT hZ (hw _ (List.mem_of_getElem? (i := 44) rfl))) (g := (mkF m 93 #[.val (.ref ob), .val (.double v), .second, .val (.double (sumF v (hvF sc) (FP.dmul f (hvF sc)) (hvF df))), .second] [(.double (hvF df)), (.ref ob)])) rfl (hb hby d3_93) _ ?_
    refine XS.ddivS X72.here hx rfl (hb hby d3_96) rfl hnan96_1 rfl ?_
    show Steps p.tables e below (T72.setTop (mkF m 97 #[.val (.ref ob), .val (.double v), .second, .val (.double (sumF v (hvF sc) (FP.dmul f (hvF sc)) (hvF df))), .second] [(.double (hvF (hvF df))), (.ref ob)])) _
    refine st73 _ ?_
    refine XS.aloadN X73.here hx rfl (hb hby d3_100) rfl rfl ?_
    show Steps p.tables e below (T73.setTop (mkF m 101 #[.val (.ref ob), .val (.double v), .second, .val (.double (sumF v (hvF sc) (FP.dmul f (hvF sc)) (hvF df))), .second] [(.ref ob)])) _
    refine st74 _ ?_
    refine XS.dloadN X74.here hx rfl (hb hby d3_104) rfl ?_
    refine XS.aloadN X74.here hx rfl (hb hby d3_105) rfl rfl ?_
    show Steps p.tables e below (T74.setTop (mkF m 106 #[.val (.ref ob), .val (.double v), .second, .val (.double (sumF v (hvF sc) (FP.dmul f (hvF sc)) (hvF df))), .second] [(.ref ob), (.double v), (.double (hvF (hvF df)))])) _
    refine st75 _ ?_
    refine XS.dmulS X75.here hx rfl (hb hby d3_109) rfl hnan109_1 rfl ?_
    refine XS.aloadN X75.here hx rfl (hb hby d3_110) rfl rfl ?_
    show Steps p.tables e below (T75.setTop (mkF m 111 #[.val (.ref ob), .val (.double v), .second, .val (.double (sumF v (hvF sc) (FP.dmul f (hvF sc)) (hvF df))), .second] [(.ref ob), (.double (FP.dmul v (hvF (hvF sc)))), (.double (hvF (hvF df)))])) _
    refine st76 _ ?_
    refine XS.dsubS X76.here hx rfl (hb hby d3_114) rfl hnan114_1 rfl ?_
    refine XS.daddS X76.here hx rfl (hb hby d3_115) rfl hnan115_1 rfl ?_
    show Steps p.tables e below (T76.setTop (mkF m 116 #[.val (.ref ob), .val (.double v), .second, .val (.double (sumF v (hvF sc) (FP.dmul f (hvF sc)) (hvF df))), .second] [(.double (sumF v (hvF (hvF sc)) (FP.dmul f (hvF (hvF sc))) (hvF (hvF df))))])) _
    refine XS.dstoreN X76.here hx rfl (hb hby d3_116) rfl (l' := #[.val (.ref ob), .val (.double v), .second, .val (.double (sumF v (hvF (hvF sc)) (FP.dmul f (hvF (hvF sc))) (hvF (hvF df)))), .second]) rfl ?_
    refine XS.goto X76.here hx rfl (pc0 := 117) (pc' := 56) rfl (hb hby d3_117) (by decide) (by decide) ?_
    refine XS.dloadN X76.here hx rfl (hb hby d3_56) rfl ?_
    show Steps p.tables e below (T76.setTop (mkF m 57 #[.val (.ref ob), .val (.double v), .second, .val (.double (sumF v (hvF (hvF sc)) (FP.dmul f (hvF (hvF sc))) (hvF (hvF df)))), .second] [(.double (sumF v (hvF (hvF sc)) (FP.dmul f (hvF (hvF sc))) (hvF (hvF df))))])) _
    refine st77 _ ?_
    refine XS.ifYes X77.here hx rfl (pc0 := 60) (pc' := 120) rfl (hb hby d3_60) rfl ((if0 _ _).trans (teq hc60_2).1) (by decide) (by decide) ?_
    refine XS.aloadN X77.here hx rfl (hb hby d3_120) rfl rfl ?_
    refine XS.dloadN X77.here hx rfl (hb hby d3_121) rfl ?_
    show Steps p.tables e below (T77.setTop (mkF m 122 #[.val (.ref ob), .val (.double v), .second, .val (.double (sumF v (hvF (hvF sc)) (FP.dmul f (hvF (hvF sc))) (hvF (hvF df)))), .second] [(.double (sumF v (hvF (hvF sc)) (FP.dmul f (hvF (hvF sc))) (hvF (hvF df)))), (.ref ob)])) _
    refine st78 _ ?_
    refine XS.aloadN X78.here hx rfl (hb hby d3_125) rfl rfl ?_
    refine XS.dup X78.here hx rfl (hb hby d3_126) rfl rfl ?_
    show Steps p.tables e below (T78.setTop (mkF m 127 #[.val (.ref ob), .val (.double v), .second, .val (.double (sumF v (hvF (hvF sc)) (FP.dmul f (hvF (hvF sc))) (hvF (hvF df)))), .second] [(.ref ob), (.ref ob)])) _
    refine st79 _ ?_
    refine XS.lconst X79.here hx rfl (hb hby d3_130) ?_
    refine XS.ladd X79.here hx rfl (hb hby d3_131) rfl ?_
    show Steps p.tables e below (T79.setTop (mkF m 132 #[.val (.ref ob), .val (.double v), .second, .val (.double (sumF v (hvF (hvF sc)) (FP.dmul f (hvF (hvF sc))) (hvF (hvF df)))), .second] [(.long (ct + (1 : Int64))), (.ref ob)])) _
    refine st80 _ ?_
    show Steps p.tables e below (T80.setTop (mkF m 135 #[.val (.ref ob), .val (.double v), .second, .val (.double (sumF v (hvF (hvF sc)) (FP.dmul f (hvF (hvF sc))) (hvF (hvF df)))), .second] [])) _
    exact X80.returnOut hx Bd.returns (hb hby d3_135) hr
  · show Q3 Z ob f (hvF (hvF sc)) (FP.dmul f (hvF (hvF sc))) (sumF v (hvF (hvF sc)) (FP.dmul f (hvF (hvF sc))) (hvF (hvF df))) nf (ct + (1 : Int64)) h0 n0 _ T80.heap _
    rw [e80]
    exact ⟨rfl, N80, K80, E_o_e80, F_first_o_e80, Fw68_e80, Fw71_e80, Fw78_e80, F_infinities_o_e80, Fw80⟩
set_option maxRecDepth 65536 in
set_option maxHeartbeats 40000000 in
theorem rm6_I (l : Launch) (Z : State) (a0 : Array Value) (hw : ∀ d ∈ tables_1, d.before a0 Z = true) (ws : List Jvm.Cond) (ob : Addr) (f sc sf df nf : UInt64) (ct : Int64) (h0 : Heap) (n0 : Nat) (Z0 : n0 ≤ h0.size) (M : MSt Z h0 ob f sc sf df nf ct) (hc6 : ¬ ((lcmpW ct (0 : Int64)) = (0 : Int32))) (hc25 : ¬ ((cmpValue (FP.dcmp nf FP.dconst0) .l) = (0 : Int32))) :
    MetFree l (⟨"com/example/retiremetric/retiremetric/engine/Mean", "mean", "()D"⟩ : MethodName) (head1 (Jvm.Cond.code (⟨"com/example/retiremetric/retiremetric/engine/Mean", "mean", "()D"⟩ : MethodName) prog_16_method_5_code 1 (some .double) :: ws) ({ frames := 0, cells := 0, slots := 0, locals := 0 } : Room)) (fun aa_ U_ => aa_ = #[(.ref ob)] ∧ Z.Warmed39 U_.vm ∧ U_.heap = h0) (fun _ _ _ _ _ => True) (fun _ U_ o_ V_ => ∃ v_ L_, o_ = .returned v_ ∧ QD nf h0 n0 v_ V_.heap L_ ∧ FrameEnd U_ o_ V_ L_ ({ frames := 0, cells := 0, slots := 0, locals := 0 } : Room).cells ({ frames := 0, cells := 0, slots := 0, locals := 0 } : Room).slots) := by
  refine MetFree.of_bodySF (plainFor_of_name pn_6) hisR ?_
  intro p e s m args below meth c s₁ Bd hml0 hP hK
  obtain ⟨rfl, hZ, hh⟩ := hP
  have hx := Bd.exec
  have hby := Bd.bytes
  have hml : c.maxLocals = 1 := hml0
  have hown : s.vm.findClass "com/example/retiremetric/retiremetric/engine/Mean" = some m.cls := findClass_of_methodNamed Bd.named
  have hnm := (name_of_methodNamed Bd.named Bd.method).1
  have X0 : Stand p l e ({ frames := 0, cells := 0, slots := 0, locals := 0 } : Room) s m #[(.ref ob)] below meth c s₁ [] 0 0 := Stand.of_body Bd
  have e0 : s₁.heap = h0 := by rw [← hh, Bd.state]; rfl
  have N0 := Fr.nil n0
  have pre0 : ∀ zz, Steps p.tables e below (s₁.setTop (mkF m 0 #[.val (.ref ob)] [])) zz → Steps p.tables e below (s₁.setTop (entryFrame m #[(.ref ob)] 1)) zz := fun zz k => castTop (ef_6 m ob) k
  obtain ⟨E_o, F_first_o, F_scale_o, F_scaledFirst_o, F_differences_o, F_infinities_o, F_count_o⟩ := M
  obtain ⟨T81, X81, e81, st81⟩ := getF X0 hx hZ hown (host := "") (Or.inl (hw _ (List.mem_of_getElem? (i := 26) rfl))) Via.refl e0 F_count_o (g := (mkF m 1 #[.val (.ref ob)] [(.ref ob)])) rfl rfl (hb hby d6_1)
  obtain ⟨T82, X82, e82, st82⟩ := getF X81 hx hZ hown (host := "") (Or.inl (hw _ (List.mem_of_getElem? (i := 39) rfl))) Via.refl e81 F_infinities_o (g := (mkF m 20 #[.val (.ref ob)] [(.ref ob)])) rfl rfl (hb hby d6_20)
  obtain ⟨T83, X83, e83, st83⟩ := getF X82 hx hZ hown (host := "") (Or.inl (hw _ (List.mem_of_getElem? (i := 39) rfl))) Via.refl e82 F_infinities_o (g := (mkF m 29 #[.val (.ref ob)] [(.ref ob)])) rfl rfl (hb hby d6_29)
  obtain ⟨fs, hr, hrun, hended, hW, hsame⟩ := X83.leave (v := some (.double nf)) (fun h => by rw [Bd.returns] at h; cases h)
  refine ⟨_, _, pre0 _ ?_, hrun, hended, _, _, rfl, ?_, ⟨_, rfl⟩, hW, hsame.mono (by decide) (by decide)⟩
  · show Steps p.tables e below (s₁.setTop (mkF m 0 #[.val (.ref ob)] [])) _
    refine XS.aloadN X0.here hx rfl (hb hby d6_0) rfl rfl ?_
    show Steps p.tables e below (s₁.setTop (mkF m 1 #[.val (.ref ob)] [(.ref ob)])) _
    refine st81 _ ?_
    refine XS.lconst X81.here hx rfl (hb hby d6_4) ?_
    refine XS.lcmp X81.here hx rfl (hb hby d6_5) rfl ?_
    refine XS.ifYes X81.here hx rfl (pc0 := 6) (pc' := 19) rfl (hb hby d6_6) rfl ((if0 _ _).trans (feq hc6).2) (by decide) (by decide) ?_
    show Steps p.tables e below (T81.setTop (mkF m 19 #[.val (.ref ob)] [])) _
    refine XS.aloadN X81.here hx rfl (hb hby d6_19) rfl rfl ?_
    show Steps p.tables e below (T81.setTop (mkF m 20 #[.val (.ref ob)] [(.ref ob)])) _
    refine st82 _ ?_
    refine XS.dconst0 X82.here hx rfl (hb hby d6_23) rfl ?_
    refine XS.dcmpS X82.here hx rfl (hb hby d6_24) rfl rfl ?_
    refine XS.ifNo X82.here hx rfl (hb hby d6_25) rfl ((if0 _ _).trans (feq hc25).1) ?_
    show Steps p.tables e below (T82.setTop (mkF m 28 #[.val (.ref ob)] [])) _
    refine XS.aloadN X82.here hx rfl (hb hby d6_28) rfl rfl ?_
    show Steps p.tables e below (T82.setTop (mkF m 29 #[.val (.ref ob)] [(.ref ob)])) _
    refine st83 _ ?_
    refine XS.goto X83.here hx rfl (pc0 := 32) (pc' := 55) rfl (hb hby d6_32) (by decide) (by decide) ?_
    show Steps p.tables e below (T83.setTop (mkF m 55 #[.val (.ref ob)] [(.double nf)])) _
    jvm_step X83.here [X83.here.top, hx, (hb hby d6_55), X83.method', Bd.returns, narrow]
    first | (intro acts; rw [hr _ acts rfl rfl rfl]) | rw [hr _ _ rfl rfl rfl]
    exact Steps.refl _
  · show QD nf h0 n0 _ T83.heap _
    rw [e83]
    exact ⟨rfl, N0, rfl⟩
set_option maxRecDepth 65536 in
set_option maxHeartbeats 40000000 in
theorem rm6_F (l : Launch) (Z : State) (a0 : Array Value) (hw : ∀ d ∈ tables_1, d.before a0 Z = true) (ws : List Jvm.Cond) (ob : Addr) (f sc sf df nf : UInt64) (ct : Int64) (h0 : Heap) (n0 : Nat) (Z0 : n0 ≤ h0.size) (M : MSt Z h0 ob f sc sf df nf ct) (hc6 : ¬ ((lcmpW ct (0 : Int64)) = (0 : Int32))) (hc25 : (cmpValue (FP.dcmp nf FP.dconst0) .l) = (0 : Int32)) (hnan48 : Jvm.Free.Fl.NoNaN64 (FP.ddiv df (FP.l2d ct))) (hnan49 : Jvm.Free.Fl.NoNaN64 (FP.dadd sf (FP.ddiv df (FP.l2d ct)))) (hnan54 : Jvm.Free.Fl.NoNaN64 (FP.ddiv (FP.dadd sf (FP.ddiv df (FP.l2d ct))) sc)) :
    MetFree l (⟨"com/example/retiremetric/retiremetric/engine/Mean", "mean", "()D"⟩ : MethodName) (head1 (Jvm.Cond.code (⟨"com/example/retiremetric/retiremetric/engine/Mean", "mean", "()D"⟩ : MethodName) prog_16_method_5_code 1 (some .double) :: ws) ({ frames := 0, cells := 0, slots := 0, locals := 0 } : Room)) (fun aa_ U_ => aa_ = #[(.ref ob)] ∧ Z.Warmed39 U_.vm ∧ U_.heap = h0) (fun _ _ _ _ _ => True) (fun _ U_ o_ V_ => ∃ v_ L_, o_ = .returned v_ ∧ QD (FP.ddiv (FP.dadd sf (FP.ddiv df (FP.l2d ct))) sc) h0 n0 v_ V_.heap L_ ∧ FrameEnd U_ o_ V_ L_ ({ frames := 0, cells := 0, slots := 0, locals := 0 } : Room).cells ({ frames := 0, cells := 0, slots := 0, locals := 0 } : Room).slots) := by
  refine MetFree.of_bodySF (plainFor_of_name pn_6) hisR ?_
  intro p e s m args below meth c s₁ Bd hml0 hP hK
  obtain ⟨rfl, hZ, hh⟩ := hP
  have hx := Bd.exec
  have hby := Bd.bytes
  have hml : c.maxLocals = 1 := hml0
  have hown : s.vm.findClass "com/example/retiremetric/retiremetric/engine/Mean" = some m.cls := findClass_of_methodNamed Bd.named
  have hnm := (name_of_methodNamed Bd.named Bd.method).1
  have X0 : Stand p l e ({ frames := 0, cells := 0, slots := 0, locals := 0 } : Room) s m #[(.ref ob)] below meth c s₁ [] 0 0 := Stand.of_body Bd
  have e0 : s₁.heap = h0 := by rw [← hh, Bd.state]; rfl
  have N0 := Fr.nil n0
  have pre0 : ∀ zz, Steps p.tables e below (s₁.setTop (mkF m 0 #[.val (.ref ob)] [])) zz → Steps p.tables e below (s₁.setTop (entryFrame m #[(.ref ob)] 1)) zz := fun zz k => castTop (ef_6 m ob) k
  obtain ⟨E_o, F_first_o, F_scale_o, F_scaledFirst_o, F_differences_o, F_infinities_o, F_count_o⟩ := M
  obtain ⟨T84, X84, e84, st84⟩ := getF X0 hx hZ hown (host := "") (Or.inl (hw _ (List.mem_of_getElem? (i := 26) rfl))) Via.refl e0 F_count_o (g := (mkF m 1 #[.val (.ref ob)] [(.ref ob)])) rfl rfl (hb hby d6_1)
  obtain ⟨T85, X85, e85, st85⟩ := getF X84 hx hZ hown (host := "") (Or.inl (hw _ (List.mem_of_getElem? (i := 39) rfl))) Via.refl e84 F_infinities_o (g := (mkF m 20 #[.val (.ref ob)] [(.ref ob)])) rfl rfl (hb hby d6_20)
  obtain ⟨T86, X86, e86, st86⟩ := getF X85 hx hZ hown (host := "") (Or.inl (hw _ (List.mem_of_getElem? (i := 30) rfl))) Via.refl e85 F_scaledFirst_o (g := (mkF m 36 #[.val (.ref ob)] [(.ref ob)])) rfl rfl (hb hby d6_36)
  obtain ⟨T87, X87, e87, st87⟩ := getF X86 hx hZ hown (host := "") (Or.inl (hw _ (List.mem_of_getElem? (i := 32) rfl))) Via.refl e86 F_differences_o (g := (mkF m 40 #[.val (.ref ob)] [(.ref ob), (.double sf)])) rfl rfl (hb hby d6_40)
  obtain ⟨T88, X88, e88, st88⟩ := getF X87 hx hZ hown (host := "") (Or.inl (hw _ (List.mem_of_getElem? (i := 26) rfl))) Via.refl e87 F_count_o (g := (mkF m 44 #[.val (.ref ob)] [(.ref ob), (.double df), (.double sf)])) rfl rfl (hb hby d6_44)
  obtain ⟨T89, X89, e89, st89⟩ := getF X88 hx hZ hown (host := "") (Or.inl (hw _ (List.mem_of_getElem? (i := 10) rfl))) Via.refl e88 F_scale_o (g := (mkF m 51 #[.val (.ref ob)] [(.ref ob), (.double (FP.dadd sf (FP.ddiv df (FP.l2d ct))))])) rfl rfl (hb hby d6_51)
  obtain ⟨fs, hr, hrun, hended, hW, hsame⟩ := X89.leave (v := some (.double (FP.ddiv (FP.dadd sf (FP.ddiv df (FP.l2d ct))) sc))) (fun h => by rw [Bd.returns] at h; cases h)
  refine ⟨_, _, pre0 _ ?_, hrun, hended, _, _, rfl, ?_, ⟨_, rfl⟩, hW, hsame.mono (by decide) (by decide)⟩
  · show Steps p.tables e below (s₁.setTop (mkF m 0 #[.val (.ref ob)] [])) _
    refine XS.aloadN X0.here hx rfl (hb hby d6_0) rfl rfl ?_
    show Steps p.tables e below (s₁.setTop (mkF m 1 #[.val (.ref ob)] [(.ref ob)])) _
    refine st84 _ ?_
    refine XS.lconst X84.here hx rfl (hb hby d6_4) ?_
    refine XS.lcmp X84.here hx rfl (hb hby d6_5) rfl ?_
    refine XS.ifYes X84.here hx rfl (pc0 := 6) (pc' := 19) rfl (hb hby d6_6) rfl ((if0 _ _).trans (feq hc6).2) (by decide) (by decide) ?_
    show Steps p.tables e below (T84.setTop (mkF m 19 #[.val (.ref ob)] [])) _
    refine XS.aloadN X84.here hx rfl (hb hby d6_19) rfl rfl ?_
    show Steps p.tables e below (T84.setTop (mkF m 20 #[.val (.ref ob)] [(.ref ob)])) _
    refine st85 _ ?_
    refine XS.dconst0 X85.here hx rfl (hb hby d6_23) rfl ?_
    refine XS.dcmpS X85.here hx rfl (hb hby d6_24) rfl rfl ?_
    refine XS.ifYes X85.here hx rfl (pc0 := 25) (pc' := 35) rfl (hb hby d6_25) rfl ((if0 _ _).trans (teq hc25).1) (by decide) (by decide) ?_
    show Steps p.tables e below (T85.setTop (mkF m 35 #[.val (.ref ob)] [])) _
    refine XS.aloadN X85.here hx rfl (hb hby d6_35) rfl rfl ?_
    show Steps p.tables e below (T85.setTop (mkF m 36 #[.val (.ref ob)] [(.ref ob)])) _
    refine st86 _ ?_
    refine XS.aloadN X86.here hx rfl (hb hby d6_39) rfl rfl ?_
    show Steps p.tables e below (T86.setTop (mkF m 40 #[.val (.ref ob)] [(.ref ob), (.double sf)])) _
    refine st87 _ ?_
    refine XS.aloadN X87.here hx rfl (hb hby d6_43) rfl rfl ?_
    show Steps p.tables e below (T87.setTop (mkF m 44 #[.val (.ref ob)] [(.ref ob), (.double df), (.double sf)])) _
    refine st88 _ ?_
    refine XS.l2dS X88.here hx rfl (hb hby d6_47) rfl rfl ?_
    refine XS.ddivS X88.here hx rfl (hb hby d6_48) rfl hnan48 rfl ?_
    refine XS.daddS X88.here hx rfl (hb hby d6_49) rfl hnan49 rfl ?_
    show Steps p.tables e below (T88.setTop (mkF m 50 #[.val (.ref ob)] [(.double (FP.dadd sf (FP.ddiv df (FP.l2d ct))))])) _
    refine XS.aloadN X88.here hx rfl (hb hby d6_50) rfl rfl ?_
    show Steps p.tables e below (T88.setTop (mkF m 51 #[.val (.ref ob)] [(.ref ob), (.double (FP.dadd sf (FP.ddiv df (FP.l2d ct))))])) _
    refine st89 _ ?_
    refine XS.ddivS X89.here hx rfl (hb hby d6_54) rfl hnan54 rfl ?_
    show Steps p.tables e below (T89.setTop (mkF m 55 #[.val (.ref ob)] [(.double (FP.ddiv (FP.dadd sf (FP.ddiv df (FP.l2d ct))) sc))])) _
    jvm_step X89.here [X89.here.top, hx, (hb hby d6_55), X89.method', Bd.returns, narrow]
    first | (intro acts; rw [hr _ acts rfl rfl rfl]) | rw [hr _ _ rfl rfl rfl]
    exact Steps.refl _
  · show QD (FP.ddiv (FP.dadd sf (FP.ddiv df (FP.l2d ct))) sc) h0 n0 _ T89.heap _
    rw [e89]
    exact ⟨rfl, N0, rfl⟩
section PlainM
open Jvm.FP.Core Jvm.Kit
theorem two_dv : DV 1 1075 (4611686018427387904 : UInt64) := dv_of_bits (s := false) (c := 4503599627370496) (q := -51) (by decide +kernel) (by decide +kernel)
theorem one_dv : DV 1 1074 FP.dconst1 := dv_of_bits (s := false) (c := 4503599627370496) (q := -52) (by decide +kernel) (by decide +kernel)
theorem zero_dv (n : Nat) : DV 0 n (0 : UInt64) := dv_of_bits (s := false) (c := 0) (q := -1074) (by decide +kernel) (by rw [Int.zero_mul]; decide +kernel)
theorem cmp_val (i j : Int) (o : CmpOp) : cmpValue (some (compare i j)) o = if i < j then -1 else if i = j then 0 else 1 := by
  simp only [compare, compareOfLessAndEq]
  split
  · rfl
  · split <;> rfl
/-- what the fields of a Mean hold: first F, differences D, both times the unit; e halvings so far -/
def MV (U : Nat) (F D : Int) (e : Nat) (f sc sf df : UInt64) : Prop := e ≤ 2 ∧ DV F U f ∧ DV 1 (1074 - e) sc ∧ DV F (U - e) sf ∧ DV D (U - e) df ∧ D.natAbs * 2 ^ (U - e - 2045) < 2 ^ 53
theorem p29 {U e : Nat} (hU : U ≤ 2074) : 2 ^ (U - e - 2045) ≤ 2 ^ 29 := Nat.pow_le_pow_right (by decide) (by omega)
theorem mv_sum {U e : Nat} {F D n : Int} {v sc sf df : UInt64} (hU : 74 ≤ U ∧ U ≤ 2074) (he : e ≤ 2) (hv : DV n U v) (h1 : DV 1 (1074 - e) sc) (h2 : DV F (U - e) sf) (h3 : DV D (U - e) df) (hn : n.natAbs ≤ 8388608) (hnF : (n - F).natAbs ≤ 16777215) :
    Jvm.Free.Fl.NoNaN64 (FP.dmul v sc) ∧ Jvm.Free.Fl.NoNaN64 (FP.dsub (FP.dmul v sc) sf) ∧ ((D + (n - F)).natAbs * 2 ^ (U - e - 2045) < 2 ^ 53 → DV (D + (n - F)) (U - e) (sumF v sc sf df)) ∧ (2 ^ 2098 ≤ (D + (n - F)).natAbs * 2 ^ (U - e) → ∃ s, val64 (sumF v sc sf df) = .inf s) := by
  have m1 : DV n (U - e) (FP.dmul v sc) := by
    have q := dv_mulX (N := U - e) hv h1 (by omega) (by rw [Int.mul_one]; exact Nat.lt_of_le_of_lt (Nat.mul_le_mul hn (p29 hU.2)) (by decide))
    rw [Int.mul_one] at q
    exact q
  have m2 : DV (n - F) (U - e) (FP.dsub (FP.dmul v sc) sf) := dv_subX m1 h2 (Nat.lt_of_le_of_lt (Nat.mul_le_mul hnF (p29 hU.2)) (by decide))
  exact ⟨dv_noNaN m1, dv_noNaN m2, fun h => dv_addX h3 m2 h, fun h => dv_add_inf h3 m2 h⟩
theorem mv_half {U e : Nat} {F D : Int} {f sc df : UInt64} (hU : U = 2074) (he : e ≤ 1) (hF : F.natAbs ≤ 8388608) (h0 : DV F U f) (h1 : DV 1 (1074 - e) sc) (h3 : DV D (U - e) df) (hD : D.natAbs * 2 ^ (U - e - 2045) < 2 ^ 53) :
    DV 1 (1074 - (e + 1)) (hvF sc) ∧ DV F (U - (e + 1)) (FP.dmul f (hvF sc)) ∧ DV D (U - (e + 1)) (hvF df) ∧ D.natAbs * 2 ^ (U - (e + 1) - 2045) < 2 ^ 53 := by
  have a1 : DV 1 (1074 - (e + 1)) (hvF sc) := by
    refine dv_divX (z := 1) h1 two_dv (by decide) ?_ ?_
    · rw [show 1074 - (e + 1) + 1075 = 1074 - e + 1074 by omega, Int.one_mul, Int.one_mul, Int.one_mul]
    · rw [show 1074 - (e + 1) - 2045 = 0 by omega]; decide
  have a2 : DV F (U - (e + 1)) (FP.dmul f (hvF sc)) := by
    have q := dv_mulX (N := U - (e + 1)) h0 a1 (by omega) (by rw [Int.mul_one]; exact Nat.lt_of_le_of_lt (Nat.mul_le_mul hF (p29 (by omega))) (by decide))
    rw [Int.mul_one] at q
    exact q
  have hD2 : D.natAbs * 2 ^ (U - (e + 1) - 2045) < 2 ^ 53 := Nat.lt_of_le_of_lt (Nat.mul_le_mul_left _ (Nat.pow_le_pow_right (by decide) (by omega))) hD
  have a3 : DV D (U - (e + 1)) (hvF df) := by
    refine dv_divX (z := D) h3 two_dv (by decide) ?_ hD2
    rw [show U - (e + 1) + 1075 = U - e + 1074 by omega, Int.mul_one]
  exact ⟨a1, a2, a3, hD2⟩
theorem big_of {U e x : Nat} (hU : U = 2074) (he : e ≤ 2) (h : ¬ x * 2 ^ (U - e - 2045) < 2 ^ 53) : 2 ^ 2098 ≤ x * 2 ^ (U - e) := by
  rw [show U - e = (U - e - 2045) + 2045 by omega, Nat.pow_add, ← Nat.mul_assoc, show (2098 : Nat) = 53 + 2045 from rfl, Nat.pow_add]
  exact Nat.mul_le_mul_right _ (by omega)
/-- the mean of k values, k = 2 ^ j: what mean() reckons, and what the law expects -/
theorem mean_ok {U e j : Nat} {F D S : Int} {f sc sf df p : UInt64} {ct sm : Int64} {kk : Int32} (hU : 74 ≤ U ∧ U ≤ 2074) (hj : j ≤ 2) (mv : MV U F D e f sc sf df) (hS : F * ((2 ^ j : Nat) : Int) + D = S) (hb : S.natAbs ≤ 8388608 * 2 ^ j) (hct : ct.toInt = ((2 ^ j : Nat) : Int)) (hkk : kk.toInt = ((2 ^ j : Nat) : Int)) (hsm : sm.toInt = S) (hp : DV 1 U p) :
    Jvm.Free.Fl.NoNaN64 (FP.ddiv df (FP.l2d ct)) ∧ Jvm.Free.Fl.NoNaN64 (FP.dadd sf (FP.ddiv df (FP.l2d ct))) ∧ Jvm.Free.Fl.NoNaN64 (FP.ddiv (FP.dadd sf (FP.ddiv df (FP.l2d ct))) sc) ∧ Jvm.Free.Fl.NoNaN64 (FP.ddiv (FP.l2d sm) (FP.i2d kk)) ∧ Jvm.Free.Fl.NoNaN64 (FP.dmul (FP.ddiv (FP.l2d sm) (FP.i2d kk)) p) ∧
      cmpValue (FP.dcmp (FP.ddiv (FP.dadd sf (FP.ddiv df (FP.l2d ct))) sc) (FP.dmul (FP.ddiv (FP.l2d sm) (FP.i2d kk)) p)) .l = (0 : Int32) := by
  obtain ⟨he, hf, hs, hsf, hdf, hDb⟩ := mv
  have hpw := Nat.two_pow_pos j
  have hp4 : 2 ^ j ≤ 4 := Nat.pow_le_pow_right (by decide) hj
  have dc : DV ((2 ^ j : Nat) : Int) 1074 (FP.l2d ct) := by rw [← hct]; exact dv_l2d (by omega)
  have dk : DV ((2 ^ j : Nat) : Int) 1074 (FP.i2d kk) := by rw [← hkk]; exact dv_i2d kk
  have dS : DV S 1074 (FP.l2d sm) := by rw [← hsm]; exact dv_l2d (by omega)
  have hD2 : D.natAbs * 2 ^ (U - e - j - 2045) < 2 ^ 53 := Nat.lt_of_le_of_lt (Nat.mul_le_mul_left _ (Nat.pow_le_pow_right (by decide) (by omega))) hDb
  have q1 : DV D (U - e - j) (FP.ddiv df (FP.l2d ct)) := by
    refine dv_divX (z := D) hdf dc (by omega) ?_ hD2
    rw [Int.mul_assoc, ← Int.natCast_mul, ← Nat.pow_add, show j + (U - e - j + 1074) = U - e + 1074 by omega]
  have q2 : DV (F * ((2 ^ j : Nat) : Int)) (U - e - j) sf := dv_up (by rw [show U - e - j + j = U - e by omega]; exact hsf)
  have hSb : ∀ k : Nat, k + j ≤ 29 → S.natAbs * 2 ^ k < 2 ^ 53 := fun k hk => by
    refine Nat.lt_of_le_of_lt (Nat.mul_le_mul_right _ hb) ?_
    rw [Nat.mul_assoc, ← Nat.pow_add]
    exact Nat.lt_of_le_of_lt (Nat.mul_le_mul_left _ (Nat.pow_le_pow_right (by decide) (show j + k ≤ 29 by omega))) (by decide)
  have hSc : ∀ u : Nat, u ≤ 2074 - j → S.natAbs * 2 ^ (u - 2045) < 2 ^ 53 := fun u hu => by
    by_cases h : 2045 ≤ u
    · exact hSb _ (by omega)
    · rw [show u - 2045 = 0 by omega]; exact hSb 0 (by omega)
  have q3 : DV S (U - e - j) (FP.dadd sf (FP.ddiv df (FP.l2d ct))) := by
    have q := dv_addX q2 q1 (by rw [hS]; exact hSc _ (by omega))
    rw [hS] at q
    exact q
  have q4 : DV S (U - j) (FP.ddiv (FP.dadd sf (FP.ddiv df (FP.l2d ct))) sc) := by
    refine dv_divX (z := S) q3 hs (by decide) ?_ (hSc _ (by omega))
    rw [Int.mul_one, show U - j + (1074 - e) = U - e - j + 1074 by omega]
  have q5 : DV S (1074 - j) (FP.ddiv (FP.l2d sm) (FP.i2d kk)) := by
    refine dv_divX (z := S) dS dk (by omega) ?_ (hSc _ (by omega))
    rw [Int.mul_assoc, ← Int.natCast_mul, ← Nat.pow_add, show j + (1074 - j + 1074) = 1074 + 1074 by omega]
  have q6 : DV S (U - j) (FP.dmul (FP.ddiv (FP.l2d sm) (FP.i2d kk)) p) := by
    have q := dv_mulX (N := U - j) q5 hp (by omega) (by rw [Int.mul_one]; exact hSc _ (by omega))
    rw [Int.mul_one] at q
    exact q
  refine ⟨dv_noNaN q1, dv_noNaN q3, dv_noNaN q4, dv_noNaN q5, dv_noNaN q6, ?_⟩
  rw [dv_cmp q4 q6, cmp_val, if_neg (by omega), if_pos rfl]
theorem mean_ok3 {U e : Nat} {F : Int} {f sc sf df p : UInt64} {ct sm : Int64} {kk : Int32} (hU : 74 ≤ U ∧ U ≤ 2074) (mv : MV U F 0 e f sc sf df) (hb : F.natAbs ≤ 8388608) (hct : ct.toInt = 3) (hkk : kk.toInt = 3) (hsm : sm.toInt = F * 3) (hp : DV 1 U p) :
    Jvm.Free.Fl.NoNaN64 (FP.ddiv df (FP.l2d ct)) ∧ Jvm.Free.Fl.NoNaN64 (FP.dadd sf (FP.ddiv df (FP.l2d ct))) ∧ Jvm.Free.Fl.NoNaN64 (FP.ddiv (FP.dadd sf (FP.ddiv df (FP.l2d ct))) sc) ∧ Jvm.Free.Fl.NoNaN64 (FP.ddiv (FP.l2d sm) (FP.i2d kk)) ∧ Jvm.Free.Fl.NoNaN64 (FP.dmul (FP.ddiv (FP.l2d sm) (FP.i2d kk)) p) ∧
      cmpValue (FP.dcmp (FP.ddiv (FP.dadd sf (FP.ddiv df (FP.l2d ct))) sc) (FP.dmul (FP.ddiv (FP.l2d sm) (FP.i2d kk)) p)) .l = (0 : Int32) := by
  obtain ⟨he, hf, hs, hsf, hdf, hDb⟩ := mv
  have dc : DV 3 1074 (FP.l2d ct) := by rw [← hct]; exact dv_l2d (by omega)
  have dk : DV 3 1074 (FP.i2d kk) := by rw [← hkk]; exact dv_i2d kk
  have dS : DV (F * 3) 1074 (FP.l2d sm) := by rw [← hsm]; exact dv_l2d (by omega)
  have hFc : ∀ u : Nat, u ≤ 2074 → F.natAbs * 2 ^ (u - 2045) < 2 ^ 53 := fun u hu => Nat.lt_of_le_of_lt (Nat.mul_le_mul hb (Nat.pow_le_pow_right (by decide) (show u - 2045 ≤ 29 by omega))) (by decide)
  have q1 : DV 0 (U - e) (FP.ddiv df (FP.l2d ct)) := dv_divX (z := 0) hdf dc (by decide) (by simp) (by simp)
  have q3 : DV F (U - e) (FP.dadd sf (FP.ddiv df (FP.l2d ct))) := by
    have q := dv_addX hsf q1 (by rw [Int.add_zero]; exact hFc _ (by omega))
    rw [Int.add_zero] at q
    exact q
  have q4 : DV F U (FP.ddiv (FP.dadd sf (FP.ddiv df (FP.l2d ct))) sc) := by
    refine dv_divX (z := F) q3 hs (by decide) ?_ (hFc _ (by omega))
    rw [Int.mul_one, show U + (1074 - e) = U - e + 1074 by omega]
  have q5 : DV F 1074 (FP.ddiv (FP.l2d sm) (FP.i2d kk)) := dv_divX (z := F) dS dk (by decide) rfl (hFc _ (by omega))
  have q6 : DV F U (FP.dmul (FP.ddiv (FP.l2d sm) (FP.i2d kk)) p) := by
    have q := dv_mulX (N := U) q5 hp (by omega) (by rw [Int.mul_one]; exact hFc _ (by omega))
    rw [Int.mul_one] at q
    exact q
  refine ⟨dv_noNaN q1, dv_noNaN q3, dv_noNaN q4, dv_noNaN q5, dv_noNaN q6, ?_⟩
  rw [dv_cmp q4 q6, cmp_val, if_neg (by omega), if_pos rfl]
def Q3u (Z : State) (ob : Addr) (U : Nat) (F D : Int) (nf : UInt64) (ct : Int64) (h0 : Heap) (n0 : Nat) (v : Option Value) (h : Heap) (L : List Loc) : Prop := ∃ e f sc sf df, MV U F D e f sc sf df ∧ Q3 Z ob f sc sf df nf ct h0 n0 v h L
end PlainM

section FinM
open Jvm.FP.Core Jvm.Kit
set_option maxRecDepth 65536 in
set_option maxHeartbeats 40000000 in
theorem rm3_fin (l : Launch) (Z : State) (a0 : Array Value) (hw : ∀ d ∈ tables_1, d.before a0 Z = true) (ws : List Jvm.Cond) (ob : Addr) (v : UInt64) (f sc sf df nf : UInt64) (ct : Int64) (U : Nat) (F D n : Int) (e : Nat) (h0 : Heap) (n0 : Nat) (Z0 : n0 ≤ h0.size) (g_ob : n0 ≤ ob) (M : MSt Z h0 ob f sc sf df nf ct) (hU : 74 ≤ U ∧ U ≤ 2074) (hU2 : U = 2074 ∨ U ≤ 1074) (hv : DV n U v) (mv : MV U F D e f sc sf df) (hn : n.natAbs ≤ 8388608) (hF : F.natAbs ≤ 8388608) (hnF : (n - F).natAbs ≤ 16777215) (hD : (D + (n - F)).natAbs ≤ 67108863) (hc26 : ¬ ((lcmpW ct (0 : Int64)) = (0 : Int32)))  :
    MetFree l (⟨"com/example/retiremetric/retiremetric/engine/Mean", "add", "(D)V"⟩ : MethodName) (head1 (Jvm.Cond.code (⟨"com/example/retiremetric/retiremetric/engine/Mean", "add", "(D)V"⟩ : MethodName) prog_16_method_3_code 5 none :: ws) ({ frames := 2, cells := 0, slots := 0, locals := 26 } : Room)) (fun aa_ U_ => aa_ = #[(.ref ob), (.double v)] ∧ Z.Warmed39 U_.vm ∧ U_.heap = h0) (fun _ _ _ _ _ => True) (fun _ U_ o_ V_ => ∃ v_ L_, o_ = .returned v_ ∧ Q3u Z ob U F (D + (n - F)) nf (ct + (1 : Int64)) h0 n0 v_ V_.heap L_ ∧ FrameEnd U_ o_ V_ L_ ({ frames := 2, cells := 0, slots := 0, locals := 26 } : Room).cells ({ frames := 2, cells := 0, slots := 0, locals := 26 } : Room).slots) := by
  obtain ⟨he, hf, hs, hsf, hdf, hDb⟩ := mv
  have hni1 := dv_noNaN hv
  have hc4 : infF v = (0 : Int32) := infF_fin hv.1
  obtain ⟨k1, k2, k3, k4⟩ := mv_sum hU he hv hs hsf hdf hn hnF
  by_cases c0 : (D + (n - F)).natAbs * 2 ^ (U - e - 2045) < 2 ^ 53
  · have d := k3 c0
    exact (rm3_C0 l Z a0 hw ws ob v f sc sf df nf ct h0 n0 Z0 g_ob M hni1 hc4 hc26 k1 k2 (dv_noNaN d) (dv_noNaN d) (infF_fin d.1)).mono (fun _ _ h => h) (fun _ _ _ _ _ h => h) (fun _ _ _ _ _ ⟨v_, L_, q1, q2, q3⟩ => ⟨v_, L_, q1, ⟨e, _, _, _, _, ⟨he, hf, hs, hsf, d, c0⟩, q2⟩, q3⟩)
  have hU3 : U = 2074 := by
    rcases hU2 with h | h
    · exact h
    · exfalso
      rw [show U - e - 2045 = 0 by omega] at c0
      omega
  obtain ⟨s1, i1⟩ := k4 (big_of hU3 he c0)
  have he1 : e ≤ 1 := by
    by_cases h : e = 2
    · exfalso
      rw [h, hU3] at c0
      omega
    · omega
  obtain ⟨a1, a2, a3, a4⟩ := mv_half hU3 he1 hF hf hs hdf hDb
  obtain ⟨j1, j2, j3, j4⟩ := mv_sum hU (by omega) hv a1 a2 a3 hn hnF
  have n1 := noNaN_inf i1
  have o1 : ¬ infF (sumF v sc sf df) = (0 : Int32) := by rw [infF_inf i1]; decide
  by_cases c1 : (D + (n - F)).natAbs * 2 ^ (U - (e + 1) - 2045) < 2 ^ 53
  · have d := j3 c1
    exact (rm3_C1 l Z a0 hw ws ob v f sc sf df nf ct h0 n0 Z0 g_ob M hni1 hc4 hc26 k1 k2 n1 n1 o1 (dv_noNaN a1) (dv_noNaN a2) (dv_noNaN a3) j1 j2 (dv_noNaN d) (dv_noNaN d) (infF_fin d.1)).mono (fun _ _ h => h) (fun _ _ _ _ _ h => h) (fun _ _ _ _ _ ⟨v_, L_, q1, q2, q3⟩ => ⟨v_, L_, q1, ⟨e + 1, _, _, _, _, ⟨by omega, hf, a1, a2, d, c1⟩, q2⟩, q3⟩)
  have he0 : e = 0 := by
    by_cases h : e = 1
    · exfalso
      rw [h, hU3] at c1
      omega
    · omega
  subst he0
  obtain ⟨s2, i2⟩ := j4 (big_of hU3 (by omega) c1)
  obtain ⟨b1, b2, b3, b4⟩ := mv_half hU3 (by omega) hF hf a1 a3 a4
  obtain ⟨u1, u2, u3, u4⟩ := mv_sum hU (by omega) hv b1 b2 b3 hn hnF
  have n2 := noNaN_inf i2
  have o2 : ¬ infF (sumF v (hvF sc) (FP.dmul f (hvF sc)) (hvF df)) = (0 : Int32) := by rw [infF_inf i2]; decide
  have c2 : (D + (n - F)).natAbs * 2 ^ (U - (0 + 1 + 1) - 2045) < 2 ^ 53 := by rw [hU3]; omega
  have d := u3 c2
  exact (rm3_C2 l Z a0 hw ws ob v f sc sf df nf ct h0 n0 Z0 g_ob M hni1 hc4 hc26 k1 k2 n1 n1 o1 (dv_noNaN a1) (dv_noNaN a2) (dv_noNaN a3) j1 j2 n2 n2 o2 (dv_noNaN b1) (dv_noNaN b2) (dv_noNaN b3) u1 u2 (dv_noNaN d) (dv_noNaN d) (infF_fin d.1)).mono (fun _ _ h => h) (fun _ _ _ _ _ h => h) (fun _ _ _ _ _ ⟨v_, L_, q1, q2, q3⟩ => ⟨v_, L_, q1, ⟨0 + 1 + 1, _, _, _, _, ⟨by omega, hf, b1, b2, d, c2⟩, q2⟩, q3⟩)
set_option maxRecDepth 65536 in
set_option maxHeartbeats 40000000 in
theorem rm3_one (l : Launch) (Z : State) (a0 : Array Value) (hw : ∀ d ∈ tables_1, d.before a0 Z = true) (ws : List Jvm.Cond) (ob : Addr) (v : UInt64) (nf : UInt64) (U : Nat) (n : Int) (h0 : Heap) (n0 : Nat) (Z0 : n0 ≤ h0.size) (g_ob : n0 ≤ ob) (M : MSt Z h0 ob 0 FP.dconst1 0 0 nf 0) (hU : 74 ≤ U ∧ U ≤ 2074) (hv : DV n U v) (hn : n.natAbs ≤ 8388608)  :
    MetFree l (⟨"com/example/retiremetric/retiremetric/engine/Mean", "add", "(D)V"⟩ : MethodName) (head1 (Jvm.Cond.code (⟨"com/example/retiremetric/retiremetric/engine/Mean", "add", "(D)V"⟩ : MethodName) prog_16_method_3_code 5 none :: ws) ({ frames := 2, cells := 0, slots := 0, locals := 26 } : Room)) (fun aa_ U_ => aa_ = #[(.ref ob), (.double v)] ∧ Z.Warmed39 U_.vm ∧ U_.heap = h0) (fun _ _ _ _ _ => True) (fun _ U_ o_ V_ => ∃ v_ L_, o_ = .returned v_ ∧ Q3u Z ob U n 0 nf (0 + (1 : Int64)) h0 n0 v_ V_.heap L_ ∧ FrameEnd U_ o_ V_ L_ ({ frames := 2, cells := 0, slots := 0, locals := 26 } : Room).cells ({ frames := 2, cells := 0, slots := 0, locals := 26 } : Room).slots) := by
  obtain ⟨k1, k2, k3, k4⟩ := mv_sum (e := 0) (F := n) (D := 0) (sf := v) (df := 0) hU (by omega) hv one_dv hv (zero_dv _) hn (by omega)
  have c0 : ((0 : Int) + (n - n)).natAbs * 2 ^ (U - 0 - 2045) < 2 ^ 53 := by simp
  have d := k3 c0
  have d' : DV 0 (U - 0) (sumF v FP.dconst1 v 0) := by
    have q := d
    rw [Int.sub_self, Int.add_zero] at q
    exact q
  exact (rm3_Z l Z a0 hw ws ob v 0 FP.dconst1 0 0 nf 0 h0 n0 Z0 g_ob M (dv_noNaN hv) (infF_fin hv.1) ((lw_eq _ _).mpr rfl) k1 k2 (dv_noNaN d) (dv_noNaN d) (infF_fin d.1)).mono (fun _ _ h => h) (fun _ _ _ _ _ h => h) (fun _ _ _ _ _ ⟨v_, L_, q1, q2, q3⟩ => ⟨v_, L_, q1, ⟨0, _, _, _, _, ⟨by omega, hv, one_dv, hv, d', by simp⟩, q2⟩, q3⟩)
end FinM
def kF (sel : Int32) : Int32 := (sel &&& (3 : Int32)) + (1 : Int32)
def psF (sel : Int32) : Int32 := ((sel.toUInt32 >>> ((2 : Int32) &&& 31).toUInt32).toInt32) &&& (3 : Int32)
def pF (sel : Int32) : UInt64 := if psF sel = (1 : Int32) then (9110782046170513408 : UInt64) else if psF sel = (2 : Int32) then (103582791429521408 : UInt64) else FP.dconst1
def nF (x : Int32) : Int32 := (x <<< ((8 : Int32) &&& 31)) >>> ((8 : Int32) &&& 31)
def nkF (sel x y : Int32) : Int32 := if kF sel = (3 : Int32) then nF x else nF y
def moF (nfl : Int32) : Int32 := nfl &&& (3 : Int32)
def wF (nfl : Int32) : Int32 := if moF nfl = (1 : Int32) then 1 else if moF nfl = (2 : Int32) then 1 else 0
def ffF (nfl : Int32) : Int32 := if (nfl &&& (4 : Int32)) = (0 : Int32) then 0 else 1
def iV (nfl : Int32) : UInt64 := if moF nfl = (1 : Int32) then (9218868437227405312 : UInt64) else (18442240474082181120 : UInt64)
set_option maxRecDepth 65536 in
set_option maxHeartbeats 40000000 in
theorem sg1a {p : Program} {l : Launch} {e : Env} {R : Room} {s : State} {m : MethodId} {args : Array Value} {below : List Frame} {meth : Method} {c : Code} {T0 : State} {locs : List Loc} {cells slots : Nat} {Z : State} {a0 : Array Value} (q1 q2 q3 q4 sel nfl : Int32) (X0 : Stand p l e R s m args below meth c T0 locs cells slots) (hx : p.tables.exec = Jvm.exec) (hZ : Z.Warmed39 s.vm) (hw : ∀ d ∈ tables_1, d.before a0 Z = true) (hby : c.code = code) (hown : s.vm.findClass "com/example/retiremetric/retiremetric/engine/MeanMeanPinLaw" = some m.cls) (hc19 : (psF sel) = (1 : Int32)) {target : State}
    (kt : Steps p.tables e below (T0.setTop (mkF m 43 #[.val (.int q1), .val (.int q2), .val (.int q3), .val (.int q4), .val (.int sel), .val (.int nfl), .val (.int (kF sel)), .val (.int (psF sel)), .val (.double (9110782046170513408 : UInt64)), .second, .unset, .unset, .unset, .unset, .unset, .unset, .unset, .unset, .unset, .unset, .unset, .unset, .unset, .unset, .unset, .unset] [])) target) : Steps p.tables e below (T0.setTop (mkF m 0 #[.val (.int q1), .val (.int q2), .val (.int q3), .val (.int q4), .val (.int sel), .val (.int nfl), .unset, .unset, .unset, .unset, .unset, .unset, .unset, .unset, .unset, .unset, .unset, .unset, .unset, .unset, .unset, .unset, .unset, .unset, .unset, .unset] [])) target := by
  show Steps p.tables e below (T0.setTop (mkF m 0 #[.val (.int q1), .val (.int q2), .val (.int q3), .val (.int q4), .val (.int sel), .val (.int nfl), .unset, .unset, .unset, .unset, .unset, .unset, .unset, .unset, .unset, .unset, .unset, .unset, .unset, .unset, .unset, .unset, .unset, .unset, .unset, .unset] [])) _
  refine XS.iload X0.here hx rfl (hb hby at_0) rfl ?_
  refine XS.iconst X0.here hx rfl (hb hby at_2) ?_
  refine XS.iand X0.here hx rfl (hb hby at_3) rfl ?_
  refine XS.iconst X0.here hx rfl (hb hby at_4) ?_
  show Steps p.tables e below (T0.setTop (mkF m 5 #[.val (.int q1), .val (.int q2), .val (.int q3), .val (.int q4), .val (.int sel), .val (.int nfl), .unset, .unset, .unset, .unset, .unset, .unset, .unset, .unset, .unset, .unset, .unset, .unset, .unset, .unset, .unset, .unset, .unset, .unset, .unset, .unset] [(.int (1 : Int32)), (.int (sel &&& (3 : Int32)))])) _
  refine XS.iadd X0.here hx rfl (hb hby at_5) rfl ?_
  show Steps p.tables e below (T0.setTop (mkF m 6 #[.val (.int q1), .val (.int q2), .val (.int q3), .val (.int q4), .val (.int sel), .val (.int nfl), .unset, .unset, .unset, .unset, .unset, .unset, .unset, .unset, .unset, .unset, .unset, .unset, .unset, .unset, .unset, .unset, .unset, .unset, .unset, .unset] [(.int (kF sel))])) _
  refine XS.istore X0.here hx rfl (hb hby at_6) rfl (l' := #[.val (.int q1), .val (.int q2), .val (.int q3), .val (.int q4), .val (.int sel), .val (.int nfl), .val (.int (kF sel)), .unset, .unset, .unset, .unset, .unset, .unset, .unset, .unset, .unset, .unset, .unset, .unset, .unset, .unset, .unset, .unset, .unset, .unset, .unset]) rfl ?_
  refine XS.iload X0.here hx rfl (hb hby at_8) rfl ?_
  refine XS.iconst X0.here hx rfl (hb hby at_10) ?_
  refine XS.iushr X0.here hx rfl (hb hby at_11) rfl ?_
  show Steps p.tables e below (T0.setTop (mkF m 12 #[.val (.int q1), .val (.int q2), .val (.int q3), .val (.int q4), .val (.int sel), .val (.int nfl), .val (.int (kF sel)), .unset, .unset, .unset, .unset, .unset, .unset, .unset, .unset, .unset, .unset, .unset, .unset, .unset, .unset, .unset, .unset, .unset, .unset, .unset] [(.int ((sel.toUInt32 >>> ((2 : Int32) &&& 31).toUInt32).toInt32))])) _
  refine XS.iconst X0.here hx rfl (hb hby at_12) ?_
  refine XS.iand X0.here hx rfl (hb hby at_13) rfl ?_
  show Steps p.tables e below (T0.setTop (mkF m 14 #[.val (.int q1), .val (.int q2), .val (.int q3), .val (.int q4), .val (.int sel), .val (.int nfl), .val (.int (kF sel)), .unset, .unset, .unset, .unset, .unset, .unset, .unset, .unset, .unset, .unset, .unset, .unset, .unset, .unset, .unset, .unset, .unset, .unset, .unset] [(.int (psF sel))])) _
  refine XS.istore X0.here hx rfl (hb hby at_14) rfl (l' := #[.val (.int q1), .val (.int q2), .val (.int q3), .val (.int q4), .val (.int sel), .val (.int nfl), .val (.int (kF sel)), .val (.int (psF sel)), .unset, .unset, .unset, .unset, .unset, .unset, .unset, .unset, .unset, .unset, .unset, .unset, .unset, .unset, .unset, .unset, .unset, .unset]) rfl ?_
  refine XS.iload X0.here hx rfl (hb hby at_16) rfl ?_
  refine XS.iconst X0.here hx rfl (hb hby at_18) ?_
  refine XS.icmpNo X0.here hx rfl (hb hby at_19) rfl (teq hc19).2 ?_
  show Steps p.tables e below (T0.setTop (mkF m 22 #[.val (.int q1), .val (.int q2), .val (.int q3), .val (.int q4), .val (.int sel), .val (.int nfl), .val (.int (kF sel)), .val (.int (psF sel)), .unset, .unset, .unset, .unset, .unset, .unset, .unset, .unset, .unset, .unset, .unset, .unset, .unset, .unset, .unset, .unset, .unset, .unset] [])) _
  refine X0.ldc2DoubleC hx hown (mvT hZ (hw _ (List.mem_of_getElem? (i := 43) rfl))) (g := (mkF m 22 #[.val (.int q1), .val (.int q2), .val (.int q3), .val (.int q4), .val (.int sel), .val (.int nfl), .val (.int (kF sel)), .val (.int (psF sel)), .unset, .unset, .unset, .unset, .unset, .unset, .unset, .unset, .unset, .unset, .unset, .unset, .unset, .unset, .unset, .unset, .unset, .unset] [])) rfl (hb hby at_22) _ ?_
  refine XS.goto X0.here hx rfl (pc0 := 25) (pc' := 41) rfl (hb hby at_25) (by decide) (by decide) ?_
  refine XS.dstore X0.here hx rfl (hb hby at_41) rfl (l' := #[.val (.int q1), .val (.int q2), .val (.int q3), .val (.int q4), .val (.int sel), .val (.int nfl), .val (.int (kF sel)), .val (.int (psF sel)), .val (.double (9110782046170513408 : UInt64)), .second, .unset, .unset, .unset, .unset, .unset, .unset, .unset, .unset, .unset, .unset, .unset, .unset, .unset, .unset, .unset, .unset]) rfl ?_
  exact kt
set_option maxRecDepth 65536 in
set_option maxHeartbeats 40000000 in
theorem sg1b {p : Program} {l : Launch} {e : Env} {R : Room} {s : State} {m : MethodId} {args : Array Value} {below : List Frame} {meth : Method} {c : Code} {T0 : State} {locs : List Loc} {cells slots : Nat} {Z : State} {a0 : Array Value} (q1 q2 q3 q4 sel nfl : Int32) (X0 : Stand p l e R s m args below meth c T0 locs cells slots) (hx : p.tables.exec = Jvm.exec) (hZ : Z.Warmed39 s.vm) (hw : ∀ d ∈ tables_1, d.before a0 Z = true) (hby : c.code = code) (hown : s.vm.findClass "com/example/retiremetric/retiremetric/engine/MeanMeanPinLaw" = some m.cls) (hc19 : ¬ ((psF sel) = (1 : Int32))) (hc31 : (psF sel) = (2 : Int32)) {target : State}
    (kt : Steps p.tables e below (T0.setTop (mkF m 43 #[.val (.int q1), .val (.int q2), .val (.int q3), .val (.int q4), .val (.int sel), .val (.int nfl), .val (.int (kF sel)), .val (.int (psF sel)), .val (.double (103582791429521408 : UInt64)), .second, .unset, .unset, .unset, .unset, .unset, .unset, .unset, .unset, .unset, .unset, .unset, .unset, .unset, .unset, .unset, .unset] [])) target) : Steps p.tables e below (T0.setTop (mkF m 0 #[.val (.int q1), .val (.int q2), .val (.int q3), .val (.int q4), .val (.int sel), .val (.int nfl), .unset, .unset, .unset, .unset, .unset, .unset, .unset, .unset, .unset, .unset, .unset, .unset, .unset, .unset, .unset, .unset, .unset, .unset, .unset, .unset] [])) target := by
  show Steps p.tables e below (T0.setTop (mkF m 0 #[.val (.int q1), .val (.int q2), .val (.int q3), .val (.int q4), .val (.int sel), .val (.int nfl), .unset, .unset, .unset, .unset, .unset, .unset, .unset, .unset, .unset, .unset, .unset, .unset, .unset, .unset, .unset, .unset, .unset, .unset, .unset, .unset] [])) _
  refine XS.iload X0.here hx rfl (hb hby at_0) rfl ?_
  refine XS.iconst X0.here hx rfl (hb hby at_2) ?_
  refine XS.iand X0.here hx rfl (hb hby at_3) rfl ?_
  refine XS.iconst X0.here hx rfl (hb hby at_4) ?_
  show Steps p.tables e below (T0.setTop (mkF m 5 #[.val (.int q1), .val (.int q2), .val (.int q3), .val (.int q4), .val (.int sel), .val (.int nfl), .unset, .unset, .unset, .unset, .unset, .unset, .unset, .unset, .unset, .unset, .unset, .unset, .unset, .unset, .unset, .unset, .unset, .unset, .unset, .unset] [(.int (1 : Int32)), (.int (sel &&& (3 : Int32)))])) _
  refine XS.iadd X0.here hx rfl (hb hby at_5) rfl ?_
  show Steps p.tables e below (T0.setTop (mkF m 6 #[.val (.int q1), .val (.int q2), .val (.int q3), .val (.int q4), .val (.int sel), .val (.int nfl), .unset, .unset, .unset, .unset, .unset, .unset, .unset, .unset, .unset, .unset, .unset, .unset, .unset, .unset, .unset, .unset, .unset, .unset, .unset, .unset] [(.int (kF sel))])) _
  refine XS.istore X0.here hx rfl (hb hby at_6) rfl (l' := #[.val (.int q1), .val (.int q2), .val (.int q3), .val (.int q4), .val (.int sel), .val (.int nfl), .val (.int (kF sel)), .unset, .unset, .unset, .unset, .unset, .unset, .unset, .unset, .unset, .unset, .unset, .unset, .unset, .unset, .unset, .unset, .unset, .unset, .unset]) rfl ?_
  refine XS.iload X0.here hx rfl (hb hby at_8) rfl ?_
  refine XS.iconst X0.here hx rfl (hb hby at_10) ?_
  refine XS.iushr X0.here hx rfl (hb hby at_11) rfl ?_
  show Steps p.tables e below (T0.setTop (mkF m 12 #[.val (.int q1), .val (.int q2), .val (.int q3), .val (.int q4), .val (.int sel), .val (.int nfl), .val (.int (kF sel)), .unset, .unset, .unset, .unset, .unset, .unset, .unset, .unset, .unset, .unset, .unset, .unset, .unset, .unset, .unset, .unset, .unset, .unset, .unset] [(.int ((sel.toUInt32 >>> ((2 : Int32) &&& 31).toUInt32).toInt32))])) _
  refine XS.iconst X0.here hx rfl (hb hby at_12) ?_
  refine XS.iand X0.here hx rfl (hb hby at_13) rfl ?_
  show Steps p.tables e below (T0.setTop (mkF m 14 #[.val (.int q1), .val (.int q2), .val (.int q3), .val (.int q4), .val (.int sel), .val (.int nfl), .val (.int (kF sel)), .unset, .unset, .unset, .unset, .unset, .unset, .unset, .unset, .unset, .unset, .unset, .unset, .unset, .unset, .unset, .unset, .unset, .unset, .unset] [(.int (psF sel))])) _
  refine XS.istore X0.here hx rfl (hb hby at_14) rfl (l' := #[.val (.int q1), .val (.int q2), .val (.int q3), .val (.int q4), .val (.int sel), .val (.int nfl), .val (.int (kF sel)), .val (.int (psF sel)), .unset, .unset, .unset, .unset, .unset, .unset, .unset, .unset, .unset, .unset, .unset, .unset, .unset, .unset, .unset, .unset, .unset, .unset]) rfl ?_
  refine XS.iload X0.here hx rfl (hb hby at_16) rfl ?_
  refine XS.iconst X0.here hx rfl (hb hby at_18) ?_
  refine XS.icmpYes X0.here hx rfl (pc0 := 19) (pc' := 28) rfl (hb hby at_19) rfl (feq hc19).2 (by decide) (by decide) ?_
  show Steps p.tables e below (T0.setTop (mkF m 28 #[.val (.int q1), .val (.int q2), .val (.int q3), .val (.int q4), .val (.int sel), .val (.int nfl), .val (.int (kF sel)), .val (.int (psF sel)), .unset, .unset, .unset, .unset, .unset, .unset, .unset, .unset, .unset, .unset, .unset, .unset, .unset, .unset, .unset, .unset, .unset, .unset] [])) _
  refine XS.iload X0.here hx rfl (hb hby at_28) rfl ?_
  refine XS.iconst X0.here hx rfl (hb hby at_30) ?_
  refine XS.icmpNo X0.here hx rfl (hb hby at_31) rfl (teq hc31).2 ?_
  refine X0.ldc2DoubleC hx hown (mvT hZ (hw _ (List.mem_of_getElem? (i := 41) rfl))) (g := (mkF m 34 #[.val (.int q1), .val (.int q2), .val (.int q3), .val (.int q4), .val (.int sel), .val (.int nfl), .val (.int (kF sel)), .val (.int (psF sel)), .unset, .unset, .unset, .unset, .unset, .unset, .unset, .unset, .unset, .unset, .unset, .unset, .unset, .unset, .unset, .unset, .unset, .unset] [])) rfl (hb hby at_34) _ ?_
  show Steps p.tables e below (T0.setTop (mkF m 37 #[.val (.int q1), .val (.int q2), .val (.int q3), .val (.int q4), .val (.int sel), .val (.int nfl), .val (.int (kF sel)), .val (.int (psF sel)), .unset, .unset, .unset, .unset, .unset, .unset, .unset, .unset, .unset, .unset, .unset, .unset, .unset, .unset, .unset, .unset, .unset, .unset] [(.double (103582791429521408 : UInt64))])) _
  refine XS.goto X0.here hx rfl (pc0 := 37) (pc' := 41) rfl (hb hby at_37) (by decide) (by decide) ?_
  refine XS.dstore X0.here hx rfl (hb hby at_41) rfl (l' := #[.val (.int q1), .val (.int q2), .val (.int q3), .val (.int q4), .val (.int sel), .val (.int nfl), .val (.int (kF sel)), .val (.int (psF sel)), .val (.double (103582791429521408 : UInt64)), .second, .unset, .unset, .unset, .unset, .unset, .unset, .unset, .unset, .unset, .unset, .unset, .unset, .unset, .unset, .unset, .unset]) rfl ?_
  exact kt
set_option maxRecDepth 65536 in
set_option maxHeartbeats 40000000 in
theorem sg1c {p : Program} {l : Launch} {e : Env} {R : Room} {s : State} {m : MethodId} {args : Array Value} {below : List Frame} {meth : Method} {c : Code} {T0 : State} {locs : List Loc} {cells slots : Nat} {Z : State} {a0 : Array Value} (q1 q2 q3 q4 sel nfl : Int32) (X0 : Stand p l e R s m args below meth c T0 locs cells slots) (hx : p.tables.exec = Jvm.exec) (hZ : Z.Warmed39 s.vm) (hw : ∀ d ∈ tables_1, d.before a0 Z = true) (hby : c.code = code) (hown : s.vm.findClass "com/example/retiremetric/retiremetric/engine/MeanMeanPinLaw" = some m.cls) (hc19 : ¬ ((psF sel) = (1 : Int32))) (hc31 : ¬ ((psF sel) = (2 : Int32))) {target : State}
    (kt : Steps p.tables e below (T0.setTop (mkF m 43 #[.val (.int q1), .val (.int q2), .val (.int q3), .val (.int q4), .val (.int sel), .val (.int nfl), .val (.int (kF sel)), .val (.int (psF sel)), .val (.double FP.dconst1), .second, .unset, .unset, .unset, .unset, .unset, .unset, .unset, .unset, .unset, .unset, .unset, .unset, .unset, .unset, .unset, .unset] [])) target) : Steps p.tables e below (T0.setTop (mkF m 0 #[.val (.int q1), .val (.int q2), .val (.int q3), .val (.int q4), .val (.int sel), .val (.int nfl), .unset, .unset, .unset, .unset, .unset, .unset, .unset, .unset, .unset, .unset, .unset, .unset, .unset, .unset, .unset, .unset, .unset, .unset, .unset, .unset] [])) target := by
  show Steps p.tables e below (T0.setTop (mkF m 0 #[.val (.int q1), .val (.int q2), .val (.int q3), .val (.int q4), .val (.int sel), .val (.int nfl), .unset, .unset, .unset, .unset, .unset, .unset, .unset, .unset, .unset, .unset, .unset, .unset, .unset, .unset, .unset, .unset, .unset, .unset, .unset, .unset] [])) _
  refine XS.iload X0.here hx rfl (hb hby at_0) rfl ?_
  refine XS.iconst X0.here hx rfl (hb hby at_2) ?_
  refine XS.iand X0.here hx rfl (hb hby at_3) rfl ?_
  refine XS.iconst X0.here hx rfl (hb hby at_4) ?_
  show Steps p.tables e below (T0.setTop (mkF m 5 #[.val (.int q1), .val (.int q2), .val (.int q3), .val (.int q4), .val (.int sel), .val (.int nfl), .unset, .unset, .unset, .unset, .unset, .unset, .unset, .unset, .unset, .unset, .unset, .unset, .unset, .unset, .unset, .unset, .unset, .unset, .unset, .unset] [(.int (1 : Int32)), (.int (sel &&& (3 : Int32)))])) _
  refine XS.iadd X0.here hx rfl (hb hby at_5) rfl ?_
  show Steps p.tables e below (T0.setTop (mkF m 6 #[.val (.int q1), .val (.int q2), .val (.int q3), .val (.int q4), .val (.int sel), .val (.int nfl), .unset, .unset, .unset, .unset, .unset, .unset, .unset, .unset, .unset, .unset, .unset, .unset, .unset, .unset, .unset, .unset, .unset, .unset, .unset, .unset] [(.int (kF sel))])) _
  refine XS.istore X0.here hx rfl (hb hby at_6) rfl (l' := #[.val (.int q1), .val (.int q2), .val (.int q3), .val (.int q4), .val (.int sel), .val (.int nfl), .val (.int (kF sel)), .unset, .unset, .unset, .unset, .unset, .unset, .unset, .unset, .unset, .unset, .unset, .unset, .unset, .unset, .unset, .unset, .unset, .unset, .unset]) rfl ?_
  refine XS.iload X0.here hx rfl (hb hby at_8) rfl ?_
  refine XS.iconst X0.here hx rfl (hb hby at_10) ?_
  refine XS.iushr X0.here hx rfl (hb hby at_11) rfl ?_
  show Steps p.tables e below (T0.setTop (mkF m 12 #[.val (.int q1), .val (.int q2), .val (.int q3), .val (.int q4), .val (.int sel), .val (.int nfl), .val (.int (kF sel)), .unset, .unset, .unset, .unset, .unset, .unset, .unset, .unset, .unset, .unset, .unset, .unset, .unset, .unset, .unset, .unset, .unset, .unset, .unset] [(.int ((sel.toUInt32 >>> ((2 : Int32) &&& 31).toUInt32).toInt32))])) _
  refine XS.iconst X0.here hx rfl (hb hby at_12) ?_
  refine XS.iand X0.here hx rfl (hb hby at_13) rfl ?_
  show Steps p.tables e below (T0.setTop (mkF m 14 #[.val (.int q1), .val (.int q2), .val (.int q3), .val (.int q4), .val (.int sel), .val (.int nfl), .val (.int (kF sel)), .unset, .unset, .unset, .unset, .unset, .unset, .unset, .unset, .unset, .unset, .unset, .unset, .unset, .unset, .unset, .unset, .unset, .unset, .unset] [(.int (psF sel))])) _
  refine XS.istore X0.here hx rfl (hb hby at_14) rfl (l' := #[.val (.int q1), .val (.int q2), .val (.int q3), .val (.int q4), .val (.int sel), .val (.int nfl), .val (.int (kF sel)), .val (.int (psF sel)), .unset, .unset, .unset, .unset, .unset, .unset, .unset, .unset, .unset, .unset, .unset, .unset, .unset, .unset, .unset, .unset, .unset, .unset]) rfl ?_
  refine XS.iload X0.here hx rfl (hb hby at_16) rfl ?_
  refine XS.iconst X0.here hx rfl (hb hby at_18) ?_
  refine XS.icmpYes X0.here hx rfl (pc0 := 19) (pc' := 28) rfl (hb hby at_19) rfl (feq hc19).2 (by decide) (by decide) ?_
  show Steps p.tables e below (T0.setTop (mkF m 28 #[.val (.int q1), .val (.int q2), .val (.int q3), .val (.int q4), .val (.int sel), .val (.int nfl), .val (.int (kF sel)), .val (.int (psF sel)), .unset, .unset, .unset, .unset, .unset, .unset, .unset, .unset, .unset, .unset, .unset, .unset, .unset, .unset, .unset, .unset, .unset, .unset] [])) _
  refine XS.iload X0.here hx rfl (hb hby at_28) rfl ?_
  refine XS.iconst X0.here hx rfl (hb hby at_30) ?_
  refine XS.icmpYes X0.here hx rfl (pc0 := 31) (pc' := 40) rfl (hb hby at_31) rfl (feq hc31).2 (by decide) (by decide) ?_
  refine XS.dconst1 X0.here hx rfl (hb hby at_40) rfl ?_
  show Steps p.tables e below (T0.setTop (mkF m 41 #[.val (.int q1), .val (.int q2), .val (.int q3), .val (.int q4), .val (.int sel), .val (.int nfl), .val (.int (kF sel)), .val (.int (psF sel)), .unset, .unset, .unset, .unset, .unset, .unset, .unset, .unset, .unset, .unset, .unset, .unset, .unset, .unset, .unset, .unset, .unset, .unset] [(.double FP.dconst1)])) _
  refine XS.dstore X0.here hx rfl (hb hby at_41) rfl (l' := #[.val (.int q1), .val (.int q2), .val (.int q3), .val (.int q4), .val (.int sel), .val (.int nfl), .val (.int (kF sel)), .val (.int (psF sel)), .val (.double FP.dconst1), .second, .unset, .unset, .unset, .unset, .unset, .unset, .unset, .unset, .unset, .unset, .unset, .unset, .unset, .unset, .unset, .unset]) rfl ?_
  exact kt
set_option maxRecDepth 65536 in
set_option maxHeartbeats 40000000 in
theorem sg1 {p : Program} {l : Launch} {e : Env} {R : Room} {s : State} {m : MethodId} {args : Array Value} {below : List Frame} {meth : Method} {c : Code} {T0 : State} {locs : List Loc} {cells slots : Nat} {Z : State} {a0 : Array Value} (q1 q2 q3 q4 sel nfl : Int32) (X0 : Stand p l e R s m args below meth c T0 locs cells slots) (hx : p.tables.exec = Jvm.exec) (hZ : Z.Warmed39 s.vm) (hw : ∀ d ∈ tables_1, d.before a0 Z = true) (hby : c.code = code) (hown : s.vm.findClass "com/example/retiremetric/retiremetric/engine/MeanMeanPinLaw" = some m.cls) {target : State}
    (kt : Steps p.tables e below (T0.setTop (mkF m 43 #[.val (.int q1), .val (.int q2), .val (.int q3), .val (.int q4), .val (.int sel), .val (.int nfl), .val (.int (kF sel)), .val (.int (psF sel)), .val (.double (pF sel)), .second, .unset, .unset, .unset, .unset, .unset, .unset, .unset, .unset, .unset, .unset, .unset, .unset, .unset, .unset, .unset, .unset] [])) target) : Steps p.tables e below (T0.setTop (mkF m 0 #[.val (.int q1), .val (.int q2), .val (.int q3), .val (.int q4), .val (.int sel), .val (.int nfl), .unset, .unset, .unset, .unset, .unset, .unset, .unset, .unset, .unset, .unset, .unset, .unset, .unset, .unset, .unset, .unset, .unset, .unset, .unset, .unset] [])) target := by
  by_cases h1 : psF sel = (1 : Int32)
  · rw [show pF sel = (9110782046170513408 : UInt64) by rw [pF, if_pos h1]] at kt; exact sg1a q1 q2 q3 q4 sel nfl X0 hx hZ hw hby hown h1 kt
  · by_cases h2 : psF sel = (2 : Int32)
    · rw [show pF sel = (103582791429521408 : UInt64) by rw [pF, if_neg h1, if_pos h2]] at kt; exact sg1b q1 q2 q3 q4 sel nfl X0 hx hZ hw hby hown h1 h2 kt
    · rw [show pF sel = FP.dconst1 by rw [pF, if_neg h1, if_neg h2]] at kt; exact sg1c q1 q2 q3 q4 sel nfl X0 hx hZ hw hby hown h1 h2 kt
set_option maxRecDepth 65536 in
set_option maxHeartbeats 40000000 in
theorem sg2a {p : Program} {l : Launch} {e : Env} {R : Room} {s : State} {m : MethodId} {args : Array Value} {below : List Frame} {meth : Method} {c : Code} {T0 : State} {locs : List Loc} {cells slots : Nat} {Z : State} {a0 : Array Value} (q1 q2 q3 q4 sel nfl : Int32) (X0 : Stand p l e R s m args below meth c T0 locs cells slots) (hx : p.tables.exec = Jvm.exec) (hZ : Z.Warmed39 s.vm) (hw : ∀ d ∈ tables_1, d.before a0 Z = true) (hby : c.code = code) (hown : s.vm.findClass "com/example/retiremetric/retiremetric/engine/MeanMeanPinLaw" = some m.cls) (hc55 : (kF sel) = (3 : Int32)) {target : State}
    (kt : Steps p.tables e below (T0.setTop (mkF m 72 #[.val (.int q1), .val (.int q2), .val (.int q3), .val (.int q4), .val (.int sel), .val (.int nfl), .val (.int (kF sel)), .val (.int (psF sel)), .val (.double (pF sel)), .second, .val (.int (nF q1)), .val (.int (nF q1)), .unset, .unset, .unset, .unset, .unset, .unset, .unset, .unset, .unset, .unset, .unset, .unset, .unset, .unset] [])) target) : Steps p.tables e below (T0.setTop (mkF m 43 #[.val (.int q1), .val (.int q2), .val (.int q3), .val (.int q4), .val (.int sel), .val (.int nfl), .val (.int (kF sel)), .val (.int (psF sel)), .val (.double (pF sel)), .second, .unset, .unset, .unset, .unset, .unset, .unset, .unset, .unset, .unset, .unset, .unset, .unset, .unset, .unset, .unset, .unset] [])) target := by
  show Steps p.tables e below (T0.setTop (mkF m 43 #[.val (.int q1), .val (.int q2), .val (.int q3), .val (.int q4), .val (.int sel), .val (.int nfl), .val (.int (kF sel)), .val (.int (psF sel)), .val (.double (pF sel)), .second, .unset, .unset, .unset, .unset, .unset, .unset, .unset, .unset, .unset, .unset, .unset, .unset, .unset, .unset, .unset, .unset] [])) _
  refine XS.iloadN X0.here hx rfl (hb hby at_43) rfl ?_
  refine XS.bipush X0.here hx rfl (hb hby at_44) ?_
  refine XS.ishl X0.here hx rfl (hb hby at_46) rfl ?_
  refine XS.bipush X0.here hx rfl (hb hby at_47) ?_
  show Steps p.tables e below (T0.setTop (mkF m 49 #[.val (.int q1), .val (.int q2), .val (.int q3), .val (.int q4), .val (.int sel), .val (.int nfl), .val (.int (kF sel)), .val (.int (psF sel)), .val (.double (pF sel)), .second, .unset, .unset, .unset, .unset, .unset, .unset, .unset, .unset, .unset, .unset, .unset, .unset, .unset, .unset, .unset, .unset] [(.int (8 : Int32)), (.int (q1 <<< ((8 : Int32) &&& 31)))])) _
  refine XS.ishr X0.here hx rfl (hb hby at_49) rfl ?_
  show Steps p.tables e below (T0.setTop (mkF m 50 #[.val (.int q1), .val (.int q2), .val (.int q3), .val (.int q4), .val (.int sel), .val (.int nfl), .val (.int (kF sel)), .val (.int (psF sel)), .val (.double (pF sel)), .second, .unset, .unset, .unset, .unset, .unset, .unset, .unset, .unset, .unset, .unset, .unset, .unset, .unset, .unset, .unset, .unset] [(.int (nF q1))])) _
  refine XS.istore X0.here hx rfl (hb hby at_50) rfl (l' := #[.val (.int q1), .val (.int q2), .val (.int q3), .val (.int q4), .val (.int sel), .val (.int nfl), .val (.int (kF sel)), .val (.int (psF sel)), .val (.double (pF sel)), .second, .val (.int (nF q1)), .unset, .unset, .unset, .unset, .unset, .unset, .unset, .unset, .unset, .unset, .unset, .unset, .unset, .unset, .unset]) rfl ?_
  refine XS.iload X0.here hx rfl (hb hby at_52) rfl ?_
  refine XS.iconst X0.here hx rfl (hb hby at_54) ?_
  refine XS.icmpNo X0.here hx rfl (hb hby at_55) rfl (teq hc55).2 ?_
  show Steps p.tables e below (T0.setTop (mkF m 58 #[.val (.int q1), .val (.int q2), .val (.int q3), .val (.int q4), .val (.int sel), .val (.int nfl), .val (.int (kF sel)), .val (.int (psF sel)), .val (.double (pF sel)), .second, .val (.int (nF q1)), .unset, .unset, .unset, .unset, .unset, .unset, .unset, .unset, .unset, .unset, .unset, .unset, .unset, .unset, .unset] [])) _
  refine XS.iload X0.here hx rfl (hb hby at_58) rfl ?_
  refine XS.goto X0.here hx rfl (pc0 := 60) (pc' := 70) rfl (hb hby at_60) (by decide) (by decide) ?_
  refine XS.istore X0.here hx rfl (hb hby at_70) rfl (l' := #[.val (.int q1), .val (.int q2), .val (.int q3), .val (.int q4), .val (.int sel), .val (.int nfl), .val (.int (kF sel)), .val (.int (psF sel)), .val (.double (pF sel)), .second, .val (.int (nF q1)), .val (.int (nF q1)), .unset, .unset, .unset, .unset, .unset, .unset, .unset, .unset, .unset, .unset, .unset, .unset, .unset, .unset]) rfl ?_
  exact kt
set_option maxRecDepth 65536 in
set_option maxHeartbeats 40000000 in
theorem sg2b {p : Program} {l : Launch} {e : Env} {R : Room} {s : State} {m : MethodId} {args : Array Value} {below : List Frame} {meth : Method} {c : Code} {T0 : State} {locs : List Loc} {cells slots : Nat} {Z : State} {a0 : Array Value} (q1 q2 q3 q4 sel nfl : Int32) (X0 : Stand p l e R s m args below meth c T0 locs cells slots) (hx : p.tables.exec = Jvm.exec) (hZ : Z.Warmed39 s.vm) (hw : ∀ d ∈ tables_1, d.before a0 Z = true) (hby : c.code = code) (hown : s.vm.findClass "com/example/retiremetric/retiremetric/engine/MeanMeanPinLaw" = some m.cls) (hc55 : ¬ ((kF sel) = (3 : Int32))) {target : State}
    (kt : Steps p.tables e below (T0.setTop (mkF m 72 #[.val (.int q1), .val (.int q2), .val (.int q3), .val (.int q4), .val (.int sel), .val (.int nfl), .val (.int (kF sel)), .val (.int (psF sel)), .val (.double (pF sel)), .second, .val (.int (nF q1)), .val (.int ((q2 <<< ((8 : Int32) &&& 31)) >>> ((8 : Int32) &&& 31))), .unset, .unset, .unset, .unset, .unset, .unset, .unset, .unset, .unset, .unset, .unset, .unset, .unset, .unset] [])) target) : Steps p.tables e below (T0.setTop (mkF m 43 #[.val (.int q1), .val (.int q2), .val (.int q3), .val (.int q4), .val (.int sel), .val (.int nfl), .val (.int (kF sel)), .val (.int (psF sel)), .val (.double (pF sel)), .second, .unset, .unset, .unset, .unset, .unset, .unset, .unset, .unset, .unset, .unset, .unset, .unset, .unset, .unset, .unset, .unset] [])) target := by
  show Steps p.tables e below (T0.setTop (mkF m 43 #[.val (.int q1), .val (.int q2), .val (.int q3), .val (.int q4), .val (.int sel), .val (.int nfl), .val (.int (kF sel)), .val (.int (psF sel)), .val (.double (pF sel)), .second, .unset, .unset, .unset, .unset, .unset, .unset, .unset, .unset, .unset, .unset, .unset, .unset, .unset, .unset, .unset, .unset] [])) _
  refine XS.iloadN X0.here hx rfl (hb hby at_43) rfl ?_
  refine XS.bipush X0.here hx rfl (hb hby at_44) ?_
  refine XS.ishl X0.here hx rfl (hb hby at_46) rfl ?_
  refine XS.bipush X0.here hx rfl (hb hby at_47) ?_
  show Steps p.tables e below (T0.setTop (mkF m 49 #[.val (.int q1), .val (.int q2), .val (.int q3), .val (.int q4), .val (.int sel), .val (.int nfl), .val (.int (kF sel)), .val (.int (psF sel)), .val (.double (pF sel)), .second, .unset, .unset, .unset, .unset, .unset, .unset, .unset, .unset, .unset, .unset, .unset, .unset, .unset, .unset, .unset, .unset] [(.int (8 : Int32)), (.int (q1 <<< ((8 : Int32) &&& 31)))])) _
  refine XS.ishr X0.here hx rfl (hb hby at_49) rfl ?_
  show Steps p.tables e below (T0.setTop (mkF m 50 #[.val (.int q1), .val (.int q2), .val (.int q3), .val (.int q4), .val (.int sel), .val (.int nfl), .val (.int (kF sel)), .val (.int (psF sel)), .val (.double (pF sel)), .second, .unset, .unset, .unset, .unset, .unset, .unset, .unset, .unset, .unset, .unset, .unset, .unset, .unset, .unset, .unset, .unset] [(.int (nF q1))])) _
  refine XS.istore X0.here hx rfl (hb hby at_50) rfl (l' := #[.val (.int q1), .val (.int q2), .val (.int q3), .val (.int q4), .val (.int sel), .val (.int nfl), .val (.int (kF sel)), .val (.int (psF sel)), .val (.double (pF sel)), .second, .val (.int (nF q1)), .unset, .unset, .unset, .unset, .unset, .unset, .unset, .unset, .unset, .unset, .unset, .unset, .unset, .unset, .unset]) rfl ?_
  refine XS.iload X0.here hx rfl (hb hby at_52) rfl ?_
  refine XS.iconst X0.here hx rfl (hb hby at_54) ?_
  refine XS.icmpYes X0.here hx rfl (pc0 := 55) (pc' := 63) rfl (hb hby at_55) rfl (feq hc55).2 (by decide) (by decide) ?_
  show Steps p.tables e below (T0.setTop (mkF m 63 #[.val (.int q1), .val (.int q2), .val (.int q3), .val (.int q4), .val (.int sel), .val (.int nfl), .val (.int (kF sel)), .val (.int (psF sel)), .val (.double (pF sel)), .second, .val (.int (nF q1)), .unset, .unset, .unset, .unset, .unset, .unset, .unset, .unset, .unset, .unset, .unset, .unset, .unset, .unset, .unset] [])) _
  refine XS.iloadN X0.here hx rfl (hb hby at_63) rfl ?_
  refine XS.bipush X0.here hx rfl (hb hby at_64) ?_
  refine XS.ishl X0.here hx rfl (hb hby at_66) rfl ?_
  refine XS.bipush X0.here hx rfl (hb hby at_67) ?_
  show Steps p.tables e below (T0.setTop (mkF m 69 #[.val (.int q1), .val (.int q2), .val (.int q3), .val (.int q4), .val (.int sel), .val (.int nfl), .val (.int (kF sel)), .val (.int (psF sel)), .val (.double (pF sel)), .second, .val (.int (nF q1)), .unset, .unset, .unset, .unset, .unset, .unset, .unset, .unset, .unset, .unset, .unset, .unset, .unset, .unset, .unset] [(.int (8 : Int32)), (.int (q2 <<< ((8 : Int32) &&& 31)))])) _
  refine XS.ishr X0.here hx rfl (hb hby at_69) rfl ?_
  refine XS.istore X0.here hx rfl (hb hby at_70) rfl (l' := #[.val (.int q1), .val (.int q2), .val (.int q3), .val (.int q4), .val (.int sel), .val (.int nfl), .val (.int (kF sel)), .val (.int (psF sel)), .val (.double (pF sel)), .second, .val (.int (nF q1)), .val (.int ((q2 <<< ((8 : Int32) &&& 31)) >>> ((8 : Int32) &&& 31))), .unset, .unset, .unset, .unset, .unset, .unset, .unset, .unset, .unset, .unset, .unset, .unset, .unset, .unset]) rfl ?_
  exact kt
set_option maxRecDepth 65536 in
set_option maxHeartbeats 40000000 in
theorem sg2 {p : Program} {l : Launch} {e : Env} {R : Room} {s : State} {m : MethodId} {args : Array Value} {below : List Frame} {meth : Method} {c : Code} {T0 : State} {locs : List Loc} {cells slots : Nat} {Z : State} {a0 : Array Value} (q1 q2 q3 q4 sel nfl : Int32) (X0 : Stand p l e R s m args below meth c T0 locs cells slots) (hx : p.tables.exec = Jvm.exec) (hZ : Z.Warmed39 s.vm) (hw : ∀ d ∈ tables_1, d.before a0 Z = true) (hby : c.code = code) (hown : s.vm.findClass "com/example/retiremetric/retiremetric/engine/MeanMeanPinLaw" = some m.cls) {target : State}
    (kt : Steps p.tables e below (T0.setTop (mkF m 72 #[.val (.int q1), .val (.int q2), .val (.int q3), .val (.int q4), .val (.int sel), .val (.int nfl), .val (.int (kF sel)), .val (.int (psF sel)), .val (.double (pF sel)), .second, .val (.int (nF q1)), .val (.int (nkF sel q1 q2)), .unset, .unset, .unset, .unset, .unset, .unset, .unset, .unset, .unset, .unset, .unset, .unset, .unset, .unset] [])) target) : Steps p.tables e below (T0.setTop (mkF m 43 #[.val (.int q1), .val (.int q2), .val (.int q3), .val (.int q4), .val (.int sel), .val (.int nfl), .val (.int (kF sel)), .val (.int (psF sel)), .val (.double (pF sel)), .second, .unset, .unset, .unset, .unset, .unset, .unset, .unset, .unset, .unset, .unset, .unset, .unset, .unset, .unset, .unset, .unset] [])) target := by
  by_cases h1 : kF sel = (3 : Int32)
  · rw [show nkF sel q1 q2 = nF q1 by rw [nkF, if_pos h1]] at kt; exact sg2a q1 q2 q3 q4 sel nfl X0 hx hZ hw hby hown h1 kt
  · rw [show nkF sel q1 q2 = nF q2 by rw [nkF, if_neg h1]] at kt; exact sg2b q1 q2 q3 q4 sel nfl X0 hx hZ hw hby hown h1 kt
set_option maxRecDepth 65536 in
set_option maxHeartbeats 40000000 in
theorem sg3a {p : Program} {l : Launch} {e : Env} {R : Room} {s : State} {m : MethodId} {args : Array Value} {below : List Frame} {meth : Method} {c : Code} {T0 : State} {locs : List Loc} {cells slots : Nat} {Z : State} {a0 : Array Value} (q1 q2 q3 q4 sel nfl : Int32) (X0 : Stand p l e R s m args below meth c T0 locs cells slots) (hx : p.tables.exec = Jvm.exec) (hZ : Z.Warmed39 s.vm) (hw : ∀ d ∈ tables_1, d.before a0 Z = true) (hby : c.code = code) (hown : s.vm.findClass "com/example/retiremetric/retiremetric/engine/MeanMeanPinLaw" = some m.cls) (hc75 : (kF sel) = (3 : Int32)) {target : State}
    (kt : Steps p.tables e below (T0.setTop (mkF m 92 #[.val (.int q1), .val (.int q2), .val (.int q3), .val (.int q4), .val (.int sel), .val (.int nfl), .val (.int (kF sel)), .val (.int (psF sel)), .val (.double (pF sel)), .second, .val (.int (nF q1)), .val (.int (nkF sel q1 q2)), .val (.int (nF q1)), .unset, .unset, .unset, .unset, .unset, .unset, .unset, .unset, .unset, .unset, .unset, .unset, .unset] [])) target) : Steps p.tables e below (T0.setTop (mkF m 72 #[.val (.int q1), .val (.int q2), .val (.int q3), .val (.int q4), .val (.int sel), .val (.int nfl), .val (.int (kF sel)), .val (.int (psF sel)), .val (.double (pF sel)), .second, .val (.int (nF q1)), .val (.int (nkF sel q1 q2)), .unset, .unset, .unset, .unset, .unset, .unset, .unset, .unset, .unset, .unset, .unset, .unset, .unset, .unset] [])) target := by
  show Steps p.tables e below (T0.setTop (mkF m 72 #[.val (.int q1), .val (.int q2), .val (.int q3), .val (.int q4), .val (.int sel), .val (.int nfl), .val (.int (kF sel)), .val (.int (psF sel)), .val (.double (pF sel)), .second, .val (.int (nF q1)), .val (.int (nkF sel q1 q2)), .unset, .unset, .unset, .unset, .unset, .unset, .unset, .unset, .unset, .unset, .unset, .unset, .unset, .unset] [])) _
  refine XS.iload X0.here hx rfl (hb hby at_72) rfl ?_
  refine XS.iconst X0.here hx rfl (hb hby at_74) ?_
  refine XS.icmpNo X0.here hx rfl (hb hby at_75) rfl (teq hc75).2 ?_
  refine XS.iload X0.here hx rfl (hb hby at_78) rfl ?_
  show Steps p.tables e below (T0.setTop (mkF m 80 #[.val (.int q1), .val (.int q2), .val (.int q3), .val (.int q4), .val (.int sel), .val (.int nfl), .val (.int (kF sel)), .val (.int (psF sel)), .val (.double (pF sel)), .second, .val (.int (nF q1)), .val (.int (nkF sel q1 q2)), .unset, .unset, .unset, .unset, .unset, .unset, .unset, .unset, .unset, .unset, .unset, .unset, .unset, .unset] [(.int (nF q1))])) _
  refine XS.goto X0.here hx rfl (pc0 := 80) (pc' := 90) rfl (hb hby at_80) (by decide) (by decide) ?_
  refine XS.istore X0.here hx rfl (hb hby at_90) rfl (l' := #[.val (.int q1), .val (.int q2), .val (.int q3), .val (.int q4), .val (.int sel), .val (.int nfl), .val (.int (kF sel)), .val (.int (psF sel)), .val (.double (pF sel)), .second, .val (.int (nF q1)), .val (.int (nkF sel q1 q2)), .val (.int (nF q1)), .unset, .unset, .unset, .unset, .unset, .unset, .unset, .unset, .unset, .unset, .unset, .unset, .unset]) rfl ?_
  exact kt
set_option maxRecDepth 65536 in
set_option maxHeartbeats 40000000 in
theorem sg3b {p : Program} {l : Launch} {e : Env} {R : Room} {s : State} {m : MethodId} {args : Array Value} {below : List Frame} {meth : Method} {c : Code} {T0 : State} {locs : List Loc} {cells slots : Nat} {Z : State} {a0 : Array Value} (q1 q2 q3 q4 sel nfl : Int32) (X0 : Stand p l e R s m args below meth c T0 locs cells slots) (hx : p.tables.exec = Jvm.exec) (hZ : Z.Warmed39 s.vm) (hw : ∀ d ∈ tables_1, d.before a0 Z = true) (hby : c.code = code) (hown : s.vm.findClass "com/example/retiremetric/retiremetric/engine/MeanMeanPinLaw" = some m.cls) (hc75 : ¬ ((kF sel) = (3 : Int32))) {target : State}
    (kt : Steps p.tables e below (T0.setTop (mkF m 92 #[.val (.int q1), .val (.int q2), .val (.int q3), .val (.int q4), .val (.int sel), .val (.int nfl), .val (.int (kF sel)), .val (.int (psF sel)), .val (.double (pF sel)), .second, .val (.int (nF q1)), .val (.int (nkF sel q1 q2)), .val (.int ((q3 <<< ((8 : Int32) &&& 31)) >>> ((8 : Int32) &&& 31))), .unset, .unset, .unset, .unset, .unset, .unset, .unset, .unset, .unset, .unset, .unset, .unset, .unset] [])) target) : Steps p.tables e below (T0.setTop (mkF m 72 #[.val (.int q1), .val (.int q2), .val (.int q3), .val (.int q4), .val (.int sel), .val (.int nfl), .val (.int (kF sel)), .val (.int (psF sel)), .val (.double (pF sel)), .second, .val (.int (nF q1)), .val (.int (nkF sel q1 q2)), .unset, .unset, .unset, .unset, .unset, .unset, .unset, .unset, .unset, .unset, .unset, .unset, .unset, .unset] [])) target := by
  show Steps p.tables e below (T0.setTop (mkF m 72 #[.val (.int q1), .val (.int q2), .val (.int q3), .val (.int q4), .val (.int sel), .val (.int nfl), .val (.int (kF sel)), .val (.int (psF sel)), .val (.double (pF sel)), .second, .val (.int (nF q1)), .val (.int (nkF sel q1 q2)), .unset, .unset, .unset, .unset, .unset, .unset, .unset, .unset, .unset, .unset, .unset, .unset, .unset, .unset] [])) _
  refine XS.iload X0.here hx rfl (hb hby at_72) rfl ?_
  refine XS.iconst X0.here hx rfl (hb hby at_74) ?_
  refine XS.icmpYes X0.here hx rfl (pc0 := 75) (pc' := 83) rfl (hb hby at_75) rfl (feq hc75).2 (by decide) (by decide) ?_
  refine XS.iloadN X0.here hx rfl (hb hby at_83) rfl ?_
  show Steps p.tables e below (T0.setTop (mkF m 84 #[.val (.int q1), .val (.int q2), .val (.int q3), .val (.int q4), .val (.int sel), .val (.int nfl), .val (.int (kF sel)), .val (.int (psF sel)), .val (.double (pF sel)), .second, .val (.int (nF q1)), .val (.int (nkF sel q1 q2)), .unset, .unset, .unset, .unset, .unset, .unset, .unset, .unset, .unset, .unset, .unset, .unset, .unset, .unset] [(.int q3)])) _
  refine XS.bipush X0.here hx rfl (hb hby at_84) ?_
  refine XS.ishl X0.here hx rfl (hb hby at_86) rfl ?_
  refine XS.bipush X0.here hx rfl (hb hby at_87) ?_
  refine XS.ishr X0.here hx rfl (hb hby at_89) rfl ?_
  show Steps p.tables e below (T0.setTop (mkF m 90 #[.val (.int q1), .val (.int q2), .val (.int q3), .val (.int q4), .val (.int sel), .val (.int nfl), .val (.int (kF sel)), .val (.int (psF sel)), .val (.double (pF sel)), .second, .val (.int (nF q1)), .val (.int (nkF sel q1 q2)), .unset, .unset, .unset, .unset, .unset, .unset, .unset, .unset, .unset, .unset, .unset, .unset, .unset, .unset] [(.int ((q3 <<< ((8 : Int32) &&& 31)) >>> ((8 : Int32) &&& 31)))])) _
  refine XS.istore X0.here hx rfl (hb hby at_90) rfl (l' := #[.val (.int q1), .val (.int q2), .val (.int q3), .val (.int q4), .val (.int sel), .val (.int nfl), .val (.int (kF sel)), .val (.int (psF sel)), .val (.double (pF sel)), .second, .val (.int (nF q1)), .val (.int (nkF sel q1 q2)), .val (.int ((q3 <<< ((8 : Int32) &&& 31)) >>> ((8 : Int32) &&& 31))), .unset, .unset, .unset, .unset, .unset, .unset, .unset, .unset, .unset, .unset, .unset, .unset, .unset]) rfl ?_
  exact kt
set_option maxRecDepth 65536 in
set_option maxHeartbeats 40000000 in
theorem sg3 {p : Program} {l : Launch} {e : Env} {R : Room} {s : State} {m : MethodId} {args : Array Value} {below : List Frame} {meth : Method} {c : Code} {T0 : State} {locs : List Loc} {cells slots : Nat} {Z : State} {a0 : Array Value} (q1 q2 q3 q4 sel nfl : Int32) (X0 : Stand p l e R s m args below meth c T0 locs cells slots) (hx : p.tables.exec = Jvm.exec) (hZ : Z.Warmed39 s.vm) (hw : ∀ d ∈ tables_1, d.before a0 Z = true) (hby : c.code = code) (hown : s.vm.findClass "com/example/retiremetric/retiremetric/engine/MeanMeanPinLaw" = some m.cls) {target : State}
    (kt : Steps p.tables e below (T0.setTop (mkF m 92 #[.val (.int q1), .val (.int q2), .val (.int q3), .val (.int q4), .val (.int sel), .val (.int nfl), .val (.int (kF sel)), .val (.int (psF sel)), .val (.double (pF sel)), .second, .val (.int (nF q1)), .val (.int (nkF sel q1 q2)), .val (.int (nkF sel q1 q3)), .unset, .unset, .unset, .unset, .unset, .unset, .unset, .unset, .unset, .unset, .unset, .unset, .unset] [])) target) : Steps p.tables e below (T0.setTop (mkF m 72 #[.val (.int q1), .val (.int q2), .val (.int q3), .val (.int q4), .val (.int sel), .val (.int nfl), .val (.int (kF sel)), .val (.int (psF sel)), .val (.double (pF sel)), .second, .val (.int (nF q1)), .val (.int (nkF sel q1 q2)), .unset, .unset, .unset, .unset, .unset, .unset, .unset, .unset, .unset, .unset, .unset, .unset, .unset, .unset] [])) target := by
  by_cases h1 : kF sel = (3 : Int32)
  · rw [show nkF sel q1 q3 = nF q1 by rw [nkF, if_pos h1]] at kt; exact sg3a q1 q2 q3 q4 sel nfl X0 hx hZ hw hby hown h1 kt
  · rw [show nkF sel q1 q3 = nF q3 by rw [nkF, if_neg h1]] at kt; exact sg3b q1 q2 q3 q4 sel nfl X0 hx hZ hw hby hown h1 kt
set_option maxRecDepth 65536 in
set_option maxHeartbeats 40000000 in
theorem sg4a {p : Program} {l : Launch} {e : Env} {R : Room} {s : State} {m : MethodId} {args : Array Value} {below : List Frame} {meth : Method} {c : Code} {T0 : State} {locs : List Loc} {cells slots : Nat} {Z : State} {a0 : Array Value} (q1 q2 q3 q4 sel nfl : Int32) (X0 : Stand p l e R s m args below meth c T0 locs cells slots) (hx : p.tables.exec = Jvm.exec) (hZ : Z.Warmed39 s.vm) (hw : ∀ d ∈ tables_1, d.before a0 Z = true) (hby : c.code = code) (hown : s.vm.findClass "com/example/retiremetric/retiremetric/engine/MeanMeanPinLaw" = some m.cls) (hc110 : (moF nfl) = (1 : Int32)) {target : State}
    (kt : Steps p.tables e below (T0.setTop (mkF m 126 #[.val (.int q1), .val (.int q2), .val (.int q3), .val (.int q4), .val (.int sel), .val (.int nfl), .val (.int (kF sel)), .val (.int (psF sel)), .val (.double (pF sel)), .second, .val (.int (nF q1)), .val (.int (nkF sel q1 q2)), .val (.int (nkF sel q1 q3)), .val (.int (nF q4)), .val (.int (moF nfl)), .val (.int (1 : Int32)), .unset, .unset, .unset, .unset, .unset, .unset, .unset, .unset, .unset, .unset] [])) target) : Steps p.tables e below (T0.setTop (mkF m 92 #[.val (.int q1), .val (.int q2), .val (.int q3), .val (.int q4), .val (.int sel), .val (.int nfl), .val (.int (kF sel)), .val (.int (psF sel)), .val (.double (pF sel)), .second, .val (.int (nF q1)), .val (.int (nkF sel q1 q2)), .val (.int (nkF sel q1 q3)), .unset, .unset, .unset, .unset, .unset, .unset, .unset, .unset, .unset, .unset, .unset, .unset, .unset] [])) target := by
  show Steps p.tables e below (T0.setTop (mkF m 92 #[.val (.int q1), .val (.int q2), .val (.int q3), .val (.int q4), .val (.int sel), .val (.int nfl), .val (.int (kF sel)), .val (.int (psF sel)), .val (.double (pF sel)), .second, .val (.int (nF q1)), .val (.int (nkF sel q1 q2)), .val (.int (nkF sel q1 q3)), .unset, .unset, .unset, .unset, .unset, .unset, .unset, .unset, .unset, .unset, .unset, .unset, .unset] [])) _
  refine XS.iloadN X0.here hx rfl (hb hby at_92) rfl ?_
  refine XS.bipush X0.here hx rfl (hb hby at_93) ?_
  refine XS.ishl X0.here hx rfl (hb hby at_95) rfl ?_
  refine XS.bipush X0.here hx rfl (hb hby at_96) ?_
  show Steps p.tables e below (T0.setTop (mkF m 98 #[.val (.int q1), .val (.int q2), .val (.int q3), .val (.int q4), .val (.int sel), .val (.int nfl), .val (.int (kF sel)), .val (.int (psF sel)), .val (.double (pF sel)), .second, .val (.int (nF q1)), .val (.int (nkF sel q1 q2)), .val (.int (nkF sel q1 q3)), .unset, .unset, .unset, .unset, .unset, .unset, .unset, .unset, .unset, .unset, .unset, .unset, .unset] [(.int (8 : Int32)), (.int (q4 <<< ((8 : Int32) &&& 31)))])) _
  refine XS.ishr X0.here hx rfl (hb hby at_98) rfl ?_
  show Steps p.tables e below (T0.setTop (mkF m 99 #[.val (.int q1), .val (.int q2), .val (.int q3), .val (.int q4), .val (.int sel), .val (.int nfl), .val (.int (kF sel)), .val (.int (psF sel)), .val (.double (pF sel)), .second, .val (.int (nF q1)), .val (.int (nkF sel q1 q2)), .val (.int (nkF sel q1 q3)), .unset, .unset, .unset, .unset, .unset, .unset, .unset, .unset, .unset, .unset, .unset, .unset, .unset] [(.int (nF q4))])) _
  refine XS.istore X0.here hx rfl (hb hby at_99) rfl (l' := #[.val (.int q1), .val (.int q2), .val (.int q3), .val (.int q4), .val (.int sel), .val (.int nfl), .val (.int (kF sel)), .val (.int (psF sel)), .val (.double (pF sel)), .second, .val (.int (nF q1)), .val (.int (nkF sel q1 q2)), .val (.int (nkF sel q1 q3)), .val (.int (nF q4)), .unset, .unset, .unset, .unset, .unset, .unset, .unset, .unset, .unset, .unset, .unset, .unset]) rfl ?_
  refine XS.iload X0.here hx rfl (hb hby at_101) rfl ?_
  refine XS.iconst X0.here hx rfl (hb hby at_103) ?_
  refine XS.iand X0.here hx rfl (hb hby at_104) rfl ?_
  show Steps p.tables e below (T0.setTop (mkF m 105 #[.val (.int q1), .val (.int q2), .val (.int q3), .val (.int q4), .val (.int sel), .val (.int nfl), .val (.int (kF sel)), .val (.int (psF sel)), .val (.double (pF sel)), .second, .val (.int (nF q1)), .val (.int (nkF sel q1 q2)), .val (.int (nkF sel q1 q3)), .val (.int (nF q4)), .unset, .unset, .unset, .unset, .unset, .unset, .unset, .unset, .unset, .unset, .unset, .unset] [(.int (moF nfl))])) _
  refine XS.istore X0.here hx rfl (hb hby at_105) rfl (l' := #[.val (.int q1), .val (.int q2), .val (.int q3), .val (.int q4), .val (.int sel), .val (.int nfl), .val (.int (kF sel)), .val (.int (psF sel)), .val (.double (pF sel)), .second, .val (.int (nF q1)), .val (.int (nkF sel q1 q2)), .val (.int (nkF sel q1 q3)), .val (.int (nF q4)), .val (.int (moF nfl)), .unset, .unset, .unset, .unset, .unset, .unset, .unset, .unset, .unset, .unset, .unset]) rfl ?_
  refine XS.iload X0.here hx rfl (hb hby at_107) rfl ?_
  refine XS.iconst X0.here hx rfl (hb hby at_109) ?_
  refine XS.icmpYes X0.here hx rfl (pc0 := 110) (pc' := 119) rfl (hb hby at_110) rfl (teq hc110).1 (by decide) (by decide) ?_
  show Steps p.tables e below (T0.setTop (mkF m 119 #[.val (.int q1), .val (.int q2), .val (.int q3), .val (.int q4), .val (.int sel), .val (.int nfl), .val (.int (kF sel)), .val (.int (psF sel)), .val (.double (pF sel)), .second, .val (.int (nF q1)), .val (.int (nkF sel q1 q2)), .val (.int (nkF sel q1 q3)), .val (.int (nF q4)), .val (.int (moF nfl)), .unset, .unset, .unset, .unset, .unset, .unset, .unset, .unset, .unset, .unset, .unset] [])) _
  refine XS.iconst X0.here hx rfl (hb hby at_119) ?_
  refine XS.goto X0.here hx rfl (pc0 := 120) (pc' := 124) rfl (hb hby at_120) (by decide) (by decide) ?_
  refine XS.istore X0.here hx rfl (hb hby at_124) rfl (l' := #[.val (.int q1), .val (.int q2), .val (.int q3), .val (.int q4), .val (.int sel), .val (.int nfl), .val (.int (kF sel)), .val (.int (psF sel)), .val (.double (pF sel)), .second, .val (.int (nF q1)), .val (.int (nkF sel q1 q2)), .val (.int (nkF sel q1 q3)), .val (.int (nF q4)), .val (.int (moF nfl)), .val (.int (1 : Int32)), .unset, .unset, .unset, .unset, .unset, .unset, .unset, .unset, .unset, .unset]) rfl ?_
  exact kt
set_option maxRecDepth 65536 in
set_option maxHeartbeats 40000000 in
theorem sg4b {p : Program} {l : Launch} {e : Env} {R : Room} {s : State} {m : MethodId} {args : Array Value} {below : List Frame} {meth : Method} {c : Code} {T0 : State} {locs : List Loc} {cells slots : Nat} {Z : State} {a0 : Array Value} (q1 q2 q3 q4 sel nfl : Int32) (X0 : Stand p l e R s m args below meth c T0 locs cells slots) (hx : p.tables.exec = Jvm.exec) (hZ : Z.Warmed39 s.vm) (hw : ∀ d ∈ tables_1, d.before a0 Z = true) (hby : c.code = code) (hown : s.vm.findClass "com/example/retiremetric/retiremetric/engine/MeanMeanPinLaw" = some m.cls) (hc110 : ¬ ((moF nfl) = (1 : Int32))) (hc116 : (moF nfl) = (2 : Int32)) {target : State}
    (kt : Steps p.tables e below (T0.setTop (mkF m 126 #[.val (.int q1), .val (.int q2), .val (.int q3), .val (.int q4), .val (.int sel), .val (.int nfl), .val (.int (kF sel)), .val (.int (psF sel)), .val (.double (pF sel)), .second, .val (.int (nF q1)), .val (.int (nkF sel q1 q2)), .val (.int (nkF sel q1 q3)), .val (.int (nF q4)), .val (.int (moF nfl)), .val (.int (1 : Int32)), .unset, .unset, .unset, .unset, .unset, .unset, .unset, .unset, .unset, .unset] [])) target) : Steps p.tables e below (T0.setTop (mkF m 92 #[.val (.int q1), .val (.int q2), .val (.int q3), .val (.int q4), .val (.int sel), .val (.int nfl), .val (.int (kF sel)), .val (.int (psF sel)), .val (.double (pF sel)), .second, .val (.int (nF q1)), .val (.int (nkF sel q1 q2)), .val (.int (nkF sel q1 q3)), .unset, .unset, .unset, .unset, .unset, .unset, .unset, .unset, .unset, .unset, .unset, .unset, .unset] [])) target := by
  show Steps p.tables e below (T0.setTop (mkF m 92 #[.val (.int q1), .val (.int q2), .val (.int q3), .val (.int q4), .val (.int sel), .val (.int nfl), .val (.int (kF sel)), .val (.int (psF sel)), .val (.double (pF sel)), .second, .val (.int (nF q1)), .val (.int (nkF sel q1 q2)), .val (.int (nkF sel q1 q3)), .unset, .unset, .unset, .unset, .unset, .unset, .unset, .unset, .unset, .unset, .unset, .unset, .unset] [])) _
  refine XS.iloadN X0.here hx rfl (hb hby at_92) rfl ?_
  refine XS.bipush X0.here hx rfl (hb hby at_93) ?_
  refine XS.ishl X0.here hx rfl (hb hby at_95) rfl ?_
  refine XS.bipush X0.here hx rfl (hb hby at_96) ?_
  show Steps p.tables e below (T0.setTop (mkF m 98 #[.val (.int q1), .val (.int q2), .val (.int q3), .val (.int q4), .val (.int sel), .val (.int nfl), .val (.int (kF sel)), .val (.int (psF sel)), .val (.double (pF sel)), .second, .val (.int (nF q1)), .val (.int (nkF sel q1 q2)), .val (.int (nkF sel q1 q3)), .unset, .unset, .unset, .unset, .unset, .unset, .unset, .unset, .unset, .unset, .unset, .unset, .unset] [(.int (8 : Int32)), (.int (q4 <<< ((8 : Int32) &&& 31)))])) _
  refine XS.ishr X0.here hx rfl (hb hby at_98) rfl ?_
  show Steps p.tables e below (T0.setTop (mkF m 99 #[.val (.int q1), .val (.int q2), .val (.int q3), .val (.int q4), .val (.int sel), .val (.int nfl), .val (.int (kF sel)), .val (.int (psF sel)), .val (.double (pF sel)), .second, .val (.int (nF q1)), .val (.int (nkF sel q1 q2)), .val (.int (nkF sel q1 q3)), .unset, .unset, .unset, .unset, .unset, .unset, .unset, .unset, .unset, .unset, .unset, .unset, .unset] [(.int (nF q4))])) _
  refine XS.istore X0.here hx rfl (hb hby at_99) rfl (l' := #[.val (.int q1), .val (.int q2), .val (.int q3), .val (.int q4), .val (.int sel), .val (.int nfl), .val (.int (kF sel)), .val (.int (psF sel)), .val (.double (pF sel)), .second, .val (.int (nF q1)), .val (.int (nkF sel q1 q2)), .val (.int (nkF sel q1 q3)), .val (.int (nF q4)), .unset, .unset, .unset, .unset, .unset, .unset, .unset, .unset, .unset, .unset, .unset, .unset]) rfl ?_
  refine XS.iload X0.here hx rfl (hb hby at_101) rfl ?_
  refine XS.iconst X0.here hx rfl (hb hby at_103) ?_
  refine XS.iand X0.here hx rfl (hb hby at_104) rfl ?_
  show Steps p.tables e below (T0.setTop (mkF m 105 #[.val (.int q1), .val (.int q2), .val (.int q3), .val (.int q4), .val (.int sel), .val (.int nfl), .val (.int (kF sel)), .val (.int (psF sel)), .val (.double (pF sel)), .second, .val (.int (nF q1)), .val (.int (nkF sel q1 q2)), .val (.int (nkF sel q1 q3)), .val (.int (nF q4)), .unset, .unset, .unset, .unset, .unset, .unset, .unset, .unset, .unset, .unset, .unset, .unset] [(.int (moF nfl))])) _
  refine XS.istore X0.here hx rfl (hb hby at_105) rfl (l' := #[.val (.int q1), .val (.int q2), .val (.int q3), .val (.int q4), .val (.int sel), .val (.int nfl), .val (.int (kF sel)), .val (.int (psF sel)), .val (.double (pF sel)), .second, .val (.int (nF q1)), .val (.int (nkF sel q1 q2)), .val (.int (nkF sel q1 q3)), .val (.int (nF q4)), .val (.int (moF nfl)), .unset, .unset, .unset, .unset, .unset, .unset, .unset, .unset, .unset, .unset, .unset]) rfl ?_
  refine XS.iload X0.here hx rfl (hb hby at_107) rfl ?_
  refine XS.iconst X0.here hx rfl (hb hby at_109) ?_
  refine XS.icmpNo X0.here hx rfl (hb hby at_110) rfl (feq hc110).1 ?_
  show Steps p.tables e below (T0.setTop (mkF m 113 #[.val (.int q1), .val (.int q2), .val (.int q3), .val (.int q4), .val (.int sel), .val (.int nfl), .val (.int (kF sel)), .val (.int (psF sel)), .val (.double (pF sel)), .second, .val (.int (nF q1)), .val (.int (nkF sel q1 q2)), .val (.int (nkF sel q1 q3)), .val (.int (nF q4)), .val (.int (moF nfl)), .unset, .unset, .unset, .unset, .unset, .unset, .unset, .unset, .unset, .unset, .unset] [])) _
  refine XS.iload X0.here hx rfl (hb hby at_113) rfl ?_
  refine XS.iconst X0.here hx rfl (hb hby at_115) ?_
  refine XS.icmpNo X0.here hx rfl (hb hby at_116) rfl (teq hc116).2 ?_
  refine XS.iconst X0.here hx rfl (hb hby at_119) ?_
  show Steps p.tables e below (T0.setTop (mkF m 120 #[.val (.int q1), .val (.int q2), .val (.int q3), .val (.int q4), .val (.int sel), .val (.int nfl), .val (.int (kF sel)), .val (.int (psF sel)), .val (.double (pF sel)), .second, .val (.int (nF q1)), .val (.int (nkF sel q1 q2)), .val (.int (nkF sel q1 q3)), .val (.int (nF q4)), .val (.int (moF nfl)), .unset, .unset, .unset, .unset, .unset, .unset, .unset, .unset, .unset, .unset, .unset] [(.int (1 : Int32))])) _
  refine XS.goto X0.here hx rfl (pc0 := 120) (pc' := 124) rfl (hb hby at_120) (by decide) (by decide) ?_
  refine XS.istore X0.here hx rfl (hb hby at_124) rfl (l' := #[.val (.int q1), .val (.int q2), .val (.int q3), .val (.int q4), .val (.int sel), .val (.int nfl), .val (.int (kF sel)), .val (.int (psF sel)), .val (.double (pF sel)), .second, .val (.int (nF q1)), .val (.int (nkF sel q1 q2)), .val (.int (nkF sel q1 q3)), .val (.int (nF q4)), .val (.int (moF nfl)), .val (.int (1 : Int32)), .unset, .unset, .unset, .unset, .unset, .unset, .unset, .unset, .unset, .unset]) rfl ?_
  exact kt
set_option maxRecDepth 65536 in
set_option maxHeartbeats 40000000 in
theorem sg4c {p : Program} {l : Launch} {e : Env} {R : Room} {s : State} {m : MethodId} {args : Array Value} {below : List Frame} {meth : Method} {c : Code} {T0 : State} {locs : List Loc} {cells slots : Nat} {Z : State} {a0 : Array Value} (q1 q2 q3 q4 sel nfl : Int32) (X0 : Stand p l e R s m args below meth c T0 locs cells slots) (hx : p.tables.exec = Jvm.exec) (hZ : Z.Warmed39 s.vm) (hw : ∀ d ∈ tables_1, d.before a0 Z = true) (hby : c.code = code) (hown : s.vm.findClass "com/example/retiremetric/retiremetric/engine/MeanMeanPinLaw" = some m.cls) (hc110 : ¬ ((moF nfl) = (1 : Int32))) (hc116 : ¬ ((moF nfl) = (2 : Int32))) {target : State}
    (kt : Steps p.tables e below (T0.setTop (mkF m 126 #[.val (.int q1), .val (.int q2), .val (.int q3), .val (.int q4), .val (.int sel), .val (.int nfl), .val (.int (kF sel)), .val (.int (psF sel)), .val (.double (pF sel)), .second, .val (.int (nF q1)), .val (.int (nkF sel q1 q2)), .val (.int (nkF sel q1 q3)), .val (.int (nF q4)), .val (.int (moF nfl)), .val (.int (0 : Int32)), .unset, .unset, .unset, .unset, .unset, .unset, .unset, .unset, .unset, .unset] [])) target) : Steps p.tables e below (T0.setTop (mkF m 92 #[.val (.int q1), .val (.int q2), .val (.int q3), .val (.int q4), .val (.int sel), .val (.int nfl), .val (.int (kF sel)), .val (.int (psF sel)), .val (.double (pF sel)), .second, .val (.int (nF q1)), .val (.int (nkF sel q1 q2)), .val (.int (nkF sel q1 q3)), .unset, .unset, .unset, .unset, .unset, .unset, .unset, .unset, .unset, .unset, .unset, .unset, .unset] [])) target := by
  show Steps p.tables e below (T0.setTop (mkF m 92 #[.val (.int q1), .val (.int q2), .val (.int q3), .val (.int q4), .val (.int sel), .val (.int nfl), .val (.int (kF sel)), .val (.int (psF sel)), .val (.double (pF sel)), .second, .val (.int (nF q1)), .val (.int (nkF sel q1 q2)), .val (.int (nkF sel q1 q3)), .unset, .unset, .unset, .unset, .unset, .unset, .unset, .unset, .unset, .unset, .unset, .unset, .unset] [])) _
  refine XS.iloadN X0.here hx rfl (hb hby at_92) rfl ?_
  refine XS.bipush X0.here hx rfl (hb hby at_93) ?_
  refine XS.ishl X0.here hx rfl (hb hby at_95) rfl ?_
  refine XS.bipush X0.here hx rfl (hb hby at_96) ?_
  show Steps p.tables e below (T0.setTop (mkF m 98 #[.val (.int q1), .val (.int q2), .val (.int q3), .val (.int q4), .val (.int sel), .val (.int nfl), .val (.int (kF sel)), .val (.int (psF sel)), .val (.double (pF sel)), .second, .val (.int (nF q1)), .val (.int (nkF sel q1 q2)), .val (.int (nkF sel q1 q3)), .unset, .unset, .unset, .unset, .unset, .unset, .unset, .unset, .unset, .unset, .unset, .unset, .unset] [(.int (8 : Int32)), (.int (q4 <<< ((8 : Int32) &&& 31)))])) _
  refine XS.ishr X0.here hx rfl (hb hby at_98) rfl ?_
  show Steps p.tables e below (T0.setTop (mkF m 99 #[.val (.int q1), .val (.int q2), .val (.int q3), .val (.int q4), .val (.int sel), .val (.int nfl), .val (.int (kF sel)), .val (.int (psF sel)), .val (.double (pF sel)), .second, .val (.int (nF q1)), .val (.int (nkF sel q1 q2)), .val (.int (nkF sel q1 q3)), .unset, .unset, .unset, .unset, .unset, .unset, .unset, .unset, .unset, .unset, .unset, .unset, .unset] [(.int (nF q4))])) _
  refine XS.istore X0.here hx rfl (hb hby at_99) rfl (l' := #[.val (.int q1), .val (.int q2), .val (.int q3), .val (.int q4), .val (.int sel), .val (.int nfl), .val (.int (kF sel)), .val (.int (psF sel)), .val (.double (pF sel)), .second, .val (.int (nF q1)), .val (.int (nkF sel q1 q2)), .val (.int (nkF sel q1 q3)), .val (.int (nF q4)), .unset, .unset, .unset, .unset, .unset, .unset, .unset, .unset, .unset, .unset, .unset, .unset]) rfl ?_
  refine XS.iload X0.here hx rfl (hb hby at_101) rfl ?_
  refine XS.iconst X0.here hx rfl (hb hby at_103) ?_
  refine XS.iand X0.here hx rfl (hb hby at_104) rfl ?_
  show Steps p.tables e below (T0.setTop (mkF m 105 #[.val (.int q1), .val (.int q2), .val (.int q3), .val (.int q4), .val (.int sel), .val (.int nfl), .val (.int (kF sel)), .val (.int (psF sel)), .val (.double (pF sel)), .second, .val (.int (nF q1)), .val (.int (nkF sel q1 q2)), .val (.int (nkF sel q1 q3)), .val (.int (nF q4)), .unset, .unset, .unset, .unset, .unset, .unset, .unset, .unset, .unset, .unset, .unset, .unset] [(.int (moF nfl))])) _
  refine XS.istore X0.here hx rfl (hb hby at_105) rfl (l' := #[.val (.int q1), .val (.int q2), .val (.int q3), .val (.int q4), .val (.int sel), .val (.int nfl), .val (.int (kF sel)), .val (.int (psF sel)), .val (.double (pF sel)), .second, .val (.int (nF q1)), .val (.int (nkF sel q1 q2)), .val (.int (nkF sel q1 q3)), .val (.int (nF q4)), .val (.int (moF nfl)), .unset, .unset, .unset, .unset, .unset, .unset, .unset, .unset, .unset, .unset, .unset]) rfl ?_
  refine XS.iload X0.here hx rfl (hb hby at_107) rfl ?_
  refine XS.iconst X0.here hx rfl (hb hby at_109) ?_
  refine XS.icmpNo X0.here hx rfl (hb hby at_110) rfl (feq hc110).1 ?_
  show Steps p.tables e below (T0.setTop (mkF m 113 #[.val (.int q1), .val (.int q2), .val (.int q3), .val (.int q4), .val (.int sel), .val (.int nfl), .val (.int (kF sel)), .val (.int (psF sel)), .val (.double (pF sel)), .second, .val (.int (nF q1)), .val (.int (nkF sel q1 q2)), .val (.int (nkF sel q1 q3)), .val (.int (nF q4)), .val (.int (moF nfl)), .unset, .unset, .unset, .unset, .unset, .unset, .unset, .unset, .unset, .unset, .unset] [])) _
  refine XS.iload X0.here hx rfl (hb hby at_113) rfl ?_
  refine XS.iconst X0.here hx rfl (hb hby at_115) ?_
  refine XS.icmpYes X0.here hx rfl (pc0 := 116) (pc' := 123) rfl (hb hby at_116) rfl (feq hc116).2 (by decide) (by decide) ?_
  refine XS.iconst X0.here hx rfl (hb hby at_123) ?_
  show Steps p.tables e below (T0.setTop (mkF m 124 #[.val (.int q1), .val (.int q2), .val (.int q3), .val (.int q4), .val (.int sel), .val (.int nfl), .val (.int (kF sel)), .val (.int (psF sel)), .val (.double (pF sel)), .second, .val (.int (nF q1)), .val (.int (nkF sel q1 q2)), .val (.int (nkF sel q1 q3)), .val (.int (nF q4)), .val (.int (moF nfl)), .unset, .unset, .unset, .unset, .unset, .unset, .unset, .unset, .unset, .unset, .unset] [(.int (0 : Int32))])) _
  refine XS.istore X0.here hx rfl (hb hby at_124) rfl (l' := #[.val (.int q1), .val (.int q2), .val (.int q3), .val (.int q4), .val (.int sel), .val (.int nfl), .val (.int (kF sel)), .val (.int (psF sel)), .val (.double (pF sel)), .second, .val (.int (nF q1)), .val (.int (nkF sel q1 q2)), .val (.int (nkF sel q1 q3)), .val (.int (nF q4)), .val (.int (moF nfl)), .val (.int (0 : Int32)), .unset, .unset, .unset, .unset, .unset, .unset, .unset, .unset, .unset, .unset]) rfl ?_
  exact kt
set_option maxRecDepth 65536 in
set_option maxHeartbeats 40000000 in
theorem sg4 {p : Program} {l : Launch} {e : Env} {R : Room} {s : State} {m : MethodId} {args : Array Value} {below : List Frame} {meth : Method} {c : Code} {T0 : State} {locs : List Loc} {cells slots : Nat} {Z : State} {a0 : Array Value} (q1 q2 q3 q4 sel nfl : Int32) (X0 : Stand p l e R s m args below meth c T0 locs cells slots) (hx : p.tables.exec = Jvm.exec) (hZ : Z.Warmed39 s.vm) (hw : ∀ d ∈ tables_1, d.before a0 Z = true) (hby : c.code = code) (hown : s.vm.findClass "com/example/retiremetric/retiremetric/engine/MeanMeanPinLaw" = some m.cls) {target : State}
    (kt : Steps p.tables e below (T0.setTop (mkF m 126 #[.val (.int q1), .val (.int q2), .val (.int q3), .val (.int q4), .val (.int sel), .val (.int nfl), .val (.int (kF sel)), .val (.int (psF sel)), .val (.double (pF sel)), .second, .val (.int (nF q1)), .val (.int (nkF sel q1 q2)), .val (.int (nkF sel q1 q3)), .val (.int (nF q4)), .val (.int (moF nfl)), .val (.int (wF nfl)), .unset, .unset, .unset, .unset, .unset, .unset, .unset, .unset, .unset, .unset] [])) target) : Steps p.tables e below (T0.setTop (mkF m 92 #[.val (.int q1), .val (.int q2), .val (.int q3), .val (.int q4), .val (.int sel), .val (.int nfl), .val (.int (kF sel)), .val (.int (psF sel)), .val (.double (pF sel)), .second, .val (.int (nF q1)), .val (.int (nkF sel q1 q2)), .val (.int (nkF sel q1 q3)), .unset, .unset, .unset, .unset, .unset, .unset, .unset, .unset, .unset, .unset, .unset, .unset, .unset] [])) target := by
  by_cases h1 : moF nfl = (1 : Int32)
  · rw [show wF nfl = (1 : Int32) by rw [wF, if_pos h1]] at kt; exact sg4a q1 q2 q3 q4 sel nfl X0 hx hZ hw hby hown h1 kt
  · by_cases h2 : moF nfl = (2 : Int32)
    · rw [show wF nfl = (1 : Int32) by rw [wF, if_neg h1, if_pos h2]] at kt; exact sg4b q1 q2 q3 q4 sel nfl X0 hx hZ hw hby hown h1 h2 kt
    · rw [show wF nfl = (0 : Int32) by rw [wF, if_neg h1, if_neg h2]] at kt; exact sg4c q1 q2 q3 q4 sel nfl X0 hx hZ hw hby hown h1 h2 kt
set_option maxRecDepth 65536 in
set_option maxHeartbeats 40000000 in
theorem sg5a {p : Program} {l : Launch} {e : Env} {R : Room} {s : State} {m : MethodId} {args : Array Value} {below : List Frame} {meth : Method} {c : Code} {T0 : State} {locs : List Loc} {cells slots : Nat} {Z : State} {a0 : Array Value} (q1 q2 q3 q4 sel nfl : Int32) (X0 : Stand p l e R s m args below meth c T0 locs cells slots) (hx : p.tables.exec = Jvm.exec) (hZ : Z.Warmed39 s.vm) (hw : ∀ d ∈ tables_1, d.before a0 Z = true) (hby : c.code = code) (hown : s.vm.findClass "com/example/retiremetric/retiremetric/engine/MeanMeanPinLaw" = some m.cls) (hc130 : (nfl &&& (4 : Int32)) = (0 : Int32)) {target : State}
    (kt : Steps p.tables e below (T0.setTop (mkF m 140 #[.val (.int q1), .val (.int q2), .val (.int q3), .val (.int q4), .val (.int sel), .val (.int nfl), .val (.int (kF sel)), .val (.int (psF sel)), .val (.double (pF sel)), .second, .val (.int (nF q1)), .val (.int (nkF sel q1 q2)), .val (.int (nkF sel q1 q3)), .val (.int (nF q4)), .val (.int (moF nfl)), .val (.int (wF nfl)), .val (.int (0 : Int32)), .unset, .unset, .unset, .unset, .unset, .unset, .unset, .unset, .unset] [])) target) : Steps p.tables e below (T0.setTop (mkF m 126 #[.val (.int q1), .val (.int q2), .val (.int q3), .val (.int q4), .val (.int sel), .val (.int nfl), .val (.int (kF sel)), .val (.int (psF sel)), .val (.double (pF sel)), .second, .val (.int (nF q1)), .val (.int (nkF sel q1 q2)), .val (.int (nkF sel q1 q3)), .val (.int (nF q4)), .val (.int (moF nfl)), .val (.int (wF nfl)), .unset, .unset, .unset, .unset, .unset, .unset, .unset, .unset, .unset, .unset] [])) target := by
  show Steps p.tables e below (T0.setTop (mkF m 126 #[.val (.int q1), .val (.int q2), .val (.int q3), .val (.int q4), .val (.int sel), .val (.int nfl), .val (.int (kF sel)), .val (.int (psF sel)), .val (.double (pF sel)), .second, .val (.int (nF q1)), .val (.int (nkF sel q1 q2)), .val (.int (nkF sel q1 q3)), .val (.int (nF q4)), .val (.int (moF nfl)), .val (.int (wF nfl)), .unset, .unset, .unset, .unset, .unset, .unset, .unset, .unset, .unset, .unset] [])) _
  refine XS.iload X0.here hx rfl (hb hby at_126) rfl ?_
  refine XS.iconst X0.here hx rfl (hb hby at_128) ?_
  refine XS.iand X0.here hx rfl (hb hby at_129) rfl ?_
  refine XS.ifYes X0.here hx rfl (pc0 := 130) (pc' := 137) rfl (hb hby at_130) rfl ((if0 _ _).trans (teq hc130).1) (by decide) (by decide) ?_
  show Steps p.tables e below (T0.setTop (mkF m 137 #[.val (.int q1), .val (.int q2), .val (.int q3), .val (.int q4), .val (.int sel), .val (.int nfl), .val (.int (kF sel)), .val (.int (psF sel)), .val (.double (pF sel)), .second, .val (.int (nF q1)), .val (.int (nkF sel q1 q2)), .val (.int (nkF sel q1 q3)), .val (.int (nF q4)), .val (.int (moF nfl)), .val (.int (wF nfl)), .unset, .unset, .unset, .unset, .unset, .unset, .unset, .unset, .unset, .unset] [])) _
  refine XS.iconst X0.here hx rfl (hb hby at_137) ?_
  refine XS.istore X0.here hx rfl (hb hby at_138) rfl (l' := #[.val (.int q1), .val (.int q2), .val (.int q3), .val (.int q4), .val (.int sel), .val (.int nfl), .val (.int (kF sel)), .val (.int (psF sel)), .val (.double (pF sel)), .second, .val (.int (nF q1)), .val (.int (nkF sel q1 q2)), .val (.int (nkF sel q1 q3)), .val (.int (nF q4)), .val (.int (moF nfl)), .val (.int (wF nfl)), .val (.int (0 : Int32)), .unset, .unset, .unset, .unset, .unset, .unset, .unset, .unset, .unset]) rfl ?_
  exact kt
set_option maxRecDepth 65536 in
set_option maxHeartbeats 40000000 in
theorem sg5b {p : Program} {l : Launch} {e : Env} {R : Room} {s : State} {m : MethodId} {args : Array Value} {below : List Frame} {meth : Method} {c : Code} {T0 : State} {locs : List Loc} {cells slots : Nat} {Z : State} {a0 : Array Value} (q1 q2 q3 q4 sel nfl : Int32) (X0 : Stand p l e R s m args below meth c T0 locs cells slots) (hx : p.tables.exec = Jvm.exec) (hZ : Z.Warmed39 s.vm) (hw : ∀ d ∈ tables_1, d.before a0 Z = true) (hby : c.code = code) (hown : s.vm.findClass "com/example/retiremetric/retiremetric/engine/MeanMeanPinLaw" = some m.cls) (hc130 : ¬ ((nfl &&& (4 : Int32)) = (0 : Int32))) {target : State}
    (kt : Steps p.tables e below (T0.setTop (mkF m 140 #[.val (.int q1), .val (.int q2), .val (.int q3), .val (.int q4), .val (.int sel), .val (.int nfl), .val (.int (kF sel)), .val (.int (psF sel)), .val (.double (pF sel)), .second, .val (.int (nF q1)), .val (.int (nkF sel q1 q2)), .val (.int (nkF sel q1 q3)), .val (.int (nF q4)), .val (.int (moF nfl)), .val (.int (wF nfl)), .val (.int (1 : Int32)), .unset, .unset, .unset, .unset, .unset, .unset, .unset, .unset, .unset] [])) target) : Steps p.tables e below (T0.setTop (mkF m 126 #[.val (.int q1), .val (.int q2), .val (.int q3), .val (.int q4), .val (.int sel), .val (.int nfl), .val (.int (kF sel)), .val (.int (psF sel)), .val (.double (pF sel)), .second, .val (.int (nF q1)), .val (.int (nkF sel q1 q2)), .val (.int (nkF sel q1 q3)), .val (.int (nF q4)), .val (.int (moF nfl)), .val (.int (wF nfl)), .unset, .unset, .unset, .unset, .unset, .unset, .unset, .unset, .unset, .unset] [])) target := by
  show Steps p.tables e below (T0.setTop (mkF m 126 #[.val (.int q1), .val (.int q2), .val (.int q3), .val (.int q4), .val (.int sel), .val (.int nfl), .val (.int (kF sel)), .val (.int (psF sel)), .val (.double (pF sel)), .second, .val (.int (nF q1)), .val (.int (nkF sel q1 q2)), .val (.int (nkF sel q1 q3)), .val (.int (nF q4)), .val (.int (moF nfl)), .val (.int (wF nfl)), .unset, .unset, .unset, .unset, .unset, .unset, .unset, .unset, .unset, .unset] [])) _
  refine XS.iload X0.here hx rfl (hb hby at_126) rfl ?_
  refine XS.iconst X0.here hx rfl (hb hby at_128) ?_
  refine XS.iand X0.here hx rfl (hb hby at_129) rfl ?_
  refine XS.ifNo X0.here hx rfl (hb hby at_130) rfl ((if0 _ _).trans (feq hc130).1) ?_
  show Steps p.tables e below (T0.setTop (mkF m 133 #[.val (.int q1), .val (.int q2), .val (.int q3), .val (.int q4), .val (.int sel), .val (.int nfl), .val (.int (kF sel)), .val (.int (psF sel)), .val (.double (pF sel)), .second, .val (.int (nF q1)), .val (.int (nkF sel q1 q2)), .val (.int (nkF sel q1 q3)), .val (.int (nF q4)), .val (.int (moF nfl)), .val (.int (wF nfl)), .unset, .unset, .unset, .unset, .unset, .unset, .unset, .unset, .unset, .unset] [])) _
  refine XS.iconst X0.here hx rfl (hb hby at_133) ?_
  refine XS.goto X0.here hx rfl (pc0 := 134) (pc' := 138) rfl (hb hby at_134) (by decide) (by decide) ?_
  refine XS.istore X0.here hx rfl (hb hby at_138) rfl (l' := #[.val (.int q1), .val (.int q2), .val (.int q3), .val (.int q4), .val (.int sel), .val (.int nfl), .val (.int (kF sel)), .val (.int (psF sel)), .val (.double (pF sel)), .second, .val (.int (nF q1)), .val (.int (nkF sel q1 q2)), .val (.int (nkF sel q1 q3)), .val (.int (nF q4)), .val (.int (moF nfl)), .val (.int (wF nfl)), .val (.int (1 : Int32)), .unset, .unset, .unset, .unset, .unset, .unset, .unset, .unset, .unset]) rfl ?_
  exact kt
set_option maxRecDepth 65536 in
set_option maxHeartbeats 40000000 in
theorem sg5 {p : Program} {l : Launch} {e : Env} {R : Room} {s : State} {m : MethodId} {args : Array Value} {below : List Frame} {meth : Method} {c : Code} {T0 : State} {locs : List Loc} {cells slots : Nat} {Z : State} {a0 : Array Value} (q1 q2 q3 q4 sel nfl : Int32) (X0 : Stand p l e R s m args below meth c T0 locs cells slots) (hx : p.tables.exec = Jvm.exec) (hZ : Z.Warmed39 s.vm) (hw : ∀ d ∈ tables_1, d.before a0 Z = true) (hby : c.code = code) (hown : s.vm.findClass "com/example/retiremetric/retiremetric/engine/MeanMeanPinLaw" = some m.cls) {target : State}
    (kt : Steps p.tables e below (T0.setTop (mkF m 140 #[.val (.int q1), .val (.int q2), .val (.int q3), .val (.int q4), .val (.int sel), .val (.int nfl), .val (.int (kF sel)), .val (.int (psF sel)), .val (.double (pF sel)), .second, .val (.int (nF q1)), .val (.int (nkF sel q1 q2)), .val (.int (nkF sel q1 q3)), .val (.int (nF q4)), .val (.int (moF nfl)), .val (.int (wF nfl)), .val (.int (ffF nfl)), .unset, .unset, .unset, .unset, .unset, .unset, .unset, .unset, .unset] [])) target) : Steps p.tables e below (T0.setTop (mkF m 126 #[.val (.int q1), .val (.int q2), .val (.int q3), .val (.int q4), .val (.int sel), .val (.int nfl), .val (.int (kF sel)), .val (.int (psF sel)), .val (.double (pF sel)), .second, .val (.int (nF q1)), .val (.int (nkF sel q1 q2)), .val (.int (nkF sel q1 q3)), .val (.int (nF q4)), .val (.int (moF nfl)), .val (.int (wF nfl)), .unset, .unset, .unset, .unset, .unset, .unset, .unset, .unset, .unset, .unset] [])) target := by
  by_cases h1 : (nfl &&& (4 : Int32)) = (0 : Int32)
  · rw [show ffF nfl = (0 : Int32) by rw [ffF, if_pos h1]] at kt; exact sg5a q1 q2 q3 q4 sel nfl X0 hx hZ hw hby hown h1 kt
  · rw [show ffF nfl = (1 : Int32) by rw [ffF, if_neg h1]] at kt; exact sg5b q1 q2 q3 q4 sel nfl X0 hx hZ hw hby hown h1 kt
set_option maxRecDepth 65536 in
set_option maxHeartbeats 40000000 in
theorem sg6a {p : Program} {l : Launch} {e : Env} {R : Room} {s : State} {m : MethodId} {args : Array Value} {below : List Frame} {meth : Method} {c : Code} {T0 : State} {locs : List Loc} {cells slots : Nat} {Z : State} {a0 : Array Value} (q1 q2 q3 q4 sel nfl : Int32) (X0 : Stand p l e R s m args below meth c T0 locs cells slots) (hx : p.tables.exec = Jvm.exec) (hZ : Z.Warmed39 s.vm) (hw : ∀ d ∈ tables_1, d.before a0 Z = true) (hby : c.code = code) (hown : s.vm.findClass "com/example/retiremetric/retiremetric/engine/MeanMeanPinLaw" = some m.cls) (hc143 : (moF nfl) = (1 : Int32)) {target : State}
    (kt : Steps p.tables e below (T0.setTop (mkF m 157 #[.val (.int q1), .val (.int q2), .val (.int q3), .val (.int q4), .val (.int sel), .val (.int nfl), .val (.int (kF sel)), .val (.int (psF sel)), .val (.double (pF sel)), .second, .val (.int (nF q1)), .val (.int (nkF sel q1 q2)), .val (.int (nkF sel q1 q3)), .val (.int (nF q4)), .val (.int (moF nfl)), .val (.int (wF nfl)), .val (.int (ffF nfl)), .val (.double (9218868437227405312 : UInt64)), .second, .unset, .unset, .unset, .unset, .unset, .unset, .unset] [])) target) : Steps p.tables e below (T0.setTop (mkF m 140 #[.val (.int q1), .val (.int q2), .val (.int q3), .val (.int q4), .val (.int sel), .val (.int nfl), .val (.int (kF sel)), .val (.int (psF sel)), .val (.double (pF sel)), .second, .val (.int (nF q1)), .val (.int (nkF sel q1 q2)), .val (.int (nkF sel q1 q3)), .val (.int (nF q4)), .val (.int (moF nfl)), .val (.int (wF nfl)), .val (.int (ffF nfl)), .unset, .unset, .unset, .unset, .unset, .unset, .unset, .unset, .unset] [])) target := by
  show Steps p.tables e below (T0.setTop (mkF m 140 #[.val (.int q1), .val (.int q2), .val (.int q3), .val (.int q4), .val (.int sel), .val (.int nfl), .val (.int (kF sel)), .val (.int (psF sel)), .val (.double (pF sel)), .second, .val (.int (nF q1)), .val (.int (nkF sel q1 q2)), .val (.int (nkF sel q1 q3)), .val (.int (nF q4)), .val (.int (moF nfl)), .val (.int (wF nfl)), .val (.int (ffF nfl)), .unset, .unset, .unset, .unset, .unset, .unset, .unset, .unset, .unset] [])) _
  refine XS.iload X0.here hx rfl (hb hby at_140) rfl ?_
  refine XS.iconst X0.here hx rfl (hb hby at_142) ?_
  refine XS.icmpNo X0.here hx rfl (hb hby at_143) rfl (teq hc143).2 ?_
  refine X0.ldc2DoubleC hx hown (mvT hZ (hw _ (List.mem_of_getElem? (i := 42) rfl))) (g := (mkF m 146 #[.val (.int q1), .val (.int q2), .val (.int q3), .val (.int q4), .val (.int sel), .val (.int nfl), .val (.int (kF sel)), .val (.int (psF sel)), .val (.double (pF sel)), .second, .val (.int (nF q1)), .val (.int (nkF sel q1 q2)), .val (.int (nkF sel q1 q3)), .val (.int (nF q4)), .val (.int (moF nfl)), .val (.int (wF nfl)), .val (.int (ffF nfl)), .unset, .unset, .unset, .unset, .unset, .unset, .unset, .unset, .unset] [])) rfl (hb hby at_146) _ ?_
  show Steps p.tables e below (T0.setTop (mkF m 149 #[.val (.int q1), .val (.int q2), .val (.int q3), .val (.int q4), .val (.int sel), .val (.int nfl), .val (.int (kF sel)), .val (.int (psF sel)), .val (.double (pF sel)), .second, .val (.int (nF q1)), .val (.int (nkF sel q1 q2)), .val (.int (nkF sel q1 q3)), .val (.int (nF q4)), .val (.int (moF nfl)), .val (.int (wF nfl)), .val (.int (ffF nfl)), .unset, .unset, .unset, .unset, .unset, .unset, .unset, .unset, .unset] [(.double (9218868437227405312 : UInt64))])) _
  refine XS.goto X0.here hx rfl (pc0 := 149) (pc' := 155) rfl (hb hby at_149) (by decide) (by decide) ?_
  refine XS.dstore X0.here hx rfl (hb hby at_155) rfl (l' := #[.val (.int q1), .val (.int q2), .val (.int q3), .val (.int q4), .val (.int sel), .val (.int nfl), .val (.int (kF sel)), .val (.int (psF sel)), .val (.double (pF sel)), .second, .val (.int (nF q1)), .val (.int (nkF sel q1 q2)), .val (.int (nkF sel q1 q3)), .val (.int (nF q4)), .val (.int (moF nfl)), .val (.int (wF nfl)), .val (.int (ffF nfl)), .val (.double (9218868437227405312 : UInt64)), .second, .unset, .unset, .unset, .unset, .unset, .unset, .unset]) rfl ?_
  exact kt
set_option maxRecDepth 65536 in
set_option maxHeartbeats 40000000 in
theorem sg6b {p : Program} {l : Launch} {e : Env} {R : Room} {s : State} {m : MethodId} {args : Array Value} {below : List Frame} {meth : Method} {c : Code} {T0 : State} {locs : List Loc} {cells slots : Nat} {Z : State} {a0 : Array Value} (q1 q2 q3 q4 sel nfl : Int32) (X0 : Stand p l e R s m args below meth c T0 locs cells slots) (hx : p.tables.exec = Jvm.exec) (hZ : Z.Warmed39 s.vm) (hw : ∀ d ∈ tables_1, d.before a0 Z = true) (hby : c.code = code) (hown : s.vm.findClass "com/example/retiremetric/retiremetric/engine/MeanMeanPinLaw" = some m.cls) (hc143 : ¬ ((moF nfl) = (1 : Int32))) {target : State}
    (kt : Steps p.tables e below (T0.setTop (mkF m 157 #[.val (.int q1), .val (.int q2), .val (.int q3), .val (.int q4), .val (.int sel), .val (.int nfl), .val (.int (kF sel)), .val (.int (psF sel)), .val (.double (pF sel)), .second, .val (.int (nF q1)), .val (.int (nkF sel q1 q2)), .val (.int (nkF sel q1 q3)), .val (.int (nF q4)), .val (.int (moF nfl)), .val (.int (wF nfl)), .val (.int (ffF nfl)), .val (.double (18442240474082181120 : UInt64)), .second, .unset, .unset, .unset, .unset, .unset, .unset, .unset] [])) target) : Steps p.tables e below (T0.setTop (mkF m 140 #[.val (.int q1), .val (.int q2), .val (.int q3), .val (.int q4), .val (.int sel), .val (.int nfl), .val (.int (kF sel)), .val (.int (psF sel)), .val (.double (pF sel)), .second, .val (.int (nF q1)), .val (.int (nkF sel q1 q2)), .val (.int (nkF sel q1 q3)), .val (.int (nF q4)), .val (.int (moF nfl)), .val (.int (wF nfl)), .val (.int (ffF nfl)), .unset, .unset, .unset, .unset, .unset, .unset, .unset, .unset, .unset] [])) target := by
  show Steps p.tables e below (T0.setTop (mkF m 140 #[.val (.int q1), .val (.int q2), .val (.int q3), .val (.int q4), .val (.int sel), .val (.int nfl), .val (.int (kF sel)), .val (.int (psF sel)), .val (.double (pF sel)), .second, .val (.int (nF q1)), .val (.int (nkF sel q1 q2)), .val (.int (nkF sel q1 q3)), .val (.int (nF q4)), .val (.int (moF nfl)), .val (.int (wF nfl)), .val (.int (ffF nfl)), .unset, .unset, .unset, .unset, .unset, .unset, .unset, .unset, .unset] [])) _
  refine XS.iload X0.here hx rfl (hb hby at_140) rfl ?_
  refine XS.iconst X0.here hx rfl (hb hby at_142) ?_
  refine XS.icmpYes X0.here hx rfl (pc0 := 143) (pc' := 152) rfl (hb hby at_143) rfl (feq hc143).2 (by decide) (by decide) ?_
  refine X0.ldc2DoubleC hx hown (mvT hZ (hw _ (List.mem_of_getElem? (i := 0) rfl))) (g := (mkF m 152 #[.val (.int q1), .val (.int q2), .val (.int q3), .val (.int q4), .val (.int sel), .val (.int nfl), .val (.int (kF sel)), .val (.int (psF sel)), .val (.double (pF sel)), .second, .val (.int (nF q1)), .val (.int (nkF sel q1 q2)), .val (.int (nkF sel q1 q3)), .val (.int (nF q4)), .val (.int (moF nfl)), .val (.int (wF nfl)), .val (.int (ffF nfl)), .unset, .unset, .unset, .unset, .unset, .unset, .unset, .unset, .unset] [])) rfl (hb hby at_152) _ ?_
  show Steps p.tables e below (T0.setTop (mkF m 155 #[.val (.int q1), .val (.int q2), .val (.int q3), .val (.int q4), .val (.int sel), .val (.int nfl), .val (.int (kF sel)), .val (.int (psF sel)), .val (.double (pF sel)), .second, .val (.int (nF q1)), .val (.int (nkF sel q1 q2)), .val (.int (nkF sel q1 q3)), .val (.int (nF q4)), .val (.int (moF nfl)), .val (.int (wF nfl)), .val (.int (ffF nfl)), .unset, .unset, .unset, .unset, .unset, .unset, .unset, .unset, .unset] [(.double (18442240474082181120 : UInt64))])) _
  refine XS.dstore X0.here hx rfl (hb hby at_155) rfl (l' := #[.val (.int q1), .val (.int q2), .val (.int q3), .val (.int q4), .val (.int sel), .val (.int nfl), .val (.int (kF sel)), .val (.int (psF sel)), .val (.double (pF sel)), .second, .val (.int (nF q1)), .val (.int (nkF sel q1 q2)), .val (.int (nkF sel q1 q3)), .val (.int (nF q4)), .val (.int (moF nfl)), .val (.int (wF nfl)), .val (.int (ffF nfl)), .val (.double (18442240474082181120 : UInt64)), .second, .unset, .unset, .unset, .unset, .unset, .unset, .unset]) rfl ?_
  exact kt
set_option maxRecDepth 65536 in
set_option maxHeartbeats 40000000 in
theorem sg6 {p : Program} {l : Launch} {e : Env} {R : Room} {s : State} {m : MethodId} {args : Array Value} {below : List Frame} {meth : Method} {c : Code} {T0 : State} {locs : List Loc} {cells slots : Nat} {Z : State} {a0 : Array Value} (q1 q2 q3 q4 sel nfl : Int32) (X0 : Stand p l e R s m args below meth c T0 locs cells slots) (hx : p.tables.exec = Jvm.exec) (hZ : Z.Warmed39 s.vm) (hw : ∀ d ∈ tables_1, d.before a0 Z = true) (hby : c.code = code) (hown : s.vm.findClass "com/example/retiremetric/retiremetric/engine/MeanMeanPinLaw" = some m.cls) {target : State}
    (kt : Steps p.tables e below (T0.setTop (mkF m 157 #[.val (.int q1), .val (.int q2), .val (.int q3), .val (.int q4), .val (.int sel), .val (.int nfl), .val (.int (kF sel)), .val (.int (psF sel)), .val (.double (pF sel)), .second, .val (.int (nF q1)), .val (.int (nkF sel q1 q2)), .val (.int (nkF sel q1 q3)), .val (.int (nF q4)), .val (.int (moF nfl)), .val (.int (wF nfl)), .val (.int (ffF nfl)), .val (.double (iV nfl)), .second, .unset, .unset, .unset, .unset, .unset, .unset, .unset] [])) target) : Steps p.tables e below (T0.setTop (mkF m 140 #[.val (.int q1), .val (.int q2), .val (.int q3), .val (.int q4), .val (.int sel), .val (.int nfl), .val (.int (kF sel)), .val (.int (psF sel)), .val (.double (pF sel)), .second, .val (.int (nF q1)), .val (.int (nkF sel q1 q2)), .val (.int (nkF sel q1 q3)), .val (.int (nF q4)), .val (.int (moF nfl)), .val (.int (wF nfl)), .val (.int (ffF nfl)), .unset, .unset, .unset, .unset, .unset, .unset, .unset, .unset, .unset] [])) target := by
  by_cases h1 : moF nfl = (1 : Int32)
  · rw [show iV nfl = (9218868437227405312 : UInt64) by rw [iV, if_pos h1]] at kt; exact sg6a q1 q2 q3 q4 sel nfl X0 hx hZ hw hby hown h1 kt
  · rw [show iV nfl = (18442240474082181120 : UInt64) by rw [iV, if_neg h1]] at kt; exact sg6b q1 q2 q3 q4 sel nfl X0 hx hZ hw hby hown h1 kt
def Q0 (h0 : Heap) (n0 : Nat) (v : Option Value) (h : Heap) (L : List Loc) : Prop := v = some (.int 1) ∧ Fr n0 L
section LawM
open Jvm.Kit
set_option maxRecDepth 65536 in
set_option maxHeartbeats 40000000 in
theorem rm0_n1 (l : Launch) (Z : State) (a0 : Array Value) (hw : ∀ d ∈ tables_1, d.before a0 Z = true) (ws : List Jvm.Cond) (q1 : Int32) (q2 : Int32) (q3 : Int32) (q4 : Int32) (sel : Int32) (nfl : Int32) (U : Nat) (h0 : Heap) (n0 : Nat) (Z0 : n0 ≤ h0.size) (hU : 74 ≤ U ∧ U ≤ 2074) (hU2 : U = 2074 ∨ U ≤ 1074) (hp : DV 1 U (pF sel)) (d1 : DV (nF q1).toInt U (FP.dmul (FP.i2d (nF q1)) (pF sel))) (r1 : -8388608 ≤ (nF q1).toInt ∧ (nF q1).toInt ≤ 8388607) (hkk : (kF sel).toInt = 1) (hsm : (((nF q1).toInt64)).toInt = (nF q1).toInt) (hc168 : (wF nfl) = (0 : Int32)) (hnan190 : Jvm.Free.Fl.NoNaN64 (FP.dmul (FP.i2d (nF q1)) (pF sel))) (hc197 : (kF sel) < (2 : Int32)) (hc214 : (kF sel) < (3 : Int32)) (hc231 : (kF sel) < (4 : Int32)) (hc247 : (wF nfl) = (0 : Int32)) (hc271 : (wF nfl) = (0 : Int32)) (hc296 : (kF sel) < (2 : Int32)) (hc310 : (kF sel) < (3 : Int32)) (hc324 : (kF sel) < (4 : Int32)) :
    MetFree l x (head1 (Jvm.Cond.code x code maxLocals ret :: ws) room_1) (fun aa_ U_ => aa_ = #[(.int q1), (.int q2), (.int q3), (.int q4), (.int sel), (.int nfl)] ∧ Z.Warmed39 U_.vm ∧ U_.heap = h0) (fun _ _ _ _ _ => True) (fun _ U_ o_ V_ => ∃ v_ L_, o_ = .returned v_ ∧ Q0  h0 n0 v_ V_.heap L_ ∧ FrameEnd U_ o_ V_ L_ room_1.cells room_1.slots) := by
  refine MetFree.of_bodySF (plainFor_of_name pn_0) hisR ?_
  intro p e s m args below meth c s₁ Bd hml0 hP hK
  obtain ⟨rfl, hZ, hh⟩ := hP
  have hx := Bd.exec
  have hby := Bd.bytes
  have hml : c.maxLocals = 26 := hml0
  have hown : s.vm.findClass "com/example/retiremetric/retiremetric/engine/MeanMeanPinLaw" = some m.cls := findClass_of_methodNamed Bd.named
  have hnm := (name_of_methodNamed Bd.named Bd.method).1
  have X0 : Stand p l e room_1 s m #[(.int q1), (.int q2), (.int q3), (.int q4), (.int sel), (.int nfl)] below meth c s₁ [] 0 0 := Stand.of_body Bd
  have e0 : s₁.heap = h0 := by rw [← hh, Bd.state]; rfl
  have N0 := Fr.nil n0
  have pre0 : ∀ zz, Steps p.tables e below (s₁.setTop (mkF m 0 #[.val (.int q1), .val (.int q2), .val (.int q3), .val (.int q4), .val (.int sel), .val (.int nfl), .unset, .unset, .unset, .unset, .unset, .unset, .unset, .unset, .unset, .unset, .unset, .unset, .unset, .unset, .unset, .unset, .unset, .unset, .unset, .unset] [])) zz → Steps p.tables e below (s₁.setTop (entryFrame m #[(.int q1), (.int q2), (.int q3), (.int q4), (.int sel), (.int nfl)] maxLocals)) zz := fun zz k => castTop (ef_0 m q1 q2 q3 q4 sel nfl) k
  have mv0 : MV U 0 0 0 0 FP.dconst1 0 0 := ⟨by omega, zero_dv _, one_dv, zero_dv _, zero_dv _, by simp⟩
  obtain ⟨T90, h90, X90, e90, E90, A90, D90, -, st90⟩ := newO X0 hx hZ hown (hw _ (List.mem_of_getElem? (i := 1) rfl)) (hw _ (List.mem_of_getElem? (i := 2) rfl)) (hw _ (List.mem_of_getElem? (i := 3) rfl)) e0 (g := (mkF m 157 #[.val (.int q1), .val (.int q2), .val (.int q3), .val (.int q4), .val (.int sel), .val (.int nfl), .val (.int (kF sel)), .val (.int (psF sel)), .val (.double (pF sel)), .second, .val (.int (nF q1)), .val (.int (nkF sel q1 q2)), .val (.int (nkF sel q1 q3)), .val (.int (nF q4)), .val (.int (moF nfl)), .val (.int (wF nfl)), .val (.int (ffF nfl)), .val (.double (iV nfl)), .second, .unset, .unset, .unset, .unset, .unset, .unset, .unset] [])) rfl (hb hby at_157) (by decide) (by decide)
  obtain ⟨b90, g90⟩ : ∃ z, z = h0.size := ⟨_, rfl⟩
  rw [← g90] at A90 D90 st90
  have E_b90 := A90
  have g_b90 : n0 ≤ b90 := Nat.le_trans Z0 (Nat.le_of_eq g90.symm)
  have sz_b90 : h0.size ≤ b90 := Nat.le_trans (Keep.refl h0 []).1 (Nat.le_of_eq g90.symm)
  have K90 := (Keep.refl h0 []).ext E90
  have Z90 : n0 ≤ h90.size := Nat.le_trans Z0 E90.1
  have F_scale_b90 : Fld Z h90 b90 "com/example/retiremetric/retiremetric/engine/Mean" "scale" "D" (.double 0) := D90 (Or.inl (hw _ (List.mem_of_getElem? (i := 11) rfl))) (ty := .double) (by decide)
  have F_count_b90 : Fld Z h90 b90 "com/example/retiremetric/retiremetric/engine/Mean" "count" "J" (.long (0 : Int64)) := D90 (Or.inl (hw _ (List.mem_of_getElem? (i := 27) rfl))) (ty := .long) (by decide)
  have F_first_b90 : Fld Z h90 b90 "com/example/retiremetric/retiremetric/engine/Mean" "first" "D" (.double 0) := D90 (Or.inl (hw _ (List.mem_of_getElem? (i := 29) rfl))) (ty := .double) (by decide)
  have F_scaledFirst_b90 : Fld Z h90 b90 "com/example/retiremetric/retiremetric/engine/Mean" "scaledFirst" "D" (.double 0) := D90 (Or.inl (hw _ (List.mem_of_getElem? (i := 31) rfl))) (ty := .double) (by decide)
  have F_differences_b90 : Fld Z h90 b90 "com/example/retiremetric/retiremetric/engine/Mean" "differences" "D" (.double 0) := D90 (Or.inl (hw _ (List.mem_of_getElem? (i := 33) rfl))) (ty := .double) (by decide)
  have F_infinities_b90 : Fld Z h90 b90 "com/example/retiremetric/retiremetric/engine/Mean" "infinities" "D" (.double 0) := D90 (Or.inl (hw _ (List.mem_of_getElem? (i := 40) rfl))) (ty := .double) (by decide)
  obtain ⟨_, _, ⟨T91, L91, k91, n91⟩, -, X91, ⟨Lc91, hQ91, l91, y91, z91⟩, st91⟩ := X90.specialBack hx (y := (⟨"com/example/retiremetric/retiremetric/engine/Mean", "<init>", "()V"⟩ : MethodName)) rfl hown (mvT hZ (hw _ (List.mem_of_getElem? (i := 4) rfl))) (mvT hZ (hw _ (List.mem_of_getElem? (i := 5) rfl))) (mvT hZ (hw _ (List.mem_of_getElem? (i := 6) rfl))) (by decide) (backOf (W := 1) (rm1 l Z a0 hw [] b90 h90 n0 Z90 g_b90 ⟨E_b90, F_first_b90, F_scale_b90, F_scaledFirst_b90, F_differences_b90, F_infinities_b90, F_count_b90⟩) hZ (hw _ (List.mem_of_getElem? (i := 6) rfl)) (hw _ (List.mem_of_getElem? (i := 3) rfl)) (by decide) (by decide)) (g := (mkF m 161 #[.val (.int q1), .val (.int q2), .val (.int q3), .val (.int q4), .val (.int sel), .val (.int nfl), .val (.int (kF sel)), .val (.int (psF sel)), .val (.double (pF sel)), .second, .val (.int (nF q1)), .val (.int (nkF sel q1 q2)), .val (.int (nkF sel q1 q3)), .val (.int (nF q4)), .val (.int (moF nfl)), .val (.int (wF nfl)), .val (.int (ffF nfl)), .val (.double (iV nfl)), .second, .unset, .unset, .unset, .unset, .unset, .unset, .unset] [(.ref b90), (.ref b90)])) rfl (by rw [hml]; rfl) (Steps.refl _) (a := b90) (argsL := []) (rest := [(.ref b90)]) (lenOf pd_0 rfl) rfl (by show 2 * 0 + _ ≤ _; exact Nat.le_of_eq rfl) (hb hby at_161) (fun _ _ => ⟨rfl, e90, (by decide : 1 + 0 ≤ _), (by decide : 6 + 0 ≤ _)⟩)
  dsimp only [Pt.U, Pt.locs, Pt.cells, Pt.slots] at X91 l91 y91 z91 st91 hQ91
  subst l91 y91 z91
  obtain ⟨rfl, N91q, K91q, M91⟩ := hQ91
  have N91 := Fr.app N0 N91q
  have Z91 : n0 ≤ T91.heap.size := Nat.le_trans Z90 K91q.1
  obtain ⟨cq92, kq92, q92a, q92b, q92c⟩ := isOf hZ rfl M91.1
  obtain ⟨_, _, ⟨T92, L92, k92, n92⟩, -, X92, ⟨Lc92, hQ92, l92, y92, z92⟩, st92⟩ := X91.virtualBack hx (y := (⟨"com/example/retiremetric/retiremetric/engine/Mean", "add", "(D)V"⟩ : MethodName)) (z := (⟨"com/example/retiremetric/retiremetric/engine/Mean", "add", "(D)V"⟩ : MethodName)) hown (mvT hZ (hw _ (List.mem_of_getElem? (i := 12) rfl))) (mvT hZ (hw _ (List.mem_of_getElem? (i := 13) rfl))) (notFace_of_selects (args := #[]) (mvT hZ (hw _ (List.mem_of_getElem? (i := 15) rfl)))) (mvT hZ (hw _ (List.mem_of_getElem? (i := 15) rfl))) (mvT hZ (hw _ (List.mem_of_getElem? (i := 14) rfl))) (by decide) (backOf (W := 0) (rm3_one l Z a0 hw [] b90 (FP.dmul (FP.i2d (nF q1)) (pF sel)) 0 U (nF q1).toInt T91.heap n0 Z91 g_b90 M91 hU d1 (by omega)) hZ (hw _ (List.mem_of_getElem? (i := 16) rfl)) (hw _ (List.mem_of_getElem? (i := 3) rfl)) (by decide) (by decide)) q92a q92c (g := (mkF m 191 #[.val (.int q1), .val (.int q2), .val (.int q3), .val (.int q4), .val (.int sel), .val (.int nfl), .val (.int (kF sel)), .val (.int (psF sel)), .val (.double (pF sel)), .second, .val (.int (nF q1)), .val (.int (nkF sel q1 q2)), .val (.int (nkF sel q1 q3)), .val (.int (nF q4)), .val (.int (moF nfl)), .val (.int (wF nfl)), .val (.int (ffF nfl)), .val (.double (iV nfl)), .second, .val (.ref b90), .unset, .unset, .unset, .unset, .unset, .unset] [(.double (FP.dmul (FP.i2d (nF q1)) (pF sel))), (.ref b90)])) rfl (by rw [hml]; rfl) (Steps.refl _) (argsL := [(.double (FP.dmul (FP.i2d (nF q1)) (pF sel)))]) (rest := []) (lenOf pd_1 rfl) rfl (by show 2 * 0 + _ ≤ _; exact Nat.le_of_eq rfl) (hb hby at_191) (fun _ _ => ⟨rfl, rfl, (by decide : 1 + 0 ≤ _), (by decide : 6 + 0 ≤ _)⟩)
  dsimp only [Pt.U, Pt.locs, Pt.cells, Pt.slots] at X92 l92 y92 z92 st92 hQ92
  subst l92 y92 z92
  obtain ⟨x92, f92, sc92, sf92, df92, V92, rfl, N92q, K92q, M92⟩ := hQ92
  have N92 := Fr.app N91 N92q
  have Z92 : n0 ≤ T92.heap.size := Nat.le_trans Z91 K92q.1
  obtain ⟨m1, m2, m3, m4, m5, m6⟩ := mean_ok (j := 0) (ct := (0 + (1 : Int64))) (sm := ((nF q1).toInt64)) (kk := (kF sel)) (p := (pF sel)) (S := (nF q1).toInt) hU (by omega) V92 (by omega) (by omega) (by decide) hkk hsm hp
  obtain ⟨cq93, kq93, q93a, q93b, q93c⟩ := isOf hZ rfl M92.1
  obtain ⟨_, _, ⟨T93, L93, k93, n93⟩, -, X93, ⟨Lc93, hQ93, l93, y93, z93⟩, st93⟩ := X92.virtualBack hx (y := (⟨"com/example/retiremetric/retiremetric/engine/Mean", "mean", "()D"⟩ : MethodName)) (z := (⟨"com/example/retiremetric/retiremetric/engine/Mean", "mean", "()D"⟩ : MethodName)) hown (mvT hZ (hw _ (List.mem_of_getElem? (i := 34) rfl))) (mvT hZ (hw _ (List.mem_of_getElem? (i := 35) rfl))) (notFace_of_selects (args := #[]) (mvT hZ (hw _ (List.mem_of_getElem? (i := 37) rfl)))) (mvT hZ (hw _ (List.mem_of_getElem? (i := 37) rfl))) (mvT hZ (hw _ (List.mem_of_getElem? (i := 36) rfl))) (by decide) (backOf (W := 0) (rm6_F l Z a0 hw [] b90 f92 sc92 sf92 df92 0 (0 + (1 : Int64)) T92.heap n0 Z92 M92 (by decide) (by decide +kernel) m1 m2 m3) hZ (hw _ (List.mem_of_getElem? (i := 38) rfl)) (hw _ (List.mem_of_getElem? (i := 3) rfl)) (by decide) (by decide)) q93a q93c (g := (mkF m 264 #[.val (.int q1), .val (.int q2), .val (.int q3), .val (.int q4), .val (.int sel), .val (.int nfl), .val (.int (kF sel)), .val (.int (psF sel)), .val (.double (pF sel)), .second, .val (.int (nF q1)), .val (.int (nkF sel q1 q2)), .val (.int (nkF sel q1 q3)), .val (.int (nF q4)), .val (.int (moF nfl)), .val (.int (wF nfl)), .val (.int (ffF nfl)), .val (.double (iV nfl)), .second, .val (.ref b90), .unset, .unset, .unset, .unset, .unset, .unset] [(.ref b90)])) rfl (by rw [hml]; rfl) (Steps.refl _) (argsL := []) (rest := []) (lenOf pd_4 rfl) rfl (by show 2 * 0 + _ ≤ _; exact Nat.le_of_eq rfl) (hb hby at_264) (fun _ _ => ⟨rfl, rfl, (by decide : 1 + 0 ≤ _), (by decide : 6 + 0 ≤ _)⟩)
  dsimp only [Pt.U, Pt.locs, Pt.cells, Pt.slots] at X93 l93 y93 z93 st93 hQ93
  subst l93 y93 z93
  obtain ⟨rfl, N93q, e93⟩ := hQ93
  have N93 := Fr.app N92 N93q
  obtain ⟨fs, hr, hrun, hended, hW, hsame⟩ := X93.leave (v := some (.int (1 : Int32))) (fun h => by rw [Bd.returns] at h; cases h)
  refine ⟨_, _, pre0 _ ?_, hrun, hended, _, _, rfl, ?_, ⟨_, rfl⟩, hW, hsame.mono (by decide) (by decide)⟩
  · refine sg1 q1 q2 q3 q4 sel nfl X0 hx hZ hw hby hown ?_
    refine sg2 q1 q2 q3 q4 sel nfl X0 hx hZ hw hby hown ?_
    refine sg3 q1 q2 q3 q4 sel nfl X0 hx hZ hw hby hown ?_
    refine sg4 q1 q2 q3 q4 sel nfl X0 hx hZ hw hby hown ?_
    refine sg5 q1 q2 q3 q4 sel nfl X0 hx hZ hw hby hown ?_
    refine sg6 q1 q2 q3 q4 sel nfl X0 hx hZ hw hby hown ?_
    show Steps p.tables e below (s₁.setTop (mkF m 157 #[.val (.int q1), .val (.int q2), .val (.int q3), .val (.int q4), .val (.int sel), .val (.int nfl), .val (.int (kF sel)), .val (.int (psF sel)), .val (.double (pF sel)), .second, .val (.int (nF q1)), .val (.int (nkF sel q1 q2)), .val (.int (nkF sel q1 q3)), .val (.int (nF q4)), .val (.int (moF nfl)), .val (.int (wF nfl)), .val (.int (ffF nfl)), .val (.double (iV nfl)), .second, .unset, .unset, .unset, .unset, .unset, .unset, .unset] [])) _
    refine st90 _ ?_
    refine XS.dup X90.here hx rfl (hb hby at_160) rfl rfl ?_
    show Steps p.tables e below (T90.setTop (mkF m 161 #[.val (.int q1), .val (.int q2), .val (.int q3), .val (.int q4), .val (.int sel), .val (.int nfl), .val (.int (kF sel)), .val (.int (psF sel)), .val (.double (pF sel)), .second, .val (.int (nF q1)), .val (.int (nkF sel q1 q2)), .val (.int (nkF sel q1 q3)), .val (.int (nF q4)), .val (.int (moF nfl)), .val (.int (wF nfl)), .val (.int (ffF nfl)), .val (.double (iV nfl)), .second, .unset, .unset, .unset, .unset, .unset, .unset, .unset] [(.ref b90), (.ref b90)])) _
    refine st91.trans ?_
    refine XS.astore X91.here hx rfl (hb hby at_164) rfl rfl (l' := #[.val (.int q1), .val (.int q2), .val (.int q3), .val (.int q4), .val (.int sel), .val (.int nfl), .val (.int (kF sel)), .val (.int (psF sel)), .val (.double (pF sel)), .second, .val (.int (nF q1)), .val (.int (nkF sel q1 q2)), .val (.int (nkF sel q1 q3)), .val (.int (nF q4)), .val (.int (moF nfl)), .val (.int (wF nfl)), .val (.int (ffF nfl)), .val (.double (iV nfl)), .second, .val (.ref b90), .unset, .unset, .unset, .unset, .unset, .unset]) rfl ?_
    refine XS.iload X91.here hx rfl (hb hby at_166) rfl ?_
    refine XS.ifYes X91.here hx rfl (pc0 := 168) (pc' := 183) rfl (hb hby at_168) rfl ((if0 _ _).trans (teq hc168).1) (by decide) (by decide) ?_
    show Steps p.tables e below (T91.setTop (mkF m 183 #[.val (.int q1), .val (.int q2), .val (.int q3), .val (.int q4), .val (.int sel), .val (.int nfl), .val (.int (kF sel)), .val (.int (psF sel)), .val (.double (pF sel)), .second, .val (.int (nF q1)), .val (.int (nkF sel q1 q2)), .val (.int (nkF sel q1 q3)), .val (.int (nF q4)), .val (.int (moF nfl)), .val (.int (wF nfl)), .val (.int (ffF nfl)), .val (.double (iV nfl)), .second, .val (.ref b90), .unset, .unset, .unset, .unset, .unset, .unset] [])) _
    refine XS.aload X91.here hx rfl (hb hby at_183) rfl rfl ?_
    refine XS.iload X91.here hx rfl (hb hby at_185) rfl ?_
    refine XS.i2dS X91.here hx rfl (hb hby at_187) rfl rfl ?_
    refine XS.dload X91.here hx rfl (hb hby at_188) rfl ?_
    show Steps p.tables e below (T91.setTop (mkF m 190 #[.val (.int q1), .val (.int q2), .val (.int q3), .val (.int q4), .val (.int sel), .val (.int nfl), .val (.int (kF sel)), .val (.int (psF sel)), .val (.double (pF sel)), .second, .val (.int (nF q1)), .val (.int (nkF sel q1 q2)), .val (.int (nkF sel q1 q3)), .val (.int (nF q4)), .val (.int (moF nfl)), .val (.int (wF nfl)), .val (.int (ffF nfl)), .val (.double (iV nfl)), .second, .val (.ref b90), .unset, .unset, .unset, .unset, .unset, .unset] [(.double (pF sel)), (.double (FP.i2d (nF q1))), (.ref b90)])) _
    refine XS.dmulS X91.here hx rfl (hb hby at_190) rfl hnan190 rfl ?_
    show Steps p.tables e below (T91.setTop (mkF m 191 #[.val (.int q1), .val (.int q2), .val (.int q3), .val (.int q4), .val (.int sel), .val (.int nfl), .val (.int (kF sel)), .val (.int (psF sel)), .val (.double (pF sel)), .second, .val (.int (nF q1)), .val (.int (nkF sel q1 q2)), .val (.int (nkF sel q1 q3)), .val (.int (nF q4)), .val (.int (moF nfl)), .val (.int (wF nfl)), .val (.int (ffF nfl)), .val (.double (iV nfl)), .second, .val (.ref b90), .unset, .unset, .unset, .unset, .unset, .unset] [(.double (FP.dmul (FP.i2d (nF q1)) (pF sel))), (.ref b90)])) _
    refine st92.trans ?_
    refine XS.iload X92.here hx rfl (hb hby at_194) rfl ?_
    refine XS.iconst X92.here hx rfl (hb hby at_196) ?_
    refine XS.icmpYes X92.here hx rfl (pc0 := 197) (pc' := 211) rfl (hb hby at_197) rfl (tlt hc197).1 (by decide) (by decide) ?_
    show Steps p.tables e below (T92.setTop (mkF m 211 #[.val (.int q1), .val (.int q2), .val (.int q3), .val (.int q4), .val (.int sel), .val (.int nfl), .val (.int (kF sel)), .val (.int (psF sel)), .val (.double (pF sel)), .second, .val (.int (nF q1)), .val (.int (nkF sel q1 q2)), .val (.int (nkF sel q1 q3)), .val (.int (nF q4)), .val (.int (moF nfl)), .val (.int (wF nfl)), .val (.int (ffF nfl)), .val (.double (iV nfl)), .second, .val (.ref b90), .unset, .unset, .unset, .unset, .unset, .unset] [])) _
    refine XS.iload X92.here hx rfl (hb hby at_211) rfl ?_
    refine XS.iconst X92.here hx rfl (hb hby at_213) ?_
    refine XS.icmpYes X92.here hx rfl (pc0 := 214) (pc' := 228) rfl (hb hby at_214) rfl (tlt hc214).1 (by decide) (by decide) ?_
    refine XS.iload X92.here hx rfl (hb hby at_228) rfl ?_
    show Steps p.tables e below (T92.setTop (mkF m 230 #[.val (.int q1), .val (.int q2), .val (.int q3), .val (.int q4), .val (.int sel), .val (.int nfl), .val (.int (kF sel)), .val (.int (psF sel)), .val (.double (pF sel)), .second, .val (.int (nF q1)), .val (.int (nkF sel q1 q2)), .val (.int (nkF sel q1 q3)), .val (.int (nF q4)), .val (.int (moF nfl)), .val (.int (wF nfl)), .val (.int (ffF nfl)), .val (.double (iV nfl)), .second, .val (.ref b90), .unset, .unset, .unset, .unset, .unset, .unset] [(.int (kF sel))])) _
    refine XS.iconst X92.here hx rfl (hb hby at_230) ?_
    refine XS.icmpYes X92.here hx rfl (pc0 := 231) (pc' := 245) rfl (hb hby at_231) rfl (tlt hc231).1 (by decide) (by decide) ?_
    refine XS.iload X92.here hx rfl (hb hby at_245) rfl ?_
    refine XS.ifYes X92.here hx rfl (pc0 := 247) (pc' := 262) rfl (hb hby at_247) rfl ((if0 _ _).trans (teq hc247).1) (by decide) (by decide) ?_
    show Steps p.tables e below (T92.setTop (mkF m 262 #[.val (.int q1), .val (.int q2), .val (.int q3), .val (.int q4), .val (.int sel), .val (.int nfl), .val (.int (kF sel)), .val (.int (psF sel)), .val (.double (pF sel)), .second, .val (.int (nF q1)), .val (.int (nkF sel q1 q2)), .val (.int (nkF sel q1 q3)), .val (.int (nF q4)), .val (.int (moF nfl)), .val (.int (wF nfl)), .val (.int (ffF nfl)), .val (.double (iV nfl)), .second, .val (.ref b90), .unset, .unset, .unset, .unset, .unset, .unset] [])) _
    refine XS.aload X92.here hx rfl (hb hby at_262) rfl rfl ?_
    show Steps p.tables e below (T92.setTop (mkF m 264 #[.val (.int q1), .val (.int q2), .val (.int q3), .val (.int q4), .val (.int sel), .val (.int nfl), .val (.int (kF sel)), .val (.int (psF sel)), .val (.double (pF sel)), .second, .val (.int (nF q1)), .val (.int (nkF sel q1 q2)), .val (.int (nkF sel q1 q3)), .val (.int (nF q4)), .val (.int (moF nfl)), .val (.int (wF nfl)), .val (.int (ffF nfl)), .val (.double (iV nfl)), .second, .val (.ref b90), .unset, .unset, .unset, .unset, .unset, .unset] [(.ref b90)])) _
    refine st93.trans ?_
    refine XS.dstore X93.here hx rfl (hb hby at_267) rfl (l' := #[.val (.int q1), .val (.int q2), .val (.int q3), .val (.int q4), .val (.int sel), .val (.int nfl), .val (.int (kF sel)), .val (.int (psF sel)), .val (.double (pF sel)), .second, .val (.int (nF q1)), .val (.int (nkF sel q1 q2)), .val (.int (nkF sel q1 q3)), .val (.int (nF q4)), .val (.int (moF nfl)), .val (.int (wF nfl)), .val (.int (ffF nfl)), .val (.double (iV nfl)), .second, .val (.ref b90), .val (.double (FP.ddiv (FP.dadd sf92 (FP.ddiv df92 (FP.l2d (0 + (1 : Int64))))) sc92)), .second, .unset, .unset, .unset, .unset]) rfl ?_
    refine XS.iload X93.here hx rfl (hb hby at_269) rfl ?_
    refine XS.ifYes X93.here hx rfl (pc0 := 271) (pc' := 288) rfl (hb hby at_271) rfl ((if0 _ _).trans (teq hc271).1) (by decide) (by decide) ?_
    show Steps p.tables e below (T93.setTop (mkF m 288 #[.val (.int q1), .val (.int q2), .val (.int q3), .val (.int q4), .val (.int sel), .val (.int nfl), .val (.int (kF sel)), .val (.int (psF sel)), .val (.double (pF sel)), .second, .val (.int (nF q1)), .val (.int (nkF sel q1 q2)), .val (.int (nkF sel q1 q3)), .val (.int (nF q4)), .val (.int (moF nfl)), .val (.int (wF nfl)), .val (.int (ffF nfl)), .val (.double (iV nfl)), .second, .val (.ref b90), .val (.double (FP.ddiv (FP.dadd sf92 (FP.ddiv df92 (FP.l2d (0 + (1 : Int64))))) sc92)), .second, .unset, .unset, .unset, .unset] [])) _
    refine XS.iload X93.here hx rfl (hb hby at_288) rfl ?_
    refine XS.i2l X93.here hx rfl (hb hby at_290) rfl ?_
    refine XS.lstore X93.here hx rfl (hb hby at_291) rfl (l' := #[.val (.int q1), .val (.int q2), .val (.int q3), .val (.int q4), .val (.int sel), .val (.int nfl), .val (.int (kF sel)), .val (.int (psF sel)), .val (.double (pF sel)), .second, .val (.int (nF q1)), .val (.int (nkF sel q1 q2)), .val (.int (nkF sel q1 q3)), .val (.int (nF q4)), .val (.int (moF nfl)), .val (.int (wF nfl)), .val (.int (ffF nfl)), .val (.double (iV nfl)), .second, .val (.ref b90), .val (.double (FP.ddiv (FP.dadd sf92 (FP.ddiv df92 (FP.l2d (0 + (1 : Int64))))) sc92)), .second, .val (.long ((nF q1).toInt64)), .second, .unset, .unset]) rfl ?_
    refine XS.iload X93.here hx rfl (hb hby at_293) rfl ?_
    show Steps p.tables e below (T93.setTop (mkF m 295 #[.val (.int q1), .val (.int q2), .val (.int q3), .val (.int q4), .val (.int sel), .val (.int nfl), .val (.int (kF sel)), .val (.int (psF sel)), .val (.double (pF sel)), .second, .val (.int (nF q1)), .val (.int (nkF sel q1 q2)), .val (.int (nkF sel q1 q3)), .val (.int (nF q4)), .val (.int (moF nfl)), .val (.int (wF nfl)), .val (.int (ffF nfl)), .val (.double (iV nfl)), .second, .val (.ref b90), .val (.double (FP.ddiv (FP.dadd sf92 (FP.ddiv df92 (FP.l2d (0 + (1 : Int64))))) sc92)), .second, .val (.long ((nF q1).toInt64)), .second, .unset, .unset] [(.int (kF sel))])) _
    refine XS.iconst X93.here hx rfl (hb hby at_295) ?_
    refine XS.icmpYes X93.here hx rfl (pc0 := 296) (pc' := 307) rfl (hb hby at_296) rfl (tlt hc296).1 (by decide) (by decide) ?_
    refine XS.iload X93.here hx rfl (hb hby at_307) rfl ?_
    refine XS.iconst X93.here hx rfl (hb hby at_309) ?_
    show Steps p.tables e below (T93.setTop (mkF m 310 #[.val (.int q1), .val (.int q2), .val (.int q3), .val (.int q4), .val (.int sel), .val (.int nfl), .val (.int (kF sel)), .val (.int (psF sel)), .val (.double (pF sel)), .second, .val (.int (nF q1)), .val (.int (nkF sel q1 q2)), .val (.int (nkF sel q1 q3)), .val (.int (nF q4)), .val (.int (moF nfl)), .val (.int (wF nfl)), .val (.int (ffF nfl)), .val (.double (iV nfl)), .second, .val (.ref b90), .val (.double (FP.ddiv (FP.dadd sf92 (FP.ddiv df92 (FP.l2d (0 + (1 : Int64))))) sc92)), .second, .val (.long ((nF q1).toInt64)), .second, .unset, .unset] [(.int (3 : Int32)), (.int (kF sel))])) _
    refine XS.icmpYes X93.here hx rfl (pc0 := 310) (pc' := 321) rfl (hb hby at_310) rfl (tlt hc310).1 (by decide) (by decide) ?_
    refine XS.iload X93.here hx rfl (hb hby at_321) rfl ?_
    refine XS.iconst X93.here hx rfl (hb hby at_323) ?_
    refine XS.icmpYes X93.here hx rfl (pc0 := 324) (pc' := 335) rfl (hb hby at_324) rfl (tlt hc324).1 (by decide) (by decide) ?_
    show Steps p.tables e below (T93.setTop (mkF m 335 #[.val (.int q1), .val (.int q2), .val (.int q3), .val (.int q4), .val (.int sel), .val (.int nfl), .val (.int (kF sel)), .val (.int (psF sel)), .val (.double (pF sel)), .second, .val (.int (nF q1)), .val (.int (nkF sel q1 q2)), .val (.int (nkF sel q1 q3)), .val (.int (nF q4)), .val (.int (moF nfl)), .val (.int (wF nfl)), .val (.int (ffF nfl)), .val (.double (iV nfl)), .second, .val (.ref b90), .val (.double (FP.ddiv (FP.dadd sf92 (FP.ddiv df92 (FP.l2d (0 + (1 : Int64))))) sc92)), .second, .val (.long ((nF q1).toInt64)), .second, .unset, .unset] [])) _
    refine XS.lload X93.here hx rfl (hb hby at_335) rfl ?_
    refine XS.l2dS X93.here hx rfl (hb hby at_337) rfl rfl ?_
    refine XS.iload X93.here hx rfl (hb hby at_338) rfl ?_
    refine XS.i2dS X93.here hx rfl (hb hby at_340) rfl rfl ?_
    show Steps p.tables e below (T93.setTop (mkF m 341 #[.val (.int q1), .val (.int q2), .val (.int q3), .val (.int q4), .val (.int sel), .val (.int nfl), .val (.int (kF sel)), .val (.int (psF sel)), .val (.double (pF sel)), .second, .val (.int (nF q1)), .val (.int (nkF sel q1 q2)), .val (.int (nkF sel q1 q3)), .val (.int (nF q4)), .val (.int (moF nfl)), .val (.int (wF nfl)), .val (.int (ffF nfl)), .val (.double (iV nfl)), .second, .val (.ref b90), .val (.double (FP.ddiv (FP.dadd sf92 (FP.ddiv df92 (FP.l2d (0 + (1 : Int64))))) sc92)), .second, .val (.long ((nF q1).toInt64)), .second, .unset, .unset] [(.double (FP.i2d (kF sel))), (.double (FP.l2d ((nF q1).toInt64)))])) _
    refine XS.ddivS X93.here hx rfl (hb hby at_341) rfl m4 rfl ?_
    refine XS.dload X93.here hx rfl (hb hby at_342) rfl ?_
    refine XS.dmulS X93.here hx rfl (hb hby at_344) rfl m5 rfl ?_
    refine XS.dstore X93.here hx rfl (hb hby at_345) rfl (l' := #[.val (.int q1), .val (.int q2), .val (.int q3), .val (.int q4), .val (.int sel), .val (.int nfl), .val (.int (kF sel)), .val (.int (psF sel)), .val (.double (pF sel)), .second, .val (.int (nF q1)), .val (.int (nkF sel q1 q2)), .val (.int (nkF sel q1 q3)), .val (.int (nF q4)), .val (.int (moF nfl)), .val (.int (wF nfl)), .val (.int (ffF nfl)), .val (.double (iV nfl)), .second, .val (.ref b90), .val (.double (FP.ddiv (FP.dadd sf92 (FP.ddiv df92 (FP.l2d (0 + (1 : Int64))))) sc92)), .second, .val (.long ((nF q1).toInt64)), .second, .val (.double (FP.dmul (FP.ddiv (FP.l2d ((nF q1).toInt64)) (FP.i2d (kF sel))) (pF sel))), .second]) rfl ?_
    show Steps p.tables e below (T93.setTop (mkF m 347 #[.val (.int q1), .val (.int q2), .val (.int q3), .val (.int q4), .val (.int sel), .val (.int nfl), .val (.int (kF sel)), .val (.int (psF sel)), .val (.double (pF sel)), .second, .val (.int (nF q1)), .val (.int (nkF sel q1 q2)), .val (.int (nkF sel q1 q3)), .val (.int (nF q4)), .val (.int (moF nfl)), .val (.int (wF nfl)), .val (.int (ffF nfl)), .val (.double (iV nfl)), .second, .val (.ref b90), .val (.double (FP.ddiv (FP.dadd sf92 (FP.ddiv df92 (FP.l2d (0 + (1 : Int64))))) sc92)), .second, .val (.long ((nF q1).toInt64)), .second, .val (.double (FP.dmul (FP.ddiv (FP.l2d ((nF q1).toInt64)) (FP.i2d (kF sel))) (pF sel))), .second] [])) _
    refine XS.dload X93.here hx rfl (hb hby at_347) rfl ?_
    refine XS.dload X93.here hx rfl (hb hby at_349) rfl ?_
    refine XS.dcmpS X93.here hx rfl (hb hby at_351) rfl rfl ?_
    refine XS.ifNo X93.here hx rfl (hb hby at_352) rfl ((if0 _ _).trans (teq m6).2) ?_
    show Steps p.tables e below (T93.setTop (mkF m 355 #[.val (.int q1), .val (.int q2), .val (.int q3), .val (.int q4), .val (.int sel), .val (.int nfl), .val (.int (kF sel)), .val (.int (psF sel)), .val (.double (pF sel)), .second, .val (.int (nF q1)), .val (.int (nkF sel q1 q2)), .val (.int (nkF sel q1 q3)), .val (.int (nF q4)), .val (.int (moF nfl)), .val (.int (wF nfl)), .val (.int (ffF nfl)), .val (.double (iV nfl)), .second, .val (.ref b90), .val (.double (FP.ddiv (FP.dadd sf92 (FP.ddiv df92 (FP.l2d (0 + (1 : Int64))))) sc92)), .second, .val (.long ((nF q1).toInt64)), .second, .val (.double (FP.dmul (FP.ddiv (FP.l2d ((nF q1).toInt64)) (FP.i2d (kF sel))) (pF sel))), .second] [])) _
    refine XS.iconst X93.here hx rfl (hb hby at_355) ?_
    refine XS.goto X93.here hx rfl (pc0 := 356) (pc' := 360) rfl (hb hby at_356) (by decide) (by decide) ?_
    show Steps p.tables e below (T93.setTop (mkF m 360 #[.val (.int q1), .val (.int q2), .val (.int q3), .val (.int q4), .val (.int sel), .val (.int nfl), .val (.int (kF sel)), .val (.int (psF sel)), .val (.double (pF sel)), .second, .val (.int (nF q1)), .val (.int (nkF sel q1 q2)), .val (.int (nkF sel q1 q3)), .val (.int (nF q4)), .val (.int (moF nfl)), .val (.int (wF nfl)), .val (.int (ffF nfl)), .val (.double (iV nfl)), .second, .val (.ref b90), .val (.double (FP.ddiv (FP.dadd sf92 (FP.ddiv df92 (FP.l2d (0 + (1 : Int64))))) sc92)), .second, .val (.long ((nF q1).toInt64)), .second, .val (.double (FP.dmul (FP.ddiv (FP.l2d ((nF q1).toInt64)) (FP.i2d (kF sel))) (pF sel))), .second] [(.int (1 : Int32))])) _
    exact retN X93 hx (t := .boolean) Bd.returns (by simp) (hb hby at_360) hr
  · show Q0  h0 n0 _ T93.heap _
    exact ⟨rfl, N93⟩
set_option maxRecDepth 65536 in
set_option maxHeartbeats 40000000 in
theorem rm0_n2 (l : Launch) (Z : State) (a0 : Array Value) (hw : ∀ d ∈ tables_1, d.before a0 Z = true) (ws : List Jvm.Cond) (q1 : Int32) (q2 : Int32) (q3 : Int32) (q4 : Int32) (sel : Int32) (nfl : Int32) (U : Nat) (h0 : Heap) (n0 : Nat) (Z0 : n0 ≤ h0.size) (hU : 74 ≤ U ∧ U ≤ 2074) (hU2 : U = 2074 ∨ U ≤ 1074) (hp : DV 1 U (pF sel)) (d1 : DV (nF q1).toInt U (FP.dmul (FP.i2d (nF q1)) (pF sel))) (r1 : -8388608 ≤ (nF q1).toInt ∧ (nF q1).toInt ≤ 8388607) (d2 : DV (nkF sel q1 q2).toInt U (FP.dmul (FP.i2d (nkF sel q1 q2)) (pF sel))) (r2 : -8388608 ≤ (nkF sel q1 q2).toInt ∧ (nkF sel q1 q2).toInt ≤ 8388607) (hkk : (kF sel).toInt = 2) (hsm : ((((nF q1).toInt64) + ((nkF sel q1 q2).toInt64))).toInt = (nF q1).toInt + (nkF sel q1 q2).toInt) (hc168 : (wF nfl) = (0 : Int32)) (hnan190 : Jvm.Free.Fl.NoNaN64 (FP.dmul (FP.i2d (nF q1)) (pF sel))) (hc197 : ¬ ((kF sel) < (2 : Int32))) (hnan207 : Jvm.Free.Fl.NoNaN64 (FP.dmul (FP.i2d (nkF sel q1 q2)) (pF sel))) (hc214 : (kF sel) < (3 : Int32)) (hc231 : (kF sel) < (4 : Int32)) (hc247 : (wF nfl) = (0 : Int32)) (hc271 : (wF nfl) = (0 : Int32)) (hc296 : ¬ ((kF sel) < (2 : Int32))) (hc310 : (kF sel) < (3 : Int32)) (hc324 : (kF sel) < (4 : Int32)) :
    MetFree l x (head1 (Jvm.Cond.code x code maxLocals ret :: ws) room_1) (fun aa_ U_ => aa_ = #[(.int q1), (.int q2), (.int q3), (.int q4), (.int sel), (.int nfl)] ∧ Z.Warmed39 U_.vm ∧ U_.heap = h0) (fun _ _ _ _ _ => True) (fun _ U_ o_ V_ => ∃ v_ L_, o_ = .returned v_ ∧ Q0  h0 n0 v_ V_.heap L_ ∧ FrameEnd U_ o_ V_ L_ room_1.cells room_1.slots) := by
  refine MetFree.of_bodySF (plainFor_of_name pn_0) hisR ?_
  intro p e s m args below meth c s₁ Bd hml0 hP hK
  obtain ⟨rfl, hZ, hh⟩ := hP
  have hx := Bd.exec
  have hby := Bd.bytes
  have hml : c.maxLocals = 26 := hml0
  have hown : s.vm.findClass "com/example/retiremetric/retiremetric/engine/MeanMeanPinLaw" = some m.cls := findClass_of_methodNamed Bd.named
  have hnm := (name_of_methodNamed Bd.named Bd.method).1
  have X0 : Stand p l e room_1 s m #[(.int q1), (.int q2), (.int q3), (.int q4), (.int sel), (.int nfl)] below meth c s₁ [] 0 0 := Stand.of_body Bd
  have e0 : s₁.heap = h0 := by rw [← hh, Bd.state]; rfl
  have N0 := Fr.nil n0
  have pre0 : ∀ zz, Steps p.tables e below (s₁.setTop (mkF m 0 #[.val (.int q1), .val (.int q2), .val (.int q3), .val (.int q4), .val (.int sel), .val (.int nfl), .unset, .unset, .unset, .unset, .unset, .unset, .unset, .unset, .unset, .unset, .unset, .unset, .unset, .unset, .unset, .unset, .unset, .unset, .unset, .unset] [])) zz → Steps p.tables e below (s₁.setTop (entryFrame m #[(.int q1), (.int q2), (.int q3), (.int q4), (.int sel), (.int nfl)] maxLocals)) zz := fun zz k => castTop (ef_0 m q1 q2 q3 q4 sel nfl) k
  have mv0 : MV U 0 0 0 0 FP.dconst1 0 0 := ⟨by omega, zero_dv _, one_dv, zero_dv _, zero_dv _, by simp⟩
  obtain ⟨T94, h94, X94, e94, E94, A94, D94, -, st94⟩ := newO X0 hx hZ hown (hw _ (List.mem_of_getElem? (i := 1) rfl)) (hw _ (List.mem_of_getElem? (i := 2) rfl)) (hw _ (List.mem_of_getElem? (i := 3) rfl)) e0 (g := (mkF m 157 #[.val (.int q1), .val (.int q2), .val (.int q3), .val (.int q4), .val (.int sel), .val (.int nfl), .val (.int (kF sel)), .val (.int (psF sel)), .val (.double (pF sel)), .second, .val (.int (nF q1)), .val (.int (nkF sel q1 q2)), .val (.int (nkF sel q1 q3)), .val (.int (nF q4)), .val (.int (moF nfl)), .val (.int (wF nfl)), .val (.int (ffF nfl)), .val (.double (iV nfl)), .second, .unset, .unset, .unset, .unset, .unset, .unset, .unset] [])) rfl (hb hby at_157) (by decide) (by decide)
  obtain ⟨b94, g94⟩ : ∃ z, z = h0.size := ⟨_, rfl⟩
  rw [← g94] at A94 D94 st94
  have E_b94 := A94
  have g_b94 : n0 ≤ b94 := Nat.le_trans Z0 (Nat.le_of_eq g94.symm)
  have sz_b94 : h0.size ≤ b94 := Nat.le_trans (Keep.refl h0 []).1 (Nat.le_of_eq g94.symm)
  have K94 := (Keep.refl h0 []).ext E94
  have Z94 : n0 ≤ h94.size := Nat.le_trans Z0 E94.1
  have F_scale_b94 : Fld Z h94 b94 "com/example/retiremetric/retiremetric/engine/Mean" "scale" "D" (.double 0) := D94 (Or.inl (hw _ (List.mem_of_getElem? (i := 11) rfl))) (ty := .double) (by decide)
  have F_count_b94 : Fld Z h94 b94 "com/example/retiremetric/retiremetric/engine/Mean" "count" "J" (.long (0 : Int64)) := D94 (Or.inl (hw _ (List.mem_of_getElem? (i := 27) rfl))) (ty := .long) (by decide)
  have F_first_b94 : Fld Z h94 b94 "com/example/retiremetric/retiremetric/engine/Mean" "first" "D" (.double 0) := D94 (Or.inl (hw _ (List.mem_of_getElem? (i := 29) rfl))) (ty := .double) (by decide)
  have F_scaledFirst_b94 : Fld Z h94 b94 "com/example/retiremetric/retiremetric/engine/Mean" "scaledFirst" "D" (.double 0) := D94 (Or.inl (hw _ (List.mem_of_getElem? (i := 31) rfl))) (ty := .double) (by decide)
  have F_differences_b94 : Fld Z h94 b94 "com/example/retiremetric/retiremetric/engine/Mean" "differences" "D" (.double 0) := D94 (Or.inl (hw _ (List.mem_of_getElem? (i := 33) rfl))) (ty := .double) (by decide)
  have F_infinities_b94 : Fld Z h94 b94 "com/example/retiremetric/retiremetric/engine/Mean" "infinities" "D" (.double 0) := D94 (Or.inl (hw _ (List.mem_of_getElem? (i := 40) rfl))) (ty := .double) (by decide)
  obtain ⟨_, _, ⟨T95, L95, k95, n95⟩, -, X95, ⟨Lc95, hQ95, l95, y95, z95⟩, st95⟩ := X94.specialBack hx (y := (⟨"com/example/retiremetric/retiremetric/engine/Mean", "<init>", "()V"⟩ : MethodName)) rfl hown (mvT hZ (hw _ (List.mem_of_getElem? (i := 4) rfl))) (mvT hZ (hw _ (List.mem_of_getElem? (i := 5) rfl))) (mvT hZ (hw _ (List.mem_of_getElem? (i := 6) rfl))) (by decide) (backOf (W := 1) (rm1 l Z a0 hw [] b94 h94 n0 Z94 g_b94 ⟨E_b94, F_first_b94, F_scale_b94, F_scaledFirst_b94, F_differences_b94, F_infinities_b94, F_count_b94⟩) hZ (hw _ (List.mem_of_getElem? (i := 6) rfl)) (hw _ (List.mem_of_getElem? (i := 3) rfl)) (by decide) (by decide)) (g := (mkF m 161 #[.val (.int q1), .val (.int q2), .val (.int q3), .val (.int q4), .val (.int sel), .val (.int nfl), .val (.int (kF sel)), .val (.int (psF sel)), .val (.double (pF sel)), .second, .val (.int (nF q1)), .val (.int (nkF sel q1 q2)), .val (.int (nkF sel q1 q3)), .val (.int (nF q4)), .val (.int (moF nfl)), .val (.int (wF nfl)), .val (.int (ffF nfl)), .val (.double (iV nfl)), .second, .unset, .unset, .unset, .unset, .unset, .unset, .unset] [(.ref b94), (.ref b94)])) rfl (by rw [hml]; rfl) (Steps.refl _) (a := b94) (argsL := []) (rest := [(.ref b94)]) (lenOf pd_0 rfl) rfl (by show 2 * 0 + _ ≤ _; exact Nat.le_of_eq rfl) (hb hby at_161) (fun _ _ => ⟨rfl, e94, (by decide : 1 + 0 ≤ _), (by decide : 6 + 0 ≤ _)⟩)
  dsimp only [Pt.U, Pt.locs, Pt.cells, Pt.slots] at X95 l95 y95 z95 st95 hQ95
  subst l95 y95 z95
  obtain ⟨rfl, N95q, K95q, M95⟩ := hQ95
  have N95 := Fr.app N0 N95q
  have Z95 : n0 ≤ T95.heap.size := Nat.le_trans Z94 K95q.1
  obtain ⟨cq96, kq96, q96a, q96b, q96c⟩ := isOf hZ rfl M95.1
  obtain ⟨_, _, ⟨T96, L96, k96, n96⟩, -, X96, ⟨Lc96, hQ96, l96, y96, z96⟩, st96⟩ := X95.virtualBack hx (y := (⟨"com/example/retiremetric/retiremetric/engine/Mean", "add", "(D)V"⟩ : MethodName)) (z := (⟨"com/example/retiremetric/retiremetric/engine/Mean", "add", "(D)V"⟩ : MethodName)) hown (mvT hZ (hw _ (List.mem_of_getElem? (i := 12) rfl))) (mvT hZ (hw _ (List.mem_of_getElem? (i := 13) rfl))) (notFace_of_selects (args := #[]) (mvT hZ (hw _ (List.mem_of_getElem? (i := 15) rfl)))) (mvT hZ (hw _ (List.mem_of_getElem? (i := 15) rfl))) (mvT hZ (hw _ (List.mem_of_getElem? (i := 14) rfl))) (by decide) (backOf (W := 0) (rm3_one l Z a0 hw [] b94 (FP.dmul (FP.i2d (nF q1)) (pF sel)) 0 U (nF q1).toInt T95.heap n0 Z95 g_b94 M95 hU d1 (by omega)) hZ (hw _ (List.mem_of_getElem? (i := 16) rfl)) (hw _ (List.mem_of_getElem? (i := 3) rfl)) (by decide) (by decide)) q96a q96c (g := (mkF m 191 #[.val (.int q1), .val (.int q2), .val (.int q3), .val (.int q4), .val (.int sel), .val (.int nfl), .val (.int (kF sel)), .val (.int (psF sel)), .val (.double (pF sel)), .second, .val (.int (nF q1)), .val (.int (nkF sel q1 q2)), .val (.int (nkF sel q1 q3)), .val (.int (nF q4)), .val (.int (moF nfl)), .val (.int (wF nfl)), .val (.int (ffF nfl)), .val (.double (iV nfl)), .second, .val (.ref b94), .unset, .unset, .unset, .unset, .unset, .unset] [(.double (FP.dmul (FP.i2d (nF q1)) (pF sel))), (.ref b94)])) rfl (by rw [hml]; rfl) (Steps.refl _) (argsL := [(.double (FP.dmul (FP.i2d (nF q1)) (pF sel)))]) (rest := []) (lenOf pd_1 rfl) rfl (by show 2 * 0 + _ ≤ _; exact Nat.le_of_eq rfl) (hb hby at_191) (fun _ _ => ⟨rfl, rfl, (by decide : 1 + 0 ≤ _), (by decide : 6 + 0 ≤ _)⟩)
  dsimp only [Pt.U, Pt.locs, Pt.cells, Pt.slots] at X96 l96 y96 z96 st96 hQ96
  subst l96 y96 z96
  obtain ⟨x96, f96, sc96, sf96, df96, V96, rfl, N96q, K96q, M96⟩ := hQ96
  have N96 := Fr.app N95 N96q
  have Z96 : n0 ≤ T96.heap.size := Nat.le_trans Z95 K96q.1
  obtain ⟨cq97, kq97, q97a, q97b, q97c⟩ := isOf hZ rfl M96.1
  obtain ⟨_, _, ⟨T97, L97, k97, n97⟩, -, X97, ⟨Lc97, hQ97, l97, y97, z97⟩, st97⟩ := X96.virtualBack hx (y := (⟨"com/example/retiremetric/retiremetric/engine/Mean", "add", "(D)V"⟩ : MethodName)) (z := (⟨"com/example/retiremetric/retiremetric/engine/Mean", "add", "(D)V"⟩ : MethodName)) hown (mvT hZ (hw _ (List.mem_of_getElem? (i := 12) rfl))) (mvT hZ (hw _ (List.mem_of_getElem? (i := 13) rfl))) (notFace_of_selects (args := #[]) (mvT hZ (hw _ (List.mem_of_getElem? (i := 15) rfl)))) (mvT hZ (hw _ (List.mem_of_getElem? (i := 15) rfl))) (mvT hZ (hw _ (List.mem_of_getElem? (i := 14) rfl))) (by decide) (backOf (W := 0) (rm3_fin l Z a0 hw [] b94 (FP.dmul (FP.i2d (nkF sel q1 q2)) (pF sel)) f96 sc96 sf96 df96 0 (0 + (1 : Int64)) U (nF q1).toInt 0 (nkF sel q1 q2).toInt x96 T96.heap n0 Z96 g_b94 M96 hU hU2 d2 V96 (by omega) (by omega) (by omega) (by omega) (by decide)) hZ (hw _ (List.mem_of_getElem? (i := 16) rfl)) (hw _ (List.mem_of_getElem? (i := 3) rfl)) (by decide) (by decide)) q97a q97c (g := (mkF m 208 #[.val (.int q1), .val (.int q2), .val (.int q3), .val (.int q4), .val (.int sel), .val (.int nfl), .val (.int (kF sel)), .val (.int (psF sel)), .val (.double (pF sel)), .second, .val (.int (nF q1)), .val (.int (nkF sel q1 q2)), .val (.int (nkF sel q1 q3)), .val (.int (nF q4)), .val (.int (moF nfl)), .val (.int (wF nfl)), .val (.int (ffF nfl)), .val (.double (iV nfl)), .second, .val (.ref b94), .unset, .unset, .unset, .unset, .unset, .unset] [(.double (FP.dmul (FP.i2d (nkF sel q1 q2)) (pF sel))), (.ref b94)])) rfl (by rw [hml]; rfl) (Steps.refl _) (argsL := [(.double (FP.dmul (FP.i2d (nkF sel q1 q2)) (pF sel)))]) (rest := []) (lenOf pd_1 rfl) rfl (by show 2 * 0 + _ ≤ _; exact Nat.le_of_eq rfl) (hb hby at_208) (fun _ _ => ⟨rfl, rfl, (by decide : 1 + 0 ≤ _), (by decide : 6 + 0 ≤ _)⟩)
  dsimp only [Pt.U, Pt.locs, Pt.cells, Pt.slots] at X97 l97 y97 z97 st97 hQ97
  subst l97 y97 z97
  obtain ⟨x97, f97, sc97, sf97, df97, V97, rfl, N97q, K97q, M97⟩ := hQ97
  have N97 := Fr.app N96 N97q
  have Z97 : n0 ≤ T97.heap.size := Nat.le_trans Z96 K97q.1
  obtain ⟨m1, m2, m3, m4, m5, m6⟩ := mean_ok (j := 1) (ct := ((0 + (1 : Int64)) + (1 : Int64))) (sm := (((nF q1).toInt64) + ((nkF sel q1 q2).toInt64))) (kk := (kF sel)) (p := (pF sel)) (S := (nF q1).toInt + (nkF sel q1 q2).toInt) hU (by omega) V97 (by omega) (by omega) (by decide) hkk hsm hp
  obtain ⟨cq98, kq98, q98a, q98b, q98c⟩ := isOf hZ rfl M97.1
  obtain ⟨_, _, ⟨T98, L98, k98, n98⟩, -, X98, ⟨Lc98, hQ98, l98, y98, z98⟩, st98⟩ := X97.virtualBack hx (y := (⟨"com/example/retiremetric/retiremetric/engine/Mean", "mean", "()D"⟩ : MethodName)) (z := (⟨"com/example/retiremetric/retiremetric/engine/Mean", "mean", "()D"⟩ : MethodName)) hown (mvT hZ (hw _ (List.mem_of_getElem? (i := 34) rfl))) (mvT hZ (hw _ (List.mem_of_getElem? (i := 35) rfl))) (notFace_of_selects (args := #[]) (mvT hZ (hw _ (List.mem_of_getElem? (i := 37) rfl)))) (mvT hZ (hw _ (List.mem_of_getElem? (i := 37) rfl))) (mvT hZ (hw _ (List.mem_of_getElem? (i := 36) rfl))) (by decide) (backOf (W := 0) (rm6_F l Z a0 hw [] b94 f97 sc97 sf97 df97 0 ((0 + (1 : Int64)) + (1 : Int64)) T97.heap n0 Z97 M97 (by decide) (by decide +kernel) m1 m2 m3) hZ (hw _ (List.mem_of_getElem? (i := 38) rfl)) (hw _ (List.mem_of_getElem? (i := 3) rfl)) (by decide) (by decide)) q98a q98c (g := (mkF m 264 #[.val (.int q1), .val (.int q2), .val (.int q3), .val (.int q4), .val (.int sel), .val (.int nfl), .val (.int (kF sel)), .val (.int (psF sel)), .val (.double (pF sel)), .second, .val (.int (nF q1)), .val (.int (nkF sel q1 q2)), .val (.int (nkF sel q1 q3)), .val (.int (nF q4)), .val (.int (moF nfl)), .val (.int (wF nfl)), .val (.int (ffF nfl)), .val (.double (iV nfl)), .second, .val (.ref b94), .unset, .unset, .unset, .unset, .unset, .unset] [(.ref b94)])) rfl (by rw [hml]; rfl) (Steps.refl _) (argsL := []) (rest := []) (lenOf pd_4 rfl) rfl (by show 2 * 0 + _ ≤ _; exact Nat.le_of_eq rfl) (hb hby at_264) (fun _ _ => ⟨rfl, rfl, (by decide : 1 + 0 ≤ _), (by decide : 6 + 0 ≤ _)⟩)
  dsimp only [Pt.U, Pt.locs, Pt.cells, Pt.slots] at X98 l98 y98 z98 st98 hQ98
  subst l98 y98 z98
  obtain ⟨rfl, N98q, e98⟩ := hQ98
  have N98 := Fr.app N97 N98q
  obtain ⟨fs, hr, hrun, hended, hW, hsame⟩ := X98.leave (v := some (.int (1 : Int32))) (fun h => by rw [Bd.returns] at h; cases h)
  refine ⟨_, _, pre0 _ ?_, hrun, hended, _, _, rfl, ?_, ⟨_, rfl⟩, hW, hsame.mono (by decide) (by decide)⟩
  · refine sg1 q1 q2 q3 q4 sel nfl X0 hx hZ hw hby hown ?_
    refine sg2 q1 q2 q3 q4 sel nfl X0 hx hZ hw hby hown ?_
    refine sg3 q1 q2 q3 q4 sel nfl X0 hx hZ hw hby hown ?_
    refine sg4 q1 q2 q3 q4 sel nfl X0 hx hZ hw hby hown ?_
    refine sg5 q1 q2 q3 q4 sel nfl X0 hx hZ hw hby hown ?_
    refine sg6 q1 q2 q3 q4 sel nfl X0 hx hZ hw hby hown ?_
    show Steps p.tables e below (s₁.setTop (mkF m 157 #[.val (.int q1), .val (.int q2), .val (.int q3), .val (.int q4), .val (.int sel), .val (.int nfl), .val (.int (kF sel)), .val (.int (psF sel)), .val (.double (pF sel)), .second, .val (.int (nF q1)), .val (.int (nkF sel q1 q2)), .val (.int (nkF sel q1 q3)), .val (.int (nF q4)), .val (.int (moF nfl)), .val (.int (wF nfl)), .val (.int (ffF nfl)), .val (.double (iV nfl)), .second, .unset, .unset, .unset, .unset, .unset, .unset, .unset] [])) _
    refine st94 _ ?_
    refine XS.dup X94.here hx rfl (hb hby at_160) rfl rfl ?_
    show Steps p.tables e below (T94.setTop (mkF m 161 #[.val (.int q1), .val (.int q2), .val (.int q3), .val (.int q4), .val (.int sel), .val (.int nfl), .val (.int (kF sel)), .val (.int (psF sel)), .val (.double (pF sel)), .second, .val (.int (nF q1)), .val (.int (nkF sel q1 q2)), .val (.int (nkF sel q1 q3)), .val (.int (nF q4)), .val (.int (moF nfl)), .val (.int (wF nfl)), .val (.int (ffF nfl)), .val (.double (iV nfl)), .second, .unset, .unset, .unset, .unset, .unset, .unset, .unset] [(.ref b94), (.ref b94)])) _
    refine st95.trans ?_
    refine XS.astore X95.here hx rfl (hb hby at_164) rfl rfl (l' := #[.val (.int q1), .val (.int q2), .val (.int q3), .val (.int q4), .val (.int sel), .val (.int nfl), .val (.int (kF sel)), .val (.int (psF sel)), .val (.double (pF sel)), .second, .val (.int (nF q1)), .val (.int (nkF sel q1 q2)), .val (.int (nkF sel q1 q3)), .val (.int (nF q4)), .val (.int (moF nfl)), .val (.int (wF nfl)), .val (.int (ffF nfl)), .val (.double (iV nfl)), .second, .val (.ref b94), .unset, .unset, .unset, .unset, .unset, .unset]) rfl ?_
    refine XS.iload X95.here hx rfl (hb hby at_166) rfl ?_
    refine XS.ifYes X95.here hx rfl (pc0 := 168) (pc' := 183) rfl (hb hby at_168) rfl ((if0 _ _).trans (teq hc168).1) (by decide) (by decide) ?_
    show Steps p.tables e below (T95.setTop (mkF m 183 #[.val (.int q1), .val (.int q2), .val (.int q3), .val (.int q4), .val (.int sel), .val (.int nfl), .val (.int (kF sel)), .val (.int (psF sel)), .val (.double (pF sel)), .second, .val (.int (nF q1)), .val (.int (nkF sel q1 q2)), .val (.int (nkF sel q1 q3)), .val (.int (nF q4)), .val (.int (moF nfl)), .val (.int (wF nfl)), .val (.int (ffF nfl)), .val (.double (iV nfl)), .second, .val (.ref b94), .unset, .unset, .unset, .unset, .unset, .unset] [])) _
    refine XS.aload X95.here hx rfl (hb hby at_183) rfl rfl ?_
    refine XS.iload X95.here hx rfl (hb hby at_185) rfl ?_
    refine XS.i2dS X95.here hx rfl (hb hby at_187) rfl rfl ?_
    refine XS.dload X95.here hx rfl (hb hby at_188) rfl ?_
    show Steps p.tables e below (T95.setTop (mkF m 190 #[.val (.int q1), .val (.int q2), .val (.int q3), .val (.int q4), .val (.int sel), .val (.int nfl), .val (.int (kF sel)), .val (.int (psF sel)), .val (.double (pF sel)), .second, .val (.int (nF q1)), .val (.int (nkF sel q1 q2)), .val (.int (nkF sel q1 q3)), .val (.int (nF q4)), .val (.int (moF nfl)), .val (.int (wF nfl)), .val (.int (ffF nfl)), .val (.double (iV nfl)), .second, .val (.ref b94), .unset, .unset, .unset, .unset, .unset, .unset] [(.double (pF sel)), (.double (FP.i2d (nF q1))), (.ref b94)])) _
    refine XS.dmulS X95.here hx rfl (hb hby at_190) rfl hnan190 rfl ?_
    show Steps p.tables e below (T95.setTop (mkF m 191 #[.val (.int q1), .val (.int q2), .val (.int q3), .val (.int q4), .val (.int sel), .val (.int nfl), .val (.int (kF sel)), .val (.int (psF sel)), .val (.double (pF sel)), .second, .val (.int (nF q1)), .val (.int (nkF sel q1 q2)), .val (.int (nkF sel q1 q3)), .val (.int (nF q4)), .val (.int (moF nfl)), .val (.int (wF nfl)), .val (.int (ffF nfl)), .val (.double (iV nfl)), .second, .val (.ref b94), .unset, .unset, .unset, .unset, .unset, .unset] [(.double (FP.dmul (FP.i2d (nF q1)) (pF sel))), (.ref b94)])) _
    refine st96.trans ?_
    refine XS.iload X96.here hx rfl (hb hby at_194) rfl ?_
    refine XS.iconst X96.here hx rfl (hb hby at_196) ?_
    refine XS.icmpNo X96.here hx rfl (hb hby at_197) rfl (flt hc197).1 ?_
    show Steps p.tables e below (T96.setTop (mkF m 200 #[.val (.int q1), .val (.int q2), .val (.int q3), .val (.int q4), .val (.int sel), .val (.int nfl), .val (.int (kF sel)), .val (.int (psF sel)), .val (.double (pF sel)), .second, .val (.int (nF q1)), .val (.int (nkF sel q1 q2)), .val (.int (nkF sel q1 q3)), .val (.int (nF q4)), .val (.int (moF nfl)), .val (.int (wF nfl)), .val (.int (ffF nfl)), .val (.double (iV nfl)), .second, .val (.ref b94), .unset, .unset, .unset, .unset, .unset, .unset] [])) _
    refine XS.aload X96.here hx rfl (hb hby at_200) rfl rfl ?_
    refine XS.iload X96.here hx rfl (hb hby at_202) rfl ?_
    refine XS.i2dS X96.here hx rfl (hb hby at_204) rfl rfl ?_
    refine XS.dload X96.here hx rfl (hb hby at_205) rfl ?_
    show Steps p.tables e below (T96.setTop (mkF m 207 #[.val (.int q1), .val (.int q2), .val (.int q3), .val (.int q4), .val (.int sel), .val (.int nfl), .val (.int (kF sel)), .val (.int (psF sel)), .val (.double (pF sel)), .second, .val (.int (nF q1)), .val (.int (nkF sel q1 q2)), .val (.int (nkF sel q1 q3)), .val (.int (nF q4)), .val (.int (moF nfl)), .val (.int (wF nfl)), .val (.int (ffF nfl)), .val (.double (iV nfl)), .second, .val (.ref b94), .unset, .unset, .unset, .unset, .unset, .unset] [(.double (pF sel)), (.double (FP.i2d (nkF sel q1 q2))), (.ref b94)])) _
    refine XS.dmulS X96.here hx rfl (hb hby at_207) rfl hnan207 rfl ?_
    show Steps p.tables e below (T96.setTop (mkF m 208 #[.val (.int q1), .val (.int q2), .val (.int q3), .val (.int q4), .val (.int sel), .val (.int nfl), .val (.int (kF sel)), .val (.int (psF sel)), .val (.double (pF sel)), .second, .val (.int (nF q1)), .val (.int (nkF sel q1 q2)), .val (.int (nkF sel q1 q3)), .val (.int (nF q4)), .val (.int (moF nfl)), .val (.int (wF nfl)), .val (.int (ffF nfl)), .val (.double (iV nfl)), .second, .val (.ref b94), .unset, .unset, .unset, .unset, .unset, .unset] [(.double (FP.dmul (FP.i2d (nkF sel q1 q2)) (pF sel))), (.ref b94)])) _
    refine st97.trans ?_
    refine XS.iload X97.here hx rfl (hb hby at_211) rfl ?_
    refine XS.iconst X97.here hx rfl (hb hby at_213) ?_
    refine XS.icmpYes X97.here hx rfl (pc0 := 214) (pc' := 228) rfl (hb hby at_214) rfl (tlt hc214).1 (by decide) (by decide) ?_
    show Steps p.tables e below (T97.setTop (mkF m 228 #[.val (.int q1), .val (.int q2), .val (.int q3), .val (.int q4), .val (.int sel), .val (.int nfl), .val (.int (kF sel)), .val (.int (psF sel)), .val (.double (pF sel)), .second, .val (.int (nF q1)), .val (.int (nkF sel q1 q2)), .val (.int (nkF sel q1 q3)), .val (.int (nF q4)), .val (.int (moF nfl)), .val (.int (wF nfl)), .val (.int (ffF nfl)), .val (.double (iV nfl)), .second, .val (.ref b94), .unset, .unset, .unset, .unset, .unset, .unset] [])) _
    refine XS.iload X97.here hx rfl (hb hby at_228) rfl ?_
    refine XS.iconst X97.here hx rfl (hb hby at_230) ?_
    refine XS.icmpYes X97.here hx rfl (pc0 := 231) (pc' := 245) rfl (hb hby at_231) rfl (tlt hc231).1 (by decide) (by decide) ?_
    refine XS.iload X97.here hx rfl (hb hby at_245) rfl ?_
    show Steps p.tables e below (T97.setTop (mkF m 247 #[.val (.int q1), .val (.int q2), .val (.int q3), .val (.int q4), .val (.int sel), .val (.int nfl), .val (.int (kF sel)), .val (.int (psF sel)), .val (.double (pF sel)), .second, .val (.int (nF q1)), .val (.int (nkF sel q1 q2)), .val (.int (nkF sel q1 q3)), .val (.int (nF q4)), .val (.int (moF nfl)), .val (.int (wF nfl)), .val (.int (ffF nfl)), .val (.double (iV nfl)), .second, .val (.ref b94), .unset, .unset, .unset, .unset, .unset, .unset] [(.int (wF nfl))])) _
    refine XS.ifYes X97.here hx rfl (pc0 := 247) (pc' := 262) rfl (hb hby at_247) rfl ((if0 _ _).trans (teq hc247).1) (by decide) (by decide) ?_
    refine XS.aload X97.here hx rfl (hb hby at_262) rfl rfl ?_
    show Steps p.tables e below (T97.setTop (mkF m 264 #[.val (.int q1), .val (.int q2), .val (.int q3), .val (.int q4), .val (.int sel), .val (.int nfl), .val (.int (kF sel)), .val (.int (psF sel)), .val (.double (pF sel)), .second, .val (.int (nF q1)), .val (.int (nkF sel q1 q2)), .val (.int (nkF sel q1 q3)), .val (.int (nF q4)), .val (.int (moF nfl)), .val (.int (wF nfl)), .val (.int (ffF nfl)), .val (.double (iV nfl)), .second, .val (.ref b94), .unset, .unset, .unset, .unset, .unset, .unset] [(.ref b94)])) _
    refine st98.trans ?_
    refine XS.dstore X98.here hx rfl (hb hby at_267) rfl (l' := #[.val (.int q1), .val (.int q2), .val (.int q3), .val (.int q4), .val (.int sel), .val (.int nfl), .val (.int (kF sel)), .val (.int (psF sel)), .val (.double (pF sel)), .second, .val (.int (nF q1)), .val (.int (nkF sel q1 q2)), .val (.int (nkF sel q1 q3)), .val (.int (nF q4)), .val (.int (moF nfl)), .val (.int (wF nfl)), .val (.int (ffF nfl)), .val (.double (iV nfl)), .second, .val (.ref b94), .val (.double (FP.ddiv (FP.dadd sf97 (FP.ddiv df97 (FP.l2d ((0 + (1 : Int64)) + (1 : Int64))))) sc97)), .second, .unset, .unset, .unset, .unset]) rfl ?_
    refine XS.iload X98.here hx rfl (hb hby at_269) rfl ?_
    refine XS.ifYes X98.here hx rfl (pc0 := 271) (pc' := 288) rfl (hb hby at_271) rfl ((if0 _ _).trans (teq hc271).1) (by decide) (by decide) ?_
    show Steps p.tables e below (T98.setTop (mkF m 288 #[.val (.int q1), .val (.int q2), .val (.int q3), .val (.int q4), .val (.int sel), .val (.int nfl), .val (.int (kF sel)), .val (.int (psF sel)), .val (.double (pF sel)), .second, .val (.int (nF q1)), .val (.int (nkF sel q1 q2)), .val (.int (nkF sel q1 q3)), .val (.int (nF q4)), .val (.int (moF nfl)), .val (.int (wF nfl)), .val (.int (ffF nfl)), .val (.double (iV nfl)), .second, .val (.ref b94), .val (.double (FP.ddiv (FP.dadd sf97 (FP.ddiv df97 (FP.l2d ((0 + (1 : Int64)) + (1 : Int64))))) sc97)), .second, .unset, .unset, .unset, .unset] [])) _
    refine XS.iload X98.here hx rfl (hb hby at_288) rfl ?_
    refine XS.i2l X98.here hx rfl (hb hby at_290) rfl ?_
    refine XS.lstore X98.here hx rfl (hb hby at_291) rfl (l' := #[.val (.int q1), .val (.int q2), .val (.int q3), .val (.int q4), .val (.int sel), .val (.int nfl), .val (.int (kF sel)), .val (.int (psF sel)), .val (.double (pF sel)), .second, .val (.int (nF q1)), .val (.int (nkF sel q1 q2)), .val (.int (nkF sel q1 q3)), .val (.int (nF q4)), .val (.int (moF nfl)), .val (.int (wF nfl)), .val (.int (ffF nfl)), .val (.double (iV nfl)), .second, .val (.ref b94), .val (.double (FP.ddiv (FP.dadd sf97 (FP.ddiv df97 (FP.l2d ((0 + (1 : Int64)) + (1 : Int64))))) sc97)), .second, .val (.long ((nF q1).toInt64)), .second, .unset, .unset]) rfl ?_
    refine XS.iload X98.here hx rfl (hb hby at_293) rfl ?_
    show Steps p.tables e below (T98.setTop (mkF m 295 #[.val (.int q1), .val (.int q2), .val (.int q3), .val (.int q4), .val (.int sel), .val (.int nfl), .val (.int (kF sel)), .val (.int (psF sel)), .val (.double (pF sel)), .second, .val (.int (nF q1)), .val (.int (nkF sel q1 q2)), .val (.int (nkF sel q1 q3)), .val (.int (nF q4)), .val (.int (moF nfl)), .val (.int (wF nfl)), .val (.int (ffF nfl)), .val (.double (iV nfl)), .second, .val (.ref b94), .val (.double (FP.ddiv (FP.dadd sf97 (FP.ddiv df97 (FP.l2d ((0 + (1 : Int64)) + (1 : Int64))))) sc97)), .second, .val (.long ((nF q1).toInt64)), .second, .unset, .unset] [(.int (kF sel))])) _
    refine XS.iconst X98.here hx rfl (hb hby at_295) ?_
    refine XS.icmpNo X98.here hx rfl (hb hby at_296) rfl (flt hc296).1 ?_
    refine XS.lload X98.here hx rfl (hb hby at_299) rfl ?_
    refine XS.iload X98.here hx rfl (hb hby at_301) rfl ?_
    show Steps p.tables e below (T98.setTop (mkF m 303 #[.val (.int q1), .val (.int q2), .val (.int q3), .val (.int q4), .val (.int sel), .val (.int nfl), .val (.int (kF sel)), .val (.int (psF sel)), .val (.double (pF sel)), .second, .val (.int (nF q1)), .val (.int (nkF sel q1 q2)), .val (.int (nkF sel q1 q3)), .val (.int (nF q4)), .val (.int (moF nfl)), .val (.int (wF nfl)), .val (.int (ffF nfl)), .val (.double (iV nfl)), .second, .val (.ref b94), .val (.double (FP.ddiv (FP.dadd sf97 (FP.ddiv df97 (FP.l2d ((0 + (1 : Int64)) + (1 : Int64))))) sc97)), .second, .val (.long ((nF q1).toInt64)), .second, .unset, .unset] [(.int (nkF sel q1 q2)), (.long ((nF q1).toInt64))])) _
    refine XS.i2l X98.here hx rfl (hb hby at_303) rfl ?_
    refine XS.ladd X98.here hx rfl (hb hby at_304) rfl ?_
    refine XS.lstore X98.here hx rfl (hb hby at_305) rfl (l' := #[.val (.int q1), .val (.int q2), .val (.int q3), .val (.int q4), .val (.int sel), .val (.int nfl), .val (.int (kF sel)), .val (.int (psF sel)), .val (.double (pF sel)), .second, .val (.int (nF q1)), .val (.int (nkF sel q1 q2)), .val (.int (nkF sel q1 q3)), .val (.int (nF q4)), .val (.int (moF nfl)), .val (.int (wF nfl)), .val (.int (ffF nfl)), .val (.double (iV nfl)), .second, .val (.ref b94), .val (.double (FP.ddiv (FP.dadd sf97 (FP.ddiv df97 (FP.l2d ((0 + (1 : Int64)) + (1 : Int64))))) sc97)), .second, .val (.long (((nF q1).toInt64) + ((nkF sel q1 q2).toInt64))), .second, .unset, .unset]) rfl ?_
    refine XS.iload X98.here hx rfl (hb hby at_307) rfl ?_
    show Steps p.tables e below (T98.setTop (mkF m 309 #[.val (.int q1), .val (.int q2), .val (.int q3), .val (.int q4), .val (.int sel), .val (.int nfl), .val (.int (kF sel)), .val (.int (psF sel)), .val (.double (pF sel)), .second, .val (.int (nF q1)), .val (.int (nkF sel q1 q2)), .val (.int (nkF sel q1 q3)), .val (.int (nF q4)), .val (.int (moF nfl)), .val (.int (wF nfl)), .val (.int (ffF nfl)), .val (.double (iV nfl)), .second, .val (.ref b94), .val (.double (FP.ddiv (FP.dadd sf97 (FP.ddiv df97 (FP.l2d ((0 + (1 : Int64)) + (1 : Int64))))) sc97)), .second, .val (.long (((nF q1).toInt64) + ((nkF sel q1 q2).toInt64))), .second, .unset, .unset] [(.int (kF sel))])) _
    refine XS.iconst X98.here hx rfl (hb hby at_309) ?_
    refine XS.icmpYes X98.here hx rfl (pc0 := 310) (pc' := 321) rfl (hb hby at_310) rfl (tlt hc310).1 (by decide) (by decide) ?_
    refine XS.iload X98.here hx rfl (hb hby at_321) rfl ?_
    refine XS.iconst X98.here hx rfl (hb hby at_323) ?_
    show Steps p.tables e below (T98.setTop (mkF m 324 #[.val (.int q1), .val (.int q2), .val (.int q3), .val (.int q4), .val (.int sel), .val (.int nfl), .val (.int (kF sel)), .val (.int (psF sel)), .val (.double (pF sel)), .second, .val (.int (nF q1)), .val (.int (nkF sel q1 q2)), .val (.int (nkF sel q1 q3)), .val (.int (nF q4)), .val (.int (moF nfl)), .val (.int (wF nfl)), .val (.int (ffF nfl)), .val (.double (iV nfl)), .second, .val (.ref b94), .val (.double (FP.ddiv (FP.dadd sf97 (FP.ddiv df97 (FP.l2d ((0 + (1 : Int64)) + (1 : Int64))))) sc97)), .second, .val (.long (((nF q1).toInt64) + ((nkF sel q1 q2).toInt64))), .second, .unset, .unset] [(.int (4 : Int32)), (.int (kF sel))])) _
    refine XS.icmpYes X98.here hx rfl (pc0 := 324) (pc' := 335) rfl (hb hby at_324) rfl (tlt hc324).1 (by decide) (by decide) ?_
    refine XS.lload X98.here hx rfl (hb hby at_335) rfl ?_
    refine XS.l2dS X98.here hx rfl (hb hby at_337) rfl rfl ?_
    refine XS.iload X98.here hx rfl (hb hby at_338) rfl ?_
    show Steps p.tables e below (T98.setTop (mkF m 340 #[.val (.int q1), .val (.int q2), .val (.int q3), .val (.int q4), .val (.int sel), .val (.int nfl), .val (.int (kF sel)), .val (.int (psF sel)), .val (.double (pF sel)), .second, .val (.int (nF q1)), .val (.int (nkF sel q1 q2)), .val (.int (nkF sel q1 q3)), .val (.int (nF q4)), .val (.int (moF nfl)), .val (.int (wF nfl)), .val (.int (ffF nfl)), .val (.double (iV nfl)), .second, .val (.ref b94), .val (.double (FP.ddiv (FP.dadd sf97 (FP.ddiv df97 (FP.l2d ((0 + (1 : Int64)) + (1 : Int64))))) sc97)), .second, .val (.long (((nF q1).toInt64) + ((nkF sel q1 q2).toInt64))), .second, .unset, .unset] [(.int (kF sel)), (.double (FP.l2d (((nF q1).toInt64) + ((nkF sel q1 q2).toInt64))))])) _
    refine XS.i2dS X98.here hx rfl (hb hby at_340) rfl rfl ?_
    refine XS.ddivS X98.here hx rfl (hb hby at_341) rfl m4 rfl ?_
    refine XS.dload X98.here hx rfl (hb hby at_342) rfl ?_
    refine XS.dmulS X98.here hx rfl (hb hby at_344) rfl m5 rfl ?_
    show Steps p.tables e below (T98.setTop (mkF m 345 #[.val (.int q1), .val (.int q2), .val (.int q3), .val (.int q4), .val (.int sel), .val (.int nfl), .val (.int (kF sel)), .val (.int (psF sel)), .val (.double (pF sel)), .second, .val (.int (nF q1)), .val (.int (nkF sel q1 q2)), .val (.int (nkF sel q1 q3)), .val (.int (nF q4)), .val (.int (moF nfl)), .val (.int (wF nfl)), .val (.int (ffF nfl)), .val (.double (iV nfl)), .second, .val (.ref b94), .val (.double (FP.ddiv (FP.dadd sf97 (FP.ddiv df97 (FP.l2d ((0 + (1 : Int64)) + (1 : Int64))))) sc97)), .second, .val (.long (((nF q1).toInt64) + ((nkF sel q1 q2).toInt64))), .second, .unset, .unset] [(.double (FP.dmul (FP.ddiv (FP.l2d (((nF q1).toInt64) + ((nkF sel q1 q2).toInt64))) (FP.i2d (kF sel))) (pF sel)))])) _
    refine XS.dstore X98.here hx rfl (hb hby at_345) rfl (l' := #[.val (.int q1), .val (.int q2), .val (.int q3), .val (.int q4), .val (.int sel), .val (.int nfl), .val (.int (kF sel)), .val (.int (psF sel)), .val (.double (pF sel)), .second, .val (.int (nF q1)), .val (.int (nkF sel q1 q2)), .val (.int (nkF sel q1 q3)), .val (.int (nF q4)), .val (.int (moF nfl)), .val (.int (wF nfl)), .val (.int (ffF nfl)), .val (.double (iV nfl)), .second, .val (.ref b94), .val (.double (FP.ddiv (FP.dadd sf97 (FP.ddiv df97 (FP.l2d ((0 + (1 : Int64)) + (1 : Int64))))) sc97)), .second, .val (.long (((nF q1).toInt64) + ((nkF sel q1 q2).toInt64))), .second, .val (.double (FP.dmul (FP.ddiv (FP.l2d (((nF q1).toInt64) + ((nkF sel q1 q2).toInt64))) (FP.i2d (kF sel))) (pF sel))), .second]) rfl ?_
    refine XS.dload X98.here hx rfl (hb hby at_347) rfl ?_
    refine XS.dload X98.here hx rfl (hb hby at_349) rfl ?_
    refine XS.dcmpS X98.here hx rfl (hb hby at_351) rfl rfl ?_
    show Steps p.tables e below (T98.setTop (mkF m 352 #[.val (.int q1), .val (.int q2), .val (.int q3), .val (.int q4), .val (.int sel), .val (.int nfl), .val (.int (kF sel)), .val (.int (psF sel)), .val (.double (pF sel)), .second, .val (.int (nF q1)), .val (.int (nkF sel q1 q2)), .val (.int (nkF sel q1 q3)), .val (.int (nF q4)), .val (.int (moF nfl)), .val (.int (wF nfl)), .val (.int (ffF nfl)), .val (.double (iV nfl)), .second, .val (.ref b94), .val (.double (FP.ddiv (FP.dadd sf97 (FP.ddiv df97 (FP.l2d ((0 + (1 : Int64)) + (1 : Int64))))) sc97)), .second, .val (.long (((nF q1).toInt64) + ((nkF sel q1 q2).toInt64))), .second, .val (.double (FP.dmul (FP.ddiv (FP.l2d (((nF q1).toInt64) + ((nkF sel q1 q2).toInt64))) (FP.i2d (kF sel))) (pF sel))), .second] [(.int (cmpValue (FP.dcmp (FP.ddiv (FP.dadd sf97 (FP.ddiv df97 (FP.l2d ((0 + (1 : Int64)) + (1 : Int64))))) sc97) (FP.dmul (FP.ddiv (FP.l2d (((nF q1).toInt64) + ((nkF sel q1 q2).toInt64))) (FP.i2d (kF sel))) (pF sel))) .l))])) _
    refine XS.ifNo X98.here hx rfl (hb hby at_352) rfl ((if0 _ _).trans (teq m6).2) ?_
    refine XS.iconst X98.here hx rfl (hb hby at_355) ?_
    refine XS.goto X98.here hx rfl (pc0 := 356) (pc' := 360) rfl (hb hby at_356) (by decide) (by decide) ?_
    show Steps p.tables e below (T98.setTop (mkF m 360 #[.val (.int q1), .val (.int q2), .val (.int q3), .val (.int q4), .val (.int sel), .val (.int nfl), .val (.int (kF sel)), .val (.int (psF sel)), .val (.double (pF sel)), .second, .val (.int (nF q1)), .val (.int (nkF sel q1 q2)), .val (.int (nkF sel q1 q3)), .val (.int (nF q4)), .val (.int (moF nfl)), .val (.int (wF nfl)), .val (.int (ffF nfl)), .val (.double (iV nfl)), .second, .val (.ref b94), .val (.double (FP.ddiv (FP.dadd sf97 (FP.ddiv df97 (FP.l2d ((0 + (1 : Int64)) + (1 : Int64))))) sc97)), .second, .val (.long (((nF q1).toInt64) + ((nkF sel q1 q2).toInt64))), .second, .val (.double (FP.dmul (FP.ddiv (FP.l2d (((nF q1).toInt64) + ((nkF sel q1 q2).toInt64))) (FP.i2d (kF sel))) (pF sel))), .second] [(.int (1 : Int32))])) _
    exact retN X98 hx (t := .boolean) Bd.returns (by simp) (hb hby at_360) hr
  · show Q0  h0 n0 _ T98.heap _
    exact ⟨rfl, N98⟩
set_option maxRecDepth 65536 in
set_option maxHeartbeats 40000000 in
theorem rm0_n3 (l : Launch) (Z : State) (a0 : Array Value) (hw : ∀ d ∈ tables_1, d.before a0 Z = true) (ws : List Jvm.Cond) (q1 : Int32) (q2 : Int32) (q3 : Int32) (q4 : Int32) (sel : Int32) (nfl : Int32) (U : Nat) (h0 : Heap) (n0 : Nat) (Z0 : n0 ≤ h0.size) (hU : 74 ≤ U ∧ U ≤ 2074) (hU2 : U = 2074 ∨ U ≤ 1074) (hp : DV 1 U (pF sel)) (d1 : DV (nF q1).toInt U (FP.dmul (FP.i2d (nF q1)) (pF sel))) (r1 : -8388608 ≤ (nF q1).toInt ∧ (nF q1).toInt ≤ 8388607) (d2 : DV (nkF sel q1 q2).toInt U (FP.dmul (FP.i2d (nkF sel q1 q2)) (pF sel))) (r2 : -8388608 ≤ (nkF sel q1 q2).toInt ∧ (nkF sel q1 q2).toInt ≤ 8388607) (d3 : DV (nkF sel q1 q3).toInt U (FP.dmul (FP.i2d (nkF sel q1 q3)) (pF sel))) (r3 : -8388608 ≤ (nkF sel q1 q3).toInt ∧ (nkF sel q1 q3).toInt ≤ 8388607) (hkk : (kF sel).toInt = 3) (hsm : (((((nF q1).toInt64) + ((nkF sel q1 q2).toInt64)) + ((nkF sel q1 q3).toInt64))).toInt = (nF q1).toInt * 3) (h32 : (nkF sel q1 q2).toInt = (nF q1).toInt) (h33 : (nkF sel q1 q3).toInt = (nF q1).toInt) (hc168 : (wF nfl) = (0 : Int32)) (hnan190 : Jvm.Free.Fl.NoNaN64 (FP.dmul (FP.i2d (nF q1)) (pF sel))) (hc197 : ¬ ((kF sel) < (2 : Int32))) (hnan207 : Jvm.Free.Fl.NoNaN64 (FP.dmul (FP.i2d (nkF sel q1 q2)) (pF sel))) (hc214 : ¬ ((kF sel) < (3 : Int32))) (hnan224 : Jvm.Free.Fl.NoNaN64 (FP.dmul (FP.i2d (nkF sel q1 q3)) (pF sel))) (hc231 : (kF sel) < (4 : Int32)) (hc247 : (wF nfl) = (0 : Int32)) (hc271 : (wF nfl) = (0 : Int32)) (hc296 : ¬ ((kF sel) < (2 : Int32))) (hc310 : ¬ ((kF sel) < (3 : Int32))) (hc324 : (kF sel) < (4 : Int32)) :
    MetFree l x (head1 (Jvm.Cond.code x code maxLocals ret :: ws) room_1) (fun aa_ U_ => aa_ = #[(.int q1), (.int q2), (.int q3), (.int q4), (.int sel), (.int nfl)] ∧ Z.Warmed39 U_.vm ∧ U_.heap = h0) (fun _ _ _ _ _ => True) (fun _ U_ o_ V_ => ∃ v_ L_, o_ = .returned v_ ∧ Q0  h0 n0 v_ V_.heap L_ ∧ FrameEnd U_ o_ V_ L_ room_1.cells room_1.slots) := by
  refine MetFree.of_bodySF (plainFor_of_name pn_0) hisR ?_
  intro p e s m args below meth c s₁ Bd hml0 hP hK
  obtain ⟨rfl, hZ, hh⟩ := hP
  have hx := Bd.exec
  have hby := Bd.bytes
  have hml : c.maxLocals = 26 := hml0
  have hown : s.vm.findClass "com/example/retiremetric/retiremetric/engine/MeanMeanPinLaw" = some m.cls := findClass_of_methodNamed Bd.named
  have hnm := (name_of_methodNamed Bd.named Bd.method).1
  have X0 : Stand p l e room_1 s m #[(.int q1), (.int q2), (.int q3), (.int q4), (.int sel), (.int nfl)] below meth c s₁ [] 0 0 := Stand.of_body Bd
  have e0 : s₁.heap = h0 := by rw [← hh, Bd.state]; rfl
  have N0 := Fr.nil n0
  have pre0 : ∀ zz, Steps p.tables e below (s₁.setTop (mkF m 0 #[.val (.int q1), .val (.int q2), .val (.int q3), .val (.int q4), .val (.int sel), .val (.int nfl), .unset, .unset, .unset, .unset, .unset, .unset, .unset, .unset, .unset, .unset, .unset, .unset, .unset, .unset, .unset, .unset, .unset, .unset, .unset, .unset] [])) zz → Steps p.tables e below (s₁.setTop (entryFrame m #[(.int q1), (.int q2), (.int q3), (.int q4), (.int sel), (.int nfl)] maxLocals)) zz := fun zz k => castTop (ef_0 m q1 q2 q3 q4 sel nfl) k
  have mv0 : MV U 0 0 0 0 FP.dconst1 0 0 := ⟨by omega, zero_dv _, one_dv, zero_dv _, zero_dv _, by simp⟩
  obtain ⟨T99, h99, X99, e99, E99, A99, D99, -, st99⟩ := newO X0 hx hZ hown (hw _ (List.mem_of_getElem? (i := 1) rfl)) (hw _ (List.mem_of_getElem? (i := 2) rfl)) (hw _ (List.mem_of_getElem? (i := 3) rfl)) e0 (g := (mkF m 157 #[.val (.int q1), .val (.int q2), .val (.int q3), .val (.int q4), .val (.int sel), .val (.int nfl), .val (.int (kF sel)), .val (.int (psF sel)), .val (.double (pF sel)), .second, .val (.int (nF q1)), .val (.int (nkF sel q1 q2)), .val (.int (nkF sel q1 q3)), .val (.int (nF q4)), .val (.int (moF nfl)), .val (.int (wF nfl)), .val (.int (ffF nfl)), .val (.double (iV nfl)), .second, .unset, .unset, .unset, .unset, .unset, .unset, .unset] [])) rfl (hb hby at_157) (by decide) (by decide)
  obtain ⟨b99, g99⟩ : ∃ z, z = h0.size := ⟨_, rfl⟩
  rw [← g99] at A99 D99 st99
  have E_b99 := A99
  have g_b99 : n0 ≤ b99 := Nat.le_trans Z0 (Nat.le_of_eq g99.symm)
  have sz_b99 : h0.size ≤ b99 := Nat.le_trans (Keep.refl h0 []).1 (Nat.le_of_eq g99.symm)
  have K99 := (Keep.refl h0 []).ext E99
  have Z99 : n0 ≤ h99.size := Nat.le_trans Z0 E99.1
  have F_scale_b99 : Fld Z h99 b99 "com/example/retiremetric/retiremetric/engine/Mean" "scale" "D" (.double 0) := D99 (Or.inl (hw _ (List.mem_of_getElem? (i := 11) rfl))) (ty := .double) (by decide)
  have F_count_b99 : Fld Z h99 b99 "com/example/retiremetric/retiremetric/engine/Mean" "count" "J" (.long (0 : Int64)) := D99 (Or.inl (hw _ (List.mem_of_getElem? (i := 27) rfl))) (ty := .long) (by decide)
  have F_first_b99 : Fld Z h99 b99 "com/example/retiremetric/retiremetric/engine/Mean" "first" "D" (.double 0) := D99 (Or.inl (hw _ (List.mem_of_getElem? (i := 29) rfl))) (ty := .double) (by decide)
  have F_scaledFirst_b99 : Fld Z h99 b99 "com/example/retiremetric/retiremetric/engine/Mean" "scaledFirst" "D" (.double 0) := D99 (Or.inl (hw _ (List.mem_of_getElem? (i := 31) rfl))) (ty := .double) (by decide)
  have F_differences_b99 : Fld Z h99 b99 "com/example/retiremetric/retiremetric/engine/Mean" "differences" "D" (.double 0) := D99 (Or.inl (hw _ (List.mem_of_getElem? (i := 33) rfl))) (ty := .double) (by decide)
  have F_infinities_b99 : Fld Z h99 b99 "com/example/retiremetric/retiremetric/engine/Mean" "infinities" "D" (.double 0) := D99 (Or.inl (hw _ (List.mem_of_getElem? (i := 40) rfl))) (ty := .double) (by decide)
  obtain ⟨_, _, ⟨T100, L100, k100, n100⟩, -, X100, ⟨Lc100, hQ100, l100, y100, z100⟩, st100⟩ := X99.specialBack hx (y := (⟨"com/example/retiremetric/retiremetric/engine/Mean", "<init>", "()V"⟩ : MethodName)) rfl hown (mvT hZ (hw _ (List.mem_of_getElem? (i := 4) rfl))) (mvT hZ (hw _ (List.mem_of_getElem? (i := 5) rfl))) (mvT hZ (hw _ (List.mem_of_getElem? (i := 6) rfl))) (by decide) (backOf (W := 1) (rm1 l Z a0 hw [] b99 h99 n0 Z99 g_b99 ⟨E_b99, F_first_b99, F_scale_b99, F_scaledFirst_b99, F_differences_b99, F_infinities_b99, F_count_b99⟩) hZ (hw _ (List.mem_of_getElem? (i := 6) rfl)) (hw _ (List.mem_of_getElem? (i := 3) rfl)) (by decide) (by decide)) (g := (mkF m 161 #[.val (.int q1), .val (.int q2), .val (.int q3), .val (.int q4), .val (.int sel), .val (.int nfl), .val (.int (kF sel)), .val (.int (psF sel)), .val (.double (pF sel)), .second, .val (.int (nF q1)), .val (.int (nkF sel q1 q2)), .val (.int (nkF sel q1 q3)), .val (.int (nF q4)), .val (.int (moF nfl)), .val (.int (wF nfl)), .val (.int (ffF nfl)), .val (.double (iV nfl)), .second, .unset, .unset, .unset, .unset, .unset, .unset, .unset] [(.ref b99), (.ref b99)])) rfl (by rw [hml]; rfl) (Steps.refl _) (a := b99) (argsL := []) (rest := [(.ref b99)]) (lenOf pd_0 rfl) rfl (by show 2 * 0 + _ ≤ _; exact Nat.le_of_eq rfl) (hb hby at_161) (fun _ _ => ⟨rfl, e99, (by decide : 1 + 0 ≤ _), (by decide : 6 + 0 ≤ _)⟩)
  dsimp only [Pt.U, Pt.locs, Pt.cells, Pt.slots] at X100 l100 y100 z100 st100 hQ100
  subst l100 y100 z100
  obtain ⟨rfl, N100q, K100q, M100⟩ := hQ100
  have N100 := Fr.app N0 N100q
  have Z100 : n0 ≤ T100.heap.size := Nat.le_trans Z99 K100q.1
  obtain ⟨cq101, kq101, q101a, q101b, q101c⟩ := isOf hZ rfl M100.1
  obtain ⟨_, _, ⟨T101, L101, k101, n101⟩, -, X101, ⟨Lc101, hQ101, l101, y101, z101⟩, st101⟩ := X100.virtualBack hx (y := (⟨"com/example/retiremetric/retiremetric/engine/Mean", "add", "(D)V"⟩ : MethodName)) (z := (⟨"com/example/retiremetric/retiremetric/engine/Mean", "add", "(D)V"⟩ : MethodName)) hown (mvT hZ (hw _ (List.mem_of_getElem? (i := 12) rfl))) (mvT hZ (hw _ (List.mem_of_getElem? (i := 13) rfl))) (notFace_of_selects (args := #[]) (mvT hZ (hw _ (List.mem_of_getElem? (i := 15) rfl)))) (mvT hZ (hw _ (List.mem_of_getElem? (i := 15) rfl))) (mvT hZ (hw _ (List.mem_of_getElem? (i := 14) rfl))) (by decide) (backOf (W := 0) (rm3_one l Z a0 hw [] b99 (FP.dmul (FP.i2d (nF q1)) (pF sel)) 0 U (nF q1).toInt T100.heap n0 Z100 g_b99 M100 hU d1 (by omega)) hZ (hw _ (List.mem_of_getElem? (i := 16) rfl)) (hw _ (List.mem_of_getElem? (i := 3) rfl)) (by decide) (by decide)) q101a q101c (g := (mkF m 191 #[.val (.int q1), .val (.int q2), .val (.int q3), .val (.int q4), .val (.int sel), .val (.int nfl), .val (.int (kF sel)), .val (.int (psF sel)), .val (.double (pF sel)), .second, .val (.int (nF q1)), .val (.int (nkF sel q1 q2)), .val (.int (nkF sel q1 q3)), .val (.int (nF q4)), .val (.int (moF nfl)), .val (.int (wF nfl)), .val (.int (ffF nfl)), .val (.double (iV nfl)), .second, .val (.ref b99), .unset, .unset, .unset, .unset, .unset, .unset] [(.double (FP.dmul (FP.i2d (nF q1)) (pF sel))), (.ref b99)])) rfl (by rw [hml]; rfl) (Steps.refl _) (argsL := [(.double (FP.dmul (FP.i2d (nF q1)) (pF sel)))]) (rest := []) (lenOf pd_1 rfl) rfl (by show 2 * 0 + _ ≤ _; exact Nat.le_of_eq rfl) (hb hby at_191) (fun _ _ => ⟨rfl, rfl, (by decide : 1 + 0 ≤ _), (by decide : 6 + 0 ≤ _)⟩)
  dsimp only [Pt.U, Pt.locs, Pt.cells, Pt.slots] at X101 l101 y101 z101 st101 hQ101
  subst l101 y101 z101
  obtain ⟨x101, f101, sc101, sf101, df101, V101, rfl, N101q, K101q, M101⟩ := hQ101
  have N101 := Fr.app N100 N101q
  have Z101 : n0 ≤ T101.heap.size := Nat.le_trans Z100 K101q.1
  obtain ⟨cq102, kq102, q102a, q102b, q102c⟩ := isOf hZ rfl M101.1
  obtain ⟨_, _, ⟨T102, L102, k102, n102⟩, -, X102, ⟨Lc102, hQ102, l102, y102, z102⟩, st102⟩ := X101.virtualBack hx (y := (⟨"com/example/retiremetric/retiremetric/engine/Mean", "add", "(D)V"⟩ : MethodName)) (z := (⟨"com/example/retiremetric/retiremetric/engine/Mean", "add", "(D)V"⟩ : MethodName)) hown (mvT hZ (hw _ (List.mem_of_getElem? (i := 12) rfl))) (mvT hZ (hw _ (List.mem_of_getElem? (i := 13) rfl))) (notFace_of_selects (args := #[]) (mvT hZ (hw _ (List.mem_of_getElem? (i := 15) rfl)))) (mvT hZ (hw _ (List.mem_of_getElem? (i := 15) rfl))) (mvT hZ (hw _ (List.mem_of_getElem? (i := 14) rfl))) (by decide) (backOf (W := 0) (rm3_fin l Z a0 hw [] b99 (FP.dmul (FP.i2d (nkF sel q1 q2)) (pF sel)) f101 sc101 sf101 df101 0 (0 + (1 : Int64)) U (nF q1).toInt 0 (nkF sel q1 q2).toInt x101 T101.heap n0 Z101 g_b99 M101 hU hU2 d2 V101 (by omega) (by omega) (by omega) (by omega) (by decide)) hZ (hw _ (List.mem_of_getElem? (i := 16) rfl)) (hw _ (List.mem_of_getElem? (i := 3) rfl)) (by decide) (by decide)) q102a q102c (g := (mkF m 208 #[.val (.int q1), .val (.int q2), .val (.int q3), .val (.int q4), .val (.int sel), .val (.int nfl), .val (.int (kF sel)), .val (.int (psF sel)), .val (.double (pF sel)), .second, .val (.int (nF q1)), .val (.int (nkF sel q1 q2)), .val (.int (nkF sel q1 q3)), .val (.int (nF q4)), .val (.int (moF nfl)), .val (.int (wF nfl)), .val (.int (ffF nfl)), .val (.double (iV nfl)), .second, .val (.ref b99), .unset, .unset, .unset, .unset, .unset, .unset] [(.double (FP.dmul (FP.i2d (nkF sel q1 q2)) (pF sel))), (.ref b99)])) rfl (by rw [hml]; rfl) (Steps.refl _) (argsL := [(.double (FP.dmul (FP.i2d (nkF sel q1 q2)) (pF sel)))]) (rest := []) (lenOf pd_1 rfl) rfl (by show 2 * 0 + _ ≤ _; exact Nat.le_of_eq rfl) (hb hby at_208) (fun _ _ => ⟨rfl, rfl, (by decide : 1 + 0 ≤ _), (by decide : 6 + 0 ≤ _)⟩)
  dsimp only [Pt.U, Pt.locs, Pt.cells, Pt.slots] at X102 l102 y102 z102 st102 hQ102
  subst l102 y102 z102
  obtain ⟨x102, f102, sc102, sf102, df102, V102, rfl, N102q, K102q, M102⟩ := hQ102
  have N102 := Fr.app N101 N102q
  have Z102 : n0 ≤ T102.heap.size := Nat.le_trans Z101 K102q.1
  obtain ⟨cq103, kq103, q103a, q103b, q103c⟩ := isOf hZ rfl M102.1
  obtain ⟨_, _, ⟨T103, L103, k103, n103⟩, -, X103, ⟨Lc103, hQ103, l103, y103, z103⟩, st103⟩ := X102.virtualBack hx (y := (⟨"com/example/retiremetric/retiremetric/engine/Mean", "add", "(D)V"⟩ : MethodName)) (z := (⟨"com/example/retiremetric/retiremetric/engine/Mean", "add", "(D)V"⟩ : MethodName)) hown (mvT hZ (hw _ (List.mem_of_getElem? (i := 12) rfl))) (mvT hZ (hw _ (List.mem_of_getElem? (i := 13) rfl))) (notFace_of_selects (args := #[]) (mvT hZ (hw _ (List.mem_of_getElem? (i := 15) rfl)))) (mvT hZ (hw _ (List.mem_of_getElem? (i := 15) rfl))) (mvT hZ (hw _ (List.mem_of_getElem? (i := 14) rfl))) (by decide) (backOf (W := 0) (rm3_fin l Z a0 hw [] b99 (FP.dmul (FP.i2d (nkF sel q1 q3)) (pF sel)) f102 sc102 sf102 df102 0 ((0 + (1 : Int64)) + (1 : Int64)) U (nF q1).toInt (0 + ((nkF sel q1 q2).toInt - (nF q1).toInt)) (nkF sel q1 q3).toInt x102 T102.heap n0 Z102 g_b99 M102 hU hU2 d3 V102 (by omega) (by omega) (by omega) (by omega) (by decide)) hZ (hw _ (List.mem_of_getElem? (i := 16) rfl)) (hw _ (List.mem_of_getElem? (i := 3) rfl)) (by decide) (by decide)) q103a q103c (g := (mkF m 225 #[.val (.int q1), .val (.int q2), .val (.int q3), .val (.int q4), .val (.int sel), .val (.int nfl), .val (.int (kF sel)), .val (.int (psF sel)), .val (.double (pF sel)), .second, .val (.int (nF q1)), .val (.int (nkF sel q1 q2)), .val (.int (nkF sel q1 q3)), .val (.int (nF q4)), .val (.int (moF nfl)), .val (.int (wF nfl)), .val (.int (ffF nfl)), .val (.double (iV nfl)), .second, .val (.ref b99), .unset, .unset, .unset, .unset, .unset, .unset] [(.double (FP.dmul (FP.i2d (nkF sel q1 q3)) (pF sel))), (.ref b99)])) rfl (by rw [hml]; rfl) (Steps.refl _) (argsL := [(.double (FP.dmul (FP.i2d (nkF sel q1 q3)) (pF sel)))]) (rest := []) (lenOf pd_1 rfl) rfl (by show 2 * 0 + _ ≤ _; exact Nat.le_of_eq rfl) (hb hby at_225) (fun _ _ => ⟨rfl, rfl, (by decide : 1 + 0 ≤ _), (by decide : 6 + 0 ≤ _)⟩)
  dsimp only [Pt.U, Pt.locs, Pt.cells, Pt.slots] at X103 l103 y103 z103 st103 hQ103
  subst l103 y103 z103
  obtain ⟨x103, f103, sc103, sf103, df103, V103, rfl, N103q, K103q, M103⟩ := hQ103
  have N103 := Fr.app N102 N103q
  have Z103 : n0 ≤ T103.heap.size := Nat.le_trans Z102 K103q.1
  obtain ⟨m1, m2, m3, m4, m5, m6⟩ := mean_ok3 (ct := (((0 + (1 : Int64)) + (1 : Int64)) + (1 : Int64))) (sm := ((((nF q1).toInt64) + ((nkF sel q1 q2).toInt64)) + ((nkF sel q1 q3).toInt64))) (kk := (kF sel)) (p := (pF sel)) hU (F := (nF q1).toInt) (by have q := V103; rw [show ((0 + ((nkF sel q1 q2).toInt - (nF q1).toInt)) + ((nkF sel q1 q3).toInt - (nF q1).toInt)) = (0 : Int) by omega] at q; exact q) (by omega) (by decide) hkk hsm hp
  obtain ⟨cq104, kq104, q104a, q104b, q104c⟩ := isOf hZ rfl M103.1
  obtain ⟨_, _, ⟨T104, L104, k104, n104⟩, -, X104, ⟨Lc104, hQ104, l104, y104, z104⟩, st104⟩ := X103.virtualBack hx (y := (⟨"com/example/retiremetric/retiremetric/engine/Mean", "mean", "()D"⟩ : MethodName)) (z := (⟨"com/example/retiremetric/retiremetric/engine/Mean", "mean", "()D"⟩ : MethodName)) hown (mvT hZ (hw _ (List.mem_of_getElem? (i := 34) rfl))) (mvT hZ (hw _ (List.mem_of_getElem? (i := 35) rfl))) (notFace_of_selects (args := #[]) (mvT hZ (hw _ (List.mem_of_getElem? (i := 37) rfl)))) (mvT hZ (hw _ (List.mem_of_getElem? (i := 37) rfl))) (mvT hZ (hw _ (List.mem_of_getElem? (i := 36) rfl))) (by decide) (backOf (W := 0) (rm6_F l Z a0 hw [] b99 f103 sc103 sf103 df103 0 (((0 + (1 : Int64)) + (1 : Int64)) + (1 : Int64)) T103.heap n0 Z103 M103 (by decide) (by decide +kernel) m1 m2 m3) hZ (hw _ (List.mem_of_getElem? (i := 38) rfl)) (hw _ (List.mem_of_getElem? (i := 3) rfl)) (by decide) (by decide)) q104a q104c (g := (mkF m 264 #[.val (.int q1), .val (.int q2), .val (.int q3), .val (.int q4), .val (.int sel), .val (.int nfl), .val (.int (kF sel)), .val (.int (psF sel)), .val (.double (pF sel)), .second, .val (.int (nF q1)), .val (.int (nkF sel q1 q2)), .val (.int (nkF sel q1 q3)), .val (.int (nF q4)), .val (.int (moF nfl)), .val (.int (wF nfl)), .val (.int (ffF nfl)), .val (.double (iV nfl)), .second, .val (.ref b99), .unset, .unset, .unset, .unset, .unset, .unset] [(.ref b99)])) rfl (by rw [hml]; rfl) (Steps.refl _) (argsL := []) (rest := []) (lenOf pd_4 rfl) rfl (by show 2 * 0 + _ ≤ _; exact Nat.le_of_eq rfl) (hb hby at_264) (fun _ _ => ⟨rfl, rfl, (by decide : 1 + 0 ≤ _), (by decide : 6 + 0 ≤ _)⟩)
  dsimp only [Pt.U, Pt.locs, Pt.cells, Pt.slots] at X104 l104 y104 z104 st104 hQ104
  subst l104 y104 z104
  obtain ⟨rfl, N104q, e104⟩ := hQ104
  have N104 := Fr.app N103 N104q
  obtain ⟨fs, hr, hrun, hended, hW, hsame⟩ := X104.leave (v := some (.int (1 : Int32))) (fun h => by rw [Bd.returns] at h; cases h)
  refine ⟨_, _, pre0 _ ?_, hrun, hended, _, _, rfl, ?_, ⟨_, rfl⟩, hW, hsame.mono (by decide) (by decide)⟩
  · refine sg1 q1 q2 q3 q4 sel nfl X0 hx hZ hw hby hown ?_
    refine sg2 q1 q2 q3 q4 sel nfl X0 hx hZ hw hby hown ?_
    refine sg3 q1 q2 q3 q4 sel nfl X0 hx hZ hw hby hown ?_
    refine sg4 q1 q2 q3 q4 sel nfl X0 hx hZ hw hby hown ?_
    refine sg5 q1 q2 q3 q4 sel nfl X0 hx hZ hw hby hown ?_
    refine sg6 q1 q2 q3 q4 sel nfl X0 hx hZ hw hby hown ?_
    show Steps p.tables e below (s₁.setTop (mkF m 157 #[.val (.int q1), .val (.int q2), .val (.int q3), .val (.int q4), .val (.int sel), .val (.int nfl), .val (.int (kF sel)), .val (.int (psF sel)), .val (.double (pF sel)), .second, .val (.int (nF q1)), .val (.int (nkF sel q1 q2)), .val (.int (nkF sel q1 q3)), .val (.int (nF q4)), .val (.int (moF nfl)), .val (.int (wF nfl)), .val (.int (ffF nfl)), .val (.double (iV nfl)), .second, .unset, .unset, .unset, .unset, .unset, .unset, .unset] [])) _
    refine st99 _ ?_
    refine XS.dup X99.here hx rfl (hb hby at_160) rfl rfl ?_
    show Steps p.tables e below (T99.setTop (mkF m 161 #[.val (.int q1), .val (.int q2), .val (.int q3), .val (.int q4), .val (.int sel), .val (.int nfl), .val (.int (kF sel)), .val (.int (psF sel)), .val (.double (pF sel)), .second, .val (.int (nF q1)), .val (.int (nkF sel q1 q2)), .val (.int (nkF sel q1 q3)), .val (.int (nF q4)), .val (.int (moF nfl)), .val (.int (wF nfl)), .val (.int (ffF nfl)), .val (.double (iV nfl)), .second, .unset, .unset, .unset, .unset, .unset, .unset, .unset] [(.ref b99), (.ref b99)])) _
    refine st100.trans ?_
    refine XS.astore X100.here hx rfl (hb hby at_164) rfl rfl (l' := #[.val (.int q1), .val (.int q2), .val (.int q3), .val (.int q4), .val (.int sel), .val (.int nfl), .val (.int (kF sel)), .val (.int (psF sel)), .val (.double (pF sel)), .second, .val (.int (nF q1)), .val (.int (nkF sel q1 q2)), .val (.int (nkF sel q1 q3)), .val (.int (nF q4)), .val (.int (moF nfl)), .val (.int (wF nfl)), .val (.int (ffF nfl)), .val (.double (iV nfl)), .second, .val (.ref b99), .unset, .unset, .unset, .unset, .unset, .unset]) rfl ?_
    refine XS.iload X100.here hx rfl (hb hby at_166) rfl ?_
    refine XS.ifYes X100.here hx rfl (pc0 := 168) (pc' := 183) rfl (hb hby at_168) rfl ((if0 _ _).trans (teq hc168).1) (by decide) (by decide) ?_
    show Steps p.tables e below (T100.setTop (mkF m 183 #[.val (.int q1), .val (.int q2), .val (.int q3), .val (.int q4), .val (.int sel), .val (.int nfl), .val (.int (kF sel)), .val (.int (psF sel)), .val (.double (pF sel)), .second, .val (.int (nF q1)), .val (.int (nkF sel q1 q2)), .val (.int (nkF sel q1 q3)), .val (.int (nF q4)), .val (.int (moF nfl)), .val (.int (wF nfl)), .val (.int (ffF nfl)), .val (.double (iV nfl)), .second, .val (.ref b99), .unset, .unset, .unset, .unset, .unset, .unset] [])) _
    refine XS.aload X100.here hx rfl (hb hby at_183) rfl rfl ?_
    refine XS.iload X100.here hx rfl (hb hby at_185) rfl ?_
    refine XS.i2dS X100.here hx rfl (hb hby at_187) rfl rfl ?_
    refine XS.dload X100.here hx rfl (hb hby at_188) rfl ?_
    show Steps p.tables e below (T100.setTop (mkF m 190 #[.val (.int q1), .val (.int q2), .val (.int q3), .val (.int q4), .val (.int sel), .val (.int nfl), .val (.int (kF sel)), .val (.int (psF sel)), .val (.double (pF sel)), .second, .val (.int (nF q1)), .val (.int (nkF sel q1 q2)), .val (.int (nkF sel q1 q3)), .val (.int (nF q4)), .val (.int (moF nfl)), .val (.int (wF nfl)), .val (.int (ffF nfl)), .val (.double (iV nfl)), .second, .val (.ref b99), .unset, .unset, .unset, .unset, .unset, .unset] [(.double (pF sel)), (.double (FP.i2d (nF q1))), (.ref b99)])) _
    refine XS.dmulS X100.here hx rfl (hb hby at_190) rfl hnan190 rfl ?_
    show Steps p.tables e below (T100.setTop (mkF m 191 #[.val (.int q1), .val (.int q2), .val (.int q3), .val (.int q4), .val (.int sel), .val (.int nfl), .val (.int (kF sel)), .val (.int (psF sel)), .val (.double (pF sel)), .second, .val (.int (nF q1)), .val (.int (nkF sel q1 q2)), .val (.int (nkF sel q1 q3)), .val (.int (nF q4)), .val (.int (moF nfl)), .val (.int (wF nfl)), .val (.int (ffF nfl)), .val (.double (iV nfl)), .second, .val (.ref b99), .unset, .unset, .unset, .unset, .unset, .unset] [(.double (FP.dmul (FP.i2d (nF q1)) (pF sel))), (.ref b99)])) _
    refine st101.trans ?_
    refine XS.iload X101.here hx rfl (hb hby at_194) rfl ?_
    refine XS.iconst X101.here hx rfl (hb hby at_196) ?_
    refine XS.icmpNo X101.here hx rfl (hb hby at_197) rfl (flt hc197).1 ?_
    show Steps p.tables e below (T101.setTop (mkF m 200 #[.val (.int q1), .val (.int q2), .val (.int q3), .val (.int q4), .val (.int sel), .val (.int nfl), .val (.int (kF sel)), .val (.int (psF sel)), .val (.double (pF sel)), .second, .val (.int (nF q1)), .val (.int (nkF sel q1 q2)), .val (.int (nkF sel q1 q3)), .val (.int (nF q4)), .val (.int (moF nfl)), .val (.int (wF nfl)), .val (.int (ffF nfl)), .val (.double (iV nfl)), .second, .val (.ref b99), .unset, .unset, .unset, .unset, .unset, .unset] [])) _
    refine XS.aload X101.here hx rfl (hb hby at_200) rfl rfl ?_
    refine XS.iload X101.here hx rfl (hb hby at_202) rfl ?_
    refine XS.i2dS X101.here hx rfl (hb hby at_204) rfl rfl ?_
    refine XS.dload X101.here hx rfl (hb hby at_205) rfl ?_
    show Steps p.tables e below (T101.setTop (mkF m 207 #[.val (.int q1), .val (.int q2), .val (.int q3), .val (.int q4), .val (.int sel), .val (.int nfl), .val (.int (kF sel)), .val (.int (psF sel)), .val (.double (pF sel)), .second, .val (.int (nF q1)), .val (.int (nkF sel q1 q2)), .val (.int (nkF sel q1 q3)), .val (.int (nF q4)), .val (.int (moF nfl)), .val (.int (wF nfl)), .val (.int (ffF nfl)), .val (.double (iV nfl)), .second, .val (.ref b99), .unset, .unset, .unset, .unset, .unset, .unset] [(.double (pF sel)), (.double (FP.i2d (nkF sel q1 q2))), (.ref b99)])) _
    refine XS.dmulS X101.here hx rfl (hb hby at_207) rfl hnan207 rfl ?_
    show Steps p.tables e below (T101.setTop (mkF m 208 #[.val (.int q1), .val (.int q2), .val (.int q3), .val (.int q4), .val (.int sel), .val (.int nfl), .val (.int (kF sel)), .val (.int (psF sel)), .val (.double (pF sel)), .second, .val (.int (nF q1)), .val (.int (nkF sel q1 q2)), .val (.int (nkF sel q1 q3)), .val (.int (nF q4)), .val (.int (moF nfl)), .val (.int (wF nfl)), .val (.int (ffF nfl)), .val (.double (iV nfl)), .second, .val (.ref b99), .unset, .unset, .unset, .unset, .unset, .unset] [(.double (FP.dmul (FP.i2d (nkF sel q1 q2)) (pF sel))), (.ref b99)])) _
    refine st102.trans ?_
    refine XS.iload X102.here hx rfl (hb hby at_211) rfl ?_
    refine XS.iconst X102.here hx rfl (hb hby at_213) ?_
    refine XS.icmpNo X102.here hx rfl (hb hby at_214) rfl (flt hc214).1 ?_
    show Steps p.tables e below (T102.setTop (mkF m 217 #[.val (.int q1), .val (.int q2), .val (.int q3), .val (.int q4), .val (.int sel), .val (.int nfl), .val (.int (kF sel)), .val (.int (psF sel)), .val (.double (pF sel)), .second, .val (.int (nF q1)), .val (.int (nkF sel q1 q2)), .val (.int (nkF sel q1 q3)), .val (.int (nF q4)), .val (.int (moF nfl)), .val (.int (wF nfl)), .val (.int (ffF nfl)), .val (.double (iV nfl)), .second, .val (.ref b99), .unset, .unset, .unset, .unset, .unset, .unset] [])) _
    refine XS.aload X102.here hx rfl (hb hby at_217) rfl rfl ?_
    refine XS.iload X102.here hx rfl (hb hby at_219) rfl ?_
    refine XS.i2dS X102.here hx rfl (hb hby at_221) rfl rfl ?_
    refine XS.dload X102.here hx rfl (hb hby at_222) rfl ?_
    show Steps p.tables e below (T102.setTop (mkF m 224 #[.val (.int q1), .val (.int q2), .val (.int q3), .val (.int q4), .val (.int sel), .val (.int nfl), .val (.int (kF sel)), .val (.int (psF sel)), .val (.double (pF sel)), .second, .val (.int (nF q1)), .val (.int (nkF sel q1 q2)), .val (.int (nkF sel q1 q3)), .val (.int (nF q4)), .val (.int (moF nfl)), .val (.int (wF nfl)), .val (.int (ffF nfl)), .val (.double (iV nfl)), .second, .val (.ref b99), .unset, .unset, .unset, .unset, .unset, .unset] [(.double (pF sel)), (.double (FP.i2d (nkF sel q1 q3))), (.ref b99)])) _
    refine XS.dmulS X102.here hx rfl (hb hby at_224) rfl hnan224 rfl ?_
    show Steps p.tables e below (T102.setTop (mkF m 225 #[.val (.int q1), .val (.int q2), .val (.int q3), .val (.int q4), .val (.int sel), .val (.int nfl), .val (.int (kF sel)), .val (.int (psF sel)), .val (.double (pF sel)), .second, .val (.int (nF q1)), .val (.int (nkF sel q1 q2)), .val (.int (nkF sel q1 q3)), .val (.int (nF q4)), .val (.int (moF nfl)), .val (.int (wF nfl)), .val (.int (ffF nfl)), .val (.double (iV nfl)), .second, .val (.ref b99), .unset, .unset, .unset, .unset, .unset, .unset] [(.double (FP.dmul (FP.i2d (nkF sel q1 q3)) (pF sel))), (.ref b99)])) _
    refine st103.trans ?_
    refine XS.iload X103.here hx rfl (hb hby at_228) rfl ?_
    refine XS.iconst X103.here hx rfl (hb hby at_230) ?_
    refine XS.icmpYes X103.here hx rfl (pc0 := 231) (pc' := 245) rfl (hb hby at_231) rfl (tlt hc231).1 (by decide) (by decide) ?_
    show Steps p.tables e below (T103.setTop (mkF m 245 #[.val (.int q1), .val (.int q2), .val (.int q3), .val (.int q4), .val (.int sel), .val (.int nfl), .val (.int (kF sel)), .val (.int (psF sel)), .val (.double (pF sel)), .second, .val (.int (nF q1)), .val (.int (nkF sel q1 q2)), .val (.int (nkF sel q1 q3)), .val (.int (nF q4)), .val (.int (moF nfl)), .val (.int (wF nfl)), .val (.int (ffF nfl)), .val (.double (iV nfl)), .second, .val (.ref b99), .unset, .unset, .unset, .unset, .unset, .unset] [])) _
    refine XS.iload X103.here hx rfl (hb hby at_245) rfl ?_
    refine XS.ifYes X103.here hx rfl (pc0 := 247) (pc' := 262) rfl (hb hby at_247) rfl ((if0 _ _).trans (teq hc247).1) (by decide) (by decide) ?_
    refine XS.aload X103.here hx rfl (hb hby at_262) rfl rfl ?_
    show Steps p.tables e below (T103.setTop (mkF m 264 #[.val (.int q1), .val (.int q2), .val (.int q3), .val (.int q4), .val (.int sel), .val (.int nfl), .val (.int (kF sel)), .val (.int (psF sel)), .val (.double (pF sel)), .second, .val (.int (nF q1)), .val (.int (nkF sel q1 q2)), .val (.int (nkF sel q1 q3)), .val (.int (nF q4)), .val (.int (moF nfl)), .val (.int (wF nfl)), .val (.int (ffF nfl)), .val (.double (iV nfl)), .second, .val (.ref b99), .unset, .unset, .unset, .unset, .unset, .unset] [(.ref b99)])) _
    refine st104.trans ?_
    refine XS.dstore X104.here hx rfl (hb hby at_267) rfl (l' := #[.val (.int q1), .val (.int q2), .val (.int q3), .val (.int q4), .val (.int sel), .val (.int nfl), .val (.int (kF sel)), .val (.int (psF sel)), .val (.double (pF sel)), .second, .val (.int (nF q1)), .val (.int (nkF sel q1 q2)), .val (.int (nkF sel q1 q3)), .val (.int (nF q4)), .val (.int (moF nfl)), .val (.int (wF nfl)), .val (.int (ffF nfl)), .val (.double (iV nfl)), .second, .val (.ref b99), .val (.double (FP.ddiv (FP.dadd sf103 (FP.ddiv df103 (FP.l2d (((0 + (1 : Int64)) + (1 : Int64)) + (1 : Int64))))) sc103)), .second, .unset, .unset, .unset, .unset]) rfl ?_
    refine XS.iload X104.here hx rfl (hb hby at_269) rfl ?_
    refine XS.ifYes X104.here hx rfl (pc0 := 271) (pc' := 288) rfl (hb hby at_271) rfl ((if0 _ _).trans (teq hc271).1) (by decide) (by decide) ?_
    show Steps p.tables e below (T104.setTop (mkF m 288 #[.val (.int q1), .val (.int q2), .val (.int q3), .val (.int q4), .val (.int sel), .val (.int nfl), .val (.int (kF sel)), .val (.int (psF sel)), .val (.double (pF sel)), .second, .val (.int (nF q1)), .val (.int (nkF sel q1 q2)), .val (.int (nkF sel q1 q3)), .val (.int (nF q4)), .val (.int (moF nfl)), .val (.int (wF nfl)), .val (.int (ffF nfl)), .val (.double (iV nfl)), .second, .val (.ref b99), .val (.double (FP.ddiv (FP.dadd sf103 (FP.ddiv df103 (FP.l2d (((0 + (1 : Int64)) + (1 : Int64)) + (1 : Int64))))) sc103)), .second, .unset, .unset, .unset, .unset] [])) _
    refine XS.iload X104.here hx rfl (hb hby at_288) rfl ?_
    refine XS.i2l X104.here hx rfl (hb hby at_290) rfl ?_
    refine XS.lstore X104.here hx rfl (hb hby at_291) rfl (l' := #[.val (.int q1), .val (.int q2), .val (.int q3), .val (.int q4), .val (.int sel), .val (.int nfl), .val (.int (kF sel)), .val (.int (psF sel)), .val (.double (pF sel)), .second, .val (.int (nF q1)), .val (.int (nkF sel q1 q2)), .val (.int (nkF sel q1 q3)), .val (.int (nF q4)), .val (.int (moF nfl)), .val (.int (wF nfl)), .val (.int (ffF nfl)), .val (.double (iV nfl)), .second, .val (.ref b99), .val (.double (FP.ddiv (FP.dadd sf103 (FP.ddiv df103 (FP.l2d (((0 + (1 : Int64)) + (1 : Int64)) + (1 : Int64))))) sc103)), .second, .val (.long ((nF q1).toInt64)), .second, .unset, .unset]) rfl ?_
    refine XS.iload X104.here hx rfl (hb hby at_293) rfl ?_
    show Steps p.tables e below (T104.setTop (mkF m 295 #[.val (.int q1), .val (.int q2), .val (.int q3), .val (.int q4), .val (.int sel), .val (.int nfl), .val (.int (kF sel)), .val (.int (psF sel)), .val (.double (pF sel)), .second, .val (.int (nF q1)), .val (.int (nkF sel q1 q2)), .val (.int (nkF sel q1 q3)), .val (.int (nF q4)), .val (.int (moF nfl)), .val (.int (wF nfl)), .val (.int (ffF nfl)), .val (.double (iV nfl)), .second, .val (.ref b99), .val (.double (FP.ddiv (FP.dadd sf103 (FP.ddiv df103 (FP.l2d (((0 + (1 : Int64)) + (1 : Int64)) + (1 : Int64))))) sc103)), .second, .val (.long ((nF q1).toInt64)), .second, .unset, .unset] [(.int (kF sel))])) _
    refine XS.iconst X104.here hx rfl (hb hby at_295) ?_
    refine XS.icmpNo X104.here hx rfl (hb hby at_296) rfl (flt hc296).1 ?_
    refine XS.lload X104.here hx rfl (hb hby at_299) rfl ?_
    refine XS.iload X104.here hx rfl (hb hby at_301) rfl ?_
    show Steps p.tables e below (T104.setTop (mkF m 303 #[.val (.int q1), .val (.int q2), .val (.int q3), .val (.int q4), .val (.int sel), .val (.int nfl), .val (.int (kF sel)), .val (.int (psF sel)), .val (.double (pF sel)), .second, .val (.int (nF q1)), .val (.int (nkF sel q1 q2)), .val (.int (nkF sel q1 q3)), .val (.int (nF q4)), .val (.int (moF nfl)), .val (.int (wF nfl)), .val (.int (ffF nfl)), .val (.double (iV nfl)), .second, .val (.ref b99), .val (.double (FP.ddiv (FP.dadd sf103 (FP.ddiv df103 (FP.l2d (((0 + (1 : Int64)) + (1 : Int64)) + (1 : Int64))))) sc103)), .second, .val (.long ((nF q1).toInt64)), .second, .unset, .unset] [(.int (nkF sel q1 q2)), (.long ((nF q1).toInt64))])) _
    refine XS.i2l X104.here hx rfl (hb hby at_303) rfl ?_
    refine XS.ladd X104.here hx rfl (hb hby at_304) rfl ?_
    refine XS.lstore X104.here hx rfl (hb hby at_305) rfl (l' := #[.val (.int q1), .val (.int q2), .val (.int q3), .val (.int q4), .val (.int sel), .val (.int nfl), .val (.int (kF sel)), .val (.int (psF sel)), .val (.double (pF sel)), .second, .val (.int (nF q1)), .val (.int (nkF sel q1 q2)), .val (.int (nkF sel q1 q3)), .val (.int (nF q4)), .val (.int (moF nfl)), .val (.int (wF nfl)), .val (.int (ffF nfl)), .val (.double (iV nfl)), .second, .val (.ref b99), .val (.double (FP.ddiv (FP.dadd sf103 (FP.ddiv df103 (FP.l2d (((0 + (1 : Int64)) + (1 : Int64)) + (1 : Int64))))) sc103)), .second, .val (.long (((nF q1).toInt64) + ((nkF sel q1 q2).toInt64))), .second, .unset, .unset]) rfl ?_
    refine XS.iload X104.here hx rfl (hb hby at_307) rfl ?_
    show Steps p.tables e below (T104.setTop (mkF m 309 #[.val (.int q1), .val (.int q2), .val (.int q3), .val (.int q4), .val (.int sel), .val (.int nfl), .val (.int (kF sel)), .val (.int (psF sel)), .val (.double (pF sel)), .second, .val (.int (nF q1)), .val (.int (nkF sel q1 q2)), .val (.int (nkF sel q1 q3)), .val (.int (nF q4)), .val (.int (moF nfl)), .val (.int (wF nfl)), .val (.int (ffF nfl)), .val (.double (iV nfl)), .second, .val (.ref b99), .val (.double (FP.ddiv (FP.dadd sf103 (FP.ddiv df103 (FP.l2d (((0 + (1 : Int64)) + (1 : Int64)) + (1 : Int64))))) sc103)), .second, .val (.long (((nF q1).toInt64) + ((nkF sel q1 q2).toInt64))), .second, .unset, .unset] [(.int (kF sel))])) _
    refine XS.iconst X104.here hx rfl (hb hby at_309) ?_
    refine XS.icmpNo X104.here hx rfl (hb hby at_310) rfl (flt hc310).1 ?_
    refine XS.lload X104.here hx rfl (hb hby at_313) rfl ?_
    refine XS.iload X104.here hx rfl (hb hby at_315) rfl ?_
    show Steps p.tables e below (T104.setTop (mkF m 317 #[.val (.int q1), .val (.int q2), .val (.int q3), .val (.int q4), .val (.int sel), .val (.int nfl), .val (.int (kF sel)), .val (.int (psF sel)), .val (.double (pF sel)), .second, .val (.int (nF q1)), .val (.int (nkF sel q1 q2)), .val (.int (nkF sel q1 q3)), .val (.int (nF q4)), .val (.int (moF nfl)), .val (.int (wF nfl)), .val (.int (ffF nfl)), .val (.double (iV nfl)), .second, .val (.ref b99), .val (.double (FP.ddiv (FP.dadd sf103 (FP.ddiv df103 (FP.l2d (((0 + (1 : Int64)) + (1 : Int64)) + (1 : Int64))))) sc103)), .second, .val (.long (((nF q1).toInt64) + ((nkF sel q1 q2).toInt64))), .second, .unset, .unset] [(.int (nkF sel q1 q3)), (.long (((nF q1).toInt64) + ((nkF sel q1 q2).toInt64)))])) _
    refine XS.i2l X104.here hx rfl (hb hby at_317) rfl ?_
    refine XS.ladd X104.here hx rfl (hb hby at_318) rfl ?_
    refine XS.lstore X104.here hx rfl (hb hby at_319) rfl (l' := #[.val (.int q1), .val (.int q2), .val (.int q3), .val (.int q4), .val (.int sel), .val (.int nfl), .val (.int (kF sel)), .val (.int (psF sel)), .val (.double (pF sel)), .second, .val (.int (nF q1)), .val (.int (nkF sel q1 q2)), .val (.int (nkF sel q1 q3)), .val (.int (nF q4)), .val (.int (moF nfl)), .val (.int (wF nfl)), .val (.int (ffF nfl)), .val (.double (iV nfl)), .second, .val (.ref b99), .val (.double (FP.ddiv (FP.dadd sf103 (FP.ddiv df103 (FP.l2d (((0 + (1 : Int64)) + (1 : Int64)) + (1 : Int64))))) sc103)), .second, .val (.long ((((nF q1).toInt64) + ((nkF sel q1 q2).toInt64)) + ((nkF sel q1 q3).toInt64))), .second, .unset, .unset]) rfl ?_
    refine XS.iload X104.here hx rfl (hb hby at_321) rfl ?_
    show Steps p.tables e below (T104.setTop (mkF m 323 #[.val (.int q1), .val (.int q2), .val (.int q3), .val (.int q4), .val (.int sel), .val (.int nfl), .val (.int (kF sel)), .val (.int (psF sel)), .val (.double (pF sel)), .second, .val (.int (nF q1)), .val (.int (nkF sel q1 q2)), .val (.int (nkF sel q1 q3)), .val (.int (nF q4)), .val (.int (moF nfl)), .val (.int (wF nfl)), .val (.int (ffF nfl)), .val (.double (iV nfl)), .second, .val (.ref b99), .val (.double (FP.ddiv (FP.dadd sf103 (FP.ddiv df103 (FP.l2d (((0 + (1 : Int64)) + (1 : Int64)) + (1 : Int64))))) sc103)), .second, .val (.long ((((nF q1).toInt64) + ((nkF sel q1 q2).toInt64)) + ((nkF sel q1 q3).toInt64))), .second, .unset, .unset] [(.int (kF sel))])) _
    refine XS.iconst X104.here hx rfl (hb hby at_323) ?_
    refine XS.icmpYes X104.here hx rfl (pc0 := 324) (pc' := 335) rfl (hb hby at_324) rfl (tlt hc324).1 (by decide) (by decide) ?_
    refine XS.lload X104.here hx rfl (hb hby at_335) rfl ?_
    refine XS.l2dS X104.here hx rfl (hb hby at_337) rfl rfl ?_
    show Steps p.tables e below (T104.setTop (mkF m 338 #[.val (.int q1), .val (.int q2), .val (.int q3), .val (.int q4), .val (.int sel), .val (.int nfl), .val (.int (kF sel)), .val (.int (psF sel)), .val (.double (pF sel)), .second, .val (.int (nF q1)), .val (.int (nkF sel q1 q2)), .val (.int (nkF sel q1 q3)), .val (.int (nF q4)), .val (.int (moF nfl)), .val (.int (wF nfl)), .val (.int (ffF nfl)), .val (.double (iV nfl)), .second, .val (.ref b99), .val (.double (FP.ddiv (FP.dadd sf103 (FP.ddiv df103 (FP.l2d (((0 + (1 : Int64)) + (1 : Int64)) + (1 : Int64))))) sc103)), .second, .val (.long ((((nF q1).toInt64) + ((nkF sel q1 q2).toInt64)) + ((nkF sel q1 q3).toInt64))), .second, .unset, .unset] [(.double (FP.l2d ((((nF q1).toInt64) + ((nkF sel q1 q2).toInt64)) + ((nkF sel q1 q3).toInt64))))])) _
    refine XS.iload X104.here hx rfl (hb hby at_338) rfl ?_
    refine XS.i2dS X104.here hx rfl (hb hby at_340) rfl rfl ?_
    refine XS.ddivS X104.here hx rfl (hb hby at_341) rfl m4 rfl ?_
    refine XS.dload X104.here hx rfl (hb hby at_342) rfl ?_
    show Steps p.tables e below (T104.setTop (mkF m 344 #[.val (.int q1), .val (.int q2), .val (.int q3), .val (.int q4), .val (.int sel), .val (.int nfl), .val (.int (kF sel)), .val (.int (psF sel)), .val (.double (pF sel)), .second, .val (.int (nF q1)), .val (.int (nkF sel q1 q2)), .val (.int (nkF sel q1 q3)), .val (.int (nF q4)), .val (.int (moF nfl)), .val (.int (wF nfl)), .val (.int (ffF nfl)), .val (.double (iV nfl)), .second, .val (.ref b99), .val (.double (FP.ddiv (FP.dadd sf103 (FP.ddiv df103 (FP.l2d (((0 + (1 : Int64)) + (1 : Int64)) + (1 : Int64))))) sc103)), .second, .val (.long ((((nF q1).toInt64) + ((nkF sel q1 q2).toInt64)) + ((nkF sel q1 q3).toInt64))), .second, .unset, .unset] [(.double (pF sel)), (.double (FP.ddiv (FP.l2d ((((nF q1).toInt64) + ((nkF sel q1 q2).toInt64)) + ((nkF sel q1 q3).toInt64))) (FP.i2d (kF sel))))])) _
    refine XS.dmulS X104.here hx rfl (hb hby at_344) rfl m5 rfl ?_
    refine XS.dstore X104.here hx rfl (hb hby at_345) rfl (l' := #[.val (.int q1), .val (.int q2), .val (.int q3), .val (.int q4), .val (.int sel), .val (.int nfl), .val (.int (kF sel)), .val (.int (psF sel)), .val (.double (pF sel)), .second, .val (.int (nF q1)), .val (.int (nkF sel q1 q2)), .val (.int (nkF sel q1 q3)), .val (.int (nF q4)), .val (.int (moF nfl)), .val (.int (wF nfl)), .val (.int (ffF nfl)), .val (.double (iV nfl)), .second, .val (.ref b99), .val (.double (FP.ddiv (FP.dadd sf103 (FP.ddiv df103 (FP.l2d (((0 + (1 : Int64)) + (1 : Int64)) + (1 : Int64))))) sc103)), .second, .val (.long ((((nF q1).toInt64) + ((nkF sel q1 q2).toInt64)) + ((nkF sel q1 q3).toInt64))), .second, .val (.double (FP.dmul (FP.ddiv (FP.l2d ((((nF q1).toInt64) + ((nkF sel q1 q2).toInt64)) + ((nkF sel q1 q3).toInt64))) (FP.i2d (kF sel))) (pF sel))), .second]) rfl ?_
    refine XS.dload X104.here hx rfl (hb hby at_347) rfl ?_
    refine XS.dload X104.here hx rfl (hb hby at_349) rfl ?_
    show Steps p.tables e below (T104.setTop (mkF m 351 #[.val (.int q1), .val (.int q2), .val (.int q3), .val (.int q4), .val (.int sel), .val (.int nfl), .val (.int (kF sel)), .val (.int (psF sel)), .val (.double (pF sel)), .second, .val (.int (nF q1)), .val (.int (nkF sel q1 q2)), .val (.int (nkF sel q1 q3)), .val (.int (nF q4)), .val (.int (moF nfl)), .val (.int (wF nfl)), .val (.int (ffF nfl)), .val (.double (iV nfl)), .second, .val (.ref b99), .val (.double (FP.ddiv (FP.dadd sf103 (FP.ddiv df103 (FP.l2d (((0 + (1 : Int64)) + (1 : Int64)) + (1 : Int64))))) sc103)), .second, .val (.long ((((nF q1).toInt64) + ((nkF sel q1 q2).toInt64)) + ((nkF sel q1 q3).toInt64))), .second, .val (.double (FP.dmul (FP.ddiv (FP.l2d ((((nF q1).toInt64) + ((nkF sel q1 q2).toInt64)) + ((nkF sel q1 q3).toInt64))) (FP.i2d (kF sel))) (pF sel))), .second] [(.double (FP.dmul (FP.ddiv (FP.l2d ((((nF q1).toInt64) + ((nkF sel q1 q2).toInt64)) + ((nkF sel q1 q3).toInt64))) (FP.i2d (kF sel))) (pF sel))), (.double (FP.ddiv (FP.dadd sf103 (FP.ddiv df103 (FP.l2d (((0 + (1 : Int64)) + (1 : Int64)) + (1 : Int64))))) sc103))])) _
    refine XS.dcmpS X104.here hx rfl (hb hby at_351) rfl rfl ?_
    refine XS.ifNo X104.here hx rfl (hb hby at_352) rfl ((if0 _ _).trans (teq m6).2) ?_
    refine XS.iconst X104.here hx rfl (hb hby at_355) ?_
    refine XS.goto X104.here hx rfl (pc0 := 356) (pc' := 360) rfl (hb hby at_356) (by decide) (by decide) ?_
    show Steps p.tables e below (T104.setTop (mkF m 360 #[.val (.int q1), .val (.int q2), .val (.int q3), .val (.int q4), .val (.int sel), .val (.int nfl), .val (.int (kF sel)), .val (.int (psF sel)), .val (.double (pF sel)), .second, .val (.int (nF q1)), .val (.int (nkF sel q1 q2)), .val (.int (nkF sel q1 q3)), .val (.int (nF q4)), .val (.int (moF nfl)), .val (.int (wF nfl)), .val (.int (ffF nfl)), .val (.double (iV nfl)), .second, .val (.ref b99), .val (.double (FP.ddiv (FP.dadd sf103 (FP.ddiv df103 (FP.l2d (((0 + (1 : Int64)) + (1 : Int64)) + (1 : Int64))))) sc103)), .second, .val (.long ((((nF q1).toInt64) + ((nkF sel q1 q2).toInt64)) + ((nkF sel q1 q3).toInt64))), .second, .val (.double (FP.dmul (FP.ddiv (FP.l2d ((((nF q1).toInt64) + ((nkF sel q1 q2).toInt64)) + ((nkF sel q1 q3).toInt64))) (FP.i2d (kF sel))) (pF sel))), .second] [(.int (1 : Int32))])) _
    exact retN X104 hx (t := .boolean) Bd.returns (by simp) (hb hby at_360) hr
  · show Q0  h0 n0 _ T104.heap _
    exact ⟨rfl, N104⟩
set_option maxRecDepth 65536 in
set_option maxHeartbeats 40000000 in
theorem rm0_n4 (l : Launch) (Z : State) (a0 : Array Value) (hw : ∀ d ∈ tables_1, d.before a0 Z = true) (ws : List Jvm.Cond) (q1 : Int32) (q2 : Int32) (q3 : Int32) (q4 : Int32) (sel : Int32) (nfl : Int32) (U : Nat) (h0 : Heap) (n0 : Nat) (Z0 : n0 ≤ h0.size) (hU : 74 ≤ U ∧ U ≤ 2074) (hU2 : U = 2074 ∨ U ≤ 1074) (hp : DV 1 U (pF sel)) (d1 : DV (nF q1).toInt U (FP.dmul (FP.i2d (nF q1)) (pF sel))) (r1 : -8388608 ≤ (nF q1).toInt ∧ (nF q1).toInt ≤ 8388607) (d2 : DV (nkF sel q1 q2).toInt U (FP.dmul (FP.i2d (nkF sel q1 q2)) (pF sel))) (r2 : -8388608 ≤ (nkF sel q1 q2).toInt ∧ (nkF sel q1 q2).toInt ≤ 8388607) (d3 : DV (nkF sel q1 q3).toInt U (FP.dmul (FP.i2d (nkF sel q1 q3)) (pF sel))) (r3 : -8388608 ≤ (nkF sel q1 q3).toInt ∧ (nkF sel q1 q3).toInt ≤ 8388607) (d4 : DV (nF q4).toInt U (FP.dmul (FP.i2d (nF q4)) (pF sel))) (r4 : -8388608 ≤ (nF q4).toInt ∧ (nF q4).toInt ≤ 8388607) (hkk : (kF sel).toInt = 4) (hsm : ((((((nF q1).toInt64) + ((nkF sel q1 q2).toInt64)) + ((nkF sel q1 q3).toInt64)) + ((nF q4).toInt64))).toInt = (nF q1).toInt + (nkF sel q1 q2).toInt + (nkF sel q1 q3).toInt + (nF q4).toInt) (hc168 : (wF nfl) = (0 : Int32)) (hnan190 : Jvm.Free.Fl.NoNaN64 (FP.dmul (FP.i2d (nF q1)) (pF sel))) (hc197 : ¬ ((kF sel) < (2 : Int32))) (hnan207 : Jvm.Free.Fl.NoNaN64 (FP.dmul (FP.i2d (nkF sel q1 q2)) (pF sel))) (hc214 : ¬ ((kF sel) < (3 : Int32))) (hnan224 : Jvm.Free.Fl.NoNaN64 (FP.dmul (FP.i2d (nkF sel q1 q3)) (pF sel))) (hc231 : ¬ ((kF sel) < (4 : Int32))) (hnan241 : Jvm.Free.Fl.NoNaN64 (FP.dmul (FP.i2d (nF q4)) (pF sel))) (hc247 : (wF nfl) = (0 : Int32)) (hc271 : (wF nfl) = (0 : Int32)) (hc296 : ¬ ((kF sel) < (2 : Int32))) (hc310 : ¬ ((kF sel) < (3 : Int32))) (hc324 : ¬ ((kF sel) < (4 : Int32))) :
    MetFree l x (head1 (Jvm.Cond.code x code maxLocals ret :: ws) room_1) (fun aa_ U_ => aa_ = #[(.int q1), (.int q2), (.int q3), (.int q4), (.int sel), (.int nfl)] ∧ Z.Warmed39 U_.vm ∧ U_.heap = h0) (fun _ _ _ _ _ => True) (fun _ U_ o_ V_ => ∃ v_ L_, o_ = .returned v_ ∧ Q0  h0 n0 v_ V_.heap L_ ∧ FrameEnd U_ o_ V_ L_ room_1.cells room_1.slots) := by
  refine MetFree.of_bodySF (plainFor_of_name pn_0) hisR ?_
  intro p e s m args below meth c s₁ Bd hml0 hP hK
  obtain ⟨rfl, hZ, hh⟩ := hP
  have hx := Bd.exec
  have hby := Bd.bytes
  have hml : c.maxLocals = 26 := hml0
  have hown : s.vm.findClass "com/example/retiremetric/retiremetric/engine/MeanMeanPinLaw" = some m.cls := findClass_of_methodNamed Bd.named
  have hnm := (name_of_methodNamed Bd.named Bd.method).1
  have X0 : Stand p l e room_1 s m #[(.int q1), (.int q2), (.int q3), (.int q4), (.int sel), (.int nfl)] below meth c s₁ [] 0 0 := Stand.of_body Bd
  have e0 : s₁.heap = h0 := by rw [← hh, Bd.state]; rfl
  have N0 := Fr.nil n0
  have pre0 : ∀ zz, Steps p.tables e below (s₁.setTop (mkF m 0 #[.val (.int q1), .val (.int q2), .val (.int q3), .val (.int q4), .val (.int sel), .val (.int nfl), .unset, .unset, .unset, .unset, .unset, .unset, .unset, .unset, .unset, .unset, .unset, .unset, .unset, .unset, .unset, .unset, .unset, .unset, .unset, .unset] [])) zz → Steps p.tables e below (s₁.setTop (entryFrame m #[(.int q1), (.int q2), (.int q3), (.int q4), (.int sel), (.int nfl)] maxLocals)) zz := fun zz k => castTop (ef_0 m q1 q2 q3 q4 sel nfl) k
  have mv0 : MV U 0 0 0 0 FP.dconst1 0 0 := ⟨by omega, zero_dv _, one_dv, zero_dv _, zero_dv _, by simp⟩
  obtain ⟨T105, h105, X105, e105, E105, A105, D105, -, st105⟩ := newO X0 hx hZ hown (hw _ (List.mem_of_getElem? (i := 1) rfl)) (hw _ (List.mem_of_getElem? (i := 2) rfl)) (hw _ (List.mem_of_getElem? (i := 3) rfl)) e0 (g := (mkF m 157 #[.val (.int q1), .val (.int q2), .val (.int q3), .val (.int q4), .val (.int sel), .val (.int nfl), .val (.int (kF sel)), .val (.int (psF sel)), .val (.double (pF sel)), .second, .val (.int (nF q1)), .val (.int (nkF sel q1 q2)), .val (.int (nkF sel q1 q3)), .val (.int (nF q4)), .val (.int (moF nfl)), .val (.int (wF nfl)), .val (.int (ffF nfl)), .val (.double (iV nfl)), .second, .unset, .unset, .unset, .unset, .unset, .unset, .unset] [])) rfl (hb hby at_157) (by decide) (by decide)
  obtain ⟨b105, g105⟩ : ∃ z, z = h0.size := ⟨_, rfl⟩
  rw [← g105] at A105 D105 st105
  have E_b105 := A105
  have g_b105 : n0 ≤ b105 := Nat.le_trans Z0 (Nat.le_of_eq g105.symm)
  have sz_b105 : h0.size ≤ b105 := Nat.le_trans (Keep.refl h0 []).1 (Nat.le_of_eq g105.symm)
  have K105 := (Keep.refl h0 []).ext E105
  have Z105 : n0 ≤ h105.size := Nat.le_trans Z0 E105.1
  have F_scale_b105 : Fld Z h105 b105 "com/example/retiremetric/retiremetric/engine/Mean" "scale" "D" (.double 0) := D105 (Or.inl (hw _ (List.mem_of_getElem? (i := 11) rfl))) (ty := .double) (by decide)
  have F_count_b105 : Fld Z h105 b105 "com/example/retiremetric/retiremetric/engine/Mean" "count" "J" (.long (0 : Int64)) := D105 (Or.inl (hw _ (List.mem_of_getElem? (i := 27) rfl))) (ty := .long) (by decide)
  have F_first_b105 : Fld Z h105 b105 "com/example/retiremetric/retiremetric/engine/Mean" "first" "D" (.double 0) := D105 (Or.inl (hw _ (List.mem_of_getElem? (i := 29) rfl))) (ty := .double) (by decide)
  have F_scaledFirst_b105 : Fld Z h105 b105 "com/example/retiremetric/retiremetric/engine/Mean" "scaledFirst" "D" (.double 0) := D105 (Or.inl (hw _ (List.mem_of_getElem? (i := 31) rfl))) (ty := .double) (by decide)
  have F_differences_b105 : Fld Z h105 b105 "com/example/retiremetric/retiremetric/engine/Mean" "differences" "D" (.double 0) := D105 (Or.inl (hw _ (List.mem_of_getElem? (i := 33) rfl))) (ty := .double) (by decide)
  have F_infinities_b105 : Fld Z h105 b105 "com/example/retiremetric/retiremetric/engine/Mean" "infinities" "D" (.double 0) := D105 (Or.inl (hw _ (List.mem_of_getElem? (i := 40) rfl))) (ty := .double) (by decide)
  obtain ⟨_, _, ⟨T106, L106, k106, n106⟩, -, X106, ⟨Lc106, hQ106, l106, y106, z106⟩, st106⟩ := X105.specialBack hx (y := (⟨"com/example/retiremetric/retiremetric/engine/Mean", "<init>", "()V"⟩ : MethodName)) rfl hown (mvT hZ (hw _ (List.mem_of_getElem? (i := 4) rfl))) (mvT hZ (hw _ (List.mem_of_getElem? (i := 5) rfl))) (mvT hZ (hw _ (List.mem_of_getElem? (i := 6) rfl))) (by decide) (backOf (W := 1) (rm1 l Z a0 hw [] b105 h105 n0 Z105 g_b105 ⟨E_b105, F_first_b105, F_scale_b105, F_scaledFirst_b105, F_differences_b105, F_infinities_b105, F_count_b105⟩) hZ (hw _ (List.mem_of_getElem? (i := 6) rfl)) (hw _ (List.mem_of_getElem? (i := 3) rfl)) (by decide) (by decide)) (g := (mkF m 161 #[.val (.int q1), .val (.int q2), .val (.int q3), .val (.int q4), .val (.int sel), .val (.int nfl), .val (.int (kF sel)), .val (.int (psF sel)), .val (.double (pF sel)), .second, .val (.int (nF q1)), .val (.int (nkF sel q1 q2)), .val (.int (nkF sel q1 q3)), .val (.int (nF q4)), .val (.int (moF nfl)), .val (.int (wF nfl)), .val (.int (ffF nfl)), .val (.double (iV nfl)), .second, .unset, .unset, .unset, .unset, .unset, .unset, .unset] [(.ref b105), (.ref b105)])) rfl (by rw [hml]; rfl) (Steps.refl _) (a := b105) (argsL := []) (rest := [(.ref b105)]) (lenOf pd_0 rfl) rfl (by show 2 * 0 + _ ≤ _; exact Nat.le_of_eq rfl) (hb hby at_161) (fun _ _ => ⟨rfl, e105, (by decide : 1 + 0 ≤ _), (by decide : 6 + 0 ≤ _)⟩)
  dsimp only [Pt.U, Pt.locs, Pt.cells, Pt.slots] at X106 l106 y106 z106 st106 hQ106
  subst l106 y106 z106
  obtain ⟨rfl, N106q, K106q, M106⟩ := hQ106
  have N106 := Fr.app N0 N106q
  have Z106 : n0 ≤ T106.heap.size := Nat.le_trans Z105 K106q.1
  obtain ⟨cq107, kq107, q107a, q107b, q107c⟩ := isOf hZ rfl M106.1
  obtain ⟨_, _, ⟨T107, L107, k107, n107⟩, -, X107, ⟨Lc107, hQ107, l107, y107, z107⟩, st107⟩ := X106.virtualBack hx (y := (⟨"com/example/retiremetric/retiremetric/engine/Mean", "add", "(D)V"⟩ : MethodName)) (z := (⟨"com/example/retiremetric/retiremetric/engine/Mean", "add", "(D)V"⟩ : MethodName)) hown (mvT hZ (hw _ (List.mem_of_getElem? (i := 12) rfl))) (mvT hZ (hw _ (List.mem_of_getElem? (i := 13) rfl))) (notFace_of_selects (args := #[]) (mvT hZ (hw _ (List.mem_of_getElem? (i := 15) rfl)))) (mvT hZ (hw _ (List.mem_of_getElem? (i := 15) rfl))) (mvT hZ (hw _ (List.mem_of_getElem? (i := 14) rfl))) (by decide) (backOf (W := 0) (rm3_one l Z a0 hw [] b105 (FP.dmul (FP.i2d (nF q1)) (pF sel)) 0 U (nF q1).toInt T106.heap n0 Z106 g_b105 M106 hU d1 (by omega)) hZ (hw _ (List.mem_of_getElem? (i := 16) rfl)) (hw _ (List.mem_of_getElem? (i := 3) rfl)) (by decide) (by decide)) q107a q107c (g := (mkF m 191 #[.val (.int q1), .val (.int q2), .val (.int q3), .val (.int q4), .val (.int sel), .val (.int nfl), .val (.int (kF sel)), .val (.int (psF sel)), .val (.double (pF sel)), .second, .val (.int (nF q1)), .val (.int (nkF sel q1 q2)), .val (.int (nkF sel q1 q3)), .val (.int (nF q4)), .val (.int (moF nfl)), .val (.int (wF nfl)), .val (.int (ffF nfl)), .val (.double (iV nfl)), .second, .val (.ref b105), .unset, .unset, .unset, .unset, .unset, .unset] [(.double (FP.dmul (FP.i2d (nF q1)) (pF sel))), (.ref b105)])) rfl (by rw [hml]; rfl) (Steps.refl _) (argsL := [(.double (FP.dmul (FP.i2d (nF q1)) (pF sel)))]) (rest := []) (lenOf pd_1 rfl) rfl (by show 2 * 0 + _ ≤ _; exact Nat.le_of_eq rfl) (hb hby at_191) (fun _ _ => ⟨rfl, rfl, (by decide : 1 + 0 ≤ _), (by decide : 6 + 0 ≤ _)⟩)
  dsimp only [Pt.U, Pt.locs, Pt.cells, Pt.slots] at X107 l107 y107 z107 st107 hQ107
  subst l107 y107 z107
  obtain ⟨x107, f107, sc107, sf107, df107, V107, rfl, N107q, K107q, M107⟩ := hQ107
  have N107 := Fr.app N106 N107q
  have Z107 : n0 ≤ T107.heap.size := Nat.le_trans Z106 K107q.1
  obtain ⟨cq108, kq108, q108a, q108b, q108c⟩ := isOf hZ rfl M107.1
  obtain ⟨_, _, ⟨T108, L108, k108, n108⟩, -, X108, ⟨Lc108, hQ108, l108, y108, z108⟩, st108⟩ := X107.virtualBack hx (y := (⟨"com/example/retiremetric/retiremetric/engine/Mean", "add", "(D)V"⟩ : MethodName)) (z := (⟨"com/example/retiremetric/retiremetric/engine/Mean", "add", "(D)V"⟩ : MethodName)) hown (mvT hZ (hw _ (List.mem_of_getElem? (i := 12) rfl))) (mvT hZ (hw _ (List.mem_of_getElem? (i := 13) rfl))) (notFace_of_selects (args := #[]) (mvT hZ (hw _ (List.mem_of_getElem? (i := 15) rfl)))) (mvT hZ (hw _ (List.mem_of_getElem? (i := 15) rfl))) (mvT hZ (hw _ (List.mem_of_getElem? (i := 14) rfl))) (by decide) (backOf (W := 0) (rm3_fin l Z a0 hw [] b105 (FP.dmul (FP.i2d (nkF sel q1 q2)) (pF sel)) f107 sc107 sf107 df107 0 (0 + (1 : Int64)) U (nF q1).toInt 0 (nkF sel q1 q2).toInt x107 T107.heap n0 Z107 g_b105 M107 hU hU2 d2 V107 (by omega) (by omega) (by omega) (by omega) (by decide)) hZ (hw _ (List.mem_of_getElem? (i := 16) rfl)) (hw _ (List.mem_of_getElem? (i := 3) rfl)) (by decide) (by decide)) q108a q108c (g := (mkF m 208 #[.val (.int q1), .val (.int q2), .val (.int q3), .val (.int q4), .val (.int sel), .val (.int nfl), .val (.int (kF sel)), .val (.int (psF sel)), .val (.double (pF sel)), .second, .val (.int (nF q1)), .val (.int (nkF sel q1 q2)), .val (.int (nkF sel q1 q3)), .val (.int (nF q4)), .val (.int (moF nfl)), .val (.int (wF nfl)), .val (.int (ffF nfl)), .val (.double (iV nfl)), .second, .val (.ref b105), .unset, .unset, .unset, .unset, .unset, .unset] [(.double (FP.dmul (FP.i2d (nkF sel q1 q2)) (pF sel))), (.ref b105)])) rfl (by rw [hml]; rfl) (Steps.refl _) (argsL := [(.double (FP.dmul (FP.i2d (nkF sel q1 q2)) (pF sel)))]) (rest := []) (lenOf pd_1 rfl) rfl (by show 2 * 0 + _ ≤ _; exact Nat.le_of_eq rfl) (hb hby at_208) (fun _ _ => ⟨rfl, rfl, (by decide : 1 + 0 ≤ _), (by decide : 6 + 0 ≤ _)⟩)
  dsimp only [Pt.U, Pt.locs, Pt.cells, Pt.slots] at X108 l108 y108 z108 st108 hQ108
  subst l108 y108 z108
  obtain ⟨x108, f108, sc108, sf108, df108, V108, rfl, N108q, K108q, M108⟩ := hQ108
  have N108 := Fr.app N107 N108q
  have Z108 : n0 ≤ T108.heap.size := Nat.le_trans Z107 K108q.1
  obtain ⟨cq109, kq109, q109a, q109b, q109c⟩ := isOf hZ rfl M108.1
  obtain ⟨_, _, ⟨T109, L109, k109, n109⟩, -, X109, ⟨Lc109, hQ109, l109, y109, z109⟩, st109⟩ := X108.virtualBack hx (y := (⟨"com/example/retiremetric/retiremetric/engine/Mean", "add", "(D)V"⟩ : MethodName)) (z := (⟨"com/example/retiremetric/retiremetric/engine/Mean", "add", "(D)V"⟩ : MethodName)) hown (mvT hZ (hw _ (List.mem_of_getElem? (i := 12) rfl))) (mvT hZ (hw _ (List.mem_of_getElem? (i := 13) rfl))) (notFace_of_selects (args := #[]) (mvT hZ (hw _ (List.mem_of_getElem? (i := 15) rfl)))) (mvT hZ (hw _ (List.mem_of_getElem? (i := 15) rfl))) (mvT hZ (hw _ (List.mem_of_getElem? (i := 14) rfl))) (by decide) (backOf (W := 0) (rm3_fin l Z a0 hw [] b105 (FP.dmul (FP.i2d (nkF sel q1 q3)) (pF sel)) f108 sc108 sf108 df108 0 ((0 + (1 : Int64)) + (1 : Int64)) U (nF q1).toInt (0 + ((nkF sel q1 q2).toInt - (nF q1).toInt)) (nkF sel q1 q3).toInt x108 T108.heap n0 Z108 g_b105 M108 hU hU2 d3 V108 (by omega) (by omega) (by omega) (by omega) (by decide)) hZ (hw _ (List.mem_of_getElem? (i := 16) rfl)) (hw _ (List.mem_of_getElem? (i := 3) rfl)) (by decide) (by decide)) q109a q109c (g := (mkF m 225 #[.val (.int q1), .val (.int q2), .val (.int q3), .val (.int q4), .val (.int sel), .val (.int nfl), .val (.int (kF sel)), .val (.int (psF sel)), .val (.double (pF sel)), .second, .val (.int (nF q1)), .val (.int (nkF sel q1 q2)), .val (.int (nkF sel q1 q3)), .val (.int (nF q4)), .val (.int (moF nfl)), .val (.int (wF nfl)), .val (.int (ffF nfl)), .val (.double (iV nfl)), .second, .val (.ref b105), .unset, .unset, .unset, .unset, .unset, .unset] [(.double (FP.dmul (FP.i2d (nkF sel q1 q3)) (pF sel))), (.ref b105)])) rfl (by rw [hml]; rfl) (Steps.refl _) (argsL := [(.double (FP.dmul (FP.i2d (nkF sel q1 q3)) (pF sel)))]) (rest := []) (lenOf pd_1 rfl) rfl (by show 2 * 0 + _ ≤ _; exact Nat.le_of_eq rfl) (hb hby at_225) (fun _ _ => ⟨rfl, rfl, (by decide : 1 + 0 ≤ _), (by decide : 6 + 0 ≤ _)⟩)
  dsimp only [Pt.U, Pt.locs, Pt.cells, Pt.slots] at X109 l109 y109 z109 st109 hQ109
  subst l109 y109 z109
  obtain ⟨x109, f109, sc109, sf109, df109, V109, rfl, N109q, K109q, M109⟩ := hQ109
  have N109 := Fr.app N108 N109q
  have Z109 : n0 ≤ T109.heap.size := Nat.le_trans Z108 K109q.1
  obtain ⟨cq110, kq110, q110a, q110b, q110c⟩ := isOf hZ rfl M109.1
  obtain ⟨_, _, ⟨T110, L110, k110, n110⟩, -, X110, ⟨Lc110, hQ110, l110, y110, z110⟩, st110⟩ := X109.virtualBack hx (y := (⟨"com/example/retiremetric/retiremetric/engine/Mean", "add", "(D)V"⟩ : MethodName)) (z := (⟨"com/example/retiremetric/retiremetric/engine/Mean", "add", "(D)V"⟩ : MethodName)) hown (mvT hZ (hw _ (List.mem_of_getElem? (i := 12) rfl))) (mvT hZ (hw _ (List.mem_of_getElem? (i := 13) rfl))) (notFace_of_selects (args := #[]) (mvT hZ (hw _ (List.mem_of_getElem? (i := 15) rfl)))) (mvT hZ (hw _ (List.mem_of_getElem? (i := 15) rfl))) (mvT hZ (hw _ (List.mem_of_getElem? (i := 14) rfl))) (by decide) (backOf (W := 0) (rm3_fin l Z a0 hw [] b105 (FP.dmul (FP.i2d (nF q4)) (pF sel)) f109 sc109 sf109 df109 0 (((0 + (1 : Int64)) + (1 : Int64)) + (1 : Int64)) U (nF q1).toInt ((0 + ((nkF sel q1 q2).toInt - (nF q1).toInt)) + ((nkF sel q1 q3).toInt - (nF q1).toInt)) (nF q4).toInt x109 T109.heap n0 Z109 g_b105 M109 hU hU2 d4 V109 (by omega) (by omega) (by omega) (by omega) (by decide)) hZ (hw _ (List.mem_of_getElem? (i := 16) rfl)) (hw _ (List.mem_of_getElem? (i := 3) rfl)) (by decide) (by decide)) q110a q110c (g := (mkF m 242 #[.val (.int q1), .val (.int q2), .val (.int q3), .val (.int q4), .val (.int sel), .val (.int nfl), .val (.int (kF sel)), .val (.int (psF sel)), .val (.double (pF sel)), .second, .val (.int (nF q1)), .val (.int (nkF sel q1 q2)), .val (.int (nkF sel q1 q3)), .val (.int (nF q4)), .val (.int (moF nfl)), .val (.int (wF nfl)), .val (.int (ffF nfl)), .val (.double (iV nfl)), .second, .val (.ref b105), .unset, .unset, .unset, .unset, .unset, .unset] [(.double (FP.dmul (FP.i2d (nF q4)) (pF sel))), (.ref b105)])) rfl (by rw [hml]; rfl) (Steps.refl _) (argsL := [(.double (FP.dmul (FP.i2d (nF q4)) (pF sel)))]) (rest := []) (lenOf pd_1 rfl) rfl (by show 2 * 0 + _ ≤ _; exact Nat.le_of_eq rfl) (hb hby at_242) (fun _ _ => ⟨rfl, rfl, (by decide : 1 + 0 ≤ _), (by decide : 6 + 0 ≤ _)⟩)
  dsimp only [Pt.U, Pt.locs, Pt.cells, Pt.slots] at X110 l110 y110 z110 st110 hQ110
  subst l110 y110 z110
  obtain ⟨x110, f110, sc110, sf110, df110, V110, rfl, N110q, K110q, M110⟩ := hQ110
  have N110 := Fr.app N109 N110q
  have Z110 : n0 ≤ T110.heap.size := Nat.le_trans Z109 K110q.1
  obtain ⟨m1, m2, m3, m4, m5, m6⟩ := mean_ok (j := 2) (ct := ((((0 + (1 : Int64)) + (1 : Int64)) + (1 : Int64)) + (1 : Int64))) (sm := (((((nF q1).toInt64) + ((nkF sel q1 q2).toInt64)) + ((nkF sel q1 q3).toInt64)) + ((nF q4).toInt64))) (kk := (kF sel)) (p := (pF sel)) (S := (nF q1).toInt + (nkF sel q1 q2).toInt + (nkF sel q1 q3).toInt + (nF q4).toInt) hU (by omega) V110 (by omega) (by omega) (by decide) hkk hsm hp
  obtain ⟨cq111, kq111, q111a, q111b, q111c⟩ := isOf hZ rfl M110.1
  obtain ⟨_, _, ⟨T111, L111, k111, n111⟩, -, X111, ⟨Lc111, hQ111, l111, y111, z111⟩, st111⟩ := X110.virtualBack hx (y := (⟨"com/example/retiremetric/retiremetric/engine/Mean", "mean", "()D"⟩ : MethodName)) (z := (⟨"com/example/retiremetric/retiremetric/engine/Mean", "mean", "()D"⟩ : MethodName)) hown (mvT hZ (hw _ (List.mem_of_getElem? (i := 34) rfl))) (mvT hZ (hw _ (List.mem_of_getElem? (i := 35) rfl))) (notFace_of_selects (args := #[]) (mvT hZ (hw _ (List.mem_of_getElem? (i := 37) rfl)))) (mvT hZ (hw _ (List.mem_of_getElem? (i := 37) rfl))) (mvT hZ (hw _ (List.mem_of_getElem? (i := 36) rfl))) (by decide) (backOf (W := 0) (rm6_F l Z a0 hw [] b105 f110 sc110 sf110 df110 0 ((((0 + (1 : Int64)) + (1 : Int64)) + (1 : Int64)) + (1 : Int64)) T110.heap n0 Z110 M110 (by decide) (by decide +kernel) m1 m2 m3) hZ (hw _ (List.mem_of_getElem? (i := 38) rfl)) (hw _ (List.mem_of_getElem? (i := 3) rfl)) (by decide) (by decide)) q111a q111c (g := (mkF m 264 #[.val (.int q1), .val (.int q2), .val (.int q3), .val (.int q4), .val (.int sel), .val (.int nfl), .val (.int (kF sel)), .val (.int (psF sel)), .val (.double (pF sel)), .second, .val (.int (nF q1)), .val (.int (nkF sel q1 q2)), .val (.int (nkF sel q1 q3)), .val (.int (nF q4)), .val (.int (moF nfl)), .val (.int (wF nfl)), .val (.int (ffF nfl)), .val (.double (iV nfl)), .second, .val (.ref b105), .unset, .unset, .unset, .unset, .unset, .unset] [(.ref b105)])) rfl (by rw [hml]; rfl) (Steps.refl _) (argsL := []) (rest := []) (lenOf pd_4 rfl) rfl (by show 2 * 0 + _ ≤ _; exact Nat.le_of_eq rfl) (hb hby at_264) (fun _ _ => ⟨rfl, rfl, (by decide : 1 + 0 ≤ _), (by decide : 6 + 0 ≤ _)⟩)
  dsimp only [Pt.U, Pt.locs, Pt.cells, Pt.slots] at X111 l111 y111 z111 st111 hQ111
  subst l111 y111 z111
  obtain ⟨rfl, N111q, e111⟩ := hQ111
  have N111 := Fr.app N110 N111q
  obtain ⟨fs, hr, hrun, hended, hW, hsame⟩ := X111.leave (v := some (.int (1 : Int32))) (fun h => by rw [Bd.returns] at h; cases h)
  refine ⟨_, _, pre0 _ ?_, hrun, hended, _, _, rfl, ?_, ⟨_, rfl⟩, hW, hsame.mono (by decide) (by decide)⟩
  · refine sg1 q1 q2 q3 q4 sel nfl X0 hx hZ hw hby hown ?_
    refine sg2 q1 q2 q3 q4 sel nfl X0 hx hZ hw hby hown ?_
    refine sg3 q1 q2 q3 q4 sel nfl X0 hx hZ hw hby hown ?_
    refine sg4 q1 q2 q3 q4 sel nfl X0 hx hZ hw hby hown ?_
    refine sg5 q1 q2 q3 q4 sel nfl X0 hx hZ hw hby hown ?_
    refine sg6 q1 q2 q3 q4 sel nfl X0 hx hZ hw hby hown ?_
    show Steps p.tables e below (s₁.setTop (mkF m 157 #[.val (.int q1), .val (.int q2), .val (.int q3), .val (.int q4), .val (.int sel), .val (.int nfl), .val (.int (kF sel)), .val (.int (psF sel)), .val (.double (pF sel)), .second, .val (.int (nF q1)), .val (.int (nkF sel q1 q2)), .val (.int (nkF sel q1 q3)), .val (.int (nF q4)), .val (.int (moF nfl)), .val (.int (wF nfl)), .val (.int (ffF nfl)), .val (.double (iV nfl)), .second, .unset, .unset, .unset, .unset, .unset, .unset, .unset] [])) _
    refine st105 _ ?_
    refine XS.dup X105.here hx rfl (hb hby at_160) rfl rfl ?_
    show Steps p.tables e below (T105.setTop (mkF m 161 #[.val (.int q1), .val (.int q2), .val (.int q3), .val (.int q4), .val (.int sel), .val (.int nfl), .val (.int (kF sel)), .val (.int (psF sel)), .val (.double (pF sel)), .second, .val (.int (nF q1)), .val (.int (nkF sel q1 q2)), .val (.int (nkF sel q1 q3)), .val (.int (nF q4)), .val (.int (moF nfl)), .val (.int (wF nfl)), .val (.int (ffF nfl)), .val (.double (iV nfl)), .second, .unset, .unset, .unset, .unset, .unset, .unset, .unset] [(.ref b105), (.ref b105)])) _
    refine st106.trans ?_
    refine XS.astore X106.here hx rfl (hb hby at_164) rfl rfl (l' := #[.val (.int q1), .val (.int q2), .val (.int q3), .val (.int q4), .val (.int sel), .val (.int nfl), .val (.int (kF sel)), .val (.int (psF sel)), .val (.double (pF sel)), .second, .val (.int (nF q1)), .val (.int (nkF sel q1 q2)), .val (.int (nkF sel q1 q3)), .val (.int (nF q4)), .val (.int (moF nfl)), .val (.int (wF nfl)), .val (.int (ffF nfl)), .val (.double (iV nfl)), .second, .val (.ref b105), .unset, .unset, .unset, .unset, .unset, .unset]) rfl ?_
    refine XS.iload X106.here hx rfl (hb hby at_166) rfl ?_
    refine XS.ifYes X106.here hx rfl (pc0 := 168) (pc' := 183) rfl (hb hby at_168) rfl ((if0 _ _).trans (teq hc168).1) (by decide) (by decide) ?_
    show Steps p.tables e below (T106.setTop (mkF m 183 #[.val (.int q1), .val (.int q2), .val (.int q3), .val (.int q4), .val (.int sel), .val (.int nfl), .val (.int (kF sel)), .val (.int (psF sel)), .val (.double (pF sel)), .second, .val (.int (nF q1)), .val (.int (nkF sel q1 q2)), .val (.int (nkF sel q1 q3)), .val (.int (nF q4)), .val (.int (moF nfl)), .val (.int (wF nfl)), .val (.int (ffF nfl)), .val (.double (iV nfl)), .second, .val (.ref b105), .unset, .unset, .unset, .unset, .unset, .unset] [])) _
    refine XS.aload X106.here hx rfl (hb hby at_183) rfl rfl ?_
    refine XS.iload X106.here hx rfl (hb hby at_185) rfl ?_
    refine XS.i2dS X106.here hx rfl (hb hby at_187) rfl rfl ?_
    refine XS.dload X106.here hx rfl (hb hby at_188) rfl ?_
    show Steps p.tables e below (T106.setTop (mkF m 190 #[.val (.int q1), .val (.int q2), .val (.int q3), .val (.int q4), .val (.int sel), .val (.int nfl), .val (.int (kF sel)), .val (.int (psF sel)), .val (.double (pF sel)), .second, .val (.int (nF q1)), .val (.int (nkF sel q1 q2)), .val (.int (nkF sel q1 q3)), .val (.int (nF q4)), .val (.int (moF nfl)), .val (.int (wF nfl)), .val (.int (ffF nfl)), .val (.double (iV nfl)), .second, .val (.ref b105), .unset, .unset, .unset, .unset, .unset, .unset] [(.double (pF sel)), (.double (FP.i2d (nF q1))), (.ref b105)])) _
    refine XS.dmulS X106.here hx rfl (hb hby at_190) rfl hnan190 rfl ?_
    show Steps p.tables e below (T106.setTop (mkF m 191 #[.val (.int q1), .val (.int q2), .val (.int q3), .val (.int q4), .val (.int sel), .val (.int nfl), .val (.int (kF sel)), .val (.int (psF sel)), .val (.double (pF sel)), .second, .val (.int (nF q1)), .val (.int (nkF sel q1 q2)), .val (.int (nkF sel q1 q3)), .val (.int (nF q4)), .val (.int (moF nfl)), .val (.int (wF nfl)), .val (.int (ffF nfl)), .val (.double (iV nfl)), .second, .val (.ref b105), .unset, .unset, .unset, .unset, .unset, .unset] [(.double (FP.dmul (FP.i2d (nF q1)) (pF sel))), (.ref b105)])) _
    refine st107.trans ?_
    refine XS.iload X107.here hx rfl (hb hby at_194) rfl ?_
    refine XS.iconst X107.here hx rfl (hb hby at_196) ?_
    refine XS.icmpNo X107.here hx rfl (hb hby at_197) rfl (flt hc197).1 ?_
    show Steps p.tables e below (T107.setTop (mkF m 200 #[.val (.int q1), .val (.int q2), .val (.int q3), .val (.int q4), .val (.int sel), .val (.int nfl), .val (.int (kF sel)), .val (.int (psF sel)), .val (.double (pF sel)), .second, .val (.int (nF q1)), .val (.int (nkF sel q1 q2)), .val (.int (nkF sel q1 q3)), .val (.int (nF q4)), .val (.int (moF nfl)), .val (.int (wF nfl)), .val (.int (ffF nfl)), .val (.double (iV nfl)), .second, .val (.ref b105), .unset, .unset, .unset, .unset, .unset, .unset] [])) _
    refine XS.aload X107.here hx rfl (hb hby at_200) rfl rfl ?_
    refine XS.iload X107.here hx rfl (hb hby at_202) rfl ?_
    refine XS.i2dS X107.here hx rfl (hb hby at_204) rfl rfl ?_
    refine XS.dload X107.here hx rfl (hb hby at_205) rfl ?_
    show Steps p.tables e below (T107.setTop (mkF m 207 #[.val (.int q1), .val (.int q2), .val (.int q3), .val (.int q4), .val (.int sel), .val (.int nfl), .val (.int (kF sel)), .val (.int (psF sel)), .val (.double (pF sel)), .second, .val (.int (nF q1)), .val (.int (nkF sel q1 q2)), .val (.int (nkF sel q1 q3)), .val (.int (nF q4)), .val (.int (moF nfl)), .val (.int (wF nfl)), .val (.int (ffF nfl)), .val (.double (iV nfl)), .second, .val (.ref b105), .unset, .unset, .unset, .unset, .unset, .unset] [(.double (pF sel)), (.double (FP.i2d (nkF sel q1 q2))), (.ref b105)])) _
    refine XS.dmulS X107.here hx rfl (hb hby at_207) rfl hnan207 rfl ?_
    show Steps p.tables e below (T107.setTop (mkF m 208 #[.val (.int q1), .val (.int q2), .val (.int q3), .val (.int q4), .val (.int sel), .val (.int nfl), .val (.int (kF sel)), .val (.int (psF sel)), .val (.double (pF sel)), .second, .val (.int (nF q1)), .val (.int (nkF sel q1 q2)), .val (.int (nkF sel q1 q3)), .val (.int (nF q4)), .val (.int (moF nfl)), .val (.int (wF nfl)), .val (.int (ffF nfl)), .val (.double (iV nfl)), .second, .val (.ref b105), .unset, .unset, .unset, .unset, .unset, .unset] [(.double (FP.dmul (FP.i2d (nkF sel q1 q2)) (pF sel))), (.ref b105)])) _
    refine st108.trans ?_
    refine XS.iload X108.here hx rfl (hb hby at_211) rfl ?_
    refine XS.iconst X108.here hx rfl (hb hby at_213) ?_
    refine XS.icmpNo X108.here hx rfl (hb hby at_214) rfl (flt hc214).1 ?_
    show Steps p.tables e below (T108.setTop (mkF m 217 #[.val (.int q1), .val (.int q2), .val (.int q3), .val (.int q4), .val (.int sel), .val (.int nfl), .val (.int (kF sel)), .val (.int (psF sel)), .val (.double (pF sel)), .second, .val (.int (nF q1)), .val (.int (nkF sel q1 q2)), .val (.int (nkF sel q1 q3)), .val (.int (nF q4)), .val (.int (moF nfl)), .val (.int (wF nfl)), .val (.int (ffF nfl)), .val (.double (iV nfl)), .second, .val (.ref b105), .unset, .unset, .unset, .unset, .unset, .unset] [])) _
    refine XS.aload X108.here hx rfl (hb hby at_217) rfl rfl ?_
    refine XS.iload X108.here hx rfl (hb hby at_219) rfl ?_
    refine XS.i2dS X108.here hx rfl (hb hby at_221) rfl rfl ?_
    refine XS.dload X108.here hx rfl (hb hby at_222) rfl ?_
    show Steps p.tables e below (T108.setTop (mkF m 224 #[.val (.int q1), .val (.int q2), .val (.int q3), .val (.int q4), .val (.int sel), .val (.int nfl), .val (.int (kF sel)), .val (.int (psF sel)), .val (.double (pF sel)), .second, .val (.int (nF q1)), .val (.int (nkF sel q1 q2)), .val (.int (nkF sel q1 q3)), .val (.int (nF q4)), .val (.int (moF nfl)), .val (.int (wF nfl)), .val (.int (ffF nfl)), .val (.double (iV nfl)), .second, .val (.ref b105), .unset, .unset, .unset, .unset, .unset, .unset] [(.double (pF sel)), (.double (FP.i2d (nkF sel q1 q3))), (.ref b105)])) _
    refine XS.dmulS X108.here hx rfl (hb hby at_224) rfl hnan224 rfl ?_
    show Steps p.tables e below (T108.setTop (mkF m 225 #[.val (.int q1), .val (.int q2), .val (.int q3), .val (.int q4), .val (.int sel), .val (.int nfl), .val (.int (kF sel)), .val (.int (psF sel)), .val (.double (pF sel)), .second, .val (.int (nF q1)), .val (.int (nkF sel q1 q2)), .val (.int (nkF sel q1 q3)), .val (.int (nF q4)), .val (.int (moF nfl)), .val (.int (wF nfl)), .val (.int (ffF nfl)), .val (.double (iV nfl)), .second, .val (.ref b105), .unset, .unset, .unset, .unset, .unset, .unset] [(.double (FP.dmul (FP.i2d (nkF sel q1 q3)) (pF sel))), (.ref b105)])) _
    refine st109.trans ?_
    refine XS.iload X109.here hx rfl (hb hby at_228) rfl ?_
    refine XS.iconst X109.here hx rfl (hb hby at_230) ?_
    refine XS.icmpNo X109.here hx rfl (hb hby at_231) rfl (flt hc231).1 ?_
    show Steps p.tables e below (T109.setTop (mkF m 234 #[.val (.int q1), .val (.int q2), .val (.int q3), .val (.int q4), .val (.int sel), .val (.int nfl), .val (.int (kF sel)), .val (.int (psF sel)), .val (.double (pF sel)), .second, .val (.int (nF q1)), .val (.int (nkF sel q1 q2)), .val (.int (nkF sel q1 q3)), .val (.int (nF q4)), .val (.int (moF nfl)), .val (.int (wF nfl)), .val (.int (ffF nfl)), .val (.double (iV nfl)), .second, .val (.ref b105), .unset, .unset, .unset, .unset, .unset, .unset] [])) _
    refine XS.aload X109.here hx rfl (hb hby at_234) rfl rfl ?_
    refine XS.iload X109.here hx rfl (hb hby at_236) rfl ?_
    refine XS.i2dS X109.here hx rfl (hb hby at_238) rfl rfl ?_
    refine XS.dload X109.here hx rfl (hb hby at_239) rfl ?_
    show Steps p.tables e below (T109.setTop (mkF m 241 #[.val (.int q1), .val (.int q2), .val (.int q3), .val (.int q4), .val (.int sel), .val (.int nfl), .val (.int (kF sel)), .val (.int (psF sel)), .val (.double (pF sel)), .second, .val (.int (nF q1)), .val (.int (nkF sel q1 q2)), .val (.int (nkF sel q1 q3)), .val (.int (nF q4)), .val (.int (moF nfl)), .val (.int (wF nfl)), .val (.int (ffF nfl)), .val (.double (iV nfl)), .second, .val (.ref b105), .unset, .unset, .unset, .unset, .unset, .unset] [(.double (pF sel)), (.double (FP.i2d (nF q4))), (.ref b105)])) _
    refine XS.dmulS X109.here hx rfl (hb hby at_241) rfl hnan241 rfl ?_
    show Steps p.tables e below (T109.setTop (mkF m 242 #[.val (.int q1), .val (.int q2), .val (.int q3), .val (.int q4), .val (.int sel), .val (.int nfl), .val (.int (kF sel)), .val (.int (psF sel)), .val (.double (pF sel)), .second, .val (.int (nF q1)), .val (.int (nkF sel q1 q2)), .val (.int (nkF sel q1 q3)), .val (.int (nF q4)), .val (.int (moF nfl)), .val (.int (wF nfl)), .val (.int (ffF nfl)), .val (.double (iV nfl)), .second, .val (.ref b105), .unset, .unset, .unset, .unset, .unset, .unset] [(.double (FP.dmul (FP.i2d (nF q4)) (pF sel))), (.ref b105)])) _
    refine st110.trans ?_
    refine XS.iload X110.here hx rfl (hb hby at_245) rfl ?_
    refine XS.ifYes X110.here hx rfl (pc0 := 247) (pc' := 262) rfl (hb hby at_247) rfl ((if0 _ _).trans (teq hc247).1) (by decide) (by decide) ?_
    refine XS.aload X110.here hx rfl (hb hby at_262) rfl rfl ?_
    show Steps p.tables e below (T110.setTop (mkF m 264 #[.val (.int q1), .val (.int q2), .val (.int q3), .val (.int q4), .val (.int sel), .val (.int nfl), .val (.int (kF sel)), .val (.int (psF sel)), .val (.double (pF sel)), .second, .val (.int (nF q1)), .val (.int (nkF sel q1 q2)), .val (.int (nkF sel q1 q3)), .val (.int (nF q4)), .val (.int (moF nfl)), .val (.int (wF nfl)), .val (.int (ffF nfl)), .val (.double (iV nfl)), .second, .val (.ref b105), .unset, .unset, .unset, .unset, .unset, .unset] [(.ref b105)])) _
    refine st111.trans ?_
    refine XS.dstore X111.here hx rfl (hb hby at_267) rfl (l' := #[.val (.int q1), .val (.int q2), .val (.int q3), .val (.int q4), .val (.int sel), .val (.int nfl), .val (.int (kF sel)), .val (.int (psF sel)), .val (.double (pF sel)), .second, .val (.int (nF q1)), .val (.int (nkF sel q1 q2)), .val (.int (nkF sel q1 q3)), .val (.int (nF q4)), .val (.int (moF nfl)), .val (.int (wF nfl)), .val (.int (ffF nfl)), .val (.double (iV nfl)), .second, .val (.ref b105), .val (.double (FP.ddiv (FP.dadd sf110 (FP.ddiv df110 (FP.l2d ((((0 + (1 : Int64)) + (1 : Int64)) + (1 : Int64)) + (1 : Int64))))) sc110)), .second, .unset, .unset, .unset, .unset]) rfl ?_
    refine XS.iload X111.here hx rfl (hb hby at_269) rfl ?_
    refine XS.ifYes X111.here hx rfl (pc0 := 271) (pc' := 288) rfl (hb hby at_271) rfl ((if0 _ _).trans (teq hc271).1) (by decide) (by decide) ?_
    show Steps p.tables e below (T111.setTop (mkF m 288 #[.val (.int q1), .val (.int q2), .val (.int q3), .val (.int q4), .val (.int sel), .val (.int nfl), .val (.int (kF sel)), .val (.int (psF sel)), .val (.double (pF sel)), .second, .val (.int (nF q1)), .val (.int (nkF sel q1 q2)), .val (.int (nkF sel q1 q3)), .val (.int (nF q4)), .val (.int (moF nfl)), .val (.int (wF nfl)), .val (.int (ffF nfl)), .val (.double (iV nfl)), .second, .val (.ref b105), .val (.double (FP.ddiv (FP.dadd sf110 (FP.ddiv df110 (FP.l2d ((((0 + (1 : Int64)) + (1 : Int64)) + (1 : Int64)) + (1 : Int64))))) sc110)), .second, .unset, .unset, .unset, .unset] [])) _
    refine XS.iload X111.here hx rfl (hb hby at_288) rfl ?_
    refine XS.i2l X111.here hx rfl (hb hby at_290) rfl ?_
    refine XS.lstore X111.here hx rfl (hb hby at_291) rfl (l' := #[.val (.int q1), .val (.int q2), .val (.int q3), .val (.int q4), .val (.int sel), .val (.int nfl), .val (.int (kF sel)), .val (.int (psF sel)), .val (.double (pF sel)), .second, .val (.int (nF q1)), .val (.int (nkF sel q1 q2)), .val (.int (nkF sel q1 q3)), .val (.int (nF q4)), .val (.int (moF nfl)), .val (.int (wF nfl)), .val (.int (ffF nfl)), .val (.double (iV nfl)), .second, .val (.ref b105), .val (.double (FP.ddiv (FP.dadd sf110 (FP.ddiv df110 (FP.l2d ((((0 + (1 : Int64)) + (1 : Int64)) + (1 : Int64)) + (1 : Int64))))) sc110)), .second, .val (.long ((nF q1).toInt64)), .second, .unset, .unset]) rfl ?_
    refine XS.iload X111.here hx rfl (hb hby at_293) rfl ?_
    show Steps p.tables e below (T111.setTop (mkF m 295 #[.val (.int q1), .val (.int q2), .val (.int q3), .val (.int q4), .val (.int sel), .val (.int nfl), .val (.int (kF sel)), .val (.int (psF sel)), .val (.double (pF sel)), .second, .val (.int (nF q1)), .val (.int (nkF sel q1 q2)), .val (.int (nkF sel q1 q3)), .val (.int (nF q4)), .val (.int (moF nfl)), .val (.int (wF nfl)), .val (.int (ffF nfl)), .val (.double (iV nfl)), .second, .val (.ref b105), .val (.double (FP.ddiv (FP.dadd sf110 (FP.ddiv df110 (FP.l2d ((((0 + (1 : Int64)) + (1 : Int64)) + (1 : Int64)) + (1 : Int64))))) sc110)), .second, .val (.long ((nF q1).toInt64)), .second, .unset, .unset] [(.int (kF sel))])) _
    refine XS.iconst X111.here hx rfl (hb hby at_295) ?_
    refine XS.icmpNo X111.here hx rfl (hb hby at_296) rfl (flt hc296).1 ?_
    refine XS.lload X111.here hx rfl (hb hby at_299) rfl ?_
    refine XS.iload X111.here hx rfl (hb hby at_301) rfl ?_
    show Steps p.tables e below (T111.setTop (mkF m 303 #[.val (.int q1), .val (.int q2), .val (.int q3), .val (.int q4), .val (.int sel), .val (.int nfl), .val (.int (kF sel)), .val (.int (psF sel)), .val (.double (pF sel)), .second, .val (.int (nF q1)), .val (.int (nkF sel q1 q2)), .val (.int (nkF sel q1 q3)), .val (.int (nF q4)), .val (.int (moF nfl)), .val (.int (wF nfl)), .val (.int (ffF nfl)), .val (.double (iV nfl)), .second, .val (.ref b105), .val (.double (FP.ddiv (FP.dadd sf110 (FP.ddiv df110 (FP.l2d ((((0 + (1 : Int64)) + (1 : Int64)) + (1 : Int64)) + (1 : Int64))))) sc110)), .second, .val (.long ((nF q1).toInt64)), .second, .unset, .unset] [(.int (nkF sel q1 q2)), (.long ((nF q1).toInt64))])) _
    refine XS.i2l X111.here hx rfl (hb hby at_303) rfl ?_
    refine XS.ladd X111.here hx rfl (hb hby at_304) rfl ?_
    refine XS.lstore X111.here hx rfl (hb hby at_305) rfl (l' := #[.val (.int q1), .val (.int q2), .val (.int q3), .val (.int q4), .val (.int sel), .val (.int nfl), .val (.int (kF sel)), .val (.int (psF sel)), .val (.double (pF sel)), .second, .val (.int (nF q1)), .val (.int (nkF sel q1 q2)), .val (.int (nkF sel q1 q3)), .val (.int (nF q4)), .val (.int (moF nfl)), .val (.int (wF nfl)), .val (.int (ffF nfl)), .val (.double (iV nfl)), .second, .val (.ref b105), .val (.double (FP.ddiv (FP.dadd sf110 (FP.ddiv df110 (FP.l2d ((((0 + (1 : Int64)) + (1 : Int64)) + (1 : Int64)) + (1 : Int64))))) sc110)), .second, .val (.long (((nF q1).toInt64) + ((nkF sel q1 q2).toInt64))), .second, .unset, .unset]) rfl ?_
    refine XS.iload X111.here hx rfl (hb hby at_307) rfl ?_
    show Steps p.tables e below (T111.setTop (mkF m 309 #[.val (.int q1), .val (.int q2), .val (.int q3), .val (.int q4), .val (.int sel), .val (.int nfl), .val (.int (kF sel)), .val (.int (psF sel)), .val (.double (pF sel)), .second, .val (.int (nF q1)), .val (.int (nkF sel q1 q2)), .val (.int (nkF sel q1 q3)), .val (.int (nF q4)), .val (.int (moF nfl)), .val (.int (wF nfl)), .val (.int (ffF nfl)), .val (.double (iV nfl)), .second, .val (.ref b105), .val (.double (FP.ddiv (FP.dadd sf110 (FP.ddiv df110 (FP.l2d ((((0 + (1 : Int64)) + (1 : Int64)) + (1 : Int64)) + (1 : Int64))))) sc110)), .second, .val (.long (((nF q1).toInt64) + ((nkF sel q1 q2).toInt64))), .second, .unset, .unset] [(.int (kF sel))])) _
    refine XS.iconst X111.here hx rfl (hb hby at_309) ?_
    refine XS.icmpNo X111.here hx rfl (hb hby at_310) rfl (flt hc310).1 ?_
    refine XS.lload X111.here hx rfl (hb hby at_313) rfl ?_
    refine XS.iload X111.here hx rfl (hb hby at_315) rfl ?_
    show Steps p.tables e below (T111.setTop (mkF m 317 #[.val (.int q1), .val (.int q2), .val (.int q3), .val (.int q4), .val (.int sel), .val (.int nfl), .val (.int (kF sel)), .val (.int (psF sel)), .val (.double (pF sel)), .second, .val (.int (nF q1)), .val (.int (nkF sel q1 q2)), .val (.int (nkF sel q1 q3)), .val (.int (nF q4)), .val (.int (moF nfl)), .val (.int (wF nfl)), .val (.int (ffF nfl)), .val (.double (iV nfl)), .second, .val (.ref b105), .val (.double (FP.ddiv (FP.dadd sf110 (FP.ddiv df110 (FP.l2d ((((0 + (1 : Int64)) + (1 : Int64)) + (1 : Int64)) + (1 : Int64))))) sc110)), .second, .val (.long (((nF q1).toInt64) + ((nkF sel q1 q2).toInt64))), .second, .unset, .unset] [(.int (nkF sel q1 q3)), (.long (((nF q1).toInt64) + ((nkF sel q1 q2).toInt64)))])) _
    refine XS.i2l X111.here hx rfl (hb hby at_317) rfl ?_
    refine XS.ladd X111.here hx rfl (hb hby at_318) rfl ?_
    refine XS.lstore X111.here hx rfl (hb hby at_319) rfl (l' := #[.val (.int q1), .val (.int q2), .val (.int q3), .val (.int q4), .val (.int sel), .val (.int nfl), .val (.int (kF sel)), .val (.int (psF sel)), .val (.double (pF sel)), .second, .val (.int (nF q1)), .val (.int (nkF sel q1 q2)), .val (.int (nkF sel q1 q3)), .val (.int (nF q4)), .val (.int (moF nfl)), .val (.int (wF nfl)), .val (.int (ffF nfl)), .val (.double (iV nfl)), .second, .val (.ref b105), .val (.double (FP.ddiv (FP.dadd sf110 (FP.ddiv df110 (FP.l2d ((((0 + (1 : Int64)) + (1 : Int64)) + (1 : Int64)) + (1 : Int64))))) sc110)), .second, .val (.long ((((nF q1).toInt64) + ((nkF sel q1 q2).toInt64)) + ((nkF sel q1 q3).toInt64))), .second, .unset, .unset]) rfl ?_
    refine XS.iload X111.here hx rfl (hb hby at_321) rfl ?_
    show Steps p.tables e below (T111.setTop (mkF m 323 #[.val (.int q1), .val (.int q2), .val (.int q3), .val (.int q4), .val (.int sel), .val (.int nfl), .val (.int (kF sel)), .val (.int (psF sel)), .val (.double (pF sel)), .second, .val (.int (nF q1)), .val (.int (nkF sel q1 q2)), .val (.int (nkF sel q1 q3)), .val (.int (nF q4)), .val (.int (moF nfl)), .val (.int (wF nfl)), .val (.int (ffF nfl)), .val (.double (iV nfl)), .second, .val (.ref b105), .val (.double (FP.ddiv (FP.dadd sf110 (FP.ddiv df110 (FP.l2d ((((0 + (1 : Int64)) + (1 : Int64)) + (1 : Int64)) + (1 : Int64))))) sc110)), .second, .val (.long ((((nF q1).toInt64) + ((nkF sel q1 q2).toInt64)) + ((nkF sel q1 q3).toInt64))), .second, .unset, .unset] [(.int (kF sel))])) _
    refine XS.iconst X111.here hx rfl (hb hby at_323) ?_
    refine XS.icmpNo X111.here hx rfl (hb hby at_324) rfl (flt hc324).1 ?_
    refine XS.lload X111.here hx rfl (hb hby at_327) rfl ?_
    refine XS.iload X111.here hx rfl (hb hby at_329) rfl ?_
    show Steps p.tables e below (T111.setTop (mkF m 331 #[.val (.int q1), .val (.int q2), .val (.int q3), .val (.int q4), .val (.int sel), .val (.int nfl), .val (.int (kF sel)), .val (.int (psF sel)), .val (.double (pF sel)), .second, .val (.int (nF q1)), .val (.int (nkF sel q1 q2)), .val (.int (nkF sel q1 q3)), .val (.int (nF q4)), .val (.int (moF nfl)), .val (.int (wF nfl)), .val (.int (ffF nfl)), .val (.double (iV nfl)), .second, .val (.ref b105), .val (.double (FP.ddiv (FP.dadd sf110 (FP.ddiv df110 (FP.l2d ((((0 + (1 : Int64)) + (1 : Int64)) + (1 : Int64)) + (1 : Int64))))) sc110)), .second, .val (.long ((((nF q1).toInt64) + ((nkF sel q1 q2).toInt64)) + ((nkF sel q1 q3).toInt64))), .second, .unset, .unset] [(.int (nF q4)), (.long ((((nF q1).toInt64) + ((nkF sel q1 q2).toInt64)) + ((nkF sel q1 q3).toInt64)))])) _
    refine XS.i2l X111.here hx rfl (hb hby at_331) rfl ?_
    refine XS.ladd X111.here hx rfl (hb hby at_332) rfl ?_
    refine XS.lstore X111.here hx rfl (hb hby at_333) rfl (l' := #[.val (.int q1), .val (.int q2), .val (.int q3), .val (.int q4), .val (.int sel), .val (.int nfl), .val (.int (kF sel)), .val (.int (psF sel)), .val (.double (pF sel)), .second, .val (.int (nF q1)), .val (.int (nkF sel q1 q2)), .val (.int (nkF sel q1 q3)), .val (.int (nF q4)), .val (.int (moF nfl)), .val (.int (wF nfl)), .val (.int (ffF nfl)), .val (.double (iV nfl)), .second, .val (.ref b105), .val (.double (FP.ddiv (FP.dadd sf110 (FP.ddiv df110 (FP.l2d ((((0 + (1 : Int64)) + (1 : Int64)) + (1 : Int64)) + (1 : Int64))))) sc110)), .second, .val (.long (((((nF q1).toInt64) + ((nkF sel q1 q2).toInt64)) + ((nkF sel q1 q3).toInt64)) + ((nF q4).toInt64))), .second, .unset, .unset]) rfl ?_
    refine XS.lload X111.here hx rfl (hb hby at_335) rfl ?_
    show Steps p.tables e below (T111.setTop (mkF m 337 #[.val (.int q1), .val (.int q2), .val (.int q3), .val (.int q4), .val (.int sel), .val (.int nfl), .val (.int (kF sel)), .val (.int (psF sel)), .val (.double (pF sel)), .second, .val (.int (nF q1)), .val (.int (nkF sel q1 q2)), .val (.int (nkF sel q1 q3)), .val (.int (nF q4)), .val (.int (moF nfl)), .val (.int (wF nfl)), .val (.int (ffF nfl)), .val (.double (iV nfl)), .second, .val (.ref b105), .val (.double (FP.ddiv (FP.dadd sf110 (FP.ddiv df110 (FP.l2d ((((0 + (1 : Int64)) + (1 : Int64)) + (1 : Int64)) + (1 : Int64))))) sc110)), .second, .val (.long (((((nF q1).toInt64) + ((nkF sel q1 q2).toInt64)) + ((nkF sel q1 q3).toInt64)) + ((nF q4).toInt64))), .second, .unset, .unset] [(.long (((((nF q1).toInt64) + ((nkF sel q1 q2).toInt64)) + ((nkF sel q1 q3).toInt64)) + ((nF q4).toInt64)))])) _
    refine XS.l2dS X111.here hx rfl (hb hby at_337) rfl rfl ?_
    refine XS.iload X111.here hx rfl (hb hby at_338) rfl ?_
    refine XS.i2dS X111.here hx rfl (hb hby at_340) rfl rfl ?_
    refine XS.ddivS X111.here hx rfl (hb hby at_341) rfl m4 rfl ?_
    show Steps p.tables e below (T111.setTop (mkF m 342 #[.val (.int q1), .val (.int q2), .val (.int q3), .val (.int q4), .val (.int sel), .val (.int nfl), .val (.int (kF sel)), .val (.int (psF sel)), .val (.double (pF sel)), .second, .val (.int (nF q1)), .val (.int (nkF sel q1 q2)), .val (.int (nkF sel q1 q3)), .val (.int (nF q4)), .val (.int (moF nfl)), .val (.int (wF nfl)), .val (.int (ffF nfl)), .val (.double (iV nfl)), .second, .val (.ref b105), .val (.double (FP.ddiv (FP.dadd sf110 (FP.ddiv df110 (FP.l2d ((((0 + (1 : Int64)) + (1 : Int64)) + (1 : Int64)) + (1 : Int64))))) sc110)), .second, .val (.long (((((nF q1).toInt64) + ((nkF sel q1 q2).toInt64)) + ((nkF sel q1 q3).toInt64)) + ((nF q4).toInt64))), .second, .unset, .unset] [(.double (FP.ddiv (FP.l2d (((((nF q1).toInt64) + ((nkF sel q1 q2).toInt64)) + ((nkF sel q1 q3).toInt64)) + ((nF q4).toInt64))) (FP.i2d (kF sel))))])) _
    refine XS.dload X111.here hx rfl (hb hby at_342) rfl ?_
    refine XS.dmulS X111.here hx rfl (hb hby at_344) rfl m5 rfl ?_
    refine XS.dstore X111.here hx rfl (hb hby at_345) rfl (l' := #[.val (.int q1), .val (.int q2), .val (.int q3), .val (.int q4), .val (.int sel), .val (.int nfl), .val (.int (kF sel)), .val (.int (psF sel)), .val (.double (pF sel)), .second, .val (.int (nF q1)), .val (.int (nkF sel q1 q2)), .val (.int (nkF sel q1 q3)), .val (.int (nF q4)), .val (.int (moF nfl)), .val (.int (wF nfl)), .val (.int (ffF nfl)), .val (.double (iV nfl)), .second, .val (.ref b105), .val (.double (FP.ddiv (FP.dadd sf110 (FP.ddiv df110 (FP.l2d ((((0 + (1 : Int64)) + (1 : Int64)) + (1 : Int64)) + (1 : Int64))))) sc110)), .second, .val (.long (((((nF q1).toInt64) + ((nkF sel q1 q2).toInt64)) + ((nkF sel q1 q3).toInt64)) + ((nF q4).toInt64))), .second, .val (.double (FP.dmul (FP.ddiv (FP.l2d (((((nF q1).toInt64) + ((nkF sel q1 q2).toInt64)) + ((nkF sel q1 q3).toInt64)) + ((nF q4).toInt64))) (FP.i2d (kF sel))) (pF sel))), .second]) rfl ?_
    refine XS.dload X111.here hx rfl (hb hby at_347) rfl ?_
    show Steps p.tables e below (T111.setTop (mkF m 349 #[.val (.int q1), .val (.int q2), .val (.int q3), .val (.int q4), .val (.int sel), .val (.int nfl), .val (.int (kF sel)), .val (.int (psF sel)), .val (.double (pF sel)), .second, .val (.int (nF q1)), .val (.int (nkF sel q1 q2)), .val (.int (nkF sel q1 q3)), .val (.int (nF q4)), .val (.int (moF nfl)), .val (.int (wF nfl)), .val (.int (ffF nfl)), .val (.double (iV nfl)), .second, .val (.ref b105), .val (.double (FP.ddiv (FP.dadd sf110 (FP.ddiv df110 (FP.l2d ((((0 + (1 : Int64)) + (1 : Int64)) + (1 : Int64)) + (1 : Int64))))) sc110)), .second, .val (.long (((((nF q1).toInt64) + ((nkF sel q1 q2).toInt64)) + ((nkF sel q1 q3).toInt64)) + ((nF q4).toInt64))), .second, .val (.double (FP.dmul (FP.ddiv (FP.l2d (((((nF q1).toInt64) + ((nkF sel q1 q2).toInt64)) + ((nkF sel q1 q3).toInt64)) + ((nF q4).toInt64))) (FP.i2d (kF sel))) (pF sel))), .second] [(.double (FP.ddiv (FP.dadd sf110 (FP.ddiv df110 (FP.l2d ((((0 + (1 : Int64)) + (1 : Int64)) + (1 : Int64)) + (1 : Int64))))) sc110))])) _
    refine XS.dload X111.here hx rfl (hb hby at_349) rfl ?_
    refine XS.dcmpS X111.here hx rfl (hb hby at_351) rfl rfl ?_
    refine XS.ifNo X111.here hx rfl (hb hby at_352) rfl ((if0 _ _).trans (teq m6).2) ?_
    refine XS.iconst X111.here hx rfl (hb hby at_355) ?_
    show Steps p.tables e below (T111.setTop (mkF m 356 #[.val (.int q1), .val (.int q2), .val (.int q3), .val (.int q4), .val (.int sel), .val (.int nfl), .val (.int (kF sel)), .val (.int (psF sel)), .val (.double (pF sel)), .second, .val (.int (nF q1)), .val (.int (nkF sel q1 q2)), .val (.int (nkF sel q1 q3)), .val (.int (nF q4)), .val (.int (moF nfl)), .val (.int (wF nfl)), .val (.int (ffF nfl)), .val (.double (iV nfl)), .second, .val (.ref b105), .val (.double (FP.ddiv (FP.dadd sf110 (FP.ddiv df110 (FP.l2d ((((0 + (1 : Int64)) + (1 : Int64)) + (1 : Int64)) + (1 : Int64))))) sc110)), .second, .val (.long (((((nF q1).toInt64) + ((nkF sel q1 q2).toInt64)) + ((nkF sel q1 q3).toInt64)) + ((nF q4).toInt64))), .second, .val (.double (FP.dmul (FP.ddiv (FP.l2d (((((nF q1).toInt64) + ((nkF sel q1 q2).toInt64)) + ((nkF sel q1 q3).toInt64)) + ((nF q4).toInt64))) (FP.i2d (kF sel))) (pF sel))), .second] [(.int (1 : Int32))])) _
    refine XS.goto X111.here hx rfl (pc0 := 356) (pc' := 360) rfl (hb hby at_356) (by decide) (by decide) ?_
    show Steps p.tables e below (T111.setTop (mkF m 360 #[.val (.int q1), .val (.int q2), .val (.int q3), .val (.int q4), .val (.int sel), .val (.int nfl), .val (.int (kF sel)), .val (.int (psF sel)), .val (.double (pF sel)), .second, .val (.int (nF q1)), .val (.int (nkF sel q1 q2)), .val (.int (nkF sel q1 q3)), .val (.int (nF q4)), .val (.int (moF nfl)), .val (.int (wF nfl)), .val (.int (ffF nfl)), .val (.double (iV nfl)), .second, .val (.ref b105), .val (.double (FP.ddiv (FP.dadd sf110 (FP.ddiv df110 (FP.l2d ((((0 + (1 : Int64)) + (1 : Int64)) + (1 : Int64)) + (1 : Int64))))) sc110)), .second, .val (.long (((((nF q1).toInt64) + ((nkF sel q1 q2).toInt64)) + ((nkF sel q1 q3).toInt64)) + ((nF q4).toInt64))), .second, .val (.double (FP.dmul (FP.ddiv (FP.l2d (((((nF q1).toInt64) + ((nkF sel q1 q2).toInt64)) + ((nkF sel q1 q3).toInt64)) + ((nF q4).toInt64))) (FP.i2d (kF sel))) (pF sel))), .second] [(.int (1 : Int32))])) _
    exact retN X111 hx (t := .boolean) Bd.returns (by simp) (hb hby at_360) hr
  · show Q0  h0 n0 _ T111.heap _
    exact ⟨rfl, N111⟩
set_option maxRecDepth 65536 in
set_option maxHeartbeats 40000000 in
theorem rm0_f1 (l : Launch) (Z : State) (a0 : Array Value) (hw : ∀ d ∈ tables_1, d.before a0 Z = true) (ws : List Jvm.Cond) (q1 : Int32) (q2 : Int32) (q3 : Int32) (q4 : Int32) (sel : Int32) (nfl : Int32) (U : Nat) (h0 : Heap) (n0 : Nat) (Z0 : n0 ≤ h0.size) (hU : 74 ≤ U ∧ U ≤ 2074) (hU2 : U = 2074 ∨ U ≤ 1074) (hp : DV 1 U (pF sel)) (d1 : DV (nF q1).toInt U (FP.dmul (FP.i2d (nF q1)) (pF sel))) (r1 : -8388608 ≤ (nF q1).toInt ∧ (nF q1).toInt ≤ 8388607) (hin1 : Jvm.Free.Fl.NoNaN64 (iV nfl)) (hin2 : ¬ ((infF (iV nfl)) = (0 : Int32))) (hin3 : Jvm.Free.Fl.NoNaN64 (FP.dadd 0 (iV nfl))) (hin4 : ¬ ((cmpValue (FP.dcmp (FP.dadd 0 (iV nfl)) FP.dconst0) .l) = (0 : Int32))) (hc168 : ¬ ((wF nfl) = (0 : Int32))) (hc173 : ¬ ((ffF nfl) = (0 : Int32))) (hnan190 : Jvm.Free.Fl.NoNaN64 (FP.dmul (FP.i2d (nF q1)) (pF sel))) (hc197 : (kF sel) < (2 : Int32)) (hc214 : (kF sel) < (3 : Int32)) (hc231 : (kF sel) < (4 : Int32)) (hc247 : ¬ ((wF nfl) = (0 : Int32))) (hc252 : ¬ ((ffF nfl) = (0 : Int32))) (hc271 : ¬ ((wF nfl) = (0 : Int32))) (hc279 : (cmpValue (FP.dcmp (FP.dadd 0 (iV nfl)) (iV nfl)) .l) = (0 : Int32)) :
    MetFree l x (head1 (Jvm.Cond.code x code maxLocals ret :: ws) room_1) (fun aa_ U_ => aa_ = #[(.int q1), (.int q2), (.int q3), (.int q4), (.int sel), (.int nfl)] ∧ Z.Warmed39 U_.vm ∧ U_.heap = h0) (fun _ _ _ _ _ => True) (fun _ U_ o_ V_ => ∃ v_ L_, o_ = .returned v_ ∧ Q0  h0 n0 v_ V_.heap L_ ∧ FrameEnd U_ o_ V_ L_ room_1.cells room_1.slots) := by
  refine MetFree.of_bodySF (plainFor_of_name pn_0) hisR ?_
  intro p e s m args below meth c s₁ Bd hml0 hP hK
  obtain ⟨rfl, hZ, hh⟩ := hP
  have hx := Bd.exec
  have hby := Bd.bytes
  have hml : c.maxLocals = 26 := hml0
  have hown : s.vm.findClass "com/example/retiremetric/retiremetric/engine/MeanMeanPinLaw" = some m.cls := findClass_of_methodNamed Bd.named
  have hnm := (name_of_methodNamed Bd.named Bd.method).1
  have X0 : Stand p l e room_1 s m #[(.int q1), (.int q2), (.int q3), (.int q4), (.int sel), (.int nfl)] below meth c s₁ [] 0 0 := Stand.of_body Bd
  have e0 : s₁.heap = h0 := by rw [← hh, Bd.state]; rfl
  have N0 := Fr.nil n0
  have pre0 : ∀ zz, Steps p.tables e below (s₁.setTop (mkF m 0 #[.val (.int q1), .val (.int q2), .val (.int q3), .val (.int q4), .val (.int sel), .val (.int nfl), .unset, .unset, .unset, .unset, .unset, .unset, .unset, .unset, .unset, .unset, .unset, .unset, .unset, .unset, .unset, .unset, .unset, .unset, .unset, .unset] [])) zz → Steps p.tables e below (s₁.setTop (entryFrame m #[(.int q1), (.int q2), (.int q3), (.int q4), (.int sel), (.int nfl)] maxLocals)) zz := fun zz k => castTop (ef_0 m q1 q2 q3 q4 sel nfl) k
  have mv0 : MV U 0 0 0 0 FP.dconst1 0 0 := ⟨by omega, zero_dv _, one_dv, zero_dv _, zero_dv _, by simp⟩
  obtain ⟨T112, h112, X112, e112, E112, A112, D112, -, st112⟩ := newO X0 hx hZ hown (hw _ (List.mem_of_getElem? (i := 1) rfl)) (hw _ (List.mem_of_getElem? (i := 2) rfl)) (hw _ (List.mem_of_getElem? (i := 3) rfl)) e0 (g := (mkF m 157 #[.val (.int q1), .val (.int q2), .val (.int q3), .val (.int q4), .val (.int sel), .val (.int nfl), .val (.int (kF sel)), .val (.int (psF sel)), .val (.double (pF sel)), .second, .val (.int (nF q1)), .val (.int (nkF sel q1 q2)), .val (.int (nkF sel q1 q3)), .val (.int (nF q4)), .val (.int (moF nfl)), .val (.int (wF nfl)), .val (.int (ffF nfl)), .val (.double (iV nfl)), .second, .unset, .unset, .unset, .unset, .unset, .unset, .unset] [])) rfl (hb hby at_157) (by decide) (by decide)
  obtain ⟨b112, g112⟩ : ∃ z, z = h0.size := ⟨_, rfl⟩
  rw [← g112] at A112 D112 st112
  have E_b112 := A112
  have g_b112 : n0 ≤ b112 := Nat.le_trans Z0 (Nat.le_of_eq g112.symm)
  have sz_b112 : h0.size ≤ b112 := Nat.le_trans (Keep.refl h0 []).1 (Nat.le_of_eq g112.symm)
  have K112 := (Keep.refl h0 []).ext E112
  have Z112 : n0 ≤ h112.size := Nat.le_trans Z0 E112.1
  have F_scale_b112 : Fld Z h112 b112 "com/example/retiremetric/retiremetric/engine/Mean" "scale" "D" (.double 0) := D112 (Or.inl (hw _ (List.mem_of_getElem? (i := 11) rfl))) (ty := .double) (by decide)
  have F_count_b112 : Fld Z h112 b112 "com/example/retiremetric/retiremetric/engine/Mean" "count" "J" (.long (0 : Int64)) := D112 (Or.inl (hw _ (List.mem_of_getElem? (i := 27) rfl))) (ty := .long) (by decide)
  have F_first_b112 : Fld Z h112 b112 "com/example/retiremetric/retiremetric/engine/Mean" "first" "D" (.double 0) := D112 (Or.inl (hw _ (List.mem_of_getElem? (i := 29) rfl))) (ty := .double) (by decide)
  have F_scaledFirst_b112 : Fld Z h112 b112 "com/example/retiremetric/retiremetric/engine/Mean" "scaledFirst" "D" (.double 0) := D112 (Or.inl (hw _ (List.mem_of_getElem? (i := 31) rfl))) (ty := .double) (by decide)
  have F_differences_b112 : Fld Z h112 b112 "com/example/retiremetric/retiremetric/engine/Mean" "differences" "D" (.double 0) := D112 (Or.inl (hw _ (List.mem_of_getElem? (i := 33) rfl))) (ty := .double) (by decide)
  have F_infinities_b112 : Fld Z h112 b112 "com/example/retiremetric/retiremetric/engine/Mean" "infinities" "D" (.double 0) := D112 (Or.inl (hw _ (List.mem_of_getElem? (i := 40) rfl))) (ty := .double) (by decide)
  obtain ⟨_, _, ⟨T113, L113, k113, n113⟩, -, X113, ⟨Lc113, hQ113, l113, y113, z113⟩, st113⟩ := X112.specialBack hx (y := (⟨"com/example/retiremetric/retiremetric/engine/Mean", "<init>", "()V"⟩ : MethodName)) rfl hown (mvT hZ (hw _ (List.mem_of_getElem? (i := 4) rfl))) (mvT hZ (hw _ (List.mem_of_getElem? (i := 5) rfl))) (mvT hZ (hw _ (List.mem_of_getElem? (i := 6) rfl))) (by decide) (backOf (W := 1) (rm1 l Z a0 hw [] b112 h112 n0 Z112 g_b112 ⟨E_b112, F_first_b112, F_scale_b112, F_scaledFirst_b112, F_differences_b112, F_infinities_b112, F_count_b112⟩) hZ (hw _ (List.mem_of_getElem? (i := 6) rfl)) (hw _ (List.mem_of_getElem? (i := 3) rfl)) (by decide) (by decide)) (g := (mkF m 161 #[.val (.int q1), .val (.int q2), .val (.int q3), .val (.int q4), .val (.int sel), .val (.int nfl), .val (.int (kF sel)), .val (.int (psF sel)), .val (.double (pF sel)), .second, .val (.int (nF q1)), .val (.int (nkF sel q1 q2)), .val (.int (nkF sel q1 q3)), .val (.int (nF q4)), .val (.int (moF nfl)), .val (.int (wF nfl)), .val (.int (ffF nfl)), .val (.double (iV nfl)), .second, .unset, .unset, .unset, .unset, .unset, .unset, .unset] [(.ref b112), (.ref b112)])) rfl (by rw [hml]; rfl) (Steps.refl _) (a := b112) (argsL := []) (rest := [(.ref b112)]) (lenOf pd_0 rfl) rfl (by show 2 * 0 + _ ≤ _; exact Nat.le_of_eq rfl) (hb hby at_161) (fun _ _ => ⟨rfl, e112, (by decide : 1 + 0 ≤ _), (by decide : 6 + 0 ≤ _)⟩)
  dsimp only [Pt.U, Pt.locs, Pt.cells, Pt.slots] at X113 l113 y113 z113 st113 hQ113
  subst l113 y113 z113
  obtain ⟨rfl, N113q, K113q, M113⟩ := hQ113
  have N113 := Fr.app N0 N113q
  have Z113 : n0 ≤ T113.heap.size := Nat.le_trans Z112 K113q.1
  obtain ⟨cq114, kq114, q114a, q114b, q114c⟩ := isOf hZ rfl M113.1
  obtain ⟨_, _, ⟨T114, L114, k114, n114⟩, -, X114, ⟨Lc114, hQ114, l114, y114, z114⟩, st114⟩ := X113.virtualBack hx (y := (⟨"com/example/retiremetric/retiremetric/engine/Mean", "add", "(D)V"⟩ : MethodName)) (z := (⟨"com/example/retiremetric/retiremetric/engine/Mean", "add", "(D)V"⟩ : MethodName)) hown (mvT hZ (hw _ (List.mem_of_getElem? (i := 12) rfl))) (mvT hZ (hw _ (List.mem_of_getElem? (i := 13) rfl))) (notFace_of_selects (args := #[]) (mvT hZ (hw _ (List.mem_of_getElem? (i := 15) rfl)))) (mvT hZ (hw _ (List.mem_of_getElem? (i := 15) rfl))) (mvT hZ (hw _ (List.mem_of_getElem? (i := 14) rfl))) (by decide) (backOf (W := 0) (rm3_I l Z a0 hw [] b112 (iV nfl) 0 FP.dconst1 0 0 0 0 T113.heap n0 Z113 g_b112 M113 hin1 hin2 hin3) hZ (hw _ (List.mem_of_getElem? (i := 16) rfl)) (hw _ (List.mem_of_getElem? (i := 3) rfl)) (by decide) (by decide)) q114a q114c (g := (mkF m 180 #[.val (.int q1), .val (.int q2), .val (.int q3), .val (.int q4), .val (.int sel), .val (.int nfl), .val (.int (kF sel)), .val (.int (psF sel)), .val (.double (pF sel)), .second, .val (.int (nF q1)), .val (.int (nkF sel q1 q2)), .val (.int (nkF sel q1 q3)), .val (.int (nF q4)), .val (.int (moF nfl)), .val (.int (wF nfl)), .val (.int (ffF nfl)), .val (.double (iV nfl)), .second, .val (.ref b112), .unset, .unset, .unset, .unset, .unset, .unset] [(.double (iV nfl)), (.ref b112)])) rfl (by rw [hml]; rfl) (Steps.refl _) (argsL := [(.double (iV nfl))]) (rest := []) (lenOf pd_1 rfl) rfl (by show 2 * 0 + _ ≤ _; exact Nat.le_of_eq rfl) (hb hby at_180) (fun _ _ => ⟨rfl, rfl, (by decide : 1 + 0 ≤ _), (by decide : 6 + 0 ≤ _)⟩)
  dsimp only [Pt.U, Pt.locs, Pt.cells, Pt.slots] at X114 l114 y114 z114 st114 hQ114
  subst l114 y114 z114
  obtain ⟨rfl, N114q, K114q, M114⟩ := hQ114
  have N114 := Fr.app N113 N114q
  have Z114 : n0 ≤ T114.heap.size := Nat.le_trans Z113 K114q.1
  obtain ⟨cq115, kq115, q115a, q115b, q115c⟩ := isOf hZ rfl M114.1
  obtain ⟨_, _, ⟨T115, L115, k115, n115⟩, -, X115, ⟨Lc115, hQ115, l115, y115, z115⟩, st115⟩ := X114.virtualBack hx (y := (⟨"com/example/retiremetric/retiremetric/engine/Mean", "add", "(D)V"⟩ : MethodName)) (z := (⟨"com/example/retiremetric/retiremetric/engine/Mean", "add", "(D)V"⟩ : MethodName)) hown (mvT hZ (hw _ (List.mem_of_getElem? (i := 12) rfl))) (mvT hZ (hw _ (List.mem_of_getElem? (i := 13) rfl))) (notFace_of_selects (args := #[]) (mvT hZ (hw _ (List.mem_of_getElem? (i := 15) rfl)))) (mvT hZ (hw _ (List.mem_of_getElem? (i := 15) rfl))) (mvT hZ (hw _ (List.mem_of_getElem? (i := 14) rfl))) (by decide) (backOf (W := 0) (rm3_fin l Z a0 hw [] b112 (FP.dmul (FP.i2d (nF q1)) (pF sel)) 0 FP.dconst1 0 0 (FP.dadd 0 (iV nfl)) (0 + (1 : Int64)) U 0 0 (nF q1).toInt 0 T114.heap n0 Z114 g_b112 M114 hU hU2 d1 mv0 (by omega) (by omega) (by omega) (by omega) (by decide)) hZ (hw _ (List.mem_of_getElem? (i := 16) rfl)) (hw _ (List.mem_of_getElem? (i := 3) rfl)) (by decide) (by decide)) q115a q115c (g := (mkF m 191 #[.val (.int q1), .val (.int q2), .val (.int q3), .val (.int q4), .val (.int sel), .val (.int nfl), .val (.int (kF sel)), .val (.int (psF sel)), .val (.double (pF sel)), .second, .val (.int (nF q1)), .val (.int (nkF sel q1 q2)), .val (.int (nkF sel q1 q3)), .val (.int (nF q4)), .val (.int (moF nfl)), .val (.int (wF nfl)), .val (.int (ffF nfl)), .val (.double (iV nfl)), .second, .val (.ref b112), .unset, .unset, .unset, .unset, .unset, .unset] [(.double (FP.dmul (FP.i2d (nF q1)) (pF sel))), (.ref b112)])) rfl (by rw [hml]; rfl) (Steps.refl _) (argsL := [(.double (FP.dmul (FP.i2d (nF q1)) (pF sel)))]) (rest := []) (lenOf pd_1 rfl) rfl (by show 2 * 0 + _ ≤ _; exact Nat.le_of_eq rfl) (hb hby at_191) (fun _ _ => ⟨rfl, rfl, (by decide : 1 + 0 ≤ _), (by decide : 6 + 0 ≤ _)⟩)
  dsimp only [Pt.U, Pt.locs, Pt.cells, Pt.slots] at X115 l115 y115 z115 st115 hQ115
  subst l115 y115 z115
  obtain ⟨x115, f115, sc115, sf115, df115, V115, rfl, N115q, K115q, M115⟩ := hQ115
  have N115 := Fr.app N114 N115q
  have Z115 : n0 ≤ T115.heap.size := Nat.le_trans Z114 K115q.1
  obtain ⟨cq116, kq116, q116a, q116b, q116c⟩ := isOf hZ rfl M115.1
  obtain ⟨_, _, ⟨T116, L116, k116, n116⟩, -, X116, ⟨Lc116, hQ116, l116, y116, z116⟩, st116⟩ := X115.virtualBack hx (y := (⟨"com/example/retiremetric/retiremetric/engine/Mean", "mean", "()D"⟩ : MethodName)) (z := (⟨"com/example/retiremetric/retiremetric/engine/Mean", "mean", "()D"⟩ : MethodName)) hown (mvT hZ (hw _ (List.mem_of_getElem? (i := 34) rfl))) (mvT hZ (hw _ (List.mem_of_getElem? (i := 35) rfl))) (notFace_of_selects (args := #[]) (mvT hZ (hw _ (List.mem_of_getElem? (i := 37) rfl)))) (mvT hZ (hw _ (List.mem_of_getElem? (i := 37) rfl))) (mvT hZ (hw _ (List.mem_of_getElem? (i := 36) rfl))) (by decide) (backOf (W := 0) (rm6_I l Z a0 hw [] b112 f115 sc115 sf115 df115 (FP.dadd 0 (iV nfl)) ((0 + (1 : Int64)) + (1 : Int64)) T115.heap n0 Z115 M115 (by decide) hin4) hZ (hw _ (List.mem_of_getElem? (i := 38) rfl)) (hw _ (List.mem_of_getElem? (i := 3) rfl)) (by decide) (by decide)) q116a q116c (g := (mkF m 264 #[.val (.int q1), .val (.int q2), .val (.int q3), .val (.int q4), .val (.int sel), .val (.int nfl), .val (.int (kF sel)), .val (.int (psF sel)), .val (.double (pF sel)), .second, .val (.int (nF q1)), .val (.int (nkF sel q1 q2)), .val (.int (nkF sel q1 q3)), .val (.int (nF q4)), .val (.int (moF nfl)), .val (.int (wF nfl)), .val (.int (ffF nfl)), .val (.double (iV nfl)), .second, .val (.ref b112), .unset, .unset, .unset, .unset, .unset, .unset] [(.ref b112)])) rfl (by rw [hml]; rfl) (Steps.refl _) (argsL := []) (rest := []) (lenOf pd_4 rfl) rfl (by show 2 * 0 + _ ≤ _; exact Nat.le_of_eq rfl) (hb hby at_264) (fun _ _ => ⟨rfl, rfl, (by decide : 1 + 0 ≤ _), (by decide : 6 + 0 ≤ _)⟩)
  dsimp only [Pt.U, Pt.locs, Pt.cells, Pt.slots] at X116 l116 y116 z116 st116 hQ116
  subst l116 y116 z116
  obtain ⟨rfl, N116q, e116⟩ := hQ116
  have N116 := Fr.app N115 N116q
  obtain ⟨fs, hr, hrun, hended, hW, hsame⟩ := X116.leave (v := some (.int (1 : Int32))) (fun h => by rw [Bd.returns] at h; cases h)
  refine ⟨_, _, pre0 _ ?_, hrun, hended, _, _, rfl, ?_, ⟨_, rfl⟩, hW, hsame.mono (by decide) (by decide)⟩
  · refine sg1 q1 q2 q3 q4 sel nfl X0 hx hZ hw hby hown ?_
    refine sg2 q1 q2 q3 q4 sel nfl X0 hx hZ hw hby hown ?_
    refine sg3 q1 q2 q3 q4 sel nfl X0 hx hZ hw hby hown ?_
    refine sg4 q1 q2 q3 q4 sel nfl X0 hx hZ hw hby hown ?_
    refine sg5 q1 q2 q3 q4 sel nfl X0 hx hZ hw hby hown ?_
    refine sg6 q1 q2 q3 q4 sel nfl X0 hx hZ hw hby hown ?_
    show Steps p.tables e below (s₁.setTop (mkF m 157 #[.val (.int q1), .val (.int q2), .val (.int q3), .val (.int q4), .val (.int sel), .val (.int nfl), .val (.int (kF sel)), .val (.int (psF sel)), .val (.double (pF sel)), .second, .val (.int (nF q1)), .val (.int (nkF sel q1 q2)), .val (.int (nkF sel q1 q3)), .val (.int (nF q4)), .val (.int (moF nfl)), .val (.int (wF nfl)), .val (.int (ffF nfl)), .val (.double (iV nfl)), .second, .unset, .unset, .unset, .unset, .unset, .unset, .unset] [])) _
    refine st112 _ ?_
    refine XS.dup X112.here hx rfl (hb hby at_160) rfl rfl ?_
    show Steps p.tables e below (T112.setTop (mkF m 161 #[.val (.int q1), .val (.int q2), .val (.int q3), .val (.int q4), .val (.int sel), .val (.int nfl), .val (.int (kF sel)), .val (.int (psF sel)), .val (.double (pF sel)), .second, .val (.int (nF q1)), .val (.int (nkF sel q1 q2)), .val (.int (nkF sel q1 q3)), .val (.int (nF q4)), .val (.int (moF nfl)), .val (.int (wF nfl)), .val (.int (ffF nfl)), .val (.double (iV nfl)), .second, .unset, .unset, .unset, .unset, .unset, .unset, .unset] [(.ref b112), (.ref b112)])) _
    refine st113.trans ?_
    refine XS.astore X113.here hx rfl (hb hby at_164) rfl rfl (l' := #[.val (.int q1), .val (.int q2), .val (.int q3), .val (.int q4), .val (.int sel), .val (.int nfl), .val (.int (kF sel)), .val (.int (psF sel)), .val (.double (pF sel)), .second, .val (.int (nF q1)), .val (.int (nkF sel q1 q2)), .val (.int (nkF sel q1 q3)), .val (.int (nF q4)), .val (.int (moF nfl)), .val (.int (wF nfl)), .val (.int (ffF nfl)), .val (.double (iV nfl)), .second, .val (.ref b112), .unset, .unset, .unset, .unset, .unset, .unset]) rfl ?_
    refine XS.iload X113.here hx rfl (hb hby at_166) rfl ?_
    refine XS.ifNo X113.here hx rfl (hb hby at_168) rfl ((if0 _ _).trans (feq hc168).1) ?_
    show Steps p.tables e below (T113.setTop (mkF m 171 #[.val (.int q1), .val (.int q2), .val (.int q3), .val (.int q4), .val (.int sel), .val (.int nfl), .val (.int (kF sel)), .val (.int (psF sel)), .val (.double (pF sel)), .second, .val (.int (nF q1)), .val (.int (nkF sel q1 q2)), .val (.int (nkF sel q1 q3)), .val (.int (nF q4)), .val (.int (moF nfl)), .val (.int (wF nfl)), .val (.int (ffF nfl)), .val (.double (iV nfl)), .second, .val (.ref b112), .unset, .unset, .unset, .unset, .unset, .unset] [])) _
    refine XS.iload X113.here hx rfl (hb hby at_171) rfl ?_
    refine XS.ifNo X113.here hx rfl (hb hby at_173) rfl ((if0 _ _).trans (feq hc173).1) ?_
    refine XS.aload X113.here hx rfl (hb hby at_176) rfl rfl ?_
    refine XS.dload X113.here hx rfl (hb hby at_178) rfl ?_
    show Steps p.tables e below (T113.setTop (mkF m 180 #[.val (.int q1), .val (.int q2), .val (.int q3), .val (.int q4), .val (.int sel), .val (.int nfl), .val (.int (kF sel)), .val (.int (psF sel)), .val (.double (pF sel)), .second, .val (.int (nF q1)), .val (.int (nkF sel q1 q2)), .val (.int (nkF sel q1 q3)), .val (.int (nF q4)), .val (.int (moF nfl)), .val (.int (wF nfl)), .val (.int (ffF nfl)), .val (.double (iV nfl)), .second, .val (.ref b112), .unset, .unset, .unset, .unset, .unset, .unset] [(.double (iV nfl)), (.ref b112)])) _
    refine st114.trans ?_
    refine XS.aload X114.here hx rfl (hb hby at_183) rfl rfl ?_
    refine XS.iload X114.here hx rfl (hb hby at_185) rfl ?_
    refine XS.i2dS X114.here hx rfl (hb hby at_187) rfl rfl ?_
    show Steps p.tables e below (T114.setTop (mkF m 188 #[.val (.int q1), .val (.int q2), .val (.int q3), .val (.int q4), .val (.int sel), .val (.int nfl), .val (.int (kF sel)), .val (.int (psF sel)), .val (.double (pF sel)), .second, .val (.int (nF q1)), .val (.int (nkF sel q1 q2)), .val (.int (nkF sel q1 q3)), .val (.int (nF q4)), .val (.int (moF nfl)), .val (.int (wF nfl)), .val (.int (ffF nfl)), .val (.double (iV nfl)), .second, .val (.ref b112), .unset, .unset, .unset, .unset, .unset, .unset] [(.double (FP.i2d (nF q1))), (.ref b112)])) _
    refine XS.dload X114.here hx rfl (hb hby at_188) rfl ?_
    refine XS.dmulS X114.here hx rfl (hb hby at_190) rfl hnan190 rfl ?_
    show Steps p.tables e below (T114.setTop (mkF m 191 #[.val (.int q1), .val (.int q2), .val (.int q3), .val (.int q4), .val (.int sel), .val (.int nfl), .val (.int (kF sel)), .val (.int (psF sel)), .val (.double (pF sel)), .second, .val (.int (nF q1)), .val (.int (nkF sel q1 q2)), .val (.int (nkF sel q1 q3)), .val (.int (nF q4)), .val (.int (moF nfl)), .val (.int (wF nfl)), .val (.int (ffF nfl)), .val (.double (iV nfl)), .second, .val (.ref b112), .unset, .unset, .unset, .unset, .unset, .unset] [(.double (FP.dmul (FP.i2d (nF q1)) (pF sel))), (.ref b112)])) _
    refine st115.trans ?_
    refine XS.iload X115.here hx rfl (hb hby at_194) rfl ?_
    refine XS.iconst X115.here hx rfl (hb hby at_196) ?_
    refine XS.icmpYes X115.here hx rfl (pc0 := 197) (pc' := 211) rfl (hb hby at_197) rfl (tlt hc197).1 (by decide) (by decide) ?_
    show Steps p.tables e below (T115.setTop (mkF m 211 #[.val (.int q1), .val (.int q2), .val (.int q3), .val (.int q4), .val (.int sel), .val (.int nfl), .val (.int (kF sel)), .val (.int (psF sel)), .val (.double (pF sel)), .second, .val (.int (nF q1)), .val (.int (nkF sel q1 q2)), .val (.int (nkF sel q1 q3)), .val (.int (nF q4)), .val (.int (moF nfl)), .val (.int (wF nfl)), .val (.int (ffF nfl)), .val (.double (iV nfl)), .second, .val (.ref b112), .unset, .unset, .unset, .unset, .unset, .unset] [])) _
    refine XS.iload X115.here hx rfl (hb hby at_211) rfl ?_
    refine XS.iconst X115.here hx rfl (hb hby at_213) ?_
    refine XS.icmpYes X115.here hx rfl (pc0 := 214) (pc' := 228) rfl (hb hby at_214) rfl (tlt hc214).1 (by decide) (by decide) ?_
    refine XS.iload X115.here hx rfl (hb hby at_228) rfl ?_
    show Steps p.tables e below (T115.setTop (mkF m 230 #[.val (.int q1), .val (.int q2), .val (.int q3), .val (.int q4), .val (.int sel), .val (.int nfl), .val (.int (kF sel)), .val (.int (psF sel)), .val (.double (pF sel)), .second, .val (.int (nF q1)), .val (.int (nkF sel q1 q2)), .val (.int (nkF sel q1 q3)), .val (.int (nF q4)), .val (.int (moF nfl)), .val (.int (wF nfl)), .val (.int (ffF nfl)), .val (.double (iV nfl)), .second, .val (.ref b112), .unset, .unset, .unset, .unset, .unset, .unset] [(.int (kF sel))])) _
    refine XS.iconst X115.here hx rfl (hb hby at_230) ?_
    refine XS.icmpYes X115.here hx rfl (pc0 := 231) (pc' := 245) rfl (hb hby at_231) rfl (tlt hc231).1 (by decide) (by decide) ?_
    refine XS.iload X115.here hx rfl (hb hby at_245) rfl ?_
    refine XS.ifNo X115.here hx rfl (hb hby at_247) rfl ((if0 _ _).trans (feq hc247).1) ?_
    show Steps p.tables e below (T115.setTop (mkF m 250 #[.val (.int q1), .val (.int q2), .val (.int q3), .val (.int q4), .val (.int sel), .val (.int nfl), .val (.int (kF sel)), .val (.int (psF sel)), .val (.double (pF sel)), .second, .val (.int (nF q1)), .val (.int (nkF sel q1 q2)), .val (.int (nkF sel q1 q3)), .val (.int (nF q4)), .val (.int (moF nfl)), .val (.int (wF nfl)), .val (.int (ffF nfl)), .val (.double (iV nfl)), .second, .val (.ref b112), .unset, .unset, .unset, .unset, .unset, .unset] [])) _
    refine XS.iload X115.here hx rfl (hb hby at_250) rfl ?_
    refine XS.ifYes X115.here hx rfl (pc0 := 252) (pc' := 262) rfl (hb hby at_252) rfl ((if0 _ _).trans (feq hc252).2) (by decide) (by decide) ?_
    refine XS.aload X115.here hx rfl (hb hby at_262) rfl rfl ?_
    show Steps p.tables e below (T115.setTop (mkF m 264 #[.val (.int q1), .val (.int q2), .val (.int q3), .val (.int q4), .val (.int sel), .val (.int nfl), .val (.int (kF sel)), .val (.int (psF sel)), .val (.double (pF sel)), .second, .val (.int (nF q1)), .val (.int (nkF sel q1 q2)), .val (.int (nkF sel q1 q3)), .val (.int (nF q4)), .val (.int (moF nfl)), .val (.int (wF nfl)), .val (.int (ffF nfl)), .val (.double (iV nfl)), .second, .val (.ref b112), .unset, .unset, .unset, .unset, .unset, .unset] [(.ref b112)])) _
    refine st116.trans ?_
    refine XS.dstore X116.here hx rfl (hb hby at_267) rfl (l' := #[.val (.int q1), .val (.int q2), .val (.int q3), .val (.int q4), .val (.int sel), .val (.int nfl), .val (.int (kF sel)), .val (.int (psF sel)), .val (.double (pF sel)), .second, .val (.int (nF q1)), .val (.int (nkF sel q1 q2)), .val (.int (nkF sel q1 q3)), .val (.int (nF q4)), .val (.int (moF nfl)), .val (.int (wF nfl)), .val (.int (ffF nfl)), .val (.double (iV nfl)), .second, .val (.ref b112), .val (.double (FP.dadd 0 (iV nfl))), .second, .unset, .unset, .unset, .unset]) rfl ?_
    refine XS.iload X116.here hx rfl (hb hby at_269) rfl ?_
    refine XS.ifNo X116.here hx rfl (hb hby at_271) rfl ((if0 _ _).trans (feq hc271).1) ?_
    show Steps p.tables e below (T116.setTop (mkF m 274 #[.val (.int q1), .val (.int q2), .val (.int q3), .val (.int q4), .val (.int sel), .val (.int nfl), .val (.int (kF sel)), .val (.int (psF sel)), .val (.double (pF sel)), .second, .val (.int (nF q1)), .val (.int (nkF sel q1 q2)), .val (.int (nkF sel q1 q3)), .val (.int (nF q4)), .val (.int (moF nfl)), .val (.int (wF nfl)), .val (.int (ffF nfl)), .val (.double (iV nfl)), .second, .val (.ref b112), .val (.double (FP.dadd 0 (iV nfl))), .second, .unset, .unset, .unset, .unset] [])) _
    refine XS.dload X116.here hx rfl (hb hby at_274) rfl ?_
    refine XS.dload X116.here hx rfl (hb hby at_276) rfl ?_
    refine XS.dcmpS X116.here hx rfl (hb hby at_278) rfl rfl ?_
    refine XS.ifNo X116.here hx rfl (hb hby at_279) rfl ((if0 _ _).trans (teq hc279).2) ?_
    show Steps p.tables e below (T116.setTop (mkF m 282 #[.val (.int q1), .val (.int q2), .val (.int q3), .val (.int q4), .val (.int sel), .val (.int nfl), .val (.int (kF sel)), .val (.int (psF sel)), .val (.double (pF sel)), .second, .val (.int (nF q1)), .val (.int (nkF sel q1 q2)), .val (.int (nkF sel q1 q3)), .val (.int (nF q4)), .val (.int (moF nfl)), .val (.int (wF nfl)), .val (.int (ffF nfl)), .val (.double (iV nfl)), .second, .val (.ref b112), .val (.double (FP.dadd 0 (iV nfl))), .second, .unset, .unset, .unset, .unset] [])) _
    refine XS.iconst X116.here hx rfl (hb hby at_282) ?_
    refine XS.goto X116.here hx rfl (pc0 := 283) (pc' := 287) rfl (hb hby at_283) (by decide) (by decide) ?_
    show Steps p.tables e below (T116.setTop (mkF m 287 #[.val (.int q1), .val (.int q2), .val (.int q3), .val (.int q4), .val (.int sel), .val (.int nfl), .val (.int (kF sel)), .val (.int (psF sel)), .val (.double (pF sel)), .second, .val (.int (nF q1)), .val (.int (nkF sel q1 q2)), .val (.int (nkF sel q1 q3)), .val (.int (nF q4)), .val (.int (moF nfl)), .val (.int (wF nfl)), .val (.int (ffF nfl)), .val (.double (iV nfl)), .second, .val (.ref b112), .val (.double (FP.dadd 0 (iV nfl))), .second, .unset, .unset, .unset, .unset] [(.int (1 : Int32))])) _
    exact retN X116 hx (t := .boolean) Bd.returns (by simp) (hb hby at_287) hr
  · show Q0  h0 n0 _ T116.heap _
    exact ⟨rfl, N116⟩
set_option maxRecDepth 65536 in
set_option maxHeartbeats 40000000 in
theorem rm0_l1 (l : Launch) (Z : State) (a0 : Array Value) (hw : ∀ d ∈ tables_1, d.before a0 Z = true) (ws : List Jvm.Cond) (q1 : Int32) (q2 : Int32) (q3 : Int32) (q4 : Int32) (sel : Int32) (nfl : Int32) (U : Nat) (h0 : Heap) (n0 : Nat) (Z0 : n0 ≤ h0.size) (hU : 74 ≤ U ∧ U ≤ 2074) (hU2 : U = 2074 ∨ U ≤ 1074) (hp : DV 1 U (pF sel)) (d1 : DV (nF q1).toInt U (FP.dmul (FP.i2d (nF q1)) (pF sel))) (r1 : -8388608 ≤ (nF q1).toInt ∧ (nF q1).toInt ≤ 8388607) (hin1 : Jvm.Free.Fl.NoNaN64 (iV nfl)) (hin2 : ¬ ((infF (iV nfl)) = (0 : Int32))) (hin3 : Jvm.Free.Fl.NoNaN64 (FP.dadd 0 (iV nfl))) (hin4 : ¬ ((cmpValue (FP.dcmp (FP.dadd 0 (iV nfl)) FP.dconst0) .l) = (0 : Int32))) (hc168 : ¬ ((wF nfl) = (0 : Int32))) (hc173 : (ffF nfl) = (0 : Int32)) (hnan190 : Jvm.Free.Fl.NoNaN64 (FP.dmul (FP.i2d (nF q1)) (pF sel))) (hc197 : (kF sel) < (2 : Int32)) (hc214 : (kF sel) < (3 : Int32)) (hc231 : (kF sel) < (4 : Int32)) (hc247 : ¬ ((wF nfl) = (0 : Int32))) (hc252 : (ffF nfl) = (0 : Int32)) (hc271 : ¬ ((wF nfl) = (0 : Int32))) (hc279 : (cmpValue (FP.dcmp (FP.dadd 0 (iV nfl)) (iV nfl)) .l) = (0 : Int32)) :
    MetFree l x (head1 (Jvm.Cond.code x code maxLocals ret :: ws) room_1) (fun aa_ U_ => aa_ = #[(.int q1), (.int q2), (.int q3), (.int q4), (.int sel), (.int nfl)] ∧ Z.Warmed39 U_.vm ∧ U_.heap = h0) (fun _ _ _ _ _ => True) (fun _ U_ o_ V_ => ∃ v_ L_, o_ = .returned v_ ∧ Q0  h0 n0 v_ V_.heap L_ ∧ FrameEnd U_ o_ V_ L_ room_1.cells room_1.slots) := by
  refine MetFree.of_bodySF (plainFor_of_name pn_0) hisR ?_
  intro p e s m args below meth c s₁ Bd hml0 hP hK
  obtain ⟨rfl, hZ, hh⟩ := hP
  have hx := Bd.exec
  have hby := Bd.bytes
  have hml : c.maxLocals = 26 := hml0
  have hown : s.vm.findClass "com/example/retiremetric/retiremetric/engine/MeanMeanPinLaw" = some m.cls := findClass_of_methodNamed Bd.named
  have hnm := (name_of_methodNamed Bd.named Bd.method).1
  have X0 : Stand p l e room_1 s m #[(.int q1), (.int q2), (.int q3), (.int q4), (.int sel), (.int nfl)] below meth c s₁ [] 0 0 := Stand.of_body Bd
  have e0 : s₁.heap = h0 := by rw [← hh, Bd.state]; rfl
  have N0 := Fr.nil n0
  have pre0 : ∀ zz, Steps p.tables e below (s₁.setTop (mkF m 0 #[.val (.int q1), .val (.int q2), .val (.int q3), .val (.int q4), .val (.int sel), .val (.int nfl), .unset, .unset, .unset, .unset, .unset, .unset, .unset, .unset, .unset, .unset, .unset, .unset, .unset, .unset, .unset, .unset, .unset, .unset, .unset, .unset] [])) zz → Steps p.tables e below (s₁.setTop (entryFrame m #[(.int q1), (.int q2), (.int q3), (.int q4), (.int sel), (.int nfl)] maxLocals)) zz := fun zz k => castTop (ef_0 m q1 q2 q3 q4 sel nfl) k
  have mv0 : MV U 0 0 0 0 FP.dconst1 0 0 := ⟨by omega, zero_dv _, one_dv, zero_dv _, zero_dv _, by simp⟩
  obtain ⟨T117, h117, X117, e117, E117, A117, D117, -, st117⟩ := newO X0 hx hZ hown (hw _ (List.mem_of_getElem? (i := 1) rfl)) (hw _ (List.mem_of_getElem? (i := 2) rfl)) (hw _ (List.mem_of_getElem? (i := 3) rfl)) e0 (g := (mkF m 157 #[.val (.int q1), .val (.int q2), .val (.int q3), .val (.int q4), .val (.int sel), .val (.int nfl), .val (.int (kF sel)), .val (.int (psF sel)), .val (.double (pF sel)), .second, .val (.int (nF q1)), .val (.int (nkF sel q1 q2)), .val (.int (nkF sel q1 q3)), .val (.int (nF q4)), .val (.int (moF nfl)), .val (.int (wF nfl)), .val (.int (ffF nfl)), .val (.double (iV nfl)), .second, .unset, .unset, .unset, .unset, .unset, .unset, .unset] [])) rfl (hb hby at_157) (by decide) (by decide)
  obtain ⟨b117, g117⟩ : ∃ z, z = h0.size := ⟨_, rfl⟩
  rw [← g117] at A117 D117 st117
  have E_b117 := A117
  have g_b117 : n0 ≤ b117 := Nat.le_trans Z0 (Nat.le_of_eq g117.symm)
  have sz_b117 : h0.size ≤ b117 := Nat.le_trans (Keep.refl h0 []).1 (Nat.le_of_eq g117.symm)
  have K117 := (Keep.refl h0 []).ext E117
  have Z117 : n0 ≤ h117.size := Nat.le_trans Z0 E117.1
  have F_scale_b117 : Fld Z h117 b117 "com/example/retiremetric/retiremetric/engine/Mean" "scale" "D" (.double 0) := D117 (Or.inl (hw _ (List.mem_of_getElem? (i := 11) rfl))) (ty := .double) (by decide)
  have F_count_b117 : Fld Z h117 b117 "com/example/retiremetric/retiremetric/engine/Mean" "count" "J" (.long (0 : Int64)) := D117 (Or.inl (hw _ (List.mem_of_getElem? (i := 27) rfl))) (ty := .long) (by decide)
  have F_first_b117 : Fld Z h117 b117 "com/example/retiremetric/retiremetric/engine/Mean" "first" "D" (.double 0) := D117 (Or.inl (hw _ (List.mem_of_getElem? (i := 29) rfl))) (ty := .double) (by decide)
  have F_scaledFirst_b117 : Fld Z h117 b117 "com/example/retiremetric/retiremetric/engine/Mean" "scaledFirst" "D" (.double 0) := D117 (Or.inl (hw _ (List.mem_of_getElem? (i := 31) rfl))) (ty := .double) (by decide)
  have F_differences_b117 : Fld Z h117 b117 "com/example/retiremetric/retiremetric/engine/Mean" "differences" "D" (.double 0) := D117 (Or.inl (hw _ (List.mem_of_getElem? (i := 33) rfl))) (ty := .double) (by decide)
  have F_infinities_b117 : Fld Z h117 b117 "com/example/retiremetric/retiremetric/engine/Mean" "infinities" "D" (.double 0) := D117 (Or.inl (hw _ (List.mem_of_getElem? (i := 40) rfl))) (ty := .double) (by decide)
  obtain ⟨_, _, ⟨T118, L118, k118, n118⟩, -, X118, ⟨Lc118, hQ118, l118, y118, z118⟩, st118⟩ := X117.specialBack hx (y := (⟨"com/example/retiremetric/retiremetric/engine/Mean", "<init>", "()V"⟩ : MethodName)) rfl hown (mvT hZ (hw _ (List.mem_of_getElem? (i := 4) rfl))) (mvT hZ (hw _ (List.mem_of_getElem? (i := 5) rfl))) (mvT hZ (hw _ (List.mem_of_getElem? (i := 6) rfl))) (by decide) (backOf (W := 1) (rm1 l Z a0 hw [] b117 h117 n0 Z117 g_b117 ⟨E_b117, F_first_b117, F_scale_b117, F_scaledFirst_b117, F_differences_b117, F_infinities_b117, F_count_b117⟩) hZ (hw _ (List.mem_of_getElem? (i := 6) rfl)) (hw _ (List.mem_of_getElem? (i := 3) rfl)) (by decide) (by decide)) (g := (mkF m 161 #[.val (.int q1), .val (.int q2), .val (.int q3), .val (.int q4), .val (.int sel), .val (.int nfl), .val (.int (kF sel)), .val (.int (psF sel)), .val (.double (pF sel)), .second, .val (.int (nF q1)), .val (.int (nkF sel q1 q2)), .val (.int (nkF sel q1 q3)), .val (.int (nF q4)), .val (.int (moF nfl)), .val (.int (wF nfl)), .val (.int (ffF nfl)), .val (.double (iV nfl)), .second, .unset, .unset, .unset, .unset, .unset, .unset, .unset] [(.ref b117), (.ref b117)])) rfl (by rw [hml]; rfl) (Steps.refl _) (a := b117) (argsL := []) (rest := [(.ref b117)]) (lenOf pd_0 rfl) rfl (by show 2 * 0 + _ ≤ _; exact Nat.le_of_eq rfl) (hb hby at_161) (fun _ _ => ⟨rfl, e117, (by decide : 1 + 0 ≤ _), (by decide : 6 + 0 ≤ _)⟩)
  dsimp only [Pt.U, Pt.locs, Pt.cells, Pt.slots] at X118 l118 y118 z118 st118 hQ118
  subst l118 y118 z118
  obtain ⟨rfl, N118q, K118q, M118⟩ := hQ118
  have N118 := Fr.app N0 N118q
  have Z118 : n0 ≤ T118.heap.size := Nat.le_trans Z117 K118q.1
  obtain ⟨cq119, kq119, q119a, q119b, q119c⟩ := isOf hZ rfl M118.1
  obtain ⟨_, _, ⟨T119, L119, k119, n119⟩, -, X119, ⟨Lc119, hQ119, l119, y119, z119⟩, st119⟩ := X118.virtualBack hx (y := (⟨"com/example/retiremetric/retiremetric/engine/Mean", "add", "(D)V"⟩ : MethodName)) (z := (⟨"com/example/retiremetric/retiremetric/engine/Mean", "add", "(D)V"⟩ : MethodName)) hown (mvT hZ (hw _ (List.mem_of_getElem? (i := 12) rfl))) (mvT hZ (hw _ (List.mem_of_getElem? (i := 13) rfl))) (notFace_of_selects (args := #[]) (mvT hZ (hw _ (List.mem_of_getElem? (i := 15) rfl)))) (mvT hZ (hw _ (List.mem_of_getElem? (i := 15) rfl))) (mvT hZ (hw _ (List.mem_of_getElem? (i := 14) rfl))) (by decide) (backOf (W := 0) (rm3_one l Z a0 hw [] b117 (FP.dmul (FP.i2d (nF q1)) (pF sel)) 0 U (nF q1).toInt T118.heap n0 Z118 g_b117 M118 hU d1 (by omega)) hZ (hw _ (List.mem_of_getElem? (i := 16) rfl)) (hw _ (List.mem_of_getElem? (i := 3) rfl)) (by decide) (by decide)) q119a q119c (g := (mkF m 191 #[.val (.int q1), .val (.int q2), .val (.int q3), .val (.int q4), .val (.int sel), .val (.int nfl), .val (.int (kF sel)), .val (.int (psF sel)), .val (.double (pF sel)), .second, .val (.int (nF q1)), .val (.int (nkF sel q1 q2)), .val (.int (nkF sel q1 q3)), .val (.int (nF q4)), .val (.int (moF nfl)), .val (.int (wF nfl)), .val (.int (ffF nfl)), .val (.double (iV nfl)), .second, .val (.ref b117), .unset, .unset, .unset, .unset, .unset, .unset] [(.double (FP.dmul (FP.i2d (nF q1)) (pF sel))), (.ref b117)])) rfl (by rw [hml]; rfl) (Steps.refl _) (argsL := [(.double (FP.dmul (FP.i2d (nF q1)) (pF sel)))]) (rest := []) (lenOf pd_1 rfl) rfl (by show 2 * 0 + _ ≤ _; exact Nat.le_of_eq rfl) (hb hby at_191) (fun _ _ => ⟨rfl, rfl, (by decide : 1 + 0 ≤ _), (by decide : 6 + 0 ≤ _)⟩)
  dsimp only [Pt.U, Pt.locs, Pt.cells, Pt.slots] at X119 l119 y119 z119 st119 hQ119
  subst l119 y119 z119
  obtain ⟨x119, f119, sc119, sf119, df119, V119, rfl, N119q, K119q, M119⟩ := hQ119
  have N119 := Fr.app N118 N119q
  have Z119 : n0 ≤ T119.heap.size := Nat.le_trans Z118 K119q.1
  obtain ⟨cq120, kq120, q120a, q120b, q120c⟩ := isOf hZ rfl M119.1
  obtain ⟨_, _, ⟨T120, L120, k120, n120⟩, -, X120, ⟨Lc120, hQ120, l120, y120, z120⟩, st120⟩ := X119.virtualBack hx (y := (⟨"com/example/retiremetric/retiremetric/engine/Mean", "add", "(D)V"⟩ : MethodName)) (z := (⟨"com/example/retiremetric/retiremetric/engine/Mean", "add", "(D)V"⟩ : MethodName)) hown (mvT hZ (hw _ (List.mem_of_getElem? (i := 12) rfl))) (mvT hZ (hw _ (List.mem_of_getElem? (i := 13) rfl))) (notFace_of_selects (args := #[]) (mvT hZ (hw _ (List.mem_of_getElem? (i := 15) rfl)))) (mvT hZ (hw _ (List.mem_of_getElem? (i := 15) rfl))) (mvT hZ (hw _ (List.mem_of_getElem? (i := 14) rfl))) (by decide) (backOf (W := 0) (rm3_I l Z a0 hw [] b117 (iV nfl) f119 sc119 sf119 df119 0 (0 + (1 : Int64)) T119.heap n0 Z119 g_b117 M119 hin1 hin2 hin3) hZ (hw _ (List.mem_of_getElem? (i := 16) rfl)) (hw _ (List.mem_of_getElem? (i := 3) rfl)) (by decide) (by decide)) q120a q120c (g := (mkF m 259 #[.val (.int q1), .val (.int q2), .val (.int q3), .val (.int q4), .val (.int sel), .val (.int nfl), .val (.int (kF sel)), .val (.int (psF sel)), .val (.double (pF sel)), .second, .val (.int (nF q1)), .val (.int (nkF sel q1 q2)), .val (.int (nkF sel q1 q3)), .val (.int (nF q4)), .val (.int (moF nfl)), .val (.int (wF nfl)), .val (.int (ffF nfl)), .val (.double (iV nfl)), .second, .val (.ref b117), .unset, .unset, .unset, .unset, .unset, .unset] [(.double (iV nfl)), (.ref b117)])) rfl (by rw [hml]; rfl) (Steps.refl _) (argsL := [(.double (iV nfl))]) (rest := []) (lenOf pd_1 rfl) rfl (by show 2 * 0 + _ ≤ _; exact Nat.le_of_eq rfl) (hb hby at_259) (fun _ _ => ⟨rfl, rfl, (by decide : 1 + 0 ≤ _), (by decide : 6 + 0 ≤ _)⟩)
  dsimp only [Pt.U, Pt.locs, Pt.cells, Pt.slots] at X120 l120 y120 z120 st120 hQ120
  subst l120 y120 z120
  obtain ⟨rfl, N120q, K120q, M120⟩ := hQ120
  have N120 := Fr.app N119 N120q
  have Z120 : n0 ≤ T120.heap.size := Nat.le_trans Z119 K120q.1
  obtain ⟨cq121, kq121, q121a, q121b, q121c⟩ := isOf hZ rfl M120.1
  obtain ⟨_, _, ⟨T121, L121, k121, n121⟩, -, X121, ⟨Lc121, hQ121, l121, y121, z121⟩, st121⟩ := X120.virtualBack hx (y := (⟨"com/example/retiremetric/retiremetric/engine/Mean", "mean", "()D"⟩ : MethodName)) (z := (⟨"com/example/retiremetric/retiremetric/engine/Mean", "mean", "()D"⟩ : MethodName)) hown (mvT hZ (hw _ (List.mem_of_getElem? (i := 34) rfl))) (mvT hZ (hw _ (List.mem_of_getElem? (i := 35) rfl))) (notFace_of_selects (args := #[]) (mvT hZ (hw _ (List.mem_of_getElem? (i := 37) rfl)))) (mvT hZ (hw _ (List.mem_of_getElem? (i := 37) rfl))) (mvT hZ (hw _ (List.mem_of_getElem? (i := 36) rfl))) (by decide) (backOf (W := 0) (rm6_I l Z a0 hw [] b117 f119 sc119 sf119 df119 (FP.dadd 0 (iV nfl)) ((0 + (1 : Int64)) + (1 : Int64)) T120.heap n0 Z120 M120 (by decide) hin4) hZ (hw _ (List.mem_of_getElem? (i := 38) rfl)) (hw _ (List.mem_of_getElem? (i := 3) rfl)) (by decide) (by decide)) q121a q121c (g := (mkF m 264 #[.val (.int q1), .val (.int q2), .val (.int q3), .val (.int q4), .val (.int sel), .val (.int nfl), .val (.int (kF sel)), .val (.int (psF sel)), .val (.double (pF sel)), .second, .val (.int (nF q1)), .val (.int (nkF sel q1 q2)), .val (.int (nkF sel q1 q3)), .val (.int (nF q4)), .val (.int (moF nfl)), .val (.int (wF nfl)), .val (.int (ffF nfl)), .val (.double (iV nfl)), .second, .val (.ref b117), .unset, .unset, .unset, .unset, .unset, .unset] [(.ref b117)])) rfl (by rw [hml]; rfl) (Steps.refl _) (argsL := []) (rest := []) (lenOf pd_4 rfl) rfl (by show 2 * 0 + _ ≤ _; exact Nat.le_of_eq rfl) (hb hby at_264) (fun _ _ => ⟨rfl, rfl, (by decide : 1 + 0 ≤ _), (by decide : 6 + 0 ≤ _)⟩)
  dsimp only [Pt.U, Pt.locs, Pt.cells, Pt.slots] at X121 l121 y121 z121 st121 hQ121
  subst l121 y121 z121
  obtain ⟨rfl, N121q, e121⟩ := hQ121
  have N121 := Fr.app N120 N121q
  obtain ⟨fs, hr, hrun, hended, hW, hsame⟩ := X121.leave (v := some (.int (1 : Int32))) (fun h => by rw [Bd.returns] at h; cases h)
  refine ⟨_, _, pre0 _ ?_, hrun, hended, _, _, rfl, ?_, ⟨_, rfl⟩, hW, hsame.mono (by decide) (by decide)⟩
  · refine sg1 q1 q2 q3 q4 sel nfl X0 hx hZ hw hby hown ?_
    refine sg2 q1 q2 q3 q4 sel nfl X0 hx hZ hw hby hown ?_
    refine sg3 q1 q2 q3 q4 sel nfl X0 hx hZ hw hby hown ?_
    refine sg4 q1 q2 q3 q4 sel nfl X0 hx hZ hw hby hown ?_
    refine sg5 q1 q2 q3 q4 sel nfl X0 hx hZ hw hby hown ?_
    refine sg6 q1 q2 q3 q4 sel nfl X0 hx hZ hw hby hown ?_
    show Steps p.tables e below (s₁.setTop (mkF m 157 #[.val (.int q1), .val (.int q2), .val (.int q3), .val (.int q4), .val (.int sel), .val (.int nfl), .val (.int (kF sel)), .val (.int (psF sel)), .val (.double (pF sel)), .second, .val (.int (nF q1)), .val (.int (nkF sel q1 q2)), .val (.int (nkF sel q1 q3)), .val (.int (nF q4)), .val (.int (moF nfl)), .val (.int (wF nfl)), .val (.int (ffF nfl)), .val (.double (iV nfl)), .second, .unset, .unset, .unset, .unset, .unset, .unset, .unset] [])) _
    refine st117 _ ?_
    refine XS.dup X117.here hx rfl (hb hby at_160) rfl rfl ?_
    show Steps p.tables e below (T117.setTop (mkF m 161 #[.val (.int q1), .val (.int q2), .val (.int q3), .val (.int q4), .val (.int sel), .val (.int nfl), .val (.int (kF sel)), .val (.int (psF sel)), .val (.double (pF sel)), .second, .val (.int (nF q1)), .val (.int (nkF sel q1 q2)), .val (.int (nkF sel q1 q3)), .val (.int (nF q4)), .val (.int (moF nfl)), .val (.int (wF nfl)), .val (.int (ffF nfl)), .val (.double (iV nfl)), .second, .unset, .unset, .unset, .unset, .unset, .unset, .unset] [(.ref b117), (.ref b117)])) _
    refine st118.trans ?_
    refine XS.astore X118.here hx rfl (hb hby at_164) rfl rfl (l' := #[.val (.int q1), .val (.int q2), .val (.int q3), .val (.int q4), .val (.int sel), .val (.int nfl), .val (.int (kF sel)), .val (.int (psF sel)), .val (.double (pF sel)), .second, .val (.int (nF q1)), .val (.int (nkF sel q1 q2)), .val (.int (nkF sel q1 q3)), .val (.int (nF q4)), .val (.int (moF nfl)), .val (.int (wF nfl)), .val (.int (ffF nfl)), .val (.double (iV nfl)), .second, .val (.ref b117), .unset, .unset, .unset, .unset, .unset, .unset]) rfl ?_
    refine XS.iload X118.here hx rfl (hb hby at_166) rfl ?_
    refine XS.ifNo X118.here hx rfl (hb hby at_168) rfl ((if0 _ _).trans (feq hc168).1) ?_
    show Steps p.tables e below (T118.setTop (mkF m 171 #[.val (.int q1), .val (.int q2), .val (.int q3), .val (.int q4), .val (.int sel), .val (.int nfl), .val (.int (kF sel)), .val (.int (psF sel)), .val (.double (pF sel)), .second, .val (.int (nF q1)), .val (.int (nkF sel q1 q2)), .val (.int (nkF sel q1 q3)), .val (.int (nF q4)), .val (.int (moF nfl)), .val (.int (wF nfl)), .val (.int (ffF nfl)), .val (.double (iV nfl)), .second, .val (.ref b117), .unset, .unset, .unset, .unset, .unset, .unset] [])) _
    refine XS.iload X118.here hx rfl (hb hby at_171) rfl ?_
    refine XS.ifYes X118.here hx rfl (pc0 := 173) (pc' := 183) rfl (hb hby at_173) rfl ((if0 _ _).trans (teq hc173).1) (by decide) (by decide) ?_
    refine XS.aload X118.here hx rfl (hb hby at_183) rfl rfl ?_
    refine XS.iload X118.here hx rfl (hb hby at_185) rfl ?_
    show Steps p.tables e below (T118.setTop (mkF m 187 #[.val (.int q1), .val (.int q2), .val (.int q3), .val (.int q4), .val (.int sel), .val (.int nfl), .val (.int (kF sel)), .val (.int (psF sel)), .val (.double (pF sel)), .second, .val (.int (nF q1)), .val (.int (nkF sel q1 q2)), .val (.int (nkF sel q1 q3)), .val (.int (nF q4)), .val (.int (moF nfl)), .val (.int (wF nfl)), .val (.int (ffF nfl)), .val (.double (iV nfl)), .second, .val (.ref b117), .unset, .unset, .unset, .unset, .unset, .unset] [(.int (nF q1)), (.ref b117)])) _
    refine XS.i2dS X118.here hx rfl (hb hby at_187) rfl rfl ?_
    refine XS.dload X118.here hx rfl (hb hby at_188) rfl ?_
    refine XS.dmulS X118.here hx rfl (hb hby at_190) rfl hnan190 rfl ?_
    show Steps p.tables e below (T118.setTop (mkF m 191 #[.val (.int q1), .val (.int q2), .val (.int q3), .val (.int q4), .val (.int sel), .val (.int nfl), .val (.int (kF sel)), .val (.int (psF sel)), .val (.double (pF sel)), .second, .val (.int (nF q1)), .val (.int (nkF sel q1 q2)), .val (.int (nkF sel q1 q3)), .val (.int (nF q4)), .val (.int (moF nfl)), .val (.int (wF nfl)), .val (.int (ffF nfl)), .val (.double (iV nfl)), .second, .val (.ref b117), .unset, .unset, .unset, .unset, .unset, .unset] [(.double (FP.dmul (FP.i2d (nF q1)) (pF sel))), (.ref b117)])) _
    refine st119.trans ?_
    refine XS.iload X119.here hx rfl (hb hby at_194) rfl ?_
    refine XS.iconst X119.here hx rfl (hb hby at_196) ?_
    refine XS.icmpYes X119.here hx rfl (pc0 := 197) (pc' := 211) rfl (hb hby at_197) rfl (tlt hc197).1 (by decide) (by decide) ?_
    show Steps p.tables e below (T119.setTop (mkF m 211 #[.val (.int q1), .val (.int q2), .val (.int q3), .val (.int q4), .val (.int sel), .val (.int nfl), .val (.int (kF sel)), .val (.int (psF sel)), .val (.double (pF sel)), .second, .val (.int (nF q1)), .val (.int (nkF sel q1 q2)), .val (.int (nkF sel q1 q3)), .val (.int (nF q4)), .val (.int (moF nfl)), .val (.int (wF nfl)), .val (.int (ffF nfl)), .val (.double (iV nfl)), .second, .val (.ref b117), .unset, .unset, .unset, .unset, .unset, .unset] [])) _
    refine XS.iload X119.here hx rfl (hb hby at_211) rfl ?_
    refine XS.iconst X119.here hx rfl (hb hby at_213) ?_
    refine XS.icmpYes X119.here hx rfl (pc0 := 214) (pc' := 228) rfl (hb hby at_214) rfl (tlt hc214).1 (by decide) (by decide) ?_
    refine XS.iload X119.here hx rfl (hb hby at_228) rfl ?_
    show Steps p.tables e below (T119.setTop (mkF m 230 #[.val (.int q1), .val (.int q2), .val (.int q3), .val (.int q4), .val (.int sel), .val (.int nfl), .val (.int (kF sel)), .val (.int (psF sel)), .val (.double (pF sel)), .second, .val (.int (nF q1)), .val (.int (nkF sel q1 q2)), .val (.int (nkF sel q1 q3)), .val (.int (nF q4)), .val (.int (moF nfl)), .val (.int (wF nfl)), .val (.int (ffF nfl)), .val (.double (iV nfl)), .second, .val (.ref b117), .unset, .unset, .unset, .unset, .unset, .unset] [(.int (kF sel))])) _
    refine XS.iconst X119.here hx rfl (hb hby at_230) ?_
    refine XS.icmpYes X119.here hx rfl (pc0 := 231) (pc' := 245) rfl (hb hby at_231) rfl (tlt hc231).1 (by decide) (by decide) ?_
    refine XS.iload X119.here hx rfl (hb hby at_245) rfl ?_
    refine XS.ifNo X119.here hx rfl (hb hby at_247) rfl ((if0 _ _).trans (feq hc247).1) ?_
    show Steps p.tables e below (T119.setTop (mkF m 250 #[.val (.int q1), .val (.int q2), .val (.int q3), .val (.int q4), .val (.int sel), .val (.int nfl), .val (.int (kF sel)), .val (.int (psF sel)), .val (.double (pF sel)), .second, .val (.int (nF q1)), .val (.int (nkF sel q1 q2)), .val (.int (nkF sel q1 q3)), .val (.int (nF q4)), .val (.int (moF nfl)), .val (.int (wF nfl)), .val (.int (ffF nfl)), .val (.double (iV nfl)), .second, .val (.ref b117), .unset, .unset, .unset, .unset, .unset, .unset] [])) _
    refine XS.iload X119.here hx rfl (hb hby at_250) rfl ?_
    refine XS.ifNo X119.here hx rfl (hb hby at_252) rfl ((if0 _ _).trans (teq hc252).2) ?_
    refine XS.aload X119.here hx rfl (hb hby at_255) rfl rfl ?_
    refine XS.dload X119.here hx rfl (hb hby at_257) rfl ?_
    show Steps p.tables e below (T119.setTop (mkF m 259 #[.val (.int q1), .val (.int q2), .val (.int q3), .val (.int q4), .val (.int sel), .val (.int nfl), .val (.int (kF sel)), .val (.int (psF sel)), .val (.double (pF sel)), .second, .val (.int (nF q1)), .val (.int (nkF sel q1 q2)), .val (.int (nkF sel q1 q3)), .val (.int (nF q4)), .val (.int (moF nfl)), .val (.int (wF nfl)), .val (.int (ffF nfl)), .val (.double (iV nfl)), .second, .val (.ref b117), .unset, .unset, .unset, .unset, .unset, .unset] [(.double (iV nfl)), (.ref b117)])) _
    refine st120.trans ?_
    refine XS.aload X120.here hx rfl (hb hby at_262) rfl rfl ?_
    show Steps p.tables e below (T120.setTop (mkF m 264 #[.val (.int q1), .val (.int q2), .val (.int q3), .val (.int q4), .val (.int sel), .val (.int nfl), .val (.int (kF sel)), .val (.int (psF sel)), .val (.double (pF sel)), .second, .val (.int (nF q1)), .val (.int (nkF sel q1 q2)), .val (.int (nkF sel q1 q3)), .val (.int (nF q4)), .val (.int (moF nfl)), .val (.int (wF nfl)), .val (.int (ffF nfl)), .val (.double (iV nfl)), .second, .val (.ref b117), .unset, .unset, .unset, .unset, .unset, .unset] [(.ref b117)])) _
    refine st121.trans ?_
    refine XS.dstore X121.here hx rfl (hb hby at_267) rfl (l' := #[.val (.int q1), .val (.int q2), .val (.int q3), .val (.int q4), .val (.int sel), .val (.int nfl), .val (.int (kF sel)), .val (.int (psF sel)), .val (.double (pF sel)), .second, .val (.int (nF q1)), .val (.int (nkF sel q1 q2)), .val (.int (nkF sel q1 q3)), .val (.int (nF q4)), .val (.int (moF nfl)), .val (.int (wF nfl)), .val (.int (ffF nfl)), .val (.double (iV nfl)), .second, .val (.ref b117), .val (.double (FP.dadd 0 (iV nfl))), .second, .unset, .unset, .unset, .unset]) rfl ?_
    refine XS.iload X121.here hx rfl (hb hby at_269) rfl ?_
    refine XS.ifNo X121.here hx rfl (hb hby at_271) rfl ((if0 _ _).trans (feq hc271).1) ?_
    show Steps p.tables e below (T121.setTop (mkF m 274 #[.val (.int q1), .val (.int q2), .val (.int q3), .val (.int q4), .val (.int sel), .val (.int nfl), .val (.int (kF sel)), .val (.int (psF sel)), .val (.double (pF sel)), .second, .val (.int (nF q1)), .val (.int (nkF sel q1 q2)), .val (.int (nkF sel q1 q3)), .val (.int (nF q4)), .val (.int (moF nfl)), .val (.int (wF nfl)), .val (.int (ffF nfl)), .val (.double (iV nfl)), .second, .val (.ref b117), .val (.double (FP.dadd 0 (iV nfl))), .second, .unset, .unset, .unset, .unset] [])) _
    refine XS.dload X121.here hx rfl (hb hby at_274) rfl ?_
    refine XS.dload X121.here hx rfl (hb hby at_276) rfl ?_
    refine XS.dcmpS X121.here hx rfl (hb hby at_278) rfl rfl ?_
    refine XS.ifNo X121.here hx rfl (hb hby at_279) rfl ((if0 _ _).trans (teq hc279).2) ?_
    show Steps p.tables e below (T121.setTop (mkF m 282 #[.val (.int q1), .val (.int q2), .val (.int q3), .val (.int q4), .val (.int sel), .val (.int nfl), .val (.int (kF sel)), .val (.int (psF sel)), .val (.double (pF sel)), .second, .val (.int (nF q1)), .val (.int (nkF sel q1 q2)), .val (.int (nkF sel q1 q3)), .val (.int (nF q4)), .val (.int (moF nfl)), .val (.int (wF nfl)), .val (.int (ffF nfl)), .val (.double (iV nfl)), .second, .val (.ref b117), .val (.double (FP.dadd 0 (iV nfl))), .second, .unset, .unset, .unset, .unset] [])) _
    refine XS.iconst X121.here hx rfl (hb hby at_282) ?_
    refine XS.goto X121.here hx rfl (pc0 := 283) (pc' := 287) rfl (hb hby at_283) (by decide) (by decide) ?_
    show Steps p.tables e below (T121.setTop (mkF m 287 #[.val (.int q1), .val (.int q2), .val (.int q3), .val (.int q4), .val (.int sel), .val (.int nfl), .val (.int (kF sel)), .val (.int (psF sel)), .val (.double (pF sel)), .second, .val (.int (nF q1)), .val (.int (nkF sel q1 q2)), .val (.int (nkF sel q1 q3)), .val (.int (nF q4)), .val (.int (moF nfl)), .val (.int (wF nfl)), .val (.int (ffF nfl)), .val (.double (iV nfl)), .second, .val (.ref b117), .val (.double (FP.dadd 0 (iV nfl))), .second, .unset, .unset, .unset, .unset] [(.int (1 : Int32))])) _
    exact retN X121 hx (t := .boolean) Bd.returns (by simp) (hb hby at_287) hr
  · show Q0  h0 n0 _ T121.heap _
    exact ⟨rfl, N121⟩
set_option maxRecDepth 65536 in
set_option maxHeartbeats 40000000 in
theorem rm0_f2 (l : Launch) (Z : State) (a0 : Array Value) (hw : ∀ d ∈ tables_1, d.before a0 Z = true) (ws : List Jvm.Cond) (q1 : Int32) (q2 : Int32) (q3 : Int32) (q4 : Int32) (sel : Int32) (nfl : Int32) (U : Nat) (h0 : Heap) (n0 : Nat) (Z0 : n0 ≤ h0.size) (hU : 74 ≤ U ∧ U ≤ 2074) (hU2 : U = 2074 ∨ U ≤ 1074) (hp : DV 1 U (pF sel)) (d1 : DV (nF q1).toInt U (FP.dmul (FP.i2d (nF q1)) (pF sel))) (r1 : -8388608 ≤ (nF q1).toInt ∧ (nF q1).toInt ≤ 8388607) (d2 : DV (nkF sel q1 q2).toInt U (FP.dmul (FP.i2d (nkF sel q1 q2)) (pF sel))) (r2 : -8388608 ≤ (nkF sel q1 q2).toInt ∧ (nkF sel q1 q2).toInt ≤ 8388607) (hin1 : Jvm.Free.Fl.NoNaN64 (iV nfl)) (hin2 : ¬ ((infF (iV nfl)) = (0 : Int32))) (hin3 : Jvm.Free.Fl.NoNaN64 (FP.dadd 0 (iV nfl))) (hin4 : ¬ ((cmpValue (FP.dcmp (FP.dadd 0 (iV nfl)) FP.dconst0) .l) = (0 : Int32))) (hc168 : ¬ ((wF nfl) = (0 : Int32))) (hc173 : ¬ ((ffF nfl) = (0 : Int32))) (hnan190 : Jvm.Free.Fl.NoNaN64 (FP.dmul (FP.i2d (nF q1)) (pF sel))) (hc197 : ¬ ((kF sel) < (2 : Int32))) (hnan207 : Jvm.Free.Fl.NoNaN64 (FP.dmul (FP.i2d (nkF sel q1 q2)) (pF sel))) (hc214 : (kF sel) < (3 : Int32)) (hc231 : (kF sel) < (4 : Int32)) (hc247 : ¬ ((wF nfl) = (0 : Int32))) (hc252 : ¬ ((ffF nfl) = (0 : Int32))) (hc271 : ¬ ((wF nfl) = (0 : Int32))) (hc279 : (cmpValue (FP.dcmp (FP.dadd 0 (iV nfl)) (iV nfl)) .l) = (0 : Int32)) :
    MetFree l x (head1 (Jvm.Cond.code x code maxLocals ret :: ws) room_1) (fun aa_ U_ => aa_ = #[(.int q1), (.int q2), (.int q3), (.int q4), (.int sel), (.int nfl)] ∧ Z.Warmed39 U_.vm ∧ U_.heap = h0) (fun _ _ _ _ _ => True) (fun _ U_ o_ V_ => ∃ v_ L_, o_ = .returned v_ ∧ Q0  h0 n0 v_ V_.heap L_ ∧ FrameEnd U_ o_ V_ L_ room_1.cells room_1.slots) := by
  refine MetFree.of_bodySF (plainFor_of_name pn_0) hisR ?_
  intro p e s m args below meth c s₁ Bd hml0 hP hK
  obtain ⟨rfl, hZ, hh⟩ := hP
  have hx := Bd.exec
  have hby := Bd.bytes
  have hml : c.maxLocals = 26 := hml0
  have hown : s.vm.findClass "com/example/retiremetric/retiremetric/engine/MeanMeanPinLaw" = some m.cls := findClass_of_methodNamed Bd.named
  have hnm := (name_of_methodNamed Bd.named Bd.method).1
  have X0 : Stand p l e room_1 s m #[(.int q1), (.int q2), (.int q3), (.int q4), (.int sel), (.int nfl)] below meth c s₁ [] 0 0 := Stand.of_body Bd
  have e0 : s₁.heap = h0 := by rw [← hh, Bd.state]; rfl
  have N0 := Fr.nil n0
  have pre0 : ∀ zz, Steps p.tables e below (s₁.setTop (mkF m 0 #[.val (.int q1), .val (.int q2), .val (.int q3), .val (.int q4), .val (.int sel), .val (.int nfl), .unset, .unset, .unset, .unset, .unset, .unset, .unset, .unset, .unset, .unset, .unset, .unset, .unset, .unset, .unset, .unset, .unset, .unset, .unset, .unset] [])) zz → Steps p.tables e below (s₁.setTop (entryFrame m #[(.int q1), (.int q2), (.int q3), (.int q4), (.int sel), (.int nfl)] maxLocals)) zz := fun zz k => castTop (ef_0 m q1 q2 q3 q4 sel nfl) k
  have mv0 : MV U 0 0 0 0 FP.dconst1 0 0 := ⟨by omega, zero_dv _, one_dv, zero_dv _, zero_dv _, by simp⟩
  obtain ⟨T122, h122, X122, e122, E122, A122, D122, -, st122⟩ := newO X0 hx hZ hown (hw _ (List.mem_of_getElem? (i := 1) rfl)) (hw _ (List.mem_of_getElem? (i := 2) rfl)) (hw _ (List.mem_of_getElem? (i := 3) rfl)) e0 (g := (mkF m 157 #[.val (.int q1), .val (.int q2), .val (.int q3), .val (.int q4), .val (.int sel), .val (.int nfl), .val (.int (kF sel)), .val (.int (psF sel)), .val (.double (pF sel)), .second, .val (.int (nF q1)), .val (.int (nkF sel q1 q2)), .val (.int (nkF sel q1 q3)), .val (.int (nF q4)), .val (.int (moF nfl)), .val (.int (wF nfl)), .val (.int (ffF nfl)), .val (.double (iV nfl)), .second, .unset, .unset, .unset, .unset, .unset, .unset, .unset] [])) rfl (hb hby at_157) (by decide) (by decide)
  obtain ⟨b122, g122⟩ : ∃ z, z = h0.size := ⟨_, rfl⟩
  rw [← g122] at A122 D122 st122
  have E_b122 := A122
  have g_b122 : n0 ≤ b122 := Nat.le_trans Z0 (Nat.le_of_eq g122.symm)
  have sz_b122 : h0.size ≤ b122 := Nat.le_trans (Keep.refl h0 []).1 (Nat.le_of_eq g122.symm)
  have K122 := (Keep.refl h0 []).ext E122
  have Z122 : n0 ≤ h122.size := Nat.le_trans Z0 E122.1
  have F_scale_b122 : Fld Z h122 b122 "com/example/retiremetric/retiremetric/engine/Mean" "scale" "D" (.double 0) := D122 (Or.inl (hw _ (List.mem_of_getElem? (i := 11) rfl))) (ty := .double) (by decide)
  have F_count_b122 : Fld Z h122 b122 "com/example/retiremetric/retiremetric/engine/Mean" "count" "J" (.long (0 : Int64)) := D122 (Or.inl (hw _ (List.mem_of_getElem? (i := 27) rfl))) (ty := .long) (by decide)
  have F_first_b122 : Fld Z h122 b122 "com/example/retiremetric/retiremetric/engine/Mean" "first" "D" (.double 0) := D122 (Or.inl (hw _ (List.mem_of_getElem? (i := 29) rfl))) (ty := .double) (by decide)
  have F_scaledFirst_b122 : Fld Z h122 b122 "com/example/retiremetric/retiremetric/engine/Mean" "scaledFirst" "D" (.double 0) := D122 (Or.inl (hw _ (List.mem_of_getElem? (i := 31) rfl))) (ty := .double) (by decide)
  have F_differences_b122 : Fld Z h122 b122 "com/example/retiremetric/retiremetric/engine/Mean" "differences" "D" (.double 0) := D122 (Or.inl (hw _ (List.mem_of_getElem? (i := 33) rfl))) (ty := .double) (by decide)
  have F_infinities_b122 : Fld Z h122 b122 "com/example/retiremetric/retiremetric/engine/Mean" "infinities" "D" (.double 0) := D122 (Or.inl (hw _ (List.mem_of_getElem? (i := 40) rfl))) (ty := .double) (by decide)
  obtain ⟨_, _, ⟨T123, L123, k123, n123⟩, -, X123, ⟨Lc123, hQ123, l123, y123, z123⟩, st123⟩ := X122.specialBack hx (y := (⟨"com/example/retiremetric/retiremetric/engine/Mean", "<init>", "()V"⟩ : MethodName)) rfl hown (mvT hZ (hw _ (List.mem_of_getElem? (i := 4) rfl))) (mvT hZ (hw _ (List.mem_of_getElem? (i := 5) rfl))) (mvT hZ (hw _ (List.mem_of_getElem? (i := 6) rfl))) (by decide) (backOf (W := 1) (rm1 l Z a0 hw [] b122 h122 n0 Z122 g_b122 ⟨E_b122, F_first_b122, F_scale_b122, F_scaledFirst_b122, F_differences_b122, F_infinities_b122, F_count_b122⟩) hZ (hw _ (List.mem_of_getElem? (i := 6) rfl)) (hw _ (List.mem_of_getElem? (i := 3) rfl)) (by decide) (by decide)) (g := (mkF m 161 #[.val (.int q1), .val (.int q2), .val (.int q3), .val (.int q4), .val (.int sel), .val (.int nfl), .val (.int (kF sel)), .val (.int (psF sel)), .val (.double (pF sel)), .second, .val (.int (nF q1)), .val (.int (nkF sel q1 q2)), .val (.int (nkF sel q1 q3)), .val (.int (nF q4)), .val (.int (moF nfl)), .val (.int (wF nfl)), .val (.int (ffF nfl)), .val (.double (iV nfl)), .second, .unset, .unset, .unset, .unset, .unset, .unset, .unset] [(.ref b122), (.ref b122)])) rfl (by rw [hml]; rfl) (Steps.refl _) (a := b122) (argsL := []) (rest := [(.ref b122)]) (lenOf pd_0 rfl) rfl (by show 2 * 0 + _ ≤ _; exact Nat.le_of_eq rfl) (hb hby at_161) (fun _ _ => ⟨rfl, e122, (by decide : 1 + 0 ≤ _), (by decide : 6 + 0 ≤ _)⟩)
  dsimp only [Pt.U, Pt.locs, Pt.cells, Pt.slots] at X123 l123 y123 z123 st123 hQ123
  subst l123 y123 z123
  obtain ⟨rfl, N123q, K123q, M123⟩ := hQ123
  have N123 := Fr.app N0 N123q
  have Z123 : n0 ≤ T123.heap.size := Nat.le_trans Z122 K123q.1
  obtain ⟨cq124, kq124, q124a, q124b, q124c⟩ := isOf hZ rfl M123.1
  obtain ⟨_, _, ⟨T124, L124, k124, n124⟩, -, X124, ⟨Lc124, hQ124, l124, y124, z124⟩, st124⟩ := X123.virtualBack hx (y := (⟨"com/example/retiremetric/retiremetric/engine/Mean", "add", "(D)V"⟩ : MethodName)) (z := (⟨"com/example/retiremetric/retiremetric/engine/Mean", "add", "(D)V"⟩ : MethodName)) hown (mvT hZ (hw _ (List.mem_of_getElem? (i := 12) rfl))) (mvT hZ (hw _ (List.mem_of_getElem? (i := 13) rfl))) (notFace_of_selects (args := #[]) (mvT hZ (hw _ (List.mem_of_getElem? (i := 15) rfl)))) (mvT hZ (hw _ (List.mem_of_getElem? (i := 15) rfl))) (mvT hZ (hw _ (List.mem_of_getElem? (i := 14) rfl))) (by decide) (backOf (W := 0) (rm3_I l Z a0 hw [] b122 (iV nfl) 0 FP.dconst1 0 0 0 0 T123.heap n0 Z123 g_b122 M123 hin1 hin2 hin3) hZ (hw _ (List.mem_of_getElem? (i := 16) rfl)) (hw _ (List.mem_of_getElem? (i := 3) rfl)) (by decide) (by decide)) q124a q124c (g := (mkF m 180 #[.val (.int q1), .val (.int q2), .val (.int q3), .val (.int q4), .val (.int sel), .val (.int nfl), .val (.int (kF sel)), .val (.int (psF sel)), .val (.double (pF sel)), .second, .val (.int (nF q1)), .val (.int (nkF sel q1 q2)), .val (.int (nkF sel q1 q3)), .val (.int (nF q4)), .val (.int (moF nfl)), .val (.int (wF nfl)), .val (.int (ffF nfl)), .val (.double (iV nfl)), .second, .val (.ref b122), .unset, .unset, .unset, .unset, .unset, .unset] [(.double (iV nfl)), (.ref b122)])) rfl (by rw [hml]; rfl) (Steps.refl _) (argsL := [(.double (iV nfl))]) (rest := []) (lenOf pd_1 rfl) rfl (by show 2 * 0 + _ ≤ _; exact Nat.le_of_eq rfl) (hb hby at_180) (fun _ _ => ⟨rfl, rfl, (by decide : 1 + 0 ≤ _), (by decide : 6 + 0 ≤ _)⟩)
  dsimp only [Pt.U, Pt.locs, Pt.cells, Pt.slots] at X124 l124 y124 z124 st124 hQ124
  subst l124 y124 z124
  obtain ⟨rfl, N124q, K124q, M124⟩ := hQ124
  have N124 := Fr.app N123 N124q
  have Z124 : n0 ≤ T124.heap.size := Nat.le_trans Z123 K124q.1
  obtain ⟨cq125, kq125, q125a, q125b, q125c⟩ := isOf hZ rfl M124.1
  obtain ⟨_, _, ⟨T125, L125, k125, n125⟩, -, X125, ⟨Lc125, hQ125, l125, y125, z125⟩, st125⟩ := X124.virtualBack hx (y := (⟨"com/example/retiremetric/retiremetric/engine/Mean", "add", "(D)V"⟩ : MethodName)) (z := (⟨"com/example/retiremetric/retiremetric/engine/Mean", "add", "(D)V"⟩ : MethodName)) hown (mvT hZ (hw _ (List.mem_of_getElem? (i := 12) rfl))) (mvT hZ (hw _ (List.mem_of_getElem? (i := 13) rfl))) (notFace_of_selects (args := #[]) (mvT hZ (hw _ (List.mem_of_getElem? (i := 15) rfl)))) (mvT hZ (hw _ (List.mem_of_getElem? (i := 15) rfl))) (mvT hZ (hw _ (List.mem_of_getElem? (i := 14) rfl))) (by decide) (backOf (W := 0) (rm3_fin l Z a0 hw [] b122 (FP.dmul (FP.i2d (nF q1)) (pF sel)) 0 FP.dconst1 0 0 (FP.dadd 0 (iV nfl)) (0 + (1 : Int64)) U 0 0 (nF q1).toInt 0 T124.heap n0 Z124 g_b122 M124 hU hU2 d1 mv0 (by omega) (by omega) (by omega) (by omega) (by decide)) hZ (hw _ (List.mem_of_getElem? (i := 16) rfl)) (hw _ (List.mem_of_getElem? (i := 3) rfl)) (by decide) (by decide)) q125a q125c (g := (mkF m 191 #[.val (.int q1), .val (.int q2), .val (.int q3), .val (.int q4), .val (.int sel), .val (.int nfl), .val (.int (kF sel)), .val (.int (psF sel)), .val (.double (pF sel)), .second, .val (.int (nF q1)), .val (.int (nkF sel q1 q2)), .val (.int (nkF sel q1 q3)), .val (.int (nF q4)), .val (.int (moF nfl)), .val (.int (wF nfl)), .val (.int (ffF nfl)), .val (.double (iV nfl)), .second, .val (.ref b122), .unset, .unset, .unset, .unset, .unset, .unset] [(.double (FP.dmul (FP.i2d (nF q1)) (pF sel))), (.ref b122)])) rfl (by rw [hml]; rfl) (Steps.refl _) (argsL := [(.double (FP.dmul (FP.i2d (nF q1)) (pF sel)))]) (rest := []) (lenOf pd_1 rfl) rfl (by show 2 * 0 + _ ≤ _; exact Nat.le_of_eq rfl) (hb hby at_191) (fun _ _ => ⟨rfl, rfl, (by decide : 1 + 0 ≤ _), (by decide : 6 + 0 ≤ _)⟩)
  dsimp only [Pt.U, Pt.locs, Pt.cells, Pt.slots] at X125 l125 y125 z125 st125 hQ125
  subst l125 y125 z125
  obtain ⟨x125, f125, sc125, sf125, df125, V125, rfl, N125q, K125q, M125⟩ := hQ125
  have N125 := Fr.app N124 N125q
  have Z125 : n0 ≤ T125.heap.size := Nat.le_trans Z124 K125q.1
  obtain ⟨cq126, kq126, q126a, q126b, q126c⟩ := isOf hZ rfl M125.1
  obtain ⟨_, _, ⟨T126, L126, k126, n126⟩, -, X126, ⟨Lc126, hQ126, l126, y126, z126⟩, st126⟩ := X125.virtualBack hx (y := (⟨"com/example/retiremetric/retiremetric/engine/Mean", "add", "(D)V"⟩ : MethodName)) (z := (⟨"com/example/retiremetric/retiremetric/engine/Mean", "add", "(D)V"⟩ : MethodName)) hown (mvT hZ (hw _ (List.mem_of_getElem? (i := 12) rfl))) (mvT hZ (hw _ (List.mem_of_getElem? (i := 13) rfl))) (notFace_of_selects (args := #[]) (mvT hZ (hw _ (List.mem_of_getElem? (i := 15) rfl)))) (mvT hZ (hw _ (List.mem_of_getElem? (i := 15) rfl))) (mvT hZ (hw _ (List.mem_of_getElem? (i := 14) rfl))) (by decide) (backOf (W := 0) (rm3_fin l Z a0 hw [] b122 (FP.dmul (FP.i2d (nkF sel q1 q2)) (pF sel)) f125 sc125 sf125 df125 (FP.dadd 0 (iV nfl)) ((0 + (1 : Int64)) + (1 : Int64)) U 0 (0 + ((nF q1).toInt - 0)) (nkF sel q1 q2).toInt x125 T125.heap n0 Z125 g_b122 M125 hU hU2 d2 V125 (by omega) (by omega) (by omega) (by omega) (by decide)) hZ (hw _ (List.mem_of_getElem? (i := 16) rfl)) (hw _ (List.mem_of_getElem? (i := 3) rfl)) (by decide) (by decide)) q126a q126c (g := (mkF m 208 #[.val (.int q1), .val (.int q2), .val (.int q3), .val (.int q4), .val (.int sel), .val (.int nfl), .val (.int (kF sel)), .val (.int (psF sel)), .val (.double (pF sel)), .second, .val (.int (nF q1)), .val (.int (nkF sel q1 q2)), .val (.int (nkF sel q1 q3)), .val (.int (nF q4)), .val (.int (moF nfl)), .val (.int (wF nfl)), .val (.int (ffF nfl)), .val (.double (iV nfl)), .second, .val (.ref b122), .unset, .unset, .unset, .unset, .unset, .unset] [(.double (FP.dmul (FP.i2d (nkF sel q1 q2)) (pF sel))), (.ref b122)])) rfl (by rw [hml]; rfl) (Steps.refl _) (argsL := [(.double (FP.dmul (FP.i2d (nkF sel q1 q2)) (pF sel)))]) (rest := []) (lenOf pd_1 rfl) rfl (by show 2 * 0 + _ ≤ _; exact Nat.le_of_eq rfl) (hb hby at_208) (fun _ _ => ⟨rfl, rfl, (by decide : 1 + 0 ≤ _), (by decide : 6 + 0 ≤ _)⟩)
  dsimp only [Pt.U, Pt.locs, Pt.cells, Pt.slots] at X126 l126 y126 z126 st126 hQ126
  subst l126 y126 z126
  obtain ⟨x126, f126, sc126, sf126, df126, V126, rfl, N126q, K126q, M126⟩ := hQ126
  have N126 := Fr.app N125 N126q
  have Z126 : n0 ≤ T126.heap.size := Nat.le_trans Z125 K126q.1
  obtain ⟨cq127, kq127, q127a, q127b, q127c⟩ := isOf hZ rfl M126.1
  obtain ⟨_, _, ⟨T127, L127, k127, n127⟩, -, X127, ⟨Lc127, hQ127, l127, y127, z127⟩, st127⟩ := X126.virtualBack hx (y := (⟨"com/example/retiremetric/retiremetric/engine/Mean", "mean", "()D"⟩ : MethodName)) (z := (⟨"com/example/retiremetric/retiremetric/engine/Mean", "mean", "()D"⟩ : MethodName)) hown (mvT hZ (hw _ (List.mem_of_getElem? (i := 34) rfl))) (mvT hZ (hw _ (List.mem_of_getElem? (i := 35) rfl))) (notFace_of_selects (args := #[]) (mvT hZ (hw _ (List.mem_of_getElem? (i := 37) rfl)))) (mvT hZ (hw _ (List.mem_of_getElem? (i := 37) rfl))) (mvT hZ (hw _ (List.mem_of_getElem? (i := 36) rfl))) (by decide) (backOf (W := 0) (rm6_I l Z a0 hw [] b122 f126 sc126 sf126 df126 (FP.dadd 0 (iV nfl)) (((0 + (1 : Int64)) + (1 : Int64)) + (1 : Int64)) T126.heap n0 Z126 M126 (by decide) hin4) hZ (hw _ (List.mem_of_getElem? (i := 38) rfl)) (hw _ (List.mem_of_getElem? (i := 3) rfl)) (by decide) (by decide)) q127a q127c (g := (mkF m 264 #[.val (.int q1), .val (.int q2), .val (.int q3), .val (.int q4), .val (.int sel), .val (.int nfl), .val (.int (kF sel)), .val (.int (psF sel)), .val (.double (pF sel)), .second, .val (.int (nF q1)), .val (.int (nkF sel q1 q2)), .val (.int (nkF sel q1 q3)), .val (.int (nF q4)), .val (.int (moF nfl)), .val (.int (wF nfl)), .val (.int (ffF nfl)), .val (.double (iV nfl)), .second, .val (.ref b122), .unset, .unset, .unset, .unset, .unset, .unset] [(.ref b122)])) rfl (by rw [hml]; rfl) (Steps.refl _) (argsL := []) (rest := []) (lenOf pd_4 rfl) rfl (by show 2 * 0 + _ ≤ _; exact Nat.le_of_eq rfl) (hb hby at_264) (fun _ _ => ⟨rfl, rfl, (by decide : 1 + 0 ≤ _), (by decide : 6 + 0 ≤ _)⟩)
  dsimp only [Pt.U, Pt.locs, Pt.cells, Pt.slots] at X127 l127 y127 z127 st127 hQ127
  subst l127 y127 z127
  obtain ⟨rfl, N127q, e127⟩ := hQ127
  have N127 := Fr.app N126 N127q
  obtain ⟨fs, hr, hrun, hended, hW, hsame⟩ := X127.leave (v := some (.int (1 : Int32))) (fun h => by rw [Bd.returns] at h; cases h)
  refine ⟨_, _, pre0 _ ?_, hrun, hended, _, _, rfl, ?_, ⟨_, rfl⟩, hW, hsame.mono (by decide) (by decide)⟩
  · refine sg1 q1 q2 q3 q4 sel nfl X0 hx hZ hw hby hown ?_
    refine sg2 q1 q2 q3 q4 sel nfl X0 hx hZ hw hby hown ?_
    refine sg3 q1 q2 q3 q4 sel nfl X0 hx hZ hw hby hown ?_
    refine sg4 q1 q2 q3 q4 sel nfl X0 hx hZ hw hby hown ?_
    refine sg5 q1 q2 q3 q4 sel nfl X0 hx hZ hw hby hown ?_
    refine sg6 q1 q2 q3 q4 sel nfl X0 hx hZ hw hby hown ?_
    show Steps p.tables e below (s₁.setTop (mkF m 157 #[.val (.int q1), .val (.int q2), .val (.int q3), .val (.int q4), .val (.int sel), .val (.int nfl), .val (.int (kF sel)), .val (.int (psF sel)), .val (.double (pF sel)), .second, .val (.int (nF q1)), .val (.int (nkF sel q1 q2)), .val (.int (nkF sel q1 q3)), .val (.int (nF q4)), .val (.int (moF nfl)), .val (.int (wF nfl)), .val (.int (ffF nfl)), .val (.double (iV nfl)), .second, .unset, .unset, .unset, .unset, .unset, .unset, .unset] [])) _
    refine st122 _ ?_
    refine XS.dup X122.here hx rfl (hb hby at_160) rfl rfl ?_
    show Steps p.tables e below (T122.setTop (mkF m 161 #[.val (.int q1), .val (.int q2), .val (.int q3), .val (.int q4), .val (.int sel), .val (.int nfl), .val (.int (kF sel)), .val (.int (psF sel)), .val (.double (pF sel)), .second, .val (.int (nF q1)), .val (.int (nkF sel q1 q2)), .val (.int (nkF sel q1 q3)), .val (.int (nF q4)), .val (.int (moF nfl)), .val (.int (wF nfl)), .val (.int (ffF nfl)), .val (.double (iV nfl)), .second, .unset, .unset, .unset, .unset, .unset, .unset, .unset] [(.ref b122), (.ref b122)])) _
    refine st123.trans ?_
    refine XS.astore X123.here hx rfl (hb hby at_164) rfl rfl (l' := #[.val (.int q1), .val (.int q2), .val (.int q3), .val (.int q4), .val (.int sel), .val (.int nfl), .val (.int (kF sel)), .val (.int (psF sel)), .val (.double (pF sel)), .second, .val (.int (nF q1)), .val (.int (nkF sel q1 q2)), .val (.int (nkF sel q1 q3)), .val (.int (nF q4)), .val (.int (moF nfl)), .val (.int (wF nfl)), .val (.int (ffF nfl)), .val (.double (iV nfl)), .second, .val (.ref b122), .unset, .unset, .unset, .unset, .unset, .unset]) rfl ?_
    refine XS.iload X123.here hx rfl (hb hby at_166) rfl ?_
    refine XS.ifNo X123.here hx rfl (hb hby at_168) rfl ((if0 _ _).trans (feq hc168).1) ?_
    show Steps p.tables e below (T123.setTop (mkF m 171 #[.val (.int q1), .val (.int q2), .val (.int q3), .val (.int q4), .val (.int sel), .val (.int nfl), .val (.int (kF sel)), .val (.int (psF sel)), .val (.double (pF sel)), .second, .val (.int (nF q1)), .val (.int (nkF sel q1 q2)), .val (.int (nkF sel q1 q3)), .val (.int (nF q4)), .val (.int (moF nfl)), .val (.int (wF nfl)), .val (.int (ffF nfl)), .val (.double (iV nfl)), .second, .val (.ref b122), .unset, .unset, .unset, .unset, .unset, .unset] [])) _
    refine XS.iload X123.here hx rfl (hb hby at_171) rfl ?_
    refine XS.ifNo X123.here hx rfl (hb hby at_173) rfl ((if0 _ _).trans (feq hc173).1) ?_
    refine XS.aload X123.here hx rfl (hb hby at_176) rfl rfl ?_
    refine XS.dload X123.here hx rfl (hb hby at_178) rfl ?_
    show Steps p.tables e below (T123.setTop (mkF m 180 #[.val (.int q1), .val (.int q2), .val (.int q3), .val (.int q4), .val (.int sel), .val (.int nfl), .val (.int (kF sel)), .val (.int (psF sel)), .val (.double (pF sel)), .second, .val (.int (nF q1)), .val (.int (nkF sel q1 q2)), .val (.int (nkF sel q1 q3)), .val (.int (nF q4)), .val (.int (moF nfl)), .val (.int (wF nfl)), .val (.int (ffF nfl)), .val (.double (iV nfl)), .second, .val (.ref b122), .unset, .unset, .unset, .unset, .unset, .unset] [(.double (iV nfl)), (.ref b122)])) _
    refine st124.trans ?_
    refine XS.aload X124.here hx rfl (hb hby at_183) rfl rfl ?_
    refine XS.iload X124.here hx rfl (hb hby at_185) rfl ?_
    refine XS.i2dS X124.here hx rfl (hb hby at_187) rfl rfl ?_
    show Steps p.tables e below (T124.setTop (mkF m 188 #[.val (.int q1), .val (.int q2), .val (.int q3), .val (.int q4), .val (.int sel), .val (.int nfl), .val (.int (kF sel)), .val (.int (psF sel)), .val (.double (pF sel)), .second, .val (.int (nF q1)), .val (.int (nkF sel q1 q2)), .val (.int (nkF sel q1 q3)), .val (.int (nF q4)), .val (.int (moF nfl)), .val (.int (wF nfl)), .val (.int (ffF nfl)), .val (.double (iV nfl)), .second, .val (.ref b122), .unset, .unset, .unset, .unset, .unset, .unset] [(.double (FP.i2d (nF q1))), (.ref b122)])) _
    refine XS.dload X124.here hx rfl (hb hby at_188) rfl ?_
    refine XS.dmulS X124.here hx rfl (hb hby at_190) rfl hnan190 rfl ?_
    show Steps p.tables e below (T124.setTop (mkF m 191 #[.val (.int q1), .val (.int q2), .val (.int q3), .val (.int q4), .val (.int sel), .val (.int nfl), .val (.int (kF sel)), .val (.int (psF sel)), .val (.double (pF sel)), .second, .val (.int (nF q1)), .val (.int (nkF sel q1 q2)), .val (.int (nkF sel q1 q3)), .val (.int (nF q4)), .val (.int (moF nfl)), .val (.int (wF nfl)), .val (.int (ffF nfl)), .val (.double (iV nfl)), .second, .val (.ref b122), .unset, .unset, .unset, .unset, .unset, .unset] [(.double (FP.dmul (FP.i2d (nF q1)) (pF sel))), (.ref b122)])) _
    refine st125.trans ?_
    refine XS.iload X125.here hx rfl (hb hby at_194) rfl ?_
    refine XS.iconst X125.here hx rfl (hb hby at_196) ?_
    refine XS.icmpNo X125.here hx rfl (hb hby at_197) rfl (flt hc197).1 ?_
    show Steps p.tables e below (T125.setTop (mkF m 200 #[.val (.int q1), .val (.int q2), .val (.int q3), .val (.int q4), .val (.int sel), .val (.int nfl), .val (.int (kF sel)), .val (.int (psF sel)), .val (.double (pF sel)), .second, .val (.int (nF q1)), .val (.int (nkF sel q1 q2)), .val (.int (nkF sel q1 q3)), .val (.int (nF q4)), .val (.int (moF nfl)), .val (.int (wF nfl)), .val (.int (ffF nfl)), .val (.double (iV nfl)), .second, .val (.ref b122), .unset, .unset, .unset, .unset, .unset, .unset] [])) _
    refine XS.aload X125.here hx rfl (hb hby at_200) rfl rfl ?_
    refine XS.iload X125.here hx rfl (hb hby at_202) rfl ?_
    refine XS.i2dS X125.here hx rfl (hb hby at_204) rfl rfl ?_
    refine XS.dload X125.here hx rfl (hb hby at_205) rfl ?_
    show Steps p.tables e below (T125.setTop (mkF m 207 #[.val (.int q1), .val (.int q2), .val (.int q3), .val (.int q4), .val (.int sel), .val (.int nfl), .val (.int (kF sel)), .val (.int (psF sel)), .val (.double (pF sel)), .second, .val (.int (nF q1)), .val (.int (nkF sel q1 q2)), .val (.int (nkF sel q1 q3)), .val (.int (nF q4)), .val (.int (moF nfl)), .val (.int (wF nfl)), .val (.int (ffF nfl)), .val (.double (iV nfl)), .second, .val (.ref b122), .unset, .unset, .unset, .unset, .unset, .unset] [(.double (pF sel)), (.double (FP.i2d (nkF sel q1 q2))), (.ref b122)])) _
    refine XS.dmulS X125.here hx rfl (hb hby at_207) rfl hnan207 rfl ?_
    show Steps p.tables e below (T125.setTop (mkF m 208 #[.val (.int q1), .val (.int q2), .val (.int q3), .val (.int q4), .val (.int sel), .val (.int nfl), .val (.int (kF sel)), .val (.int (psF sel)), .val (.double (pF sel)), .second, .val (.int (nF q1)), .val (.int (nkF sel q1 q2)), .val (.int (nkF sel q1 q3)), .val (.int (nF q4)), .val (.int (moF nfl)), .val (.int (wF nfl)), .val (.int (ffF nfl)), .val (.double (iV nfl)), .second, .val (.ref b122), .unset, .unset, .unset, .unset, .unset, .unset] [(.double (FP.dmul (FP.i2d (nkF sel q1 q2)) (pF sel))), (.ref b122)])) _
    refine st126.trans ?_
    refine XS.iload X126.here hx rfl (hb hby at_211) rfl ?_
    refine XS.iconst X126.here hx rfl (hb hby at_213) ?_
    refine XS.icmpYes X126.here hx rfl (pc0 := 214) (pc' := 228) rfl (hb hby at_214) rfl (tlt hc214).1 (by decide) (by decide) ?_
    show Steps p.tables e below (T126.setTop (mkF m 228 #[.val (.int q1), .val (.int q2), .val (.int q3), .val (.int q4), .val (.int sel), .val (.int nfl), .val (.int (kF sel)), .val (.int (psF sel)), .val (.double (pF sel)), .second, .val (.int (nF q1)), .val (.int (nkF sel q1 q2)), .val (.int (nkF sel q1 q3)), .val (.int (nF q4)), .val (.int (moF nfl)), .val (.int (wF nfl)), .val (.int (ffF nfl)), .val (.double (iV nfl)), .second, .val (.ref b122), .unset, .unset, .unset, .unset, .unset, .unset] [])) _
    refine XS.iload X126.here hx rfl (hb hby at_228) rfl ?_
    refine XS.iconst X126.here hx rfl (hb hby at_230) ?_
    refine XS.icmpYes X126.here hx rfl (pc0 := 231) (pc' := 245) rfl (hb hby at_231) rfl (tlt hc231).1 (by decide) (by decide) ?_
    refine XS.iload X126.here hx rfl (hb hby at_245) rfl ?_
    show Steps p.tables e below (T126.setTop (mkF m 247 #[.val (.int q1), .val (.int q2), .val (.int q3), .val (.int q4), .val (.int sel), .val (.int nfl), .val (.int (kF sel)), .val (.int (psF sel)), .val (.double (pF sel)), .second, .val (.int (nF q1)), .val (.int (nkF sel q1 q2)), .val (.int (nkF sel q1 q3)), .val (.int (nF q4)), .val (.int (moF nfl)), .val (.int (wF nfl)), .val (.int (ffF nfl)), .val (.double (iV nfl)), .second, .val (.ref b122), .unset, .unset, .unset, .unset, .unset, .unset] [(.int (wF nfl))])) _
    refine XS.ifNo X126.here hx rfl (hb hby at_247) rfl ((if0 _ _).trans (feq hc247).1) ?_
    refine XS.iload X126.here hx rfl (hb hby at_250) rfl ?_
    refine XS.ifYes X126.here hx rfl (pc0 := 252) (pc' := 262) rfl (hb hby at_252) rfl ((if0 _ _).trans (feq hc252).2) (by decide) (by decide) ?_
    refine XS.aload X126.here hx rfl (hb hby at_262) rfl rfl ?_
    show Steps p.tables e below (T126.setTop (mkF m 264 #[.val (.int q1), .val (.int q2), .val (.int q3), .val (.int q4), .val (.int sel), .val (.int nfl), .val (.int (kF sel)), .val (.int (psF sel)), .val (.double (pF sel)), .second, .val (.int (nF q1)), .val (.int (nkF sel q1 q2)), .val (.int (nkF sel q1 q3)), .val (.int (nF q4)), .val (.int (moF nfl)), .val (.int (wF nfl)), .val (.int (ffF nfl)), .val (.double (iV nfl)), .second, .val (.ref b122), .unset, .unset, .unset, .unset, .unset, .unset] [(.ref b122)])) _
    refine st127.trans ?_
    refine XS.dstore X127.here hx rfl (hb hby at_267) rfl (l' := #[.val (.int q1), .val (.int q2), .val (.int q3), .val (.int q4), .val (.int sel), .val (.int nfl), .val (.int (kF sel)), .val (.int (psF sel)), .val (.double (pF sel)), .second, .val (.int (nF q1)), .val (.int (nkF sel q1 q2)), .val (.int (nkF sel q1 q3)), .val (.int (nF q4)), .val (.int (moF nfl)), .val (.int (wF nfl)), .val (.int (ffF nfl)), .val (.double (iV nfl)), .second, .val (.ref b122), .val (.double (FP.dadd 0 (iV nfl))), .second, .unset, .unset, .unset, .unset]) rfl ?_
    refine XS.iload X127.here hx rfl (hb hby at_269) rfl ?_
    refine XS.ifNo X127.here hx rfl (hb hby at_271) rfl ((if0 _ _).trans (feq hc271).1) ?_
    show Steps p.tables e below (T127.setTop (mkF m 274 #[.val (.int q1), .val (.int q2), .val (.int q3), .val (.int q4), .val (.int sel), .val (.int nfl), .val (.int (kF sel)), .val (.int (psF sel)), .val (.double (pF sel)), .second, .val (.int (nF q1)), .val (.int (nkF sel q1 q2)), .val (.int (nkF sel q1 q3)), .val (.int (nF q4)), .val (.int (moF nfl)), .val (.int (wF nfl)), .val (.int (ffF nfl)), .val (.double (iV nfl)), .second, .val (.ref b122), .val (.double (FP.dadd 0 (iV nfl))), .second, .unset, .unset, .unset, .unset] [])) _
    refine XS.dload X127.here hx rfl (hb hby at_274) rfl ?_
    refine XS.dload X127.here hx rfl (hb hby at_276) rfl ?_
    refine XS.dcmpS X127.here hx rfl (hb hby at_278) rfl rfl ?_
    refine XS.ifNo X127.here hx rfl (hb hby at_279) rfl ((if0 _ _).trans (teq hc279).2) ?_
    show Steps p.tables e below (T127.setTop (mkF m 282 #[.val (.int q1), .val (.int q2), .val (.int q3), .val (.int q4), .val (.int sel), .val (.int nfl), .val (.int (kF sel)), .val (.int (psF sel)), .val (.double (pF sel)), .second, .val (.int (nF q1)), .val (.int (nkF sel q1 q2)), .val (.int (nkF sel q1 q3)), .val (.int (nF q4)), .val (.int (moF nfl)), .val (.int (wF nfl)), .val (.int (ffF nfl)), .val (.double (iV nfl)), .second, .val (.ref b122), .val (.double (FP.dadd 0 (iV nfl))), .second, .unset, .unset, .unset, .unset] [])) _
    refine XS.iconst X127.here hx rfl (hb hby at_282) ?_
    refine XS.goto X127.here hx rfl (pc0 := 283) (pc' := 287) rfl (hb hby at_283) (by decide) (by decide) ?_
    show Steps p.tables e below (T127.setTop (mkF m 287 #[.val (.int q1), .val (.int q2), .val (.int q3), .val (.int q4), .val (.int sel), .val (.int nfl), .val (.int (kF sel)), .val (.int (psF sel)), .val (.double (pF sel)), .second, .val (.int (nF q1)), .val (.int (nkF sel q1 q2)), .val (.int (nkF sel q1 q3)), .val (.int (nF q4)), .val (.int (moF nfl)), .val (.int (wF nfl)), .val (.int (ffF nfl)), .val (.double (iV nfl)), .second, .val (.ref b122), .val (.double (FP.dadd 0 (iV nfl))), .second, .unset, .unset, .unset, .unset] [(.int (1 : Int32))])) _
    exact retN X127 hx (t := .boolean) Bd.returns (by simp) (hb hby at_287) hr
  · show Q0  h0 n0 _ T127.heap _
    exact ⟨rfl, N127⟩
set_option maxRecDepth 65536 in
set_option maxHeartbeats 40000000 in
theorem rm0_l2 (l : Launch) (Z : State) (a0 : Array Value) (hw : ∀ d ∈ tables_1, d.before a0 Z = true) (ws : List Jvm.Cond) (q1 : Int32) (q2 : Int32) (q3 : Int32) (q4 : Int32) (sel : Int32) (nfl : Int32) (U : Nat) (h0 : Heap) (n0 : Nat) (Z0 : n0 ≤ h0.size) (hU : 74 ≤ U ∧ U ≤ 2074) (hU2 : U = 2074 ∨ U ≤ 1074) (hp : DV 1 U (pF sel)) (d1 : DV (nF q1).toInt U (FP.dmul (FP.i2d (nF q1)) (pF sel))) (r1 : -8388608 ≤ (nF q1).toInt ∧ (nF q1).toInt ≤ 8388607) (d2 : DV (nkF sel q1 q2).toInt U (FP.dmul (FP.i2d (nkF sel q1 q2)) (pF sel))) (r2 : -8388608 ≤ (nkF sel q1 q2).toInt ∧ (nkF sel q1 q2).toInt ≤ 8388607) (hin1 : Jvm.Free.Fl.NoNaN64 (iV nfl)) (hin2 : ¬ ((infF (iV nfl)) = (0 : Int32))) (hin3 : Jvm.Free.Fl.NoNaN64 (FP.dadd 0 (iV nfl))) (hin4 : ¬ ((cmpValue (FP.dcmp (FP.dadd 0 (iV nfl)) FP.dconst0) .l) = (0 : Int32))) (hc168 : ¬ ((wF nfl) = (0 : Int32))) (hc173 : (ffF nfl) = (0 : Int32)) (hnan190 : Jvm.Free.Fl.NoNaN64 (FP.dmul (FP.i2d (nF q1)) (pF sel))) (hc197 : ¬ ((kF sel) < (2 : Int32))) (hnan207 : Jvm.Free.Fl.NoNaN64 (FP.dmul (FP.i2d (nkF sel q1 q2)) (pF sel))) (hc214 : (kF sel) < (3 : Int32)) (hc231 : (kF sel) < (4 : Int32)) (hc247 : ¬ ((wF nfl) = (0 : Int32))) (hc252 : (ffF nfl) = (0 : Int32)) (hc271 : ¬ ((wF nfl) = (0 : Int32))) (hc279 : (cmpValue (FP.dcmp (FP.dadd 0 (iV nfl)) (iV nfl)) .l) = (0 : Int32)) :
    MetFree l x (head1 (Jvm.Cond.code x code maxLocals ret :: ws) room_1) (fun aa_ U_ => aa_ = #[(.int q1), (.int q2), (.int q3), (.int q4), (.int sel), (.int nfl)] ∧ Z.Warmed39 U_.vm ∧ U_.heap = h0) (fun _ _ _ _ _ => True) (fun _ U_ o_ V_ => ∃ v_ L_, o_ = .returned v_ ∧ Q0  h0 n0 v_ V_.heap L_ ∧ FrameEnd U_ o_ V_ L_ room_1.cells room_1.slots) := by
  refine MetFree.of_bodySF (plainFor_of_name pn_0) hisR ?_
  intro p e s m args below meth c s₁ Bd hml0 hP hK
  obtain ⟨rfl, hZ, hh⟩ := hP
  have hx := Bd.exec
  have hby := Bd.bytes
  have hml : c.maxLocals = 26 := hml0
  have hown : s.vm.findClass "com/example/retiremetric/retiremetric/engine/MeanMeanPinLaw" = some m.cls := findClass_of_methodNamed Bd.named
  have hnm := (name_of_methodNamed Bd.named Bd.method).1
  have X0 : Stand p l e room_1 s m #[(.int q1), (.int q2), (.int q3), (.int q4), (.int sel), (.int nfl)] below meth c s₁ [] 0 0 := Stand.of_body Bd
  have e0 : s₁.heap = h0 := by rw [← hh, Bd.state]; rfl
  have N0 := Fr.nil n0
  have pre0 : ∀ zz, Steps p.tables e below (s₁.setTop (mkF m 0 #[.val (.int q1), .val (.int q2), .val (.int q3), .val (.int q4), .val (.int sel), .val (.int nfl), .unset, .unset, .unset, .unset, .unset, .unset, .unset, .unset, .unset, .unset, .unset, .unset, .unset, .unset, .unset, .unset, .unset, .unset, .unset, .unset] [])) zz → Steps p.tables e below (s₁.setTop (entryFrame m #[(.int q1), (.int q2), (.int q3), (.int q4), (.int sel), (.int nfl)] maxLocals)) zz := fun zz k => castTop (ef_0 m q1 q2 q3 q4 sel nfl) k
  have mv0 : MV U 0 0 0 0 FP.dconst1 0 0 := ⟨by omega, zero_dv _, one_dv, zero_dv _, zero_dv _, by simp⟩
  obtain ⟨T128, h128, X128, e128, E128, A128, D128, -, st128⟩ := newO X0 hx hZ hown (hw _ (List.mem_of_getElem? (i := 1) rfl)) (hw _ (List.mem_of_getElem? (i := 2) rfl)) (hw _ (List.mem_of_getElem? (i := 3) rfl)) e0 (g := (mkF m 157 #[.val (.int q1), .val (.int q2), .val (.int q3), .val (.int q4), .val (.int sel), .val (.int nfl), .val (.int (kF sel)), .val (.int (psF sel)), .val (.double (pF sel)), .second, .val (.int (nF q1)), .val (.int (nkF sel q1 q2)), .val (.int (nkF sel q1 q3)), .val (.int (nF q4)), .val (.int (moF nfl)), .val (.int (wF nfl)), .val (.int (ffF nfl)), .val (.double (iV nfl)), .second, .unset, .unset, .unset, .unset, .unset, .unset, .unset] [])) rfl (hb hby at_157) (by decide) (by decide)
  obtain ⟨b128, g128⟩ : ∃ z, z = h0.size := ⟨_, rfl⟩
  rw [← g128] at A128 D128 st128
  have E_b128 := A128
  have g_b128 : n0 ≤ b128 := Nat.le_trans Z0 (Nat.le_of_eq g128.symm)
  have sz_b128 : h0.size ≤ b128 := Nat.le_trans (Keep.refl h0 []).1 (Nat.le_of_eq g128.symm)
  have K128 := (Keep.refl h0 []).ext E128
  have Z128 : n0 ≤ h128.size := Nat.le_trans Z0 E128.1
  have F_scale_b128 : Fld Z h128 b128 "com/example/retiremetric/retiremetric/engine/Mean" "scale" "D" (.double 0) := D128 (Or.inl (hw _ (List.mem_of_getElem? (i := 11) rfl))) (ty := .double) (by decide)
  have F_count_b128 : Fld Z h128 b128 "com/example/retiremetric/retiremetric/engine/Mean" "count" "J" (.long (0 : Int64)) := D128 (Or.inl (hw _ (List.mem_of_getElem? (i := 27) rfl))) (ty := .long) (by decide)
  have F_first_b128 : Fld Z h128 b128 "com/example/retiremetric/retiremetric/engine/Mean" "first" "D" (.double 0) := D128 (Or.inl (hw _ (List.mem_of_getElem? (i := 29) rfl))) (ty := .double) (by decide)
  have F_scaledFirst_b128 : Fld Z h128 b128 "com/example/retiremetric/retiremetric/engine/Mean" "scaledFirst" "D" (.double 0) := D128 (Or.inl (hw _ (List.mem_of_getElem? (i := 31) rfl))) (ty := .double) (by decide)
  have F_differences_b128 : Fld Z h128 b128 "com/example/retiremetric/retiremetric/engine/Mean" "differences" "D" (.double 0) := D128 (Or.inl (hw _ (List.mem_of_getElem? (i := 33) rfl))) (ty := .double) (by decide)
  have F_infinities_b128 : Fld Z h128 b128 "com/example/retiremetric/retiremetric/engine/Mean" "infinities" "D" (.double 0) := D128 (Or.inl (hw _ (List.mem_of_getElem? (i := 40) rfl))) (ty := .double) (by decide)
  obtain ⟨_, _, ⟨T129, L129, k129, n129⟩, -, X129, ⟨Lc129, hQ129, l129, y129, z129⟩, st129⟩ := X128.specialBack hx (y := (⟨"com/example/retiremetric/retiremetric/engine/Mean", "<init>", "()V"⟩ : MethodName)) rfl hown (mvT hZ (hw _ (List.mem_of_getElem? (i := 4) rfl))) (mvT hZ (hw _ (List.mem_of_getElem? (i := 5) rfl))) (mvT hZ (hw _ (List.mem_of_getElem? (i := 6) rfl))) (by decide) (backOf (W := 1) (rm1 l Z a0 hw [] b128 h128 n0 Z128 g_b128 ⟨E_b128, F_first_b128, F_scale_b128, F_scaledFirst_b128, F_differences_b128, F_infinities_b128, F_count_b128⟩) hZ (hw _ (List.mem_of_getElem? (i := 6) rfl)) (hw _ (List.mem_of_getElem? (i := 3) rfl)) (by decide) (by decide)) (g := (mkF m 161 #[.val (.int q1), .val (.int q2), .val (.int q3), .val (.int q4), .val (.int sel), .val (.int nfl), .val (.int (kF sel)), .val (.int (psF sel)), .val (.double (pF sel)), .second, .val (.int (nF q1)), .val (.int (nkF sel q1 q2)), .val (.int (nkF sel q1 q3)), .val (.int (nF q4)), .val (.int (moF nfl)), .val (.int (wF nfl)), .val (.int (ffF nfl)), .val (.double (iV nfl)), .second, .unset, .unset, .unset, .unset, .unset, .unset, .unset] [(.ref b128), (.ref b128)])) rfl (by rw [hml]; rfl) (Steps.refl _) (a := b128) (argsL := []) (rest := [(.ref b128)]) (lenOf pd_0 rfl) rfl (by show 2 * 0 + _ ≤ _; exact Nat.le_of_eq rfl) (hb hby at_161) (fun _ _ => ⟨rfl, e128, (by decide : 1 + 0 ≤ _), (by decide : 6 + 0 ≤ _)⟩)
  dsimp only [Pt.U, Pt.locs, Pt.cells, Pt.slots] at X129 l129 y129 z129 st129 hQ129
  subst l129 y129 z129
  obtain ⟨rfl, N129q, K129q, M129⟩ := hQ129
  have N129 := Fr.app N0 N129q
  have Z129 : n0 ≤ T129.heap.size := Nat.le_trans Z128 K129q.1
  obtain ⟨cq130, kq130, q130a, q130b, q130c⟩ := isOf hZ rfl M129.1
  obtain ⟨_, _, ⟨T130, L130, k130, n130⟩, -, X130, ⟨Lc130, hQ130, l130, y130, z130⟩, st130⟩ := X129.virtualBack hx (y := (⟨"com/example/retiremetric/retiremetric/engine/Mean", "add", "(D)V"⟩ : MethodName)) (z := (⟨"com/example/retiremetric/retiremetric/engine/Mean", "add", "(D)V"⟩ : MethodName)) hown (mvT hZ (hw _ (List.mem_of_getElem? (i := 12) rfl))) (mvT hZ (hw _ (List.mem_of_getElem? (i := 13) rfl))) (notFace_of_selects (args := #[]) (mvT hZ (hw _ (List.mem_of_getElem? (i := 15) rfl)))) (mvT hZ (hw _ (List.mem_of_getElem? (i := 15) rfl))) (mvT hZ (hw _ (List.mem_of_getElem? (i := 14) rfl))) (by decide) (backOf (W := 0) (rm3_one l Z a0 hw [] b128 (FP.dmul (FP.i2d (nF q1)) (pF sel)) 0 U (nF q1).toInt T129.heap n0 Z129 g_b128 M129 hU d1 (by omega)) hZ (hw _ (List.mem_of_getElem? (i := 16) rfl)) (hw _ (List.mem_of_getElem? (i := 3) rfl)) (by decide) (by decide)) q130a q130c (g := (mkF m 191 #[.val (.int q1), .val (.int q2), .val (.int q3), .val (.int q4), .val (.int sel), .val (.int nfl), .val (.int (kF sel)), .val (.int (psF sel)), .val (.double (pF sel)), .second, .val (.int (nF q1)), .val (.int (nkF sel q1 q2)), .val (.int (nkF sel q1 q3)), .val (.int (nF q4)), .val (.int (moF nfl)), .val (.int (wF nfl)), .val (.int (ffF nfl)), .val (.double (iV nfl)), .second, .val (.ref b128), .unset, .unset, .unset, .unset, .unset, .unset] [(.double (FP.dmul (FP.i2d (nF q1)) (pF sel))), (.ref b128)])) rfl (by rw [hml]; rfl) (Steps.refl _) (argsL := [(.double (FP.dmul (FP.i2d (nF q1)) (pF sel)))]) (rest := []) (lenOf pd_1 rfl) rfl (by show 2 * 0 + _ ≤ _; exact Nat.le_of_eq rfl) (hb hby at_191) (fun _ _ => ⟨rfl, rfl, (by decide : 1 + 0 ≤ _), (by decide : 6 + 0 ≤ _)⟩)
  dsimp only [Pt.U, Pt.locs, Pt.cells, Pt.slots] at X130 l130 y130 z130 st130 hQ130
  subst l130 y130 z130
  obtain ⟨x130, f130, sc130, sf130, df130, V130, rfl, N130q, K130q, M130⟩ := hQ130
  have N130 := Fr.app N129 N130q
  have Z130 : n0 ≤ T130.heap.size := Nat.le_trans Z129 K130q.1
  obtain ⟨cq131, kq131, q131a, q131b, q131c⟩ := isOf hZ rfl M130.1
  obtain ⟨_, _, ⟨T131, L131, k131, n131⟩, -, X131, ⟨Lc131, hQ131, l131, y131, z131⟩, st131⟩ := X130.virtualBack hx (y := (⟨"com/example/retiremetric/retiremetric/engine/Mean", "add", "(D)V"⟩ : MethodName)) (z := (⟨"com/example/retiremetric/retiremetric/engine/Mean", "add", "(D)V"⟩ : MethodName)) hown (mvT hZ (hw _ (List.mem_of_getElem? (i := 12) rfl))) (mvT hZ (hw _ (List.mem_of_getElem? (i := 13) rfl))) (notFace_of_selects (args := #[]) (mvT hZ (hw _ (List.mem_of_getElem? (i := 15) rfl)))) (mvT hZ (hw _ (List.mem_of_getElem? (i := 15) rfl))) (mvT hZ (hw _ (List.mem_of_getElem? (i := 14) rfl))) (by decide) (backOf (W := 0) (rm3_fin l Z a0 hw [] b128 (FP.dmul (FP.i2d (nkF sel q1 q2)) (pF sel)) f130 sc130 sf130 df130 0 (0 + (1 : Int64)) U (nF q1).toInt 0 (nkF sel q1 q2).toInt x130 T130.heap n0 Z130 g_b128 M130 hU hU2 d2 V130 (by omega) (by omega) (by omega) (by omega) (by decide)) hZ (hw _ (List.mem_of_getElem? (i := 16) rfl)) (hw _ (List.mem_of_getElem? (i := 3) rfl)) (by decide) (by decide)) q131a q131c (g := (mkF m 208 #[.val (.int q1), .val (.int q2), .val (.int q3), .val (.int q4), .val (.int sel), .val (.int nfl), .val (.int (kF sel)), .val (.int (psF sel)), .val (.double (pF sel)), .second, .val (.int (nF q1)), .val (.int (nkF sel q1 q2)), .val (.int (nkF sel q1 q3)), .val (.int (nF q4)), .val (.int (moF nfl)), .val (.int (wF nfl)), .val (.int (ffF nfl)), .val (.double (iV nfl)), .second, .val (.ref b128), .unset, .unset, .unset, .unset, .unset, .unset] [(.double (FP.dmul (FP.i2d (nkF sel q1 q2)) (pF sel))), (.ref b128)])) rfl (by rw [hml]; rfl) (Steps.refl _) (argsL := [(.double (FP.dmul (FP.i2d (nkF sel q1 q2)) (pF sel)))]) (rest := []) (lenOf pd_1 rfl) rfl (by show 2 * 0 + _ ≤ _; exact Nat.le_of_eq rfl) (hb hby at_208) (fun _ _ => ⟨rfl, rfl, (by decide : 1 + 0 ≤ _), (by decide : 6 + 0 ≤ _)⟩)
  dsimp only [Pt.U, Pt.locs, Pt.cells, Pt.slots] at X131 l131 y131 z131 st131 hQ131
  subst l131 y131 z131
  obtain ⟨x131, f131, sc131, sf131, df131, V131, rfl, N131q, K131q, M131⟩ := hQ131
  have N131 := Fr.app N130 N131q
  have Z131 : n0 ≤ T131.heap.size := Nat.le_trans Z130 K131q.1
  obtain ⟨cq132, kq132, q132a, q132b, q132c⟩ := isOf hZ rfl M131.1
  obtain ⟨_, _, ⟨T132, L132, k132, n132⟩, -, X132, ⟨Lc132, hQ132, l132, y132, z132⟩, st132⟩ := X131.virtualBack hx (y := (⟨"com/example/retiremetric/retiremetric/engine/Mean", "add", "(D)V"⟩ : MethodName)) (z := (⟨"com/example/retiremetric/retiremetric/engine/Mean", "add", "(D)V"⟩ : MethodName)) hown (mvT hZ (hw _ (List.mem_of_getElem? (i := 12) rfl))) (mvT hZ (hw _ (List.mem_of_getElem? (i := 13) rfl))) (notFace_of_selects (args := #[]) (mvT hZ (hw _ (List.mem_of_getElem? (i := 15) rfl)))) (mvT hZ (hw _ (List.mem_of_getElem? (i := 15) rfl))) (mvT hZ (hw _ (List.mem_of_getElem? (i := 14) rfl))) (by decide) (backOf (W := 0) (rm3_I l Z a0 hw [] b128 (iV nfl) f131 sc131 sf131 df131 0 ((0 + (1 : Int64)) + (1 : Int64)) T131.heap n0 Z131 g_b128 M131 hin1 hin2 hin3) hZ (hw _ (List.mem_of_getElem? (i := 16) rfl)) (hw _ (List.mem_of_getElem? (i := 3) rfl)) (by decide) (by decide)) q132a q132c (g := (mkF m 259 #[.val (.int q1), .val (.int q2), .val (.int q3), .val (.int q4), .val (.int sel), .val (.int nfl), .val (.int (kF sel)), .val (.int (psF sel)), .val (.double (pF sel)), .second, .val (.int (nF q1)), .val (.int (nkF sel q1 q2)), .val (.int (nkF sel q1 q3)), .val (.int (nF q4)), .val (.int (moF nfl)), .val (.int (wF nfl)), .val (.int (ffF nfl)), .val (.double (iV nfl)), .second, .val (.ref b128), .unset, .unset, .unset, .unset, .unset, .unset] [(.double (iV nfl)), (.ref b128)])) rfl (by rw [hml]; rfl) (Steps.refl _) (argsL := [(.double (iV nfl))]) (rest := []) (lenOf pd_1 rfl) rfl (by show 2 * 0 + _ ≤ _; exact Nat.le_of_eq rfl) (hb hby at_259) (fun _ _ => ⟨rfl, rfl, (by decide : 1 + 0 ≤ _), (by decide : 6 + 0 ≤ _)⟩)
  dsimp only [Pt.U, Pt.locs, Pt.cells, Pt.slots] at X132 l132 y132 z132 st132 hQ132
  subst l132 y132 z132
  obtain ⟨rfl, N132q, K132q, M132⟩ := hQ132
  have N132 := Fr.app N131 N132q
  have Z132 : n0 ≤ T132.heap.size := Nat.le_trans Z131 K132q.1
  obtain ⟨cq133, kq133, q133a, q133b, q133c⟩ := isOf hZ rfl M132.1
  obtain ⟨_, _, ⟨T133, L133, k133, n133⟩, -, X133, ⟨Lc133, hQ133, l133, y133, z133⟩, st133⟩ := X132.virtualBack hx (y := (⟨"com/example/retiremetric/retiremetric/engine/Mean", "mean", "()D"⟩ : MethodName)) (z := (⟨"com/example/retiremetric/retiremetric/engine/Mean", "mean", "()D"⟩ : MethodName)) hown (mvT hZ (hw _ (List.mem_of_getElem? (i := 34) rfl))) (mvT hZ (hw _ (List.mem_of_getElem? (i := 35) rfl))) (notFace_of_selects (args := #[]) (mvT hZ (hw _ (List.mem_of_getElem? (i := 37) rfl)))) (mvT hZ (hw _ (List.mem_of_getElem? (i := 37) rfl))) (mvT hZ (hw _ (List.mem_of_getElem? (i := 36) rfl))) (by decide) (backOf (W := 0) (rm6_I l Z a0 hw [] b128 f131 sc131 sf131 df131 (FP.dadd 0 (iV nfl)) (((0 + (1 : Int64)) + (1 : Int64)) + (1 : Int64)) T132.heap n0 Z132 M132 (by decide) hin4) hZ (hw _ (List.mem_of_getElem? (i := 38) rfl)) (hw _ (List.mem_of_getElem? (i := 3) rfl)) (by decide) (by decide)) q133a q133c (g := (mkF m 264 #[.val (.int q1), .val (.int q2), .val (.int q3), .val (.int q4), .val (.int sel), .val (.int nfl), .val (.int (kF sel)), .val (.int (psF sel)), .val (.double (pF sel)), .second, .val (.int (nF q1)), .val (.int (nkF sel q1 q2)), .val (.int (nkF sel q1 q3)), .val (.int (nF q4)), .val (.int (moF nfl)), .val (.int (wF nfl)), .val (.int (ffF nfl)), .val (.double (iV nfl)), .second, .val (.ref b128), .unset, .unset, .unset, .unset, .unset, .unset] [(.ref b128)])) rfl (by rw [hml]; rfl) (Steps.refl _) (argsL := []) (rest := []) (lenOf pd_4 rfl) rfl (by show 2 * 0 + _ ≤ _; exact Nat.le_of_eq rfl) (hb hby at_264) (fun _ _ => ⟨rfl, rfl, (by decide : 1 + 0 ≤ _), (by decide : 6 + 0 ≤ _)⟩)
  dsimp only [Pt.U, Pt.locs, Pt.cells, Pt.slots] at X133 l133 y133 z133 st133 hQ133
  subst l133 y133 z133
  obtain ⟨rfl, N133q, e133⟩ := hQ133
  have N133 := Fr.app N132 N133q
  obtain ⟨fs, hr, hrun, hended, hW, hsame⟩ := X133.leave (v := some (.int (1 : Int32))) (fun h => by rw [Bd.returns] at h; cases h)
  refine ⟨_, _, pre0 _ ?_, hrun, hended, _, _, rfl, ?_, ⟨_, rfl⟩, hW, hsame.mono (by decide) (by decide)⟩
  · refine sg1 q1 q2 q3 q4 sel nfl X0 hx hZ hw hby hown ?_
    refine sg2 q1 q2 q3 q4 sel nfl X0 hx hZ hw hby hown ?_
    refine sg3 q1 q2 q3 q4 sel nfl X0 hx hZ hw hby hown ?_
    refine sg4 q1 q2 q3 q4 sel nfl X0 hx hZ hw hby hown ?_
    refine sg5 q1 q2 q3 q4 sel nfl X0 hx hZ hw hby hown ?_
    refine sg6 q1 q2 q3 q4 sel nfl X0 hx hZ hw hby hown ?_
    show Steps p.tables e below (s₁.setTop (mkF m 157 #[.val (.int q1), .val (.int q2), .val (.int q3), .val (.int q4), .val (.int sel), .val (.int nfl), .val (.int (kF sel)), .val (.int (psF sel)), .val (.double (pF sel)), .second, .val (.int (nF q1)), .val (.int (nkF sel q1 q2)), .val (.int (nkF sel q1 q3)), .val (.int (nF q4)), .val (.int (moF nfl)), .val (.int (wF nfl)), .val (.int (ffF nfl)), .val (.double (iV nfl)), .second, .unset, .unset, .unset, .unset, .unset, .unset, .unset] [])) _
    refine st128 _ ?_
    refine XS.dup X128.here hx rfl (hb hby at_160) rfl rfl ?_
    show Steps p.tables e below (T128.setTop (mkF m 161 #[.val (.int q1), .val (.int q2), .val (.int q3), .val (.int q4), .val (.int sel), .val (.int nfl), .val (.int (kF sel)), .val (.int (psF sel)), .val (.double (pF sel)), .second, .val (.int (nF q1)), .val (.int (nkF sel q1 q2)), .val (.int (nkF sel q1 q3)), .val (.int (nF q4)), .val (.int (moF nfl)), .val (.int (wF nfl)), .val (.int (ffF nfl)), .val (.double (iV nfl)), .second, .unset, .unset, .unset, .unset, .unset, .unset, .unset] [(.ref b128), (.ref b128)])) _
    refine st129.trans ?_
    refine XS.astore X129.here hx rfl (hb hby at_164) rfl rfl (l' := #[.val (.int q1), .val (.int q2), .val (.int q3), .val (.int q4), .val (.int sel), .val (.int nfl), .val (.int (kF sel)), .val (.int (psF sel)), .val (.double (pF sel)), .second, .val (.int (nF q1)), .val (.int (nkF sel q1 q2)), .val (.int (nkF sel q1 q3)), .val (.int (nF q4)), .val (.int (moF nfl)), .val (.int (wF nfl)), .val (.int (ffF nfl)), .val (.double (iV nfl)), .second, .val (.ref b128), .unset, .unset, .unset, .unset, .unset, .unset]) rfl ?_
    refine XS.iload X129.here hx rfl (hb hby at_166) rfl ?_
    refine XS.ifNo X129.here hx rfl (hb hby at_168) rfl ((if0 _ _).trans (feq hc168).1) ?_
    show Steps p.tables e below (T129.setTop (mkF m 171 #[.val (.int q1), .val (.int q2), .val (.int q3), .val (.int q4), .val (.int sel), .val (.int nfl), .val (.int (kF sel)), .val (.int (psF sel)), .val (.double (pF sel)), .second, .val (.int (nF q1)), .val (.int (nkF sel q1 q2)), .val (.int (nkF sel q1 q3)), .val (.int (nF q4)), .val (.int (moF nfl)), .val (.int (wF nfl)), .val (.int (ffF nfl)), .val (.double (iV nfl)), .second, .val (.ref b128), .unset, .unset, .unset, .unset, .unset, .unset] [])) _
    refine XS.iload X129.here hx rfl (hb hby at_171) rfl ?_
    refine XS.ifYes X129.here hx rfl (pc0 := 173) (pc' := 183) rfl (hb hby at_173) rfl ((if0 _ _).trans (teq hc173).1) (by decide) (by decide) ?_
    refine XS.aload X129.here hx rfl (hb hby at_183) rfl rfl ?_
    refine XS.iload X129.here hx rfl (hb hby at_185) rfl ?_
    show Steps p.tables e below (T129.setTop (mkF m 187 #[.val (.int q1), .val (.int q2), .val (.int q3), .val (.int q4), .val (.int sel), .val (.int nfl), .val (.int (kF sel)), .val (.int (psF sel)), .val (.double (pF sel)), .second, .val (.int (nF q1)), .val (.int (nkF sel q1 q2)), .val (.int (nkF sel q1 q3)), .val (.int (nF q4)), .val (.int (moF nfl)), .val (.int (wF nfl)), .val (.int (ffF nfl)), .val (.double (iV nfl)), .second, .val (.ref b128), .unset, .unset, .unset, .unset, .unset, .unset] [(.int (nF q1)), (.ref b128)])) _
    refine XS.i2dS X129.here hx rfl (hb hby at_187) rfl rfl ?_
    refine XS.dload X129.here hx rfl (hb hby at_188) rfl ?_
    refine XS.dmulS X129.here hx rfl (hb hby at_190) rfl hnan190 rfl ?_
    show Steps p.tables e below (T129.setTop (mkF m 191 #[.val (.int q1), .val (.int q2), .val (.int q3), .val (.int q4), .val (.int sel), .val (.int nfl), .val (.int (kF sel)), .val (.int (psF sel)), .val (.double (pF sel)), .second, .val (.int (nF q1)), .val (.int (nkF sel q1 q2)), .val (.int (nkF sel q1 q3)), .val (.int (nF q4)), .val (.int (moF nfl)), .val (.int (wF nfl)), .val (.int (ffF nfl)), .val (.double (iV nfl)), .second, .val (.ref b128), .unset, .unset, .unset, .unset, .unset, .unset] [(.double (FP.dmul (FP.i2d (nF q1)) (pF sel))), (.ref b128)])) _
    refine st130.trans ?_
    refine XS.iload X130.here hx rfl (hb hby at_194) rfl ?_
    refine XS.iconst X130.here hx rfl (hb hby at_196) ?_
    refine XS.icmpNo X130.here hx rfl (hb hby at_197) rfl (flt hc197).1 ?_
    show Steps p.tables e below (T130.setTop (mkF m 200 #[.val (.int q1), .val (.int q2), .val (.int q3), .val (.int q4), .val (.int sel), .val (.int nfl), .val (.int (kF sel)), .val (.int (psF sel)), .val (.double (pF sel)), .second, .val (.int (nF q1)), .val (.int (nkF sel q1 q2)), .val (.int (nkF sel q1 q3)), .val (.int (nF q4)), .val (.int (moF nfl)), .val (.int (wF nfl)), .val (.int (ffF nfl)), .val (.double (iV nfl)), .second, .val (.ref b128), .unset, .unset, .unset, .unset, .unset, .unset] [])) _
    refine XS.aload X130.here hx rfl (hb hby at_200) rfl rfl ?_
    refine XS.iload X130.here hx rfl (hb hby at_202) rfl ?_
    refine XS.i2dS X130.here hx rfl (hb hby at_204) rfl rfl ?_
    refine XS.dload X130.here hx rfl (hb hby at_205) rfl ?_
    show Steps p.tables e below (T130.setTop (mkF m 207 #[.val (.int q1), .val (.int q2), .val (.int q3), .val (.int q4), .val (.int sel), .val (.int nfl), .val (.int (kF sel)), .val (.int (psF sel)), .val (.double (pF sel)), .second, .val (.int (nF q1)), .val (.int (nkF sel q1 q2)), .val (.int (nkF sel q1 q3)), .val (.int (nF q4)), .val (.int (moF nfl)), .val (.int (wF nfl)), .val (.int (ffF nfl)), .val (.double (iV nfl)), .second, .val (.ref b128), .unset, .unset, .unset, .unset, .unset, .unset] [(.double (pF sel)), (.double (FP.i2d (nkF sel q1 q2))), (.ref b128)])) _
    refine XS.dmulS X130.here hx rfl (hb hby at_207) rfl hnan207 rfl ?_
    show Steps p.tables e below (T130.setTop (mkF m 208 #[.val (.int q1), .val (.int q2), .val (.int q3), .val (.int q4), .val (.int sel), .val (.int nfl), .val (.int (kF sel)), .val (.int (psF sel)), .val (.double (pF sel)), .second, .val (.int (nF q1)), .val (.int (nkF sel q1 q2)), .val (.int (nkF sel q1 q3)), .val (.int (nF q4)), .val (.int (moF nfl)), .val (.int (wF nfl)), .val (.int (ffF nfl)), .val (.double (iV nfl)), .second, .val (.ref b128), .unset, .unset, .unset, .unset, .unset, .unset] [(.double (FP.dmul (FP.i2d (nkF sel q1 q2)) (pF sel))), (.ref b128)])) _
    refine st131.trans ?_
    refine XS.iload X131.here hx rfl (hb hby at_211) rfl ?_
    refine XS.iconst X131.here hx rfl (hb hby at_213) ?_
    refine XS.icmpYes X131.here hx rfl (pc0 := 214) (pc' := 228) rfl (hb hby at_214) rfl (tlt hc214).1 (by decide) (by decide) ?_
    show Steps p.tables e below (T131.setTop (mkF m 228 #[.val (.int q1), .val (.int q2), .val (.int q3), .val (.int q4), .val (.int sel), .val (.int nfl), .val (.int (kF sel)), .val (.int (psF sel)), .val (.double (pF sel)), .second, .val (.int (nF q1)), .val (.int (nkF sel q1 q2)), .val (.int (nkF sel q1 q3)), .val (.int (nF q4)), .val (.int (moF nfl)), .val (.int (wF nfl)), .val (.int (ffF nfl)), .val (.double (iV nfl)), .second, .val (.ref b128), .unset, .unset, .unset, .unset, .unset, .unset] [])) _
    refine XS.iload X131.here hx rfl (hb hby at_228) rfl ?_
    refine XS.iconst X131.here hx rfl (hb hby at_230) ?_
    refine XS.icmpYes X131.here hx rfl (pc0 := 231) (pc' := 245) rfl (hb hby at_231) rfl (tlt hc231).1 (by decide) (by decide) ?_
    refine XS.iload X131.here hx rfl (hb hby at_245) rfl ?_
    show Steps p.tables e below (T131.setTop (mkF m 247 #[.val (.int q1), .val (.int q2), .val (.int q3), .val (.int q4), .val (.int sel), .val (.int nfl), .val (.int (kF sel)), .val (.int (psF sel)), .val (.double (pF sel)), .second, .val (.int (nF q1)), .val (.int (nkF sel q1 q2)), .val (.int (nkF sel q1 q3)), .val (.int (nF q4)), .val (.int (moF nfl)), .val (.int (wF nfl)), .val (.int (ffF nfl)), .val (.double (iV nfl)), .second, .val (.ref b128), .unset, .unset, .unset, .unset, .unset, .unset] [(.int (wF nfl))])) _
    refine XS.ifNo X131.here hx rfl (hb hby at_247) rfl ((if0 _ _).trans (feq hc247).1) ?_
    refine XS.iload X131.here hx rfl (hb hby at_250) rfl ?_
    refine XS.ifNo X131.here hx rfl (hb hby at_252) rfl ((if0 _ _).trans (teq hc252).2) ?_
    refine XS.aload X131.here hx rfl (hb hby at_255) rfl rfl ?_
    show Steps p.tables e below (T131.setTop (mkF m 257 #[.val (.int q1), .val (.int q2), .val (.int q3), .val (.int q4), .val (.int sel), .val (.int nfl), .val (.int (kF sel)), .val (.int (psF sel)), .val (.double (pF sel)), .second, .val (.int (nF q1)), .val (.int (nkF sel q1 q2)), .val (.int (nkF sel q1 q3)), .val (.int (nF q4)), .val (.int (moF nfl)), .val (.int (wF nfl)), .val (.int (ffF nfl)), .val (.double (iV nfl)), .second, .val (.ref b128), .unset, .unset, .unset, .unset, .unset, .unset] [(.ref b128)])) _
    refine XS.dload X131.here hx rfl (hb hby at_257) rfl ?_
    show Steps p.tables e below (T131.setTop (mkF m 259 #[.val (.int q1), .val (.int q2), .val (.int q3), .val (.int q4), .val (.int sel), .val (.int nfl), .val (.int (kF sel)), .val (.int (psF sel)), .val (.double (pF sel)), .second, .val (.int (nF q1)), .val (.int (nkF sel q1 q2)), .val (.int (nkF sel q1 q3)), .val (.int (nF q4)), .val (.int (moF nfl)), .val (.int (wF nfl)), .val (.int (ffF nfl)), .val (.double (iV nfl)), .second, .val (.ref b128), .unset, .unset, .unset, .unset, .unset, .unset] [(.double (iV nfl)), (.ref b128)])) _
    refine st132.trans ?_
    refine XS.aload X132.here hx rfl (hb hby at_262) rfl rfl ?_
    show Steps p.tables e below (T132.setTop (mkF m 264 #[.val (.int q1), .val (.int q2), .val (.int q3), .val (.int q4), .val (.int sel), .val (.int nfl), .val (.int (kF sel)), .val (.int (psF sel)), .val (.double (pF sel)), .second, .val (.int (nF q1)), .val (.int (nkF sel q1 q2)), .val (.int (nkF sel q1 q3)), .val (.int (nF q4)), .val (.int (moF nfl)), .val (.int (wF nfl)), .val (.int (ffF nfl)), .val (.double (iV nfl)), .second, .val (.ref b128), .unset, .unset, .unset, .unset, .unset, .unset] [(.ref b128)])) _
    refine st133.trans ?_
    refine XS.dstore X133.here hx rfl (hb hby at_267) rfl (l' := #[.val (.int q1), .val (.int q2), .val (.int q3), .val (.int q4), .val (.int sel), .val (.int nfl), .val (.int (kF sel)), .val (.int (psF sel)), .val (.double (pF sel)), .second, .val (.int (nF q1)), .val (.int (nkF sel q1 q2)), .val (.int (nkF sel q1 q3)), .val (.int (nF q4)), .val (.int (moF nfl)), .val (.int (wF nfl)), .val (.int (ffF nfl)), .val (.double (iV nfl)), .second, .val (.ref b128), .val (.double (FP.dadd 0 (iV nfl))), .second, .unset, .unset, .unset, .unset]) rfl ?_
    refine XS.iload X133.here hx rfl (hb hby at_269) rfl ?_
    refine XS.ifNo X133.here hx rfl (hb hby at_271) rfl ((if0 _ _).trans (feq hc271).1) ?_
    show Steps p.tables e below (T133.setTop (mkF m 274 #[.val (.int q1), .val (.int q2), .val (.int q3), .val (.int q4), .val (.int sel), .val (.int nfl), .val (.int (kF sel)), .val (.int (psF sel)), .val (.double (pF sel)), .second, .val (.int (nF q1)), .val (.int (nkF sel q1 q2)), .val (.int (nkF sel q1 q3)), .val (.int (nF q4)), .val (.int (moF nfl)), .val (.int (wF nfl)), .val (.int (ffF nfl)), .val (.double (iV nfl)), .second, .val (.ref b128), .val (.double (FP.dadd 0 (iV nfl))), .second, .unset, .unset, .unset, .unset] [])) _
    refine XS.dload X133.here hx rfl (hb hby at_274) rfl ?_
    refine XS.dload X133.here hx rfl (hb hby at_276) rfl ?_
    refine XS.dcmpS X133.here hx rfl (hb hby at_278) rfl rfl ?_
    refine XS.ifNo X133.here hx rfl (hb hby at_279) rfl ((if0 _ _).trans (teq hc279).2) ?_
    show Steps p.tables e below (T133.setTop (mkF m 282 #[.val (.int q1), .val (.int q2), .val (.int q3), .val (.int q4), .val (.int sel), .val (.int nfl), .val (.int (kF sel)), .val (.int (psF sel)), .val (.double (pF sel)), .second, .val (.int (nF q1)), .val (.int (nkF sel q1 q2)), .val (.int (nkF sel q1 q3)), .val (.int (nF q4)), .val (.int (moF nfl)), .val (.int (wF nfl)), .val (.int (ffF nfl)), .val (.double (iV nfl)), .second, .val (.ref b128), .val (.double (FP.dadd 0 (iV nfl))), .second, .unset, .unset, .unset, .unset] [])) _
    refine XS.iconst X133.here hx rfl (hb hby at_282) ?_
    refine XS.goto X133.here hx rfl (pc0 := 283) (pc' := 287) rfl (hb hby at_283) (by decide) (by decide) ?_
    show Steps p.tables e below (T133.setTop (mkF m 287 #[.val (.int q1), .val (.int q2), .val (.int q3), .val (.int q4), .val (.int sel), .val (.int nfl), .val (.int (kF sel)), .val (.int (psF sel)), .val (.double (pF sel)), .second, .val (.int (nF q1)), .val (.int (nkF sel q1 q2)), .val (.int (nkF sel q1 q3)), .val (.int (nF q4)), .val (.int (moF nfl)), .val (.int (wF nfl)), .val (.int (ffF nfl)), .val (.double (iV nfl)), .second, .val (.ref b128), .val (.double (FP.dadd 0 (iV nfl))), .second, .unset, .unset, .unset, .unset] [(.int (1 : Int32))])) _
    exact retN X133 hx (t := .boolean) Bd.returns (by simp) (hb hby at_287) hr
  · show Q0  h0 n0 _ T133.heap _
    exact ⟨rfl, N133⟩
set_option maxRecDepth 65536 in
set_option maxHeartbeats 40000000 in
theorem rm0_f3 (l : Launch) (Z : State) (a0 : Array Value) (hw : ∀ d ∈ tables_1, d.before a0 Z = true) (ws : List Jvm.Cond) (q1 : Int32) (q2 : Int32) (q3 : Int32) (q4 : Int32) (sel : Int32) (nfl : Int32) (U : Nat) (h0 : Heap) (n0 : Nat) (Z0 : n0 ≤ h0.size) (hU : 74 ≤ U ∧ U ≤ 2074) (hU2 : U = 2074 ∨ U ≤ 1074) (hp : DV 1 U (pF sel)) (d1 : DV (nF q1).toInt U (FP.dmul (FP.i2d (nF q1)) (pF sel))) (r1 : -8388608 ≤ (nF q1).toInt ∧ (nF q1).toInt ≤ 8388607) (d2 : DV (nkF sel q1 q2).toInt U (FP.dmul (FP.i2d (nkF sel q1 q2)) (pF sel))) (r2 : -8388608 ≤ (nkF sel q1 q2).toInt ∧ (nkF sel q1 q2).toInt ≤ 8388607) (d3 : DV (nkF sel q1 q3).toInt U (FP.dmul (FP.i2d (nkF sel q1 q3)) (pF sel))) (r3 : -8388608 ≤ (nkF sel q1 q3).toInt ∧ (nkF sel q1 q3).toInt ≤ 8388607) (hin1 : Jvm.Free.Fl.NoNaN64 (iV nfl)) (hin2 : ¬ ((infF (iV nfl)) = (0 : Int32))) (hin3 : Jvm.Free.Fl.NoNaN64 (FP.dadd 0 (iV nfl))) (hin4 : ¬ ((cmpValue (FP.dcmp (FP.dadd 0 (iV nfl)) FP.dconst0) .l) = (0 : Int32))) (hc168 : ¬ ((wF nfl) = (0 : Int32))) (hc173 : ¬ ((ffF nfl) = (0 : Int32))) (hnan190 : Jvm.Free.Fl.NoNaN64 (FP.dmul (FP.i2d (nF q1)) (pF sel))) (hc197 : ¬ ((kF sel) < (2 : Int32))) (hnan207 : Jvm.Free.Fl.NoNaN64 (FP.dmul (FP.i2d (nkF sel q1 q2)) (pF sel))) (hc214 : ¬ ((kF sel) < (3 : Int32))) (hnan224 : Jvm.Free.Fl.NoNaN64 (FP.dmul (FP.i2d (nkF sel q1 q3)) (pF sel))) (hc231 : (kF sel) < (4 : Int32)) (hc247 : ¬ ((wF nfl) = (0 : Int32))) (hc252 : ¬ ((ffF nfl) = (0 : Int32))) (hc271 : ¬ ((wF nfl) = (0 : Int32))) (hc279 : (cmpValue (FP.dcmp (FP.dadd 0 (iV nfl)) (iV nfl)) .l) = (0 : Int32)) :
    MetFree l x (head1 (Jvm.Cond.code x code maxLocals ret :: ws) room_1) (fun aa_ U_ => aa_ = #[(.int q1), (.int q2), (.int q3), (.int q4), (.int sel), (.int nfl)] ∧ Z.Warmed39 U_.vm ∧ U_.heap = h0) (fun _ _ _ _ _ => True) (fun _ U_ o_ V_ => ∃ v_ L_, o_ = .returned v_ ∧ Q0  h0 n0 v_ V_.heap L_ ∧ FrameEnd U_ o_ V_ L_ room_1.cells room_1.slots) := by
  refine MetFree.of_bodySF (plainFor_of_name pn_0) hisR ?_
  intro p e s m args below meth c s₁ Bd hml0 hP hK
  obtain ⟨rfl, hZ, hh⟩ := hP
  have hx := Bd.exec
  have hby := Bd.bytes
  have hml : c.maxLocals = 26 := hml0
  have hown : s.vm.findClass "com/example/retiremetric/retiremetric/engine/MeanMeanPinLaw" = some m.cls := findClass_of_methodNamed Bd.named
  have hnm := (name_of_methodNamed Bd.named Bd.method).1
  have X0 : Stand p l e room_1 s m #[(.int q1), (.int q2), (.int q3), (.int q4), (.int sel), (.int nfl)] below meth c s₁ [] 0 0 := Stand.of_body Bd
  have e0 : s₁.heap = h0 := by rw [← hh, Bd.state]; rfl
  have N0 := Fr.nil n0
  have pre0 : ∀ zz, Steps p.tables e below (s₁.setTop (mkF m 0 #[.val (.int q1), .val (.int q2), .val (.int q3), .val (.int q4), .val (.int sel), .val (.int nfl), .unset, .unset, .unset, .unset, .unset, .unset, .unset, .unset, .unset, .unset, .unset, .unset, .unset, .unset, .unset, .unset, .unset, .unset, .unset, .unset] [])) zz → Steps p.tables e below (s₁.setTop (entryFrame m #[(.int q1), (.int q2), (.int q3), (.int q4), (.int sel), (.int nfl)] maxLocals)) zz := fun zz k => castTop (ef_0 m q1 q2 q3 q4 sel nfl) k
  have mv0 : MV U 0 0 0 0 FP.dconst1 0 0 := ⟨by omega, zero_dv _, one_dv, zero_dv _, zero_dv _, by simp⟩
  obtain ⟨T134, h134, X134, e134, E134, A134, D134, -, st134⟩ := newO X0 hx hZ hown (hw _ (List.mem_of_getElem? (i := 1) rfl)) (hw _ (List.mem_of_getElem? (i := 2) rfl)) (hw _ (List.mem_of_getElem? (i := 3) rfl)) e0 (g := (mkF m 157 #[.val (.int q1), .val (.int q2), .val (.int q3), .val (.int q4), .val (.int sel), .val (.int nfl), .val (.int (kF sel)), .val (.int (psF sel)), .val (.double (pF sel)), .second, .val (.int (nF q1)), .val (.int (nkF sel q1 q2)), .val (.int (nkF sel q1 q3)), .val (.int (nF q4)), .val (.int (moF nfl)), .val (.int (wF nfl)), .val (.int (ffF nfl)), .val (.double (iV nfl)), .second, .unset, .unset, .unset, .unset, .unset, .unset, .unset] [])) rfl (hb hby at_157) (by decide) (by decide)
  obtain ⟨b134, g134⟩ : ∃ z, z = h0.size := ⟨_, rfl⟩
  rw [← g134] at A134 D134 st134
  have E_b134 := A134
  have g_b134 : n0 ≤ b134 := Nat.le_trans Z0 (Nat.le_of_eq g134.symm)
  have sz_b134 : h0.size ≤ b134 := Nat.le_trans (Keep.refl h0 []).1 (Nat.le_of_eq g134.symm)
  have K134 := (Keep.refl h0 []).ext E134
  have Z134 : n0 ≤ h134.size := Nat.le_trans Z0 E134.1
  have F_scale_b134 : Fld Z h134 b134 "com/example/retiremetric/retiremetric/engine/Mean" "scale" "D" (.double 0) := D134 (Or.inl (hw _ (List.mem_of_getElem? (i := 11) rfl))) (ty := .double) (by decide)
  have F_count_b134 : Fld Z h134 b134 "com/example/retiremetric/retiremetric/engine/Mean" "count" "J" (.long (0 : Int64)) := D134 (Or.inl (hw _ (List.mem_of_getElem? (i := 27) rfl))) (ty := .long) (by decide)
  have F_first_b134 : Fld Z h134 b134 "com/example/retiremetric/retiremetric/engine/Mean" "first" "D" (.double 0) := D134 (Or.inl (hw _ (List.mem_of_getElem? (i := 29) rfl))) (ty := .double) (by decide)
  have F_scaledFirst_b134 : Fld Z h134 b134 "com/example/retiremetric/retiremetric/engine/Mean" "scaledFirst" "D" (.double 0) := D134 (Or.inl (hw _ (List.mem_of_getElem? (i := 31) rfl))) (ty := .double) (by decide)
  have F_differences_b134 : Fld Z h134 b134 "com/example/retiremetric/retiremetric/engine/Mean" "differences" "D" (.double 0) := D134 (Or.inl (hw _ (List.mem_of_getElem? (i := 33) rfl))) (ty := .double) (by decide)
  have F_infinities_b134 : Fld Z h134 b134 "com/example/retiremetric/retiremetric/engine/Mean" "infinities" "D" (.double 0) := D134 (Or.inl (hw _ (List.mem_of_getElem? (i := 40) rfl))) (ty := .double) (by decide)
  obtain ⟨_, _, ⟨T135, L135, k135, n135⟩, -, X135, ⟨Lc135, hQ135, l135, y135, z135⟩, st135⟩ := X134.specialBack hx (y := (⟨"com/example/retiremetric/retiremetric/engine/Mean", "<init>", "()V"⟩ : MethodName)) rfl hown (mvT hZ (hw _ (List.mem_of_getElem? (i := 4) rfl))) (mvT hZ (hw _ (List.mem_of_getElem? (i := 5) rfl))) (mvT hZ (hw _ (List.mem_of_getElem? (i := 6) rfl))) (by decide) (backOf (W := 1) (rm1 l Z a0 hw [] b134 h134 n0 Z134 g_b134 ⟨E_b134, F_first_b134, F_scale_b134, F_scaledFirst_b134, F_differences_b134, F_infinities_b134, F_count_b134⟩) hZ (hw _ (List.mem_of_getElem? (i := 6) rfl)) (hw _ (List.mem_of_getElem? (i := 3) rfl)) (by decide) (by decide)) (g := (mkF m 161 #[.val (.int q1), .val (.int q2), .val (.int q3), .val (.int q4), .val (.int sel), .val (.int nfl), .val (.int (kF sel)), .val (.int (psF sel)), .val (.double (pF sel)), .second, .val (.int (nF q1)), .val (.int (nkF sel q1 q2)), .val (.int (nkF sel q1 q3)), .val (.int (nF q4)), .val (.int (moF nfl)), .val (.int (wF nfl)), .val (.int (ffF nfl)), .val (.double (iV nfl)), .second, .unset, .unset, .unset, .unset, .unset, .unset, .unset] [(.ref b134), (.ref b134)])) rfl (by rw [hml]; rfl) (Steps.refl _) (a := b134) (argsL := []) (rest := [(.ref b134)]) (lenOf pd_0 rfl) rfl (by show 2 * 0 + _ ≤ _; exact Nat.le_of_eq rfl) (hb hby at_161) (fun _ _ => ⟨rfl, e134, (by decide : 1 + 0 ≤ _), (by decide : 6 + 0 ≤ _)⟩)
  dsimp only [Pt.U, Pt.locs, Pt.cells, Pt.slots] at X135 l135 y135 z135 st135 hQ135
  subst l135 y135 z135
  obtain ⟨rfl, N135q, K135q, M135⟩ := hQ135
  have N135 := Fr.app N0 N135q
  have Z135 : n0 ≤ T135.heap.size := Nat.le_trans Z134 K135q.1
  obtain ⟨cq136, kq136, q136a, q136b, q136c⟩ := isOf hZ rfl M135.1
  obtain ⟨_, _, ⟨T136, L136, k136, n136⟩, -, X136, ⟨Lc136, hQ136, l136, y136, z136⟩, st136⟩ := X135.virtualBack hx (y := (⟨"com/example/retiremetric/retiremetric/engine/Mean", "add", "(D)V"⟩ : MethodName)) (z := (⟨"com/example/retiremetric/retiremetric/engine/Mean", "add", "(D)V"⟩ : MethodName)) hown (mvT hZ (hw _ (List.mem_of_getElem? (i := 12) rfl))) (mvT hZ (hw _ (List.mem_of_getElem? (i := 13) rfl))) (notFace_of_selects (args := #[]) (mvT hZ (hw _ (List.mem_of_getElem? (i := 15) rfl)))) (mvT hZ (hw _ (List.mem_of_getElem? (i := 15) rfl))) (mvT hZ (hw _ (List.mem_of_getElem? (i := 14) rfl))) (by decide) (backOf (W := 0) (rm3_I l Z a0 hw [] b134 (iV nfl) 0 FP.dconst1 0 0 0 0 T135.heap n0 Z135 g_b134 M135 hin1 hin2 hin3) hZ (hw _ (List.mem_of_getElem? (i := 16) rfl)) (hw _ (List.mem_of_getElem? (i := 3) rfl)) (by decide) (by decide)) q136a q136c (g := (mkF m 180 #[.val (.int q1), .val (.int q2), .val (.int q3), .val (.int q4), .val (.int sel), .val (.int nfl), .val (.int (kF sel)), .val (.int (psF sel)), .val (.double (pF sel)), .second, .val (.int (nF q1)), .val (.int (nkF sel q1 q2)), .val (.int (nkF sel q1 q3)), .val (.int (nF q4)), .val (.int (moF nfl)), .val (.int (wF nfl)), .val (.int (ffF nfl)), .val (.double (iV nfl)), .second, .val (.ref b134), .unset, .unset, .unset, .unset, .unset, .unset] [(.double (iV nfl)), (.ref b134)])) rfl (by rw [hml]; rfl) (Steps.refl _) (argsL := [(.double (iV nfl))]) (rest := []) (lenOf pd_1 rfl) rfl (by show 2 * 0 + _ ≤ _; exact Nat.le_of_eq rfl) (hb hby at_180) (fun _ _ => ⟨rfl, rfl, (by decide : 1 + 0 ≤ _), (by decide : 6 + 0 ≤ _)⟩)
  dsimp only [Pt.U, Pt.locs, Pt.cells, Pt.slots] at X136 l136 y136 z136 st136 hQ136
  subst l136 y136 z136
  obtain ⟨rfl, N136q, K136q, M136⟩ := hQ136
  have N136 := Fr.app N135 N136q
  have Z136 : n0 ≤ T136.heap.size := Nat.le_trans Z135 K136q.1
  obtain ⟨cq137, kq137, q137a, q137b, q137c⟩ := isOf hZ rfl M136.1
  obtain ⟨_, _, ⟨T137, L137, k137, n137⟩, -, X137, ⟨Lc137, hQ137, l137, y137, z137⟩, st137⟩ := X136.virtualBack hx (y := (⟨"com/example/retiremetric/retiremetric/engine/Mean", "add", "(D)V"⟩ : MethodName)) (z := (⟨"com/example/retiremetric/retiremetric/engine/Mean", "add", "(D)V"⟩ : MethodName)) hown (mvT hZ (hw _ (List.mem_of_getElem? (i := 12) rfl))) (mvT hZ (hw _ (List.mem_of_getElem? (i := 13) rfl))) (notFace_of_selects (args := #[]) (mvT hZ (hw _ (List.mem_of_getElem? (i := 15) rfl)))) (mvT hZ (hw _ (List.mem_of_getElem? (i := 15) rfl))) (mvT hZ (hw _ (List.mem_of_getElem? (i := 14) rfl))) (by decide) (backOf (W := 0) (rm3_fin l Z a0 hw [] b134 (FP.dmul (FP.i2d (nF q1)) (pF sel)) 0 FP.dconst1 0 0 (FP.dadd 0 (iV nfl)) (0 + (1 : Int64)) U 0 0 (nF q1).toInt 0 T136.heap n0 Z136 g_b134 M136 hU hU2 d1 mv0 (by omega) (by omega) (by omega) (by omega) (by decide)) hZ (hw _ (List.mem_of_getElem? (i := 16) rfl)) (hw _ (List.mem_of_getElem? (i := 3) rfl)) (by decide) (by decide)) q137a q137c (g := (mkF m 191 #[.val (.int q1), .val (.int q2), .val (.int q3), .val (.int q4), .val (.int sel), .val (.int nfl), .val (.int (kF sel)), .val (.int (psF sel)), .val (.double (pF sel)), .second, .val (.int (nF q1)), .val (.int (nkF sel q1 q2)), .val (.int (nkF sel q1 q3)), .val (.int (nF q4)), .val (.int (moF nfl)), .val (.int (wF nfl)), .val (.int (ffF nfl)), .val (.double (iV nfl)), .second, .val (.ref b134), .unset, .unset, .unset, .unset, .unset, .unset] [(.double (FP.dmul (FP.i2d (nF q1)) (pF sel))), (.ref b134)])) rfl (by rw [hml]; rfl) (Steps.refl _) (argsL := [(.double (FP.dmul (FP.i2d (nF q1)) (pF sel)))]) (rest := []) (lenOf pd_1 rfl) rfl (by show 2 * 0 + _ ≤ _; exact Nat.le_of_eq rfl) (hb hby at_191) (fun _ _ => ⟨rfl, rfl, (by decide : 1 + 0 ≤ _), (by decide : 6 + 0 ≤ _)⟩)
  dsimp only [Pt.U, Pt.locs, Pt.cells, Pt.slots] at X137 l137 y137 z137 st137 hQ137
  subst l137 y137 z137
  obtain ⟨x137, f137, sc137, sf137, df137, V137, rfl, N137q, K137q, M137⟩ := hQ137
  have N137 := Fr.app N136 N137q
  have Z137 : n0 ≤ T137.heap.size := Nat.le_trans Z136 K137q.1
  obtain ⟨cq138, kq138, q138a, q138b, q138c⟩ := isOf hZ rfl M137.1
  obtain ⟨_, _, ⟨T138, L138, k138, n138⟩, -, X138, ⟨Lc138, hQ138, l138, y138, z138⟩, st138⟩ := X137.virtualBack hx (y := (⟨"com/example/retiremetric/retiremetric/engine/Mean", "add", "(D)V"⟩ : MethodName)) (z := (⟨"com/example/retiremetric/retiremetric/engine/Mean", "add", "(D)V"⟩ : MethodName)) hown (mvT hZ (hw _ (List.mem_of_getElem? (i := 12) rfl))) (mvT hZ (hw _ (List.mem_of_getElem? (i := 13) rfl))) (notFace_of_selects (args := #[]) (mvT hZ (hw _ (List.mem_of_getElem? (i := 15) rfl)))) (mvT hZ (hw _ (List.mem_of_getElem? (i := 15) rfl))) (mvT hZ (hw _ (List.mem_of_getElem? (i := 14) rfl))) (by decide) (backOf (W := 0) (rm3_fin l Z a0 hw [] b134 (FP.dmul (FP.i2d (nkF sel q1 q2)) (pF sel)) f137 sc137 sf137 df137 (FP.dadd 0 (iV nfl)) ((0 + (1 : Int64)) + (1 : Int64)) U 0 (0 + ((nF q1).toInt - 0)) (nkF sel q1 q2).toInt x137 T137.heap n0 Z137 g_b134 M137 hU hU2 d2 V137 (by omega) (by omega) (by omega) (by omega) (by decide)) hZ (hw _ (List.mem_of_getElem? (i := 16) rfl)) (hw _ (List.mem_of_getElem? (i := 3) rfl)) (by decide) (by decide)) q138a q138c (g := (mkF m 208 #[.val (.int q1), .val (.int q2), .val (.int q3), .val (.int q4), .val (.int sel), .val (.int nfl), .val (.int (kF sel)), .val (.int (psF sel)), .val (.double (pF sel)), .second, .val (.int (nF q1)), .val (.int (nkF sel q1 q2)), .val (.int (nkF sel q1 q3)), .val (.int (nF q4)), .val (.int (moF nfl)), .val (.int (wF nfl)), .val (.int (ffF nfl)), .val (.double (iV nfl)), .second, .val (.ref b134), .unset, .unset, .unset, .unset, .unset, .unset] [(.double (FP.dmul (FP.i2d (nkF sel q1 q2)) (pF sel))), (.ref b134)])) rfl (by rw [hml]; rfl) (Steps.refl _) (argsL := [(.double (FP.dmul (FP.i2d (nkF sel q1 q2)) (pF sel)))]) (rest := []) (lenOf pd_1 rfl) rfl (by show 2 * 0 + _ ≤ _; exact Nat.le_of_eq rfl) (hb hby at_208) (fun _ _ => ⟨rfl, rfl, (by decide : 1 + 0 ≤ _), (by decide : 6 + 0 ≤ _)⟩)
  dsimp only [Pt.U, Pt.locs, Pt.cells, Pt.slots] at X138 l138 y138 z138 st138 hQ138
  subst l138 y138 z138
  obtain ⟨x138, f138, sc138, sf138, df138, V138, rfl, N138q, K138q, M138⟩ := hQ138
  have N138 := Fr.app N137 N138q
  have Z138 : n0 ≤ T138.heap.size := Nat.le_trans Z137 K138q.1
  obtain ⟨cq139, kq139, q139a, q139b, q139c⟩ := isOf hZ rfl M138.1
  obtain ⟨_, _, ⟨T139, L139, k139, n139⟩, -, X139, ⟨Lc139, hQ139, l139, y139, z139⟩, st139⟩ := X138.virtualBack hx (y := (⟨"com/example/retiremetric/retiremetric/engine/Mean", "add", "(D)V"⟩ : MethodName)) (z := (⟨"com/example/retiremetric/retiremetric/engine/Mean", "add", "(D)V"⟩ : MethodName)) hown (mvT hZ (hw _ (List.mem_of_getElem? (i := 12) rfl))) (mvT hZ (hw _ (List.mem_of_getElem? (i := 13) rfl))) (notFace_of_selects (args := #[]) (mvT hZ (hw _ (List.mem_of_getElem? (i := 15) rfl)))) (mvT hZ (hw _ (List.mem_of_getElem? (i := 15) rfl))) (mvT hZ (hw _ (List.mem_of_getElem? (i := 14) rfl))) (by decide) (backOf (W := 0) (rm3_fin l Z a0 hw [] b134 (FP.dmul (FP.i2d (nkF sel q1 q3)) (pF sel)) f138 sc138 sf138 df138 (FP.dadd 0 (iV nfl)) (((0 + (1 : Int64)) + (1 : Int64)) + (1 : Int64)) U 0 ((0 + ((nF q1).toInt - 0)) + ((nkF sel q1 q2).toInt - 0)) (nkF sel q1 q3).toInt x138 T138.heap n0 Z138 g_b134 M138 hU hU2 d3 V138 (by omega) (by omega) (by omega) (by omega) (by decide)) hZ (hw _ (List.mem_of_getElem? (i := 16) rfl)) (hw _ (List.mem_of_getElem? (i := 3) rfl)) (by decide) (by decide)) q139a q139c (g := (mkF m 225 #[.val (.int q1), .val (.int q2), .val (.int q3), .val (.int q4), .val (.int sel), .val (.int nfl), .val (.int (kF sel)), .val (.int (psF sel)), .val (.double (pF sel)), .second, .val (.int (nF q1)), .val (.int (nkF sel q1 q2)), .val (.int (nkF sel q1 q3)), .val (.int (nF q4)), .val (.int (moF nfl)), .val (.int (wF nfl)), .val (.int (ffF nfl)), .val (.double (iV nfl)), .second, .val (.ref b134), .unset, .unset, .unset, .unset, .unset, .unset] [(.double (FP.dmul (FP.i2d (nkF sel q1 q3)) (pF sel))), (.ref b134)])) rfl (by rw [hml]; rfl) (Steps.refl _) (argsL := [(.double (FP.dmul (FP.i2d (nkF sel q1 q3)) (pF sel)))]) (rest := []) (lenOf pd_1 rfl) rfl (by show 2 * 0 + _ ≤ _; exact Nat.le_of_eq rfl) (hb hby at_225) (fun _ _ => ⟨rfl, rfl, (by decide : 1 + 0 ≤ _), (by decide : 6 + 0 ≤ _)⟩)
  dsimp only [Pt.U, Pt.locs, Pt.cells, Pt.slots] at X139 l139 y139 z139 st139 hQ139
  subst l139 y139 z139
  obtain ⟨x139, f139, sc139, sf139, df139, V139, rfl, N139q, K139q, M139⟩ := hQ139
  have N139 := Fr.app N138 N139q
  have Z139 : n0 ≤ T139.heap.size := Nat.le_trans Z138 K139q.1
  obtain ⟨cq140, kq140, q140a, q140b, q140c⟩ := isOf hZ rfl M139.1
  obtain ⟨_, _, ⟨T140, L140, k140, n140⟩, -, X140, ⟨Lc140, hQ140, l140, y140, z140⟩, st140⟩ := X139.virtualBack hx (y := (⟨"com/example/retiremetric/retiremetric/engine/Mean", "mean", "()D"⟩ : MethodName)) (z := (⟨"com/example/retiremetric/retiremetric/engine/Mean", "mean", "()D"⟩ : MethodName)) hown (mvT hZ (hw _ (List.mem_of_getElem? (i := 34) rfl))) (mvT hZ (hw _ (List.mem_of_getElem? (i := 35) rfl))) (notFace_of_selects (args := #[]) (mvT hZ (hw _ (List.mem_of_getElem? (i := 37) rfl)))) (mvT hZ (hw _ (List.mem_of_getElem? (i := 37) rfl))) (mvT hZ (hw _ (List.mem_of_getElem? (i := 36) rfl))) (by decide) (backOf (W := 0) (rm6_I l Z a0 hw [] b134 f139 sc139 sf139 df139 (FP.dadd 0 (iV nfl)) ((((0 + (1 : Int64)) + (1 : Int64)) + (1 : Int64)) + (1 : Int64)) T139.heap n0 Z139 M139 (by decide) hin4) hZ (hw _ (List.mem_of_getElem? (i := 38) rfl)) (hw _ (List.mem_of_getElem? (i := 3) rfl)) (by decide) (by decide)) q140a q140c (g := (mkF m 264 #[.val (.int q1), .val (.int q2), .val (.int q3), .val (.int q4), .val (.int sel), .val (.int nfl), .val (.int (kF sel)), .val (.int (psF sel)), .val (.double (pF sel)), .second, .val (.int (nF q1)), .val (.int (nkF sel q1 q2)), .val (.int (nkF sel q1 q3)), .val (.int (nF q4)), .val (.int (moF nfl)), .val (.int (wF nfl)), .val (.int (ffF nfl)), .val (.double (iV nfl)), .second, .val (.ref b134), .unset, .unset, .unset, .unset, .unset, .unset] [(.ref b134)])) rfl (by rw [hml]; rfl) (Steps.refl _) (argsL := []) (rest := []) (lenOf pd_4 rfl) rfl (by show 2 * 0 + _ ≤ _; exact Nat.le_of_eq rfl) (hb hby at_264) (fun _ _ => ⟨rfl, rfl, (by decide : 1 + 0 ≤ _), (by decide : 6 + 0 ≤ _)⟩)
  dsimp only [Pt.U, Pt.locs, Pt.cells, Pt.slots] at X140 l140 y140 z140 st140 hQ140
  subst l140 y140 z140
  obtain ⟨rfl, N140q, e140⟩ := hQ140
  have N140 := Fr.app N139 N140q
  obtain ⟨fs, hr, hrun, hended, hW, hsame⟩ := X140.leave (v := some (.int (1 : Int32))) (fun h => by rw [Bd.returns] at h; cases h)
  refine ⟨_, _, pre0 _ ?_, hrun, hended, _, _, rfl, ?_, ⟨_, rfl⟩, hW, hsame.mono (by decide) (by decide)⟩
  · refine sg1 q1 q2 q3 q4 sel nfl X0 hx hZ hw hby hown ?_
    refine sg2 q1 q2 q3 q4 sel nfl X0 hx hZ hw hby hown ?_
    refine sg3 q1 q2 q3 q4 sel nfl X0 hx hZ hw hby hown ?_
    refine sg4 q1 q2 q3 q4 sel nfl X0 hx hZ hw hby hown ?_
    refine sg5 q1 q2 q3 q4 sel nfl X0 hx hZ hw hby hown ?_
    refine sg6 q1 q2 q3 q4 sel nfl X0 hx hZ hw hby hown ?_
    show Steps p.tables e below (s₁.setTop (mkF m 157 #[.val (.int q1), .val (.int q2), .val (.int q3), .val (.int q4), .val (.int sel), .val (.int nfl), .val (.int (kF sel)), .val (.int (psF sel)), .val (.double (pF sel)), .second, .val (.int (nF q1)), .val (.int (nkF sel q1 q2)), .val (.int (nkF sel q1 q3)), .val (.int (nF q4)), .val (.int (moF nfl)), .val (.int (wF nfl)), .val (.int (ffF nfl)), .val (.double (iV nfl)), .second, .unset, .unset, .unset, .unset, .unset, .unset, .unset] [])) _
    refine st134 _ ?_
    refine XS.dup X134.here hx rfl (hb hby at_160) rfl rfl ?_
    show Steps p.tables e below (T134.setTop (mkF m 161 #[.val (.int q1), .val (.int q2), .val (.int q3), .val (.int q4), .val (.int sel), .val (.int nfl), .val (.int (kF sel)), .val (.int (psF sel)), .val (.double (pF sel)), .second, .val (.int (nF q1)), .val (.int (nkF sel q1 q2)), .val (.int (nkF sel q1 q3)), .val (.int (nF q4)), .val (.int (moF nfl)), .val (.int (wF nfl)), .val (.int (ffF nfl)), .val (.double (iV nfl)), .second, .unset, .unset, .unset, .unset, .unset, .unset, .unset] [(.ref b134), (.ref b134)])) _
    refine st135.trans ?_
    refine XS.astore X135.here hx rfl (hb hby at_164) rfl rfl (l' := #[.val (.int q1), .val (.int q2), .val (.int q3), .val (.int q4), .val (.int sel), .val (.int nfl), .val (.int (kF sel)), .val (.int (psF sel)), .val (.double (pF sel)), .second, .val (.int (nF q1)), .val (.int (nkF sel q1 q2)), .val (.int (nkF sel q1 q3)), .val (.int (nF q4)), .val (.int (moF nfl)), .val (.int (wF nfl)), .val (.int (ffF nfl)), .val (.double (iV nfl)), .second, .val (.ref b134), .unset, .unset, .unset, .unset, .unset, .unset]) rfl ?_
    refine XS.iload X135.here hx rfl (hb hby at_166) rfl ?_
    refine XS.ifNo X135.here hx rfl (hb hby at_168) rfl ((if0 _ _).trans (feq hc168).1) ?_
    show Steps p.tables e below (T135.setTop (mkF m 171 #[.val (.int q1), .val (.int q2), .val (.int q3), .val (.int q4), .val (.int sel), .val (.int nfl), .val (.int (kF sel)), .val (.int (psF sel)), .val (.double (pF sel)), .second, .val (.int (nF q1)), .val (.int (nkF sel q1 q2)), .val (.int (nkF sel q1 q3)), .val (.int (nF q4)), .val (.int (moF nfl)), .val (.int (wF nfl)), .val (.int (ffF nfl)), .val (.double (iV nfl)), .second, .val (.ref b134), .unset, .unset, .unset, .unset, .unset, .unset] [])) _
    refine XS.iload X135.here hx rfl (hb hby at_171) rfl ?_
    refine XS.ifNo X135.here hx rfl (hb hby at_173) rfl ((if0 _ _).trans (feq hc173).1) ?_
    refine XS.aload X135.here hx rfl (hb hby at_176) rfl rfl ?_
    refine XS.dload X135.here hx rfl (hb hby at_178) rfl ?_
    show Steps p.tables e below (T135.setTop (mkF m 180 #[.val (.int q1), .val (.int q2), .val (.int q3), .val (.int q4), .val (.int sel), .val (.int nfl), .val (.int (kF sel)), .val (.int (psF sel)), .val (.double (pF sel)), .second, .val (.int (nF q1)), .val (.int (nkF sel q1 q2)), .val (.int (nkF sel q1 q3)), .val (.int (nF q4)), .val (.int (moF nfl)), .val (.int (wF nfl)), .val (.int (ffF nfl)), .val (.double (iV nfl)), .second, .val (.ref b134), .unset, .unset, .unset, .unset, .unset, .unset] [(.double (iV nfl)), (.ref b134)])) _
    refine st136.trans ?_
    refine XS.aload X136.here hx rfl (hb hby at_183) rfl rfl ?_
    refine XS.iload X136.here hx rfl (hb hby at_185) rfl ?_
    refine XS.i2dS X136.here hx rfl (hb hby at_187) rfl rfl ?_
    show Steps p.tables e below (T136.setTop (mkF m 188 #[.val (.int q1), .val (.int q2), .val (.int q3), .val (.int q4), .val (.int sel), .val (.int nfl), .val (.int (kF sel)), .val (.int (psF sel)), .val (.double (pF sel)), .second, .val (.int (nF q1)), .val (.int (nkF sel q1 q2)), .val (.int (nkF sel q1 q3)), .val (.int (nF q4)), .val (.int (moF nfl)), .val (.int (wF nfl)), .val (.int (ffF nfl)), .val (.double (iV nfl)), .second, .val (.ref b134), .unset, .unset, .unset, .unset, .unset, .unset] [(.double (FP.i2d (nF q1))), (.ref b134)])) _
    refine XS.dload X136.here hx rfl (hb hby at_188) rfl ?_
    refine XS.dmulS X136.here hx rfl (hb hby at_190) rfl hnan190 rfl ?_
    show Steps p.tables e below (T136.setTop (mkF m 191 #[.val (.int q1), .val (.int q2), .val (.int q3), .val (.int q4), .val (.int sel), .val (.int nfl), .val (.int (kF sel)), .val (.int (psF sel)), .val (.double (pF sel)), .second, .val (.int (nF q1)), .val (.int (nkF sel q1 q2)), .val (.int (nkF sel q1 q3)), .val (.int (nF q4)), .val (.int (moF nfl)), .val (.int (wF nfl)), .val (.int (ffF nfl)), .val (.double (iV nfl)), .second, .val (.ref b134), .unset, .unset, .unset, .unset, .unset, .unset] [(.double (FP.dmul (FP.i2d (nF q1)) (pF sel))), (.ref b134)])) _
    refine st137.trans ?_
    refine XS.iload X137.here hx rfl (hb hby at_194) rfl ?_
    refine XS.iconst X137.here hx rfl (hb hby at_196) ?_
    refine XS.icmpNo X137.here hx rfl (hb hby at_197) rfl (flt hc197).1 ?_
    show Steps p.tables e below (T137.setTop (mkF m 200 #[.val (.int q1), .val (.int q2), .val (.int q3), .val (.int q4), .val (.int sel), .val (.int nfl), .val (.int (kF sel)), .val (.int (psF sel)), .val (.double (pF sel)), .second, .val (.int (nF q1)), .val (.int (nkF sel q1 q2)), .val (.int (nkF sel q1 q3)), .val (.int (nF q4)), .val (.int (moF nfl)), .val (.int (wF nfl)), .val (.int (ffF nfl)), .val (.double (iV nfl)), .second, .val (.ref b134), .unset, .unset, .unset, .unset, .unset, .unset] [])) _
    refine XS.aload X137.here hx rfl (hb hby at_200) rfl rfl ?_
    refine XS.iload X137.here hx rfl (hb hby at_202) rfl ?_
    refine XS.i2dS X137.here hx rfl (hb hby at_204) rfl rfl ?_
    refine XS.dload X137.here hx rfl (hb hby at_205) rfl ?_
    show Steps p.tables e below (T137.setTop (mkF m 207 #[.val (.int q1), .val (.int q2), .val (.int q3), .val (.int q4), .val (.int sel), .val (.int nfl), .val (.int (kF sel)), .val (.int (psF sel)), .val (.double (pF sel)), .second, .val (.int (nF q1)), .val (.int (nkF sel q1 q2)), .val (.int (nkF sel q1 q3)), .val (.int (nF q4)), .val (.int (moF nfl)), .val (.int (wF nfl)), .val (.int (ffF nfl)), .val (.double (iV nfl)), .second, .val (.ref b134), .unset, .unset, .unset, .unset, .unset, .unset] [(.double (pF sel)), (.double (FP.i2d (nkF sel q1 q2))), (.ref b134)])) _
    refine XS.dmulS X137.here hx rfl (hb hby at_207) rfl hnan207 rfl ?_
    show Steps p.tables e below (T137.setTop (mkF m 208 #[.val (.int q1), .val (.int q2), .val (.int q3), .val (.int q4), .val (.int sel), .val (.int nfl), .val (.int (kF sel)), .val (.int (psF sel)), .val (.double (pF sel)), .second, .val (.int (nF q1)), .val (.int (nkF sel q1 q2)), .val (.int (nkF sel q1 q3)), .val (.int (nF q4)), .val (.int (moF nfl)), .val (.int (wF nfl)), .val (.int (ffF nfl)), .val (.double (iV nfl)), .second, .val (.ref b134), .unset, .unset, .unset, .unset, .unset, .unset] [(.double (FP.dmul (FP.i2d (nkF sel q1 q2)) (pF sel))), (.ref b134)])) _
    refine st138.trans ?_
    refine XS.iload X138.here hx rfl (hb hby at_211) rfl ?_
    refine XS.iconst X138.here hx rfl (hb hby at_213) ?_
    refine XS.icmpNo X138.here hx rfl (hb hby at_214) rfl (flt hc214).1 ?_
    show Steps p.tables e below (T138.setTop (mkF m 217 #[.val (.int q1), .val (.int q2), .val (.int q3), .val (.int q4), .val (.int sel), .val (.int nfl), .val (.int (kF sel)), .val (.int (psF sel)), .val (.double (pF sel)), .second, .val (.int (nF q1)), .val (.int (nkF sel q1 q2)), .val (.int (nkF sel q1 q3)), .val (.int (nF q4)), .val (.int (moF nfl)), .val (.int (wF nfl)), .val (.int (ffF nfl)), .val (.double (iV nfl)), .second, .val (.ref b134), .unset, .unset, .unset, .unset, .unset, .unset] [])) _
    refine XS.aload X138.here hx rfl (hb hby at_217) rfl rfl ?_
    refine XS.iload X138.here hx rfl (hb hby at_219) rfl ?_
    refine XS.i2dS X138.here hx rfl (hb hby at_221) rfl rfl ?_
    refine XS.dload X138.here hx rfl (hb hby at_222) rfl ?_
    show Steps p.tables e below (T138.setTop (mkF m 224 #[.val (.int q1), .val (.int q2), .val (.int q3), .val (.int q4), .val (.int sel), .val (.int nfl), .val (.int (kF sel)), .val (.int (psF sel)), .val (.double (pF sel)), .second, .val (.int (nF q1)), .val (.int (nkF sel q1 q2)), .val (.int (nkF sel q1 q3)), .val (.int (nF q4)), .val (.int (moF nfl)), .val (.int (wF nfl)), .val (.int (ffF nfl)), .val (.double (iV nfl)), .second, .val (.ref b134), .unset, .unset, .unset, .unset, .unset, .unset] [(.double (pF sel)), (.double (FP.i2d (nkF sel q1 q3))), (.ref b134)])) _
    refine XS.dmulS X138.here hx rfl (hb hby at_224) rfl hnan224 rfl ?_
    show Steps p.tables e below (T138.setTop (mkF m 225 #[.val (.int q1), .val (.int q2), .val (.int q3), .val (.int q4), .val (.int sel), .val (.int nfl), .val (.int (kF sel)), .val (.int (psF sel)), .val (.double (pF sel)), .second, .val (.int (nF q1)), .val (.int (nkF sel q1 q2)), .val (.int (nkF sel q1 q3)), .val (.int (nF q4)), .val (.int (moF nfl)), .val (.int (wF nfl)), .val (.int (ffF nfl)), .val (.double (iV nfl)), .second, .val (.ref b134), .unset, .unset, .unset, .unset, .unset, .unset] [(.double (FP.dmul (FP.i2d (nkF sel q1 q3)) (pF sel))), (.ref b134)])) _
    refine st139.trans ?_
    refine XS.iload X139.here hx rfl (hb hby at_228) rfl ?_
    refine XS.iconst X139.here hx rfl (hb hby at_230) ?_
    refine XS.icmpYes X139.here hx rfl (pc0 := 231) (pc' := 245) rfl (hb hby at_231) rfl (tlt hc231).1 (by decide) (by decide) ?_
    show Steps p.tables e below (T139.setTop (mkF m 245 #[.val (.int q1), .val (.int q2), .val (.int q3), .val (.int q4), .val (.int sel), .val (.int nfl), .val (.int (kF sel)), .val (.int (psF sel)), .val (.double (pF sel)), .second, .val (.int (nF q1)), .val (.int (nkF sel q1 q2)), .val (.int (nkF sel q1 q3)), .val (.int (nF q4)), .val (.int (moF nfl)), .val (.int (wF nfl)), .val (.int (ffF nfl)), .val (.double (iV nfl)), .second, .val (.ref b134), .unset, .unset, .unset, .unset, .unset, .unset] [])) _
    refine XS.iload X139.here hx rfl (hb hby at_245) rfl ?_
    refine XS.ifNo X139.here hx rfl (hb hby at_247) rfl ((if0 _ _).trans (feq hc247).1) ?_
    refine XS.iload X139.here hx rfl (hb hby at_250) rfl ?_
    refine XS.ifYes X139.here hx rfl (pc0 := 252) (pc' := 262) rfl (hb hby at_252) rfl ((if0 _ _).trans (feq hc252).2) (by decide) (by decide) ?_
    show Steps p.tables e below (T139.setTop (mkF m 262 #[.val (.int q1), .val (.int q2), .val (.int q3), .val (.int q4), .val (.int sel), .val (.int nfl), .val (.int (kF sel)), .val (.int (psF sel)), .val (.double (pF sel)), .second, .val (.int (nF q1)), .val (.int (nkF sel q1 q2)), .val (.int (nkF sel q1 q3)), .val (.int (nF q4)), .val (.int (moF nfl)), .val (.int (wF nfl)), .val (.int (ffF nfl)), .val (.double (iV nfl)), .second, .val (.ref b134), .unset, .unset, .unset, .unset, .unset, .unset] [])) _
    refine XS.aload X139.here hx rfl (hb hby at_262) rfl rfl ?_
    show Steps p.tables e below (T139.setTop (mkF m 264 #[.val (.int q1), .val (.int q2), .val (.int q3), .val (.int q4), .val (.int sel), .val (.int nfl), .val (.int (kF sel)), .val (.int (psF sel)), .val (.double (pF sel)), .second, .val (.int (nF q1)), .val (.int (nkF sel q1 q2)), .val (.int (nkF sel q1 q3)), .val (.int (nF q4)), .val (.int (moF nfl)), .val (.int (wF nfl)), .val (.int (ffF nfl)), .val (.double (iV nfl)), .second, .val (.ref b134), .unset, .unset, .unset, .unset, .unset, .unset] [(.ref b134)])) _
    refine st140.trans ?_
    refine XS.dstore X140.here hx rfl (hb hby at_267) rfl (l' := #[.val (.int q1), .val (.int q2), .val (.int q3), .val (.int q4), .val (.int sel), .val (.int nfl), .val (.int (kF sel)), .val (.int (psF sel)), .val (.double (pF sel)), .second, .val (.int (nF q1)), .val (.int (nkF sel q1 q2)), .val (.int (nkF sel q1 q3)), .val (.int (nF q4)), .val (.int (moF nfl)), .val (.int (wF nfl)), .val (.int (ffF nfl)), .val (.double (iV nfl)), .second, .val (.ref b134), .val (.double (FP.dadd 0 (iV nfl))), .second, .unset, .unset, .unset, .unset]) rfl ?_
    refine XS.iload X140.here hx rfl (hb hby at_269) rfl ?_
    refine XS.ifNo X140.here hx rfl (hb hby at_271) rfl ((if0 _ _).trans (feq hc271).1) ?_
    show Steps p.tables e below (T140.setTop (mkF m 274 #[.val (.int q1), .val (.int q2), .val (.int q3), .val (.int q4), .val (.int sel), .val (.int nfl), .val (.int (kF sel)), .val (.int (psF sel)), .val (.double (pF sel)), .second, .val (.int (nF q1)), .val (.int (nkF sel q1 q2)), .val (.int (nkF sel q1 q3)), .val (.int (nF q4)), .val (.int (moF nfl)), .val (.int (wF nfl)), .val (.int (ffF nfl)), .val (.double (iV nfl)), .second, .val (.ref b134), .val (.double (FP.dadd 0 (iV nfl))), .second, .unset, .unset, .unset, .unset] [])) _
    refine XS.dload X140.here hx rfl (hb hby at_274) rfl ?_
    refine XS.dload X140.here hx rfl (hb hby at_276) rfl ?_
    refine XS.dcmpS X140.here hx rfl (hb hby at_278) rfl rfl ?_
    refine XS.ifNo X140.here hx rfl (hb hby at_279) rfl ((if0 _ _).trans (teq hc279).2) ?_
    show Steps p.tables e below (T140.setTop (mkF m 282 #[.val (.int q1), .val (.int q2), .val (.int q3), .val (.int q4), .val (.int sel), .val (.int nfl), .val (.int (kF sel)), .val (.int (psF sel)), .val (.double (pF sel)), .second, .val (.int (nF q1)), .val (.int (nkF sel q1 q2)), .val (.int (nkF sel q1 q3)), .val (.int (nF q4)), .val (.int (moF nfl)), .val (.int (wF nfl)), .val (.int (ffF nfl)), .val (.double (iV nfl)), .second, .val (.ref b134), .val (.double (FP.dadd 0 (iV nfl))), .second, .unset, .unset, .unset, .unset] [])) _
    refine XS.iconst X140.here hx rfl (hb hby at_282) ?_
    refine XS.goto X140.here hx rfl (pc0 := 283) (pc' := 287) rfl (hb hby at_283) (by decide) (by decide) ?_
    show Steps p.tables e below (T140.setTop (mkF m 287 #[.val (.int q1), .val (.int q2), .val (.int q3), .val (.int q4), .val (.int sel), .val (.int nfl), .val (.int (kF sel)), .val (.int (psF sel)), .val (.double (pF sel)), .second, .val (.int (nF q1)), .val (.int (nkF sel q1 q2)), .val (.int (nkF sel q1 q3)), .val (.int (nF q4)), .val (.int (moF nfl)), .val (.int (wF nfl)), .val (.int (ffF nfl)), .val (.double (iV nfl)), .second, .val (.ref b134), .val (.double (FP.dadd 0 (iV nfl))), .second, .unset, .unset, .unset, .unset] [(.int (1 : Int32))])) _
    exact retN X140 hx (t := .boolean) Bd.returns (by simp) (hb hby at_287) hr
  · show Q0  h0 n0 _ T140.heap _
    exact ⟨rfl, N140⟩
set_option maxRecDepth 65536 in
set_option maxHeartbeats 40000000 in
theorem rm0_l3 (l : Launch) (Z : State) (a0 : Array Value) (hw : ∀ d ∈ tables_1, d.before a0 Z = true) (ws : List Jvm.Cond) (q1 : Int32) (q2 : Int32) (q3 : Int32) (q4 : Int32) (sel : Int32) (nfl : Int32) (U : Nat) (h0 : Heap) (n0 : Nat) (Z0 : n0 ≤ h0.size) (hU : 74 ≤ U ∧ U ≤ 2074) (hU2 : U = 2074 ∨ U ≤ 1074) (hp : DV 1 U (pF sel)) (d1 : DV (nF q1).toInt U (FP.dmul (FP.i2d (nF q1)) (pF sel))) (r1 : -8388608 ≤ (nF q1).toInt ∧ (nF q1).toInt ≤ 8388607) (d2 : DV (nkF sel q1 q2).toInt U (FP.dmul (FP.i2d (nkF sel q1 q2)) (pF sel))) (r2 : -8388608 ≤ (nkF sel q1 q2).toInt ∧ (nkF sel q1 q2).toInt ≤ 8388607) (d3 : DV (nkF sel q1 q3).toInt U (FP.dmul (FP.i2d (nkF sel q1 q3)) (pF sel))) (r3 : -8388608 ≤ (nkF sel q1 q3).toInt ∧ (nkF sel q1 q3).toInt ≤ 8388607) (hin1 : Jvm.Free.Fl.NoNaN64 (iV nfl)) (hin2 : ¬ ((infF (iV nfl)) = (0 : Int32))) (hin3 : Jvm.Free.Fl.NoNaN64 (FP.dadd 0 (iV nfl))) (hin4 : ¬ ((cmpValue (FP.dcmp (FP.dadd 0 (iV nfl)) FP.dconst0) .l) = (0 : Int32))) (hc168 : ¬ ((wF nfl) = (0 : Int32))) (hc173 : (ffF nfl) = (0 : Int32)) (hnan190 : Jvm.Free.Fl.NoNaN64 (FP.dmul (FP.i2d (nF q1)) (pF sel))) (hc197 : ¬ ((kF sel) < (2 : Int32))) (hnan207 : Jvm.Free.Fl.NoNaN64 (FP.dmul (FP.i2d (nkF sel q1 q2)) (pF sel))) (hc214 : ¬ ((kF sel) < (3 : Int32))) (hnan224 : Jvm.Free.Fl.NoNaN64 (FP.dmul (FP.i2d (nkF sel q1 q3)) (pF sel))) (hc231 : (kF sel) < (4 : Int32)) (hc247 : ¬ ((wF nfl) = (0 : Int32))) (hc252 : (ffF nfl) = (0 : Int32)) (hc271 : ¬ ((wF nfl) = (0 : Int32))) (hc279 : (cmpValue (FP.dcmp (FP.dadd 0 (iV nfl)) (iV nfl)) .l) = (0 : Int32)) :
    MetFree l x (head1 (Jvm.Cond.code x code maxLocals ret :: ws) room_1) (fun aa_ U_ => aa_ = #[(.int q1), (.int q2), (.int q3), (.int q4), (.int sel), (.int nfl)] ∧ Z.Warmed39 U_.vm ∧ U_.heap = h0) (fun _ _ _ _ _ => True) (fun _ U_ o_ V_ => ∃ v_ L_, o_ = .returned v_ ∧ Q0  h0 n0 v_ V_.heap L_ ∧ FrameEnd U_ o_ V_ L_ room_1.cells room_1.slots) := by
  refine MetFree.of_bodySF (plainFor_of_name pn_0) hisR ?_
  intro p e s m args below meth c s₁ Bd hml0 hP hK
  obtain ⟨rfl, hZ, hh⟩ := hP
  have hx := Bd.exec
  have hby := Bd.bytes
  have hml : c.maxLocals = 26 := hml0
  have hown : s.vm.findClass "com/example/retiremetric/retiremetric/engine/MeanMeanPinLaw" = some m.cls := findClass_of_methodNamed Bd.named
  have hnm := (name_of_methodNamed Bd.named Bd.method).1
  have X0 : Stand p l e room_1 s m #[(.int q1), (.int q2), (.int q3), (.int q4), (.int sel), (.int nfl)] below meth c s₁ [] 0 0 := Stand.of_body Bd
  have e0 : s₁.heap = h0 := by rw [← hh, Bd.state]; rfl
  have N0 := Fr.nil n0
  have pre0 : ∀ zz, Steps p.tables e below (s₁.setTop (mkF m 0 #[.val (.int q1), .val (.int q2), .val (.int q3), .val (.int q4), .val (.int sel), .val (.int nfl), .unset, .unset, .unset, .unset, .unset, .unset, .unset, .unset, .unset, .unset, .unset, .unset, .unset, .unset, .unset, .unset, .unset, .unset, .unset, .unset] [])) zz → Steps p.tables e below (s₁.setTop (entryFrame m #[(.int q1), (.int q2), (.int q3), (.int q4), (.int sel), (.int nfl)] maxLocals)) zz := fun zz k => castTop (ef_0 m q1 q2 q3 q4 sel nfl) k
  have mv0 : MV U 0 0 0 0 FP.dconst1 0 0 := ⟨by omega, zero_dv _, one_dv, zero_dv _, zero_dv _, by simp⟩
  obtain ⟨T141, h141, X141, e141, E141, A141, D141, -, st141⟩ := newO X0 hx hZ hown (hw _ (List.mem_of_getElem? (i := 1) rfl)) (hw _ (List.mem_of_getElem? (i := 2) rfl)) (hw _ (List.mem_of_getElem? (i := 3) rfl)) e0 (g := (mkF m 157 #[.val (.int q1), .val (.int q2), .val (.int q3), .val (.int q4), .val (.int sel), .val (.int nfl), .val (.int (kF sel)), .val (.int (psF sel)), .val (.double (pF sel)), .second, .val (.int (nF q1)), .val (.int (nkF sel q1 q2)), .val (.int (nkF sel q1 q3)), .val (.int (nF q4)), .val (.int (moF nfl)), .val (.int (wF nfl)), .val (.int (ffF nfl)), .val (.double (iV nfl)), .second, .unset, .unset, .unset, .unset, .unset, .unset, .unset] [])) rfl (hb hby at_157) (by decide) (by decide)
  obtain ⟨b141, g141⟩ : ∃ z, z = h0.size := ⟨_, rfl⟩
  rw [← g141] at A141 D141 st141
  have E_b141 := A141
  have g_b141 : n0 ≤ b141 := Nat.le_trans Z0 (Nat.le_of_eq g141.symm)
  have sz_b141 : h0.size ≤ b141 := Nat.le_trans (Keep.refl h0 []).1 (Nat.le_of_eq g141.symm)
  have K141 := (Keep.refl h0 []).ext E141
  have Z141 : n0 ≤ h141.size := Nat.le_trans Z0 E141.1
  have F_scale_b141 : Fld Z h141 b141 "com/example/retiremetric/retiremetric/engine/Mean" "scale" "D" (.double 0) := D141 (Or.inl (hw _ (List.mem_of_getElem? (i := 11) rfl))) (ty := .double) (by decide)
  have F_count_b141 : Fld Z h141 b141 "com/example/retiremetric/retiremetric/engine/Mean" "count" "J" (.long (0 : Int64)) := D141 (Or.inl (hw _ (List.mem_of_getElem? (i := 27) rfl))) (ty := .long) (by decide)
  have F_first_b141 : Fld Z h141 b141 "com/example/retiremetric/retiremetric/engine/Mean" "first" "D" (.double 0) := D141 (Or.inl (hw _ (List.mem_of_getElem? (i := 29) rfl))) (ty := .double) (by decide)
  have F_scaledFirst_b141 : Fld Z h141 b141 "com/example/retiremetric/retiremetric/engine/Mean" "scaledFirst" "D" (.double 0) := D141 (Or.inl (hw _ (List.mem_of_getElem? (i := 31) rfl))) (ty := .double) (by decide)
  have F_differences_b141 : Fld Z h141 b141 "com/example/retiremetric/retiremetric/engine/Mean" "differences" "D" (.double 0) := D141 (Or.inl (hw _ (List.mem_of_getElem? (i := 33) rfl))) (ty := .double) (by decide)
  have F_infinities_b141 : Fld Z h141 b141 "com/example/retiremetric/retiremetric/engine/Mean" "infinities" "D" (.double 0) := D141 (Or.inl (hw _ (List.mem_of_getElem? (i := 40) rfl))) (ty := .double) (by decide)
  obtain ⟨_, _, ⟨T142, L142, k142, n142⟩, -, X142, ⟨Lc142, hQ142, l142, y142, z142⟩, st142⟩ := X141.specialBack hx (y := (⟨"com/example/retiremetric/retiremetric/engine/Mean", "<init>", "()V"⟩ : MethodName)) rfl hown (mvT hZ (hw _ (List.mem_of_getElem? (i := 4) rfl))) (mvT hZ (hw _ (List.mem_of_getElem? (i := 5) rfl))) (mvT hZ (hw _ (List.mem_of_getElem? (i := 6) rfl))) (by decide) (backOf (W := 1) (rm1 l Z a0 hw [] b141 h141 n0 Z141 g_b141 ⟨E_b141, F_first_b141, F_scale_b141, F_scaledFirst_b141, F_differences_b141, F_infinities_b141, F_count_b141⟩) hZ (hw _ (List.mem_of_getElem? (i := 6) rfl)) (hw _ (List.mem_of_getElem? (i := 3) rfl)) (by decide) (by decide)) (g := (mkF m 161 #[.val (.int q1), .val (.int q2), .val (.int q3), .val (.int q4), .val (.int sel), .val (.int nfl), .val (.int (kF sel)), .val (.int (psF sel)), .val (.double (pF sel)), .second, .val (.int (nF q1)), .val (.int (nkF sel q1 q2)), .val (.int (nkF sel q1 q3)), .val (.int (nF q4)), .val (.int (moF nfl)), .val (.int (wF nfl)), .val (.int (ffF nfl)), .val (.double (iV nfl)), .second, .unset, .unset, .unset, .unset, .unset, .unset, .unset] [(.ref b141), (.ref b141)])) rfl (by rw [hml]; rfl) (Steps.refl _) (a := b141) (argsL := []) (rest := [(.ref b141)]) (lenOf pd_0 rfl) rfl (by show 2 * 0 + _ ≤ _; exact Nat.le_of_eq rfl) (hb hby at_161) (fun _ _ => ⟨rfl, e141, (by decide : 1 + 0 ≤ _), (by decide : 6 + 0 ≤ _)⟩)
  dsimp only [Pt.U, Pt.locs, Pt.cells, Pt.slots] at X142 l142 y142 z142 st142 hQ142
  subst l142 y142 z142
  obtain ⟨rfl, N142q, K142q, M142⟩ := hQ142
  have N142 := Fr.app N0 N142q
  have Z142 : n0 ≤ T142.heap.size := Nat.le_trans Z141 K142q.1
  obtain ⟨cq143, kq143, q143a, q143b, q143c⟩ := isOf hZ rfl M142.1
  obtain ⟨_, _, ⟨T143, L143, k143, n143⟩, -, X143, ⟨Lc143, hQ143, l143, y143, z143⟩, st143⟩ := X142.virtualBack hx (y := (⟨"com/example/retiremetric/retiremetric/engine/Mean", "add", "(D)V"⟩ : MethodName)) (z := (⟨"com/example/retiremetric/retiremetric/engine/Mean", "add", "(D)V"⟩ : MethodName)) hown (mvT hZ (hw _ (List.mem_of_getElem? (i := 12) rfl))) (mvT hZ (hw _ (List.mem_of_getElem? (i := 13) rfl))) (notFace_of_selects (args := #[]) (mvT hZ (hw _ (List.mem_of_getElem? (i := 15) rfl)))) (mvT hZ (hw _ (List.mem_of_getElem? (i := 15) rfl))) (mvT hZ (hw _ (List.mem_of_getElem? (i := 14) rfl))) (by decide) (backOf (W := 0) (rm3_one l Z a0 hw [] b141 (FP.dmul (FP.i2d (nF q1)) (pF sel)) 0 U (nF q1).toInt T142.heap n0 Z142 g_b141 M142 hU d1 (by omega)) hZ (hw _ (List.mem_of_getElem? (i := 16) rfl)) (hw _ (List.mem_of_getElem? (i := 3) rfl)) (by decide) (by decide)) q143a q143c (g := (mkF m 191 #[.val (.int q1), .val (.int q2), .val (.int q3), .val (.int q4), .val (.int sel), .val (.int nfl), .val (.int (kF sel)), .val (.int (psF sel)), .val (.double (pF sel)), .second, .val (.int (nF q1)), .val (.int (nkF sel q1 q2)), .val (.int (nkF sel q1 q3)), .val (.int (nF q4)), .val (.int (moF nfl)), .val (.int (wF nfl)), .val (.int (ffF nfl)), .val (.double (iV nfl)), .second, .val (.ref b141), .unset, .unset, .unset, .unset, .unset, .unset] [(.double (FP.dmul (FP.i2d (nF q1)) (pF sel))), (.ref b141)])) rfl (by rw [hml]; rfl) (Steps.refl _) (argsL := [(.double (FP.dmul (FP.i2d (nF q1)) (pF sel)))]) (rest := []) (lenOf pd_1 rfl) rfl (by show 2 * 0 + _ ≤ _; exact Nat.le_of_eq rfl) (hb hby at_191) (fun _ _ => ⟨rfl, rfl, (by decide : 1 + 0 ≤ _), (by decide : 6 + 0 ≤ _)⟩)
  dsimp only [Pt.U, Pt.locs, Pt.cells, Pt.slots] at X143 l143 y143 z143 st143 hQ143
  subst l143 y143 z143
  obtain ⟨x143, f143, sc143, sf143, df143, V143, rfl, N143q, K143q, M143⟩ := hQ143
  have N143 := Fr.app N142 N143q
  have Z143 : n0 ≤ T143.heap.size := Nat.le_trans Z142 K143q.1
  obtain ⟨cq144, kq144, q144a, q144b, q144c⟩ := isOf hZ rfl M143.1
  obtain ⟨_, _, ⟨T144, L144, k144, n144⟩, -, X144, ⟨Lc144, hQ144, l144, y144, z144⟩, st144⟩ := X143.virtualBack hx (y := (⟨"com/example/retiremetric/retiremetric/engine/Mean", "add", "(D)V"⟩ : MethodName)) (z := (⟨"com/example/retiremetric/retiremetric/engine/Mean", "add", "(D)V"⟩ : MethodName)) hown (mvT hZ (hw _ (List.mem_of_getElem? (i := 12) rfl))) (mvT hZ (hw _ (List.mem_of_getElem? (i := 13) rfl))) (notFace_of_selects (args := #[]) (mvT hZ (hw _ (List.mem_of_getElem? (i := 15) rfl)))) (mvT hZ (hw _ (List.mem_of_getElem? (i := 15) rfl))) (mvT hZ (hw _ (List.mem_of_getElem? (i := 14) rfl))) (by decide) (backOf (W := 0) (rm3_fin l Z a0 hw [] b141 (FP.dmul (FP.i2d (nkF sel q1 q2)) (pF sel)) f143 sc143 sf143 df143 0 (0 + (1 : Int64)) U (nF q1).toInt 0 (nkF sel q1 q2).toInt x143 T143.heap n0 Z143 g_b141 M143 hU hU2 d2 V143 (by omega) (by omega) (by omega) (by omega) (by decide)) hZ (hw _ (List.mem_of_getElem? (i := 16) rfl)) (hw _ (List.mem_of_getElem? (i := 3) rfl)) (by decide) (by decide)) q144a q144c (g := (mkF m 208 #[.val (.int q1), .val (.int q2), .val (.int q3), .val (.int q4), .val (.int sel), .val (.int nfl), .val (.int (kF sel)), .val (.int (psF sel)), .val (.double (pF sel)), .second, .val (.int (nF q1)), .val (.int (nkF sel q1 q2)), .val (.int (nkF sel q1 q3)), .val (.int (nF q4)), .val (.int (moF nfl)), .val (.int (wF nfl)), .val (.int (ffF nfl)), .val (.double (iV nfl)), .second, .val (.ref b141), .unset, .unset, .unset, .unset, .unset, .unset] [(.double (FP.dmul (FP.i2d (nkF sel q1 q2)) (pF sel))), (.ref b141)])) rfl (by rw [hml]; rfl) (Steps.refl _) (argsL := [(.double (FP.dmul (FP.i2d (nkF sel q1 q2)) (pF sel)))]) (rest := []) (lenOf pd_1 rfl) rfl (by show 2 * 0 + _ ≤ _; exact Nat.le_of_eq rfl) (hb hby at_208) (fun _ _ => ⟨rfl, rfl, (by decide : 1 + 0 ≤ _), (by decide : 6 + 0 ≤ _)⟩)
  dsimp only [Pt.U, Pt.locs, Pt.cells, Pt.slots] at X144 l144 y144 z144 st144 hQ144
  subst l144 y144 z144
  obtain ⟨x144, f144, sc144, sf144, df144, V144, rfl, N144q, K144q, M144⟩ := hQ144
  have N144 := Fr.app N143 N144q
  have Z144 : n0 ≤ T144.heap.size := Nat.le_trans Z143 K144q.1
  obtain ⟨cq145, kq145, q145a, q145b, q145c⟩ := isOf hZ rfl M144.1
  obtain ⟨_, _, ⟨T145, L145, k145, n145⟩, -, X145, ⟨Lc145, hQ145, l145, y145, z145⟩, st145⟩ := X144.virtualBack hx (y := (⟨"com/example/retiremetric/retiremetric/engine/Mean", "add", "(D)V"⟩ : MethodName)) (z := (⟨"com/example/retiremetric/retiremetric/engine/Mean", "add", "(D)V"⟩ : MethodName)) hown (mvT hZ (hw _ (List.mem_of_getElem? (i := 12) rfl))) (mvT hZ (hw _ (List.mem_of_getElem? (i := 13) rfl))) (notFace_of_selects (args := #[]) (mvT hZ (hw _ (List.mem_of_getElem? (i := 15) rfl)))) (mvT hZ (hw _ (List.mem_of_getElem? (i := 15) rfl))) (mvT hZ (hw _ (List.mem_of_getElem? (i := 14) rfl))) (by decide) (backOf (W := 0) (rm3_fin l Z a0 hw [] b141 (FP.dmul (FP.i2d (nkF sel q1 q3)) (pF sel)) f144 sc144 sf144 df144 0 ((0 + (1 : Int64)) + (1 : Int64)) U (nF q1).toInt (0 + ((nkF sel q1 q2).toInt - (nF q1).toInt)) (nkF sel q1 q3).toInt x144 T144.heap n0 Z144 g_b141 M144 hU hU2 d3 V144 (by omega) (by omega) (by omega) (by omega) (by decide)) hZ (hw _ (List.mem_of_getElem? (i := 16) rfl)) (hw _ (List.mem_of_getElem? (i := 3) rfl)) (by decide) (by decide)) q145a q145c (g := (mkF m 225 #[.val (.int q1), .val (.int q2), .val (.int q3), .val (.int q4), .val (.int sel), .val (.int nfl), .val (.int (kF sel)), .val (.int (psF sel)), .val (.double (pF sel)), .second, .val (.int (nF q1)), .val (.int (nkF sel q1 q2)), .val (.int (nkF sel q1 q3)), .val (.int (nF q4)), .val (.int (moF nfl)), .val (.int (wF nfl)), .val (.int (ffF nfl)), .val (.double (iV nfl)), .second, .val (.ref b141), .unset, .unset, .unset, .unset, .unset, .unset] [(.double (FP.dmul (FP.i2d (nkF sel q1 q3)) (pF sel))), (.ref b141)])) rfl (by rw [hml]; rfl) (Steps.refl _) (argsL := [(.double (FP.dmul (FP.i2d (nkF sel q1 q3)) (pF sel)))]) (rest := []) (lenOf pd_1 rfl) rfl (by show 2 * 0 + _ ≤ _; exact Nat.le_of_eq rfl) (hb hby at_225) (fun _ _ => ⟨rfl, rfl, (by decide : 1 + 0 ≤ _), (by decide : 6 + 0 ≤ _)⟩)
  dsimp only [Pt.U, Pt.locs, Pt.cells, Pt.slots] at X145 l145 y145 z145 st145 hQ145
  subst l145 y145 z145
  obtain ⟨x145, f145, sc145, sf145, df145, V145, rfl, N145q, K145q, M145⟩ := hQ145
  have N145 := Fr.app N144 N145q
  have Z145 : n0 ≤ T145.heap.size := Nat.le_trans Z144 K145q.1
  obtain ⟨cq146, kq146, q146a, q146b, q146c⟩ := isOf hZ rfl M145.1
  obtain ⟨_, _, ⟨T146, L146, k146, n146⟩, -, X146, ⟨Lc146, hQ146, l146, y146, z146⟩, st146⟩ := X145.virtualBack hx (y := (⟨"com/example/retiremetric/retiremetric/engine/Mean", "add", "(D)V"⟩ : MethodName)) (z := (⟨"com/example/retiremetric/retiremetric/engine/Mean", "add", "(D)V"⟩ : MethodName)) hown (mvT hZ (hw _ (List.mem_of_getElem? (i := 12) rfl))) (mvT hZ (hw _ (List.mem_of_getElem? (i := 13) rfl))) (notFace_of_selects (args := #[]) (mvT hZ (hw _ (List.mem_of_getElem? (i := 15) rfl)))) (mvT hZ (hw _ (List.mem_of_getElem? (i := 15) rfl))) (mvT hZ (hw _ (List.mem_of_getElem? (i := 14) rfl))) (by decide) (backOf (W := 0) (rm3_I l Z a0 hw [] b141 (iV nfl) f145 sc145 sf145 df145 0 (((0 + (1 : Int64)) + (1 : Int64)) + (1 : Int64)) T145.heap n0 Z145 g_b141 M145 hin1 hin2 hin3) hZ (hw _ (List.mem_of_getElem? (i := 16) rfl)) (hw _ (List.mem_of_getElem? (i := 3) rfl)) (by decide) (by decide)) q146a q146c (g := (mkF m 259 #[.val (.int q1), .val (.int q2), .val (.int q3), .val (.int q4), .val (.int sel), .val (.int nfl), .val (.int (kF sel)), .val (.int (psF sel)), .val (.double (pF sel)), .second, .val (.int (nF q1)), .val (.int (nkF sel q1 q2)), .val (.int (nkF sel q1 q3)), .val (.int (nF q4)), .val (.int (moF nfl)), .val (.int (wF nfl)), .val (.int (ffF nfl)), .val (.double (iV nfl)), .second, .val (.ref b141), .unset, .unset, .unset, .unset, .unset, .unset] [(.double (iV nfl)), (.ref b141)])) rfl (by rw [hml]; rfl) (Steps.refl _) (argsL := [(.double (iV nfl))]) (rest := []) (lenOf pd_1 rfl) rfl (by show 2 * 0 + _ ≤ _; exact Nat.le_of_eq rfl) (hb hby at_259) (fun _ _ => ⟨rfl, rfl, (by decide : 1 + 0 ≤ _), (by decide : 6 + 0 ≤ _)⟩)
  dsimp only [Pt.U, Pt.locs, Pt.cells, Pt.slots] at X146 l146 y146 z146 st146 hQ146
  subst l146 y146 z146
  obtain ⟨rfl, N146q, K146q, M146⟩ := hQ146
  have N146 := Fr.app N145 N146q
  have Z146 : n0 ≤ T146.heap.size := Nat.le_trans Z145 K146q.1
  obtain ⟨cq147, kq147, q147a, q147b, q147c⟩ := isOf hZ rfl M146.1
  obtain ⟨_, _, ⟨T147, L147, k147, n147⟩, -, X147, ⟨Lc147, hQ147, l147, y147, z147⟩, st147⟩ := X146.virtualBack hx (y := (⟨"com/example/retiremetric/retiremetric/engine/Mean", "mean", "()D"⟩ : MethodName)) (z := (⟨"com/example/retiremetric/retiremetric/engine/Mean", "mean", "()D"⟩ : MethodName)) hown (mvT hZ (hw _ (List.mem_of_getElem? (i := 34) rfl))) (mvT hZ (hw _ (List.mem_of_getElem? (i := 35) rfl))) (notFace_of_selects (args := #[]) (mvT hZ (hw _ (List.mem_of_getElem? (i := 37) rfl)))) (mvT hZ (hw _ (List.mem_of_getElem? (i := 37) rfl))) (mvT hZ (hw _ (List.mem_of_getElem? (i := 36) rfl))) (by decide) (backOf (W := 0) (rm6_I l Z a0 hw [] b141 f145 sc145 sf145 df145 (FP.dadd 0 (iV nfl)) ((((0 + (1 : Int64)) + (1 : Int64)) + (1 : Int64)) + (1 : Int64)) T146.heap n0 Z146 M146 (by decide) hin4) hZ (hw _ (List.mem_of_getElem? (i := 38) rfl)) (hw _ (List.mem_of_getElem? (i := 3) rfl)) (by decide) (by decide)) q147a q147c (g := (mkF m 264 #[.val (.int q1), .val (.int q2), .val (.int q3), .val (.int q4), .val (.int sel), .val (.int nfl), .val (.int (kF sel)), .val (.int (psF sel)), .val (.double (pF sel)), .second, .val (.int (nF q1)), .val (.int (nkF sel q1 q2)), .val (.int (nkF sel q1 q3)), .val (.int (nF q4)), .val (.int (moF nfl)), .val (.int (wF nfl)), .val (.int (ffF nfl)), .val (.double (iV nfl)), .second, .val (.ref b141), .unset, .unset, .unset, .unset, .unset, .unset] [(.ref b141)])) rfl (by rw [hml]; rfl) (Steps.refl _) (argsL := []) (rest := []) (lenOf pd_4 rfl) rfl (by show 2 * 0 + _ ≤ _; exact Nat.le_of_eq rfl) (hb hby at_264) (fun _ _ => ⟨rfl, rfl, (by decide : 1 + 0 ≤ _), (by decide : 6 + 0 ≤ _)⟩)
  dsimp only [Pt.U, Pt.locs, Pt.cells, Pt.slots] at X147 l147 y147 z147 st147 hQ147
  subst l147 y147 z147
  obtain ⟨rfl, N147q, e147⟩ := hQ147
  have N147 := Fr.app N146 N147q
  obtain ⟨fs, hr, hrun, hended, hW, hsame⟩ := X147.leave (v := some (.int (1 : Int32))) (fun h => by rw [Bd.returns] at h; cases h)
  refine ⟨_, _, pre0 _ ?_, hrun, hended, _, _, rfl, ?_, ⟨_, rfl⟩, hW, hsame.mono (by decide) (by decide)⟩
  · refine sg1 q1 q2 q3 q4 sel nfl X0 hx hZ hw hby hown ?_
    refine sg2 q1 q2 q3 q4 sel nfl X0 hx hZ hw hby hown ?_
    refine sg3 q1 q2 q3 q4 sel nfl X0 hx hZ hw hby hown ?_
    refine sg4 q1 q2 q3 q4 sel nfl X0 hx hZ hw hby hown ?_
    refine sg5 q1 q2 q3 q4 sel nfl X0 hx hZ hw hby hown ?_
    refine sg6 q1 q2 q3 q4 sel nfl X0 hx hZ hw hby hown ?_
    show Steps p.tables e below (s₁.setTop (mkF m 157 #[.val (.int q1), .val (.int q2), .val (.int q3), .val (.int q4), .val (.int sel), .val (.int nfl), .val (.int (kF sel)), .val (.int (psF sel)), .val (.double (pF sel)), .second, .val (.int (nF q1)), .val (.int (nkF sel q1 q2)), .val (.int (nkF sel q1 q3)), .val (.int (nF q4)), .val (.int (moF nfl)), .val (.int (wF nfl)), .val (.int (ffF nfl)), .val (.double (iV nfl)), .second, .unset, .unset, .unset, .unset, .unset, .unset, .unset] [])) _
    refine st141 _ ?_
    refine XS.dup X141.here hx rfl (hb hby at_160) rfl rfl ?_
    show Steps p.tables e below (T141.setTop (mkF m 161 #[.val (.int q1), .val (.int q2), .val (.int q3), .val (.int q4), .val (.int sel), .val (.int nfl), .val (.int (kF sel)), .val (.int (psF sel)), .val (.double (pF sel)), .second, .val (.int (nF q1)), .val (.int (nkF sel q1 q2)), .val (.int (nkF sel q1 q3)), .val (.int (nF q4)), .val (.int (moF nfl)), .val (.int (wF nfl)), .val (.int (ffF nfl)), .val (.double (iV nfl)), .second, .unset, .unset, .unset, .unset, .unset, .unset, .unset] [(.ref b141), (.ref b141)])) _
    refine st142.trans ?_
    refine XS.astore X142.here hx rfl (hb hby at_164) rfl rfl (l' := #[.val (.int q1), .val (.int q2), .val (.int q3), .val (.int q4), .val (.int sel), .val (.int nfl), .val (.int (kF sel)), .val (.int (psF sel)), .val (.double (pF sel)), .second, .val (.int (nF q1)), .val (.int (nkF sel q1 q2)), .val (.int (nkF sel q1 q3)), .val (.int (nF q4)), .val (.int (moF nfl)), .val (.int (wF nfl)), .val (.int (ffF nfl)), .val (.double (iV nfl)), .second, .val (.ref b141), .unset, .unset, .unset, .unset, .unset, .unset]) rfl ?_
    refine XS.iload X142.here hx rfl (hb hby at_166) rfl ?_
    refine XS.ifNo X142.here hx rfl (hb hby at_168) rfl ((if0 _ _).trans (feq hc168).1) ?_
    show Steps p.tables e below (T142.setTop (mkF m 171 #[.val (.int q1), .val (.int q2), .val (.int q3), .val (.int q4), .val (.int sel), .val (.int nfl), .val (.int (kF sel)), .val (.int (psF sel)), .val (.double (pF sel)), .second, .val (.int (nF q1)), .val (.int (nkF sel q1 q2)), .val (.int (nkF sel q1 q3)), .val (.int (nF q4)), .val (.int (moF nfl)), .val (.int (wF nfl)), .val (.int (ffF nfl)), .val (.double (iV nfl)), .second, .val (.ref b141), .unset, .unset, .unset, .unset, .unset, .unset] [])) _
    refine XS.iload X142.here hx rfl (hb hby at_171) rfl ?_
    refine XS.ifYes X142.here hx rfl (pc0 := 173) (pc' := 183) rfl (hb hby at_173) rfl ((if0 _ _).trans (teq hc173).1) (by decide) (by decide) ?_
    refine XS.aload X142.here hx rfl (hb hby at_183) rfl rfl ?_
    refine XS.iload X142.here hx rfl (hb hby at_185) rfl ?_
    show Steps p.tables e below (T142.setTop (mkF m 187 #[.val (.int q1), .val (.int q2), .val (.int q3), .val (.int q4), .val (.int sel), .val (.int nfl), .val (.int (kF sel)), .val (.int (psF sel)), .val (.double (pF sel)), .second, .val (.int (nF q1)), .val (.int (nkF sel q1 q2)), .val (.int (nkF sel q1 q3)), .val (.int (nF q4)), .val (.int (moF nfl)), .val (.int (wF nfl)), .val (.int (ffF nfl)), .val (.double (iV nfl)), .second, .val (.ref b141), .unset, .unset, .unset, .unset, .unset, .unset] [(.int (nF q1)), (.ref b141)])) _
    refine XS.i2dS X142.here hx rfl (hb hby at_187) rfl rfl ?_
    refine XS.dload X142.here hx rfl (hb hby at_188) rfl ?_
    refine XS.dmulS X142.here hx rfl (hb hby at_190) rfl hnan190 rfl ?_
    show Steps p.tables e below (T142.setTop (mkF m 191 #[.val (.int q1), .val (.int q2), .val (.int q3), .val (.int q4), .val (.int sel), .val (.int nfl), .val (.int (kF sel)), .val (.int (psF sel)), .val (.double (pF sel)), .second, .val (.int (nF q1)), .val (.int (nkF sel q1 q2)), .val (.int (nkF sel q1 q3)), .val (.int (nF q4)), .val (.int (moF nfl)), .val (.int (wF nfl)), .val (.int (ffF nfl)), .val (.double (iV nfl)), .second, .val (.ref b141), .unset, .unset, .unset, .unset, .unset, .unset] [(.double (FP.dmul (FP.i2d (nF q1)) (pF sel))), (.ref b141)])) _
    refine st143.trans ?_
    refine XS.iload X143.here hx rfl (hb hby at_194) rfl ?_
    refine XS.iconst X143.here hx rfl (hb hby at_196) ?_
    refine XS.icmpNo X143.here hx rfl (hb hby at_197) rfl (flt hc197).1 ?_
    show Steps p.tables e below (T143.setTop (mkF m 200 #[.val (.int q1), .val (.int q2), .val (.int q3), .val (.int q4), .val (.int sel), .val (.int nfl), .val (.int (kF sel)), .val (.int (psF sel)), .val (.double (pF sel)), .second, .val (.int (nF q1)), .val (.int (nkF sel q1 q2)), .val (.int (nkF sel q1 q3)), .val (.int (nF q4)), .val (.int (moF nfl)), .val (.int (wF nfl)), .val (.int (ffF nfl)), .val (.double (iV nfl)), .second, .val (.ref b141), .unset, .unset, .unset, .unset, .unset, .unset] [])) _
    refine XS.aload X143.here hx rfl (hb hby at_200) rfl rfl ?_
    refine XS.iload X143.here hx rfl (hb hby at_202) rfl ?_
    refine XS.i2dS X143.here hx rfl (hb hby at_204) rfl rfl ?_
    refine XS.dload X143.here hx rfl (hb hby at_205) rfl ?_
    show Steps p.tables e below (T143.setTop (mkF m 207 #[.val (.int q1), .val (.int q2), .val (.int q3), .val (.int q4), .val (.int sel), .val (.int nfl), .val (.int (kF sel)), .val (.int (psF sel)), .val (.double (pF sel)), .second, .val (.int (nF q1)), .val (.int (nkF sel q1 q2)), .val (.int (nkF sel q1 q3)), .val (.int (nF q4)), .val (.int (moF nfl)), .val (.int (wF nfl)), .val (.int (ffF nfl)), .val (.double (iV nfl)), .second, .val (.ref b141), .unset, .unset, .unset, .unset, .unset, .unset] [(.double (pF sel)), (.double (FP.i2d (nkF sel q1 q2))), (.ref b141)])) _
    refine XS.dmulS X143.here hx rfl (hb hby at_207) rfl hnan207 rfl ?_
    show Steps p.tables e below (T143.setTop (mkF m 208 #[.val (.int q1), .val (.int q2), .val (.int q3), .val (.int q4), .val (.int sel), .val (.int nfl), .val (.int (kF sel)), .val (.int (psF sel)), .val (.double (pF sel)), .second, .val (.int (nF q1)), .val (.int (nkF sel q1 q2)), .val (.int (nkF sel q1 q3)), .val (.int (nF q4)), .val (.int (moF nfl)), .val (.int (wF nfl)), .val (.int (ffF nfl)), .val (.double (iV nfl)), .second, .val (.ref b141), .unset, .unset, .unset, .unset, .unset, .unset] [(.double (FP.dmul (FP.i2d (nkF sel q1 q2)) (pF sel))), (.ref b141)])) _
    refine st144.trans ?_
    refine XS.iload X144.here hx rfl (hb hby at_211) rfl ?_
    refine XS.iconst X144.here hx rfl (hb hby at_213) ?_
    refine XS.icmpNo X144.here hx rfl (hb hby at_214) rfl (flt hc214).1 ?_
    show Steps p.tables e below (T144.setTop (mkF m 217 #[.val (.int q1), .val (.int q2), .val (.int q3), .val (.int q4), .val (.int sel), .val (.int nfl), .val (.int (kF sel)), .val (.int (psF sel)), .val (.double (pF sel)), .second, .val (.int (nF q1)), .val (.int (nkF sel q1 q2)), .val (.int (nkF sel q1 q3)), .val (.int (nF q4)), .val (.int (moF nfl)), .val (.int (wF nfl)), .val (.int (ffF nfl)), .val (.double (iV nfl)), .second, .val (.ref b141), .unset, .unset, .unset, .unset, .unset, .unset] [])) _
    refine XS.aload X144.here hx rfl (hb hby at_217) rfl rfl ?_
    refine XS.iload X144.here hx rfl (hb hby at_219) rfl ?_
    refine XS.i2dS X144.here hx rfl (hb hby at_221) rfl rfl ?_
    refine XS.dload X144.here hx rfl (hb hby at_222) rfl ?_
    show Steps p.tables e below (T144.setTop (mkF m 224 #[.val (.int q1), .val (.int q2), .val (.int q3), .val (.int q4), .val (.int sel), .val (.int nfl), .val (.int (kF sel)), .val (.int (psF sel)), .val (.double (pF sel)), .second, .val (.int (nF q1)), .val (.int (nkF sel q1 q2)), .val (.int (nkF sel q1 q3)), .val (.int (nF q4)), .val (.int (moF nfl)), .val (.int (wF nfl)), .val (.int (ffF nfl)), .val (.double (iV nfl)), .second, .val (.ref b141), .unset, .unset, .unset, .unset, .unset, .unset] [(.double (pF sel)), (.double (FP.i2d (nkF sel q1 q3))), (.ref b141)])) _
    refine XS.dmulS X144.here hx rfl (hb hby at_224) rfl hnan224 rfl ?_
    show Steps p.tables e below (T144.setTop (mkF m 225 #[.val (.int q1), .val (.int q2), .val (.int q3), .val (.int q4), .val (.int sel), .val (.int nfl), .val (.int (kF sel)), .val (.int (psF sel)), .val (.double (pF sel)), .second, .val (.int (nF q1)), .val (.int (nkF sel q1 q2)), .val (.int (nkF sel q1 q3)), .val (.int (nF q4)), .val (.int (moF nfl)), .val (.int (wF nfl)), .val (.int (ffF nfl)), .val (.double (iV nfl)), .second, .val (.ref b141), .unset, .unset, .unset, .unset, .unset, .unset] [(.double (FP.dmul (FP.i2d (nkF sel q1 q3)) (pF sel))), (.ref b141)])) _
    refine st145.trans ?_
    refine XS.iload X145.here hx rfl (hb hby at_228) rfl ?_
    refine XS.iconst X145.here hx rfl (hb hby at_230) ?_
    refine XS.icmpYes X145.here hx rfl (pc0 := 231) (pc' := 245) rfl (hb hby at_231) rfl (tlt hc231).1 (by decide) (by decide) ?_
    show Steps p.tables e below (T145.setTop (mkF m 245 #[.val (.int q1), .val (.int q2), .val (.int q3), .val (.int q4), .val (.int sel), .val (.int nfl), .val (.int (kF sel)), .val (.int (psF sel)), .val (.double (pF sel)), .second, .val (.int (nF q1)), .val (.int (nkF sel q1 q2)), .val (.int (nkF sel q1 q3)), .val (.int (nF q4)), .val (.int (moF nfl)), .val (.int (wF nfl)), .val (.int (ffF nfl)), .val (.double (iV nfl)), .second, .val (.ref b141), .unset, .unset, .unset, .unset, .unset, .unset] [])) _
    refine XS.iload X145.here hx rfl (hb hby at_245) rfl ?_
    refine XS.ifNo X145.here hx rfl (hb hby at_247) rfl ((if0 _ _).trans (feq hc247).1) ?_
    refine XS.iload X145.here hx rfl (hb hby at_250) rfl ?_
    refine XS.ifNo X145.here hx rfl (hb hby at_252) rfl ((if0 _ _).trans (teq hc252).2) ?_
    show Steps p.tables e below (T145.setTop (mkF m 255 #[.val (.int q1), .val (.int q2), .val (.int q3), .val (.int q4), .val (.int sel), .val (.int nfl), .val (.int (kF sel)), .val (.int (psF sel)), .val (.double (pF sel)), .second, .val (.int (nF q1)), .val (.int (nkF sel q1 q2)), .val (.int (nkF sel q1 q3)), .val (.int (nF q4)), .val (.int (moF nfl)), .val (.int (wF nfl)), .val (.int (ffF nfl)), .val (.double (iV nfl)), .second, .val (.ref b141), .unset, .unset, .unset, .unset, .unset, .unset] [])) _
    refine XS.aload X145.here hx rfl (hb hby at_255) rfl rfl ?_
    refine XS.dload X145.here hx rfl (hb hby at_257) rfl ?_
    show Steps p.tables e below (T145.setTop (mkF m 259 #[.val (.int q1), .val (.int q2), .val (.int q3), .val (.int q4), .val (.int sel), .val (.int nfl), .val (.int (kF sel)), .val (.int (psF sel)), .val (.double (pF sel)), .second, .val (.int (nF q1)), .val (.int (nkF sel q1 q2)), .val (.int (nkF sel q1 q3)), .val (.int (nF q4)), .val (.int (moF nfl)), .val (.int (wF nfl)), .val (.int (ffF nfl)), .val (.double (iV nfl)), .second, .val (.ref b141), .unset, .unset, .unset, .unset, .unset, .unset] [(.double (iV nfl)), (.ref b141)])) _
    refine st146.trans ?_
    refine XS.aload X146.here hx rfl (hb hby at_262) rfl rfl ?_
    show Steps p.tables e below (T146.setTop (mkF m 264 #[.val (.int q1), .val (.int q2), .val (.int q3), .val (.int q4), .val (.int sel), .val (.int nfl), .val (.int (kF sel)), .val (.int (psF sel)), .val (.double (pF sel)), .second, .val (.int (nF q1)), .val (.int (nkF sel q1 q2)), .val (.int (nkF sel q1 q3)), .val (.int (nF q4)), .val (.int (moF nfl)), .val (.int (wF nfl)), .val (.int (ffF nfl)), .val (.double (iV nfl)), .second, .val (.ref b141), .unset, .unset, .unset, .unset, .unset, .unset] [(.ref b141)])) _
    refine st147.trans ?_
    refine XS.dstore X147.here hx rfl (hb hby at_267) rfl (l' := #[.val (.int q1), .val (.int q2), .val (.int q3), .val (.int q4), .val (.int sel), .val (.int nfl), .val (.int (kF sel)), .val (.int (psF sel)), .val (.double (pF sel)), .second, .val (.int (nF q1)), .val (.int (nkF sel q1 q2)), .val (.int (nkF sel q1 q3)), .val (.int (nF q4)), .val (.int (moF nfl)), .val (.int (wF nfl)), .val (.int (ffF nfl)), .val (.double (iV nfl)), .second, .val (.ref b141), .val (.double (FP.dadd 0 (iV nfl))), .second, .unset, .unset, .unset, .unset]) rfl ?_
    refine XS.iload X147.here hx rfl (hb hby at_269) rfl ?_
    refine XS.ifNo X147.here hx rfl (hb hby at_271) rfl ((if0 _ _).trans (feq hc271).1) ?_
    show Steps p.tables e below (T147.setTop (mkF m 274 #[.val (.int q1), .val (.int q2), .val (.int q3), .val (.int q4), .val (.int sel), .val (.int nfl), .val (.int (kF sel)), .val (.int (psF sel)), .val (.double (pF sel)), .second, .val (.int (nF q1)), .val (.int (nkF sel q1 q2)), .val (.int (nkF sel q1 q3)), .val (.int (nF q4)), .val (.int (moF nfl)), .val (.int (wF nfl)), .val (.int (ffF nfl)), .val (.double (iV nfl)), .second, .val (.ref b141), .val (.double (FP.dadd 0 (iV nfl))), .second, .unset, .unset, .unset, .unset] [])) _
    refine XS.dload X147.here hx rfl (hb hby at_274) rfl ?_
    refine XS.dload X147.here hx rfl (hb hby at_276) rfl ?_
    refine XS.dcmpS X147.here hx rfl (hb hby at_278) rfl rfl ?_
    refine XS.ifNo X147.here hx rfl (hb hby at_279) rfl ((if0 _ _).trans (teq hc279).2) ?_
    show Steps p.tables e below (T147.setTop (mkF m 282 #[.val (.int q1), .val (.int q2), .val (.int q3), .val (.int q4), .val (.int sel), .val (.int nfl), .val (.int (kF sel)), .val (.int (psF sel)), .val (.double (pF sel)), .second, .val (.int (nF q1)), .val (.int (nkF sel q1 q2)), .val (.int (nkF sel q1 q3)), .val (.int (nF q4)), .val (.int (moF nfl)), .val (.int (wF nfl)), .val (.int (ffF nfl)), .val (.double (iV nfl)), .second, .val (.ref b141), .val (.double (FP.dadd 0 (iV nfl))), .second, .unset, .unset, .unset, .unset] [])) _
    refine XS.iconst X147.here hx rfl (hb hby at_282) ?_
    refine XS.goto X147.here hx rfl (pc0 := 283) (pc' := 287) rfl (hb hby at_283) (by decide) (by decide) ?_
    show Steps p.tables e below (T147.setTop (mkF m 287 #[.val (.int q1), .val (.int q2), .val (.int q3), .val (.int q4), .val (.int sel), .val (.int nfl), .val (.int (kF sel)), .val (.int (psF sel)), .val (.double (pF sel)), .second, .val (.int (nF q1)), .val (.int (nkF sel q1 q2)), .val (.int (nkF sel q1 q3)), .val (.int (nF q4)), .val (.int (moF nfl)), .val (.int (wF nfl)), .val (.int (ffF nfl)), .val (.double (iV nfl)), .second, .val (.ref b141), .val (.double (FP.dadd 0 (iV nfl))), .second, .unset, .unset, .unset, .unset] [(.int (1 : Int32))])) _
    exact retN X147 hx (t := .boolean) Bd.returns (by simp) (hb hby at_287) hr
  · show Q0  h0 n0 _ T147.heap _
    exact ⟨rfl, N147⟩
set_option maxRecDepth 65536 in
set_option maxHeartbeats 40000000 in
theorem rm0_f4 (l : Launch) (Z : State) (a0 : Array Value) (hw : ∀ d ∈ tables_1, d.before a0 Z = true) (ws : List Jvm.Cond) (q1 : Int32) (q2 : Int32) (q3 : Int32) (q4 : Int32) (sel : Int32) (nfl : Int32) (U : Nat) (h0 : Heap) (n0 : Nat) (Z0 : n0 ≤ h0.size) (hU : 74 ≤ U ∧ U ≤ 2074) (hU2 : U = 2074 ∨ U ≤ 1074) (hp : DV 1 U (pF sel)) (d1 : DV (nF q1).toInt U (FP.dmul (FP.i2d (nF q1)) (pF sel))) (r1 : -8388608 ≤ (nF q1).toInt ∧ (nF q1).toInt ≤ 8388607) (d2 : DV (nkF sel q1 q2).toInt U (FP.dmul (FP.i2d (nkF sel q1 q2)) (pF sel))) (r2 : -8388608 ≤ (nkF sel q1 q2).toInt ∧ (nkF sel q1 q2).toInt ≤ 8388607) (d3 : DV (nkF sel q1 q3).toInt U (FP.dmul (FP.i2d (nkF sel q1 q3)) (pF sel))) (r3 : -8388608 ≤ (nkF sel q1 q3).toInt ∧ (nkF sel q1 q3).toInt ≤ 8388607) (d4 : DV (nF q4).toInt U (FP.dmul (FP.i2d (nF q4)) (pF sel))) (r4 : -8388608 ≤ (nF q4).toInt ∧ (nF q4).toInt ≤ 8388607) (hin1 : Jvm.Free.Fl.NoNaN64 (iV nfl)) (hin2 : ¬ ((infF (iV nfl)) = (0 : Int32))) (hin3 : Jvm.Free.Fl.NoNaN64 (FP.dadd 0 (iV nfl))) (hin4 : ¬ ((cmpValue (FP.dcmp (FP.dadd 0 (iV nfl)) FP.dconst0) .l) = (0 : Int32))) (hc168 : ¬ ((wF nfl) = (0 : Int32))) (hc173 : ¬ ((ffF nfl) = (0 : Int32))) (hnan190 : Jvm.Free.Fl.NoNaN64 (FP.dmul (FP.i2d (nF q1)) (pF sel))) (hc197 : ¬ ((kF sel) < (2 : Int32))) (hnan207 : Jvm.Free.Fl.NoNaN64 (FP.dmul (FP.i2d (nkF sel q1 q2)) (pF sel))) (hc214 : ¬ ((kF sel) < (3 : Int32))) (hnan224 : Jvm.Free.Fl.NoNaN64 (FP.dmul (FP.i2d (nkF sel q1 q3)) (pF sel))) (hc231 : ¬ ((kF sel) < (4 : Int32))) (hnan241 : Jvm.Free.Fl.NoNaN64 (FP.dmul (FP.i2d (nF q4)) (pF sel))) (hc247 : ¬ ((wF nfl) = (0 : Int32))) (hc252 : ¬ ((ffF nfl) = (0 : Int32))) (hc271 : ¬ ((wF nfl) = (0 : Int32))) (hc279 : (cmpValue (FP.dcmp (FP.dadd 0 (iV nfl)) (iV nfl)) .l) = (0 : Int32)) :
    MetFree l x (head1 (Jvm.Cond.code x code maxLocals ret :: ws) room_1) (fun aa_ U_ => aa_ = #[(.int q1), (.int q2), (.int q3), (.int q4), (.int sel), (.int nfl)] ∧ Z.Warmed39 U_.vm ∧ U_.heap = h0) (fun _ _ _ _ _ => True) (fun _ U_ o_ V_ => ∃ v_ L_, o_ = .returned v_ ∧ Q0  h0 n0 v_ V_.heap L_ ∧ FrameEnd U_ o_ V_ L_ room_1.cells room_1.slots) := by
  refine MetFree.of_bodySF (plainFor_of_name pn_0) hisR ?_
  intro p e s m args below meth c s₁ Bd hml0 hP hK
  obtain ⟨rfl, hZ, hh⟩ := hP
  have hx := Bd.exec
  have hby := Bd.bytes
  have hml : c.maxLocals = 26 := hml0
  have hown : s.vm.findClass "com/example/retiremetric/retiremetric/engine/MeanMeanPinLaw" = some m.cls := findClass_of_methodNamed Bd.named
  have hnm := (name_of_methodNamed Bd.named Bd.method).1
  have X0 : Stand p l e room_1 s m #[(.int q1), (.int q2), (.int q3), (.int q4), (.int sel), (.int nfl)] below meth c s₁ [] 0 0 := Stand.of_body Bd
  have e0 : s₁.heap = h0 := by rw [← hh, Bd.state]; rfl
  have N0 := Fr.nil n0
  have pre0 : ∀ zz, Steps p.tables e below (s₁.setTop (mkF m 0 #[.val (.int q1), .val (.int q2), .val (.int q3), .val (.int q4), .val (.int sel), .val (.int nfl), .unset, .unset, .unset, .unset, .unset, .unset, .unset, .unset, .unset, .unset, .unset, .unset, .unset, .unset, .unset, .unset, .unset, .unset, .unset, .unset] [])) zz → Steps p.tables e below (s₁.setTop (entryFrame m #[(.int q1), (.int q2), (.int q3), (.int q4), (.int sel), (.int nfl)] maxLocals)) zz := fun zz k => castTop (ef_0 m q1 q2 q3 q4 sel nfl) k
  have mv0 : MV U 0 0 0 0 FP.dconst1 0 0 := ⟨by omega, zero_dv _, one_dv, zero_dv _, zero_dv _, by simp⟩
  obtain ⟨T148, h148, X148, e148, E148, A148, D148, -, st148⟩ := newO X0 hx hZ hown (hw _ (List.mem_of_getElem? (i := 1) rfl)) (hw _ (List.mem_of_getElem? (i := 2) rfl)) (hw _ (List.mem_of_getElem? (i := 3) rfl)) e0 (g := (mkF m 157 #[.val (.int q1), .val (.int q2), .val (.int q3), .val (.int q4), .val (.int sel), .val (.int nfl), .val (.int (kF sel)), .val (.int (psF sel)), .val (.double (pF sel)), .second, .val (.int (nF q1)), .val (.int (nkF sel q1 q2)), .val (.int (nkF sel q1 q3)), .val (.int (nF q4)), .val (.int (moF nfl)), .val (.int (wF nfl)), .val (.int (ffF nfl)), .val (.double (iV nfl)), .second, .unset, .unset, .unset, .unset, .unset, .unset, .unset] [])) rfl (hb hby at_157) (by decide) (by decide)
  obtain ⟨b148, g148⟩ : ∃ z, z = h0.size := ⟨_, rfl⟩
  rw [← g148] at A148 D148 st148
  have E_b148 := A148
  have g_b148 : n0 ≤ b148 := Nat.le_trans Z0 (Nat.le_of_eq g148.symm)
  have sz_b148 : h0.size ≤ b148 := Nat.le_trans (Keep.refl h0 []).1 (Nat.le_of_eq g148.symm)
  have K148 := (Keep.refl h0 []).ext E148
  have Z148 : n0 ≤ h148.size := Nat.le_trans Z0 E148.1
  have F_scale_b148 : Fld Z h148 b148 "com/example/retiremetric/retiremetric/engine/Mean" "scale" "D" (.double 0) := D148 (Or.inl (hw _ (List.mem_of_getElem? (i := 11) rfl))) (ty := .double) (by decide)
  have F_count_b148 : Fld Z h148 b148 "com/example/retiremetric/retiremetric/engine/Mean" "count" "J" (.long (0 : Int64)) := D148 (Or.inl (hw _ (List.mem_of_getElem? (i := 27) rfl))) (ty := .long) (by decide)
  have F_first_b148 : Fld Z h148 b148 "com/example/retiremetric/retiremetric/engine/Mean" "first" "D" (.double 0) := D148 (Or.inl (hw _ (List.mem_of_getElem? (i := 29) rfl))) (ty := .double) (by decide)
  have F_scaledFirst_b148 : Fld Z h148 b148 "com/example/retiremetric/retiremetric/engine/Mean" "scaledFirst" "D" (.double 0) := D148 (Or.inl (hw _ (List.mem_of_getElem? (i := 31) rfl))) (ty := .double) (by decide)
  have F_differences_b148 : Fld Z h148 b148 "com/example/retiremetric/retiremetric/engine/Mean" "differences" "D" (.double 0) := D148 (Or.inl (hw _ (List.mem_of_getElem? (i := 33) rfl))) (ty := .double) (by decide)
  have F_infinities_b148 : Fld Z h148 b148 "com/example/retiremetric/retiremetric/engine/Mean" "infinities" "D" (.double 0) := D148 (Or.inl (hw _ (List.mem_of_getElem? (i := 40) rfl))) (ty := .double) (by decide)
  obtain ⟨_, _, ⟨T149, L149, k149, n149⟩, -, X149, ⟨Lc149, hQ149, l149, y149, z149⟩, st149⟩ := X148.specialBack hx (y := (⟨"com/example/retiremetric/retiremetric/engine/Mean", "<init>", "()V"⟩ : MethodName)) rfl hown (mvT hZ (hw _ (List.mem_of_getElem? (i := 4) rfl))) (mvT hZ (hw _ (List.mem_of_getElem? (i := 5) rfl))) (mvT hZ (hw _ (List.mem_of_getElem? (i := 6) rfl))) (by decide) (backOf (W := 1) (rm1 l Z a0 hw [] b148 h148 n0 Z148 g_b148 ⟨E_b148, F_first_b148, F_scale_b148, F_scaledFirst_b148, F_differences_b148, F_infinities_b148, F_count_b148⟩) hZ (hw _ (List.mem_of_getElem? (i := 6) rfl)) (hw _ (List.mem_of_getElem? (i := 3) rfl)) (by decide) (by decide)) (g := (mkF m 161 #[.val (.int q1), .val (.int q2), .val (.int q3), .val (.int q4), .val (.int sel), .val (.int nfl), .val (.int (kF sel)), .val (.int (psF sel)), .val (.double (pF sel)), .second, .val (.int (nF q1)), .val (.int (nkF sel q1 q2)), .val (.int (nkF sel q1 q3)), .val (.int (nF q4)), .val (.int (moF nfl)), .val (.int (wF nfl)), .val (.int (ffF nfl)), .val (.double (iV nfl)), .second, .unset, .unset, .unset, .unset, .unset, .unset, .unset] [(.ref b148), (.ref b148)])) rfl (by rw [hml]; rfl) (Steps.refl _) (a := b148) (argsL := []) (rest := [(.ref b148)]) (lenOf pd_0 rfl) rfl (by show 2 * 0 + _ ≤ _; exact Nat.le_of_eq rfl) (hb hby at_161) (fun _ _ => ⟨rfl, e148, (by decide : 1 + 0 ≤ _), (by decide : 6 + 0 ≤ _)⟩)
  dsimp only [Pt.U, Pt.locs, Pt.cells, Pt.slots] at X149 l149 y149 z149 st149 hQ149
  subst l149 y149 z149
  obtain ⟨rfl, N149q, K149q, M149⟩ := hQ149
  have N149 := Fr.app N0 N149q
  have Z149 : n0 ≤ T149.heap.size := Nat.le_trans Z148 K149q.1
  obtain ⟨cq150, kq150, q150a, q150b, q150c⟩ := isOf hZ rfl M149.1
  obtain ⟨_, _, ⟨T150, L150, k150, n150⟩, -, X150, ⟨Lc150, hQ150, l150, y150, z150⟩, st150⟩ := X149.virtualBack hx (y := (⟨"com/example/retiremetric/retiremetric/engine/Mean", "add", "(D)V"⟩ : MethodName)) (z := (⟨"com/example/retiremetric/retiremetric/engine/Mean", "add", "(D)V"⟩ : MethodName)) hown (mvT hZ (hw _ (List.mem_of_getElem? (i := 12) rfl))) (mvT hZ (hw _ (List.mem_of_getElem? (i := 13) rfl))) (notFace_of_selects (args := #[]) (mvT hZ (hw _ (List.mem_of_getElem? (i := 15) rfl)))) (mvT hZ (hw _ (List.mem_of_getElem? (i := 15) rfl))) (mvT hZ (hw _ (List.mem_of_getElem? (i := 14) rfl))) (by decide) (backOf (W := 0) (rm3_I l Z a0 hw [] b148 (iV nfl) 0 FP.dconst1 0 0 0 0 T149.heap n0 Z149 g_b148 M149 hin1 hin2 hin3) hZ (hw _ (List.mem_of_getElem? (i := 16) rfl)) (hw _ (List.mem_of_getElem? (i := 3) rfl)) (by decide) (by decide)) q150a q150c (g := (mkF m 180 #[.val (.int q1), .val (.int q2), .val (.int q3), .val (.int q4), .val (.int sel), .val (.int nfl), .val (.int (kF sel)), .val (.int (psF sel)), .val (.double (pF sel)), .second, .val (.int (nF q1)), .val (.int (nkF sel q1 q2)), .val (.int (nkF sel q1 q3)), .val (.int (nF q4)), .val (.int (moF nfl)), .val (.int (wF nfl)), .val (.int (ffF nfl)), .val (.double (iV nfl)), .second, .val (.ref b148), .unset, .unset, .unset, .unset, .unset, .unset] [(.double (iV nfl)), (.ref b148)])) rfl (by rw [hml]; rfl) (Steps.refl _) (argsL := [(.double (iV nfl))]) (rest := []) (lenOf pd_1 rfl) rfl (by show 2 * 0 + _ ≤ _; exact Nat.le_of_eq rfl) (hb hby at_180) (fun _ _ => ⟨rfl, rfl, (by decide : 1 + 0 ≤ _), (by decide : 6 + 0 ≤ _)⟩)
  dsimp only [Pt.U, Pt.locs, Pt.cells, Pt.slots] at X150 l150 y150 z150 st150 hQ150
  subst l150 y150 z150
  obtain ⟨rfl, N150q, K150q, M150⟩ := hQ150
  have N150 := Fr.app N149 N150q
  have Z150 : n0 ≤ T150.heap.size := Nat.le_trans Z149 K150q.1
  obtain ⟨cq151, kq151, q151a, q151b, q151c⟩ := isOf hZ rfl M150.1
  obtain ⟨_, _, ⟨T151, L151, k151, n151⟩, -, X151, ⟨Lc151, hQ151, l151, y151, z151⟩, st151⟩ := X150.virtualBack hx (y := (⟨"com/example/retiremetric/retiremetric/engine/Mean", "add", "(D)V"⟩ : MethodName)) (z := (⟨"com/example/retiremetric/retiremetric/engine/Mean", "add", "(D)V"⟩ : MethodName)) hown (mvT hZ (hw _ (List.mem_of_getElem? (i := 12) rfl))) (mvT hZ (hw _ (List.mem_of_getElem? (i := 13) rfl))) (notFace_of_selects (args := #[]) (mvT hZ (hw _ (List.mem_of_getElem? (i := 15) rfl)))) (mvT hZ (hw _ (List.mem_of_getElem? (i := 15) rfl))) (mvT hZ (hw _ (List.mem_of_getElem? (i := 14) rfl))) (by decide) (backOf (W := 0) (rm3_fin l Z a0 hw [] b148 (FP.dmul (FP.i2d (nF q1)) (pF sel)) 0 FP.dconst1 0 0 (FP.dadd 0 (iV nfl)) (0 + (1 : Int64)) U 0 0 (nF q1).toInt 0 T150.heap n0 Z150 g_b148 M150 hU hU2 d1 mv0 (by omega) (by omega) (by omega) (by omega) (by decide)) hZ (hw _ (List.mem_of_getElem? (i := 16) rfl)) (hw _ (List.mem_of_getElem? (i := 3) rfl)) (by decide) (by decide)) q151a q151c (g := (mkF m 191 #[.val (.int q1), .val (.int q2), .val (.int q3), .val (.int q4), .val (.int sel), .val (.int nfl), .val (.int (kF sel)), .val (.int (psF sel)), .val (.double (pF sel)), .second, .val (.int (nF q1)), .val (.int (nkF sel q1 q2)), .val (.int (nkF sel q1 q3)), .val (.int (nF q4)), .val (.int (moF nfl)), .val (.int (wF nfl)), .val (.int (ffF nfl)), .val (.double (iV nfl)), .second, .val (.ref b148), .unset, .unset, .unset, .unset, .unset, .unset] [(.double (FP.dmul (FP.i2d (nF q1)) (pF sel))), (.ref b148)])) rfl (by rw [hml]; rfl) (Steps.refl _) (argsL := [(.double (FP.dmul (FP.i2d (nF q1)) (pF sel)))]) (rest := []) (lenOf pd_1 rfl) rfl (by show 2 * 0 + _ ≤ _; exact Nat.le_of_eq rfl) (hb hby at_191) (fun _ _ => ⟨rfl, rfl, (by decide : 1 + 0 ≤ _), (by decide : 6 + 0 ≤ _)⟩)
  dsimp only [Pt.U, Pt.locs, Pt.cells, Pt.slots] at X151 l151 y151 z151 st151 hQ151
  subst l151 y151 z151
  obtain ⟨x151, f151, sc151, sf151, df151, V151, rfl, N151q, K151q, M151⟩ := hQ151
  have N151 := Fr.app N150 N151q
  have Z151 : n0 ≤ T151.heap.size := Nat.le_trans Z150 K151q.1
  obtain ⟨cq152, kq152, q152a, q152b, q152c⟩ := isOf hZ rfl M151.1
  obtain ⟨_, _, ⟨T152, L152, k152, n152⟩, -, X152, ⟨Lc152, hQ152, l152, y152, z152⟩, st152⟩ := X151.virtualBack hx (y := (⟨"com/example/retiremetric/retiremetric/engine/Mean", "add", "(D)V"⟩ : MethodName)) (z := (⟨"com/example/retiremetric/retiremetric/engine/Mean", "add", "(D)V"⟩ : MethodName)) hown (mvT hZ (hw _ (List.mem_of_getElem? (i := 12) rfl))) (mvT hZ (hw _ (List.mem_of_getElem? (i := 13) rfl))) (notFace_of_selects (args := #[]) (mvT hZ (hw _ (List.mem_of_getElem? (i := 15) rfl)))) (mvT hZ (hw _ (List.mem_of_getElem? (i := 15) rfl))) (mvT hZ (hw _ (List.mem_of_getElem? (i := 14) rfl))) (by decide) (backOf (W := 0) (rm3_fin l Z a0 hw [] b148 (FP.dmul (FP.i2d (nkF sel q1 q2)) (pF sel)) f151 sc151 sf151 df151 (FP.dadd 0 (iV nfl)) ((0 + (1 : Int64)) + (1 : Int64)) U 0 (0 + ((nF q1).toInt - 0)) (nkF sel q1 q2).toInt x151 T151.heap n0 Z151 g_b148 M151 hU hU2 d2 V151 (by omega) (by omega) (by omega) (by omega) (by decide)) hZ (hw _ (List.mem_of_getElem? (i := 16) rfl)) (hw _ (List.mem_of_getElem? (i := 3) rfl)) (by decide) (by decide)) q152a q152c (g := (mkF m 208 #[.val (.int q1), .val (.int q2), .val (.int q3), .val (.int q4), .val (.int sel), .val (.int nfl), .val (.int (kF sel)), .val (.int (psF sel)), .val (.double (pF sel)), .second, .val (.int (nF q1)), .val (.int (nkF sel q1 q2)), .val (.int (nkF sel q1 q3)), .val (.int (nF q4)), .val (.int (moF nfl)), .val (.int (wF nfl)), .val (.int (ffF nfl)), .val (.double (iV nfl)), .second, .val (.ref b148), .unset, .unset, .unset, .unset, .unset, .unset] [(.double (FP.dmul (FP.i2d (nkF sel q1 q2)) (pF sel))), (.ref b148)])) rfl (by rw [hml]; rfl) (Steps.refl _) (argsL := [(.double (FP.dmul (FP.i2d (nkF sel q1 q2)) (pF sel)))]) (rest := []) (lenOf pd_1 rfl) rfl (by show 2 * 0 + _ ≤ _; exact Nat.le_of_eq rfl) (hb hby at_208) (fun _ _ => ⟨rfl, rfl, (by decide : 1 + 0 ≤ _), (by decide : 6 + 0 ≤ _)⟩)
  dsimp only [Pt.U, Pt.locs, Pt.cells, Pt.slots] at X152 l152 y152 z152 st152 hQ152
  subst l152 y152 z152
  obtain ⟨x152, f152, sc152, sf152, df152, V152, rfl, N152q, K152q, M152⟩ := hQ152
  have N152 := Fr.app N151 N152q
  have Z152 : n0 ≤ T152.heap.size := Nat.le_trans Z151 K152q.1
  obtain ⟨cq153, kq153, q153a, q153b, q153c⟩ := isOf hZ rfl M152.1
  obtain ⟨_, _, ⟨T153, L153, k153, n153⟩, -, X153, ⟨Lc153, hQ153, l153, y153, z153⟩, st153⟩ := X152.virtualBack hx (y := (⟨"com/example/retiremetric/retiremetric/engine/Mean", "add", "(D)V"⟩ : MethodName)) (z := (⟨"com/example/retiremetric/retiremetric/engine/Mean", "add", "(D)V"⟩ : MethodName)) hown (mvT hZ (hw _ (List.mem_of_getElem? (i := 12) rfl))) (mvT hZ (hw _ (List.mem_of_getElem? (i := 13) rfl))) (notFace_of_selects (args := #[]) (mvT hZ (hw _ (List.mem_of_getElem? (i := 15) rfl)))) (mvT hZ (hw _ (List.mem_of_getElem? (i := 15) rfl))) (mvT hZ (hw _ (List.mem_of_getElem? (i := 14) rfl))) (by decide) (backOf (W := 0) (rm3_fin l Z a0 hw [] b148 (FP.dmul (FP.i2d (nkF sel q1 q3)) (pF sel)) f152 sc152 sf152 df152 (FP.dadd 0 (iV nfl)) (((0 + (1 : Int64)) + (1 : Int64)) + (1 : Int64)) U 0 ((0 + ((nF q1).toInt - 0)) + ((nkF sel q1 q2).toInt - 0)) (nkF sel q1 q3).toInt x152 T152.heap n0 Z152 g_b148 M152 hU hU2 d3 V152 (by omega) (by omega) (by omega) (by omega) (by decide)) hZ (hw _ (List.mem_of_getElem? (i := 16) rfl)) (hw _ (List.mem_of_getElem? (i := 3) rfl)) (by decide) (by decide)) q153a q153c (g := (mkF m 225 #[.val (.int q1), .val (.int q2), .val (.int q3), .val (.int q4), .val (.int sel), .val (.int nfl), .val (.int (kF sel)), .val (.int (psF sel)), .val (.double (pF sel)), .second, .val (.int (nF q1)), .val (.int (nkF sel q1 q2)), .val (.int (nkF sel q1 q3)), .val (.int (nF q4)), .val (.int (moF nfl)), .val (.int (wF nfl)), .val (.int (ffF nfl)), .val (.double (iV nfl)), .second, .val (.ref b148), .unset, .unset, .unset, .unset, .unset, .unset] [(.double (FP.dmul (FP.i2d (nkF sel q1 q3)) (pF sel))), (.ref b148)])) rfl (by rw [hml]; rfl) (Steps.refl _) (argsL := [(.double (FP.dmul (FP.i2d (nkF sel q1 q3)) (pF sel)))]) (rest := []) (lenOf pd_1 rfl) rfl (by show 2 * 0 + _ ≤ _; exact Nat.le_of_eq rfl) (hb hby at_225) (fun _ _ => ⟨rfl, rfl, (by decide : 1 + 0 ≤ _), (by decide : 6 + 0 ≤ _)⟩)
  dsimp only [Pt.U, Pt.locs, Pt.cells, Pt.slots] at X153 l153 y153 z153 st153 hQ153
  subst l153 y153 z153
  obtain ⟨x153, f153, sc153, sf153, df153, V153, rfl, N153q, K153q, M153⟩ := hQ153
  have N153 := Fr.app N152 N153q
  have Z153 : n0 ≤ T153.heap.size := Nat.le_trans Z152 K153q.1
  obtain ⟨cq154, kq154, q154a, q154b, q154c⟩ := isOf hZ rfl M153.1
  obtain ⟨_, _, ⟨T154, L154, k154, n154⟩, -, X154, ⟨Lc154, hQ154, l154, y154, z154⟩, st154⟩ := X153.virtualBack hx (y := (⟨"com/example/retiremetric/retiremetric/engine/Mean", "add", "(D)V"⟩ : MethodName)) (z := (⟨"com/example/retiremetric/retiremetric/engine/Mean", "add", "(D)V"⟩ : MethodName)) hown (mvT hZ (hw _ (List.mem_of_getElem? (i := 12) rfl))) (mvT hZ (hw _ (List.mem_of_getElem? (i := 13) rfl))) (notFace_of_selects (args := #[]) (mvT hZ (hw _ (List.mem_of_getElem? (i := 15) rfl)))) (mvT hZ (hw _ (List.mem_of_getElem? (i := 15) rfl))) (mvT hZ (hw _ (List.mem_of_getElem? (i := 14) rfl))) (by decide) (backOf (W := 0) (rm3_fin l Z a0 hw [] b148 (FP.dmul (FP.i2d (nF q4)) (pF sel)) f153 sc153 sf153 df153 (FP.dadd 0 (iV nfl)) ((((0 + (1 : Int64)) + (1 : Int64)) + (1 : Int64)) + (1 : Int64)) U 0 (((0 + ((nF q1).toInt - 0)) + ((nkF sel q1 q2).toInt - 0)) + ((nkF sel q1 q3).toInt - 0)) (nF q4).toInt x153 T153.heap n0 Z153 g_b148 M153 hU hU2 d4 V153 (by omega) (by omega) (by omega) (by omega) (by decide)) hZ (hw _ (List.mem_of_getElem? (i := 16) rfl)) (hw _ (List.mem_of_getElem? (i := 3) rfl)) (by decide) (by decide)) q154a q154c (g := (mkF m 242 #[.val (.int q1), .val (.int q2), .val (.int q3), .val (.int q4), .val (.int sel), .val (.int nfl), .val (.int (kF sel)), .val (.int (psF sel)), .val (.double (pF sel)), .second, .val (.int (nF q1)), .val (.int (nkF sel q1 q2)), .val (.int (nkF sel q1 q3)), .val (.int (nF q4)), .val (.int (moF nfl)), .val (.int (wF nfl)), .val (.int (ffF nfl)), .val (.double (iV nfl)), .second, .val (.ref b148), .unset, .unset, .unset, .unset, .unset, .unset] [(.double (FP.dmul (FP.i2d (nF q4)) (pF sel))), (.ref b148)])) rfl (by rw [hml]; rfl) (Steps.refl _) (argsL := [(.double (FP.dmul (FP.i2d (nF q4)) (pF sel)))]) (rest := []) (lenOf pd_1 rfl) rfl (by show 2 * 0 + _ ≤ _; exact Nat.le_of_eq rfl) (hb hby at_242) (fun _ _ => ⟨rfl, rfl, (by decide : 1 + 0 ≤ _), (by decide : 6 + 0 ≤ _)⟩)
  dsimp only [Pt.U, Pt.locs, Pt.cells, Pt.slots] at X154 l154 y154 z154 st154 hQ154
  subst l154 y154 z154
  obtain ⟨x154, f154, sc154, sf154, df154, V154, rfl, N154q, K154q, M154⟩ := hQ154
  have N154 := Fr.app N153 N154q
  have Z154 : n0 ≤ T154.heap.size := Nat.le_trans Z153 K154q.1
  obtain ⟨cq155, kq155, q155a, q155b, q155c⟩ := isOf hZ rfl M154.1
  obtain ⟨_, _, ⟨T155, L155, k155, n155⟩, -, X155, ⟨Lc155, hQ155, l155, y155, z155⟩, st155⟩ := X154.virtualBack hx (y := (⟨"com/example/retiremetric/retiremetric/engine/Mean", "mean", "()D"⟩ : MethodName)) (z := (⟨"com/example/retiremetric/retiremetric/engine/Mean", "mean", "()D"⟩ : MethodName)) hown (mvT hZ (hw _ (List.mem_of_getElem? (i := 34) rfl))) (mvT hZ (hw _ (List.mem_of_getElem? (i := 35) rfl))) (notFace_of_selects (args := #[]) (mvT hZ (hw _ (List.mem_of_getElem? (i := 37) rfl)))) (mvT hZ (hw _ (List.mem_of_getElem? (i := 37) rfl))) (mvT hZ (hw _ (List.mem_of_getElem? (i := 36) rfl))) (by decide) (backOf (W := 0) (rm6_I l Z a0 hw [] b148 f154 sc154 sf154 df154 (FP.dadd 0 (iV nfl)) (((((0 + (1 : Int64)) + (1 : Int64)) + (1 : Int64)) + (1 : Int64)) + (1 : Int64)) T154.heap n0 Z154 M154 (by decide) hin4) hZ (hw _ (List.mem_of_getElem? (i := 38) rfl)) (hw _ (List.mem_of_getElem? (i := 3) rfl)) (by decide) (by decide)) q155a q155c (g := (mkF m 264 #[.val (.int q1), .val (.int q2), .val (.int q3), .val (.int q4), .val (.int sel), .val (.int nfl), .val (.int (kF sel)), .val (.int (psF sel)), .val (.double (pF sel)), .second, .val (.int (nF q1)), .val (.int (nkF sel q1 q2)), .val (.int (nkF sel q1 q3)), .val (.int (nF q4)), .val (.int (moF nfl)), .val (.int (wF nfl)), .val (.int (ffF nfl)), .val (.double (iV nfl)), .second, .val (.ref b148), .unset, .unset, .unset, .unset, .unset, .unset] [(.ref b148)])) rfl (by rw [hml]; rfl) (Steps.refl _) (argsL := []) (rest := []) (lenOf pd_4 rfl) rfl (by show 2 * 0 + _ ≤ _; exact Nat.le_of_eq rfl) (hb hby at_264) (fun _ _ => ⟨rfl, rfl, (by decide : 1 + 0 ≤ _), (by decide : 6 + 0 ≤ _)⟩)
  dsimp only [Pt.U, Pt.locs, Pt.cells, Pt.slots] at X155 l155 y155 z155 st155 hQ155
  subst l155 y155 z155
  obtain ⟨rfl, N155q, e155⟩ := hQ155
  have N155 := Fr.app N154 N155q
  obtain ⟨fs, hr, hrun, hended, hW, hsame⟩ := X155.leave (v := some (.int (1 : Int32))) (fun h => by rw [Bd.returns] at h; cases h)
  refine ⟨_, _, pre0 _ ?_, hrun, hended, _, _, rfl, ?_, ⟨_, rfl⟩, hW, hsame.mono (by decide) (by decide)⟩
  · refine sg1 q1 q2 q3 q4 sel nfl X0 hx hZ hw hby hown ?_
    refine sg2 q1 q2 q3 q4 sel nfl X0 hx hZ hw hby hown ?_
    refine sg3 q1 q2 q3 q4 sel nfl X0 hx hZ hw hby hown ?_
    refine sg4 q1 q2 q3 q4 sel nfl X0 hx hZ hw hby hown ?_
    refine sg5 q1 q2 q3 q4 sel nfl X0 hx hZ hw hby hown ?_
    refine sg6 q1 q2 q3 q4 sel nfl X0 hx hZ hw hby hown ?_
    show Steps p.tables e below (s₁.setTop (mkF m 157 #[.val (.int q1), .val (.int q2), .val (.int q3), .val (.int q4), .val (.int sel), .val (.int nfl), .val (.int (kF sel)), .val (.int (psF sel)), .val (.double (pF sel)), .second, .val (.int (nF q1)), .val (.int (nkF sel q1 q2)), .val (.int (nkF sel q1 q3)), .val (.int (nF q4)), .val (.int (moF nfl)), .val (.int (wF nfl)), .val (.int (ffF nfl)), .val (.double (iV nfl)), .second, .unset, .unset, .unset, .unset, .unset, .unset, .unset] [])) _
    refine st148 _ ?_
    refine XS.dup X148.here hx rfl (hb hby at_160) rfl rfl ?_
    show Steps p.tables e below (T148.setTop (mkF m 161 #[.val (.int q1), .val (.int q2), .val (.int q3), .val (.int q4), .val (.int sel), .val (.int nfl), .val (.int (kF sel)), .val (.int (psF sel)), .val (.double (pF sel)), .second, .val (.int (nF q1)), .val (.int (nkF sel q1 q2)), .val (.int (nkF sel q1 q3)), .val (.int (nF q4)), .val (.int (moF nfl)), .val (.int (wF nfl)), .val (.int (ffF nfl)), .val (.double (iV nfl)), .second, .unset, .unset, .unset, .unset, .unset, .unset, .unset] [(.ref b148), (.ref b148)])) _
    refine st149.trans ?_
    refine XS.astore X149.here hx rfl (hb hby at_164) rfl rfl (l' := #[.val (.int q1), .val (.int q2), .val (.int q3), .val (.int q4), .val (.int sel), .val (.int nfl), .val (.int (kF sel)), .val (.int (psF sel)), .val (.double (pF sel)), .second, .val (.int (nF q1)), .val (.int (nkF sel q1 q2)), .val (.int (nkF sel q1 q3)), .val (.int (nF q4)), .val (.int (moF nfl)), .val (.int (wF nfl)), .val (.int (ffF nfl)), .val (.double (iV nfl)), .second, .val (.ref b148), .unset, .unset, .unset, .unset, .unset, .unset]) rfl ?_
    refine XS.iload X149.here hx rfl (hb hby at_166) rfl ?_
    refine XS.ifNo X149.here hx rfl (hb hby at_168) rfl ((if0 _ _).trans (feq hc168).1) ?_
    show Steps p.tables e below (T149.setTop (mkF m 171 #[.val (.int q1), .val (.int q2), .val (.int q3), .val (.int q4), .val (.int sel), .val (.int nfl), .val (.int (kF sel)), .val (.int (psF sel)), .val (.double (pF sel)), .second, .val (.int (nF q1)), .val (.int (nkF sel q1 q2)), .val (.int (nkF sel q1 q3)), .val (.int (nF q4)), .val (.int (moF nfl)), .val (.int (wF nfl)), .val (.int (ffF nfl)), .val (.double (iV nfl)), .second, .val (.ref b148), .unset, .unset, .unset, .unset, .unset, .unset] [])) _
    refine XS.iload X149.here hx rfl (hb hby at_171) rfl ?_
    refine XS.ifNo X149.here hx rfl (hb hby at_173) rfl ((if0 _ _).trans (feq hc173).1) ?_
    refine XS.aload X149.here hx rfl (hb hby at_176) rfl rfl ?_
    refine XS.dload X149.here hx rfl (hb hby at_178) rfl ?_
    show Steps p.tables e below (T149.setTop (mkF m 180 #[.val (.int q1), .val (.int q2), .val (.int q3), .val (.int q4), .val (.int sel), .val (.int nfl), .val (.int (kF sel)), .val (.int (psF sel)), .val (.double (pF sel)), .second, .val (.int (nF q1)), .val (.int (nkF sel q1 q2)), .val (.int (nkF sel q1 q3)), .val (.int (nF q4)), .val (.int (moF nfl)), .val (.int (wF nfl)), .val (.int (ffF nfl)), .val (.double (iV nfl)), .second, .val (.ref b148), .unset, .unset, .unset, .unset, .unset, .unset] [(.double (iV nfl)), (.ref b148)])) _
    refine st150.trans ?_
    refine XS.aload X150.here hx rfl (hb hby at_183) rfl rfl ?_
    refine XS.iload X150.here hx rfl (hb hby at_185) rfl ?_
    refine XS.i2dS X150.here hx rfl (hb hby at_187) rfl rfl ?_
    show Steps p.tables e below (T150.setTop (mkF m 188 #[.val (.int q1), .val (.int q2), .val (.int q3), .val (.int q4), .val (.int sel), .val (.int nfl), .val (.int (kF sel)), .val (.int (psF sel)), .val (.double (pF sel)), .second, .val (.int (nF q1)), .val (.int (nkF sel q1 q2)), .val (.int (nkF sel q1 q3)), .val (.int (nF q4)), .val (.int (moF nfl)), .val (.int (wF nfl)), .val (.int (ffF nfl)), .val (.double (iV nfl)), .second, .val (.ref b148), .unset, .unset, .unset, .unset, .unset, .unset] [(.double (FP.i2d (nF q1))), (.ref b148)])) _
    refine XS.dload X150.here hx rfl (hb hby at_188) rfl ?_
    refine XS.dmulS X150.here hx rfl (hb hby at_190) rfl hnan190 rfl ?_
    show Steps p.tables e below (T150.setTop (mkF m 191 #[.val (.int q1), .val (.int q2), .val (.int q3), .val (.int q4), .val (.int sel), .val (.int nfl), .val (.int (kF sel)), .val (.int (psF sel)), .val (.double (pF sel)), .second, .val (.int (nF q1)), .val (.int (nkF sel q1 q2)), .val (.int (nkF sel q1 q3)), .val (.int (nF q4)), .val (.int (moF nfl)), .val (.int (wF nfl)), .val (.int (ffF nfl)), .val (.double (iV nfl)), .second, .val (.ref b148), .unset, .unset, .unset, .unset, .unset, .unset] [(.double (FP.dmul (FP.i2d (nF q1)) (pF sel))), (.ref b148)])) _
    refine st151.trans ?_
    refine XS.iload X151.here hx rfl (hb hby at_194) rfl ?_
    refine XS.iconst X151.here hx rfl (hb hby at_196) ?_
    refine XS.icmpNo X151.here hx rfl (hb hby at_197) rfl (flt hc197).1 ?_
    show Steps p.tables e below (T151.setTop (mkF m 200 #[.val (.int q1), .val (.int q2), .val (.int q3), .val (.int q4), .val (.int sel), .val (.int nfl), .val (.int (kF sel)), .val (.int (psF sel)), .val (.double (pF sel)), .second, .val (.int (nF q1)), .val (.int (nkF sel q1 q2)), .val (.int (nkF sel q1 q3)), .val (.int (nF q4)), .val (.int (moF nfl)), .val (.int (wF nfl)), .val (.int (ffF nfl)), .val (.double (iV nfl)), .second, .val (.ref b148), .unset, .unset, .unset, .unset, .unset, .unset] [])) _
    refine XS.aload X151.here hx rfl (hb hby at_200) rfl rfl ?_
    refine XS.iload X151.here hx rfl (hb hby at_202) rfl ?_
    refine XS.i2dS X151.here hx rfl (hb hby at_204) rfl rfl ?_
    refine XS.dload X151.here hx rfl (hb hby at_205) rfl ?_
    show Steps p.tables e below (T151.setTop (mkF m 207 #[.val (.int q1), .val (.int q2), .val (.int q3), .val (.int q4), .val (.int sel), .val (.int nfl), .val (.int (kF sel)), .val (.int (psF sel)), .val (.double (pF sel)), .second, .val (.int (nF q1)), .val (.int (nkF sel q1 q2)), .val (.int (nkF sel q1 q3)), .val (.int (nF q4)), .val (.int (moF nfl)), .val (.int (wF nfl)), .val (.int (ffF nfl)), .val (.double (iV nfl)), .second, .val (.ref b148), .unset, .unset, .unset, .unset, .unset, .unset] [(.double (pF sel)), (.double (FP.i2d (nkF sel q1 q2))), (.ref b148)])) _
    refine XS.dmulS X151.here hx rfl (hb hby at_207) rfl hnan207 rfl ?_
    show Steps p.tables e below (T151.setTop (mkF m 208 #[.val (.int q1), .val (.int q2), .val (.int q3), .val (.int q4), .val (.int sel), .val (.int nfl), .val (.int (kF sel)), .val (.int (psF sel)), .val (.double (pF sel)), .second, .val (.int (nF q1)), .val (.int (nkF sel q1 q2)), .val (.int (nkF sel q1 q3)), .val (.int (nF q4)), .val (.int (moF nfl)), .val (.int (wF nfl)), .val (.int (ffF nfl)), .val (.double (iV nfl)), .second, .val (.ref b148), .unset, .unset, .unset, .unset, .unset, .unset] [(.double (FP.dmul (FP.i2d (nkF sel q1 q2)) (pF sel))), (.ref b148)])) _
    refine st152.trans ?_
    refine XS.iload X152.here hx rfl (hb hby at_211) rfl ?_
    refine XS.iconst X152.here hx rfl (hb hby at_213) ?_
    refine XS.icmpNo X152.here hx rfl (hb hby at_214) rfl (flt hc214).1 ?_
    show Steps p.tables e below (T152.setTop (mkF m 217 #[.val (.int q1), .val (.int q2), .val (.int q3), .val (.int q4), .val (.int sel), .val (.int nfl), .val (.int (kF sel)), .val (.int (psF sel)), .val (.double (pF sel)), .second, .val (.int (nF q1)), .val (.int (nkF sel q1 q2)), .val (.int (nkF sel q1 q3)), .val (.int (nF q4)), .val (.int (moF nfl)), .val (.int (wF nfl)), .val (.int (ffF nfl)), .val (.double (iV nfl)), .second, .val (.ref b148), .unset, .unset, .unset, .unset, .unset, .unset] [])) _
    refine XS.aload X152.here hx rfl (hb hby at_217) rfl rfl ?_
    refine XS.iload X152.here hx rfl (hb hby at_219) rfl ?_
    refine XS.i2dS X152.here hx rfl (hb hby at_221) rfl rfl ?_
    refine XS.dload X152.here hx rfl (hb hby at_222) rfl ?_
    show Steps p.tables e below (T152.setTop (mkF m 224 #[.val (.int q1), .val (.int q2), .val (.int q3), .val (.int q4), .val (.int sel), .val (.int nfl), .val (.int (kF sel)), .val (.int (psF sel)), .val (.double (pF sel)), .second, .val (.int (nF q1)), .val (.int (nkF sel q1 q2)), .val (.int (nkF sel q1 q3)), .val (.int (nF q4)), .val (.int (moF nfl)), .val (.int (wF nfl)), .val (.int (ffF nfl)), .val (.double (iV nfl)), .second, .val (.ref b148), .unset, .unset, .unset, .unset, .unset, .unset] [(.double (pF sel)), (.double (FP.i2d (nkF sel q1 q3))), (.ref b148)])) _
    refine XS.dmulS X152.here hx rfl (hb hby at_224) rfl hnan224 rfl ?_
    show Steps p.tables e below (T152.setTop (mkF m 225 #[.val (.int q1), .val (.int q2), .val (.int q3), .val (.int q4), .val (.int sel), .val (.int nfl), .val (.int (kF sel)), .val (.int (psF sel)), .val (.double (pF sel)), .second, .val (.int (nF q1)), .val (.int (nkF sel q1 q2)), .val (.int (nkF sel q1 q3)), .val (.int (nF q4)), .val (.int (moF nfl)), .val (.int (wF nfl)), .val (.int (ffF nfl)), .val (.double (iV nfl)), .second, .val (.ref b148), .unset, .unset, .unset, .unset, .unset, .unset] [(.double (FP.dmul (FP.i2d (nkF sel q1 q3)) (pF sel))), (.ref b148)])) _
    refine st153.trans ?_
    refine XS.iload X153.here hx rfl (hb hby at_228) rfl ?_
    refine XS.iconst X153.here hx rfl (hb hby at_230) ?_
    refine XS.icmpNo X153.here hx rfl (hb hby at_231) rfl (flt hc231).1 ?_
    show Steps p.tables e below (T153.setTop (mkF m 234 #[.val (.int q1), .val (.int q2), .val (.int q3), .val (.int q4), .val (.int sel), .val (.int nfl), .val (.int (kF sel)), .val (.int (psF sel)), .val (.double (pF sel)), .second, .val (.int (nF q1)), .val (.int (nkF sel q1 q2)), .val (.int (nkF sel q1 q3)), .val (.int (nF q4)), .val (.int (moF nfl)), .val (.int (wF nfl)), .val (.int (ffF nfl)), .val (.double (iV nfl)), .second, .val (.ref b148), .unset, .unset, .unset, .unset, .unset, .unset] [])) _
    refine XS.aload X153.here hx rfl (hb hby at_234) rfl rfl ?_
    refine XS.iload X153.here hx rfl (hb hby at_236) rfl ?_
    refine XS.i2dS X153.here hx rfl (hb hby at_238) rfl rfl ?_
    refine XS.dload X153.here hx rfl (hb hby at_239) rfl ?_
    show Steps p.tables e below (T153.setTop (mkF m 241 #[.val (.int q1), .val (.int q2), .val (.int q3), .val (.int q4), .val (.int sel), .val (.int nfl), .val (.int (kF sel)), .val (.int (psF sel)), .val (.double (pF sel)), .second, .val (.int (nF q1)), .val (.int (nkF sel q1 q2)), .val (.int (nkF sel q1 q3)), .val (.int (nF q4)), .val (.int (moF nfl)), .val (.int (wF nfl)), .val (.int (ffF nfl)), .val (.double (iV nfl)), .second, .val (.ref b148), .unset, .unset, .unset, .unset, .unset, .unset] [(.double (pF sel)), (.double (FP.i2d (nF q4))), (.ref b148)])) _
    refine XS.dmulS X153.here hx rfl (hb hby at_241) rfl hnan241 rfl ?_
    show Steps p.tables e below (T153.setTop (mkF m 242 #[.val (.int q1), .val (.int q2), .val (.int q3), .val (.int q4), .val (.int sel), .val (.int nfl), .val (.int (kF sel)), .val (.int (psF sel)), .val (.double (pF sel)), .second, .val (.int (nF q1)), .val (.int (nkF sel q1 q2)), .val (.int (nkF sel q1 q3)), .val (.int (nF q4)), .val (.int (moF nfl)), .val (.int (wF nfl)), .val (.int (ffF nfl)), .val (.double (iV nfl)), .second, .val (.ref b148), .unset, .unset, .unset, .unset, .unset, .unset] [(.double (FP.dmul (FP.i2d (nF q4)) (pF sel))), (.ref b148)])) _
    refine st154.trans ?_
    refine XS.iload X154.here hx rfl (hb hby at_245) rfl ?_
    refine XS.ifNo X154.here hx rfl (hb hby at_247) rfl ((if0 _ _).trans (feq hc247).1) ?_
    refine XS.iload X154.here hx rfl (hb hby at_250) rfl ?_
    show Steps p.tables e below (T154.setTop (mkF m 252 #[.val (.int q1), .val (.int q2), .val (.int q3), .val (.int q4), .val (.int sel), .val (.int nfl), .val (.int (kF sel)), .val (.int (psF sel)), .val (.double (pF sel)), .second, .val (.int (nF q1)), .val (.int (nkF sel q1 q2)), .val (.int (nkF sel q1 q3)), .val (.int (nF q4)), .val (.int (moF nfl)), .val (.int (wF nfl)), .val (.int (ffF nfl)), .val (.double (iV nfl)), .second, .val (.ref b148), .unset, .unset, .unset, .unset, .unset, .unset] [(.int (ffF nfl))])) _
    refine XS.ifYes X154.here hx rfl (pc0 := 252) (pc' := 262) rfl (hb hby at_252) rfl ((if0 _ _).trans (feq hc252).2) (by decide) (by decide) ?_
    refine XS.aload X154.here hx rfl (hb hby at_262) rfl rfl ?_
    show Steps p.tables e below (T154.setTop (mkF m 264 #[.val (.int q1), .val (.int q2), .val (.int q3), .val (.int q4), .val (.int sel), .val (.int nfl), .val (.int (kF sel)), .val (.int (psF sel)), .val (.double (pF sel)), .second, .val (.int (nF q1)), .val (.int (nkF sel q1 q2)), .val (.int (nkF sel q1 q3)), .val (.int (nF q4)), .val (.int (moF nfl)), .val (.int (wF nfl)), .val (.int (ffF nfl)), .val (.double (iV nfl)), .second, .val (.ref b148), .unset, .unset, .unset, .unset, .unset, .unset] [(.ref b148)])) _
    refine st155.trans ?_
    refine XS.dstore X155.here hx rfl (hb hby at_267) rfl (l' := #[.val (.int q1), .val (.int q2), .val (.int q3), .val (.int q4), .val (.int sel), .val (.int nfl), .val (.int (kF sel)), .val (.int (psF sel)), .val (.double (pF sel)), .second, .val (.int (nF q1)), .val (.int (nkF sel q1 q2)), .val (.int (nkF sel q1 q3)), .val (.int (nF q4)), .val (.int (moF nfl)), .val (.int (wF nfl)), .val (.int (ffF nfl)), .val (.double (iV nfl)), .second, .val (.ref b148), .val (.double (FP.dadd 0 (iV nfl))), .second, .unset, .unset, .unset, .unset]) rfl ?_
    refine XS.iload X155.here hx rfl (hb hby at_269) rfl ?_
    refine XS.ifNo X155.here hx rfl (hb hby at_271) rfl ((if0 _ _).trans (feq hc271).1) ?_
    show Steps p.tables e below (T155.setTop (mkF m 274 #[.val (.int q1), .val (.int q2), .val (.int q3), .val (.int q4), .val (.int sel), .val (.int nfl), .val (.int (kF sel)), .val (.int (psF sel)), .val (.double (pF sel)), .second, .val (.int (nF q1)), .val (.int (nkF sel q1 q2)), .val (.int (nkF sel q1 q3)), .val (.int (nF q4)), .val (.int (moF nfl)), .val (.int (wF nfl)), .val (.int (ffF nfl)), .val (.double (iV nfl)), .second, .val (.ref b148), .val (.double (FP.dadd 0 (iV nfl))), .second, .unset, .unset, .unset, .unset] [])) _
    refine XS.dload X155.here hx rfl (hb hby at_274) rfl ?_
    refine XS.dload X155.here hx rfl (hb hby at_276) rfl ?_
    refine XS.dcmpS X155.here hx rfl (hb hby at_278) rfl rfl ?_
    refine XS.ifNo X155.here hx rfl (hb hby at_279) rfl ((if0 _ _).trans (teq hc279).2) ?_
    show Steps p.tables e below (T155.setTop (mkF m 282 #[.val (.int q1), .val (.int q2), .val (.int q3), .val (.int q4), .val (.int sel), .val (.int nfl), .val (.int (kF sel)), .val (.int (psF sel)), .val (.double (pF sel)), .second, .val (.int (nF q1)), .val (.int (nkF sel q1 q2)), .val (.int (nkF sel q1 q3)), .val (.int (nF q4)), .val (.int (moF nfl)), .val (.int (wF nfl)), .val (.int (ffF nfl)), .val (.double (iV nfl)), .second, .val (.ref b148), .val (.double (FP.dadd 0 (iV nfl))), .second, .unset, .unset, .unset, .unset] [])) _
    refine XS.iconst X155.here hx rfl (hb hby at_282) ?_
    refine XS.goto X155.here hx rfl (pc0 := 283) (pc' := 287) rfl (hb hby at_283) (by decide) (by decide) ?_
    show Steps p.tables e below (T155.setTop (mkF m 287 #[.val (.int q1), .val (.int q2), .val (.int q3), .val (.int q4), .val (.int sel), .val (.int nfl), .val (.int (kF sel)), .val (.int (psF sel)), .val (.double (pF sel)), .second, .val (.int (nF q1)), .val (.int (nkF sel q1 q2)), .val (.int (nkF sel q1 q3)), .val (.int (nF q4)), .val (.int (moF nfl)), .val (.int (wF nfl)), .val (.int (ffF nfl)), .val (.double (iV nfl)), .second, .val (.ref b148), .val (.double (FP.dadd 0 (iV nfl))), .second, .unset, .unset, .unset, .unset] [(.int (1 : Int32))])) _
    exact retN X155 hx (t := .boolean) Bd.returns (by simp) (hb hby at_287) hr
  · show Q0  h0 n0 _ T155.heap _
    exact ⟨rfl, N155⟩
set_option maxRecDepth 65536 in
set_option maxHeartbeats 40000000 in
theorem rm0_l4 (l : Launch) (Z : State) (a0 : Array Value) (hw : ∀ d ∈ tables_1, d.before a0 Z = true) (ws : List Jvm.Cond) (q1 : Int32) (q2 : Int32) (q3 : Int32) (q4 : Int32) (sel : Int32) (nfl : Int32) (U : Nat) (h0 : Heap) (n0 : Nat) (Z0 : n0 ≤ h0.size) (hU : 74 ≤ U ∧ U ≤ 2074) (hU2 : U = 2074 ∨ U ≤ 1074) (hp : DV 1 U (pF sel)) (d1 : DV (nF q1).toInt U (FP.dmul (FP.i2d (nF q1)) (pF sel))) (r1 : -8388608 ≤ (nF q1).toInt ∧ (nF q1).toInt ≤ 8388607) (d2 : DV (nkF sel q1 q2).toInt U (FP.dmul (FP.i2d (nkF sel q1 q2)) (pF sel))) (r2 : -8388608 ≤ (nkF sel q1 q2).toInt ∧ (nkF sel q1 q2).toInt ≤ 8388607) (d3 : DV (nkF sel q1 q3).toInt U (FP.dmul (FP.i2d (nkF sel q1 q3)) (pF sel))) (r3 : -8388608 ≤ (nkF sel q1 q3).toInt ∧ (nkF sel q1 q3).toInt ≤ 8388607) (d4 : DV (nF q4).toInt U (FP.dmul (FP.i2d (nF q4)) (pF sel))) (r4 : -8388608 ≤ (nF q4).toInt ∧ (nF q4).toInt ≤ 8388607) (hin1 : Jvm.Free.Fl.NoNaN64 (iV nfl)) (hin2 : ¬ ((infF (iV nfl)) = (0 : Int32))) (hin3 : Jvm.Free.Fl.NoNaN64 (FP.dadd 0 (iV nfl))) (hin4 : ¬ ((cmpValue (FP.dcmp (FP.dadd 0 (iV nfl)) FP.dconst0) .l) = (0 : Int32))) (hc168 : ¬ ((wF nfl) = (0 : Int32))) (hc173 : (ffF nfl) = (0 : Int32)) (hnan190 : Jvm.Free.Fl.NoNaN64 (FP.dmul (FP.i2d (nF q1)) (pF sel))) (hc197 : ¬ ((kF sel) < (2 : Int32))) (hnan207 : Jvm.Free.Fl.NoNaN64 (FP.dmul (FP.i2d (nkF sel q1 q2)) (pF sel))) (hc214 : ¬ ((kF sel) < (3 : Int32))) (hnan224 : Jvm.Free.Fl.NoNaN64 (FP.dmul (FP.i2d (nkF sel q1 q3)) (pF sel))) (hc231 : ¬ ((kF sel) < (4 : Int32))) (hnan241 : Jvm.Free.Fl.NoNaN64 (FP.dmul (FP.i2d (nF q4)) (pF sel))) (hc247 : ¬ ((wF nfl) = (0 : Int32))) (hc252 : (ffF nfl) = (0 : Int32)) (hc271 : ¬ ((wF nfl) = (0 : Int32))) (hc279 : (cmpValue (FP.dcmp (FP.dadd 0 (iV nfl)) (iV nfl)) .l) = (0 : Int32)) :
    MetFree l x (head1 (Jvm.Cond.code x code maxLocals ret :: ws) room_1) (fun aa_ U_ => aa_ = #[(.int q1), (.int q2), (.int q3), (.int q4), (.int sel), (.int nfl)] ∧ Z.Warmed39 U_.vm ∧ U_.heap = h0) (fun _ _ _ _ _ => True) (fun _ U_ o_ V_ => ∃ v_ L_, o_ = .returned v_ ∧ Q0  h0 n0 v_ V_.heap L_ ∧ FrameEnd U_ o_ V_ L_ room_1.cells room_1.slots) := by
  refine MetFree.of_bodySF (plainFor_of_name pn_0) hisR ?_
  intro p e s m args below meth c s₁ Bd hml0 hP hK
  obtain ⟨rfl, hZ, hh⟩ := hP
  have hx := Bd.exec
  have hby := Bd.bytes
  have hml : c.maxLocals = 26 := hml0
  have hown : s.vm.findClass "com/example/retiremetric/retiremetric/engine/MeanMeanPinLaw" = some m.cls := findClass_of_methodNamed Bd.named
  have hnm := (name_of_methodNamed Bd.named Bd.method).1
  have X0 : Stand p l e room_1 s m #[(.int q1), (.int q2), (.int q3), (.int q4), (.int sel), (.int nfl)] below meth c s₁ [] 0 0 := Stand.of_body Bd
  have e0 : s₁.heap = h0 := by rw [← hh, Bd.state]; rfl
  have N0 := Fr.nil n0
  have pre0 : ∀ zz, Steps p.tables e below (s₁.setTop (mkF m 0 #[.val (.int q1), .val (.int q2), .val (.int q3), .val (.int q4), .val (.int sel), .val (.int nfl), .unset, .unset, .unset, .unset, .unset, .unset, .unset, .unset, .unset, .unset, .unset, .unset, .unset, .unset, .unset, .unset, .unset, .unset, .unset, .unset] [])) zz → Steps p.tables e below (s₁.setTop (entryFrame m #[(.int q1), (.int q2), (.int q3), (.int q4), (.int sel), (.int nfl)] maxLocals)) zz := fun zz k => castTop (ef_0 m q1 q2 q3 q4 sel nfl) k
  have mv0 : MV U 0 0 0 0 FP.dconst1 0 0 := ⟨by omega, zero_dv _, one_dv, zero_dv _, zero_dv _, by simp⟩
  obtain ⟨T156, h156, X156, e156, E156, A156, D156, -, st156⟩ := newO X0 hx hZ hown (hw _ (List.mem_of_getElem? (i := 1) rfl)) (hw _ (List.mem_of_getElem? (i := 2) rfl)) (hw _ (List.mem_of_getElem? (i := 3) rfl)) e0 (g := (mkF m 157 #[.val (.int q1), .val (.int q2), .val (.int q3), .val (.int q4), .val (.int sel), .val (.int nfl), .val (.int (kF sel)), .val (.int (psF sel)), .val (.double (pF sel)), .second, .val (.int (nF q1)), .val (.int (nkF sel q1 q2)), .val (.int (nkF sel q1 q3)), .val (.int (nF q4)), .val (.int (moF nfl)), .val (.int (wF nfl)), .val (.int (ffF nfl)), .val (.double (iV nfl)), .second, .unset, .unset, .unset, .unset, .unset, .unset, .unset] [])) rfl (hb hby at_157) (by decide) (by decide)
  obtain ⟨b156, g156⟩ : ∃ z, z = h0.size := ⟨_, rfl⟩
  rw [← g156] at A156 D156 st156
  have E_b156 := A156
  have g_b156 : n0 ≤ b156 := Nat.le_trans Z0 (Nat.le_of_eq g156.symm)
  have sz_b156 : h0.size ≤ b156 := Nat.le_trans (Keep.refl h0 []).1 (Nat.le_of_eq g156.symm)
  have K156 := (Keep.refl h0 []).ext E156
  have Z156 : n0 ≤ h156.size := Nat.le_trans Z0 E156.1
  have F_scale_b156 : Fld Z h156 b156 "com/example/retiremetric/retiremetric/engine/Mean" "scale" "D" (.double 0) := D156 (Or.inl (hw _ (List.mem_of_getElem? (i := 11) rfl))) (ty := .double) (by decide)
  have F_count_b156 : Fld Z h156 b156 "com/example/retiremetric/retiremetric/engine/Mean" "count" "J" (.long (0 : Int64)) := D156 (Or.inl (hw _ (List.mem_of_getElem? (i := 27) rfl))) (ty := .long) (by decide)
  have F_first_b156 : Fld Z h156 b156 "com/example/retiremetric/retiremetric/engine/Mean" "first" "D" (.double 0) := D156 (Or.inl (hw _ (List.mem_of_getElem? (i := 29) rfl))) (ty := .double) (by decide)
  have F_scaledFirst_b156 : Fld Z h156 b156 "com/example/retiremetric/retiremetric/engine/Mean" "scaledFirst" "D" (.double 0) := D156 (Or.inl (hw _ (List.mem_of_getElem? (i := 31) rfl))) (ty := .double) (by decide)
  have F_differences_b156 : Fld Z h156 b156 "com/example/retiremetric/retiremetric/engine/Mean" "differences" "D" (.double 0) := D156 (Or.inl (hw _ (List.mem_of_getElem? (i := 33) rfl))) (ty := .double) (by decide)
  have F_infinities_b156 : Fld Z h156 b156 "com/example/retiremetric/retiremetric/engine/Mean" "infinities" "D" (.double 0) := D156 (Or.inl (hw _ (List.mem_of_getElem? (i := 40) rfl))) (ty := .double) (by decide)
  obtain ⟨_, _, ⟨T157, L157, k157, n157⟩, -, X157, ⟨Lc157, hQ157, l157, y157, z157⟩, st157⟩ := X156.specialBack hx (y := (⟨"com/example/retiremetric/retiremetric/engine/Mean", "<init>", "()V"⟩ : MethodName)) rfl hown (mvT hZ (hw _ (List.mem_of_getElem? (i := 4) rfl))) (mvT hZ (hw _ (List.mem_of_getElem? (i := 5) rfl))) (mvT hZ (hw _ (List.mem_of_getElem? (i := 6) rfl))) (by decide) (backOf (W := 1) (rm1 l Z a0 hw [] b156 h156 n0 Z156 g_b156 ⟨E_b156, F_first_b156, F_scale_b156, F_scaledFirst_b156, F_differences_b156, F_infinities_b156, F_count_b156⟩) hZ (hw _ (List.mem_of_getElem? (i := 6) rfl)) (hw _ (List.mem_of_getElem? (i := 3) rfl)) (by decide) (by decide)) (g := (mkF m 161 #[.val (.int q1), .val (.int q2), .val (.int q3), .val (.int q4), .val (.int sel), .val (.int nfl), .val (.int (kF sel)), .val (.int (psF sel)), .val (.double (pF sel)), .second, .val (.int (nF q1)), .val (.int (nkF sel q1 q2)), .val (.int (nkF sel q1 q3)), .val (.int (nF q4)), .val (.int (moF nfl)), .val (.int (wF nfl)), .val (.int (ffF nfl)), .val (.double (iV nfl)), .second, .unset, .unset, .unset, .unset, .unset, .unset, .unset] [(.ref b156), (.ref b156)])) rfl (by rw [hml]; rfl) (Steps.refl _) (a := b156) (argsL := []) (rest := [(.ref b156)]) (lenOf pd_0 rfl) rfl (by show 2 * 0 + _ ≤ _; exact Nat.le_of_eq rfl) (hb hby at_161) (fun _ _ => ⟨rfl, e156, (by decide : 1 + 0 ≤ _), (by decide : 6 + 0 ≤ _)⟩)
  dsimp only [Pt.U, Pt.locs, Pt.cells, Pt.slots] at X157 l157 y157 z157 st157 hQ157
  subst l157 y157 z157
  obtain ⟨rfl, N157q, K157q, M157⟩ := hQ157
  have N157 := Fr.app N0 N157q
  have Z157 : n0 ≤ T157.heap.size := Nat.le_trans Z156 K157q.1
  obtain ⟨cq158, kq158, q158a, q158b, q158c⟩ := isOf hZ rfl M157.1
  obtain ⟨_, _, ⟨T158, L158, k158, n158⟩, -, X158, ⟨Lc158, hQ158, l158, y158, z158⟩, st158⟩ := X157.virtualBack hx (y := (⟨"com/example/retiremetric/retiremetric/engine/Mean", "add", "(D)V"⟩ : MethodName)) (z := (⟨"com/example/retiremetric/retiremetric/engine/Mean", "add", "(D)V"⟩ : MethodName)) hown (mvT hZ (hw _ (List.mem_of_getElem? (i := 12) rfl))) (mvT hZ (hw _ (List.mem_of_getElem? (i := 13) rfl))) (notFace_of_selects (args := #[]) (mvT hZ (hw _ (List.mem_of_getElem? (i := 15) rfl)))) (mvT hZ (hw _ (List.mem_of_getElem? (i := 15) rfl))) (mvT hZ (hw _ (List.mem_of_getElem? (i := 14) rfl))) (by decide) (backOf (W := 0) (rm3_one l Z a0 hw [] b156 (FP.dmul (FP.i2d (nF q1)) (pF sel)) 0 U (nF q1).toInt T157.heap n0 Z157 g_b156 M157 hU d1 (by omega)) hZ (hw _ (List.mem_of_getElem? (i := 16) rfl)) (hw _ (List.mem_of_getElem? (i := 3) rfl)) (by decide) (by decide)) q158a q158c (g := (mkF m 191 #[.val (.int q1), .val (.int q2), .val (.int q3), .val (.int q4), .val (.int sel), .val (.int nfl), .val (.int (kF sel)), .val (.int (psF sel)), .val (.double (pF sel)), .second, .val (.int (nF q1)), .val (.int (nkF sel q1 q2)), .val (.int (nkF sel q1 q3)), .val (.int (nF q4)), .val (.int (moF nfl)), .val (.int (wF nfl)), .val (.int (ffF nfl)), .val (.double (iV nfl)), .second, .val (.ref b156), .unset, .unset, .unset, .unset, .unset, .unset] [(.double (FP.dmul (FP.i2d (nF q1)) (pF sel))), (.ref b156)])) rfl (by rw [hml]; rfl) (Steps.refl _) (argsL := [(.double (FP.dmul (FP.i2d (nF q1)) (pF sel)))]) (rest := []) (lenOf pd_1 rfl) rfl (by show 2 * 0 + _ ≤ _; exact Nat.le_of_eq rfl) (hb hby at_191) (fun _ _ => ⟨rfl, rfl, (by decide : 1 + 0 ≤ _), (by decide : 6 + 0 ≤ _)⟩)
  dsimp only [Pt.U, Pt.locs, Pt.cells, Pt.slots] at X158 l158 y158 z158 st158 hQ158
  subst l158 y158 z158
  obtain ⟨x158, f158, sc158, sf158, df158, V158, rfl, N158q, K158q, M158⟩ := hQ158
  have N158 := Fr.app N157 N158q
  have Z158 : n0 ≤ T158.heap.size := Nat.le_trans Z157 K158q.1
  obtain ⟨cq159, kq159, q159a, q159b, q159c⟩ := isOf hZ rfl M158.1
  obtain ⟨_, _, ⟨T159, L159, k159, n159⟩, -, X159, ⟨Lc159, hQ159, l159, y159, z159⟩, st159⟩ := X158.virtualBack hx (y := (⟨"com/example/retiremetric/retiremetric/engine/Mean", "add", "(D)V"⟩ : MethodName)) (z := (⟨"com/example/retiremetric/retiremetric/engine/Mean", "add", "(D)V"⟩ : MethodName)) hown (mvT hZ (hw _ (List.mem_of_getElem? (i := 12) rfl))) (mvT hZ (hw _ (List.mem_of_getElem? (i := 13) rfl))) (notFace_of_selects (args := #[]) (mvT hZ (hw _ (List.mem_of_getElem? (i := 15) rfl)))) (mvT hZ (hw _ (List.mem_of_getElem? (i := 15) rfl))) (mvT hZ (hw _ (List.mem_of_getElem? (i := 14) rfl))) (by decide) (backOf (W := 0) (rm3_fin l Z a0 hw [] b156 (FP.dmul (FP.i2d (nkF sel q1 q2)) (pF sel)) f158 sc158 sf158 df158 0 (0 + (1 : Int64)) U (nF q1).toInt 0 (nkF sel q1 q2).toInt x158 T158.heap n0 Z158 g_b156 M158 hU hU2 d2 V158 (by omega) (by omega) (by omega) (by omega) (by decide)) hZ (hw _ (List.mem_of_getElem? (i := 16) rfl)) (hw _ (List.mem_of_getElem? (i := 3) rfl)) (by decide) (by decide)) q159a q159c (g := (mkF m 208 #[.val (.int q1), .val (.int q2), .val (.int q3), .val (.int q4), .val (.int sel), .val (.int nfl), .val (.int (kF sel)), .val (.int (psF sel)), .val (.double (pF sel)), .second, .val (.int (nF q1)), .val (.int (nkF sel q1 q2)), .val (.int (nkF sel q1 q3)), .val (.int (nF q4)), .val (.int (moF nfl)), .val (.int (wF nfl)), .val (.int (ffF nfl)), .val (.double (iV nfl)), .second, .val (.ref b156), .unset, .unset, .unset, .unset, .unset, .unset] [(.double (FP.dmul (FP.i2d (nkF sel q1 q2)) (pF sel))), (.ref b156)])) rfl (by rw [hml]; rfl) (Steps.refl _) (argsL := [(.double (FP.dmul (FP.i2d (nkF sel q1 q2)) (pF sel)))]) (rest := []) (lenOf pd_1 rfl) rfl (by show 2 * 0 + _ ≤ _; exact Nat.le_of_eq rfl) (hb hby at_208) (fun _ _ => ⟨rfl, rfl, (by decide : 1 + 0 ≤ _), (by decide : 6 + 0 ≤ _)⟩)
  dsimp only [Pt.U, Pt.locs, Pt.cells, Pt.slots] at X159 l159 y159 z159 st159 hQ159
  subst l159 y159 z159
  obtain ⟨x159, f159, sc159, sf159, df159, V159, rfl, N159q, K159q, M159⟩ := hQ159
  have N159 := Fr.app N158 N159q
  have Z159 : n0 ≤ T159.heap.size := Nat.le_trans Z158 K159q.1
  obtain ⟨cq160, kq160, q160a, q160b, q160c⟩ := isOf hZ rfl M159.1
  obtain ⟨_, _, ⟨T160, L160, k160, n160⟩, -, X160, ⟨Lc160, hQ160, l160, y160, z160⟩, st160⟩ := X159.virtualBack hx (y := (⟨"com/example/retiremetric/retiremetric/engine/Mean", "add", "(D)V"⟩ : MethodName)) (z := (⟨"com/example/retiremetric/retiremetric/engine/Mean", "add", "(D)V"⟩ : MethodName)) hown (mvT hZ (hw _ (List.mem_of_getElem? (i := 12) rfl))) (mvT hZ (hw _ (List.mem_of_getElem? (i := 13) rfl))) (notFace_of_selects (args := #[]) (mvT hZ (hw _ (List.mem_of_getElem? (i := 15) rfl)))) (mvT hZ (hw _ (List.mem_of_getElem? (i := 15) rfl))) (mvT hZ (hw _ (List.mem_of_getElem? (i := 14) rfl))) (by decide) (backOf (W := 0) (rm3_fin l Z a0 hw [] b156 (FP.dmul (FP.i2d (nkF sel q1 q3)) (pF sel)) f159 sc159 sf159 df159 0 ((0 + (1 : Int64)) + (1 : Int64)) U (nF q1).toInt (0 + ((nkF sel q1 q2).toInt - (nF q1).toInt)) (nkF sel q1 q3).toInt x159 T159.heap n0 Z159 g_b156 M159 hU hU2 d3 V159 (by omega) (by omega) (by omega) (by omega) (by decide)) hZ (hw _ (List.mem_of_getElem? (i := 16) rfl)) (hw _ (List.mem_of_getElem? (i := 3) rfl)) (by decide) (by decide)) q160a q160c (g := (mkF m 225 #[.val (.int q1), .val (.int q2), .val (.int q3), .val (.int q4), .val (.int sel), .val (.int nfl), .val (.int (kF sel)), .val (.int (psF sel)), .val (.double (pF sel)), .second, .val (.int (nF q1)), .val (.int (nkF sel q1 q2)), .val (.int (nkF sel q1 q3)), .val (.int (nF q4)), .val (.int (moF nfl)), .val (.int (wF nfl)), .val (.int (ffF nfl)), .val (.double (iV nfl)), .second, .val (.ref b156), .unset, .unset, .unset, .unset, .unset, .unset] [(.double (FP.dmul (FP.i2d (nkF sel q1 q3)) (pF sel))), (.ref b156)])) rfl (by rw [hml]; rfl) (Steps.refl _) (argsL := [(.double (FP.dmul (FP.i2d (nkF sel q1 q3)) (pF sel)))]) (rest := []) (lenOf pd_1 rfl) rfl (by show 2 * 0 + _ ≤ _; exact Nat.le_of_eq rfl) (hb hby at_225) (fun _ _ => ⟨rfl, rfl, (by decide : 1 + 0 ≤ _), (by decide : 6 + 0 ≤ _)⟩)
  dsimp only [Pt.U, Pt.locs, Pt.cells, Pt.slots] at X160 l160 y160 z160 st160 hQ160
  subst l160 y160 z160
  obtain ⟨x160, f160, sc160, sf160, df160, V160, rfl, N160q, K160q, M160⟩ := hQ160
  have N160 := Fr.app N159 N160q
  have Z160 : n0 ≤ T160.heap.size := Nat.le_trans Z159 K160q.1
  obtain ⟨cq161, kq161, q161a, q161b, q161c⟩ := isOf hZ rfl M160.1
  obtain ⟨_, _, ⟨T161, L161, k161, n161⟩, -, X161, ⟨Lc161, hQ161, l161, y161, z161⟩, st161⟩ := X160.virtualBack hx (y := (⟨"com/example/retiremetric/retiremetric/engine/Mean", "add", "(D)V"⟩ : MethodName)) (z := (⟨"com/example/retiremetric/retiremetric/engine/Mean", "add", "(D)V"⟩ : MethodName)) hown (mvT hZ (hw _ (List.mem_of_getElem? (i := 12) rfl))) (mvT hZ (hw _ (List.mem_of_getElem? (i := 13) rfl))) (notFace_of_selects (args := #[]) (mvT hZ (hw _ (List.mem_of_getElem? (i := 15) rfl)))) (mvT hZ (hw _ (List.mem_of_getElem? (i := 15) rfl))) (mvT hZ (hw _ (List.mem_of_getElem? (i := 14) rfl))) (by decide) (backOf (W := 0) (rm3_fin l Z a0 hw [] b156 (FP.dmul (FP.i2d (nF q4)) (pF sel)) f160 sc160 sf160 df160 0 (((0 + (1 : Int64)) + (1 : Int64)) + (1 : Int64)) U (nF q1).toInt ((0 + ((nkF sel q1 q2).toInt - (nF q1).toInt)) + ((nkF sel q1 q3).toInt - (nF q1).toInt)) (nF q4).toInt x160 T160.heap n0 Z160 g_b156 M160 hU hU2 d4 V160 (by omega) (by omega) (by omega) (by omega) (by decide)) hZ (hw _ (List.mem_of_getElem? (i := 16) rfl)) (hw _ (List.mem_of_getElem? (i := 3) rfl)) (by decide) (by decide)) q161a q161c (g := (mkF m 242 #[.val (.int q1), .val (.int q2), .val (.int q3), .val (.int q4), .val (.int sel), .val (.int nfl), .val (.int (kF sel)), .val (.int (psF sel)), .val (.double (pF sel)), .second, .val (.int (nF q1)), .val (.int (nkF sel q1 q2)), .val (.int (nkF sel q1 q3)), .val (.int (nF q4)), .val (.int (moF nfl)), .val (.int (wF nfl)), .val (.int (ffF nfl)), .val (.double (iV nfl)), .second, .val (.ref b156), .unset, .unset, .unset, .unset, .unset, .unset] [(.double (FP.dmul (FP.i2d (nF q4)) (pF sel))), (.ref b156)])) rfl (by rw [hml]; rfl) (Steps.refl _) (argsL := [(.double (FP.dmul (FP.i2d (nF q4)) (pF sel)))]) (rest := []) (lenOf pd_1 rfl) rfl (by show 2 * 0 + _ ≤ _; exact Nat.le_of_eq rfl) (hb hby at_242) (fun _ _ => ⟨rfl, rfl, (by decide : 1 + 0 ≤ _), (by decide : 6 + 0 ≤ _)⟩)
  dsimp only [Pt.U, Pt.locs, Pt.cells, Pt.slots] at X161 l161 y161 z161 st161 hQ161
  subst l161 y161 z161
  obtain ⟨x161, f161, sc161, sf161, df161, V161, rfl, N161q, K161q, M161⟩ := hQ161
  have N161 := Fr.app N160 N161q
  have Z161 : n0 ≤ T161.heap.size := Nat.le_trans Z160 K161q.1
  obtain ⟨cq162, kq162, q162a, q162b, q162c⟩ := isOf hZ rfl M161.1
  obtain ⟨_, _, ⟨T162, L162, k162, n162⟩, -, X162, ⟨Lc162, hQ162, l162, y162, z162⟩, st162⟩ := X161.virtualBack hx (y := (⟨"com/example/retiremetric/retiremetric/engine/Mean", "add", "(D)V"⟩ : MethodName)) (z := (⟨"com/example/retiremetric/retiremetric/engine/Mean", "add", "(D)V"⟩ : MethodName)) hown (mvT hZ (hw _ (List.mem_of_getElem? (i := 12) rfl))) (mvT hZ (hw _ (List.mem_of_getElem? (i := 13) rfl))) (notFace_of_selects (args := #[]) (mvT hZ (hw _ (List.mem_of_getElem? (i := 15) rfl)))) (mvT hZ (hw _ (List.mem_of_getElem? (i := 15) rfl))) (mvT hZ (hw _ (List.mem_of_getElem? (i := 14) rfl))) (by decide) (backOf (W := 0) (rm3_I l Z a0 hw [] b156 (iV nfl) f161 sc161 sf161 df161 0 ((((0 + (1 : Int64)) + (1 : Int64)) + (1 : Int64)) + (1 : Int64)) T161.heap n0 Z161 g_b156 M161 hin1 hin2 hin3) hZ (hw _ (List.mem_of_getElem? (i := 16) rfl)) (hw _ (List.mem_of_getElem? (i := 3) rfl)) (by decide) (by decide)) q162a q162c (g := (mkF m 259 #[.val (.int q1), .val (.int q2), .val (.int q3), .val (.int q4), .val (.int sel), .val (.int nfl), .val (.int (kF sel)), .val (.int (psF sel)), .val (.double (pF sel)), .second, .val (.int (nF q1)), .val (.int (nkF sel q1 q2)), .val (.int (nkF sel q1 q3)), .val (.int (nF q4)), .val (.int (moF nfl)), .val (.int (wF nfl)), .val (.int (ffF nfl)), .val (.double (iV nfl)), .second, .val (.ref b156), .unset, .unset, .unset, .unset, .unset, .unset] [(.double (iV nfl)), (.ref b156)])) rfl (by rw [hml]; rfl) (Steps.refl _) (argsL := [(.double (iV nfl))]) (rest := []) (lenOf pd_1 rfl) rfl (by show 2 * 0 + _ ≤ _; exact Nat.le_of_eq rfl) (hb hby at_259) (fun _ _ => ⟨rfl, rfl, (by decide : 1 + 0 ≤ _), (by decide : 6 + 0 ≤ _)⟩)
  dsimp only [Pt.U, Pt.locs, Pt.cells, Pt.slots] at X162 l162 y162 z162 st162 hQ162
  subst l162 y162 z162
  obtain ⟨rfl, N162q, K162q, M162⟩ := hQ162
  have N162 := Fr.app N161 N162q
  have Z162 : n0 ≤ T162.heap.size := Nat.le_trans Z161 K162q.1
  obtain ⟨cq163, kq163, q163a, q163b, q163c⟩ := isOf hZ rfl M162.1
  obtain ⟨_, _, ⟨T163, L163, k163, n163⟩, -, X163, ⟨Lc163, hQ163, l163, y163, z163⟩, st163⟩ := X162.virtualBack hx (y := (⟨"com/example/retiremetric/retiremetric/engine/Mean", "mean", "()D"⟩ : MethodName)) (z := (⟨"com/example/retiremetric/retiremetric/engine/Mean", "mean", "()D"⟩ : MethodName)) hown (mvT hZ (hw _ (List.mem_of_getElem? (i := 34) rfl))) (mvT hZ (hw _ (List.mem_of_getElem? (i := 35) rfl))) (notFace_of_selects (args := #[]) (mvT hZ (hw _ (List.mem_of_getElem? (i := 37) rfl)))) (mvT hZ (hw _ (List.mem_of_getElem? (i := 37) rfl))) (mvT hZ (hw _ (List.mem_of_getElem? (i := 36) rfl))) (by decide) (backOf (W := 0) (rm6_I l Z a0 hw [] b156 f161 sc161 sf161 df161 (FP.dadd 0 (iV nfl)) (((((0 + (1 : Int64)) + (1 : Int64)) + (1 : Int64)) + (1 : Int64)) + (1 : Int64)) T162.heap n0 Z162 M162 (by decide) hin4) hZ (hw _ (List.mem_of_getElem? (i := 38) rfl)) (hw _ (List.mem_of_getElem? (i := 3) rfl)) (by decide) (by decide)) q163a q163c (g := (mkF m 264 #[.val (.int q1), .val (.int q2), .val (.int q3), .val (.int q4), .val (.int sel), .val (.int nfl), .val (.int (kF sel)), .val (.int (psF sel)), .val (.double (pF sel)), .second, .val (.int (nF q1)), .val (.int (nkF sel q1 q2)), .val (.int (nkF sel q1 q3)), .val (.int (nF q4)), .val (.int (moF nfl)), .val (.int (wF nfl)), .val (.int (ffF nfl)), .val (.double (iV nfl)), .second, .val (.ref b156), .unset, .unset, .unset, .unset, .unset, .unset] [(.ref b156)])) rfl (by rw [hml]; rfl) (Steps.refl _) (argsL := []) (rest := []) (lenOf pd_4 rfl) rfl (by show 2 * 0 + _ ≤ _; exact Nat.le_of_eq rfl) (hb hby at_264) (fun _ _ => ⟨rfl, rfl, (by decide : 1 + 0 ≤ _), (by decide : 6 + 0 ≤ _)⟩)
  dsimp only [Pt.U, Pt.locs, Pt.cells, Pt.slots] at X163 l163 y163 z163 st163 hQ163
  subst l163 y163 z163
  obtain ⟨rfl, N163q, e163⟩ := hQ163
  have N163 := Fr.app N162 N163q
  obtain ⟨fs, hr, hrun, hended, hW, hsame⟩ := X163.leave (v := some (.int (1 : Int32))) (fun h => by rw [Bd.returns] at h; cases h)
  refine ⟨_, _, pre0 _ ?_, hrun, hended, _, _, rfl, ?_, ⟨_, rfl⟩, hW, hsame.mono (by decide) (by decide)⟩
  · refine sg1 q1 q2 q3 q4 sel nfl X0 hx hZ hw hby hown ?_
    refine sg2 q1 q2 q3 q4 sel nfl X0 hx hZ hw hby hown ?_
    refine sg3 q1 q2 q3 q4 sel nfl X0 hx hZ hw hby hown ?_
    refine sg4 q1 q2 q3 q4 sel nfl X0 hx hZ hw hby hown ?_
    refine sg5 q1 q2 q3 q4 sel nfl X0 hx hZ hw hby hown ?_
    refine sg6 q1 q2 q3 q4 sel nfl X0 hx hZ hw hby hown ?_
    show Steps p.tables e below (s₁.setTop (mkF m 157 #[.val (.int q1), .val (.int q2), .val (.int q3), .val (.int q4), .val (.int sel), .val (.int nfl), .val (.int (kF sel)), .val (.int (psF sel)), .val (.double (pF sel)), .second, .val (.int (nF q1)), .val (.int (nkF sel q1 q2)), .val (.int (nkF sel q1 q3)), .val (.int (nF q4)), .val (.int (moF nfl)), .val (.int (wF nfl)), .val (.int (ffF nfl)), .val (.double (iV nfl)), .second, .unset, .unset, .unset, .unset, .unset, .unset, .unset] [])) _
    refine st156 _ ?_
    refine XS.dup X156.here hx rfl (hb hby at_160) rfl rfl ?_
    show Steps p.tables e below (T156.setTop (mkF m 161 #[.val (.int q1), .val (.int q2), .val (.int q3), .val (.int q4), .val (.int sel), .val (.int nfl), .val (.int (kF sel)), .val (.int (psF sel)), .val (.double (pF sel)), .second, .val (.int (nF q1)), .val (.int (nkF sel q1 q2)), .val (.int (nkF sel q1 q3)), .val (.int (nF q4)), .val (.int (moF nfl)), .val (.int (wF nfl)), .val (.int (ffF nfl)), .val (.double (iV nfl)), .second, .unset, .unset, .unset, .unset, .unset, .unset, .unset] [(.ref b156), (.ref b156)])) _
    refine st157.trans ?_
    refine XS.astore X157.here hx rfl (hb hby at_164) rfl rfl (l' := #[.val (.int q1), .val (.int q2), .val (.int q3), .val (.int q4), .val (.int sel), .val (.int nfl), .val (.int (kF sel)), .val (.int (psF sel)), .val (.double (pF sel)), .second, .val (.int (nF q1)), .val (.int (nkF sel q1 q2)), .val (.int (nkF sel q1 q3)), .val (.int (nF q4)), .val (.int (moF nfl)), .val (.int (wF nfl)), .val (.int (ffF nfl)), .val (.double (iV nfl)), .second, .val (.ref b156), .unset, .unset, .unset, .unset, .unset, .unset]) rfl ?_
    refine XS.iload X157.here hx rfl (hb hby at_166) rfl ?_
    refine XS.ifNo X157.here hx rfl (hb hby at_168) rfl ((if0 _ _).trans (feq hc168).1) ?_
    show Steps p.tables e below (T157.setTop (mkF m 171 #[.val (.int q1), .val (.int q2), .val (.int q3), .val (.int q4), .val (.int sel), .val (.int nfl), .val (.int (kF sel)), .val (.int (psF sel)), .val (.double (pF sel)), .second, .val (.int (nF q1)), .val (.int (nkF sel q1 q2)), .val (.int (nkF sel q1 q3)), .val (.int (nF q4)), .val (.int (moF nfl)), .val (.int (wF nfl)), .val (.int (ffF nfl)), .val (.double (iV nfl)), .second, .val (.ref b156), .unset, .unset, .unset, .unset, .unset, .unset] [])) _
    refine XS.iload X157.here hx rfl (hb hby at_171) rfl ?_
    refine XS.ifYes X157.here hx rfl (pc0 := 173) (pc' := 183) rfl (hb hby at_173) rfl ((if0 _ _).trans (teq hc173).1) (by decide) (by decide) ?_
    refine XS.aload X157.here hx rfl (hb hby at_183) rfl rfl ?_
    refine XS.iload X157.here hx rfl (hb hby at_185) rfl ?_
    show Steps p.tables e below (T157.setTop (mkF m 187 #[.val (.int q1), .val (.int q2), .val (.int q3), .val (.int q4), .val (.int sel), .val (.int nfl), .val (.int (kF sel)), .val (.int (psF sel)), .val (.double (pF sel)), .second, .val (.int (nF q1)), .val (.int (nkF sel q1 q2)), .val (.int (nkF sel q1 q3)), .val (.int (nF q4)), .val (.int (moF nfl)), .val (.int (wF nfl)), .val (.int (ffF nfl)), .val (.double (iV nfl)), .second, .val (.ref b156), .unset, .unset, .unset, .unset, .unset, .unset] [(.int (nF q1)), (.ref b156)])) _
    refine XS.i2dS X157.here hx rfl (hb hby at_187) rfl rfl ?_
    refine XS.dload X157.here hx rfl (hb hby at_188) rfl ?_
    refine XS.dmulS X157.here hx rfl (hb hby at_190) rfl hnan190 rfl ?_
    show Steps p.tables e below (T157.setTop (mkF m 191 #[.val (.int q1), .val (.int q2), .val (.int q3), .val (.int q4), .val (.int sel), .val (.int nfl), .val (.int (kF sel)), .val (.int (psF sel)), .val (.double (pF sel)), .second, .val (.int (nF q1)), .val (.int (nkF sel q1 q2)), .val (.int (nkF sel q1 q3)), .val (.int (nF q4)), .val (.int (moF nfl)), .val (.int (wF nfl)), .val (.int (ffF nfl)), .val (.double (iV nfl)), .second, .val (.ref b156), .unset, .unset, .unset, .unset, .unset, .unset] [(.double (FP.dmul (FP.i2d (nF q1)) (pF sel))), (.ref b156)])) _
    refine st158.trans ?_
    refine XS.iload X158.here hx rfl (hb hby at_194) rfl ?_
    refine XS.iconst X158.here hx rfl (hb hby at_196) ?_
    refine XS.icmpNo X158.here hx rfl (hb hby at_197) rfl (flt hc197).1 ?_
    show Steps p.tables e below (T158.setTop (mkF m 200 #[.val (.int q1), .val (.int q2), .val (.int q3), .val (.int q4), .val (.int sel), .val (.int nfl), .val (.int (kF sel)), .val (.int (psF sel)), .val (.double (pF sel)), .second, .val (.int (nF q1)), .val (.int (nkF sel q1 q2)), .val (.int (nkF sel q1 q3)), .val (.int (nF q4)), .val (.int (moF nfl)), .val (.int (wF nfl)), .val (.int (ffF nfl)), .val (.double (iV nfl)), .second, .val (.ref b156), .unset, .unset, .unset, .unset, .unset, .unset] [])) _
    refine XS.aload X158.here hx rfl (hb hby at_200) rfl rfl ?_
    refine XS.iload X158.here hx rfl (hb hby at_202) rfl ?_
    refine XS.i2dS X158.here hx rfl (hb hby at_204) rfl rfl ?_
    refine XS.dload X158.here hx rfl (hb hby at_205) rfl ?_
    show Steps p.tables e below (T158.setTop (mkF m 207 #[.val (.int q1), .val (.int q2), .val (.int q3), .val (.int q4), .val (.int sel), .val (.int nfl), .val (.int (kF sel)), .val (.int (psF sel)), .val (.double (pF sel)), .second, .val (.int (nF q1)), .val (.int (nkF sel q1 q2)), .val (.int (nkF sel q1 q3)), .val (.int (nF q4)), .val (.int (moF nfl)), .val (.int (wF nfl)), .val (.int (ffF nfl)), .val (.double (iV nfl)), .second, .val (.ref b156), .unset, .unset, .unset, .unset, .unset, .unset] [(.double (pF sel)), (.double (FP.i2d (nkF sel q1 q2))), (.ref b156)])) _
    refine XS.dmulS X158.here hx rfl (hb hby at_207) rfl hnan207 rfl ?_
    show Steps p.tables e below (T158.setTop (mkF m 208 #[.val (.int q1), .val (.int q2), .val (.int q3), .val (.int q4), .val (.int sel), .val (.int nfl), .val (.int (kF sel)), .val (.int (psF sel)), .val (.double (pF sel)), .second, .val (.int (nF q1)), .val (.int (nkF sel q1 q2)), .val (.int (nkF sel q1 q3)), .val (.int (nF q4)), .val (.int (moF nfl)), .val (.int (wF nfl)), .val (.int (ffF nfl)), .val (.double (iV nfl)), .second, .val (.ref b156), .unset, .unset, .unset, .unset, .unset, .unset] [(.double (FP.dmul (FP.i2d (nkF sel q1 q2)) (pF sel))), (.ref b156)])) _
    refine st159.trans ?_
    refine XS.iload X159.here hx rfl (hb hby at_211) rfl ?_
    refine XS.iconst X159.here hx rfl (hb hby at_213) ?_
    refine XS.icmpNo X159.here hx rfl (hb hby at_214) rfl (flt hc214).1 ?_
    show Steps p.tables e below (T159.setTop (mkF m 217 #[.val (.int q1), .val (.int q2), .val (.int q3), .val (.int q4), .val (.int sel), .val (.int nfl), .val (.int (kF sel)), .val (.int (psF sel)), .val (.double (pF sel)), .second, .val (.int (nF q1)), .val (.int (nkF sel q1 q2)), .val (.int (nkF sel q1 q3)), .val (.int (nF q4)), .val (.int (moF nfl)), .val (.int (wF nfl)), .val (.int (ffF nfl)), .val (.double (iV nfl)), .second, .val (.ref b156), .unset, .unset, .unset, .unset, .unset, .unset] [])) _
    refine XS.aload X159.here hx rfl (hb hby at_217) rfl rfl ?_
    refine XS.iload X159.here hx rfl (hb hby at_219) rfl ?_
    refine XS.i2dS X159.here hx rfl (hb hby at_221) rfl rfl ?_
    refine XS.dload X159.here hx rfl (hb hby at_222) rfl ?_
    show Steps p.tables e below (T159.setTop (mkF m 224 #[.val (.int q1), .val (.int q2), .val (.int q3), .val (.int q4), .val (.int sel), .val (.int nfl), .val (.int (kF sel)), .val (.int (psF sel)), .val (.double (pF sel)), .second, .val (.int (nF q1)), .val (.int (nkF sel q1 q2)), .val (.int (nkF sel q1 q3)), .val (.int (nF q4)), .val (.int (moF nfl)), .val (.int (wF nfl)), .val (.int (ffF nfl)), .val (.double (iV nfl)), .second, .val (.ref b156), .unset, .unset, .unset, .unset, .unset, .unset] [(.double (pF sel)), (.double (FP.i2d (nkF sel q1 q3))), (.ref b156)])) _
    refine XS.dmulS X159.here hx rfl (hb hby at_224) rfl hnan224 rfl ?_
    show Steps p.tables e below (T159.setTop (mkF m 225 #[.val (.int q1), .val (.int q2), .val (.int q3), .val (.int q4), .val (.int sel), .val (.int nfl), .val (.int (kF sel)), .val (.int (psF sel)), .val (.double (pF sel)), .second, .val (.int (nF q1)), .val (.int (nkF sel q1 q2)), .val (.int (nkF sel q1 q3)), .val (.int (nF q4)), .val (.int (moF nfl)), .val (.int (wF nfl)), .val (.int (ffF nfl)), .val (.double (iV nfl)), .second, .val (.ref b156), .unset, .unset, .unset, .unset, .unset, .unset] [(.double (FP.dmul (FP.i2d (nkF sel q1 q3)) (pF sel))), (.ref b156)])) _
    refine st160.trans ?_
    refine XS.iload X160.here hx rfl (hb hby at_228) rfl ?_
    refine XS.iconst X160.here hx rfl (hb hby at_230) ?_
    refine XS.icmpNo X160.here hx rfl (hb hby at_231) rfl (flt hc231).1 ?_
    show Steps p.tables e below (T160.setTop (mkF m 234 #[.val (.int q1), .val (.int q2), .val (.int q3), .val (.int q4), .val (.int sel), .val (.int nfl), .val (.int (kF sel)), .val (.int (psF sel)), .val (.double (pF sel)), .second, .val (.int (nF q1)), .val (.int (nkF sel q1 q2)), .val (.int (nkF sel q1 q3)), .val (.int (nF q4)), .val (.int (moF nfl)), .val (.int (wF nfl)), .val (.int (ffF nfl)), .val (.double (iV nfl)), .second, .val (.ref b156), .unset, .unset, .unset, .unset, .unset, .unset] [])) _
    refine XS.aload X160.here hx rfl (hb hby at_234) rfl rfl ?_
    refine XS.iload X160.here hx rfl (hb hby at_236) rfl ?_
    refine XS.i2dS X160.here hx rfl (hb hby at_238) rfl rfl ?_
    refine XS.dload X160.here hx rfl (hb hby at_239) rfl ?_
    show Steps p.tables e below (T160.setTop (mkF m 241 #[.val (.int q1), .val (.int q2), .val (.int q3), .val (.int q4), .val (.int sel), .val (.int nfl), .val (.int (kF sel)), .val (.int (psF sel)), .val (.double (pF sel)), .second, .val (.int (nF q1)), .val (.int (nkF sel q1 q2)), .val (.int (nkF sel q1 q3)), .val (.int (nF q4)), .val (.int (moF nfl)), .val (.int (wF nfl)), .val (.int (ffF nfl)), .val (.double (iV nfl)), .second, .val (.ref b156), .unset, .unset, .unset, .unset, .unset, .unset] [(.double (pF sel)), (.double (FP.i2d (nF q4))), (.ref b156)])) _
    refine XS.dmulS X160.here hx rfl (hb hby at_241) rfl hnan241 rfl ?_
    show Steps p.tables e below (T160.setTop (mkF m 242 #[.val (.int q1), .val (.int q2), .val (.int q3), .val (.int q4), .val (.int sel), .val (.int nfl), .val (.int (kF sel)), .val (.int (psF sel)), .val (.double (pF sel)), .second, .val (.int (nF q1)), .val (.int (nkF sel q1 q2)), .val (.int (nkF sel q1 q3)), .val (.int (nF q4)), .val (.int (moF nfl)), .val (.int (wF nfl)), .val (.int (ffF nfl)), .val (.double (iV nfl)), .second, .val (.ref b156), .unset, .unset, .unset, .unset, .unset, .unset] [(.double (FP.dmul (FP.i2d (nF q4)) (pF sel))), (.ref b156)])) _
    refine st161.trans ?_
    refine XS.iload X161.here hx rfl (hb hby at_245) rfl ?_
    refine XS.ifNo X161.here hx rfl (hb hby at_247) rfl ((if0 _ _).trans (feq hc247).1) ?_
    refine XS.iload X161.here hx rfl (hb hby at_250) rfl ?_
    show Steps p.tables e below (T161.setTop (mkF m 252 #[.val (.int q1), .val (.int q2), .val (.int q3), .val (.int q4), .val (.int sel), .val (.int nfl), .val (.int (kF sel)), .val (.int (psF sel)), .val (.double (pF sel)), .second, .val (.int (nF q1)), .val (.int (nkF sel q1 q2)), .val (.int (nkF sel q1 q3)), .val (.int (nF q4)), .val (.int (moF nfl)), .val (.int (wF nfl)), .val (.int (ffF nfl)), .val (.double (iV nfl)), .second, .val (.ref b156), .unset, .unset, .unset, .unset, .unset, .unset] [(.int (ffF nfl))])) _
    refine XS.ifNo X161.here hx rfl (hb hby at_252) rfl ((if0 _ _).trans (teq hc252).2) ?_
    refine XS.aload X161.here hx rfl (hb hby at_255) rfl rfl ?_
    refine XS.dload X161.here hx rfl (hb hby at_257) rfl ?_
    show Steps p.tables e below (T161.setTop (mkF m 259 #[.val (.int q1), .val (.int q2), .val (.int q3), .val (.int q4), .val (.int sel), .val (.int nfl), .val (.int (kF sel)), .val (.int (psF sel)), .val (.double (pF sel)), .second, .val (.int (nF q1)), .val (.int (nkF sel q1 q2)), .val (.int (nkF sel q1 q3)), .val (.int (nF q4)), .val (.int (moF nfl)), .val (.int (wF nfl)), .val (.int (ffF nfl)), .val (.double (iV nfl)), .second, .val (.ref b156), .unset, .unset, .unset, .unset, .unset, .unset] [(.double (iV nfl)), (.ref b156)])) _
    refine st162.trans ?_
    refine XS.aload X162.here hx rfl (hb hby at_262) rfl rfl ?_
    show Steps p.tables e below (T162.setTop (mkF m 264 #[.val (.int q1), .val (.int q2), .val (.int q3), .val (.int q4), .val (.int sel), .val (.int nfl), .val (.int (kF sel)), .val (.int (psF sel)), .val (.double (pF sel)), .second, .val (.int (nF q1)), .val (.int (nkF sel q1 q2)), .val (.int (nkF sel q1 q3)), .val (.int (nF q4)), .val (.int (moF nfl)), .val (.int (wF nfl)), .val (.int (ffF nfl)), .val (.double (iV nfl)), .second, .val (.ref b156), .unset, .unset, .unset, .unset, .unset, .unset] [(.ref b156)])) _
    refine st163.trans ?_
    refine XS.dstore X163.here hx rfl (hb hby at_267) rfl (l' := #[.val (.int q1), .val (.int q2), .val (.int q3), .val (.int q4), .val (.int sel), .val (.int nfl), .val (.int (kF sel)), .val (.int (psF sel)), .val (.double (pF sel)), .second, .val (.int (nF q1)), .val (.int (nkF sel q1 q2)), .val (.int (nkF sel q1 q3)), .val (.int (nF q4)), .val (.int (moF nfl)), .val (.int (wF nfl)), .val (.int (ffF nfl)), .val (.double (iV nfl)), .second, .val (.ref b156), .val (.double (FP.dadd 0 (iV nfl))), .second, .unset, .unset, .unset, .unset]) rfl ?_
    refine XS.iload X163.here hx rfl (hb hby at_269) rfl ?_
    refine XS.ifNo X163.here hx rfl (hb hby at_271) rfl ((if0 _ _).trans (feq hc271).1) ?_
    show Steps p.tables e below (T163.setTop (mkF m 274 #[.val (.int q1), .val (.int q2), .val (.int q3), .val (.int q4), .val (.int sel), .val (.int nfl), .val (.int (kF sel)), .val (.int (psF sel)), .val (.double (pF sel)), .second, .val (.int (nF q1)), .val (.int (nkF sel q1 q2)), .val (.int (nkF sel q1 q3)), .val (.int (nF q4)), .val (.int (moF nfl)), .val (.int (wF nfl)), .val (.int (ffF nfl)), .val (.double (iV nfl)), .second, .val (.ref b156), .val (.double (FP.dadd 0 (iV nfl))), .second, .unset, .unset, .unset, .unset] [])) _
    refine XS.dload X163.here hx rfl (hb hby at_274) rfl ?_
    refine XS.dload X163.here hx rfl (hb hby at_276) rfl ?_
    refine XS.dcmpS X163.here hx rfl (hb hby at_278) rfl rfl ?_
    refine XS.ifNo X163.here hx rfl (hb hby at_279) rfl ((if0 _ _).trans (teq hc279).2) ?_
    show Steps p.tables e below (T163.setTop (mkF m 282 #[.val (.int q1), .val (.int q2), .val (.int q3), .val (.int q4), .val (.int sel), .val (.int nfl), .val (.int (kF sel)), .val (.int (psF sel)), .val (.double (pF sel)), .second, .val (.int (nF q1)), .val (.int (nkF sel q1 q2)), .val (.int (nkF sel q1 q3)), .val (.int (nF q4)), .val (.int (moF nfl)), .val (.int (wF nfl)), .val (.int (ffF nfl)), .val (.double (iV nfl)), .second, .val (.ref b156), .val (.double (FP.dadd 0 (iV nfl))), .second, .unset, .unset, .unset, .unset] [])) _
    refine XS.iconst X163.here hx rfl (hb hby at_282) ?_
    refine XS.goto X163.here hx rfl (pc0 := 283) (pc' := 287) rfl (hb hby at_283) (by decide) (by decide) ?_
    show Steps p.tables e below (T163.setTop (mkF m 287 #[.val (.int q1), .val (.int q2), .val (.int q3), .val (.int q4), .val (.int sel), .val (.int nfl), .val (.int (kF sel)), .val (.int (psF sel)), .val (.double (pF sel)), .second, .val (.int (nF q1)), .val (.int (nkF sel q1 q2)), .val (.int (nkF sel q1 q3)), .val (.int (nF q4)), .val (.int (moF nfl)), .val (.int (wF nfl)), .val (.int (ffF nfl)), .val (.double (iV nfl)), .second, .val (.ref b156), .val (.double (FP.dadd 0 (iV nfl))), .second, .unset, .unset, .unset, .unset] [(.int (1 : Int32))])) _
    exact retN X163 hx (t := .boolean) Bd.returns (by simp) (hb hby at_287) hr
  · show Q0  h0 n0 _ T163.heap _
    exact ⟨rfl, N163⟩
end LawM
set_option maxRecDepth 65536 in
set_option maxHeartbeats 40000000 in
theorem rm0 (l : Launch) (Z : State) (a0 : Array Value) (hw : ∀ d ∈ tables_1, d.before a0 Z = true) (ws : List Jvm.Cond) (q1 : Int32) (q2 : Int32) (q3 : Int32) (q4 : Int32) (sel : Int32) (nfl : Int32)  (h0 : Heap) (n0 : Nat) (Z0 : n0 ≤ h0.size)   :
    MetFree l x (head1 (Jvm.Cond.code x code maxLocals ret :: ws) room_1) (fun aa_ U_ => aa_ = #[(.int q1), (.int q2), (.int q3), (.int q4), (.int sel), (.int nfl)] ∧ Z.Warmed39 U_.vm ∧ U_.heap = h0) (fun _ _ _ _ _ => True) (fun _ U_ o_ V_ => ∃ v_ L_, o_ = .returned v_ ∧ Q0  h0 n0 v_ V_.heap L_ ∧ FrameEnd U_ o_ V_ L_ room_1.cells room_1.slots) := by
  have nb : ∀ x : Int32, -8388608 ≤ (nF x).toInt ∧ (nF x).toInt ≤ 8388607 := fun x => by
    have h : (nF x).toInt = (x <<< ((8 : Int32) &&& 31)).toInt / 2 ^ 8 := Jvm.Kit.i32_shr _ _ (k := 8) (by decide)
    have h1 := (x <<< ((8 : Int32) &&& 31)).toInt_lt
    have h2 := (x <<< ((8 : Int32) &&& 31)).le_toInt
    omega
  have nk : ∀ y : Int32, -8388608 ≤ (nkF sel q1 y).toInt ∧ (nkF sel q1 y).toInt ≤ 8388607 := fun y => by
    unfold nkF; split
    · exact nb _
    · exact nb _
  obtain ⟨U, hU, hU2, hp⟩ : ∃ U : Nat, (74 ≤ U ∧ U ≤ 2074) ∧ (U = 2074 ∨ U ≤ 1074) ∧ DV 1 U (pF sel) := by
    unfold pF
    split
    · exact ⟨2074, by omega, by omega, dv_of_bits (s := false) (c := 4503599627370496) (q := 948) (by decide +kernel) (by decide +kernel)⟩
    · split
      · exact ⟨74, by omega, by omega, dv_of_bits (s := false) (c := 4503599627370496) (q := -1052) (by decide +kernel) (by decide +kernel)⟩
      · exact ⟨1074, by omega, by omega, one_dv⟩
  have dn : ∀ x : Int32, -8388608 ≤ x.toInt ∧ x.toInt ≤ 8388607 → DV x.toInt U (FP.dmul (FP.i2d x) (pF sel)) := fun x hx => by
    have q := dv_mulX (N := U) (dv_i2d x) hp (by omega) (by rw [Int.mul_one]; exact Nat.lt_of_le_of_lt (Nat.mul_le_mul (show x.toInt.natAbs ≤ 8388608 by omega) (Nat.pow_le_pow_right (by decide) (show U - 2045 ≤ 29 by omega))) (by decide))
    rw [Int.mul_one] at q
    exact q
  have r1 := nb q1
  have r2 := nk q2
  have r3 := nk q3
  have r4 := nb q4
  have d1 := dn _ r1
  have d2 := dn _ r2
  have d3 := dn _ r3
  have d4 := dn _ r4
  have e2 : ((2 : Int32)).toInt = 2 := rfl
  have e3 : ((3 : Int32)).toInt = 3 := rfl
  have e4 : ((4 : Int32)).toInt = 4 := rfl
  have hkv : 1 ≤ (kF sel).toInt ∧ (kF sel).toInt ≤ 4 := by
    have h : (sel &&& (3 : Int32)).toInt = sel.toInt % 2 ^ 2 := Jvm.Kit.i32_mask _ _ (k := 2) (by decide) (by decide)
    have e1 : ((1 : Int32)).toInt = 1 := rfl
    unfold kF
    rw [Jvm.Kit.i32_add (by rw [h, e1]; omega) (by rw [h, e1]; omega), h, e1]
    omega
  have l2 : ∀ {b : Int}, (kF sel).toInt = b → b < 2 → kF sel < (2 : Int32) := fun h1 h2 => by rw [Int32.lt_iff_toInt_lt, e2]; omega
  have g2 : 2 ≤ (kF sel).toInt → ¬ kF sel < (2 : Int32) := fun h1 => by rw [Int32.lt_iff_toInt_lt, e2]; omega
  have l3 : (kF sel).toInt < 3 → kF sel < (3 : Int32) := fun h1 => by rw [Int32.lt_iff_toInt_lt, e3]; omega
  have g3 : 3 ≤ (kF sel).toInt → ¬ kF sel < (3 : Int32) := fun h1 => by rw [Int32.lt_iff_toInt_lt, e3]; omega
  have l4 : (kF sel).toInt < 4 → kF sel < (4 : Int32) := fun h1 => by rw [Int32.lt_iff_toInt_lt, e4]; omega
  have g4 : 4 ≤ (kF sel).toInt → ¬ kF sel < (4 : Int32) := fun h1 => by rw [Int32.lt_iff_toInt_lt, e4]; omega
  have n1 := dv_noNaN d1
  have n2 := dv_noNaN d2
  have n3 := dv_noNaN d3
  have n4 := dv_noNaN d4
  have t1 : (nF q1).toInt64.toInt = (nF q1).toInt := Jvm.Kit.i64_of_i32 _
  have t2 : (nkF sel q1 q2).toInt64.toInt = (nkF sel q1 q2).toInt := Jvm.Kit.i64_of_i32 _
  have t3 : (nkF sel q1 q3).toInt64.toInt = (nkF sel q1 q3).toInt := Jvm.Kit.i64_of_i32 _
  have t4 : (nF q4).toInt64.toInt = (nF q4).toInt := Jvm.Kit.i64_of_i32 _
  have s2 : (((nF q1).toInt64) + ((nkF sel q1 q2).toInt64)).toInt = (nF q1).toInt + (nkF sel q1 q2).toInt := by rw [Jvm.Kit.i64_add (by omega) (by omega), t1, t2]
  have s3 : ((((nF q1).toInt64) + ((nkF sel q1 q2).toInt64)) + ((nkF sel q1 q3).toInt64)).toInt = (nF q1).toInt + (nkF sel q1 q2).toInt + (nkF sel q1 q3).toInt := by rw [Jvm.Kit.i64_add (by omega) (by omega), s2, t3]
  have s4 : (((((nF q1).toInt64) + ((nkF sel q1 q2).toInt64)) + ((nkF sel q1 q3).toInt64)) + ((nF q4).toInt64)).toInt = (nF q1).toInt + (nkF sel q1 q2).toInt + (nkF sel q1 q3).toInt + (nF q4).toInt := by rw [Jvm.Kit.i64_add (by omega) (by omega), s3, t4]
  have hk : (kF sel).toInt = 1 ∨ (kF sel).toInt = 2 ∨ (kF sel).toInt = 3 ∨ (kF sel).toInt = 4 := by omega
  by_cases hw0 : wF nfl = (0 : Int32)
  · rcases hk with h | h | h | h
    · exact rm0_n1 l Z a0 hw ws q1 q2 q3 q4 sel nfl U h0 n0 Z0 hU hU2 hp d1 r1 h t1 hw0 n1 (l2 h (by omega)) (l3 (by omega)) (l4 (by omega)) hw0 hw0 (l2 h (by omega)) (l3 (by omega)) (l4 (by omega))
    · exact rm0_n2 l Z a0 hw ws q1 q2 q3 q4 sel nfl U h0 n0 Z0 hU hU2 hp d1 r1 d2 r2 h s2 hw0 n1 (g2 (by omega)) n2 (l3 (by omega)) (l4 (by omega)) hw0 hw0 (g2 (by omega)) (l3 (by omega)) (l4 (by omega))
    · have hk3 : kF sel = (3 : Int32) := Int32.toInt_inj.mp (by rw [h, e3])
      have h32 : (nkF sel q1 q2).toInt = (nF q1).toInt := by rw [nkF, if_pos hk3]
      have h33 : (nkF sel q1 q3).toInt = (nF q1).toInt := by rw [nkF, if_pos hk3]
      exact rm0_n3 l Z a0 hw ws q1 q2 q3 q4 sel nfl U h0 n0 Z0 hU hU2 hp d1 r1 d2 r2 d3 r3 h (by rw [s3]; omega) h32 h33 hw0 n1 (g2 (by omega)) n2 (g3 (by omega)) n3 (l4 (by omega)) hw0 hw0 (g2 (by omega)) (g3 (by omega)) (l4 (by omega))
    · exact rm0_n4 l Z a0 hw ws q1 q2 q3 q4 sel nfl U h0 n0 Z0 hU hU2 hp d1 r1 d2 r2 d3 r3 d4 r4 h s4 hw0 n1 (g2 (by omega)) n2 (g3 (by omega)) n3 (g4 (by omega)) n4 hw0 hw0 (g2 (by omega)) (g3 (by omega)) (g4 (by omega))
  · have hi : ((Jvm.Free.Fl.NoNaN64 (iV nfl) ∧ ¬ ((infF (iV nfl)) = (0 : Int32))) ∧ Jvm.Free.Fl.NoNaN64 (FP.dadd 0 (iV nfl)) ∧ ¬ ((cmpValue (FP.dcmp (FP.dadd 0 (iV nfl)) FP.dconst0) .l) = (0 : Int32))) ∧ (cmpValue (FP.dcmp (FP.dadd 0 (iV nfl)) (iV nfl)) .l) = (0 : Int32) := by
      unfold iV
      split
      · refine ⟨⟨⟨?_, ?_⟩, ?_, ?_⟩, ?_⟩ <;> first | decide +kernel | (unfold Jvm.Free.Fl.NoNaN64; decide +kernel)
      · refine ⟨⟨⟨?_, ?_⟩, ?_, ?_⟩, ?_⟩ <;> first | decide +kernel | (unfold Jvm.Free.Fl.NoNaN64; decide +kernel)
    obtain ⟨⟨⟨i1, i2⟩, i3, i4⟩, i5⟩ := hi
    by_cases hff : ffF nfl = (0 : Int32)
    · rcases hk with h | h | h | h
      · exact rm0_l1 l Z a0 hw ws q1 q2 q3 q4 sel nfl U h0 n0 Z0 hU hU2 hp d1 r1 i1 i2 i3 i4 hw0 hff n1 (l2 h (by omega)) (l3 (by omega)) (l4 (by omega)) hw0 hff hw0 i5
      · exact rm0_l2 l Z a0 hw ws q1 q2 q3 q4 sel nfl U h0 n0 Z0 hU hU2 hp d1 r1 d2 r2 i1 i2 i3 i4 hw0 hff n1 (g2 (by omega)) n2 (l3 (by omega)) (l4 (by omega)) hw0 hff hw0 i5
      · exact rm0_l3 l Z a0 hw ws q1 q2 q3 q4 sel nfl U h0 n0 Z0 hU hU2 hp d1 r1 d2 r2 d3 r3 i1 i2 i3 i4 hw0 hff n1 (g2 (by omega)) n2 (g3 (by omega)) n3 (l4 (by omega)) hw0 hff hw0 i5
      · exact rm0_l4 l Z a0 hw ws q1 q2 q3 q4 sel nfl U h0 n0 Z0 hU hU2 hp d1 r1 d2 r2 d3 r3 d4 r4 i1 i2 i3 i4 hw0 hff n1 (g2 (by omega)) n2 (g3 (by omega)) n3 (g4 (by omega)) n4 hw0 hff hw0 i5
    · rcases hk with h | h | h | h
      · exact rm0_f1 l Z a0 hw ws q1 q2 q3 q4 sel nfl U h0 n0 Z0 hU hU2 hp d1 r1 i1 i2 i3 i4 hw0 hff n1 (l2 h (by omega)) (l3 (by omega)) (l4 (by omega)) hw0 hff hw0 i5
      · exact rm0_f2 l Z a0 hw ws q1 q2 q3 q4 sel nfl U h0 n0 Z0 hU hU2 hp d1 r1 d2 r2 i1 i2 i3 i4 hw0 hff n1 (g2 (by omega)) n2 (l3 (by omega)) (l4 (by omega)) hw0 hff hw0 i5
      · exact rm0_f3 l Z a0 hw ws q1 q2 q3 q4 sel nfl U h0 n0 Z0 hU hU2 hp d1 r1 d2 r2 d3 r3 i1 i2 i3 i4 hw0 hff n1 (g2 (by omega)) n2 (g3 (by omega)) n3 (l4 (by omega)) hw0 hff hw0 i5
      · exact rm0_f4 l Z a0 hw ws q1 q2 q3 q4 sel nfl U h0 n0 Z0 hU hU2 hp d1 r1 d2 r2 d3 r3 d4 r4 i1 i2 i3 i4 hw0 hff n1 (g2 (by omega)) n2 (g3 (by omega)) n3 (g4 (by omega)) n4 hw0 hff hw0 i5

set_option maxRecDepth 65536 in
set_option maxHeartbeats 40000000 in
theorem comes_1 {Post : Tables → Env → Array Value → State → Outcome → State → Prop} (hpost : ∀ tb e args s v u, (limb_1_1.after args s (.returned v) u = true ∧ limb_1_2.after args s (.returned v) u = true ∧ True) → FrameEnd s (.returned v) u (Jvm.fieldLocs frame_1_writes args s ++ Jvm.arrayLocs frame_1_arrays args s ++ Jvm.staticLocs frame_1_statics s) 16 128 → Post tb e args s (.returned v) u) :
    ArmFor flags0 classFile x code maxLocals ret World_1 tables_1 room_1 Calls_1 rest_1 Pre_1 Post := by
  intro l hfl _ _ p e ha hc hk s m args below hf hA hF happ hP
  obtain ⟨hcalls, hrest, hpre⟩ := hP
  obtain ⟨-, -, -, hnamed, -, -, -, hat⟩ := (Spec.applies_iff hf).mp happ
  obtain ⟨hg, hn⟩ := and_e (Cond.before_iff.mp (show (Jvm.Cond.and given_1 narrow_1).before args s = true from hpre))
  obtain ⟨hcount, hg0⟩ := and_e hg
  obtain ⟨ha0, hg1⟩ := and_e hg0
  obtain ⟨ha1, hg2⟩ := and_e hg1
  obtain ⟨ha2, hg3⟩ := and_e hg2
  obtain ⟨ha3, hg4⟩ := and_e hg3
  obtain ⟨ha4, hg5⟩ := and_e hg4
  have ha5 := hg5
  obtain ⟨w0, w1, w2, w3, w4, w5, rfl⟩ : ∃ w0 w1 w2 w3 w4 w5 : Value, args = #[w0, w1, w2, w3, w4, w5] := by
    have hs : args.size = 6 := by simpa [Cond.value, given_1] using hcount
    obtain ⟨L⟩ := args
    match L, hs with
    | [w0, w1, w2, w3, w4, w5], _ => exact ⟨w0, w1, w2, w3, w4, w5, rfl⟩
  have hw := fun d (hd : d ∈ tables_1) => atoms_spec (ws := Jvm.Cond.code x code maxLocals ret :: tables_1) hat d (List.mem_cons_of_mem _ hd)
  have hfit : Fit s := fun {y c} hc i hi => by
    obtain ⟨ha, rfl⟩ := Array.getElem?_eq_some_iff.mp hc
    have q := List.all_eq_true.mp ((Array.all_eq_true_iff_forall_mem.mp hF) _ (Array.getElem_mem ha)) i (List.mem_range.mpr hi)
    simpa [Array.getElem?_eq_getElem hi] using q
  obtain ⟨i0, ei0⟩ := is_v ha0
  obtain rfl : w0 = (.int i0) := Option.some.inj ei0
  obtain ⟨i1, ei1⟩ := is_v ha1
  obtain rfl : w1 = (.int i1) := Option.some.inj ei1
  obtain ⟨i2, ei2⟩ := is_v ha2
  obtain rfl : w2 = (.int i2) := Option.some.inj ei2
  obtain ⟨i3, ei3⟩ := is_v ha3
  obtain rfl : w3 = (.int i3) := Option.some.inj ei3
  obtain ⟨i4, ei4⟩ := is_v ha4
  obtain rfl : w4 = (.int i4) := Option.some.inj ei4
  obtain ⟨i5, ei5⟩ := is_v ha5
  obtain rfl : w5 = (.int i5) := Option.some.inj ei5
  obtain ⟨n, o, h1, h2, h3, _, L, rfl, ⟨rfl, N⟩, hq⟩ := rm0 l s _ hw tables_1 i0 i1 i2 i3 i4 i5 s.heap s.heap.size (Nat.le_refl _)  p e ha hc hk s m _ below hf ((Spec.applies_iff_loose hf).mp happ).1 ⟨rfl, State.Warmed39.refl s, rfl⟩ trivial
  refine ⟨n, _, h1, h2, h3, hpost _ _ _ _ _ _ ⟨Cond.after_iff.mpr rfl, Cond.after_iff.mpr (eq_i res_at (Term.int_eval (1)) rfl), trivial⟩ ⟨hq.1, hq.2.1, (hq.2.2.sift fun y hy => Or.inr (N y hy)).mono (by decide) (by decide)⟩⟩
theorem main_1_1 : Claimed_1_1 := comes_1 fun _ _ _ _ _ _ h hF => ⟨h.1, hF⟩
theorem main_1_2 : Claimed_1_2 := comes_1 fun _ _ _ _ _ _ h hF => ⟨h.2.1, hF⟩
end Jvm.Pilot.@@N@@
namespace Jvm.Pilot.@@N@@
open Jvm Jvm.ClassFile Sem Op Lib Jvm.Free Jvm.Stand Jvm.Pilot.@@N@@.Jvm.D
/-! MADE BY PROGRAM (witnessworld.py) out of the Statement's table words and the real class files: 15 classes; the members and pool entries that the words name. The judged class is class 1, her method 1. -/
namespace start1
open Jvm.ClassFile
def u (s : String) : CpInfo := .utf8 (stringToUtf16 s)
/-- a pool by its gaps: so many unusable entries, then the entry; so many at the end -/
def gap : Nat → List CpInfo → List CpInfo
  | 0, r => r
  | n + 1, r => .unusable :: gap n r
def poolList (es : List (Nat × CpInfo)) (last : Nat) : List CpInfo := es.foldr (fun e r => gap e.1 (e.2 :: r)) (gap last [])
def pool (es : List (Nat × CpInfo)) (last : Nat) : Array CpInfo := ⟨poolList es last⟩
def fileOf (pool : Array CpInfo) (this : Nat) (attrs : Array Attribute := #[]) (ms : Array MethodInfo := #[]) (fl : Nat := 33) (sup : Nat := 0) (ifs : Array Nat := #[]) (fds : Array FieldInfo := #[]) : ClassFile where
  minorVersion := 0
  majorVersion := 65
  constantPool := pool
  accessFlags := fl
  thisClass := this
  superClass := sup
  interfaces := ifs
  fields := fds
  methods := ms
  attributes := attrs
def plain (name : String) (sup : Option ClassId) : Class where
  name := name
  kind := .ordinary
  loader := none
  accessFlags := 33
  super := sup
  interfaces := #[]
  cf := none
  fields := #[]
  methods := #[]
  instanceTypes := #[]
  staticTypes := #[]
  resolved := #[]
  callSites := []
  init := .initialized
  statics := none
  mirror := none

def pool0 : Array CpInfo := pool [(5, u "<init>"), (0, u "()V"), (1, .class_ 10), (1, u "java/lang/Object")] 113

def k0c0 : Code := { maxStack := 0, maxLocals := 1, code := object_method_1_code, exceptionTable := #[], attributes := #[] }
def k0m0 : Method := { name := "<init>", desc := "()V", sig := { parameters := [], returnType := none }, accessFlags := 1, code := some k0c0 }
/-- java/lang/Object -/
def k0 : Class := { plain "java/lang/Object" none with
  accessFlags := 33
  interfaces := #[]
  cf := some (fileOf pool0 8 #[] #[{ accessFlags := 1, nameIndex := 5, descriptorIndex := 6, attributes := #[] }] 33 0 #[] #[])
  fields := #[]
  methods := #[k0m0]
  instanceTypes := #[]
  staticTypes := #[]
  resolved := Array.replicate 124 none
  statics := none }

def pool1 : Array CpInfo := pool [(2, .class_ 4), (0, .nameAndType 5 6), (0, u "java/lang/Object"), (0, u "<init>"), (0, u "()V"), (0, .double 9110782046170513408), (1, .double 103582791429521408), (3, .double 9218868437227405312), (1, .double 18442240474082181120), (1, .class_ 18), (0, u "com/example/retiremetric/retiremetric/engine/Mean"), (0, .methodref 17 3), (0, .methodref 17 21), (0, .nameAndType 22 23), (0, u "add"), (0, u "(D)V"), (0, .methodref 17 25), (0, .nameAndType 26 27), (0, u "mean"), (0, u "()D"), (0, .class_ 29), (0, u "com/example/retiremetric/retiremetric/engine/MeanMeanPinLaw"), (2, u "law"), (0, u "(IIIIII)Z")] 3

def k1m0 : Method := { name := "<init>", desc := "()V", sig := { parameters := [], returnType := none }, accessFlags := 1, code := none }
def k1c1 : Code := { maxStack := 5, maxLocals := 26, code := code, exceptionTable := #[], attributes := #[] }
def k1m1 : Method := { name := "law", desc := "(IIIIII)Z", sig := { parameters := [.int, .int, .int, .int, .int, .int], returnType := some .boolean }, accessFlags := 9, code := some k1c1 }
/-- com/example/retiremetric/retiremetric/engine/MeanMeanPinLaw -/
def k1 : Class := { plain "com/example/retiremetric/retiremetric/engine/MeanMeanPinLaw" (some 0) with
  accessFlags := 49
  interfaces := #[]
  cf := some (fileOf pool1 28 #[] #[{ accessFlags := 1, nameIndex := 5, descriptorIndex := 6, attributes := #[] }, { accessFlags := 9, nameIndex := 32, descriptorIndex := 33, attributes := #[] }] 49 2 #[] #[])
  fields := #[]
  methods := #[k1m0, k1m1]
  instanceTypes := #[]
  staticTypes := #[]
  resolved := Array.replicate 37 none
  statics := none }

def pool2 : Array CpInfo := pool [(1, .methodref 2 3), (0, .class_ 4), (0, .nameAndType 5 6), (0, u "java/lang/Object"), (0, u "<init>"), (0, u "()V"), (0, .fieldref 8 9), (0, .class_ 10), (0, .nameAndType 11 12), (0, u "com/example/retiremetric/retiremetric/engine/Mean"), (0, u "scale"), (0, u "D"), (1, .methodref 15 16), (0, .class_ 17), (0, .nameAndType 18 19), (0, u "java/lang/Double"), (0, u "isInfinite"), (0, u "(D)Z"), (0, .fieldref 8 21), (0, .nameAndType 22 12), (0, u "infinities"), (0, .fieldref 8 24), (0, .nameAndType 25 26), (0, u "count"), (0, u "J"), (0, .fieldref 8 28), (0, .nameAndType 29 12), (0, u "first"), (0, .fieldref 8 31), (0, .nameAndType 32 12), (0, u "scaledFirst"), (0, .fieldref 8 34), (0, .nameAndType 35 12), (0, u "differences"), (0, .double 4611686018427387904), (18, u "add"), (0, u "(D)V"), (1, u "mean"), (0, u "()D")] 2

def k2c0 : Code := { maxStack := 3, maxLocals := 1, code := prog_16_method_1_code, exceptionTable := #[], attributes := #[] }
def k2m0 : Method := { name := "<init>", desc := "()V", sig := { parameters := [], returnType := none }, accessFlags := 0, code := some k2c0 }
def k2c1 : Code := { maxStack := 6, maxLocals := 5, code := prog_16_method_3_code, exceptionTable := #[], attributes := #[] }
def k2m1 : Method := { name := "add", desc := "(D)V", sig := { parameters := [.double], returnType := none }, accessFlags := 0, code := some k2c1 }
def k2c2 : Code := { maxStack := 6, maxLocals := 1, code := prog_16_method_5_code, exceptionTable := #[], attributes := #[] }
def k2m2 : Method := { name := "mean", desc := "()D", sig := { parameters := [], returnType := some .double }, accessFlags := 0, code := some k2c2 }
/-- com/example/retiremetric/retiremetric/engine/Mean -/
def k2 : Class := { plain "com/example/retiremetric/retiremetric/engine/Mean" (some 0) with
  accessFlags := 48
  interfaces := #[]
  cf := some (fileOf pool2 8 #[] #[{ accessFlags := 0, nameIndex := 5, descriptorIndex := 6, attributes := #[] }, { accessFlags := 0, nameIndex := 55, descriptorIndex := 56, attributes := #[] }, { accessFlags := 0, nameIndex := 58, descriptorIndex := 59, attributes := #[] }] 48 2 #[] #[{ accessFlags := 2, nameIndex := 29, descriptorIndex := 12, attributes := #[] }, { accessFlags := 2, nameIndex := 11, descriptorIndex := 12, attributes := #[] }, { accessFlags := 2, nameIndex := 32, descriptorIndex := 12, attributes := #[] }, { accessFlags := 2, nameIndex := 35, descriptorIndex := 12, attributes := #[] }, { accessFlags := 2, nameIndex := 22, descriptorIndex := 12, attributes := #[] }, { accessFlags := 2, nameIndex := 25, descriptorIndex := 26, attributes := #[] }])
  fields := #[{ name := "first", type := .double, accessFlags := 2, slot := 0, constantValue := 0 }, { name := "scale", type := .double, accessFlags := 2, slot := 1, constantValue := 0 }, { name := "scaledFirst", type := .double, accessFlags := 2, slot := 2, constantValue := 0 }, { name := "differences", type := .double, accessFlags := 2, slot := 3, constantValue := 0 }, { name := "infinities", type := .double, accessFlags := 2, slot := 4, constantValue := 0 }, { name := "count", type := .long, accessFlags := 2, slot := 5, constantValue := 0 }]
  methods := #[k2m0, k2m1, k2m2]
  instanceTypes := #[.double, .double, .double, .double, .double, .long]
  staticTypes := #[]
  resolved := Array.replicate 62 none
  statics := none }

def pool3 : Array CpInfo := pool [(1, .class_ 2), (0, u "java/io/Serializable"), (0, .class_ 4), (0, u "java/lang/Object")] 2

/-- java/io/Serializable -/
def k3 : Class := { plain "java/io/Serializable" (some 0) with
  accessFlags := 1537
  interfaces := #[]
  cf := some (fileOf pool3 1 #[] #[] 1537 3 #[] #[])
  fields := #[]
  methods := #[]
  instanceTypes := #[]
  staticTypes := #[]
  resolved := Array.replicate 7 none
  statics := none }

def pool4 : Array CpInfo := pool [(2, .class_ 4), (1, u "java/lang/Object"), (0, u "<init>"), (0, u "()V"), (1, .class_ 10), (1, u "java/lang/Number"), (2, .class_ 14), (0, u "java/io/Serializable"), (0, u "serialVersionUID"), (0, u "J")] 20

def k4m0 : Method := { name := "<init>", desc := "()V", sig := { parameters := [], returnType := none }, accessFlags := 1, code := none }
/-- java/lang/Number -/
def k4 : Class := { plain "java/lang/Number" (some 0) with
  accessFlags := 1057
  interfaces := #[3]
  cf := some (fileOf pool4 8 #[] #[{ accessFlags := 1, nameIndex := 5, descriptorIndex := 6, attributes := #[] }] 1057 2 #[13] #[{ accessFlags := 26, nameIndex := 15, descriptorIndex := 16, attributes := #[] }])
  fields := #[{ name := "serialVersionUID", type := .long, accessFlags := 26, slot := 0, constantValue := 0 }]
  methods := #[k4m0]
  instanceTypes := #[]
  staticTypes := #[.long]
  resolved := Array.replicate 37 none
  statics := none }

def pool5 : Array CpInfo := pool [(1, .class_ 2), (0, u "java/lang/Comparable"), (0, .class_ 4), (0, u "java/lang/Object")] 7

/-- java/lang/Comparable -/
def k5 : Class := { plain "java/lang/Comparable" (some 0) with
  accessFlags := 1537
  interfaces := #[]
  cf := some (fileOf pool5 1 #[] #[] 1537 3 #[] #[])
  fields := #[]
  methods := #[]
  instanceTypes := #[]
  staticTypes := #[]
  resolved := Array.replicate 12 none
  statics := none }

def pool6 : Array CpInfo := pool [(1, .class_ 2), (0, u "java/lang/constant/Constable"), (0, .class_ 4), (0, u "java/lang/Object")] 6

/-- java/lang/constant/Constable -/
def k6 : Class := { plain "java/lang/constant/Constable" (some 0) with
  accessFlags := 1537
  interfaces := #[]
  cf := some (fileOf pool6 1 #[] #[] 1537 3 #[] #[])
  fields := #[]
  methods := #[]
  instanceTypes := #[]
  staticTypes := #[]
  resolved := Array.replicate 11 none
  statics := none }

def pool7 : Array CpInfo := pool [(1, .class_ 2), (0, u "java/lang/constant/ConstantDesc"), (0, .class_ 4), (0, u "java/lang/Object")] 32

/-- java/lang/constant/ConstantDesc -/
def k7 : Class := { plain "java/lang/constant/ConstantDesc" (some 0) with
  accessFlags := 1537
  interfaces := #[]
  cf := some (fileOf pool7 1 #[] #[] 1537 3 #[] #[])
  fields := #[]
  methods := #[]
  instanceTypes := #[]
  staticTypes := #[]
  resolved := Array.replicate 37 none
  statics := none }

def pool8 : Array CpInfo := pool [(1, .class_ 2), (0, u "java/lang/Double"), (11, u "(D)Z"), (8, .class_ 25), (1, u "java/lang/Math"), (12, .methodref 23 39), (0, .nameAndType 40 41), (0, u "abs"), (0, u "(D)D"), (69, .double 9218868437227405311), (2, .class_ 116), (1, u "java/lang/Number"), (3, u "value"), (0, u "D"), (5, u "isInfinite"), (45, u "TYPE"), (0, u "Ljava/lang/Class;"), (0, .class_ 176), (0, u "java/lang/Comparable"), (0, .class_ 178), (0, u "java/lang/constant/Constable"), (0, .class_ 180), (0, u "java/lang/constant/ConstantDesc"), (0, u "POSITIVE_INFINITY"), (3, u "NEGATIVE_INFINITY"), (2, u "NaN"), (2, u "MAX_VALUE"), (0, u "MIN_NORMAL"), (0, u "MIN_VALUE"), (2, u "SIZE"), (0, u "I"), (1, u "PRECISION"), (1, u "MAX_EXPONENT"), (1, u "MIN_EXPONENT"), (1, u "BYTES"), (3, u "serialVersionUID"), (0, u "J")] 79

def k8c0 : Code := { maxStack := 4, maxLocals := 2, code := jdk_117_method_7_code, exceptionTable := #[], attributes := #[] }
def k8m0 : Method := { name := "isInfinite", desc := "(D)Z", sig := { parameters := [.double], returnType := some .boolean }, accessFlags := 9, code := some k8c0 }
/-- java/lang/Double -/
def k8 : Class := { plain "java/lang/Double" (some 4) with
  accessFlags := 49
  interfaces := #[5, 6, 7]
  cf := some (fileOf pool8 1 #[] #[{ accessFlags := 9, nameIndex := 127, descriptorIndex := 14, attributes := #[] }] 49 114 #[175, 177, 179] #[{ accessFlags := 25, nameIndex := 181, descriptorIndex := 121, attributes := #[] }, { accessFlags := 25, nameIndex := 185, descriptorIndex := 121, attributes := #[] }, { accessFlags := 25, nameIndex := 188, descriptorIndex := 121, attributes := #[] }, { accessFlags := 25, nameIndex := 191, descriptorIndex := 121, attributes := #[] }, { accessFlags := 25, nameIndex := 192, descriptorIndex := 121, attributes := #[] }, { accessFlags := 25, nameIndex := 193, descriptorIndex := 121, attributes := #[] }, { accessFlags := 25, nameIndex := 196, descriptorIndex := 197, attributes := #[] }, { accessFlags := 25, nameIndex := 199, descriptorIndex := 197, attributes := #[] }, { accessFlags := 25, nameIndex := 201, descriptorIndex := 197, attributes := #[] }, { accessFlags := 25, nameIndex := 203, descriptorIndex := 197, attributes := #[] }, { accessFlags := 25, nameIndex := 205, descriptorIndex := 197, attributes := #[] }, { accessFlags := 25, nameIndex := 173, descriptorIndex := 174, attributes := #[] }, { accessFlags := 18, nameIndex := 120, descriptorIndex := 121, attributes := #[] }, { accessFlags := 26, nameIndex := 209, descriptorIndex := 210, attributes := #[] }])
  fields := #[{ name := "POSITIVE_INFINITY", type := .double, accessFlags := 25, slot := 0, constantValue := 0 }, { name := "NEGATIVE_INFINITY", type := .double, accessFlags := 25, slot := 1, constantValue := 0 }, { name := "NaN", type := .double, accessFlags := 25, slot := 2, constantValue := 0 }, { name := "MAX_VALUE", type := .double, accessFlags := 25, slot := 3, constantValue := 0 }, { name := "MIN_NORMAL", type := .double, accessFlags := 25, slot := 4, constantValue := 0 }, { name := "MIN_VALUE", type := .double, accessFlags := 25, slot := 5, constantValue := 0 }, { name := "SIZE", type := .int, accessFlags := 25, slot := 6, constantValue := 0 }, { name := "PRECISION", type := .int, accessFlags := 25, slot := 7, constantValue := 0 }, { name := "MAX_EXPONENT", type := .int, accessFlags := 25, slot := 8, constantValue := 0 }, { name := "MIN_EXPONENT", type := .int, accessFlags := 25, slot := 9, constantValue := 0 }, { name := "BYTES", type := .int, accessFlags := 25, slot := 10, constantValue := 0 }, { name := "TYPE", type := (.object "java/lang/Class"), accessFlags := 25, slot := 11, constantValue := 0 }, { name := "value", type := .double, accessFlags := 18, slot := 0, constantValue := 0 }, { name := "serialVersionUID", type := .long, accessFlags := 26, slot := 12, constantValue := 0 }]
  methods := #[k8m0]
  instanceTypes := #[.double]
  staticTypes := #[.double, .double, .double, .double, .double, .double, .int, .int, .int, .int, .int, (.object "java/lang/Class"), .long]
  resolved := Array.replicate 290 none
  statics := none }

def pool9 : Array CpInfo := pool [(1, .class_ 2), (0, u "java/lang/Math"), (1, .class_ 6), (1, u "java/lang/Object"), (0, u "<init>"), (0, u "()V"), (5, u "(D)D"), (83, .class_ 100), (1, u "java/lang/Math$RandomNumberGeneratorHolder"), (23, u "abs"), (47, u "negativeZeroFloatBits"), (0, u "J"), (2, u "negativeZeroDoubleBits"), (68, u "$assertionsDisabled"), (0, u "Z"), (91, u "twoToTheDoubleScaleDown"), (0, u "D"), (4, u "twoToTheDoubleScaleUp"), (9, u "E"), (3, u "PI"), (2, u "TAU"), (2, u "DEGREES_TO_RADIANS"), (0, u "RADIANS_TO_DEGREES")] 94

def k9m0 : Method := { name := "<init>", desc := "()V", sig := { parameters := [], returnType := none }, accessFlags := 2, code := none }
def k9c1 : Code := { maxStack := 4, maxLocals := 2, code := jdk_29_method_64_code, exceptionTable := #[], attributes := #[] }
def k9m1 : Method := { name := "abs", desc := "(D)D", sig := { parameters := [.double], returnType := some .double }, accessFlags := 9, code := some k9c1 }
/-- java/lang/Math -/
def k9 : Class := { plain "java/lang/Math" (some 0) with
  accessFlags := 49
  interfaces := #[]
  cf := some (fileOf pool9 1 #[.nestMembers #[98]] #[{ accessFlags := 2, nameIndex := 7, descriptorIndex := 8, attributes := #[] }, { accessFlags := 9, nameIndex := 124, descriptorIndex := 14, attributes := #[] }] 49 4 #[] #[{ accessFlags := 25, nameIndex := 354, descriptorIndex := 339, attributes := #[] }, { accessFlags := 25, nameIndex := 358, descriptorIndex := 339, attributes := #[] }, { accessFlags := 25, nameIndex := 361, descriptorIndex := 339, attributes := #[] }, { accessFlags := 26, nameIndex := 364, descriptorIndex := 339, attributes := #[] }, { accessFlags := 26, nameIndex := 365, descriptorIndex := 339, attributes := #[] }, { accessFlags := 26, nameIndex := 172, descriptorIndex := 173, attributes := #[] }, { accessFlags := 26, nameIndex := 176, descriptorIndex := 173, attributes := #[] }, { accessFlags := 8, nameIndex := 344, descriptorIndex := 339, attributes := #[] }, { accessFlags := 8, nameIndex := 338, descriptorIndex := 339, attributes := #[] }, { accessFlags := 4120, nameIndex := 245, descriptorIndex := 246, attributes := #[] }])
  fields := #[{ name := "E", type := .double, accessFlags := 25, slot := 0, constantValue := 0 }, { name := "PI", type := .double, accessFlags := 25, slot := 1, constantValue := 0 }, { name := "TAU", type := .double, accessFlags := 25, slot := 2, constantValue := 0 }, { name := "DEGREES_TO_RADIANS", type := .double, accessFlags := 26, slot := 3, constantValue := 0 }, { name := "RADIANS_TO_DEGREES", type := .double, accessFlags := 26, slot := 4, constantValue := 0 }, { name := "negativeZeroFloatBits", type := .long, accessFlags := 26, slot := 5, constantValue := 0 }, { name := "negativeZeroDoubleBits", type := .long, accessFlags := 26, slot := 6, constantValue := 0 }, { name := "twoToTheDoubleScaleUp", type := .double, accessFlags := 8, slot := 7, constantValue := 0 }, { name := "twoToTheDoubleScaleDown", type := .double, accessFlags := 8, slot := 8, constantValue := 0 }, { name := "$assertionsDisabled", type := .boolean, accessFlags := 4120, slot := 9, constantValue := 0 }]
  methods := #[k9m0, k9m1]
  instanceTypes := #[]
  staticTypes := #[.double, .double, .double, .double, .double, .long, .long, .double, .double, .boolean]
  resolved := Array.replicate 460 none
  statics := none }

def pool10 : Array CpInfo := pool [(1, u "java/lang/Cloneable"), (0, .class_ 1), (0, u "java/lang/Object"), (0, .class_ 3)] 3

/-- java/lang/Cloneable -/
def k10 : Class := { plain "java/lang/Cloneable" (some 0) with
  accessFlags := 1537
  interfaces := #[]
  cf := some (fileOf pool10 2 #[] #[] 1537 4 #[] #[])
  fields := #[]
  methods := #[]
  instanceTypes := #[]
  staticTypes := #[]
  resolved := Array.replicate 8 none
  statics := none }

/-- the primitive byte -/
def k11 : Class := { plain "byte" none with kind := .primitive 'B', accessFlags := 0x411 }
/-- [B -/
def k12 : Class := { plain "[B" (some 0) with kind := .array 11 .byte, interfaces := #[10, 3], accessFlags := 1041 }

/-- the primitive int -/
def k13 : Class := { plain "int" none with kind := .primitive 'I', accessFlags := 0x411 }
/-- [I -/
def k14 : Class := { plain "[I" (some 0) with kind := .array 13 .int, interfaces := #[10, 3], accessFlags := 1041 }

def heap : Heap := #[]
def classes : Array Class := #[k0, k1, k2, k3, k4, k5, k6, k7, k8, k9, k10, k11, k12, k13, k14]
def interned : List (Array UInt16 × Addr) := []
def slotsUsed : Nat := 0
def theMethod : MethodId := ⟨1, 1⟩
def args0 : Array Value := #[.int 1, .int 2, .int 3, .int 4, .int 5, .int 6]
def aboutOver (below : List Frame) : State where
  vm := { classes := classes, interned := interned.toArray }
  heap := heap
  slotsUsed := slotsUsed
  threads := #[{ frames := .invoking theMethod args0 :: below }]
def below0 : List Frame := [.native { method := ⟨0, 0⟩, args := #[] }]
def about1 : State := aboutOver below0
def p0 : Program := .bare "" "" ""
def e0 : Env := launch0.env 0 0 0
theorem w_frames : about1.frames = Frame.invoking theMethod args0 :: below0 := rfl
set_option maxRecDepth 65536 in
theorem w_args : argsFit about1.vm theMethod args0 = true := by decide +kernel
set_option maxRecDepth 65536 in
theorem w_heap : heapFits about1 = true := by decide +kernel
set_option maxRecDepth 65536 in
theorem w_runnable : about1.curStatus? = some .runnable := by decide +kernel
set_option maxRecDepth 65536 in
theorem w_alone : about1.alone = true := by decide +kernel
set_option maxRecDepth 65536 in
theorem w_named : about1.methodNamed? x = some theMethod := by decide +kernel
set_option maxRecDepth 65536 in
theorem w_hears : about1.hears theMethod below0 = true := by decide +kernel
set_option maxRecDepth 65536 in
theorem w_ripe : about1.ripe theMethod args0 below0 = true := by decide +kernel
theorem w_running : about1.status = .running := rfl
set_option maxRecDepth 65536 in
theorem w_room : about1.hasRoom e0.platform room_1 = true :=
  launch0.hasRoom_least _ room_1 (by decide +kernel) (by decide +kernel) (by decide +kernel) (by decide +kernel) (by decide +kernel) (by decide +kernel)
theorem allAtoms_all (ts : List Jvm.Cond) (a : Array Jvm.Value) (st : Jvm.State) : (allAtoms ts).before a st = ts.all (fun c => c.before a st) := by
  induction ts with
  | nil => rfl
  | cons c t ih =>
    show (Jvm.Cond.and c (allAtoms t)).before a st = _
    rw [Jvm.Cond.before_and, ih, List.all_cons]
def words1 : List Jvm.Cond := Jvm.Cond.code x code maxLocals ret :: tables_1
/-- a 'code' word, met by the world's own term for the bytes: nothing is compared byte by byte -/
theorem code_word {y : MethodName} {bytes : ByteArray} {mx : Nat} {rt : Option FieldType} {a : Array Value} {s : State} {m : MethodId} {meth : Method} {c : Code} (h1 : s.methodNamed? y = some m) (h2 : s.vm.method? m = some meth) (h3 : meth.code = some c) (h4 : c.code = bytes)
    (h5 : (c.maxLocals == mx && c.exceptionTable.isEmpty && decide (c.maxStack ≤ mostOperands) && decide (meth.sig.returnType = rt) && !meth.locks && decide (parseMethodDescriptor y.desc = some meth.sig)) = true) : (Jvm.Cond.code y bytes mx rt).before a s = true := by
  simp only [Bool.and_eq_true, beq_iff_eq, Bool.not_eq_true', decide_eq_true_eq] at h5
  obtain ⟨⟨⟨⟨⟨g1, g2⟩, g3⟩, g4⟩, g5⟩, g6⟩ := h5
  simp [Cond.before, Cond.holds, Cond.value, h1, h2, h3, h4, g1, g2, g3, g4, g5, g6]
def isCode : Jvm.Cond → Bool
  | .code _ _ _ _ => true
  | _ => false
theorem all_split {L : List Jvm.Cond} {P : Jvm.Cond → Bool} (h1 : L.all (fun c => isCode c || P c) = true) (h2 : ∀ c ∈ L.filter isCode, P c = true) : L.all P = true := by
  refine List.all_eq_true.mpr fun c hc => ?_
  have h := List.all_eq_true.mp h1 c hc
  rcases Bool.eq_false_or_eq_true (isCode c) with hi | hi
  · exact h2 c (List.mem_filter.mpr ⟨hc, hi⟩)
  · simpa [hi] using h
set_option maxRecDepth 65536 in
theorem w_c0 : (Jvm.Cond.code x code maxLocals ret).before args0 about1 = true := code_word (m := ⟨1, 1⟩) (meth := k1m1) (c := k1c1) (by decide +kernel) rfl rfl rfl (by decide +kernel)
set_option maxRecDepth 65536 in
theorem w_c1 : (Jvm.Cond.code ({ cls := "com/example/retiremetric/retiremetric/engine/Mean", name := "<init>", desc := "()V" } : Jvm.MethodName) prog_16_method_1_code (1 : Nat) (Option.none : Option Jvm.ClassFile.FieldType)).before args0 about1 = true := code_word (m := ⟨2, 0⟩) (meth := k2m0) (c := k2c0) (by decide +kernel) rfl rfl rfl (by decide +kernel)
set_option maxRecDepth 65536 in
theorem w_c2 : (Jvm.Cond.code ({ cls := "java/lang/Object", name := "<init>", desc := "()V" } : Jvm.MethodName) object_method_1_code (1 : Nat) (Option.none : Option Jvm.ClassFile.FieldType)).before args0 about1 = true := code_word (m := ⟨0, 0⟩) (meth := k0m0) (c := k0c0) (by decide +kernel) rfl rfl rfl (by decide +kernel)
set_option maxRecDepth 65536 in
theorem w_c3 : (Jvm.Cond.code ({ cls := "com/example/retiremetric/retiremetric/engine/Mean", name := "add", desc := "(D)V" } : Jvm.MethodName) prog_16_method_3_code (5 : Nat) (Option.none : Option Jvm.ClassFile.FieldType)).before args0 about1 = true := code_word (m := ⟨2, 1⟩) (meth := k2m1) (c := k2c1) (by decide +kernel) rfl rfl rfl (by decide +kernel)
set_option maxRecDepth 65536 in
theorem w_c4 : (Jvm.Cond.code ({ cls := "java/lang/Double", name := "isInfinite", desc := "(D)Z" } : Jvm.MethodName) jdk_117_method_7_code (2 : Nat) (Option.some Jvm.ClassFile.FieldType.boolean)).before args0 about1 = true := code_word (m := ⟨8, 0⟩) (meth := k8m0) (c := k8c0) (by decide +kernel) rfl rfl rfl (by decide +kernel)
set_option maxRecDepth 65536 in
theorem w_c5 : (Jvm.Cond.code ({ cls := "java/lang/Math", name := "abs", desc := "(D)D" } : Jvm.MethodName) jdk_29_method_64_code (2 : Nat) (Option.some Jvm.ClassFile.FieldType.double)).before args0 about1 = true := code_word (m := ⟨9, 1⟩) (meth := k9m1) (c := k9c1) (by decide +kernel) rfl rfl rfl (by decide +kernel)
set_option maxRecDepth 65536 in
theorem w_c6 : (Jvm.Cond.code ({ cls := "com/example/retiremetric/retiremetric/engine/Mean", name := "mean", desc := "()D" } : Jvm.MethodName) prog_16_method_5_code (1 : Nat) (Option.some Jvm.ClassFile.FieldType.double)).before args0 about1 = true := code_word (m := ⟨2, 2⟩) (meth := k2m2) (c := k2c2) (by decide +kernel) rfl rfl rfl (by decide +kernel)
def codes1 : List Jvm.Cond := [Jvm.Cond.code x code maxLocals ret, Jvm.Cond.code ({ cls := "com/example/retiremetric/retiremetric/engine/Mean", name := "<init>", desc := "()V" } : Jvm.MethodName) prog_16_method_1_code (1 : Nat) (Option.none : Option Jvm.ClassFile.FieldType), Jvm.Cond.code ({ cls := "java/lang/Object", name := "<init>", desc := "()V" } : Jvm.MethodName) object_method_1_code (1 : Nat) (Option.none : Option Jvm.ClassFile.FieldType), Jvm.Cond.code ({ cls := "com/example/retiremetric/retiremetric/engine/Mean", name := "add", desc := "(D)V" } : Jvm.MethodName) prog_16_method_3_code (5 : Nat) (Option.none : Option Jvm.ClassFile.FieldType), Jvm.Cond.code ({ cls := "java/lang/Double", name := "isInfinite", desc := "(D)Z" } : Jvm.MethodName) jdk_117_method_7_code (2 : Nat) (Option.some Jvm.ClassFile.FieldType.boolean), Jvm.Cond.code ({ cls := "java/lang/Math", name := "abs", desc := "(D)D" } : Jvm.MethodName) jdk_29_method_64_code (2 : Nat) (Option.some Jvm.ClassFile.FieldType.double), Jvm.Cond.code ({ cls := "com/example/retiremetric/retiremetric/engine/Mean", name := "mean", desc := "()D" } : Jvm.MethodName) prog_16_method_5_code (1 : Nat) (Option.some Jvm.ClassFile.FieldType.double)]
set_option maxRecDepth 65536 in
theorem codes_eq : words1.filter isCode = codes1 := rfl
theorem w_codes : ∀ c ∈ words1.filter isCode, c.before args0 about1 = true := by
  rw [codes_eq]
  intro c hc
  simp only [codes1, List.mem_cons, List.not_mem_nil, or_false] at hc
  rcases hc with rfl | rfl | rfl | rfl | rfl | rfl | rfl
  · exact w_c0
  · exact w_c1
  · exact w_c2
  · exact w_c3
  · exact w_c4
  · exact w_c5
  · exact w_c6
set_option maxRecDepth 65536 in
theorem w_t1 : (words1.take 24).all (fun c => isCode c || c.before args0 about1) = true := by decide +kernel
set_option maxRecDepth 65536 in
theorem w_t2 : (words1.drop 24).all (fun c => isCode c || c.before args0 about1) = true := by decide +kernel
theorem w_tables : (allAtoms (Jvm.Cond.code x code maxLocals ret :: tables_1)).before args0 about1 = true := by
  rw [allAtoms_all]
  show words1.all (fun c => c.before args0 about1) = true
  refine all_split ?_ w_codes
  rw [← List.take_append_drop 24 words1, List.all_append, w_t1, w_t2]
  rfl
set_option maxRecDepth 65536 in
theorem w_case : (Jvm.Cond.and given_1 narrow_1).before args0 about1 = true := by decide +kernel
theorem w_applies : (headSpec (Jvm.Cond.code x code maxLocals ret :: tables_1) room_1).applies x e0.platform about1 = true :=
  (Spec.applies_iff w_frames).mpr ⟨w_running, w_runnable, w_alone, w_named, w_hears, w_ripe, w_room, w_tables⟩
theorem atStart : AtStart classFile x code maxLocals ret World_1 tables_1 room_1 Calls_1 rest_1 Pre_1 launch0 p0 e0 about1 theMethod args0 below0 :=
  ⟨lists_1, trivial, launch0.admits_env _ _ _, launch0.least_env, fairChoices_fair.cas, fairChoices_fair.clock, w_frames, w_args, w_heap, w_applies, trivial, trivial, w_case⟩
end start1
theorem witness_1 : WitnessClaimed_1 := ⟨start1.p0, start1.e0, start1.about1, start1.theMethod, start1.args0, start1.below0, start1.atStart⟩
end Jvm.Pilot.@@N@@
