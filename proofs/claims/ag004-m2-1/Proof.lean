import JvmDerived
import JvmDerived.Pilot.@@N@@Statement
import JvmDerived.Pilot.@@N@@Code
set_option linter.unusedVariables false
set_option linter.unusedSimpArgs false
namespace Jvm.RoadKit
open Sem ClassFile Op Lib Jvm.Stand Jvm.Free Jvm.LawKit
section New
variable {p : Program} {l : Launch} {e : Env} {R : Room} {s : State} {m : MethodId} {args : Array Value} {below : List Frame} {meth : Method} {c : Code} {T : State} {locs : List Loc} {cells slots : Nat}
theorem retI (X : Stand p l e R s m args below meth c T locs cells slots) (hx : p.tables.exec = Jvm.exec) {pc : Nat} {Ls : Array Slot} {z : Int32} {rest : List Value} (hret : meth.sig.returnType = some .int) (hd : decode c.code pc = .ok (.ireturn, 1)) {fs : List Frame}
    (hl : ∀ (f : JFrame) (acts : List Action), f.method = m → f.locked = none → f.entered = [] → (doReturn e (T.setTop f) acts (some (.int z))).1 = T.setFrames fs) : Steps p.tables e below (T.setTop (mkF m pc Ls (.int z :: rest))) (T.setFrames fs) := by
  have hm' : T.vm.method? m = some meth := X.method'
  have hn : narrow .int (.int z) = .int z := rfl
  show Steps p.tables e below (T.setTop { method := m, pc := pc, locals := Ls, stack := _ :: rest, locked := none }) _
  jvm_step X.here [X.here.top, hx, hd, hm', hret, hn]
  first | (intro acts; rw [hl _ acts rfl rfl rfl]) | rw [hl _ _ rfl rfl rfl]
  exact Steps.refl _
theorem gwLrem {tb : Tables} [Ours tb] {e : Env} {below : List Frame} {T target : State} {m : MethodId} {c : Code} {g : JFrame} (h : At T m c below) (hx : tb.exec = Jvm.exec) (hg : g.method = m) {x y : Int64} {rest : List Value} (hd : decode c.code g.pc = .ok (.lrem, 1)) (hs : g.stack = .long y :: .long x :: rest) (hy : y ≠ 0)
    (hr : Steps tb e below (T.setTop { g with pc := g.pc + 1, stack := .long (x % y) :: rest }) target) : Steps tb e below (T.setTop g) target :=
  XS.lrem h hx hg hd hs hy (by rw [lrem_mod]; exact hr)
theorem gwIrem {tb : Tables} [Ours tb] {e : Env} {below : List Frame} {T target : State} {m : MethodId} {c : Code} {g : JFrame} (h : At T m c below) (hx : tb.exec = Jvm.exec) (hg : g.method = m) {x y : Int32} {rest : List Value} (hd : decode c.code g.pc = .ok (.irem, 1)) (hs : g.stack = .int y :: .int x :: rest) (hy : y ≠ 0)
    (hr : Steps tb e below (T.setTop { g with pc := g.pc + 1, stack := .int (x % y) :: rest }) target) : Steps tb e below (T.setTop g) target :=
  XS.irem h hx hg hd hs hy (by rw [Jvm.irem_eq_mod]; exact hr)
end New
end Jvm.RoadKit
@@BLOCK:NumsL.lean.txt@@
namespace Jvm.Pilot.@@N@@
open Jvm Jvm.ClassFile Sem Op Lib Jvm.Free Jvm.Stand Jvm.LawKit Jvm.RoadKit Bundle Jvm.Pilot.@@N@@.Jvm.D

section DVs
open Jvm.FP.Core
/-- the double a is finite and is the number i * 2 ^ (n - 1074) -/
def DV (i : Int) (n : Nat) (a : UInt64) : Prop := (∃ s c q, val64 a = .fin s c q) ∧ zval b64 (val64 a) = i * ((2 ^ n : Nat) : Int)
theorem dv_up {i : Int} {n k : Nat} {a : UInt64} (h : DV i (n + k) a) : DV (i * ((2 ^ k : Nat) : Int)) n a := by
  refine ⟨h.1, ?_⟩
  rw [h.2, Nat.pow_add, Int.mul_assoc]
  congr 1
  rw [Nat.mul_comm]; push_cast; first | rfl | done
theorem round_units {s : Bool} {c : Nat} {q b : Int} {M n : Nat} (hb : b ≤ q) (h : c * 2 ^ (q - b).toNat = M * 2 ^ n) (hM : M < 2 ^ 53) (h1 : -1074 ≤ (n : Int) + b) (h2 : (n : Int) + b ≤ 971) :
    ∃ c' q', round b64 (.fin s c q) = .fin s c' q' ∧ inUnits c' q' b64.qmin = M * 2 ^ ((n : Int) + b + 1074).toNat := by
  have e : round b64 (.fin s c q) = round b64 (.fin s M ((n : Int) + b)) := by
    show roundRatio b64 s c 1 q = roundRatio b64 s M 1 ((n : Int) + b)
    refine roundRatio_congr (by decide) (by decide) ?_
    by_cases hc : q ≤ (n : Int) + b
    · have e1 : (q - ((n : Int) + b)).toNat = 0 := by omega
      have e2 : n = (q - b).toNat + ((n : Int) + b - q).toNat := by omega
      rw [e1]
      have h3 : c * 2 ^ (q - b).toNat = (M * 2 ^ ((n : Int) + b - q).toNat) * 2 ^ (q - b).toNat := by
        rw [h, Nat.mul_assoc, ← Nat.pow_add, Nat.add_comm, ← e2]
      have h4 := Nat.eq_of_mul_eq_mul_right (Nat.two_pow_pos _) h3
      rw [Nat.pow_zero, Nat.mul_one, Nat.mul_one, Nat.mul_one, h4]
    · have e1 : ((n : Int) + b - q).toNat = 0 := by omega
      have e2 : (q - b).toNat = (q - ((n : Int) + b)).toNat + n := by omega
      rw [e1]
      have h3 : (c * 2 ^ (q - ((n : Int) + b)).toNat) * 2 ^ n = M * 2 ^ n := by rw [Nat.mul_assoc, ← Nat.pow_add, ← e2, h]
      have h4 := Nat.eq_of_mul_eq_mul_right (Nat.two_pow_pos _) h3
      rw [Nat.pow_zero, Nat.mul_one, Nat.mul_one, Nat.mul_one, h4]
  obtain ⟨c', q', r1, r2⟩ := round_exact good_b64 s (c := M) (q := (n : Int) + b) hM (by rw [qmin_b64]; exact h1) (by show _ ≤ b64.qmax; rw [show b64.qmax = 971 by decide]; exact h2)
  refine ⟨c', q', e.trans r1, r2.trans ?_⟩
  unfold inUnits
  rw [qmin_b64]
  congr 3
theorem signed_natAbs {s : Bool} {c : Nat} {z : Int} (h : signed s c = z) : c = z.natAbs := by rw [← h, natAbs_signed]
theorem signed_of_natAbs {s : Bool} {c M k : Nat} {z : Int} (h : signed s c = z * ((2 ^ k : Nat) : Int)) (n : Nat) : signed s (z.natAbs * 2 ^ n) = z * ((2 ^ n : Nat) : Int) := by
  have hc := signed_natAbs h
  have hk : 0 < (2 ^ k : Nat) := Nat.two_pow_pos k
  rw [signed_mul]
  congr 1
  by_cases hz : z = 0
  · subst hz; exact signed_zero s
  · unfold signed at h ⊢
    cases s
    · simp only [Bool.false_eq_true, if_false] at h ⊢
      have : 0 ≤ z := by
        by_cases h0 : 0 ≤ z
        · exact h0
        · have := Int.mul_neg_of_neg_of_pos (show z < 0 by omega) (show (0 : Int) < ((2 ^ k : Nat) : Int) by omega)
          omega
      omega
    · simp only [if_true] at h ⊢
      have : z ≤ 0 := by
        by_cases h0 : z ≤ 0
        · exact h0
        · have := Int.mul_pos (show 0 < z by omega) (show (0 : Int) < ((2 ^ k : Nat) : Int) by omega)
          omega
      omega
theorem dv_round {a : UInt64} {s : Bool} {c : Nat} {q b : Int} {z : Int} {n : Nat} (ha : val64 a = round b64 (.fin s c q)) (hb : b ≤ q) (h : signed s (c * 2 ^ (q - b).toNat) = z * ((2 ^ n : Nat) : Int)) (hz : z.natAbs < 2 ^ 53)
    (h1 : -1074 ≤ (n : Int) + b) (h2 : (n : Int) + b ≤ 971) {N : Nat} (hN : (N : Int) = (n : Int) + b + 1074) : DV z N a := by
  have e1 : c * 2 ^ (q - b).toNat = z.natAbs * 2 ^ n := by
    rw [signed_natAbs h, Int.natAbs_mul, Int.natAbs_natCast]
  obtain ⟨c', q', r1, r2⟩ := round_units (s := s) hb e1 hz h1 h2
  rw [show ((n : Int) + b + 1074).toNat = N by omega] at r2
  refine ⟨⟨s, c', q', ha.trans r1⟩, ?_⟩
  rw [ha, r1]
  show signed s (inUnits c' q' b64.qmin) = _
  rw [r2]
  exact signed_of_natAbs (M := 0) h N
theorem dv_fits {a : UInt64} {s : Bool} {c : Nat} {q : Int} (h : val64 a = .fin s c q) : Jvm.FP.Core.fits b64 (.fin s c q) := h ▸ val64_fits a
theorem dv_l2d {a : Int64} (h : a.toInt.natAbs < 2 ^ 53) : DV a.toInt 1074 (FP.l2d a) := by
  refine dv_round (b := -1074) (n := 1074) (val64_l2d a) (by omega) ?_ h (by omega) (by omega) (by omega)
  show signed (decide (a.toInt < 0)) (a.toInt.natAbs * 2 ^ 1074) = _
  rw [signed_mul]
  congr 1
  unfold signed
  by_cases h : a.toInt < 0 <;> simp [h] <;> omega
theorem dv_i2d (a : Int32) : DV a.toInt 1074 (FP.i2d a) := by
  refine dv_round (b := -1074) (n := 1074) (val64_i2d a) (by omega) ?_ (by have := int32_abs a; omega) (by omega) (by omega) (by omega)
  show signed (decide (a.toInt < 0)) (a.toInt.natAbs * 2 ^ 1074) = _
  rw [signed_mul]
  congr 1
  unfold signed
  by_cases h : a.toInt < 0 <;> simp [h] <;> omega
theorem dv_add {i j : Int} {n : Nat} {a b : UInt64} (ha : DV i n a) (hb : DV j n b) (h : (i + j).natAbs < 2 ^ 53) (hn : n ≤ 2045) : DV (i + j) n (FP.dadd a b) := by
  obtain ⟨⟨s, c, q, va⟩, za⟩ := ha
  obtain ⟨⟨t, d, r, vb⟩, zb⟩ := hb
  obtain ⟨sg, k, e, e1, e2, e3⟩ := sum_units (dv_fits va) (dv_fits vb)
  rw [va] at za
  rw [vb] at zb
  rw [za, zb, ← Int.add_mul] at e3
  refine dv_round (s := sg) (c := k) (q := e) (b := -1074) (n := n) ?_ (by rw [qmin_b64] at e2; exact e2) ?_ h (by omega) (by omega) (by omega)
  · show val64 (dadd a b) = _
    rw [val64_dadd, va, vb, e1]
  · rw [← e3]; unfold inUnits; rw [qmin_b64]
theorem dv_cmp {i j : Int} {n : Nat} {a b : UInt64} (ha : DV i n a) (hb : DV j n b) : FP.dcmp a b = some (compare i j) := by
  obtain ⟨⟨s, c, q, va⟩, za⟩ := ha
  obtain ⟨⟨t, d, r, vb⟩, zb⟩ := hb
  show order (val64 a) (val64 b) = _
  rw [order_zval good_b64 (val64_fits a) (val64_fits b) (by rw [va]; simp) (by rw [vb]; simp), za, zb, compare_mul_pos _ _ _ (by have := Nat.two_pow_pos n; omega)]
theorem dv_of_bits {i : Int} {n : Nat} {a : UInt64} {s : Bool} {c : Nat} {q : Int} (h : val64 a = .fin s c q) (hz : zval b64 (.fin s c q) = i * ((2 ^ n : Nat) : Int)) : DV i n a := ⟨⟨s, c, q, h⟩, by rw [h, hz]⟩
theorem xor63_mod (n : Nat) : (n ^^^ 2 ^ 63) % 2 ^ 63 = n % 2 ^ 63 := by
  rw [Nat.xor_mod_two_pow, Nat.mod_self, Nat.xor_zero]
theorem xor63_div (n : Nat) (h : n < 2 ^ 64) : (n ^^^ 2 ^ 63) / 2 ^ 63 = 1 - n / 2 ^ 63 := by
  have h1 : (n ^^^ 2 ^ 63) / 2 ^ 63 = (n / 2 ^ 63) ^^^ 1 := by
    rw [← Nat.shiftRight_eq_div_pow, Nat.shiftRight_xor_distrib, Nat.shiftRight_eq_div_pow, Nat.shiftRight_eq_div_pow]
  rw [h1]
  have h2 : n / 2 ^ 63 = 0 ∨ n / 2 ^ 63 = 1 := by omega
  rcases h2 with h2 | h2 <;> rw [h2] <;> rfl
theorem dneg_toNat (a : UInt64) : (FP.dneg a).toNat = a.toNat ^^^ 2 ^ 63 := by
  show (a ^^^ 0x8000000000000000).toNat = _
  rw [UInt64.toNat_xor]
  rfl
theorem val_dneg (a : UInt64) : val64 (FP.dneg a) = negate (val64 a) := by
  have hm : mag b64 (FP.dneg a).toNat = mag b64 a.toNat := by
    rw [mag_toNat64, mag_toNat64, dneg_toNat, xor63_mod]
  have hs : fieldS b64 (FP.dneg a).toNat = !fieldS b64 a.toNat := by
    rw [fieldS_mag b64 (lt_full64 _), fieldS_mag b64 (lt_full64 _), half_b64, dneg_toNat]
    have h0 := a.toNat_lt
    have h1 := xor63_div a.toNat h0
    have h2 := xor63_mod a.toNat
    generalize a.toNat ^^^ 2 ^ 63 = y at h1 h2
    by_cases h3 : 2 ^ 63 ≤ a.toNat
    · have : ¬ 2 ^ 63 ≤ y := by omega
      simp [h3, this]
    · have : 2 ^ 63 ≤ y := by omega
      simp [h3, this]
  unfold val64 Jvm.FP.Core.decode
  rw [fieldE_mag, fieldE_mag, fieldT_mag, fieldT_mag, hm, hs]
  split
  · split <;> rfl
  · split <;> rfl
theorem dv_neg {i : Int} {n : Nat} {a : UInt64} (ha : DV i n a) : DV (-i) n (FP.dneg a) := by
  obtain ⟨⟨s, c, q, va⟩, za⟩ := ha
  refine ⟨⟨!s, c, q, by rw [val_dneg, va]; rfl⟩, ?_⟩
  rw [val_dneg, zval_negate, za, Int.neg_mul]
theorem dv_noNaN {i : Int} {n : Nat} {a : UInt64} (ha : DV i n a) : Jvm.Free.Fl.NoNaN64 a := by
  obtain ⟨⟨s, c, q, va⟩, za⟩ := ha
  exact (Jvm.Free.Fl.fin64_core.mpr ⟨s, c, q, va⟩).noNaN
end DVs

theorem d1_0 : decode prog_11_method_4_code 0 = .ok (.dload_n 0, 1) := by decide +kernel
theorem d1_1 : decode prog_11_method_4_code 1 = .ok (.dconst 0, 1) := by decide +kernel
theorem d1_2 : decode prog_11_method_4_code 2 = .ok (.dcmp .l, 1) := by decide +kernel
theorem d1_3 : decode prog_11_method_4_code 3 = .ok (.ifCond .lt 15, 3) := by decide +kernel
theorem d1_6 : decode prog_11_method_4_code 6 = .ok (.dload_n 0, 1) := by decide +kernel
theorem d1_7 : decode prog_11_method_4_code 7 = .ok (.ldc2_w 54, 3) := by decide +kernel
theorem d1_10 : decode prog_11_method_4_code 10 = .ok (.dcmp .g, 1) := by decide +kernel
theorem d1_11 : decode prog_11_method_4_code 11 = .ok (.ifCond .gt 7, 3) := by decide +kernel
theorem d1_14 : decode prog_11_method_4_code 14 = .ok (.iconst 1, 1) := by decide +kernel
theorem d1_15 : decode prog_11_method_4_code 15 = .ok (.goto 4, 3) := by decide +kernel
theorem d1_18 : decode prog_11_method_4_code 18 = .ok (.iconst 0, 1) := by decide +kernel
theorem d1_19 : decode prog_11_method_4_code 19 = .ok (.ireturn, 1) := by decide +kernel
theorem pd_0 : parseMethodDescriptor "(D)Z" = some ⟨[.double], some .boolean⟩ := by decide +kernel
theorem pn_0 : plainName "com/example/metered_demand/metereddemand/model/MeasurementIsCountPinLaw" = true := by first | (simp [plainName, overriddenIn]; done) | decide +kernel
theorem pn_1 : plainName "com/example/metered_demand/metereddemand/model/Measurement" = true := by first | (simp [plainName, overriddenIn]; done) | decide +kernel
theorem ef_0 (m : MethodId) (x0 : Int64) (x1 : Int32) : entryFrame m #[(.long x0), (.int x1)] maxLocals = mkF m 0 #[.val (.long x0), .second, .val (.int x1), .unset, .unset, .unset, .unset, .unset, .unset, .unset, .unset, .unset] [] := by first | (simp [entryFrame, mkF, argsToLocals, Value.category, maxLocals]; done) | rfl
theorem ef_1 (m : MethodId) (x0 : UInt64) : entryFrame m #[(.double x0)] 2 = mkF m 0 #[.val (.double x0), .second] [] := by first | (simp [entryFrame, mkF, argsToLocals, Value.category]; done) | rfl
def isC (d : UInt64) : Int32 := if cmpValue (FP.dcmp d FP.dconst0) .l < 0 then 0 else if (0 : Int32) < cmpValue (FP.dcmp d (4786511204640096256 : UInt64)) .g then 0 else 1
def Q1 (d : UInt64) (h0 : Heap) (n0 : Nat) (v : Option Value) (h : Heap) (L : List Loc) : Prop := v = some (.int (isC d)) ∧ Fr n0 L ∧ h = h0
set_option maxRecDepth 65536 in
set_option maxHeartbeats 40000000 in
theorem rm1_a (l : Launch) (Z : State) (a0 : Array Value) (hw : ∀ d ∈ tables_1, d.before a0 Z = true) (ws : List Jvm.Cond) (d : UInt64)  (h0 : Heap) (n0 : Nat) (Z0 : n0 ≤ h0.size)  (hc3 : (cmpValue (FP.dcmp d FP.dconst0) .l) < (0 : Int32)) :
    MetFree l (⟨"com/example/metered_demand/metereddemand/model/Measurement", "isCount", "(D)Z"⟩ : MethodName) (head1 (Jvm.Cond.code (⟨"com/example/metered_demand/metereddemand/model/Measurement", "isCount", "(D)Z"⟩ : MethodName) prog_11_method_4_code 2 (some .boolean) :: ws) ({ frames := 0, cells := 0, slots := 0, locals := 0 } : Room)) (fun aa U => aa = #[(.double d)] ∧ Z.Warmed39 U.vm ∧ U.heap = h0) (fun _ _ _ _ _ => True) (fun _ U o U' => ∃ v L, o = .returned v ∧ Q1 d h0 n0 v U'.heap L ∧ FrameEnd U o U' L ({ frames := 0, cells := 0, slots := 0, locals := 0 } : Room).cells ({ frames := 0, cells := 0, slots := 0, locals := 0 } : Room).slots) := by
  refine MetFree.of_bodySF (plainFor_of_name pn_1) hisR ?_
  intro p e s m args below meth c s₁ Bd hml0 hP hK
  obtain ⟨rfl, hZ, hh⟩ := hP
  have hx := Bd.exec
  have hby := Bd.bytes
  have hml : c.maxLocals = 2 := hml0
  have hown : s.vm.findClass "com/example/metered_demand/metereddemand/model/Measurement" = some m.cls := findClass_of_methodNamed Bd.named
  have hnm := (name_of_methodNamed Bd.named Bd.method).1
  have X0 : Stand p l e ({ frames := 0, cells := 0, slots := 0, locals := 0 } : Room) s m #[(.double d)] below meth c s₁ [] 0 0 := Stand.of_body Bd
  have e0 : s₁.heap = h0 := by rw [← hh, Bd.state]; rfl
  have N0 := Fr.nil n0
  have pre0 : ∀ t, Steps p.tables e below (s₁.setTop (mkF m 0 #[.val (.double d), .second] [])) t → Steps p.tables e below (s₁.setTop (entryFrame m #[(.double d)] 2)) t := fun t k => castTop (ef_1 m d) k
  obtain ⟨fs, hr, hrun, hended, hW, hsame⟩ := X0.leave (v := some (.int (0 : Int32))) (fun h => by rw [Bd.returns] at h; cases h)
  refine ⟨_, _, pre0 _ ?_, hrun, hended, _, _, rfl, ?_, ⟨_, rfl⟩, hW, hsame.mono (by decide) (by decide)⟩
  · show Steps p.tables e below (s₁.setTop (mkF m 0 #[.val (.double d), .second] [])) _
    refine XS.dloadN X0.here hx rfl (hb hby d1_0) rfl ?_
    show Steps p.tables e below (s₁.setTop (mkF m 1 #[.val (.double d), .second] [(.double d)])) _
    refine XS.dconst0 X0.here hx rfl (hb hby d1_1) rfl ?_
    show Steps p.tables e below (s₁.setTop (mkF m 2 #[.val (.double d), .second] [(.double FP.dconst0), (.double d)])) _
    refine XS.dcmpS X0.here hx rfl (hb hby d1_2) rfl rfl ?_
    show Steps p.tables e below (s₁.setTop (mkF m 3 #[.val (.double d), .second] [(.int (cmpValue (FP.dcmp d FP.dconst0) .l))])) _
    refine XS.ifYes X0.here hx rfl (pc0 := 3) (pc' := 18) rfl (hb hby d1_3) rfl ((if0 _ _).trans (tlt hc3).1) (by decide) (by decide) ?_
    show Steps p.tables e below (s₁.setTop (mkF m 18 #[.val (.double d), .second] [])) _
    refine XS.iconst X0.here hx rfl (hb hby d1_18) ?_
    show Steps p.tables e below (s₁.setTop (mkF m 19 #[.val (.double d), .second] [(.int (0 : Int32))])) _
    exact retN X0 hx (t := .boolean) Bd.returns (by simp) (hb hby d1_19) hr
  · show Q1 d h0 n0 _ s₁.heap _
    rw [e0]
    exact ⟨by rw [isC, if_pos hc3], N0, rfl⟩
set_option maxRecDepth 65536 in
set_option maxHeartbeats 40000000 in
theorem rm1_b (l : Launch) (Z : State) (a0 : Array Value) (hw : ∀ d ∈ tables_1, d.before a0 Z = true) (ws : List Jvm.Cond) (d : UInt64)  (h0 : Heap) (n0 : Nat) (Z0 : n0 ≤ h0.size)  (hc3 : ¬ ((cmpValue (FP.dcmp d FP.dconst0) .l) < (0 : Int32))) (hc11 : (0 : Int32) < (cmpValue (FP.dcmp d (4786511204640096256 : UInt64)) .g)) :
    MetFree l (⟨"com/example/metered_demand/metereddemand/model/Measurement", "isCount", "(D)Z"⟩ : MethodName) (head1 (Jvm.Cond.code (⟨"com/example/metered_demand/metereddemand/model/Measurement", "isCount", "(D)Z"⟩ : MethodName) prog_11_method_4_code 2 (some .boolean) :: ws) ({ frames := 0, cells := 0, slots := 0, locals := 0 } : Room)) (fun aa U => aa = #[(.double d)] ∧ Z.Warmed39 U.vm ∧ U.heap = h0) (fun _ _ _ _ _ => True) (fun _ U o U' => ∃ v L, o = .returned v ∧ Q1 d h0 n0 v U'.heap L ∧ FrameEnd U o U' L ({ frames := 0, cells := 0, slots := 0, locals := 0 } : Room).cells ({ frames := 0, cells := 0, slots := 0, locals := 0 } : Room).slots) := by
  refine MetFree.of_bodySF (plainFor_of_name pn_1) hisR ?_
  intro p e s m args below meth c s₁ Bd hml0 hP hK
  obtain ⟨rfl, hZ, hh⟩ := hP
  have hx := Bd.exec
  have hby := Bd.bytes
  have hml : c.maxLocals = 2 := hml0
  have hown : s.vm.findClass "com/example/metered_demand/metereddemand/model/Measurement" = some m.cls := findClass_of_methodNamed Bd.named
  have hnm := (name_of_methodNamed Bd.named Bd.method).1
  have X0 : Stand p l e ({ frames := 0, cells := 0, slots := 0, locals := 0 } : Room) s m #[(.double d)] below meth c s₁ [] 0 0 := Stand.of_body Bd
  have e0 : s₁.heap = h0 := by rw [← hh, Bd.state]; rfl
  have N0 := Fr.nil n0
  have pre0 : ∀ t, Steps p.tables e below (s₁.setTop (mkF m 0 #[.val (.double d), .second] [])) t → Steps p.tables e below (s₁.setTop (entryFrame m #[(.double d)] 2)) t := fun t k => castTop (ef_1 m d) k
  obtain ⟨fs, hr, hrun, hended, hW, hsame⟩ := X0.leave (v := some (.int (0 : Int32))) (fun h => by rw [Bd.returns] at h; cases h)
  refine ⟨_, _, pre0 _ ?_, hrun, hended, _, _, rfl, ?_, ⟨_, rfl⟩, hW, hsame.mono (by decide) (by decide)⟩
  · show Steps p.tables e below (s₁.setTop (mkF m 0 #[.val (.double d), .second] [])) _
    refine XS.dloadN X0.here hx rfl (hb hby d1_0) rfl ?_
    show Steps p.tables e below (s₁.setTop (mkF m 1 #[.val (.double d), .second] [(.double d)])) _
    refine XS.dconst0 X0.here hx rfl (hb hby d1_1) rfl ?_
    show Steps p.tables e below (s₁.setTop (mkF m 2 #[.val (.double d), .second] [(.double FP.dconst0), (.double d)])) _
    refine XS.dcmpS X0.here hx rfl (hb hby d1_2) rfl rfl ?_
    show Steps p.tables e below (s₁.setTop (mkF m 3 #[.val (.double d), .second] [(.int (cmpValue (FP.dcmp d FP.dconst0) .l))])) _
    refine XS.ifNo X0.here hx rfl (hb hby d1_3) rfl ((if0 _ _).trans (flt hc3).1) ?_
    show Steps p.tables e below (s₁.setTop (mkF m 6 #[.val (.double d), .second] [])) _
    refine XS.dloadN X0.here hx rfl (hb hby d1_6) rfl ?_
    show Steps p.tables e below (s₁.setTop (mkF m 7 #[.val (.double d), .second] [(.double d)])) _
    refine X0.ldc2DoubleC hx hown (mvT hZ (hw _ (List.mem_of_getElem? (i := 7) rfl))) (g := (mkF m 7 #[.val (.double d), .second] [(.double d)])) rfl (hb hby d1_7) _ ?_
    show Steps p.tables e below (s₁.setTop (mkF m 10 #[.val (.double d), .second] [(.double (4786511204640096256 : UInt64)), (.double d)])) _
    refine XS.dcmpS X0.here hx rfl (hb hby d1_10) rfl rfl ?_
    show Steps p.tables e below (s₁.setTop (mkF m 11 #[.val (.double d), .second] [(.int (cmpValue (FP.dcmp d (4786511204640096256 : UInt64)) .g))])) _
    refine XS.ifYes X0.here hx rfl (pc0 := 11) (pc' := 18) rfl (hb hby d1_11) rfl ((if0 _ _).trans (tlt hc11).2.2.1) (by decide) (by decide) ?_
    show Steps p.tables e below (s₁.setTop (mkF m 18 #[.val (.double d), .second] [])) _
    refine XS.iconst X0.here hx rfl (hb hby d1_18) ?_
    show Steps p.tables e below (s₁.setTop (mkF m 19 #[.val (.double d), .second] [(.int (0 : Int32))])) _
    exact retN X0 hx (t := .boolean) Bd.returns (by simp) (hb hby d1_19) hr
  · show Q1 d h0 n0 _ s₁.heap _
    rw [e0]
    exact ⟨by rw [isC, if_neg hc3, if_pos hc11], N0, rfl⟩
set_option maxRecDepth 65536 in
set_option maxHeartbeats 40000000 in
theorem rm1_c (l : Launch) (Z : State) (a0 : Array Value) (hw : ∀ d ∈ tables_1, d.before a0 Z = true) (ws : List Jvm.Cond) (d : UInt64)  (h0 : Heap) (n0 : Nat) (Z0 : n0 ≤ h0.size)  (hc3 : ¬ ((cmpValue (FP.dcmp d FP.dconst0) .l) < (0 : Int32))) (hc11 : ¬ ((0 : Int32) < (cmpValue (FP.dcmp d (4786511204640096256 : UInt64)) .g))) :
    MetFree l (⟨"com/example/metered_demand/metereddemand/model/Measurement", "isCount", "(D)Z"⟩ : MethodName) (head1 (Jvm.Cond.code (⟨"com/example/metered_demand/metereddemand/model/Measurement", "isCount", "(D)Z"⟩ : MethodName) prog_11_method_4_code 2 (some .boolean) :: ws) ({ frames := 0, cells := 0, slots := 0, locals := 0 } : Room)) (fun aa U => aa = #[(.double d)] ∧ Z.Warmed39 U.vm ∧ U.heap = h0) (fun _ _ _ _ _ => True) (fun _ U o U' => ∃ v L, o = .returned v ∧ Q1 d h0 n0 v U'.heap L ∧ FrameEnd U o U' L ({ frames := 0, cells := 0, slots := 0, locals := 0 } : Room).cells ({ frames := 0, cells := 0, slots := 0, locals := 0 } : Room).slots) := by
  refine MetFree.of_bodySF (plainFor_of_name pn_1) hisR ?_
  intro p e s m args below meth c s₁ Bd hml0 hP hK
  obtain ⟨rfl, hZ, hh⟩ := hP
  have hx := Bd.exec
  have hby := Bd.bytes
  have hml : c.maxLocals = 2 := hml0
  have hown : s.vm.findClass "com/example/metered_demand/metereddemand/model/Measurement" = some m.cls := findClass_of_methodNamed Bd.named
  have hnm := (name_of_methodNamed Bd.named Bd.method).1
  have X0 : Stand p l e ({ frames := 0, cells := 0, slots := 0, locals := 0 } : Room) s m #[(.double d)] below meth c s₁ [] 0 0 := Stand.of_body Bd
  have e0 : s₁.heap = h0 := by rw [← hh, Bd.state]; rfl
  have N0 := Fr.nil n0
  have pre0 : ∀ t, Steps p.tables e below (s₁.setTop (mkF m 0 #[.val (.double d), .second] [])) t → Steps p.tables e below (s₁.setTop (entryFrame m #[(.double d)] 2)) t := fun t k => castTop (ef_1 m d) k
  obtain ⟨fs, hr, hrun, hended, hW, hsame⟩ := X0.leave (v := some (.int (1 : Int32))) (fun h => by rw [Bd.returns] at h; cases h)
  refine ⟨_, _, pre0 _ ?_, hrun, hended, _, _, rfl, ?_, ⟨_, rfl⟩, hW, hsame.mono (by decide) (by decide)⟩
  · show Steps p.tables e below (s₁.setTop (mkF m 0 #[.val (.double d), .second] [])) _
    refine XS.dloadN X0.here hx rfl (hb hby d1_0) rfl ?_
    show Steps p.tables e below (s₁.setTop (mkF m 1 #[.val (.double d), .second] [(.double d)])) _
    refine XS.dconst0 X0.here hx rfl (hb hby d1_1) rfl ?_
    show Steps p.tables e below (s₁.setTop (mkF m 2 #[.val (.double d), .second] [(.double FP.dconst0), (.double d)])) _
    refine XS.dcmpS X0.here hx rfl (hb hby d1_2) rfl rfl ?_
    show Steps p.tables e below (s₁.setTop (mkF m 3 #[.val (.double d), .second] [(.int (cmpValue (FP.dcmp d FP.dconst0) .l))])) _
    refine XS.ifNo X0.here hx rfl (hb hby d1_3) rfl ((if0 _ _).trans (flt hc3).1) ?_
    show Steps p.tables e below (s₁.setTop (mkF m 6 #[.val (.double d), .second] [])) _
    refine XS.dloadN X0.here hx rfl (hb hby d1_6) rfl ?_
    show Steps p.tables e below (s₁.setTop (mkF m 7 #[.val (.double d), .second] [(.double d)])) _
    refine X0.ldc2DoubleC hx hown (mvT hZ (hw _ (List.mem_of_getElem? (i := 7) rfl))) (g := (mkF m 7 #[.val (.double d), .second] [(.double d)])) rfl (hb hby d1_7) _ ?_
    show Steps p.tables e below (s₁.setTop (mkF m 10 #[.val (.double d), .second] [(.double (4786511204640096256 : UInt64)), (.double d)])) _
    refine XS.dcmpS X0.here hx rfl (hb hby d1_10) rfl rfl ?_
    show Steps p.tables e below (s₁.setTop (mkF m 11 #[.val (.double d), .second] [(.int (cmpValue (FP.dcmp d (4786511204640096256 : UInt64)) .g))])) _
    refine XS.ifNo X0.here hx rfl (hb hby d1_11) rfl ((if0 _ _).trans (flt hc11).2.2.1) ?_
    show Steps p.tables e below (s₁.setTop (mkF m 14 #[.val (.double d), .second] [])) _
    refine XS.iconst X0.here hx rfl (hb hby d1_14) ?_
    show Steps p.tables e below (s₁.setTop (mkF m 15 #[.val (.double d), .second] [(.int (1 : Int32))])) _
    refine XS.goto X0.here hx rfl (pc0 := 15) (pc' := 19) rfl (hb hby d1_15) (by decide) (by decide) ?_
    show Steps p.tables e below (s₁.setTop (mkF m 19 #[.val (.double d), .second] [(.int (1 : Int32))])) _
    exact retN X0 hx (t := .boolean) Bd.returns (by simp) (hb hby d1_19) hr
  · show Q1 d h0 n0 _ s₁.heap _
    rw [e0]
    exact ⟨by rw [isC, if_neg hc3, if_neg hc11], N0, rfl⟩
set_option maxRecDepth 65536 in
set_option maxHeartbeats 40000000 in
theorem rm1 (l : Launch) (Z : State) (a0 : Array Value) (hw : ∀ d ∈ tables_1, d.before a0 Z = true) (ws : List Jvm.Cond) (d : UInt64)  (h0 : Heap) (n0 : Nat) (Z0 : n0 ≤ h0.size)   :
    MetFree l (⟨"com/example/metered_demand/metereddemand/model/Measurement", "isCount", "(D)Z"⟩ : MethodName) (head1 (Jvm.Cond.code (⟨"com/example/metered_demand/metereddemand/model/Measurement", "isCount", "(D)Z"⟩ : MethodName) prog_11_method_4_code 2 (some .boolean) :: ws) ({ frames := 0, cells := 0, slots := 0, locals := 0 } : Room)) (fun aa U => aa = #[(.double d)] ∧ Z.Warmed39 U.vm ∧ U.heap = h0) (fun _ _ _ _ _ => True) (fun _ U o U' => ∃ v L, o = .returned v ∧ Q1 d h0 n0 v U'.heap L ∧ FrameEnd U o U' L ({ frames := 0, cells := 0, slots := 0, locals := 0 } : Room).cells ({ frames := 0, cells := 0, slots := 0, locals := 0 } : Room).slots) := by
  by_cases hc3 : cmpValue (FP.dcmp d FP.dconst0) .l < (0 : Int32)
  · exact rm1_a l Z a0 hw ws d h0 n0 Z0 hc3
  · by_cases hc11 : (0 : Int32) < cmpValue (FP.dcmp d (4786511204640096256 : UInt64)) .g
    · exact rm1_b l Z a0 hw ws d h0 n0 Z0 hc3 hc11
    · exact rm1_c l Z a0 hw ws d h0 n0 Z0 hc3 hc11
def Q0 (a : Int64) (fl : Int32) (h0 : Heap) (n0 : Nat) (v : Option Value) (h : Heap) (L : List Loc) : Prop := v = some (.int 1) ∧ Fr n0 L
set_option maxRecDepth 65536 in
set_option maxHeartbeats 40000000 in
theorem rm0_00t (l : Launch) (Z : State) (a0 : Array Value) (hw : ∀ d ∈ tables_1, d.before a0 Z = true) (ws : List Jvm.Cond) (a : Int64) (fl : Int32)  (h0 : Heap) (n0 : Nat) (Z0 : n0 ≤ h0.size)  (hc9 : (fl &&& (1 : Int32)) = (0 : Int32)) (hc22 : (fl &&& (2 : Int32)) = (0 : Int32)) (hc108 : (lcmpW (a % (4000000000000 : Int64)) (0 : Int64)) < (0 : Int32)) (hc134 : (isC (FP.l2d (a % (4000000000000 : Int64)))) = (0 : Int32)) :
    MetFree l x (head1 (Jvm.Cond.code x code maxLocals ret :: ws) room_1) (fun aa U => aa = #[(.long a), (.int fl)] ∧ Z.Warmed39 U.vm ∧ U.heap = h0) (fun _ _ _ _ _ => True) (fun _ U o U' => ∃ v L, o = .returned v ∧ Q0 a fl h0 n0 v U'.heap L ∧ FrameEnd U o U' L room_1.cells room_1.slots) := by
  refine MetFree.of_bodySF (plainFor_of_name pn_0) hisR ?_
  intro p e s m args below meth c s₁ Bd hml0 hP hK
  obtain ⟨rfl, hZ, hh⟩ := hP
  have hx := Bd.exec
  have hby := Bd.bytes
  have hml : c.maxLocals = 12 := hml0
  have hown : s.vm.findClass "com/example/metered_demand/metereddemand/model/MeasurementIsCountPinLaw" = some m.cls := findClass_of_methodNamed Bd.named
  have hnm := (name_of_methodNamed Bd.named Bd.method).1
  have X0 : Stand p l e room_1 s m #[(.long a), (.int fl)] below meth c s₁ [] 0 0 := Stand.of_body Bd
  have e0 : s₁.heap = h0 := by rw [← hh, Bd.state]; rfl
  have N0 := Fr.nil n0
  have pre0 : ∀ t, Steps p.tables e below (s₁.setTop (mkF m 0 #[.val (.long a), .second, .val (.int fl), .unset, .unset, .unset, .unset, .unset, .unset, .unset, .unset, .unset] [])) t → Steps p.tables e below (s₁.setTop (entryFrame m #[(.long a), (.int fl)] maxLocals)) t := fun t k => castTop (ef_0 m a fl) k
  obtain ⟨_, _, ⟨T1, L1, k1, n1⟩, -, X1, ⟨Lc1, hQ1, l1, y1, z1⟩, st1⟩ := Jvm.LawKit.callS X0 hx (y := (⟨"com/example/metered_demand/metereddemand/model/Measurement", "isCount", "(D)Z"⟩ : MethodName)) hown (mvT hZ (hw _ (List.mem_of_getElem? (i := 3) rfl))) (mvT hZ (hw _ (List.mem_of_getElem? (i := 4) rfl))) (mvT hZ (hw _ (List.mem_of_getElem? (i := 5) rfl))) (mvT hZ (hw _ (List.mem_of_getElem? (i := 6) rfl))) (by decide) (backOf (W := 0) (rm1 l Z a0 hw [] (FP.l2d (a % (4000000000000 : Int64))) h0 n0 Z0) hZ (hw _ (List.mem_of_getElem? (i := 6) rfl)) (hw _ (List.mem_of_getElem? (i := 5) rfl)) (by decide) (by decide)) (g := (mkF m 129 #[.val (.long a), .second, .val (.int fl), .val (.long (a % (4000000000000 : Int64))), .second, .val (.int (0 : Int32)), .val (.int (0 : Int32)), .val (.long (a % (4000000000000 : Int64))), .second, .val (.double (FP.l2d (a % (4000000000000 : Int64)))), .second, .val (.int (0 : Int32))] [(.double (FP.l2d (a % (4000000000000 : Int64))))])) rfl (by rw [hml]; rfl) (argsL := [(.double (FP.l2d (a % (4000000000000 : Int64))))]) (rest := []) (lenOf pd_0 rfl) rfl (by show 2 * 0 + _ ≤ _; exact Nat.le_of_eq rfl) (hb hby at_129) (fun _ _ => ⟨rfl, e0, (by decide : 0 + 0 ≤ _), (by decide : 0 + 0 ≤ _)⟩)
  dsimp only [Pt.U, Pt.locs, Pt.cells, Pt.slots] at X1 l1 y1 z1 st1 hQ1
  subst l1 y1 z1
  obtain ⟨rfl, N1q, e1⟩ := hQ1
  have N1 := Fr.app N0 N1q
  obtain ⟨fs, hr, hrun, hended, hW, hsame⟩ := X1.leave (v := some (.int (1 : Int32))) (fun h => by rw [Bd.returns] at h; cases h)
  refine ⟨_, _, pre0 _ ?_, hrun, hended, _, _, rfl, ?_, ⟨_, rfl⟩, hW, hsame.mono (by decide) (by decide)⟩
  · show Steps p.tables e below (s₁.setTop (mkF m 0 #[.val (.long a), .second, .val (.int fl), .unset, .unset, .unset, .unset, .unset, .unset, .unset, .unset, .unset] [])) _
    refine XS.lloadN X0.here hx rfl (hb hby at_0) rfl ?_
    show Steps p.tables e below (s₁.setTop (mkF m 1 #[.val (.long a), .second, .val (.int fl), .unset, .unset, .unset, .unset, .unset, .unset, .unset, .unset, .unset] [(.long a)])) _
    refine X0.ldc2Long hx hown (mvT hZ (hw _ (List.mem_of_getElem? (i := 0) rfl))) (g := (mkF m 1 #[.val (.long a), .second, .val (.int fl), .unset, .unset, .unset, .unset, .unset, .unset, .unset, .unset, .unset] [(.long a)])) rfl (hb hby at_1) _ ?_
    show Steps p.tables e below (s₁.setTop (mkF m 4 #[.val (.long a), .second, .val (.int fl), .unset, .unset, .unset, .unset, .unset, .unset, .unset, .unset, .unset] [(.long (4000000000000 : Int64)), (.long a)])) _
    refine gwLrem X0.here hx rfl (hb hby at_4) rfl (by decide : ¬ ((4000000000000 : Int64) = (0 : Int64))) ?_
    show Steps p.tables e below (s₁.setTop (mkF m 5 #[.val (.long a), .second, .val (.int fl), .unset, .unset, .unset, .unset, .unset, .unset, .unset, .unset, .unset] [(.long (a % (4000000000000 : Int64)))])) _
    refine XS.lstoreN X0.here hx rfl (hb hby at_5) rfl (l' := #[.val (.long a), .second, .val (.int fl), .val (.long (a % (4000000000000 : Int64))), .second, .unset, .unset, .unset, .unset, .unset, .unset, .unset]) rfl ?_
    show Steps p.tables e below (s₁.setTop (mkF m 6 #[.val (.long a), .second, .val (.int fl), .val (.long (a % (4000000000000 : Int64))), .second, .unset, .unset, .unset, .unset, .unset, .unset, .unset] [])) _
    refine XS.iloadN X0.here hx rfl (hb hby at_6) rfl ?_
    show Steps p.tables e below (s₁.setTop (mkF m 7 #[.val (.long a), .second, .val (.int fl), .val (.long (a % (4000000000000 : Int64))), .second, .unset, .unset, .unset, .unset, .unset, .unset, .unset] [(.int fl)])) _
    refine XS.iconst X0.here hx rfl (hb hby at_7) ?_
    show Steps p.tables e below (s₁.setTop (mkF m 8 #[.val (.long a), .second, .val (.int fl), .val (.long (a % (4000000000000 : Int64))), .second, .unset, .unset, .unset, .unset, .unset, .unset, .unset] [(.int (1 : Int32)), (.int fl)])) _
    refine XS.iand X0.here hx rfl (hb hby at_8) rfl ?_
    show Steps p.tables e below (s₁.setTop (mkF m 9 #[.val (.long a), .second, .val (.int fl), .val (.long (a % (4000000000000 : Int64))), .second, .unset, .unset, .unset, .unset, .unset, .unset, .unset] [(.int (fl &&& (1 : Int32)))])) _
    refine XS.ifYes X0.here hx rfl (pc0 := 9) (pc' := 16) rfl (hb hby at_9) rfl ((if0 _ _).trans (teq hc9).1) (by decide) (by decide) ?_
    show Steps p.tables e below (s₁.setTop (mkF m 16 #[.val (.long a), .second, .val (.int fl), .val (.long (a % (4000000000000 : Int64))), .second, .unset, .unset, .unset, .unset, .unset, .unset, .unset] [])) _
    refine XS.iconst X0.here hx rfl (hb hby at_16) ?_
    show Steps p.tables e below (s₁.setTop (mkF m 17 #[.val (.long a), .second, .val (.int fl), .val (.long (a % (4000000000000 : Int64))), .second, .unset, .unset, .unset, .unset, .unset, .unset, .unset] [(.int (0 : Int32))])) _
    refine XS.istore X0.here hx rfl (hb hby at_17) rfl (l' := #[.val (.long a), .second, .val (.int fl), .val (.long (a % (4000000000000 : Int64))), .second, .val (.int (0 : Int32)), .unset, .unset, .unset, .unset, .unset, .unset]) rfl ?_
    show Steps p.tables e below (s₁.setTop (mkF m 19 #[.val (.long a), .second, .val (.int fl), .val (.long (a % (4000000000000 : Int64))), .second, .val (.int (0 : Int32)), .unset, .unset, .unset, .unset, .unset, .unset] [])) _
    refine XS.iloadN X0.here hx rfl (hb hby at_19) rfl ?_
    show Steps p.tables e below (s₁.setTop (mkF m 20 #[.val (.long a), .second, .val (.int fl), .val (.long (a % (4000000000000 : Int64))), .second, .val (.int (0 : Int32)), .unset, .unset, .unset, .unset, .unset, .unset] [(.int fl)])) _
    refine XS.iconst X0.here hx rfl (hb hby at_20) ?_
    show Steps p.tables e below (s₁.setTop (mkF m 21 #[.val (.long a), .second, .val (.int fl), .val (.long (a % (4000000000000 : Int64))), .second, .val (.int (0 : Int32)), .unset, .unset, .unset, .unset, .unset, .unset] [(.int (2 : Int32)), (.int fl)])) _
    refine XS.iand X0.here hx rfl (hb hby at_21) rfl ?_
    show Steps p.tables e below (s₁.setTop (mkF m 22 #[.val (.long a), .second, .val (.int fl), .val (.long (a % (4000000000000 : Int64))), .second, .val (.int (0 : Int32)), .unset, .unset, .unset, .unset, .unset, .unset] [(.int (fl &&& (2 : Int32)))])) _
    refine XS.ifYes X0.here hx rfl (pc0 := 22) (pc' := 29) rfl (hb hby at_22) rfl ((if0 _ _).trans (teq hc22).1) (by decide) (by decide) ?_
    show Steps p.tables e below (s₁.setTop (mkF m 29 #[.val (.long a), .second, .val (.int fl), .val (.long (a % (4000000000000 : Int64))), .second, .val (.int (0 : Int32)), .unset, .unset, .unset, .unset, .unset, .unset] [])) _
    refine XS.iconst X0.here hx rfl (hb hby at_29) ?_
    show Steps p.tables e below (s₁.setTop (mkF m 30 #[.val (.long a), .second, .val (.int fl), .val (.long (a % (4000000000000 : Int64))), .second, .val (.int (0 : Int32)), .unset, .unset, .unset, .unset, .unset, .unset] [(.int (0 : Int32))])) _
    refine XS.istore X0.here hx rfl (hb hby at_30) rfl (l' := #[.val (.long a), .second, .val (.int fl), .val (.long (a % (4000000000000 : Int64))), .second, .val (.int (0 : Int32)), .val (.int (0 : Int32)), .unset, .unset, .unset, .unset, .unset]) rfl ?_
    show Steps p.tables e below (s₁.setTop (mkF m 32 #[.val (.long a), .second, .val (.int fl), .val (.long (a % (4000000000000 : Int64))), .second, .val (.int (0 : Int32)), .val (.int (0 : Int32)), .unset, .unset, .unset, .unset, .unset] [])) _
    refine XS.iload X0.here hx rfl (hb hby at_32) rfl ?_
    show Steps p.tables e below (s₁.setTop (mkF m 34 #[.val (.long a), .second, .val (.int fl), .val (.long (a % (4000000000000 : Int64))), .second, .val (.int (0 : Int32)), .val (.int (0 : Int32)), .unset, .unset, .unset, .unset, .unset] [(.int (0 : Int32))])) _
    refine XS.ifYes X0.here hx rfl (pc0 := 34) (pc' := 42) rfl (hb hby at_34) rfl ((if0 _ _).trans (teq (rfl : (0 : Int32) = (0 : Int32))).1) (by decide) (by decide) ?_
    show Steps p.tables e below (s₁.setTop (mkF m 42 #[.val (.long a), .second, .val (.int fl), .val (.long (a % (4000000000000 : Int64))), .second, .val (.int (0 : Int32)), .val (.int (0 : Int32)), .unset, .unset, .unset, .unset, .unset] [])) _
    refine XS.lloadN X0.here hx rfl (hb hby at_42) rfl ?_
    show Steps p.tables e below (s₁.setTop (mkF m 43 #[.val (.long a), .second, .val (.int fl), .val (.long (a % (4000000000000 : Int64))), .second, .val (.int (0 : Int32)), .val (.int (0 : Int32)), .unset, .unset, .unset, .unset, .unset] [(.long (a % (4000000000000 : Int64)))])) _
    refine XS.lstore X0.here hx rfl (hb hby at_43) rfl (l' := #[.val (.long a), .second, .val (.int fl), .val (.long (a % (4000000000000 : Int64))), .second, .val (.int (0 : Int32)), .val (.int (0 : Int32)), .val (.long (a % (4000000000000 : Int64))), .second, .unset, .unset, .unset]) rfl ?_
    show Steps p.tables e below (s₁.setTop (mkF m 45 #[.val (.long a), .second, .val (.int fl), .val (.long (a % (4000000000000 : Int64))), .second, .val (.int (0 : Int32)), .val (.int (0 : Int32)), .val (.long (a % (4000000000000 : Int64))), .second, .unset, .unset, .unset] [])) _
    refine XS.iload X0.here hx rfl (hb hby at_45) rfl ?_
    show Steps p.tables e below (s₁.setTop (mkF m 47 #[.val (.long a), .second, .val (.int fl), .val (.long (a % (4000000000000 : Int64))), .second, .val (.int (0 : Int32)), .val (.int (0 : Int32)), .val (.long (a % (4000000000000 : Int64))), .second, .unset, .unset, .unset] [(.int (0 : Int32))])) _
    refine XS.ifYes X0.here hx rfl (pc0 := 47) (pc' := 56) rfl (hb hby at_47) rfl ((if0 _ _).trans (teq (rfl : (0 : Int32) = (0 : Int32))).1) (by decide) (by decide) ?_
    show Steps p.tables e below (s₁.setTop (mkF m 56 #[.val (.long a), .second, .val (.int fl), .val (.long (a % (4000000000000 : Int64))), .second, .val (.int (0 : Int32)), .val (.int (0 : Int32)), .val (.long (a % (4000000000000 : Int64))), .second, .unset, .unset, .unset] [])) _
    refine XS.lloadN X0.here hx rfl (hb hby at_56) rfl ?_
    show Steps p.tables e below (s₁.setTop (mkF m 57 #[.val (.long a), .second, .val (.int fl), .val (.long (a % (4000000000000 : Int64))), .second, .val (.int (0 : Int32)), .val (.int (0 : Int32)), .val (.long (a % (4000000000000 : Int64))), .second, .unset, .unset, .unset] [(.long (a % (4000000000000 : Int64)))])) _
    refine XS.l2dS X0.here hx rfl (hb hby at_57) rfl rfl ?_
    show Steps p.tables e below (s₁.setTop (mkF m 58 #[.val (.long a), .second, .val (.int fl), .val (.long (a % (4000000000000 : Int64))), .second, .val (.int (0 : Int32)), .val (.int (0 : Int32)), .val (.long (a % (4000000000000 : Int64))), .second, .unset, .unset, .unset] [(.double (FP.l2d (a % (4000000000000 : Int64))))])) _
    refine XS.dstore X0.here hx rfl (hb hby at_58) rfl (l' := #[.val (.long a), .second, .val (.int fl), .val (.long (a % (4000000000000 : Int64))), .second, .val (.int (0 : Int32)), .val (.int (0 : Int32)), .val (.long (a % (4000000000000 : Int64))), .second, .val (.double (FP.l2d (a % (4000000000000 : Int64)))), .second, .unset]) rfl ?_
    show Steps p.tables e below (s₁.setTop (mkF m 60 #[.val (.long a), .second, .val (.int fl), .val (.long (a % (4000000000000 : Int64))), .second, .val (.int (0 : Int32)), .val (.int (0 : Int32)), .val (.long (a % (4000000000000 : Int64))), .second, .val (.double (FP.l2d (a % (4000000000000 : Int64)))), .second, .unset] [])) _
    refine XS.iload X0.here hx rfl (hb hby at_60) rfl ?_
    show Steps p.tables e below (s₁.setTop (mkF m 62 #[.val (.long a), .second, .val (.int fl), .val (.long (a % (4000000000000 : Int64))), .second, .val (.int (0 : Int32)), .val (.int (0 : Int32)), .val (.long (a % (4000000000000 : Int64))), .second, .val (.double (FP.l2d (a % (4000000000000 : Int64)))), .second, .unset] [(.int (0 : Int32))])) _
    refine XS.ifYes X0.here hx rfl (pc0 := 62) (pc' := 73) rfl (hb hby at_62) rfl ((if0 _ _).trans (teq (rfl : (0 : Int32) = (0 : Int32))).1) (by decide) (by decide) ?_
    show Steps p.tables e below (s₁.setTop (mkF m 73 #[.val (.long a), .second, .val (.int fl), .val (.long (a % (4000000000000 : Int64))), .second, .val (.int (0 : Int32)), .val (.int (0 : Int32)), .val (.long (a % (4000000000000 : Int64))), .second, .val (.double (FP.l2d (a % (4000000000000 : Int64)))), .second, .unset] [])) _
    refine XS.iload X0.here hx rfl (hb hby at_73) rfl ?_
    show Steps p.tables e below (s₁.setTop (mkF m 75 #[.val (.long a), .second, .val (.int fl), .val (.long (a % (4000000000000 : Int64))), .second, .val (.int (0 : Int32)), .val (.int (0 : Int32)), .val (.long (a % (4000000000000 : Int64))), .second, .val (.double (FP.l2d (a % (4000000000000 : Int64)))), .second, .unset] [(.int (0 : Int32))])) _
    refine XS.ifYes X0.here hx rfl (pc0 := 75) (pc' := 104) rfl (hb hby at_75) rfl ((if0 _ _).trans (teq (rfl : (0 : Int32) = (0 : Int32))).1) (by decide) (by decide) ?_
    show Steps p.tables e below (s₁.setTop (mkF m 104 #[.val (.long a), .second, .val (.int fl), .val (.long (a % (4000000000000 : Int64))), .second, .val (.int (0 : Int32)), .val (.int (0 : Int32)), .val (.long (a % (4000000000000 : Int64))), .second, .val (.double (FP.l2d (a % (4000000000000 : Int64)))), .second, .unset] [])) _
    refine XS.lload X0.here hx rfl (hb hby at_104) rfl ?_
    show Steps p.tables e below (s₁.setTop (mkF m 106 #[.val (.long a), .second, .val (.int fl), .val (.long (a % (4000000000000 : Int64))), .second, .val (.int (0 : Int32)), .val (.int (0 : Int32)), .val (.long (a % (4000000000000 : Int64))), .second, .val (.double (FP.l2d (a % (4000000000000 : Int64)))), .second, .unset] [(.long (a % (4000000000000 : Int64)))])) _
    refine XS.lconst X0.here hx rfl (hb hby at_106) ?_
    show Steps p.tables e below (s₁.setTop (mkF m 107 #[.val (.long a), .second, .val (.int fl), .val (.long (a % (4000000000000 : Int64))), .second, .val (.int (0 : Int32)), .val (.int (0 : Int32)), .val (.long (a % (4000000000000 : Int64))), .second, .val (.double (FP.l2d (a % (4000000000000 : Int64)))), .second, .unset] [(.long (0 : Int64)), (.long (a % (4000000000000 : Int64)))])) _
    refine XS.lcmp X0.here hx rfl (hb hby at_107) rfl ?_
    show Steps p.tables e below (s₁.setTop (mkF m 108 #[.val (.long a), .second, .val (.int fl), .val (.long (a % (4000000000000 : Int64))), .second, .val (.int (0 : Int32)), .val (.int (0 : Int32)), .val (.long (a % (4000000000000 : Int64))), .second, .val (.double (FP.l2d (a % (4000000000000 : Int64)))), .second, .unset] [(.int (lcmpW (a % (4000000000000 : Int64)) (0 : Int64)))])) _
    refine XS.ifYes X0.here hx rfl (pc0 := 108) (pc' := 124) rfl (hb hby at_108) rfl ((if0 _ _).trans (tlt hc108).1) (by decide) (by decide) ?_
    show Steps p.tables e below (s₁.setTop (mkF m 124 #[.val (.long a), .second, .val (.int fl), .val (.long (a % (4000000000000 : Int64))), .second, .val (.int (0 : Int32)), .val (.int (0 : Int32)), .val (.long (a % (4000000000000 : Int64))), .second, .val (.double (FP.l2d (a % (4000000000000 : Int64)))), .second, .unset] [])) _
    refine XS.iconst X0.here hx rfl (hb hby at_124) ?_
    show Steps p.tables e below (s₁.setTop (mkF m 125 #[.val (.long a), .second, .val (.int fl), .val (.long (a % (4000000000000 : Int64))), .second, .val (.int (0 : Int32)), .val (.int (0 : Int32)), .val (.long (a % (4000000000000 : Int64))), .second, .val (.double (FP.l2d (a % (4000000000000 : Int64)))), .second, .unset] [(.int (0 : Int32))])) _
    refine XS.istore X0.here hx rfl (hb hby at_125) rfl (l' := #[.val (.long a), .second, .val (.int fl), .val (.long (a % (4000000000000 : Int64))), .second, .val (.int (0 : Int32)), .val (.int (0 : Int32)), .val (.long (a % (4000000000000 : Int64))), .second, .val (.double (FP.l2d (a % (4000000000000 : Int64)))), .second, .val (.int (0 : Int32))]) rfl ?_
    show Steps p.tables e below (s₁.setTop (mkF m 127 #[.val (.long a), .second, .val (.int fl), .val (.long (a % (4000000000000 : Int64))), .second, .val (.int (0 : Int32)), .val (.int (0 : Int32)), .val (.long (a % (4000000000000 : Int64))), .second, .val (.double (FP.l2d (a % (4000000000000 : Int64)))), .second, .val (.int (0 : Int32))] [])) _
    refine XS.dload X0.here hx rfl (hb hby at_127) rfl ?_
    show Steps p.tables e below (s₁.setTop (mkF m 129 #[.val (.long a), .second, .val (.int fl), .val (.long (a % (4000000000000 : Int64))), .second, .val (.int (0 : Int32)), .val (.int (0 : Int32)), .val (.long (a % (4000000000000 : Int64))), .second, .val (.double (FP.l2d (a % (4000000000000 : Int64)))), .second, .val (.int (0 : Int32))] [(.double (FP.l2d (a % (4000000000000 : Int64))))])) _
    refine st1 _ ?_
    show Steps p.tables e below (T1.setTop (mkF m 132 #[.val (.long a), .second, .val (.int fl), .val (.long (a % (4000000000000 : Int64))), .second, .val (.int (0 : Int32)), .val (.int (0 : Int32)), .val (.long (a % (4000000000000 : Int64))), .second, .val (.double (FP.l2d (a % (4000000000000 : Int64)))), .second, .val (.int (0 : Int32))] [(.int (isC (FP.l2d (a % (4000000000000 : Int64)))))])) _
    refine XS.iload X1.here hx rfl (hb hby at_132) rfl ?_
    show Steps p.tables e below (T1.setTop (mkF m 134 #[.val (.long a), .second, .val (.int fl), .val (.long (a % (4000000000000 : Int64))), .second, .val (.int (0 : Int32)), .val (.int (0 : Int32)), .val (.long (a % (4000000000000 : Int64))), .second, .val (.double (FP.l2d (a % (4000000000000 : Int64)))), .second, .val (.int (0 : Int32))] [(.int (0 : Int32)), (.int (isC (FP.l2d (a % (4000000000000 : Int64)))))])) _
    refine XS.icmpNo X1.here hx rfl (hb hby at_134) rfl (teq hc134).2 ?_
    show Steps p.tables e below (T1.setTop (mkF m 137 #[.val (.long a), .second, .val (.int fl), .val (.long (a % (4000000000000 : Int64))), .second, .val (.int (0 : Int32)), .val (.int (0 : Int32)), .val (.long (a % (4000000000000 : Int64))), .second, .val (.double (FP.l2d (a % (4000000000000 : Int64)))), .second, .val (.int (0 : Int32))] [])) _
    refine XS.iconst X1.here hx rfl (hb hby at_137) ?_
    show Steps p.tables e below (T1.setTop (mkF m 138 #[.val (.long a), .second, .val (.int fl), .val (.long (a % (4000000000000 : Int64))), .second, .val (.int (0 : Int32)), .val (.int (0 : Int32)), .val (.long (a % (4000000000000 : Int64))), .second, .val (.double (FP.l2d (a % (4000000000000 : Int64)))), .second, .val (.int (0 : Int32))] [(.int (1 : Int32))])) _
    refine XS.goto X1.here hx rfl (pc0 := 138) (pc' := 142) rfl (hb hby at_138) (by decide) (by decide) ?_
    show Steps p.tables e below (T1.setTop (mkF m 142 #[.val (.long a), .second, .val (.int fl), .val (.long (a % (4000000000000 : Int64))), .second, .val (.int (0 : Int32)), .val (.int (0 : Int32)), .val (.long (a % (4000000000000 : Int64))), .second, .val (.double (FP.l2d (a % (4000000000000 : Int64)))), .second, .val (.int (0 : Int32))] [(.int (1 : Int32))])) _
    exact retN X1 hx (t := .boolean) Bd.returns (by simp) (hb hby at_142) hr
  · show Q0 a fl h0 n0 _ T1.heap _
    rw [e1]
    exact ⟨rfl, N1⟩
set_option maxRecDepth 65536 in
set_option maxHeartbeats 40000000 in
theorem rm0_00ft (l : Launch) (Z : State) (a0 : Array Value) (hw : ∀ d ∈ tables_1, d.before a0 Z = true) (ws : List Jvm.Cond) (a : Int64) (fl : Int32)  (h0 : Heap) (n0 : Nat) (Z0 : n0 ≤ h0.size)  (hc9 : (fl &&& (1 : Int32)) = (0 : Int32)) (hc22 : (fl &&& (2 : Int32)) = (0 : Int32)) (hc108 : ¬ ((lcmpW (a % (4000000000000 : Int64)) (0 : Int64)) < (0 : Int32))) (hc117 : (0 : Int32) < (lcmpW (a % (4000000000000 : Int64)) (1000000000000 : Int64))) (hc134 : (isC (FP.l2d (a % (4000000000000 : Int64)))) = (0 : Int32)) :
    MetFree l x (head1 (Jvm.Cond.code x code maxLocals ret :: ws) room_1) (fun aa U => aa = #[(.long a), (.int fl)] ∧ Z.Warmed39 U.vm ∧ U.heap = h0) (fun _ _ _ _ _ => True) (fun _ U o U' => ∃ v L, o = .returned v ∧ Q0 a fl h0 n0 v U'.heap L ∧ FrameEnd U o U' L room_1.cells room_1.slots) := by
  refine MetFree.of_bodySF (plainFor_of_name pn_0) hisR ?_
  intro p e s m args below meth c s₁ Bd hml0 hP hK
  obtain ⟨rfl, hZ, hh⟩ := hP
  have hx := Bd.exec
  have hby := Bd.bytes
  have hml : c.maxLocals = 12 := hml0
  have hown : s.vm.findClass "com/example/metered_demand/metereddemand/model/MeasurementIsCountPinLaw" = some m.cls := findClass_of_methodNamed Bd.named
  have hnm := (name_of_methodNamed Bd.named Bd.method).1
  have X0 : Stand p l e room_1 s m #[(.long a), (.int fl)] below meth c s₁ [] 0 0 := Stand.of_body Bd
  have e0 : s₁.heap = h0 := by rw [← hh, Bd.state]; rfl
  have N0 := Fr.nil n0
  have pre0 : ∀ t, Steps p.tables e below (s₁.setTop (mkF m 0 #[.val (.long a), .second, .val (.int fl), .unset, .unset, .unset, .unset, .unset, .unset, .unset, .unset, .unset] [])) t → Steps p.tables e below (s₁.setTop (entryFrame m #[(.long a), (.int fl)] maxLocals)) t := fun t k => castTop (ef_0 m a fl) k
  obtain ⟨_, _, ⟨T2, L2, k2, n2⟩, -, X2, ⟨Lc2, hQ2, l2, y2, z2⟩, st2⟩ := Jvm.LawKit.callS X0 hx (y := (⟨"com/example/metered_demand/metereddemand/model/Measurement", "isCount", "(D)Z"⟩ : MethodName)) hown (mvT hZ (hw _ (List.mem_of_getElem? (i := 3) rfl))) (mvT hZ (hw _ (List.mem_of_getElem? (i := 4) rfl))) (mvT hZ (hw _ (List.mem_of_getElem? (i := 5) rfl))) (mvT hZ (hw _ (List.mem_of_getElem? (i := 6) rfl))) (by decide) (backOf (W := 0) (rm1 l Z a0 hw [] (FP.l2d (a % (4000000000000 : Int64))) h0 n0 Z0) hZ (hw _ (List.mem_of_getElem? (i := 6) rfl)) (hw _ (List.mem_of_getElem? (i := 5) rfl)) (by decide) (by decide)) (g := (mkF m 129 #[.val (.long a), .second, .val (.int fl), .val (.long (a % (4000000000000 : Int64))), .second, .val (.int (0 : Int32)), .val (.int (0 : Int32)), .val (.long (a % (4000000000000 : Int64))), .second, .val (.double (FP.l2d (a % (4000000000000 : Int64)))), .second, .val (.int (0 : Int32))] [(.double (FP.l2d (a % (4000000000000 : Int64))))])) rfl (by rw [hml]; rfl) (argsL := [(.double (FP.l2d (a % (4000000000000 : Int64))))]) (rest := []) (lenOf pd_0 rfl) rfl (by show 2 * 0 + _ ≤ _; exact Nat.le_of_eq rfl) (hb hby at_129) (fun _ _ => ⟨rfl, e0, (by decide : 0 + 0 ≤ _), (by decide : 0 + 0 ≤ _)⟩)
  dsimp only [Pt.U, Pt.locs, Pt.cells, Pt.slots] at X2 l2 y2 z2 st2 hQ2
  subst l2 y2 z2
  obtain ⟨rfl, N2q, e2⟩ := hQ2
  have N2 := Fr.app N0 N2q
  obtain ⟨fs, hr, hrun, hended, hW, hsame⟩ := X2.leave (v := some (.int (1 : Int32))) (fun h => by rw [Bd.returns] at h; cases h)
  refine ⟨_, _, pre0 _ ?_, hrun, hended, _, _, rfl, ?_, ⟨_, rfl⟩, hW, hsame.mono (by decide) (by decide)⟩
  · show Steps p.tables e below (s₁.setTop (mkF m 0 #[.val (.long a), .second, .val (.int fl), .unset, .unset, .unset, .unset, .unset, .unset, .unset, .unset, .unset] [])) _
    refine XS.lloadN X0.here hx rfl (hb hby at_0) rfl ?_
    show Steps p.tables e below (s₁.setTop (mkF m 1 #[.val (.long a), .second, .val (.int fl), .unset, .unset, .unset, .unset, .unset, .unset, .unset, .unset, .unset] [(.long a)])) _
    refine X0.ldc2Long hx hown (mvT hZ (hw _ (List.mem_of_getElem? (i := 0) rfl))) (g := (mkF m 1 #[.val (.long a), .second, .val (.int fl), .unset, .unset, .unset, .unset, .unset, .unset, .unset, .unset, .unset] [(.long a)])) rfl (hb hby at_1) _ ?_
    show Steps p.tables e below (s₁.setTop (mkF m 4 #[.val (.long a), .second, .val (.int fl), .unset, .unset, .unset, .unset, .unset, .unset, .unset, .unset, .unset] [(.long (4000000000000 : Int64)), (.long a)])) _
    refine gwLrem X0.here hx rfl (hb hby at_4) rfl (by decide : ¬ ((4000000000000 : Int64) = (0 : Int64))) ?_
    show Steps p.tables e below (s₁.setTop (mkF m 5 #[.val (.long a), .second, .val (.int fl), .unset, .unset, .unset, .unset, .unset, .unset, .unset, .unset, .unset] [(.long (a % (4000000000000 : Int64)))])) _
    refine XS.lstoreN X0.here hx rfl (hb hby at_5) rfl (l' := #[.val (.long a), .second, .val (.int fl), .val (.long (a % (4000000000000 : Int64))), .second, .unset, .unset, .unset, .unset, .unset, .unset, .unset]) rfl ?_
    show Steps p.tables e below (s₁.setTop (mkF m 6 #[.val (.long a), .second, .val (.int fl), .val (.long (a % (4000000000000 : Int64))), .second, .unset, .unset, .unset, .unset, .unset, .unset, .unset] [])) _
    refine XS.iloadN X0.here hx rfl (hb hby at_6) rfl ?_
    show Steps p.tables e below (s₁.setTop (mkF m 7 #[.val (.long a), .second, .val (.int fl), .val (.long (a % (4000000000000 : Int64))), .second, .unset, .unset, .unset, .unset, .unset, .unset, .unset] [(.int fl)])) _
    refine XS.iconst X0.here hx rfl (hb hby at_7) ?_
    show Steps p.tables e below (s₁.setTop (mkF m 8 #[.val (.long a), .second, .val (.int fl), .val (.long (a % (4000000000000 : Int64))), .second, .unset, .unset, .unset, .unset, .unset, .unset, .unset] [(.int (1 : Int32)), (.int fl)])) _
    refine XS.iand X0.here hx rfl (hb hby at_8) rfl ?_
    show Steps p.tables e below (s₁.setTop (mkF m 9 #[.val (.long a), .second, .val (.int fl), .val (.long (a % (4000000000000 : Int64))), .second, .unset, .unset, .unset, .unset, .unset, .unset, .unset] [(.int (fl &&& (1 : Int32)))])) _
    refine XS.ifYes X0.here hx rfl (pc0 := 9) (pc' := 16) rfl (hb hby at_9) rfl ((if0 _ _).trans (teq hc9).1) (by decide) (by decide) ?_
    show Steps p.tables e below (s₁.setTop (mkF m 16 #[.val (.long a), .second, .val (.int fl), .val (.long (a % (4000000000000 : Int64))), .second, .unset, .unset, .unset, .unset, .unset, .unset, .unset] [])) _
    refine XS.iconst X0.here hx rfl (hb hby at_16) ?_
    show Steps p.tables e below (s₁.setTop (mkF m 17 #[.val (.long a), .second, .val (.int fl), .val (.long (a % (4000000000000 : Int64))), .second, .unset, .unset, .unset, .unset, .unset, .unset, .unset] [(.int (0 : Int32))])) _
    refine XS.istore X0.here hx rfl (hb hby at_17) rfl (l' := #[.val (.long a), .second, .val (.int fl), .val (.long (a % (4000000000000 : Int64))), .second, .val (.int (0 : Int32)), .unset, .unset, .unset, .unset, .unset, .unset]) rfl ?_
    show Steps p.tables e below (s₁.setTop (mkF m 19 #[.val (.long a), .second, .val (.int fl), .val (.long (a % (4000000000000 : Int64))), .second, .val (.int (0 : Int32)), .unset, .unset, .unset, .unset, .unset, .unset] [])) _
    refine XS.iloadN X0.here hx rfl (hb hby at_19) rfl ?_
    show Steps p.tables e below (s₁.setTop (mkF m 20 #[.val (.long a), .second, .val (.int fl), .val (.long (a % (4000000000000 : Int64))), .second, .val (.int (0 : Int32)), .unset, .unset, .unset, .unset, .unset, .unset] [(.int fl)])) _
    refine XS.iconst X0.here hx rfl (hb hby at_20) ?_
    show Steps p.tables e below (s₁.setTop (mkF m 21 #[.val (.long a), .second, .val (.int fl), .val (.long (a % (4000000000000 : Int64))), .second, .val (.int (0 : Int32)), .unset, .unset, .unset, .unset, .unset, .unset] [(.int (2 : Int32)), (.int fl)])) _
    refine XS.iand X0.here hx rfl (hb hby at_21) rfl ?_
    show Steps p.tables e below (s₁.setTop (mkF m 22 #[.val (.long a), .second, .val (.int fl), .val (.long (a % (4000000000000 : Int64))), .second, .val (.int (0 : Int32)), .unset, .unset, .unset, .unset, .unset, .unset] [(.int (fl &&& (2 : Int32)))])) _
    refine XS.ifYes X0.here hx rfl (pc0 := 22) (pc' := 29) rfl (hb hby at_22) rfl ((if0 _ _).trans (teq hc22).1) (by decide) (by decide) ?_
    show Steps p.tables e below (s₁.setTop (mkF m 29 #[.val (.long a), .second, .val (.int fl), .val (.long (a % (4000000000000 : Int64))), .second, .val (.int (0 : Int32)), .unset, .unset, .unset, .unset, .unset, .unset] [])) _
    refine XS.iconst X0.here hx rfl (hb hby at_29) ?_
    show Steps p.tables e below (s₁.setTop (mkF m 30 #[.val (.long a), .second, .val (.int fl), .val (.long (a % (4000000000000 : Int64))), .second, .val (.int (0 : Int32)), .unset, .unset, .unset, .unset, .unset, .unset] [(.int (0 : Int32))])) _
    refine XS.istore X0.here hx rfl (hb hby at_30) rfl (l' := #[.val (.long a), .second, .val (.int fl), .val (.long (a % (4000000000000 : Int64))), .second, .val (.int (0 : Int32)), .val (.int (0 : Int32)), .unset, .unset, .unset, .unset, .unset]) rfl ?_
    show Steps p.tables e below (s₁.setTop (mkF m 32 #[.val (.long a), .second, .val (.int fl), .val (.long (a % (4000000000000 : Int64))), .second, .val (.int (0 : Int32)), .val (.int (0 : Int32)), .unset, .unset, .unset, .unset, .unset] [])) _
    refine XS.iload X0.here hx rfl (hb hby at_32) rfl ?_
    show Steps p.tables e below (s₁.setTop (mkF m 34 #[.val (.long a), .second, .val (.int fl), .val (.long (a % (4000000000000 : Int64))), .second, .val (.int (0 : Int32)), .val (.int (0 : Int32)), .unset, .unset, .unset, .unset, .unset] [(.int (0 : Int32))])) _
    refine XS.ifYes X0.here hx rfl (pc0 := 34) (pc' := 42) rfl (hb hby at_34) rfl ((if0 _ _).trans (teq (rfl : (0 : Int32) = (0 : Int32))).1) (by decide) (by decide) ?_
    show Steps p.tables e below (s₁.setTop (mkF m 42 #[.val (.long a), .second, .val (.int fl), .val (.long (a % (4000000000000 : Int64))), .second, .val (.int (0 : Int32)), .val (.int (0 : Int32)), .unset, .unset, .unset, .unset, .unset] [])) _
    refine XS.lloadN X0.here hx rfl (hb hby at_42) rfl ?_
    show Steps p.tables e below (s₁.setTop (mkF m 43 #[.val (.long a), .second, .val (.int fl), .val (.long (a % (4000000000000 : Int64))), .second, .val (.int (0 : Int32)), .val (.int (0 : Int32)), .unset, .unset, .unset, .unset, .unset] [(.long (a % (4000000000000 : Int64)))])) _
    refine XS.lstore X0.here hx rfl (hb hby at_43) rfl (l' := #[.val (.long a), .second, .val (.int fl), .val (.long (a % (4000000000000 : Int64))), .second, .val (.int (0 : Int32)), .val (.int (0 : Int32)), .val (.long (a % (4000000000000 : Int64))), .second, .unset, .unset, .unset]) rfl ?_
    show Steps p.tables e below (s₁.setTop (mkF m 45 #[.val (.long a), .second, .val (.int fl), .val (.long (a % (4000000000000 : Int64))), .second, .val (.int (0 : Int32)), .val (.int (0 : Int32)), .val (.long (a % (4000000000000 : Int64))), .second, .unset, .unset, .unset] [])) _
    refine XS.iload X0.here hx rfl (hb hby at_45) rfl ?_
    show Steps p.tables e below (s₁.setTop (mkF m 47 #[.val (.long a), .second, .val (.int fl), .val (.long (a % (4000000000000 : Int64))), .second, .val (.int (0 : Int32)), .val (.int (0 : Int32)), .val (.long (a % (4000000000000 : Int64))), .second, .unset, .unset, .unset] [(.int (0 : Int32))])) _
    refine XS.ifYes X0.here hx rfl (pc0 := 47) (pc' := 56) rfl (hb hby at_47) rfl ((if0 _ _).trans (teq (rfl : (0 : Int32) = (0 : Int32))).1) (by decide) (by decide) ?_
    show Steps p.tables e below (s₁.setTop (mkF m 56 #[.val (.long a), .second, .val (.int fl), .val (.long (a % (4000000000000 : Int64))), .second, .val (.int (0 : Int32)), .val (.int (0 : Int32)), .val (.long (a % (4000000000000 : Int64))), .second, .unset, .unset, .unset] [])) _
    refine XS.lloadN X0.here hx rfl (hb hby at_56) rfl ?_
    show Steps p.tables e below (s₁.setTop (mkF m 57 #[.val (.long a), .second, .val (.int fl), .val (.long (a % (4000000000000 : Int64))), .second, .val (.int (0 : Int32)), .val (.int (0 : Int32)), .val (.long (a % (4000000000000 : Int64))), .second, .unset, .unset, .unset] [(.long (a % (4000000000000 : Int64)))])) _
    refine XS.l2dS X0.here hx rfl (hb hby at_57) rfl rfl ?_
    show Steps p.tables e below (s₁.setTop (mkF m 58 #[.val (.long a), .second, .val (.int fl), .val (.long (a % (4000000000000 : Int64))), .second, .val (.int (0 : Int32)), .val (.int (0 : Int32)), .val (.long (a % (4000000000000 : Int64))), .second, .unset, .unset, .unset] [(.double (FP.l2d (a % (4000000000000 : Int64))))])) _
    refine XS.dstore X0.here hx rfl (hb hby at_58) rfl (l' := #[.val (.long a), .second, .val (.int fl), .val (.long (a % (4000000000000 : Int64))), .second, .val (.int (0 : Int32)), .val (.int (0 : Int32)), .val (.long (a % (4000000000000 : Int64))), .second, .val (.double (FP.l2d (a % (4000000000000 : Int64)))), .second, .unset]) rfl ?_
    show Steps p.tables e below (s₁.setTop (mkF m 60 #[.val (.long a), .second, .val (.int fl), .val (.long (a % (4000000000000 : Int64))), .second, .val (.int (0 : Int32)), .val (.int (0 : Int32)), .val (.long (a % (4000000000000 : Int64))), .second, .val (.double (FP.l2d (a % (4000000000000 : Int64)))), .second, .unset] [])) _
    refine XS.iload X0.here hx rfl (hb hby at_60) rfl ?_
    show Steps p.tables e below (s₁.setTop (mkF m 62 #[.val (.long a), .second, .val (.int fl), .val (.long (a % (4000000000000 : Int64))), .second, .val (.int (0 : Int32)), .val (.int (0 : Int32)), .val (.long (a % (4000000000000 : Int64))), .second, .val (.double (FP.l2d (a % (4000000000000 : Int64)))), .second, .unset] [(.int (0 : Int32))])) _
    refine XS.ifYes X0.here hx rfl (pc0 := 62) (pc' := 73) rfl (hb hby at_62) rfl ((if0 _ _).trans (teq (rfl : (0 : Int32) = (0 : Int32))).1) (by decide) (by decide) ?_
    show Steps p.tables e below (s₁.setTop (mkF m 73 #[.val (.long a), .second, .val (.int fl), .val (.long (a % (4000000000000 : Int64))), .second, .val (.int (0 : Int32)), .val (.int (0 : Int32)), .val (.long (a % (4000000000000 : Int64))), .second, .val (.double (FP.l2d (a % (4000000000000 : Int64)))), .second, .unset] [])) _
    refine XS.iload X0.here hx rfl (hb hby at_73) rfl ?_
    show Steps p.tables e below (s₁.setTop (mkF m 75 #[.val (.long a), .second, .val (.int fl), .val (.long (a % (4000000000000 : Int64))), .second, .val (.int (0 : Int32)), .val (.int (0 : Int32)), .val (.long (a % (4000000000000 : Int64))), .second, .val (.double (FP.l2d (a % (4000000000000 : Int64)))), .second, .unset] [(.int (0 : Int32))])) _
    refine XS.ifYes X0.here hx rfl (pc0 := 75) (pc' := 104) rfl (hb hby at_75) rfl ((if0 _ _).trans (teq (rfl : (0 : Int32) = (0 : Int32))).1) (by decide) (by decide) ?_
    show Steps p.tables e below (s₁.setTop (mkF m 104 #[.val (.long a), .second, .val (.int fl), .val (.long (a % (4000000000000 : Int64))), .second, .val (.int (0 : Int32)), .val (.int (0 : Int32)), .val (.long (a % (4000000000000 : Int64))), .second, .val (.double (FP.l2d (a % (4000000000000 : Int64)))), .second, .unset] [])) _
    refine XS.lload X0.here hx rfl (hb hby at_104) rfl ?_
    show Steps p.tables e below (s₁.setTop (mkF m 106 #[.val (.long a), .second, .val (.int fl), .val (.long (a % (4000000000000 : Int64))), .second, .val (.int (0 : Int32)), .val (.int (0 : Int32)), .val (.long (a % (4000000000000 : Int64))), .second, .val (.double (FP.l2d (a % (4000000000000 : Int64)))), .second, .unset] [(.long (a % (4000000000000 : Int64)))])) _
    refine XS.lconst X0.here hx rfl (hb hby at_106) ?_
    show Steps p.tables e below (s₁.setTop (mkF m 107 #[.val (.long a), .second, .val (.int fl), .val (.long (a % (4000000000000 : Int64))), .second, .val (.int (0 : Int32)), .val (.int (0 : Int32)), .val (.long (a % (4000000000000 : Int64))), .second, .val (.double (FP.l2d (a % (4000000000000 : Int64)))), .second, .unset] [(.long (0 : Int64)), (.long (a % (4000000000000 : Int64)))])) _
    refine XS.lcmp X0.here hx rfl (hb hby at_107) rfl ?_
    show Steps p.tables e below (s₁.setTop (mkF m 108 #[.val (.long a), .second, .val (.int fl), .val (.long (a % (4000000000000 : Int64))), .second, .val (.int (0 : Int32)), .val (.int (0 : Int32)), .val (.long (a % (4000000000000 : Int64))), .second, .val (.double (FP.l2d (a % (4000000000000 : Int64)))), .second, .unset] [(.int (lcmpW (a % (4000000000000 : Int64)) (0 : Int64)))])) _
    refine XS.ifNo X0.here hx rfl (hb hby at_108) rfl ((if0 _ _).trans (flt hc108).1) ?_
    show Steps p.tables e below (s₁.setTop (mkF m 111 #[.val (.long a), .second, .val (.int fl), .val (.long (a % (4000000000000 : Int64))), .second, .val (.int (0 : Int32)), .val (.int (0 : Int32)), .val (.long (a % (4000000000000 : Int64))), .second, .val (.double (FP.l2d (a % (4000000000000 : Int64)))), .second, .unset] [])) _
    refine XS.lload X0.here hx rfl (hb hby at_111) rfl ?_
    show Steps p.tables e below (s₁.setTop (mkF m 113 #[.val (.long a), .second, .val (.int fl), .val (.long (a % (4000000000000 : Int64))), .second, .val (.int (0 : Int32)), .val (.int (0 : Int32)), .val (.long (a % (4000000000000 : Int64))), .second, .val (.double (FP.l2d (a % (4000000000000 : Int64)))), .second, .unset] [(.long (a % (4000000000000 : Int64)))])) _
    refine X0.ldc2Long hx hown (mvT hZ (hw _ (List.mem_of_getElem? (i := 8) rfl))) (g := (mkF m 113 #[.val (.long a), .second, .val (.int fl), .val (.long (a % (4000000000000 : Int64))), .second, .val (.int (0 : Int32)), .val (.int (0 : Int32)), .val (.long (a % (4000000000000 : Int64))), .second, .val (.double (FP.l2d (a % (4000000000000 : Int64)))), .second, .unset] [(.long (a % (4000000000000 : Int64)))])) rfl (hb hby at_113) _ ?_
    show Steps p.tables e below (s₁.setTop (mkF m 116 #[.val (.long a), .second, .val (.int fl), .val (.long (a % (4000000000000 : Int64))), .second, .val (.int (0 : Int32)), .val (.int (0 : Int32)), .val (.long (a % (4000000000000 : Int64))), .second, .val (.double (FP.l2d (a % (4000000000000 : Int64)))), .second, .unset] [(.long (1000000000000 : Int64)), (.long (a % (4000000000000 : Int64)))])) _
    refine XS.lcmp X0.here hx rfl (hb hby at_116) rfl ?_
    show Steps p.tables e below (s₁.setTop (mkF m 117 #[.val (.long a), .second, .val (.int fl), .val (.long (a % (4000000000000 : Int64))), .second, .val (.int (0 : Int32)), .val (.int (0 : Int32)), .val (.long (a % (4000000000000 : Int64))), .second, .val (.double (FP.l2d (a % (4000000000000 : Int64)))), .second, .unset] [(.int (lcmpW (a % (4000000000000 : Int64)) (1000000000000 : Int64)))])) _
    refine XS.ifYes X0.here hx rfl (pc0 := 117) (pc' := 124) rfl (hb hby at_117) rfl ((if0 _ _).trans (tlt hc117).2.2.1) (by decide) (by decide) ?_
    show Steps p.tables e below (s₁.setTop (mkF m 124 #[.val (.long a), .second, .val (.int fl), .val (.long (a % (4000000000000 : Int64))), .second, .val (.int (0 : Int32)), .val (.int (0 : Int32)), .val (.long (a % (4000000000000 : Int64))), .second, .val (.double (FP.l2d (a % (4000000000000 : Int64)))), .second, .unset] [])) _
    refine XS.iconst X0.here hx rfl (hb hby at_124) ?_
    show Steps p.tables e below (s₁.setTop (mkF m 125 #[.val (.long a), .second, .val (.int fl), .val (.long (a % (4000000000000 : Int64))), .second, .val (.int (0 : Int32)), .val (.int (0 : Int32)), .val (.long (a % (4000000000000 : Int64))), .second, .val (.double (FP.l2d (a % (4000000000000 : Int64)))), .second, .unset] [(.int (0 : Int32))])) _
    refine XS.istore X0.here hx rfl (hb hby at_125) rfl (l' := #[.val (.long a), .second, .val (.int fl), .val (.long (a % (4000000000000 : Int64))), .second, .val (.int (0 : Int32)), .val (.int (0 : Int32)), .val (.long (a % (4000000000000 : Int64))), .second, .val (.double (FP.l2d (a % (4000000000000 : Int64)))), .second, .val (.int (0 : Int32))]) rfl ?_
    show Steps p.tables e below (s₁.setTop (mkF m 127 #[.val (.long a), .second, .val (.int fl), .val (.long (a % (4000000000000 : Int64))), .second, .val (.int (0 : Int32)), .val (.int (0 : Int32)), .val (.long (a % (4000000000000 : Int64))), .second, .val (.double (FP.l2d (a % (4000000000000 : Int64)))), .second, .val (.int (0 : Int32))] [])) _
    refine XS.dload X0.here hx rfl (hb hby at_127) rfl ?_
    show Steps p.tables e below (s₁.setTop (mkF m 129 #[.val (.long a), .second, .val (.int fl), .val (.long (a % (4000000000000 : Int64))), .second, .val (.int (0 : Int32)), .val (.int (0 : Int32)), .val (.long (a % (4000000000000 : Int64))), .second, .val (.double (FP.l2d (a % (4000000000000 : Int64)))), .second, .val (.int (0 : Int32))] [(.double (FP.l2d (a % (4000000000000 : Int64))))])) _
    refine st2 _ ?_
    show Steps p.tables e below (T2.setTop (mkF m 132 #[.val (.long a), .second, .val (.int fl), .val (.long (a % (4000000000000 : Int64))), .second, .val (.int (0 : Int32)), .val (.int (0 : Int32)), .val (.long (a % (4000000000000 : Int64))), .second, .val (.double (FP.l2d (a % (4000000000000 : Int64)))), .second, .val (.int (0 : Int32))] [(.int (isC (FP.l2d (a % (4000000000000 : Int64)))))])) _
    refine XS.iload X2.here hx rfl (hb hby at_132) rfl ?_
    show Steps p.tables e below (T2.setTop (mkF m 134 #[.val (.long a), .second, .val (.int fl), .val (.long (a % (4000000000000 : Int64))), .second, .val (.int (0 : Int32)), .val (.int (0 : Int32)), .val (.long (a % (4000000000000 : Int64))), .second, .val (.double (FP.l2d (a % (4000000000000 : Int64)))), .second, .val (.int (0 : Int32))] [(.int (0 : Int32)), (.int (isC (FP.l2d (a % (4000000000000 : Int64)))))])) _
    refine XS.icmpNo X2.here hx rfl (hb hby at_134) rfl (teq hc134).2 ?_
    show Steps p.tables e below (T2.setTop (mkF m 137 #[.val (.long a), .second, .val (.int fl), .val (.long (a % (4000000000000 : Int64))), .second, .val (.int (0 : Int32)), .val (.int (0 : Int32)), .val (.long (a % (4000000000000 : Int64))), .second, .val (.double (FP.l2d (a % (4000000000000 : Int64)))), .second, .val (.int (0 : Int32))] [])) _
    refine XS.iconst X2.here hx rfl (hb hby at_137) ?_
    show Steps p.tables e below (T2.setTop (mkF m 138 #[.val (.long a), .second, .val (.int fl), .val (.long (a % (4000000000000 : Int64))), .second, .val (.int (0 : Int32)), .val (.int (0 : Int32)), .val (.long (a % (4000000000000 : Int64))), .second, .val (.double (FP.l2d (a % (4000000000000 : Int64)))), .second, .val (.int (0 : Int32))] [(.int (1 : Int32))])) _
    refine XS.goto X2.here hx rfl (pc0 := 138) (pc' := 142) rfl (hb hby at_138) (by decide) (by decide) ?_
    show Steps p.tables e below (T2.setTop (mkF m 142 #[.val (.long a), .second, .val (.int fl), .val (.long (a % (4000000000000 : Int64))), .second, .val (.int (0 : Int32)), .val (.int (0 : Int32)), .val (.long (a % (4000000000000 : Int64))), .second, .val (.double (FP.l2d (a % (4000000000000 : Int64)))), .second, .val (.int (0 : Int32))] [(.int (1 : Int32))])) _
    exact retN X2 hx (t := .boolean) Bd.returns (by simp) (hb hby at_142) hr
  · show Q0 a fl h0 n0 _ T2.heap _
    rw [e2]
    exact ⟨rfl, N2⟩
set_option maxRecDepth 65536 in
set_option maxHeartbeats 40000000 in
theorem rm0_00ff (l : Launch) (Z : State) (a0 : Array Value) (hw : ∀ d ∈ tables_1, d.before a0 Z = true) (ws : List Jvm.Cond) (a : Int64) (fl : Int32)  (h0 : Heap) (n0 : Nat) (Z0 : n0 ≤ h0.size)  (hc9 : (fl &&& (1 : Int32)) = (0 : Int32)) (hc22 : (fl &&& (2 : Int32)) = (0 : Int32)) (hc108 : ¬ ((lcmpW (a % (4000000000000 : Int64)) (0 : Int64)) < (0 : Int32))) (hc117 : ¬ ((0 : Int32) < (lcmpW (a % (4000000000000 : Int64)) (1000000000000 : Int64)))) (hc134 : (isC (FP.l2d (a % (4000000000000 : Int64)))) = (1 : Int32)) :
    MetFree l x (head1 (Jvm.Cond.code x code maxLocals ret :: ws) room_1) (fun aa U => aa = #[(.long a), (.int fl)] ∧ Z.Warmed39 U.vm ∧ U.heap = h0) (fun _ _ _ _ _ => True) (fun _ U o U' => ∃ v L, o = .returned v ∧ Q0 a fl h0 n0 v U'.heap L ∧ FrameEnd U o U' L room_1.cells room_1.slots) := by
  refine MetFree.of_bodySF (plainFor_of_name pn_0) hisR ?_
  intro p e s m args below meth c s₁ Bd hml0 hP hK
  obtain ⟨rfl, hZ, hh⟩ := hP
  have hx := Bd.exec
  have hby := Bd.bytes
  have hml : c.maxLocals = 12 := hml0
  have hown : s.vm.findClass "com/example/metered_demand/metereddemand/model/MeasurementIsCountPinLaw" = some m.cls := findClass_of_methodNamed Bd.named
  have hnm := (name_of_methodNamed Bd.named Bd.method).1
  have X0 : Stand p l e room_1 s m #[(.long a), (.int fl)] below meth c s₁ [] 0 0 := Stand.of_body Bd
  have e0 : s₁.heap = h0 := by rw [← hh, Bd.state]; rfl
  have N0 := Fr.nil n0
  have pre0 : ∀ t, Steps p.tables e below (s₁.setTop (mkF m 0 #[.val (.long a), .second, .val (.int fl), .unset, .unset, .unset, .unset, .unset, .unset, .unset, .unset, .unset] [])) t → Steps p.tables e below (s₁.setTop (entryFrame m #[(.long a), (.int fl)] maxLocals)) t := fun t k => castTop (ef_0 m a fl) k
  obtain ⟨_, _, ⟨T3, L3, k3, n3⟩, -, X3, ⟨Lc3, hQ3, l3, y3, z3⟩, st3⟩ := Jvm.LawKit.callS X0 hx (y := (⟨"com/example/metered_demand/metereddemand/model/Measurement", "isCount", "(D)Z"⟩ : MethodName)) hown (mvT hZ (hw _ (List.mem_of_getElem? (i := 3) rfl))) (mvT hZ (hw _ (List.mem_of_getElem? (i := 4) rfl))) (mvT hZ (hw _ (List.mem_of_getElem? (i := 5) rfl))) (mvT hZ (hw _ (List.mem_of_getElem? (i := 6) rfl))) (by decide) (backOf (W := 0) (rm1 l Z a0 hw [] (FP.l2d (a % (4000000000000 : Int64))) h0 n0 Z0) hZ (hw _ (List.mem_of_getElem? (i := 6) rfl)) (hw _ (List.mem_of_getElem? (i := 5) rfl)) (by decide) (by decide)) (g := (mkF m 129 #[.val (.long a), .second, .val (.int fl), .val (.long (a % (4000000000000 : Int64))), .second, .val (.int (0 : Int32)), .val (.int (0 : Int32)), .val (.long (a % (4000000000000 : Int64))), .second, .val (.double (FP.l2d (a % (4000000000000 : Int64)))), .second, .val (.int (1 : Int32))] [(.double (FP.l2d (a % (4000000000000 : Int64))))])) rfl (by rw [hml]; rfl) (argsL := [(.double (FP.l2d (a % (4000000000000 : Int64))))]) (rest := []) (lenOf pd_0 rfl) rfl (by show 2 * 0 + _ ≤ _; exact Nat.le_of_eq rfl) (hb hby at_129) (fun _ _ => ⟨rfl, e0, (by decide : 0 + 0 ≤ _), (by decide : 0 + 0 ≤ _)⟩)
  dsimp only [Pt.U, Pt.locs, Pt.cells, Pt.slots] at X3 l3 y3 z3 st3 hQ3
  subst l3 y3 z3
  obtain ⟨rfl, N3q, e3⟩ := hQ3
  have N3 := Fr.app N0 N3q
  obtain ⟨fs, hr, hrun, hended, hW, hsame⟩ := X3.leave (v := some (.int (1 : Int32))) (fun h => by rw [Bd.returns] at h; cases h)
  refine ⟨_, _, pre0 _ ?_, hrun, hended, _, _, rfl, ?_, ⟨_, rfl⟩, hW, hsame.mono (by decide) (by decide)⟩
  · show Steps p.tables e below (s₁.setTop (mkF m 0 #[.val (.long a), .second, .val (.int fl), .unset, .unset, .unset, .unset, .unset, .unset, .unset, .unset, .unset] [])) _
    refine XS.lloadN X0.here hx rfl (hb hby at_0) rfl ?_
    show Steps p.tables e below (s₁.setTop (mkF m 1 #[.val (.long a), .second, .val (.int fl), .unset, .unset, .unset, .unset, .unset, .unset, .unset, .unset, .unset] [(.long a)])) _
    refine X0.ldc2Long hx hown (mvT hZ (hw _ (List.mem_of_getElem? (i := 0) rfl))) (g := (mkF m 1 #[.val (.long a), .second, .val (.int fl), .unset, .unset, .unset, .unset, .unset, .unset, .unset, .unset, .unset] [(.long a)])) rfl (hb hby at_1) _ ?_
    show Steps p.tables e below (s₁.setTop (mkF m 4 #[.val (.long a), .second, .val (.int fl), .unset, .unset, .unset, .unset, .unset, .unset, .unset, .unset, .unset] [(.long (4000000000000 : Int64)), (.long a)])) _
    refine gwLrem X0.here hx rfl (hb hby at_4) rfl (by decide : ¬ ((4000000000000 : Int64) = (0 : Int64))) ?_
    show Steps p.tables e below (s₁.setTop (mkF m 5 #[.val (.long a), .second, .val (.int fl), .unset, .unset, .unset, .unset, .unset, .unset, .unset, .unset, .unset] [(.long (a % (4000000000000 : Int64)))])) _
    refine XS.lstoreN X0.here hx rfl (hb hby at_5) rfl (l' := #[.val (.long a), .second, .val (.int fl), .val (.long (a % (4000000000000 : Int64))), .second, .unset, .unset, .unset, .unset, .unset, .unset, .unset]) rfl ?_
    show Steps p.tables e below (s₁.setTop (mkF m 6 #[.val (.long a), .second, .val (.int fl), .val (.long (a % (4000000000000 : Int64))), .second, .unset, .unset, .unset, .unset, .unset, .unset, .unset] [])) _
    refine XS.iloadN X0.here hx rfl (hb hby at_6) rfl ?_
    show Steps p.tables e below (s₁.setTop (mkF m 7 #[.val (.long a), .second, .val (.int fl), .val (.long (a % (4000000000000 : Int64))), .second, .unset, .unset, .unset, .unset, .unset, .unset, .unset] [(.int fl)])) _
    refine XS.iconst X0.here hx rfl (hb hby at_7) ?_
    show Steps p.tables e below (s₁.setTop (mkF m 8 #[.val (.long a), .second, .val (.int fl), .val (.long (a % (4000000000000 : Int64))), .second, .unset, .unset, .unset, .unset, .unset, .unset, .unset] [(.int (1 : Int32)), (.int fl)])) _
    refine XS.iand X0.here hx rfl (hb hby at_8) rfl ?_
    show Steps p.tables e below (s₁.setTop (mkF m 9 #[.val (.long a), .second, .val (.int fl), .val (.long (a % (4000000000000 : Int64))), .second, .unset, .unset, .unset, .unset, .unset, .unset, .unset] [(.int (fl &&& (1 : Int32)))])) _
    refine XS.ifYes X0.here hx rfl (pc0 := 9) (pc' := 16) rfl (hb hby at_9) rfl ((if0 _ _).trans (teq hc9).1) (by decide) (by decide) ?_
    show Steps p.tables e below (s₁.setTop (mkF m 16 #[.val (.long a), .second, .val (.int fl), .val (.long (a % (4000000000000 : Int64))), .second, .unset, .unset, .unset, .unset, .unset, .unset, .unset] [])) _
    refine XS.iconst X0.here hx rfl (hb hby at_16) ?_
    show Steps p.tables e below (s₁.setTop (mkF m 17 #[.val (.long a), .second, .val (.int fl), .val (.long (a % (4000000000000 : Int64))), .second, .unset, .unset, .unset, .unset, .unset, .unset, .unset] [(.int (0 : Int32))])) _
    refine XS.istore X0.here hx rfl (hb hby at_17) rfl (l' := #[.val (.long a), .second, .val (.int fl), .val (.long (a % (4000000000000 : Int64))), .second, .val (.int (0 : Int32)), .unset, .unset, .unset, .unset, .unset, .unset]) rfl ?_
    show Steps p.tables e below (s₁.setTop (mkF m 19 #[.val (.long a), .second, .val (.int fl), .val (.long (a % (4000000000000 : Int64))), .second, .val (.int (0 : Int32)), .unset, .unset, .unset, .unset, .unset, .unset] [])) _
    refine XS.iloadN X0.here hx rfl (hb hby at_19) rfl ?_
    show Steps p.tables e below (s₁.setTop (mkF m 20 #[.val (.long a), .second, .val (.int fl), .val (.long (a % (4000000000000 : Int64))), .second, .val (.int (0 : Int32)), .unset, .unset, .unset, .unset, .unset, .unset] [(.int fl)])) _
    refine XS.iconst X0.here hx rfl (hb hby at_20) ?_
    show Steps p.tables e below (s₁.setTop (mkF m 21 #[.val (.long a), .second, .val (.int fl), .val (.long (a % (4000000000000 : Int64))), .second, .val (.int (0 : Int32)), .unset, .unset, .unset, .unset, .unset, .unset] [(.int (2 : Int32)), (.int fl)])) _
    refine XS.iand X0.here hx rfl (hb hby at_21) rfl ?_
    show Steps p.tables e below (s₁.setTop (mkF m 22 #[.val (.long a), .second, .val (.int fl), .val (.long (a % (4000000000000 : Int64))), .second, .val (.int (0 : Int32)), .unset, .unset, .unset, .unset, .unset, .unset] [(.int (fl &&& (2 : Int32)))])) _
    refine XS.ifYes X0.here hx rfl (pc0 := 22) (pc' := 29) rfl (hb hby at_22) rfl ((if0 _ _).trans (teq hc22).1) (by decide) (by decide) ?_
    show Steps p.tables e below (s₁.setTop (mkF m 29 #[.val (.long a), .second, .val (.int fl), .val (.long (a % (4000000000000 : Int64))), .second, .val (.int (0 : Int32)), .unset, .unset, .unset, .unset, .unset, .unset] [])) _
    refine XS.iconst X0.here hx rfl (hb hby at_29) ?_
    show Steps p.tables e below (s₁.setTop (mkF m 30 #[.val (.long a), .second, .val (.int fl), .val (.long (a % (4000000000000 : Int64))), .second, .val (.int (0 : Int32)), .unset, .unset, .unset, .unset, .unset, .unset] [(.int (0 : Int32))])) _
    refine XS.istore X0.here hx rfl (hb hby at_30) rfl (l' := #[.val (.long a), .second, .val (.int fl), .val (.long (a % (4000000000000 : Int64))), .second, .val (.int (0 : Int32)), .val (.int (0 : Int32)), .unset, .unset, .unset, .unset, .unset]) rfl ?_
    show Steps p.tables e below (s₁.setTop (mkF m 32 #[.val (.long a), .second, .val (.int fl), .val (.long (a % (4000000000000 : Int64))), .second, .val (.int (0 : Int32)), .val (.int (0 : Int32)), .unset, .unset, .unset, .unset, .unset] [])) _
    refine XS.iload X0.here hx rfl (hb hby at_32) rfl ?_
    show Steps p.tables e below (s₁.setTop (mkF m 34 #[.val (.long a), .second, .val (.int fl), .val (.long (a % (4000000000000 : Int64))), .second, .val (.int (0 : Int32)), .val (.int (0 : Int32)), .unset, .unset, .unset, .unset, .unset] [(.int (0 : Int32))])) _
    refine XS.ifYes X0.here hx rfl (pc0 := 34) (pc' := 42) rfl (hb hby at_34) rfl ((if0 _ _).trans (teq (rfl : (0 : Int32) = (0 : Int32))).1) (by decide) (by decide) ?_
    show Steps p.tables e below (s₁.setTop (mkF m 42 #[.val (.long a), .second, .val (.int fl), .val (.long (a % (4000000000000 : Int64))), .second, .val (.int (0 : Int32)), .val (.int (0 : Int32)), .unset, .unset, .unset, .unset, .unset] [])) _
    refine XS.lloadN X0.here hx rfl (hb hby at_42) rfl ?_
    show Steps p.tables e below (s₁.setTop (mkF m 43 #[.val (.long a), .second, .val (.int fl), .val (.long (a % (4000000000000 : Int64))), .second, .val (.int (0 : Int32)), .val (.int (0 : Int32)), .unset, .unset, .unset, .unset, .unset] [(.long (a % (4000000000000 : Int64)))])) _
    refine XS.lstore X0.here hx rfl (hb hby at_43) rfl (l' := #[.val (.long a), .second, .val (.int fl), .val (.long (a % (4000000000000 : Int64))), .second, .val (.int (0 : Int32)), .val (.int (0 : Int32)), .val (.long (a % (4000000000000 : Int64))), .second, .unset, .unset, .unset]) rfl ?_
    show Steps p.tables e below (s₁.setTop (mkF m 45 #[.val (.long a), .second, .val (.int fl), .val (.long (a % (4000000000000 : Int64))), .second, .val (.int (0 : Int32)), .val (.int (0 : Int32)), .val (.long (a % (4000000000000 : Int64))), .second, .unset, .unset, .unset] [])) _
    refine XS.iload X0.here hx rfl (hb hby at_45) rfl ?_
    show Steps p.tables e below (s₁.setTop (mkF m 47 #[.val (.long a), .second, .val (.int fl), .val (.long (a % (4000000000000 : Int64))), .second, .val (.int (0 : Int32)), .val (.int (0 : Int32)), .val (.long (a % (4000000000000 : Int64))), .second, .unset, .unset, .unset] [(.int (0 : Int32))])) _
    refine XS.ifYes X0.here hx rfl (pc0 := 47) (pc' := 56) rfl (hb hby at_47) rfl ((if0 _ _).trans (teq (rfl : (0 : Int32) = (0 : Int32))).1) (by decide) (by decide) ?_
    show Steps p.tables e below (s₁.setTop (mkF m 56 #[.val (.long a), .second, .val (.int fl), .val (.long (a % (4000000000000 : Int64))), .second, .val (.int (0 : Int32)), .val (.int (0 : Int32)), .val (.long (a % (4000000000000 : Int64))), .second, .unset, .unset, .unset] [])) _
    refine XS.lloadN X0.here hx rfl (hb hby at_56) rfl ?_
    show Steps p.tables e below (s₁.setTop (mkF m 57 #[.val (.long a), .second, .val (.int fl), .val (.long (a % (4000000000000 : Int64))), .second, .val (.int (0 : Int32)), .val (.int (0 : Int32)), .val (.long (a % (4000000000000 : Int64))), .second, .unset, .unset, .unset] [(.long (a % (4000000000000 : Int64)))])) _
    refine XS.l2dS X0.here hx rfl (hb hby at_57) rfl rfl ?_
    show Steps p.tables e below (s₁.setTop (mkF m 58 #[.val (.long a), .second, .val (.int fl), .val (.long (a % (4000000000000 : Int64))), .second, .val (.int (0 : Int32)), .val (.int (0 : Int32)), .val (.long (a % (4000000000000 : Int64))), .second, .unset, .unset, .unset] [(.double (FP.l2d (a % (4000000000000 : Int64))))])) _
    refine XS.dstore X0.here hx rfl (hb hby at_58) rfl (l' := #[.val (.long a), .second, .val (.int fl), .val (.long (a % (4000000000000 : Int64))), .second, .val (.int (0 : Int32)), .val (.int (0 : Int32)), .val (.long (a % (4000000000000 : Int64))), .second, .val (.double (FP.l2d (a % (4000000000000 : Int64)))), .second, .unset]) rfl ?_
    show Steps p.tables e below (s₁.setTop (mkF m 60 #[.val (.long a), .second, .val (.int fl), .val (.long (a % (4000000000000 : Int64))), .second, .val (.int (0 : Int32)), .val (.int (0 : Int32)), .val (.long (a % (4000000000000 : Int64))), .second, .val (.double (FP.l2d (a % (4000000000000 : Int64)))), .second, .unset] [])) _
    refine XS.iload X0.here hx rfl (hb hby at_60) rfl ?_
    show Steps p.tables e below (s₁.setTop (mkF m 62 #[.val (.long a), .second, .val (.int fl), .val (.long (a % (4000000000000 : Int64))), .second, .val (.int (0 : Int32)), .val (.int (0 : Int32)), .val (.long (a % (4000000000000 : Int64))), .second, .val (.double (FP.l2d (a % (4000000000000 : Int64)))), .second, .unset] [(.int (0 : Int32))])) _
    refine XS.ifYes X0.here hx rfl (pc0 := 62) (pc' := 73) rfl (hb hby at_62) rfl ((if0 _ _).trans (teq (rfl : (0 : Int32) = (0 : Int32))).1) (by decide) (by decide) ?_
    show Steps p.tables e below (s₁.setTop (mkF m 73 #[.val (.long a), .second, .val (.int fl), .val (.long (a % (4000000000000 : Int64))), .second, .val (.int (0 : Int32)), .val (.int (0 : Int32)), .val (.long (a % (4000000000000 : Int64))), .second, .val (.double (FP.l2d (a % (4000000000000 : Int64)))), .second, .unset] [])) _
    refine XS.iload X0.here hx rfl (hb hby at_73) rfl ?_
    show Steps p.tables e below (s₁.setTop (mkF m 75 #[.val (.long a), .second, .val (.int fl), .val (.long (a % (4000000000000 : Int64))), .second, .val (.int (0 : Int32)), .val (.int (0 : Int32)), .val (.long (a % (4000000000000 : Int64))), .second, .val (.double (FP.l2d (a % (4000000000000 : Int64)))), .second, .unset] [(.int (0 : Int32))])) _
    refine XS.ifYes X0.here hx rfl (pc0 := 75) (pc' := 104) rfl (hb hby at_75) rfl ((if0 _ _).trans (teq (rfl : (0 : Int32) = (0 : Int32))).1) (by decide) (by decide) ?_
    show Steps p.tables e below (s₁.setTop (mkF m 104 #[.val (.long a), .second, .val (.int fl), .val (.long (a % (4000000000000 : Int64))), .second, .val (.int (0 : Int32)), .val (.int (0 : Int32)), .val (.long (a % (4000000000000 : Int64))), .second, .val (.double (FP.l2d (a % (4000000000000 : Int64)))), .second, .unset] [])) _
    refine XS.lload X0.here hx rfl (hb hby at_104) rfl ?_
    show Steps p.tables e below (s₁.setTop (mkF m 106 #[.val (.long a), .second, .val (.int fl), .val (.long (a % (4000000000000 : Int64))), .second, .val (.int (0 : Int32)), .val (.int (0 : Int32)), .val (.long (a % (4000000000000 : Int64))), .second, .val (.double (FP.l2d (a % (4000000000000 : Int64)))), .second, .unset] [(.long (a % (4000000000000 : Int64)))])) _
    refine XS.lconst X0.here hx rfl (hb hby at_106) ?_
    show Steps p.tables e below (s₁.setTop (mkF m 107 #[.val (.long a), .second, .val (.int fl), .val (.long (a % (4000000000000 : Int64))), .second, .val (.int (0 : Int32)), .val (.int (0 : Int32)), .val (.long (a % (4000000000000 : Int64))), .second, .val (.double (FP.l2d (a % (4000000000000 : Int64)))), .second, .unset] [(.long (0 : Int64)), (.long (a % (4000000000000 : Int64)))])) _
    refine XS.lcmp X0.here hx rfl (hb hby at_107) rfl ?_
    show Steps p.tables e below (s₁.setTop (mkF m 108 #[.val (.long a), .second, .val (.int fl), .val (.long (a % (4000000000000 : Int64))), .second, .val (.int (0 : Int32)), .val (.int (0 : Int32)), .val (.long (a % (4000000000000 : Int64))), .second, .val (.double (FP.l2d (a % (4000000000000 : Int64)))), .second, .unset] [(.int (lcmpW (a % (4000000000000 : Int64)) (0 : Int64)))])) _
    refine XS.ifNo X0.here hx rfl (hb hby at_108) rfl ((if0 _ _).trans (flt hc108).1) ?_
    show Steps p.tables e below (s₁.setTop (mkF m 111 #[.val (.long a), .second, .val (.int fl), .val (.long (a % (4000000000000 : Int64))), .second, .val (.int (0 : Int32)), .val (.int (0 : Int32)), .val (.long (a % (4000000000000 : Int64))), .second, .val (.double (FP.l2d (a % (4000000000000 : Int64)))), .second, .unset] [])) _
    refine XS.lload X0.here hx rfl (hb hby at_111) rfl ?_
    show Steps p.tables e below (s₁.setTop (mkF m 113 #[.val (.long a), .second, .val (.int fl), .val (.long (a % (4000000000000 : Int64))), .second, .val (.int (0 : Int32)), .val (.int (0 : Int32)), .val (.long (a % (4000000000000 : Int64))), .second, .val (.double (FP.l2d (a % (4000000000000 : Int64)))), .second, .unset] [(.long (a % (4000000000000 : Int64)))])) _
    refine X0.ldc2Long hx hown (mvT hZ (hw _ (List.mem_of_getElem? (i := 8) rfl))) (g := (mkF m 113 #[.val (.long a), .second, .val (.int fl), .val (.long (a % (4000000000000 : Int64))), .second, .val (.int (0 : Int32)), .val (.int (0 : Int32)), .val (.long (a % (4000000000000 : Int64))), .second, .val (.double (FP.l2d (a % (4000000000000 : Int64)))), .second, .unset] [(.long (a % (4000000000000 : Int64)))])) rfl (hb hby at_113) _ ?_
    show Steps p.tables e below (s₁.setTop (mkF m 116 #[.val (.long a), .second, .val (.int fl), .val (.long (a % (4000000000000 : Int64))), .second, .val (.int (0 : Int32)), .val (.int (0 : Int32)), .val (.long (a % (4000000000000 : Int64))), .second, .val (.double (FP.l2d (a % (4000000000000 : Int64)))), .second, .unset] [(.long (1000000000000 : Int64)), (.long (a % (4000000000000 : Int64)))])) _
    refine XS.lcmp X0.here hx rfl (hb hby at_116) rfl ?_
    show Steps p.tables e below (s₁.setTop (mkF m 117 #[.val (.long a), .second, .val (.int fl), .val (.long (a % (4000000000000 : Int64))), .second, .val (.int (0 : Int32)), .val (.int (0 : Int32)), .val (.long (a % (4000000000000 : Int64))), .second, .val (.double (FP.l2d (a % (4000000000000 : Int64)))), .second, .unset] [(.int (lcmpW (a % (4000000000000 : Int64)) (1000000000000 : Int64)))])) _
    refine XS.ifNo X0.here hx rfl (hb hby at_117) rfl ((if0 _ _).trans (flt hc117).2.2.1) ?_
    show Steps p.tables e below (s₁.setTop (mkF m 120 #[.val (.long a), .second, .val (.int fl), .val (.long (a % (4000000000000 : Int64))), .second, .val (.int (0 : Int32)), .val (.int (0 : Int32)), .val (.long (a % (4000000000000 : Int64))), .second, .val (.double (FP.l2d (a % (4000000000000 : Int64)))), .second, .unset] [])) _
    refine XS.iconst X0.here hx rfl (hb hby at_120) ?_
    show Steps p.tables e below (s₁.setTop (mkF m 121 #[.val (.long a), .second, .val (.int fl), .val (.long (a % (4000000000000 : Int64))), .second, .val (.int (0 : Int32)), .val (.int (0 : Int32)), .val (.long (a % (4000000000000 : Int64))), .second, .val (.double (FP.l2d (a % (4000000000000 : Int64)))), .second, .unset] [(.int (1 : Int32))])) _
    refine XS.goto X0.here hx rfl (pc0 := 121) (pc' := 125) rfl (hb hby at_121) (by decide) (by decide) ?_
    show Steps p.tables e below (s₁.setTop (mkF m 125 #[.val (.long a), .second, .val (.int fl), .val (.long (a % (4000000000000 : Int64))), .second, .val (.int (0 : Int32)), .val (.int (0 : Int32)), .val (.long (a % (4000000000000 : Int64))), .second, .val (.double (FP.l2d (a % (4000000000000 : Int64)))), .second, .unset] [(.int (1 : Int32))])) _
    refine XS.istore X0.here hx rfl (hb hby at_125) rfl (l' := #[.val (.long a), .second, .val (.int fl), .val (.long (a % (4000000000000 : Int64))), .second, .val (.int (0 : Int32)), .val (.int (0 : Int32)), .val (.long (a % (4000000000000 : Int64))), .second, .val (.double (FP.l2d (a % (4000000000000 : Int64)))), .second, .val (.int (1 : Int32))]) rfl ?_
    show Steps p.tables e below (s₁.setTop (mkF m 127 #[.val (.long a), .second, .val (.int fl), .val (.long (a % (4000000000000 : Int64))), .second, .val (.int (0 : Int32)), .val (.int (0 : Int32)), .val (.long (a % (4000000000000 : Int64))), .second, .val (.double (FP.l2d (a % (4000000000000 : Int64)))), .second, .val (.int (1 : Int32))] [])) _
    refine XS.dload X0.here hx rfl (hb hby at_127) rfl ?_
    show Steps p.tables e below (s₁.setTop (mkF m 129 #[.val (.long a), .second, .val (.int fl), .val (.long (a % (4000000000000 : Int64))), .second, .val (.int (0 : Int32)), .val (.int (0 : Int32)), .val (.long (a % (4000000000000 : Int64))), .second, .val (.double (FP.l2d (a % (4000000000000 : Int64)))), .second, .val (.int (1 : Int32))] [(.double (FP.l2d (a % (4000000000000 : Int64))))])) _
    refine st3 _ ?_
    show Steps p.tables e below (T3.setTop (mkF m 132 #[.val (.long a), .second, .val (.int fl), .val (.long (a % (4000000000000 : Int64))), .second, .val (.int (0 : Int32)), .val (.int (0 : Int32)), .val (.long (a % (4000000000000 : Int64))), .second, .val (.double (FP.l2d (a % (4000000000000 : Int64)))), .second, .val (.int (1 : Int32))] [(.int (isC (FP.l2d (a % (4000000000000 : Int64)))))])) _
    refine XS.iload X3.here hx rfl (hb hby at_132) rfl ?_
    show Steps p.tables e below (T3.setTop (mkF m 134 #[.val (.long a), .second, .val (.int fl), .val (.long (a % (4000000000000 : Int64))), .second, .val (.int (0 : Int32)), .val (.int (0 : Int32)), .val (.long (a % (4000000000000 : Int64))), .second, .val (.double (FP.l2d (a % (4000000000000 : Int64)))), .second, .val (.int (1 : Int32))] [(.int (1 : Int32)), (.int (isC (FP.l2d (a % (4000000000000 : Int64)))))])) _
    refine XS.icmpNo X3.here hx rfl (hb hby at_134) rfl (teq hc134).2 ?_
    show Steps p.tables e below (T3.setTop (mkF m 137 #[.val (.long a), .second, .val (.int fl), .val (.long (a % (4000000000000 : Int64))), .second, .val (.int (0 : Int32)), .val (.int (0 : Int32)), .val (.long (a % (4000000000000 : Int64))), .second, .val (.double (FP.l2d (a % (4000000000000 : Int64)))), .second, .val (.int (1 : Int32))] [])) _
    refine XS.iconst X3.here hx rfl (hb hby at_137) ?_
    show Steps p.tables e below (T3.setTop (mkF m 138 #[.val (.long a), .second, .val (.int fl), .val (.long (a % (4000000000000 : Int64))), .second, .val (.int (0 : Int32)), .val (.int (0 : Int32)), .val (.long (a % (4000000000000 : Int64))), .second, .val (.double (FP.l2d (a % (4000000000000 : Int64)))), .second, .val (.int (1 : Int32))] [(.int (1 : Int32))])) _
    refine XS.goto X3.here hx rfl (pc0 := 138) (pc' := 142) rfl (hb hby at_138) (by decide) (by decide) ?_
    show Steps p.tables e below (T3.setTop (mkF m 142 #[.val (.long a), .second, .val (.int fl), .val (.long (a % (4000000000000 : Int64))), .second, .val (.int (0 : Int32)), .val (.int (0 : Int32)), .val (.long (a % (4000000000000 : Int64))), .second, .val (.double (FP.l2d (a % (4000000000000 : Int64)))), .second, .val (.int (1 : Int32))] [(.int (1 : Int32))])) _
    exact retN X3 hx (t := .boolean) Bd.returns (by simp) (hb hby at_142) hr
  · show Q0 a fl h0 n0 _ T3.heap _
    rw [e3]
    exact ⟨rfl, N3⟩
set_option maxRecDepth 65536 in
set_option maxHeartbeats 40000000 in
theorem rm0_01t (l : Launch) (Z : State) (a0 : Array Value) (hw : ∀ d ∈ tables_1, d.before a0 Z = true) (ws : List Jvm.Cond) (a : Int64) (fl : Int32)  (h0 : Heap) (n0 : Nat) (Z0 : n0 ≤ h0.size)  (hc9 : (fl &&& (1 : Int32)) = (0 : Int32)) (hc22 : ¬ ((fl &&& (2 : Int32)) = (0 : Int32))) (hnan70 : Jvm.Free.Fl.NoNaN64 (FP.dadd (FP.l2d (a % (4000000000000 : Int64))) (4602678819172646912 : UInt64))) (hc82 : (lcmpW (a % (4000000000000 : Int64)) (0 : Int64)) < (0 : Int32)) (hc134 : (isC (FP.dadd (FP.l2d (a % (4000000000000 : Int64))) (4602678819172646912 : UInt64))) = (0 : Int32)) :
    MetFree l x (head1 (Jvm.Cond.code x code maxLocals ret :: ws) room_1) (fun aa U => aa = #[(.long a), (.int fl)] ∧ Z.Warmed39 U.vm ∧ U.heap = h0) (fun _ _ _ _ _ => True) (fun _ U o U' => ∃ v L, o = .returned v ∧ Q0 a fl h0 n0 v U'.heap L ∧ FrameEnd U o U' L room_1.cells room_1.slots) := by
  refine MetFree.of_bodySF (plainFor_of_name pn_0) hisR ?_
  intro p e s m args below meth c s₁ Bd hml0 hP hK
  obtain ⟨rfl, hZ, hh⟩ := hP
  have hx := Bd.exec
  have hby := Bd.bytes
  have hml : c.maxLocals = 12 := hml0
  have hown : s.vm.findClass "com/example/metered_demand/metereddemand/model/MeasurementIsCountPinLaw" = some m.cls := findClass_of_methodNamed Bd.named
  have hnm := (name_of_methodNamed Bd.named Bd.method).1
  have X0 : Stand p l e room_1 s m #[(.long a), (.int fl)] below meth c s₁ [] 0 0 := Stand.of_body Bd
  have e0 : s₁.heap = h0 := by rw [← hh, Bd.state]; rfl
  have N0 := Fr.nil n0
  have pre0 : ∀ t, Steps p.tables e below (s₁.setTop (mkF m 0 #[.val (.long a), .second, .val (.int fl), .unset, .unset, .unset, .unset, .unset, .unset, .unset, .unset, .unset] [])) t → Steps p.tables e below (s₁.setTop (entryFrame m #[(.long a), (.int fl)] maxLocals)) t := fun t k => castTop (ef_0 m a fl) k
  obtain ⟨_, _, ⟨T4, L4, k4, n4⟩, -, X4, ⟨Lc4, hQ4, l4, y4, z4⟩, st4⟩ := Jvm.LawKit.callS X0 hx (y := (⟨"com/example/metered_demand/metereddemand/model/Measurement", "isCount", "(D)Z"⟩ : MethodName)) hown (mvT hZ (hw _ (List.mem_of_getElem? (i := 3) rfl))) (mvT hZ (hw _ (List.mem_of_getElem? (i := 4) rfl))) (mvT hZ (hw _ (List.mem_of_getElem? (i := 5) rfl))) (mvT hZ (hw _ (List.mem_of_getElem? (i := 6) rfl))) (by decide) (backOf (W := 0) (rm1 l Z a0 hw [] (FP.dadd (FP.l2d (a % (4000000000000 : Int64))) (4602678819172646912 : UInt64)) h0 n0 Z0) hZ (hw _ (List.mem_of_getElem? (i := 6) rfl)) (hw _ (List.mem_of_getElem? (i := 5) rfl)) (by decide) (by decide)) (g := (mkF m 129 #[.val (.long a), .second, .val (.int fl), .val (.long (a % (4000000000000 : Int64))), .second, .val (.int (0 : Int32)), .val (.int (1 : Int32)), .val (.long (a % (4000000000000 : Int64))), .second, .val (.double (FP.dadd (FP.l2d (a % (4000000000000 : Int64))) (4602678819172646912 : UInt64))), .second, .val (.int (0 : Int32))] [(.double (FP.dadd (FP.l2d (a % (4000000000000 : Int64))) (4602678819172646912 : UInt64)))])) rfl (by rw [hml]; rfl) (argsL := [(.double (FP.dadd (FP.l2d (a % (4000000000000 : Int64))) (4602678819172646912 : UInt64)))]) (rest := []) (lenOf pd_0 rfl) rfl (by show 2 * 0 + _ ≤ _; exact Nat.le_of_eq rfl) (hb hby at_129) (fun _ _ => ⟨rfl, e0, (by decide : 0 + 0 ≤ _), (by decide : 0 + 0 ≤ _)⟩)
  dsimp only [Pt.U, Pt.locs, Pt.cells, Pt.slots] at X4 l4 y4 z4 st4 hQ4
  subst l4 y4 z4
  obtain ⟨rfl, N4q, e4⟩ := hQ4
  have N4 := Fr.app N0 N4q
  obtain ⟨fs, hr, hrun, hended, hW, hsame⟩ := X4.leave (v := some (.int (1 : Int32))) (fun h => by rw [Bd.returns] at h; cases h)
  refine ⟨_, _, pre0 _ ?_, hrun, hended, _, _, rfl, ?_, ⟨_, rfl⟩, hW, hsame.mono (by decide) (by decide)⟩
  · show Steps p.tables e below (s₁.setTop (mkF m 0 #[.val (.long a), .second, .val (.int fl), .unset, .unset, .unset, .unset, .unset, .unset, .unset, .unset, .unset] [])) _
    refine XS.lloadN X0.here hx rfl (hb hby at_0) rfl ?_
    show Steps p.tables e below (s₁.setTop (mkF m 1 #[.val (.long a), .second, .val (.int fl), .unset, .unset, .unset, .unset, .unset, .unset, .unset, .unset, .unset] [(.long a)])) _
    refine X0.ldc2Long hx hown (mvT hZ (hw _ (List.mem_of_getElem? (i := 0) rfl))) (g := (mkF m 1 #[.val (.long a), .second, .val (.int fl), .unset, .unset, .unset, .unset, .unset, .unset, .unset, .unset, .unset] [(.long a)])) rfl (hb hby at_1) _ ?_
    show Steps p.tables e below (s₁.setTop (mkF m 4 #[.val (.long a), .second, .val (.int fl), .unset, .unset, .unset, .unset, .unset, .unset, .unset, .unset, .unset] [(.long (4000000000000 : Int64)), (.long a)])) _
    refine gwLrem X0.here hx rfl (hb hby at_4) rfl (by decide : ¬ ((4000000000000 : Int64) = (0 : Int64))) ?_
    show Steps p.tables e below (s₁.setTop (mkF m 5 #[.val (.long a), .second, .val (.int fl), .unset, .unset, .unset, .unset, .unset, .unset, .unset, .unset, .unset] [(.long (a % (4000000000000 : Int64)))])) _
    refine XS.lstoreN X0.here hx rfl (hb hby at_5) rfl (l' := #[.val (.long a), .second, .val (.int fl), .val (.long (a % (4000000000000 : Int64))), .second, .unset, .unset, .unset, .unset, .unset, .unset, .unset]) rfl ?_
    show Steps p.tables e below (s₁.setTop (mkF m 6 #[.val (.long a), .second, .val (.int fl), .val (.long (a % (4000000000000 : Int64))), .second, .unset, .unset, .unset, .unset, .unset, .unset, .unset] [])) _
    refine XS.iloadN X0.here hx rfl (hb hby at_6) rfl ?_
    show Steps p.tables e below (s₁.setTop (mkF m 7 #[.val (.long a), .second, .val (.int fl), .val (.long (a % (4000000000000 : Int64))), .second, .unset, .unset, .unset, .unset, .unset, .unset, .unset] [(.int fl)])) _
    refine XS.iconst X0.here hx rfl (hb hby at_7) ?_
    show Steps p.tables e below (s₁.setTop (mkF m 8 #[.val (.long a), .second, .val (.int fl), .val (.long (a % (4000000000000 : Int64))), .second, .unset, .unset, .unset, .unset, .unset, .unset, .unset] [(.int (1 : Int32)), (.int fl)])) _
    refine XS.iand X0.here hx rfl (hb hby at_8) rfl ?_
    show Steps p.tables e below (s₁.setTop (mkF m 9 #[.val (.long a), .second, .val (.int fl), .val (.long (a % (4000000000000 : Int64))), .second, .unset, .unset, .unset, .unset, .unset, .unset, .unset] [(.int (fl &&& (1 : Int32)))])) _
    refine XS.ifYes X0.here hx rfl (pc0 := 9) (pc' := 16) rfl (hb hby at_9) rfl ((if0 _ _).trans (teq hc9).1) (by decide) (by decide) ?_
    show Steps p.tables e below (s₁.setTop (mkF m 16 #[.val (.long a), .second, .val (.int fl), .val (.long (a % (4000000000000 : Int64))), .second, .unset, .unset, .unset, .unset, .unset, .unset, .unset] [])) _
    refine XS.iconst X0.here hx rfl (hb hby at_16) ?_
    show Steps p.tables e below (s₁.setTop (mkF m 17 #[.val (.long a), .second, .val (.int fl), .val (.long (a % (4000000000000 : Int64))), .second, .unset, .unset, .unset, .unset, .unset, .unset, .unset] [(.int (0 : Int32))])) _
    refine XS.istore X0.here hx rfl (hb hby at_17) rfl (l' := #[.val (.long a), .second, .val (.int fl), .val (.long (a % (4000000000000 : Int64))), .second, .val (.int (0 : Int32)), .unset, .unset, .unset, .unset, .unset, .unset]) rfl ?_
    show Steps p.tables e below (s₁.setTop (mkF m 19 #[.val (.long a), .second, .val (.int fl), .val (.long (a % (4000000000000 : Int64))), .second, .val (.int (0 : Int32)), .unset, .unset, .unset, .unset, .unset, .unset] [])) _
    refine XS.iloadN X0.here hx rfl (hb hby at_19) rfl ?_
    show Steps p.tables e below (s₁.setTop (mkF m 20 #[.val (.long a), .second, .val (.int fl), .val (.long (a % (4000000000000 : Int64))), .second, .val (.int (0 : Int32)), .unset, .unset, .unset, .unset, .unset, .unset] [(.int fl)])) _
    refine XS.iconst X0.here hx rfl (hb hby at_20) ?_
    show Steps p.tables e below (s₁.setTop (mkF m 21 #[.val (.long a), .second, .val (.int fl), .val (.long (a % (4000000000000 : Int64))), .second, .val (.int (0 : Int32)), .unset, .unset, .unset, .unset, .unset, .unset] [(.int (2 : Int32)), (.int fl)])) _
    refine XS.iand X0.here hx rfl (hb hby at_21) rfl ?_
    show Steps p.tables e below (s₁.setTop (mkF m 22 #[.val (.long a), .second, .val (.int fl), .val (.long (a % (4000000000000 : Int64))), .second, .val (.int (0 : Int32)), .unset, .unset, .unset, .unset, .unset, .unset] [(.int (fl &&& (2 : Int32)))])) _
    refine XS.ifNo X0.here hx rfl (hb hby at_22) rfl ((if0 _ _).trans (feq hc22).1) ?_
    show Steps p.tables e below (s₁.setTop (mkF m 25 #[.val (.long a), .second, .val (.int fl), .val (.long (a % (4000000000000 : Int64))), .second, .val (.int (0 : Int32)), .unset, .unset, .unset, .unset, .unset, .unset] [])) _
    refine XS.iconst X0.here hx rfl (hb hby at_25) ?_
    show Steps p.tables e below (s₁.setTop (mkF m 26 #[.val (.long a), .second, .val (.int fl), .val (.long (a % (4000000000000 : Int64))), .second, .val (.int (0 : Int32)), .unset, .unset, .unset, .unset, .unset, .unset] [(.int (1 : Int32))])) _
    refine XS.goto X0.here hx rfl (pc0 := 26) (pc' := 30) rfl (hb hby at_26) (by decide) (by decide) ?_
    show Steps p.tables e below (s₁.setTop (mkF m 30 #[.val (.long a), .second, .val (.int fl), .val (.long (a % (4000000000000 : Int64))), .second, .val (.int (0 : Int32)), .unset, .unset, .unset, .unset, .unset, .unset] [(.int (1 : Int32))])) _
    refine XS.istore X0.here hx rfl (hb hby at_30) rfl (l' := #[.val (.long a), .second, .val (.int fl), .val (.long (a % (4000000000000 : Int64))), .second, .val (.int (0 : Int32)), .val (.int (1 : Int32)), .unset, .unset, .unset, .unset, .unset]) rfl ?_
    show Steps p.tables e below (s₁.setTop (mkF m 32 #[.val (.long a), .second, .val (.int fl), .val (.long (a % (4000000000000 : Int64))), .second, .val (.int (0 : Int32)), .val (.int (1 : Int32)), .unset, .unset, .unset, .unset, .unset] [])) _
    refine XS.iload X0.here hx rfl (hb hby at_32) rfl ?_
    show Steps p.tables e below (s₁.setTop (mkF m 34 #[.val (.long a), .second, .val (.int fl), .val (.long (a % (4000000000000 : Int64))), .second, .val (.int (0 : Int32)), .val (.int (1 : Int32)), .unset, .unset, .unset, .unset, .unset] [(.int (0 : Int32))])) _
    refine XS.ifYes X0.here hx rfl (pc0 := 34) (pc' := 42) rfl (hb hby at_34) rfl ((if0 _ _).trans (teq (rfl : (0 : Int32) = (0 : Int32))).1) (by decide) (by decide) ?_
    show Steps p.tables e below (s₁.setTop (mkF m 42 #[.val (.long a), .second, .val (.int fl), .val (.long (a % (4000000000000 : Int64))), .second, .val (.int (0 : Int32)), .val (.int (1 : Int32)), .unset, .unset, .unset, .unset, .unset] [])) _
    refine XS.lloadN X0.here hx rfl (hb hby at_42) rfl ?_
    show Steps p.tables e below (s₁.setTop (mkF m 43 #[.val (.long a), .second, .val (.int fl), .val (.long (a % (4000000000000 : Int64))), .second, .val (.int (0 : Int32)), .val (.int (1 : Int32)), .unset, .unset, .unset, .unset, .unset] [(.long (a % (4000000000000 : Int64)))])) _
    refine XS.lstore X0.here hx rfl (hb hby at_43) rfl (l' := #[.val (.long a), .second, .val (.int fl), .val (.long (a % (4000000000000 : Int64))), .second, .val (.int (0 : Int32)), .val (.int (1 : Int32)), .val (.long (a % (4000000000000 : Int64))), .second, .unset, .unset, .unset]) rfl ?_
    show Steps p.tables e below (s₁.setTop (mkF m 45 #[.val (.long a), .second, .val (.int fl), .val (.long (a % (4000000000000 : Int64))), .second, .val (.int (0 : Int32)), .val (.int (1 : Int32)), .val (.long (a % (4000000000000 : Int64))), .second, .unset, .unset, .unset] [])) _
    refine XS.iload X0.here hx rfl (hb hby at_45) rfl ?_
    show Steps p.tables e below (s₁.setTop (mkF m 47 #[.val (.long a), .second, .val (.int fl), .val (.long (a % (4000000000000 : Int64))), .second, .val (.int (0 : Int32)), .val (.int (1 : Int32)), .val (.long (a % (4000000000000 : Int64))), .second, .unset, .unset, .unset] [(.int (0 : Int32))])) _
    refine XS.ifYes X0.here hx rfl (pc0 := 47) (pc' := 56) rfl (hb hby at_47) rfl ((if0 _ _).trans (teq (rfl : (0 : Int32) = (0 : Int32))).1) (by decide) (by decide) ?_
    show Steps p.tables e below (s₁.setTop (mkF m 56 #[.val (.long a), .second, .val (.int fl), .val (.long (a % (4000000000000 : Int64))), .second, .val (.int (0 : Int32)), .val (.int (1 : Int32)), .val (.long (a % (4000000000000 : Int64))), .second, .unset, .unset, .unset] [])) _
    refine XS.lloadN X0.here hx rfl (hb hby at_56) rfl ?_
    show Steps p.tables e below (s₁.setTop (mkF m 57 #[.val (.long a), .second, .val (.int fl), .val (.long (a % (4000000000000 : Int64))), .second, .val (.int (0 : Int32)), .val (.int (1 : Int32)), .val (.long (a % (4000000000000 : Int64))), .second, .unset, .unset, .unset] [(.long (a % (4000000000000 : Int64)))])) _
    refine XS.l2dS X0.here hx rfl (hb hby at_57) rfl rfl ?_
    show Steps p.tables e below (s₁.setTop (mkF m 58 #[.val (.long a), .second, .val (.int fl), .val (.long (a % (4000000000000 : Int64))), .second, .val (.int (0 : Int32)), .val (.int (1 : Int32)), .val (.long (a % (4000000000000 : Int64))), .second, .unset, .unset, .unset] [(.double (FP.l2d (a % (4000000000000 : Int64))))])) _
    refine XS.dstore X0.here hx rfl (hb hby at_58) rfl (l' := #[.val (.long a), .second, .val (.int fl), .val (.long (a % (4000000000000 : Int64))), .second, .val (.int (0 : Int32)), .val (.int (1 : Int32)), .val (.long (a % (4000000000000 : Int64))), .second, .val (.double (FP.l2d (a % (4000000000000 : Int64)))), .second, .unset]) rfl ?_
    show Steps p.tables e below (s₁.setTop (mkF m 60 #[.val (.long a), .second, .val (.int fl), .val (.long (a % (4000000000000 : Int64))), .second, .val (.int (0 : Int32)), .val (.int (1 : Int32)), .val (.long (a % (4000000000000 : Int64))), .second, .val (.double (FP.l2d (a % (4000000000000 : Int64)))), .second, .unset] [])) _
    refine XS.iload X0.here hx rfl (hb hby at_60) rfl ?_
    show Steps p.tables e below (s₁.setTop (mkF m 62 #[.val (.long a), .second, .val (.int fl), .val (.long (a % (4000000000000 : Int64))), .second, .val (.int (0 : Int32)), .val (.int (1 : Int32)), .val (.long (a % (4000000000000 : Int64))), .second, .val (.double (FP.l2d (a % (4000000000000 : Int64)))), .second, .unset] [(.int (1 : Int32))])) _
    refine XS.ifNo X0.here hx rfl (hb hby at_62) rfl ((if0 _ _).trans (feq (by decide : ¬ ((1 : Int32) = (0 : Int32)))).1) ?_
    show Steps p.tables e below (s₁.setTop (mkF m 65 #[.val (.long a), .second, .val (.int fl), .val (.long (a % (4000000000000 : Int64))), .second, .val (.int (0 : Int32)), .val (.int (1 : Int32)), .val (.long (a % (4000000000000 : Int64))), .second, .val (.double (FP.l2d (a % (4000000000000 : Int64)))), .second, .unset] [])) _
    refine XS.dload X0.here hx rfl (hb hby at_65) rfl ?_
    show Steps p.tables e below (s₁.setTop (mkF m 67 #[.val (.long a), .second, .val (.int fl), .val (.long (a % (4000000000000 : Int64))), .second, .val (.int (0 : Int32)), .val (.int (1 : Int32)), .val (.long (a % (4000000000000 : Int64))), .second, .val (.double (FP.l2d (a % (4000000000000 : Int64)))), .second, .unset] [(.double (FP.l2d (a % (4000000000000 : Int64))))])) _
    refine X0.ldc2DoubleC hx hown (mvT hZ (hw _ (List.mem_of_getElem? (i := 1) rfl))) (g := (mkF m 67 #[.val (.long a), .second, .val (.int fl), .val (.long (a % (4000000000000 : Int64))), .second, .val (.int (0 : Int32)), .val (.int (1 : Int32)), .val (.long (a % (4000000000000 : Int64))), .second, .val (.double (FP.l2d (a % (4000000000000 : Int64)))), .second, .unset] [(.double (FP.l2d (a % (4000000000000 : Int64))))])) rfl (hb hby at_67) _ ?_
    show Steps p.tables e below (s₁.setTop (mkF m 70 #[.val (.long a), .second, .val (.int fl), .val (.long (a % (4000000000000 : Int64))), .second, .val (.int (0 : Int32)), .val (.int (1 : Int32)), .val (.long (a % (4000000000000 : Int64))), .second, .val (.double (FP.l2d (a % (4000000000000 : Int64)))), .second, .unset] [(.double (4602678819172646912 : UInt64)), (.double (FP.l2d (a % (4000000000000 : Int64))))])) _
    refine XS.daddS X0.here hx rfl (hb hby at_70) rfl hnan70 rfl ?_
    show Steps p.tables e below (s₁.setTop (mkF m 71 #[.val (.long a), .second, .val (.int fl), .val (.long (a % (4000000000000 : Int64))), .second, .val (.int (0 : Int32)), .val (.int (1 : Int32)), .val (.long (a % (4000000000000 : Int64))), .second, .val (.double (FP.l2d (a % (4000000000000 : Int64)))), .second, .unset] [(.double (FP.dadd (FP.l2d (a % (4000000000000 : Int64))) (4602678819172646912 : UInt64)))])) _
    refine XS.dstore X0.here hx rfl (hb hby at_71) rfl (l' := #[.val (.long a), .second, .val (.int fl), .val (.long (a % (4000000000000 : Int64))), .second, .val (.int (0 : Int32)), .val (.int (1 : Int32)), .val (.long (a % (4000000000000 : Int64))), .second, .val (.double (FP.dadd (FP.l2d (a % (4000000000000 : Int64))) (4602678819172646912 : UInt64))), .second, .unset]) rfl ?_
    show Steps p.tables e below (s₁.setTop (mkF m 73 #[.val (.long a), .second, .val (.int fl), .val (.long (a % (4000000000000 : Int64))), .second, .val (.int (0 : Int32)), .val (.int (1 : Int32)), .val (.long (a % (4000000000000 : Int64))), .second, .val (.double (FP.dadd (FP.l2d (a % (4000000000000 : Int64))) (4602678819172646912 : UInt64))), .second, .unset] [])) _
    refine XS.iload X0.here hx rfl (hb hby at_73) rfl ?_
    show Steps p.tables e below (s₁.setTop (mkF m 75 #[.val (.long a), .second, .val (.int fl), .val (.long (a % (4000000000000 : Int64))), .second, .val (.int (0 : Int32)), .val (.int (1 : Int32)), .val (.long (a % (4000000000000 : Int64))), .second, .val (.double (FP.dadd (FP.l2d (a % (4000000000000 : Int64))) (4602678819172646912 : UInt64))), .second, .unset] [(.int (1 : Int32))])) _
    refine XS.ifNo X0.here hx rfl (hb hby at_75) rfl ((if0 _ _).trans (feq (by decide : ¬ ((1 : Int32) = (0 : Int32)))).1) ?_
    show Steps p.tables e below (s₁.setTop (mkF m 78 #[.val (.long a), .second, .val (.int fl), .val (.long (a % (4000000000000 : Int64))), .second, .val (.int (0 : Int32)), .val (.int (1 : Int32)), .val (.long (a % (4000000000000 : Int64))), .second, .val (.double (FP.dadd (FP.l2d (a % (4000000000000 : Int64))) (4602678819172646912 : UInt64))), .second, .unset] [])) _
    refine XS.lload X0.here hx rfl (hb hby at_78) rfl ?_
    show Steps p.tables e below (s₁.setTop (mkF m 80 #[.val (.long a), .second, .val (.int fl), .val (.long (a % (4000000000000 : Int64))), .second, .val (.int (0 : Int32)), .val (.int (1 : Int32)), .val (.long (a % (4000000000000 : Int64))), .second, .val (.double (FP.dadd (FP.l2d (a % (4000000000000 : Int64))) (4602678819172646912 : UInt64))), .second, .unset] [(.long (a % (4000000000000 : Int64)))])) _
    refine XS.lconst X0.here hx rfl (hb hby at_80) ?_
    show Steps p.tables e below (s₁.setTop (mkF m 81 #[.val (.long a), .second, .val (.int fl), .val (.long (a % (4000000000000 : Int64))), .second, .val (.int (0 : Int32)), .val (.int (1 : Int32)), .val (.long (a % (4000000000000 : Int64))), .second, .val (.double (FP.dadd (FP.l2d (a % (4000000000000 : Int64))) (4602678819172646912 : UInt64))), .second, .unset] [(.long (0 : Int64)), (.long (a % (4000000000000 : Int64)))])) _
    refine XS.lcmp X0.here hx rfl (hb hby at_81) rfl ?_
    show Steps p.tables e below (s₁.setTop (mkF m 82 #[.val (.long a), .second, .val (.int fl), .val (.long (a % (4000000000000 : Int64))), .second, .val (.int (0 : Int32)), .val (.int (1 : Int32)), .val (.long (a % (4000000000000 : Int64))), .second, .val (.double (FP.dadd (FP.l2d (a % (4000000000000 : Int64))) (4602678819172646912 : UInt64))), .second, .unset] [(.int (lcmpW (a % (4000000000000 : Int64)) (0 : Int64)))])) _
    refine XS.ifYes X0.here hx rfl (pc0 := 82) (pc' := 98) rfl (hb hby at_82) rfl ((if0 _ _).trans (tlt hc82).1) (by decide) (by decide) ?_
    show Steps p.tables e below (s₁.setTop (mkF m 98 #[.val (.long a), .second, .val (.int fl), .val (.long (a % (4000000000000 : Int64))), .second, .val (.int (0 : Int32)), .val (.int (1 : Int32)), .val (.long (a % (4000000000000 : Int64))), .second, .val (.double (FP.dadd (FP.l2d (a % (4000000000000 : Int64))) (4602678819172646912 : UInt64))), .second, .unset] [])) _
    refine XS.iconst X0.here hx rfl (hb hby at_98) ?_
    show Steps p.tables e below (s₁.setTop (mkF m 99 #[.val (.long a), .second, .val (.int fl), .val (.long (a % (4000000000000 : Int64))), .second, .val (.int (0 : Int32)), .val (.int (1 : Int32)), .val (.long (a % (4000000000000 : Int64))), .second, .val (.double (FP.dadd (FP.l2d (a % (4000000000000 : Int64))) (4602678819172646912 : UInt64))), .second, .unset] [(.int (0 : Int32))])) _
    refine XS.istore X0.here hx rfl (hb hby at_99) rfl (l' := #[.val (.long a), .second, .val (.int fl), .val (.long (a % (4000000000000 : Int64))), .second, .val (.int (0 : Int32)), .val (.int (1 : Int32)), .val (.long (a % (4000000000000 : Int64))), .second, .val (.double (FP.dadd (FP.l2d (a % (4000000000000 : Int64))) (4602678819172646912 : UInt64))), .second, .val (.int (0 : Int32))]) rfl ?_
    show Steps p.tables e below (s₁.setTop (mkF m 101 #[.val (.long a), .second, .val (.int fl), .val (.long (a % (4000000000000 : Int64))), .second, .val (.int (0 : Int32)), .val (.int (1 : Int32)), .val (.long (a % (4000000000000 : Int64))), .second, .val (.double (FP.dadd (FP.l2d (a % (4000000000000 : Int64))) (4602678819172646912 : UInt64))), .second, .val (.int (0 : Int32))] [])) _
    refine XS.goto X0.here hx rfl (pc0 := 101) (pc' := 127) rfl (hb hby at_101) (by decide) (by decide) ?_
    show Steps p.tables e below (s₁.setTop (mkF m 127 #[.val (.long a), .second, .val (.int fl), .val (.long (a % (4000000000000 : Int64))), .second, .val (.int (0 : Int32)), .val (.int (1 : Int32)), .val (.long (a % (4000000000000 : Int64))), .second, .val (.double (FP.dadd (FP.l2d (a % (4000000000000 : Int64))) (4602678819172646912 : UInt64))), .second, .val (.int (0 : Int32))] [])) _
    refine XS.dload X0.here hx rfl (hb hby at_127) rfl ?_
    show Steps p.tables e below (s₁.setTop (mkF m 129 #[.val (.long a), .second, .val (.int fl), .val (.long (a % (4000000000000 : Int64))), .second, .val (.int (0 : Int32)), .val (.int (1 : Int32)), .val (.long (a % (4000000000000 : Int64))), .second, .val (.double (FP.dadd (FP.l2d (a % (4000000000000 : Int64))) (4602678819172646912 : UInt64))), .second, .val (.int (0 : Int32))] [(.double (FP.dadd (FP.l2d (a % (4000000000000 : Int64))) (4602678819172646912 : UInt64)))])) _
    refine st4 _ ?_
    show Steps p.tables e below (T4.setTop (mkF m 132 #[.val (.long a), .second, .val (.int fl), .val (.long (a % (4000000000000 : Int64))), .second, .val (.int (0 : Int32)), .val (.int (1 : Int32)), .val (.long (a % (4000000000000 : Int64))), .second, .val (.double (FP.dadd (FP.l2d (a % (4000000000000 : Int64))) (4602678819172646912 : UInt64))), .second, .val (.int (0 : Int32))] [(.int (isC (FP.dadd (FP.l2d (a % (4000000000000 : Int64))) (4602678819172646912 : UInt64))))])) _
    refine XS.iload X4.here hx rfl (hb hby at_132) rfl ?_
    show Steps p.tables e below (T4.setTop (mkF m 134 #[.val (.long a), .second, .val (.int fl), .val (.long (a % (4000000000000 : Int64))), .second, .val (.int (0 : Int32)), .val (.int (1 : Int32)), .val (.long (a % (4000000000000 : Int64))), .second, .val (.double (FP.dadd (FP.l2d (a % (4000000000000 : Int64))) (4602678819172646912 : UInt64))), .second, .val (.int (0 : Int32))] [(.int (0 : Int32)), (.int (isC (FP.dadd (FP.l2d (a % (4000000000000 : Int64))) (4602678819172646912 : UInt64))))])) _
    refine XS.icmpNo X4.here hx rfl (hb hby at_134) rfl (teq hc134).2 ?_
    show Steps p.tables e below (T4.setTop (mkF m 137 #[.val (.long a), .second, .val (.int fl), .val (.long (a % (4000000000000 : Int64))), .second, .val (.int (0 : Int32)), .val (.int (1 : Int32)), .val (.long (a % (4000000000000 : Int64))), .second, .val (.double (FP.dadd (FP.l2d (a % (4000000000000 : Int64))) (4602678819172646912 : UInt64))), .second, .val (.int (0 : Int32))] [])) _
    refine XS.iconst X4.here hx rfl (hb hby at_137) ?_
    show Steps p.tables e below (T4.setTop (mkF m 138 #[.val (.long a), .second, .val (.int fl), .val (.long (a % (4000000000000 : Int64))), .second, .val (.int (0 : Int32)), .val (.int (1 : Int32)), .val (.long (a % (4000000000000 : Int64))), .second, .val (.double (FP.dadd (FP.l2d (a % (4000000000000 : Int64))) (4602678819172646912 : UInt64))), .second, .val (.int (0 : Int32))] [(.int (1 : Int32))])) _
    refine XS.goto X4.here hx rfl (pc0 := 138) (pc' := 142) rfl (hb hby at_138) (by decide) (by decide) ?_
    show Steps p.tables e below (T4.setTop (mkF m 142 #[.val (.long a), .second, .val (.int fl), .val (.long (a % (4000000000000 : Int64))), .second, .val (.int (0 : Int32)), .val (.int (1 : Int32)), .val (.long (a % (4000000000000 : Int64))), .second, .val (.double (FP.dadd (FP.l2d (a % (4000000000000 : Int64))) (4602678819172646912 : UInt64))), .second, .val (.int (0 : Int32))] [(.int (1 : Int32))])) _
    exact retN X4 hx (t := .boolean) Bd.returns (by simp) (hb hby at_142) hr
  · show Q0 a fl h0 n0 _ T4.heap _
    rw [e4]
    exact ⟨rfl, N4⟩
set_option maxRecDepth 65536 in
set_option maxHeartbeats 40000000 in
theorem rm0_01ft (l : Launch) (Z : State) (a0 : Array Value) (hw : ∀ d ∈ tables_1, d.before a0 Z = true) (ws : List Jvm.Cond) (a : Int64) (fl : Int32)  (h0 : Heap) (n0 : Nat) (Z0 : n0 ≤ h0.size)  (hc9 : (fl &&& (1 : Int32)) = (0 : Int32)) (hc22 : ¬ ((fl &&& (2 : Int32)) = (0 : Int32))) (hnan70 : Jvm.Free.Fl.NoNaN64 (FP.dadd (FP.l2d (a % (4000000000000 : Int64))) (4602678819172646912 : UInt64))) (hc82 : ¬ ((lcmpW (a % (4000000000000 : Int64)) (0 : Int64)) < (0 : Int32))) (hc91 : (0 : Int32) < (lcmpW (a % (4000000000000 : Int64)) (999999999999 : Int64))) (hc134 : (isC (FP.dadd (FP.l2d (a % (4000000000000 : Int64))) (4602678819172646912 : UInt64))) = (0 : Int32)) :
    MetFree l x (head1 (Jvm.Cond.code x code maxLocals ret :: ws) room_1) (fun aa U => aa = #[(.long a), (.int fl)] ∧ Z.Warmed39 U.vm ∧ U.heap = h0) (fun _ _ _ _ _ => True) (fun _ U o U' => ∃ v L, o = .returned v ∧ Q0 a fl h0 n0 v U'.heap L ∧ FrameEnd U o U' L room_1.cells room_1.slots) := by
  refine MetFree.of_bodySF (plainFor_of_name pn_0) hisR ?_
  intro p e s m args below meth c s₁ Bd hml0 hP hK
  obtain ⟨rfl, hZ, hh⟩ := hP
  have hx := Bd.exec
  have hby := Bd.bytes
  have hml : c.maxLocals = 12 := hml0
  have hown : s.vm.findClass "com/example/metered_demand/metereddemand/model/MeasurementIsCountPinLaw" = some m.cls := findClass_of_methodNamed Bd.named
  have hnm := (name_of_methodNamed Bd.named Bd.method).1
  have X0 : Stand p l e room_1 s m #[(.long a), (.int fl)] below meth c s₁ [] 0 0 := Stand.of_body Bd
  have e0 : s₁.heap = h0 := by rw [← hh, Bd.state]; rfl
  have N0 := Fr.nil n0
  have pre0 : ∀ t, Steps p.tables e below (s₁.setTop (mkF m 0 #[.val (.long a), .second, .val (.int fl), .unset, .unset, .unset, .unset, .unset, .unset, .unset, .unset, .unset] [])) t → Steps p.tables e below (s₁.setTop (entryFrame m #[(.long a), (.int fl)] maxLocals)) t := fun t k => castTop (ef_0 m a fl) k
  obtain ⟨_, _, ⟨T5, L5, k5, n5⟩, -, X5, ⟨Lc5, hQ5, l5, y5, z5⟩, st5⟩ := Jvm.LawKit.callS X0 hx (y := (⟨"com/example/metered_demand/metereddemand/model/Measurement", "isCount", "(D)Z"⟩ : MethodName)) hown (mvT hZ (hw _ (List.mem_of_getElem? (i := 3) rfl))) (mvT hZ (hw _ (List.mem_of_getElem? (i := 4) rfl))) (mvT hZ (hw _ (List.mem_of_getElem? (i := 5) rfl))) (mvT hZ (hw _ (List.mem_of_getElem? (i := 6) rfl))) (by decide) (backOf (W := 0) (rm1 l Z a0 hw [] (FP.dadd (FP.l2d (a % (4000000000000 : Int64))) (4602678819172646912 : UInt64)) h0 n0 Z0) hZ (hw _ (List.mem_of_getElem? (i := 6) rfl)) (hw _ (List.mem_of_getElem? (i := 5) rfl)) (by decide) (by decide)) (g := (mkF m 129 #[.val (.long a), .second, .val (.int fl), .val (.long (a % (4000000000000 : Int64))), .second, .val (.int (0 : Int32)), .val (.int (1 : Int32)), .val (.long (a % (4000000000000 : Int64))), .second, .val (.double (FP.dadd (FP.l2d (a % (4000000000000 : Int64))) (4602678819172646912 : UInt64))), .second, .val (.int (0 : Int32))] [(.double (FP.dadd (FP.l2d (a % (4000000000000 : Int64))) (4602678819172646912 : UInt64)))])) rfl (by rw [hml]; rfl) (argsL := [(.double (FP.dadd (FP.l2d (a % (4000000000000 : Int64))) (4602678819172646912 : UInt64)))]) (rest := []) (lenOf pd_0 rfl) rfl (by show 2 * 0 + _ ≤ _; exact Nat.le_of_eq rfl) (hb hby at_129) (fun _ _ => ⟨rfl, e0, (by decide : 0 + 0 ≤ _), (by decide : 0 + 0 ≤ _)⟩)
  dsimp only [Pt.U, Pt.locs, Pt.cells, Pt.slots] at X5 l5 y5 z5 st5 hQ5
  subst l5 y5 z5
  obtain ⟨rfl, N5q, e5⟩ := hQ5
  have N5 := Fr.app N0 N5q
  obtain ⟨fs, hr, hrun, hended, hW, hsame⟩ := X5.leave (v := some (.int (1 : Int32))) (fun h => by rw [Bd.returns] at h; cases h)
  refine ⟨_, _, pre0 _ ?_, hrun, hended, _, _, rfl, ?_, ⟨_, rfl⟩, hW, hsame.mono (by decide) (by decide)⟩
  · show Steps p.tables e below (s₁.setTop (mkF m 0 #[.val (.long a), .second, .val (.int fl), .unset, .unset, .unset, .unset, .unset, .unset, .unset, .unset, .unset] [])) _
    refine XS.lloadN X0.here hx rfl (hb hby at_0) rfl ?_
    show Steps p.tables e below (s₁.setTop (mkF m 1 #[.val (.long a), .second, .val (.int fl), .unset, .unset, .unset, .unset, .unset, .unset, .unset, .unset, .unset] [(.long a)])) _
    refine X0.ldc2Long hx hown (mvT hZ (hw _ (List.mem_of_getElem? (i := 0) rfl))) (g := (mkF m 1 #[.val (.long a), .second, .val (.int fl), .unset, .unset, .unset, .unset, .unset, .unset, .unset, .unset, .unset] [(.long a)])) rfl (hb hby at_1) _ ?_
    show Steps p.tables e below (s₁.setTop (mkF m 4 #[.val (.long a), .second, .val (.int fl), .unset, .unset, .unset, .unset, .unset, .unset, .unset, .unset, .unset] [(.long (4000000000000 : Int64)), (.long a)])) _
    refine gwLrem X0.here hx rfl (hb hby at_4) rfl (by decide : ¬ ((4000000000000 : Int64) = (0 : Int64))) ?_
    show Steps p.tables e below (s₁.setTop (mkF m 5 #[.val (.long a), .second, .val (.int fl), .unset, .unset, .unset, .unset, .unset, .unset, .unset, .unset, .unset] [(.long (a % (4000000000000 : Int64)))])) _
    refine XS.lstoreN X0.here hx rfl (hb hby at_5) rfl (l' := #[.val (.long a), .second, .val (.int fl), .val (.long (a % (4000000000000 : Int64))), .second, .unset, .unset, .unset, .unset, .unset, .unset, .unset]) rfl ?_
    show Steps p.tables e below (s₁.setTop (mkF m 6 #[.val (.long a), .second, .val (.int fl), .val (.long (a % (4000000000000 : Int64))), .second, .unset, .unset, .unset, .unset, .unset, .unset, .unset] [])) _
    refine XS.iloadN X0.here hx rfl (hb hby at_6) rfl ?_
    show Steps p.tables e below (s₁.setTop (mkF m 7 #[.val (.long a), .second, .val (.int fl), .val (.long (a % (4000000000000 : Int64))), .second, .unset, .unset, .unset, .unset, .unset, .unset, .unset] [(.int fl)])) _
    refine XS.iconst X0.here hx rfl (hb hby at_7) ?_
    show Steps p.tables e below (s₁.setTop (mkF m 8 #[.val (.long a), .second, .val (.int fl), .val (.long (a % (4000000000000 : Int64))), .second, .unset, .unset, .unset, .unset, .unset, .unset, .unset] [(.int (1 : Int32)), (.int fl)])) _
    refine XS.iand X0.here hx rfl (hb hby at_8) rfl ?_
    show Steps p.tables e below (s₁.setTop (mkF m 9 #[.val (.long a), .second, .val (.int fl), .val (.long (a % (4000000000000 : Int64))), .second, .unset, .unset, .unset, .unset, .unset, .unset, .unset] [(.int (fl &&& (1 : Int32)))])) _
    refine XS.ifYes X0.here hx rfl (pc0 := 9) (pc' := 16) rfl (hb hby at_9) rfl ((if0 _ _).trans (teq hc9).1) (by decide) (by decide) ?_
    show Steps p.tables e below (s₁.setTop (mkF m 16 #[.val (.long a), .second, .val (.int fl), .val (.long (a % (4000000000000 : Int64))), .second, .unset, .unset, .unset, .unset, .unset, .unset, .unset] [])) _
    refine XS.iconst X0.here hx rfl (hb hby at_16) ?_
    show Steps p.tables e below (s₁.setTop (mkF m 17 #[.val (.long a), .second, .val (.int fl), .val (.long (a % (4000000000000 : Int64))), .second, .unset, .unset, .unset, .unset, .unset, .unset, .unset] [(.int (0 : Int32))])) _
    refine XS.istore X0.here hx rfl (hb hby at_17) rfl (l' := #[.val (.long a), .second, .val (.int fl), .val (.long (a % (4000000000000 : Int64))), .second, .val (.int (0 : Int32)), .unset, .unset, .unset, .unset, .unset, .unset]) rfl ?_
    show Steps p.tables e below (s₁.setTop (mkF m 19 #[.val (.long a), .second, .val (.int fl), .val (.long (a % (4000000000000 : Int64))), .second, .val (.int (0 : Int32)), .unset, .unset, .unset, .unset, .unset, .unset] [])) _
    refine XS.iloadN X0.here hx rfl (hb hby at_19) rfl ?_
    show Steps p.tables e below (s₁.setTop (mkF m 20 #[.val (.long a), .second, .val (.int fl), .val (.long (a % (4000000000000 : Int64))), .second, .val (.int (0 : Int32)), .unset, .unset, .unset, .unset, .unset, .unset] [(.int fl)])) _
    refine XS.iconst X0.here hx rfl (hb hby at_20) ?_
    show Steps p.tables e below (s₁.setTop (mkF m 21 #[.val (.long a), .second, .val (.int fl), .val (.long (a % (4000000000000 : Int64))), .second, .val (.int (0 : Int32)), .unset, .unset, .unset, .unset, .unset, .unset] [(.int (2 : Int32)), (.int fl)])) _
    refine XS.iand X0.here hx rfl (hb hby at_21) rfl ?_
    show Steps p.tables e below (s₁.setTop (mkF m 22 #[.val (.long a), .second, .val (.int fl), .val (.long (a % (4000000000000 : Int64))), .second, .val (.int (0 : Int32)), .unset, .unset, .unset, .unset, .unset, .unset] [(.int (fl &&& (2 : Int32)))])) _
    refine XS.ifNo X0.here hx rfl (hb hby at_22) rfl ((if0 _ _).trans (feq hc22).1) ?_
    show Steps p.tables e below (s₁.setTop (mkF m 25 #[.val (.long a), .second, .val (.int fl), .val (.long (a % (4000000000000 : Int64))), .second, .val (.int (0 : Int32)), .unset, .unset, .unset, .unset, .unset, .unset] [])) _
    refine XS.iconst X0.here hx rfl (hb hby at_25) ?_
    show Steps p.tables e below (s₁.setTop (mkF m 26 #[.val (.long a), .second, .val (.int fl), .val (.long (a % (4000000000000 : Int64))), .second, .val (.int (0 : Int32)), .unset, .unset, .unset, .unset, .unset, .unset] [(.int (1 : Int32))])) _
    refine XS.goto X0.here hx rfl (pc0 := 26) (pc' := 30) rfl (hb hby at_26) (by decide) (by decide) ?_
    show Steps p.tables e below (s₁.setTop (mkF m 30 #[.val (.long a), .second, .val (.int fl), .val (.long (a % (4000000000000 : Int64))), .second, .val (.int (0 : Int32)), .unset, .unset, .unset, .unset, .unset, .unset] [(.int (1 : Int32))])) _
    refine XS.istore X0.here hx rfl (hb hby at_30) rfl (l' := #[.val (.long a), .second, .val (.int fl), .val (.long (a % (4000000000000 : Int64))), .second, .val (.int (0 : Int32)), .val (.int (1 : Int32)), .unset, .unset, .unset, .unset, .unset]) rfl ?_
    show Steps p.tables e below (s₁.setTop (mkF m 32 #[.val (.long a), .second, .val (.int fl), .val (.long (a % (4000000000000 : Int64))), .second, .val (.int (0 : Int32)), .val (.int (1 : Int32)), .unset, .unset, .unset, .unset, .unset] [])) _
    refine XS.iload X0.here hx rfl (hb hby at_32) rfl ?_
    show Steps p.tables e below (s₁.setTop (mkF m 34 #[.val (.long a), .second, .val (.int fl), .val (.long (a % (4000000000000 : Int64))), .second, .val (.int (0 : Int32)), .val (.int (1 : Int32)), .unset, .unset, .unset, .unset, .unset] [(.int (0 : Int32))])) _
    refine XS.ifYes X0.here hx rfl (pc0 := 34) (pc' := 42) rfl (hb hby at_34) rfl ((if0 _ _).trans (teq (rfl : (0 : Int32) = (0 : Int32))).1) (by decide) (by decide) ?_
    show Steps p.tables e below (s₁.setTop (mkF m 42 #[.val (.long a), .second, .val (.int fl), .val (.long (a % (4000000000000 : Int64))), .second, .val (.int (0 : Int32)), .val (.int (1 : Int32)), .unset, .unset, .unset, .unset, .unset] [])) _
    refine XS.lloadN X0.here hx rfl (hb hby at_42) rfl ?_
    show Steps p.tables e below (s₁.setTop (mkF m 43 #[.val (.long a), .second, .val (.int fl), .val (.long (a % (4000000000000 : Int64))), .second, .val (.int (0 : Int32)), .val (.int (1 : Int32)), .unset, .unset, .unset, .unset, .unset] [(.long (a % (4000000000000 : Int64)))])) _
    refine XS.lstore X0.here hx rfl (hb hby at_43) rfl (l' := #[.val (.long a), .second, .val (.int fl), .val (.long (a % (4000000000000 : Int64))), .second, .val (.int (0 : Int32)), .val (.int (1 : Int32)), .val (.long (a % (4000000000000 : Int64))), .second, .unset, .unset, .unset]) rfl ?_
    show Steps p.tables e below (s₁.setTop (mkF m 45 #[.val (.long a), .second, .val (.int fl), .val (.long (a % (4000000000000 : Int64))), .second, .val (.int (0 : Int32)), .val (.int (1 : Int32)), .val (.long (a % (4000000000000 : Int64))), .second, .unset, .unset, .unset] [])) _
    refine XS.iload X0.here hx rfl (hb hby at_45) rfl ?_
    show Steps p.tables e below (s₁.setTop (mkF m 47 #[.val (.long a), .second, .val (.int fl), .val (.long (a % (4000000000000 : Int64))), .second, .val (.int (0 : Int32)), .val (.int (1 : Int32)), .val (.long (a % (4000000000000 : Int64))), .second, .unset, .unset, .unset] [(.int (0 : Int32))])) _
    refine XS.ifYes X0.here hx rfl (pc0 := 47) (pc' := 56) rfl (hb hby at_47) rfl ((if0 _ _).trans (teq (rfl : (0 : Int32) = (0 : Int32))).1) (by decide) (by decide) ?_
    show Steps p.tables e below (s₁.setTop (mkF m 56 #[.val (.long a), .second, .val (.int fl), .val (.long (a % (4000000000000 : Int64))), .second, .val (.int (0 : Int32)), .val (.int (1 : Int32)), .val (.long (a % (4000000000000 : Int64))), .second, .unset, .unset, .unset] [])) _
    refine XS.lloadN X0.here hx rfl (hb hby at_56) rfl ?_
    show Steps p.tables e below (s₁.setTop (mkF m 57 #[.val (.long a), .second, .val (.int fl), .val (.long (a % (4000000000000 : Int64))), .second, .val (.int (0 : Int32)), .val (.int (1 : Int32)), .val (.long (a % (4000000000000 : Int64))), .second, .unset, .unset, .unset] [(.long (a % (4000000000000 : Int64)))])) _
    refine XS.l2dS X0.here hx rfl (hb hby at_57) rfl rfl ?_
    show Steps p.tables e below (s₁.setTop (mkF m 58 #[.val (.long a), .second, .val (.int fl), .val (.long (a % (4000000000000 : Int64))), .second, .val (.int (0 : Int32)), .val (.int (1 : Int32)), .val (.long (a % (4000000000000 : Int64))), .second, .unset, .unset, .unset] [(.double (FP.l2d (a % (4000000000000 : Int64))))])) _
    refine XS.dstore X0.here hx rfl (hb hby at_58) rfl (l' := #[.val (.long a), .second, .val (.int fl), .val (.long (a % (4000000000000 : Int64))), .second, .val (.int (0 : Int32)), .val (.int (1 : Int32)), .val (.long (a % (4000000000000 : Int64))), .second, .val (.double (FP.l2d (a % (4000000000000 : Int64)))), .second, .unset]) rfl ?_
    show Steps p.tables e below (s₁.setTop (mkF m 60 #[.val (.long a), .second, .val (.int fl), .val (.long (a % (4000000000000 : Int64))), .second, .val (.int (0 : Int32)), .val (.int (1 : Int32)), .val (.long (a % (4000000000000 : Int64))), .second, .val (.double (FP.l2d (a % (4000000000000 : Int64)))), .second, .unset] [])) _
    refine XS.iload X0.here hx rfl (hb hby at_60) rfl ?_
    show Steps p.tables e below (s₁.setTop (mkF m 62 #[.val (.long a), .second, .val (.int fl), .val (.long (a % (4000000000000 : Int64))), .second, .val (.int (0 : Int32)), .val (.int (1 : Int32)), .val (.long (a % (4000000000000 : Int64))), .second, .val (.double (FP.l2d (a % (4000000000000 : Int64)))), .second, .unset] [(.int (1 : Int32))])) _
    refine XS.ifNo X0.here hx rfl (hb hby at_62) rfl ((if0 _ _).trans (feq (by decide : ¬ ((1 : Int32) = (0 : Int32)))).1) ?_
    show Steps p.tables e below (s₁.setTop (mkF m 65 #[.val (.long a), .second, .val (.int fl), .val (.long (a % (4000000000000 : Int64))), .second, .val (.int (0 : Int32)), .val (.int (1 : Int32)), .val (.long (a % (4000000000000 : Int64))), .second, .val (.double (FP.l2d (a % (4000000000000 : Int64)))), .second, .unset] [])) _
    refine XS.dload X0.here hx rfl (hb hby at_65) rfl ?_
    show Steps p.tables e below (s₁.setTop (mkF m 67 #[.val (.long a), .second, .val (.int fl), .val (.long (a % (4000000000000 : Int64))), .second, .val (.int (0 : Int32)), .val (.int (1 : Int32)), .val (.long (a % (4000000000000 : Int64))), .second, .val (.double (FP.l2d (a % (4000000000000 : Int64)))), .second, .unset] [(.double (FP.l2d (a % (4000000000000 : Int64))))])) _
    refine X0.ldc2DoubleC hx hown (mvT hZ (hw _ (List.mem_of_getElem? (i := 1) rfl))) (g := (mkF m 67 #[.val (.long a), .second, .val (.int fl), .val (.long (a % (4000000000000 : Int64))), .second, .val (.int (0 : Int32)), .val (.int (1 : Int32)), .val (.long (a % (4000000000000 : Int64))), .second, .val (.double (FP.l2d (a % (4000000000000 : Int64)))), .second, .unset] [(.double (FP.l2d (a % (4000000000000 : Int64))))])) rfl (hb hby at_67) _ ?_
    show Steps p.tables e below (s₁.setTop (mkF m 70 #[.val (.long a), .second, .val (.int fl), .val (.long (a % (4000000000000 : Int64))), .second, .val (.int (0 : Int32)), .val (.int (1 : Int32)), .val (.long (a % (4000000000000 : Int64))), .second, .val (.double (FP.l2d (a % (4000000000000 : Int64)))), .second, .unset] [(.double (4602678819172646912 : UInt64)), (.double (FP.l2d (a % (4000000000000 : Int64))))])) _
    refine XS.daddS X0.here hx rfl (hb hby at_70) rfl hnan70 rfl ?_
    show Steps p.tables e below (s₁.setTop (mkF m 71 #[.val (.long a), .second, .val (.int fl), .val (.long (a % (4000000000000 : Int64))), .second, .val (.int (0 : Int32)), .val (.int (1 : Int32)), .val (.long (a % (4000000000000 : Int64))), .second, .val (.double (FP.l2d (a % (4000000000000 : Int64)))), .second, .unset] [(.double (FP.dadd (FP.l2d (a % (4000000000000 : Int64))) (4602678819172646912 : UInt64)))])) _
    refine XS.dstore X0.here hx rfl (hb hby at_71) rfl (l' := #[.val (.long a), .second, .val (.int fl), .val (.long (a % (4000000000000 : Int64))), .second, .val (.int (0 : Int32)), .val (.int (1 : Int32)), .val (.long (a % (4000000000000 : Int64))), .second, .val (.double (FP.dadd (FP.l2d (a % (4000000000000 : Int64))) (4602678819172646912 : UInt64))), .second, .unset]) rfl ?_
    show Steps p.tables e below (s₁.setTop (mkF m 73 #[.val (.long a), .second, .val (.int fl), .val (.long (a % (4000000000000 : Int64))), .second, .val (.int (0 : Int32)), .val (.int (1 : Int32)), .val (.long (a % (4000000000000 : Int64))), .second, .val (.double (FP.dadd (FP.l2d (a % (4000000000000 : Int64))) (4602678819172646912 : UInt64))), .second, .unset] [])) _
    refine XS.iload X0.here hx rfl (hb hby at_73) rfl ?_
    show Steps p.tables e below (s₁.setTop (mkF m 75 #[.val (.long a), .second, .val (.int fl), .val (.long (a % (4000000000000 : Int64))), .second, .val (.int (0 : Int32)), .val (.int (1 : Int32)), .val (.long (a % (4000000000000 : Int64))), .second, .val (.double (FP.dadd (FP.l2d (a % (4000000000000 : Int64))) (4602678819172646912 : UInt64))), .second, .unset] [(.int (1 : Int32))])) _
    refine XS.ifNo X0.here hx rfl (hb hby at_75) rfl ((if0 _ _).trans (feq (by decide : ¬ ((1 : Int32) = (0 : Int32)))).1) ?_
    show Steps p.tables e below (s₁.setTop (mkF m 78 #[.val (.long a), .second, .val (.int fl), .val (.long (a % (4000000000000 : Int64))), .second, .val (.int (0 : Int32)), .val (.int (1 : Int32)), .val (.long (a % (4000000000000 : Int64))), .second, .val (.double (FP.dadd (FP.l2d (a % (4000000000000 : Int64))) (4602678819172646912 : UInt64))), .second, .unset] [])) _
    refine XS.lload X0.here hx rfl (hb hby at_78) rfl ?_
    show Steps p.tables e below (s₁.setTop (mkF m 80 #[.val (.long a), .second, .val (.int fl), .val (.long (a % (4000000000000 : Int64))), .second, .val (.int (0 : Int32)), .val (.int (1 : Int32)), .val (.long (a % (4000000000000 : Int64))), .second, .val (.double (FP.dadd (FP.l2d (a % (4000000000000 : Int64))) (4602678819172646912 : UInt64))), .second, .unset] [(.long (a % (4000000000000 : Int64)))])) _
    refine XS.lconst X0.here hx rfl (hb hby at_80) ?_
    show Steps p.tables e below (s₁.setTop (mkF m 81 #[.val (.long a), .second, .val (.int fl), .val (.long (a % (4000000000000 : Int64))), .second, .val (.int (0 : Int32)), .val (.int (1 : Int32)), .val (.long (a % (4000000000000 : Int64))), .second, .val (.double (FP.dadd (FP.l2d (a % (4000000000000 : Int64))) (4602678819172646912 : UInt64))), .second, .unset] [(.long (0 : Int64)), (.long (a % (4000000000000 : Int64)))])) _
    refine XS.lcmp X0.here hx rfl (hb hby at_81) rfl ?_
    show Steps p.tables e below (s₁.setTop (mkF m 82 #[.val (.long a), .second, .val (.int fl), .val (.long (a % (4000000000000 : Int64))), .second, .val (.int (0 : Int32)), .val (.int (1 : Int32)), .val (.long (a % (4000000000000 : Int64))), .second, .val (.double (FP.dadd (FP.l2d (a % (4000000000000 : Int64))) (4602678819172646912 : UInt64))), .second, .unset] [(.int (lcmpW (a % (4000000000000 : Int64)) (0 : Int64)))])) _
    refine XS.ifNo X0.here hx rfl (hb hby at_82) rfl ((if0 _ _).trans (flt hc82).1) ?_
    show Steps p.tables e below (s₁.setTop (mkF m 85 #[.val (.long a), .second, .val (.int fl), .val (.long (a % (4000000000000 : Int64))), .second, .val (.int (0 : Int32)), .val (.int (1 : Int32)), .val (.long (a % (4000000000000 : Int64))), .second, .val (.double (FP.dadd (FP.l2d (a % (4000000000000 : Int64))) (4602678819172646912 : UInt64))), .second, .unset] [])) _
    refine XS.lload X0.here hx rfl (hb hby at_85) rfl ?_
    show Steps p.tables e below (s₁.setTop (mkF m 87 #[.val (.long a), .second, .val (.int fl), .val (.long (a % (4000000000000 : Int64))), .second, .val (.int (0 : Int32)), .val (.int (1 : Int32)), .val (.long (a % (4000000000000 : Int64))), .second, .val (.double (FP.dadd (FP.l2d (a % (4000000000000 : Int64))) (4602678819172646912 : UInt64))), .second, .unset] [(.long (a % (4000000000000 : Int64)))])) _
    refine X0.ldc2Long hx hown (mvT hZ (hw _ (List.mem_of_getElem? (i := 2) rfl))) (g := (mkF m 87 #[.val (.long a), .second, .val (.int fl), .val (.long (a % (4000000000000 : Int64))), .second, .val (.int (0 : Int32)), .val (.int (1 : Int32)), .val (.long (a % (4000000000000 : Int64))), .second, .val (.double (FP.dadd (FP.l2d (a % (4000000000000 : Int64))) (4602678819172646912 : UInt64))), .second, .unset] [(.long (a % (4000000000000 : Int64)))])) rfl (hb hby at_87) _ ?_
    show Steps p.tables e below (s₁.setTop (mkF m 90 #[.val (.long a), .second, .val (.int fl), .val (.long (a % (4000000000000 : Int64))), .second, .val (.int (0 : Int32)), .val (.int (1 : Int32)), .val (.long (a % (4000000000000 : Int64))), .second, .val (.double (FP.dadd (FP.l2d (a % (4000000000000 : Int64))) (4602678819172646912 : UInt64))), .second, .unset] [(.long (999999999999 : Int64)), (.long (a % (4000000000000 : Int64)))])) _
    refine XS.lcmp X0.here hx rfl (hb hby at_90) rfl ?_
    show Steps p.tables e below (s₁.setTop (mkF m 91 #[.val (.long a), .second, .val (.int fl), .val (.long (a % (4000000000000 : Int64))), .second, .val (.int (0 : Int32)), .val (.int (1 : Int32)), .val (.long (a % (4000000000000 : Int64))), .second, .val (.double (FP.dadd (FP.l2d (a % (4000000000000 : Int64))) (4602678819172646912 : UInt64))), .second, .unset] [(.int (lcmpW (a % (4000000000000 : Int64)) (999999999999 : Int64)))])) _
    refine XS.ifYes X0.here hx rfl (pc0 := 91) (pc' := 98) rfl (hb hby at_91) rfl ((if0 _ _).trans (tlt hc91).2.2.1) (by decide) (by decide) ?_
    show Steps p.tables e below (s₁.setTop (mkF m 98 #[.val (.long a), .second, .val (.int fl), .val (.long (a % (4000000000000 : Int64))), .second, .val (.int (0 : Int32)), .val (.int (1 : Int32)), .val (.long (a % (4000000000000 : Int64))), .second, .val (.double (FP.dadd (FP.l2d (a % (4000000000000 : Int64))) (4602678819172646912 : UInt64))), .second, .unset] [])) _
    refine XS.iconst X0.here hx rfl (hb hby at_98) ?_
    show Steps p.tables e below (s₁.setTop (mkF m 99 #[.val (.long a), .second, .val (.int fl), .val (.long (a % (4000000000000 : Int64))), .second, .val (.int (0 : Int32)), .val (.int (1 : Int32)), .val (.long (a % (4000000000000 : Int64))), .second, .val (.double (FP.dadd (FP.l2d (a % (4000000000000 : Int64))) (4602678819172646912 : UInt64))), .second, .unset] [(.int (0 : Int32))])) _
    refine XS.istore X0.here hx rfl (hb hby at_99) rfl (l' := #[.val (.long a), .second, .val (.int fl), .val (.long (a % (4000000000000 : Int64))), .second, .val (.int (0 : Int32)), .val (.int (1 : Int32)), .val (.long (a % (4000000000000 : Int64))), .second, .val (.double (FP.dadd (FP.l2d (a % (4000000000000 : Int64))) (4602678819172646912 : UInt64))), .second, .val (.int (0 : Int32))]) rfl ?_
    show Steps p.tables e below (s₁.setTop (mkF m 101 #[.val (.long a), .second, .val (.int fl), .val (.long (a % (4000000000000 : Int64))), .second, .val (.int (0 : Int32)), .val (.int (1 : Int32)), .val (.long (a % (4000000000000 : Int64))), .second, .val (.double (FP.dadd (FP.l2d (a % (4000000000000 : Int64))) (4602678819172646912 : UInt64))), .second, .val (.int (0 : Int32))] [])) _
    refine XS.goto X0.here hx rfl (pc0 := 101) (pc' := 127) rfl (hb hby at_101) (by decide) (by decide) ?_
    show Steps p.tables e below (s₁.setTop (mkF m 127 #[.val (.long a), .second, .val (.int fl), .val (.long (a % (4000000000000 : Int64))), .second, .val (.int (0 : Int32)), .val (.int (1 : Int32)), .val (.long (a % (4000000000000 : Int64))), .second, .val (.double (FP.dadd (FP.l2d (a % (4000000000000 : Int64))) (4602678819172646912 : UInt64))), .second, .val (.int (0 : Int32))] [])) _
    refine XS.dload X0.here hx rfl (hb hby at_127) rfl ?_
    show Steps p.tables e below (s₁.setTop (mkF m 129 #[.val (.long a), .second, .val (.int fl), .val (.long (a % (4000000000000 : Int64))), .second, .val (.int (0 : Int32)), .val (.int (1 : Int32)), .val (.long (a % (4000000000000 : Int64))), .second, .val (.double (FP.dadd (FP.l2d (a % (4000000000000 : Int64))) (4602678819172646912 : UInt64))), .second, .val (.int (0 : Int32))] [(.double (FP.dadd (FP.l2d (a % (4000000000000 : Int64))) (4602678819172646912 : UInt64)))])) _
    refine st5 _ ?_
    show Steps p.tables e below (T5.setTop (mkF m 132 #[.val (.long a), .second, .val (.int fl), .val (.long (a % (4000000000000 : Int64))), .second, .val (.int (0 : Int32)), .val (.int (1 : Int32)), .val (.long (a % (4000000000000 : Int64))), .second, .val (.double (FP.dadd (FP.l2d (a % (4000000000000 : Int64))) (4602678819172646912 : UInt64))), .second, .val (.int (0 : Int32))] [(.int (isC (FP.dadd (FP.l2d (a % (4000000000000 : Int64))) (4602678819172646912 : UInt64))))])) _
    refine XS.iload X5.here hx rfl (hb hby at_132) rfl ?_
    show Steps p.tables e below (T5.setTop (mkF m 134 #[.val (.long a), .second, .val (.int fl), .val (.long (a % (4000000000000 : Int64))), .second, .val (.int (0 : Int32)), .val (.int (1 : Int32)), .val (.long (a % (4000000000000 : Int64))), .second, .val (.double (FP.dadd (FP.l2d (a % (4000000000000 : Int64))) (4602678819172646912 : UInt64))), .second, .val (.int (0 : Int32))] [(.int (0 : Int32)), (.int (isC (FP.dadd (FP.l2d (a % (4000000000000 : Int64))) (4602678819172646912 : UInt64))))])) _
    refine XS.icmpNo X5.here hx rfl (hb hby at_134) rfl (teq hc134).2 ?_
    show Steps p.tables e below (T5.setTop (mkF m 137 #[.val (.long a), .second, .val (.int fl), .val (.long (a % (4000000000000 : Int64))), .second, .val (.int (0 : Int32)), .val (.int (1 : Int32)), .val (.long (a % (4000000000000 : Int64))), .second, .val (.double (FP.dadd (FP.l2d (a % (4000000000000 : Int64))) (4602678819172646912 : UInt64))), .second, .val (.int (0 : Int32))] [])) _
    refine XS.iconst X5.here hx rfl (hb hby at_137) ?_
    show Steps p.tables e below (T5.setTop (mkF m 138 #[.val (.long a), .second, .val (.int fl), .val (.long (a % (4000000000000 : Int64))), .second, .val (.int (0 : Int32)), .val (.int (1 : Int32)), .val (.long (a % (4000000000000 : Int64))), .second, .val (.double (FP.dadd (FP.l2d (a % (4000000000000 : Int64))) (4602678819172646912 : UInt64))), .second, .val (.int (0 : Int32))] [(.int (1 : Int32))])) _
    refine XS.goto X5.here hx rfl (pc0 := 138) (pc' := 142) rfl (hb hby at_138) (by decide) (by decide) ?_
    show Steps p.tables e below (T5.setTop (mkF m 142 #[.val (.long a), .second, .val (.int fl), .val (.long (a % (4000000000000 : Int64))), .second, .val (.int (0 : Int32)), .val (.int (1 : Int32)), .val (.long (a % (4000000000000 : Int64))), .second, .val (.double (FP.dadd (FP.l2d (a % (4000000000000 : Int64))) (4602678819172646912 : UInt64))), .second, .val (.int (0 : Int32))] [(.int (1 : Int32))])) _
    exact retN X5 hx (t := .boolean) Bd.returns (by simp) (hb hby at_142) hr
  · show Q0 a fl h0 n0 _ T5.heap _
    rw [e5]
    exact ⟨rfl, N5⟩
set_option maxRecDepth 65536 in
set_option maxHeartbeats 40000000 in
theorem rm0_01ff (l : Launch) (Z : State) (a0 : Array Value) (hw : ∀ d ∈ tables_1, d.before a0 Z = true) (ws : List Jvm.Cond) (a : Int64) (fl : Int32)  (h0 : Heap) (n0 : Nat) (Z0 : n0 ≤ h0.size)  (hc9 : (fl &&& (1 : Int32)) = (0 : Int32)) (hc22 : ¬ ((fl &&& (2 : Int32)) = (0 : Int32))) (hnan70 : Jvm.Free.Fl.NoNaN64 (FP.dadd (FP.l2d (a % (4000000000000 : Int64))) (4602678819172646912 : UInt64))) (hc82 : ¬ ((lcmpW (a % (4000000000000 : Int64)) (0 : Int64)) < (0 : Int32))) (hc91 : ¬ ((0 : Int32) < (lcmpW (a % (4000000000000 : Int64)) (999999999999 : Int64)))) (hc134 : (isC (FP.dadd (FP.l2d (a % (4000000000000 : Int64))) (4602678819172646912 : UInt64))) = (1 : Int32)) :
    MetFree l x (head1 (Jvm.Cond.code x code maxLocals ret :: ws) room_1) (fun aa U => aa = #[(.long a), (.int fl)] ∧ Z.Warmed39 U.vm ∧ U.heap = h0) (fun _ _ _ _ _ => True) (fun _ U o U' => ∃ v L, o = .returned v ∧ Q0 a fl h0 n0 v U'.heap L ∧ FrameEnd U o U' L room_1.cells room_1.slots) := by
  refine MetFree.of_bodySF (plainFor_of_name pn_0) hisR ?_
  intro p e s m args below meth c s₁ Bd hml0 hP hK
  obtain ⟨rfl, hZ, hh⟩ := hP
  have hx := Bd.exec
  have hby := Bd.bytes
  have hml : c.maxLocals = 12 := hml0
  have hown : s.vm.findClass "com/example/metered_demand/metereddemand/model/MeasurementIsCountPinLaw" = some m.cls := findClass_of_methodNamed Bd.named
  have hnm := (name_of_methodNamed Bd.named Bd.method).1
  have X0 : Stand p l e room_1 s m #[(.long a), (.int fl)] below meth c s₁ [] 0 0 := Stand.of_body Bd
  have e0 : s₁.heap = h0 := by rw [← hh, Bd.state]; rfl
  have N0 := Fr.nil n0
  have pre0 : ∀ t, Steps p.tables e below (s₁.setTop (mkF m 0 #[.val (.long a), .second, .val (.int fl), .unset, .unset, .unset, .unset, .unset, .unset, .unset, .unset, .unset] [])) t → Steps p.tables e below (s₁.setTop (entryFrame m #[(.long a), (.int fl)] maxLocals)) t := fun t k => castTop (ef_0 m a fl) k
  obtain ⟨_, _, ⟨T6, L6, k6, n6⟩, -, X6, ⟨Lc6, hQ6, l6, y6, z6⟩, st6⟩ := Jvm.LawKit.callS X0 hx (y := (⟨"com/example/metered_demand/metereddemand/model/Measurement", "isCount", "(D)Z"⟩ : MethodName)) hown (mvT hZ (hw _ (List.mem_of_getElem? (i := 3) rfl))) (mvT hZ (hw _ (List.mem_of_getElem? (i := 4) rfl))) (mvT hZ (hw _ (List.mem_of_getElem? (i := 5) rfl))) (mvT hZ (hw _ (List.mem_of_getElem? (i := 6) rfl))) (by decide) (backOf (W := 0) (rm1 l Z a0 hw [] (FP.dadd (FP.l2d (a % (4000000000000 : Int64))) (4602678819172646912 : UInt64)) h0 n0 Z0) hZ (hw _ (List.mem_of_getElem? (i := 6) rfl)) (hw _ (List.mem_of_getElem? (i := 5) rfl)) (by decide) (by decide)) (g := (mkF m 129 #[.val (.long a), .second, .val (.int fl), .val (.long (a % (4000000000000 : Int64))), .second, .val (.int (0 : Int32)), .val (.int (1 : Int32)), .val (.long (a % (4000000000000 : Int64))), .second, .val (.double (FP.dadd (FP.l2d (a % (4000000000000 : Int64))) (4602678819172646912 : UInt64))), .second, .val (.int (1 : Int32))] [(.double (FP.dadd (FP.l2d (a % (4000000000000 : Int64))) (4602678819172646912 : UInt64)))])) rfl (by rw [hml]; rfl) (argsL := [(.double (FP.dadd (FP.l2d (a % (4000000000000 : Int64))) (4602678819172646912 : UInt64)))]) (rest := []) (lenOf pd_0 rfl) rfl (by show 2 * 0 + _ ≤ _; exact Nat.le_of_eq rfl) (hb hby at_129) (fun _ _ => ⟨rfl, e0, (by decide : 0 + 0 ≤ _), (by decide : 0 + 0 ≤ _)⟩)
  dsimp only [Pt.U, Pt.locs, Pt.cells, Pt.slots] at X6 l6 y6 z6 st6 hQ6
  subst l6 y6 z6
  obtain ⟨rfl, N6q, e6⟩ := hQ6
  have N6 := Fr.app N0 N6q
  obtain ⟨fs, hr, hrun, hended, hW, hsame⟩ := X6.leave (v := some (.int (1 : Int32))) (fun h => by rw [Bd.returns] at h; cases h)
  refine ⟨_, _, pre0 _ ?_, hrun, hended, _, _, rfl, ?_, ⟨_, rfl⟩, hW, hsame.mono (by decide) (by decide)⟩
  · show Steps p.tables e below (s₁.setTop (mkF m 0 #[.val (.long a), .second, .val (.int fl), .unset, .unset, .unset, .unset, .unset, .unset, .unset, .unset, .unset] [])) _
    refine XS.lloadN X0.here hx rfl (hb hby at_0) rfl ?_
    show Steps p.tables e below (s₁.setTop (mkF m 1 #[.val (.long a), .second, .val (.int fl), .unset, .unset, .unset, .unset, .unset, .unset, .unset, .unset, .unset] [(.long a)])) _
    refine X0.ldc2Long hx hown (mvT hZ (hw _ (List.mem_of_getElem? (i := 0) rfl))) (g := (mkF m 1 #[.val (.long a), .second, .val (.int fl), .unset, .unset, .unset, .unset, .unset, .unset, .unset, .unset, .unset] [(.long a)])) rfl (hb hby at_1) _ ?_
    show Steps p.tables e below (s₁.setTop (mkF m 4 #[.val (.long a), .second, .val (.int fl), .unset, .unset, .unset, .unset, .unset, .unset, .unset, .unset, .unset] [(.long (4000000000000 : Int64)), (.long a)])) _
    refine gwLrem X0.here hx rfl (hb hby at_4) rfl (by decide : ¬ ((4000000000000 : Int64) = (0 : Int64))) ?_
    show Steps p.tables e below (s₁.setTop (mkF m 5 #[.val (.long a), .second, .val (.int fl), .unset, .unset, .unset, .unset, .unset, .unset, .unset, .unset, .unset] [(.long (a % (4000000000000 : Int64)))])) _
    refine XS.lstoreN X0.here hx rfl (hb hby at_5) rfl (l' := #[.val (.long a), .second, .val (.int fl), .val (.long (a % (4000000000000 : Int64))), .second, .unset, .unset, .unset, .unset, .unset, .unset, .unset]) rfl ?_
    show Steps p.tables e below (s₁.setTop (mkF m 6 #[.val (.long a), .second, .val (.int fl), .val (.long (a % (4000000000000 : Int64))), .second, .unset, .unset, .unset, .unset, .unset, .unset, .unset] [])) _
    refine XS.iloadN X0.here hx rfl (hb hby at_6) rfl ?_
    show Steps p.tables e below (s₁.setTop (mkF m 7 #[.val (.long a), .second, .val (.int fl), .val (.long (a % (4000000000000 : Int64))), .second, .unset, .unset, .unset, .unset, .unset, .unset, .unset] [(.int fl)])) _
    refine XS.iconst X0.here hx rfl (hb hby at_7) ?_
    show Steps p.tables e below (s₁.setTop (mkF m 8 #[.val (.long a), .second, .val (.int fl), .val (.long (a % (4000000000000 : Int64))), .second, .unset, .unset, .unset, .unset, .unset, .unset, .unset] [(.int (1 : Int32)), (.int fl)])) _
    refine XS.iand X0.here hx rfl (hb hby at_8) rfl ?_
    show Steps p.tables e below (s₁.setTop (mkF m 9 #[.val (.long a), .second, .val (.int fl), .val (.long (a % (4000000000000 : Int64))), .second, .unset, .unset, .unset, .unset, .unset, .unset, .unset] [(.int (fl &&& (1 : Int32)))])) _
    refine XS.ifYes X0.here hx rfl (pc0 := 9) (pc' := 16) rfl (hb hby at_9) rfl ((if0 _ _).trans (teq hc9).1) (by decide) (by decide) ?_
    show Steps p.tables e below (s₁.setTop (mkF m 16 #[.val (.long a), .second, .val (.int fl), .val (.long (a % (4000000000000 : Int64))), .second, .unset, .unset, .unset, .unset, .unset, .unset, .unset] [])) _
    refine XS.iconst X0.here hx rfl (hb hby at_16) ?_
    show Steps p.tables e below (s₁.setTop (mkF m 17 #[.val (.long a), .second, .val (.int fl), .val (.long (a % (4000000000000 : Int64))), .second, .unset, .unset, .unset, .unset, .unset, .unset, .unset] [(.int (0 : Int32))])) _
    refine XS.istore X0.here hx rfl (hb hby at_17) rfl (l' := #[.val (.long a), .second, .val (.int fl), .val (.long (a % (4000000000000 : Int64))), .second, .val (.int (0 : Int32)), .unset, .unset, .unset, .unset, .unset, .unset]) rfl ?_
    show Steps p.tables e below (s₁.setTop (mkF m 19 #[.val (.long a), .second, .val (.int fl), .val (.long (a % (4000000000000 : Int64))), .second, .val (.int (0 : Int32)), .unset, .unset, .unset, .unset, .unset, .unset] [])) _
    refine XS.iloadN X0.here hx rfl (hb hby at_19) rfl ?_
    show Steps p.tables e below (s₁.setTop (mkF m 20 #[.val (.long a), .second, .val (.int fl), .val (.long (a % (4000000000000 : Int64))), .second, .val (.int (0 : Int32)), .unset, .unset, .unset, .unset, .unset, .unset] [(.int fl)])) _
    refine XS.iconst X0.here hx rfl (hb hby at_20) ?_
    show Steps p.tables e below (s₁.setTop (mkF m 21 #[.val (.long a), .second, .val (.int fl), .val (.long (a % (4000000000000 : Int64))), .second, .val (.int (0 : Int32)), .unset, .unset, .unset, .unset, .unset, .unset] [(.int (2 : Int32)), (.int fl)])) _
    refine XS.iand X0.here hx rfl (hb hby at_21) rfl ?_
    show Steps p.tables e below (s₁.setTop (mkF m 22 #[.val (.long a), .second, .val (.int fl), .val (.long (a % (4000000000000 : Int64))), .second, .val (.int (0 : Int32)), .unset, .unset, .unset, .unset, .unset, .unset] [(.int (fl &&& (2 : Int32)))])) _
    refine XS.ifNo X0.here hx rfl (hb hby at_22) rfl ((if0 _ _).trans (feq hc22).1) ?_
    show Steps p.tables e below (s₁.setTop (mkF m 25 #[.val (.long a), .second, .val (.int fl), .val (.long (a % (4000000000000 : Int64))), .second, .val (.int (0 : Int32)), .unset, .unset, .unset, .unset, .unset, .unset] [])) _
    refine XS.iconst X0.here hx rfl (hb hby at_25) ?_
    show Steps p.tables e below (s₁.setTop (mkF m 26 #[.val (.long a), .second, .val (.int fl), .val (.long (a % (4000000000000 : Int64))), .second, .val (.int (0 : Int32)), .unset, .unset, .unset, .unset, .unset, .unset] [(.int (1 : Int32))])) _
    refine XS.goto X0.here hx rfl (pc0 := 26) (pc' := 30) rfl (hb hby at_26) (by decide) (by decide) ?_
    show Steps p.tables e below (s₁.setTop (mkF m 30 #[.val (.long a), .second, .val (.int fl), .val (.long (a % (4000000000000 : Int64))), .second, .val (.int (0 : Int32)), .unset, .unset, .unset, .unset, .unset, .unset] [(.int (1 : Int32))])) _
    refine XS.istore X0.here hx rfl (hb hby at_30) rfl (l' := #[.val (.long a), .second, .val (.int fl), .val (.long (a % (4000000000000 : Int64))), .second, .val (.int (0 : Int32)), .val (.int (1 : Int32)), .unset, .unset, .unset, .unset, .unset]) rfl ?_
    show Steps p.tables e below (s₁.setTop (mkF m 32 #[.val (.long a), .second, .val (.int fl), .val (.long (a % (4000000000000 : Int64))), .second, .val (.int (0 : Int32)), .val (.int (1 : Int32)), .unset, .unset, .unset, .unset, .unset] [])) _
    refine XS.iload X0.here hx rfl (hb hby at_32) rfl ?_
    show Steps p.tables e below (s₁.setTop (mkF m 34 #[.val (.long a), .second, .val (.int fl), .val (.long (a % (4000000000000 : Int64))), .second, .val (.int (0 : Int32)), .val (.int (1 : Int32)), .unset, .unset, .unset, .unset, .unset] [(.int (0 : Int32))])) _
    refine XS.ifYes X0.here hx rfl (pc0 := 34) (pc' := 42) rfl (hb hby at_34) rfl ((if0 _ _).trans (teq (rfl : (0 : Int32) = (0 : Int32))).1) (by decide) (by decide) ?_
    show Steps p.tables e below (s₁.setTop (mkF m 42 #[.val (.long a), .second, .val (.int fl), .val (.long (a % (4000000000000 : Int64))), .second, .val (.int (0 : Int32)), .val (.int (1 : Int32)), .unset, .unset, .unset, .unset, .unset] [])) _
    refine XS.lloadN X0.here hx rfl (hb hby at_42) rfl ?_
    show Steps p.tables e below (s₁.setTop (mkF m 43 #[.val (.long a), .second, .val (.int fl), .val (.long (a % (4000000000000 : Int64))), .second, .val (.int (0 : Int32)), .val (.int (1 : Int32)), .unset, .unset, .unset, .unset, .unset] [(.long (a % (4000000000000 : Int64)))])) _
    refine XS.lstore X0.here hx rfl (hb hby at_43) rfl (l' := #[.val (.long a), .second, .val (.int fl), .val (.long (a % (4000000000000 : Int64))), .second, .val (.int (0 : Int32)), .val (.int (1 : Int32)), .val (.long (a % (4000000000000 : Int64))), .second, .unset, .unset, .unset]) rfl ?_
    show Steps p.tables e below (s₁.setTop (mkF m 45 #[.val (.long a), .second, .val (.int fl), .val (.long (a % (4000000000000 : Int64))), .second, .val (.int (0 : Int32)), .val (.int (1 : Int32)), .val (.long (a % (4000000000000 : Int64))), .second, .unset, .unset, .unset] [])) _
    refine XS.iload X0.here hx rfl (hb hby at_45) rfl ?_
    show Steps p.tables e below (s₁.setTop (mkF m 47 #[.val (.long a), .second, .val (.int fl), .val (.long (a % (4000000000000 : Int64))), .second, .val (.int (0 : Int32)), .val (.int (1 : Int32)), .val (.long (a % (4000000000000 : Int64))), .second, .unset, .unset, .unset] [(.int (0 : Int32))])) _
    refine XS.ifYes X0.here hx rfl (pc0 := 47) (pc' := 56) rfl (hb hby at_47) rfl ((if0 _ _).trans (teq (rfl : (0 : Int32) = (0 : Int32))).1) (by decide) (by decide) ?_
    show Steps p.tables e below (s₁.setTop (mkF m 56 #[.val (.long a), .second, .val (.int fl), .val (.long (a % (4000000000000 : Int64))), .second, .val (.int (0 : Int32)), .val (.int (1 : Int32)), .val (.long (a % (4000000000000 : Int64))), .second, .unset, .unset, .unset] [])) _
    refine XS.lloadN X0.here hx rfl (hb hby at_56) rfl ?_
    show Steps p.tables e below (s₁.setTop (mkF m 57 #[.val (.long a), .second, .val (.int fl), .val (.long (a % (4000000000000 : Int64))), .second, .val (.int (0 : Int32)), .val (.int (1 : Int32)), .val (.long (a % (4000000000000 : Int64))), .second, .unset, .unset, .unset] [(.long (a % (4000000000000 : Int64)))])) _
    refine XS.l2dS X0.here hx rfl (hb hby at_57) rfl rfl ?_
    show Steps p.tables e below (s₁.setTop (mkF m 58 #[.val (.long a), .second, .val (.int fl), .val (.long (a % (4000000000000 : Int64))), .second, .val (.int (0 : Int32)), .val (.int (1 : Int32)), .val (.long (a % (4000000000000 : Int64))), .second, .unset, .unset, .unset] [(.double (FP.l2d (a % (4000000000000 : Int64))))])) _
    refine XS.dstore X0.here hx rfl (hb hby at_58) rfl (l' := #[.val (.long a), .second, .val (.int fl), .val (.long (a % (4000000000000 : Int64))), .second, .val (.int (0 : Int32)), .val (.int (1 : Int32)), .val (.long (a % (4000000000000 : Int64))), .second, .val (.double (FP.l2d (a % (4000000000000 : Int64)))), .second, .unset]) rfl ?_
    show Steps p.tables e below (s₁.setTop (mkF m 60 #[.val (.long a), .second, .val (.int fl), .val (.long (a % (4000000000000 : Int64))), .second, .val (.int (0 : Int32)), .val (.int (1 : Int32)), .val (.long (a % (4000000000000 : Int64))), .second, .val (.double (FP.l2d (a % (4000000000000 : Int64)))), .second, .unset] [])) _
    refine XS.iload X0.here hx rfl (hb hby at_60) rfl ?_
    show Steps p.tables e below (s₁.setTop (mkF m 62 #[.val (.long a), .second, .val (.int fl), .val (.long (a % (4000000000000 : Int64))), .second, .val (.int (0 : Int32)), .val (.int (1 : Int32)), .val (.long (a % (4000000000000 : Int64))), .second, .val (.double (FP.l2d (a % (4000000000000 : Int64)))), .second, .unset] [(.int (1 : Int32))])) _
    refine XS.ifNo X0.here hx rfl (hb hby at_62) rfl ((if0 _ _).trans (feq (by decide : ¬ ((1 : Int32) = (0 : Int32)))).1) ?_
    show Steps p.tables e below (s₁.setTop (mkF m 65 #[.val (.long a), .second, .val (.int fl), .val (.long (a % (4000000000000 : Int64))), .second, .val (.int (0 : Int32)), .val (.int (1 : Int32)), .val (.long (a % (4000000000000 : Int64))), .second, .val (.double (FP.l2d (a % (4000000000000 : Int64)))), .second, .unset] [])) _
    refine XS.dload X0.here hx rfl (hb hby at_65) rfl ?_
    show Steps p.tables e below (s₁.setTop (mkF m 67 #[.val (.long a), .second, .val (.int fl), .val (.long (a % (4000000000000 : Int64))), .second, .val (.int (0 : Int32)), .val (.int (1 : Int32)), .val (.long (a % (4000000000000 : Int64))), .second, .val (.double (FP.l2d (a % (4000000000000 : Int64)))), .second, .unset] [(.double (FP.l2d (a % (4000000000000 : Int64))))])) _
    refine X0.ldc2DoubleC hx hown (mvT hZ (hw _ (List.mem_of_getElem? (i := 1) rfl))) (g := (mkF m 67 #[.val (.long a), .second, .val (.int fl), .val (.long (a % (4000000000000 : Int64))), .second, .val (.int (0 : Int32)), .val (.int (1 : Int32)), .val (.long (a % (4000000000000 : Int64))), .second, .val (.double (FP.l2d (a % (4000000000000 : Int64)))), .second, .unset] [(.double (FP.l2d (a % (4000000000000 : Int64))))])) rfl (hb hby at_67) _ ?_
    show Steps p.tables e below (s₁.setTop (mkF m 70 #[.val (.long a), .second, .val (.int fl), .val (.long (a % (4000000000000 : Int64))), .second, .val (.int (0 : Int32)), .val (.int (1 : Int32)), .val (.long (a % (4000000000000 : Int64))), .second, .val (.double (FP.l2d (a % (4000000000000 : Int64)))), .second, .unset] [(.double (4602678819172646912 : UInt64)), (.double (FP.l2d (a % (4000000000000 : Int64))))])) _
    refine XS.daddS X0.here hx rfl (hb hby at_70) rfl hnan70 rfl ?_
    show Steps p.tables e below (s₁.setTop (mkF m 71 #[.val (.long a), .second, .val (.int fl), .val (.long (a % (4000000000000 : Int64))), .second, .val (.int (0 : Int32)), .val (.int (1 : Int32)), .val (.long (a % (4000000000000 : Int64))), .second, .val (.double (FP.l2d (a % (4000000000000 : Int64)))), .second, .unset] [(.double (FP.dadd (FP.l2d (a % (4000000000000 : Int64))) (4602678819172646912 : UInt64)))])) _
    refine XS.dstore X0.here hx rfl (hb hby at_71) rfl (l' := #[.val (.long a), .second, .val (.int fl), .val (.long (a % (4000000000000 : Int64))), .second, .val (.int (0 : Int32)), .val (.int (1 : Int32)), .val (.long (a % (4000000000000 : Int64))), .second, .val (.double (FP.dadd (FP.l2d (a % (4000000000000 : Int64))) (4602678819172646912 : UInt64))), .second, .unset]) rfl ?_
    show Steps p.tables e below (s₁.setTop (mkF m 73 #[.val (.long a), .second, .val (.int fl), .val (.long (a % (4000000000000 : Int64))), .second, .val (.int (0 : Int32)), .val (.int (1 : Int32)), .val (.long (a % (4000000000000 : Int64))), .second, .val (.double (FP.dadd (FP.l2d (a % (4000000000000 : Int64))) (4602678819172646912 : UInt64))), .second, .unset] [])) _
    refine XS.iload X0.here hx rfl (hb hby at_73) rfl ?_
    show Steps p.tables e below (s₁.setTop (mkF m 75 #[.val (.long a), .second, .val (.int fl), .val (.long (a % (4000000000000 : Int64))), .second, .val (.int (0 : Int32)), .val (.int (1 : Int32)), .val (.long (a % (4000000000000 : Int64))), .second, .val (.double (FP.dadd (FP.l2d (a % (4000000000000 : Int64))) (4602678819172646912 : UInt64))), .second, .unset] [(.int (1 : Int32))])) _
    refine XS.ifNo X0.here hx rfl (hb hby at_75) rfl ((if0 _ _).trans (feq (by decide : ¬ ((1 : Int32) = (0 : Int32)))).1) ?_
    show Steps p.tables e below (s₁.setTop (mkF m 78 #[.val (.long a), .second, .val (.int fl), .val (.long (a % (4000000000000 : Int64))), .second, .val (.int (0 : Int32)), .val (.int (1 : Int32)), .val (.long (a % (4000000000000 : Int64))), .second, .val (.double (FP.dadd (FP.l2d (a % (4000000000000 : Int64))) (4602678819172646912 : UInt64))), .second, .unset] [])) _
    refine XS.lload X0.here hx rfl (hb hby at_78) rfl ?_
    show Steps p.tables e below (s₁.setTop (mkF m 80 #[.val (.long a), .second, .val (.int fl), .val (.long (a % (4000000000000 : Int64))), .second, .val (.int (0 : Int32)), .val (.int (1 : Int32)), .val (.long (a % (4000000000000 : Int64))), .second, .val (.double (FP.dadd (FP.l2d (a % (4000000000000 : Int64))) (4602678819172646912 : UInt64))), .second, .unset] [(.long (a % (4000000000000 : Int64)))])) _
    refine XS.lconst X0.here hx rfl (hb hby at_80) ?_
    show Steps p.tables e below (s₁.setTop (mkF m 81 #[.val (.long a), .second, .val (.int fl), .val (.long (a % (4000000000000 : Int64))), .second, .val (.int (0 : Int32)), .val (.int (1 : Int32)), .val (.long (a % (4000000000000 : Int64))), .second, .val (.double (FP.dadd (FP.l2d (a % (4000000000000 : Int64))) (4602678819172646912 : UInt64))), .second, .unset] [(.long (0 : Int64)), (.long (a % (4000000000000 : Int64)))])) _
    refine XS.lcmp X0.here hx rfl (hb hby at_81) rfl ?_
    show Steps p.tables e below (s₁.setTop (mkF m 82 #[.val (.long a), .second, .val (.int fl), .val (.long (a % (4000000000000 : Int64))), .second, .val (.int (0 : Int32)), .val (.int (1 : Int32)), .val (.long (a % (4000000000000 : Int64))), .second, .val (.double (FP.dadd (FP.l2d (a % (4000000000000 : Int64))) (4602678819172646912 : UInt64))), .second, .unset] [(.int (lcmpW (a % (4000000000000 : Int64)) (0 : Int64)))])) _
    refine XS.ifNo X0.here hx rfl (hb hby at_82) rfl ((if0 _ _).trans (flt hc82).1) ?_
    show Steps p.tables e below (s₁.setTop (mkF m 85 #[.val (.long a), .second, .val (.int fl), .val (.long (a % (4000000000000 : Int64))), .second, .val (.int (0 : Int32)), .val (.int (1 : Int32)), .val (.long (a % (4000000000000 : Int64))), .second, .val (.double (FP.dadd (FP.l2d (a % (4000000000000 : Int64))) (4602678819172646912 : UInt64))), .second, .unset] [])) _
    refine XS.lload X0.here hx rfl (hb hby at_85) rfl ?_
    show Steps p.tables e below (s₁.setTop (mkF m 87 #[.val (.long a), .second, .val (.int fl), .val (.long (a % (4000000000000 : Int64))), .second, .val (.int (0 : Int32)), .val (.int (1 : Int32)), .val (.long (a % (4000000000000 : Int64))), .second, .val (.double (FP.dadd (FP.l2d (a % (4000000000000 : Int64))) (4602678819172646912 : UInt64))), .second, .unset] [(.long (a % (4000000000000 : Int64)))])) _
    refine X0.ldc2Long hx hown (mvT hZ (hw _ (List.mem_of_getElem? (i := 2) rfl))) (g := (mkF m 87 #[.val (.long a), .second, .val (.int fl), .val (.long (a % (4000000000000 : Int64))), .second, .val (.int (0 : Int32)), .val (.int (1 : Int32)), .val (.long (a % (4000000000000 : Int64))), .second, .val (.double (FP.dadd (FP.l2d (a % (4000000000000 : Int64))) (4602678819172646912 : UInt64))), .second, .unset] [(.long (a % (4000000000000 : Int64)))])) rfl (hb hby at_87) _ ?_
    show Steps p.tables e below (s₁.setTop (mkF m 90 #[.val (.long a), .second, .val (.int fl), .val (.long (a % (4000000000000 : Int64))), .second, .val (.int (0 : Int32)), .val (.int (1 : Int32)), .val (.long (a % (4000000000000 : Int64))), .second, .val (.double (FP.dadd (FP.l2d (a % (4000000000000 : Int64))) (4602678819172646912 : UInt64))), .second, .unset] [(.long (999999999999 : Int64)), (.long (a % (4000000000000 : Int64)))])) _
    refine XS.lcmp X0.here hx rfl (hb hby at_90) rfl ?_
    show Steps p.tables e below (s₁.setTop (mkF m 91 #[.val (.long a), .second, .val (.int fl), .val (.long (a % (4000000000000 : Int64))), .second, .val (.int (0 : Int32)), .val (.int (1 : Int32)), .val (.long (a % (4000000000000 : Int64))), .second, .val (.double (FP.dadd (FP.l2d (a % (4000000000000 : Int64))) (4602678819172646912 : UInt64))), .second, .unset] [(.int (lcmpW (a % (4000000000000 : Int64)) (999999999999 : Int64)))])) _
    refine XS.ifNo X0.here hx rfl (hb hby at_91) rfl ((if0 _ _).trans (flt hc91).2.2.1) ?_
    show Steps p.tables e below (s₁.setTop (mkF m 94 #[.val (.long a), .second, .val (.int fl), .val (.long (a % (4000000000000 : Int64))), .second, .val (.int (0 : Int32)), .val (.int (1 : Int32)), .val (.long (a % (4000000000000 : Int64))), .second, .val (.double (FP.dadd (FP.l2d (a % (4000000000000 : Int64))) (4602678819172646912 : UInt64))), .second, .unset] [])) _
    refine XS.iconst X0.here hx rfl (hb hby at_94) ?_
    show Steps p.tables e below (s₁.setTop (mkF m 95 #[.val (.long a), .second, .val (.int fl), .val (.long (a % (4000000000000 : Int64))), .second, .val (.int (0 : Int32)), .val (.int (1 : Int32)), .val (.long (a % (4000000000000 : Int64))), .second, .val (.double (FP.dadd (FP.l2d (a % (4000000000000 : Int64))) (4602678819172646912 : UInt64))), .second, .unset] [(.int (1 : Int32))])) _
    refine XS.goto X0.here hx rfl (pc0 := 95) (pc' := 99) rfl (hb hby at_95) (by decide) (by decide) ?_
    show Steps p.tables e below (s₁.setTop (mkF m 99 #[.val (.long a), .second, .val (.int fl), .val (.long (a % (4000000000000 : Int64))), .second, .val (.int (0 : Int32)), .val (.int (1 : Int32)), .val (.long (a % (4000000000000 : Int64))), .second, .val (.double (FP.dadd (FP.l2d (a % (4000000000000 : Int64))) (4602678819172646912 : UInt64))), .second, .unset] [(.int (1 : Int32))])) _
    refine XS.istore X0.here hx rfl (hb hby at_99) rfl (l' := #[.val (.long a), .second, .val (.int fl), .val (.long (a % (4000000000000 : Int64))), .second, .val (.int (0 : Int32)), .val (.int (1 : Int32)), .val (.long (a % (4000000000000 : Int64))), .second, .val (.double (FP.dadd (FP.l2d (a % (4000000000000 : Int64))) (4602678819172646912 : UInt64))), .second, .val (.int (1 : Int32))]) rfl ?_
    show Steps p.tables e below (s₁.setTop (mkF m 101 #[.val (.long a), .second, .val (.int fl), .val (.long (a % (4000000000000 : Int64))), .second, .val (.int (0 : Int32)), .val (.int (1 : Int32)), .val (.long (a % (4000000000000 : Int64))), .second, .val (.double (FP.dadd (FP.l2d (a % (4000000000000 : Int64))) (4602678819172646912 : UInt64))), .second, .val (.int (1 : Int32))] [])) _
    refine XS.goto X0.here hx rfl (pc0 := 101) (pc' := 127) rfl (hb hby at_101) (by decide) (by decide) ?_
    show Steps p.tables e below (s₁.setTop (mkF m 127 #[.val (.long a), .second, .val (.int fl), .val (.long (a % (4000000000000 : Int64))), .second, .val (.int (0 : Int32)), .val (.int (1 : Int32)), .val (.long (a % (4000000000000 : Int64))), .second, .val (.double (FP.dadd (FP.l2d (a % (4000000000000 : Int64))) (4602678819172646912 : UInt64))), .second, .val (.int (1 : Int32))] [])) _
    refine XS.dload X0.here hx rfl (hb hby at_127) rfl ?_
    show Steps p.tables e below (s₁.setTop (mkF m 129 #[.val (.long a), .second, .val (.int fl), .val (.long (a % (4000000000000 : Int64))), .second, .val (.int (0 : Int32)), .val (.int (1 : Int32)), .val (.long (a % (4000000000000 : Int64))), .second, .val (.double (FP.dadd (FP.l2d (a % (4000000000000 : Int64))) (4602678819172646912 : UInt64))), .second, .val (.int (1 : Int32))] [(.double (FP.dadd (FP.l2d (a % (4000000000000 : Int64))) (4602678819172646912 : UInt64)))])) _
    refine st6 _ ?_
    show Steps p.tables e below (T6.setTop (mkF m 132 #[.val (.long a), .second, .val (.int fl), .val (.long (a % (4000000000000 : Int64))), .second, .val (.int (0 : Int32)), .val (.int (1 : Int32)), .val (.long (a % (4000000000000 : Int64))), .second, .val (.double (FP.dadd (FP.l2d (a % (4000000000000 : Int64))) (4602678819172646912 : UInt64))), .second, .val (.int (1 : Int32))] [(.int (isC (FP.dadd (FP.l2d (a % (4000000000000 : Int64))) (4602678819172646912 : UInt64))))])) _
    refine XS.iload X6.here hx rfl (hb hby at_132) rfl ?_
    show Steps p.tables e below (T6.setTop (mkF m 134 #[.val (.long a), .second, .val (.int fl), .val (.long (a % (4000000000000 : Int64))), .second, .val (.int (0 : Int32)), .val (.int (1 : Int32)), .val (.long (a % (4000000000000 : Int64))), .second, .val (.double (FP.dadd (FP.l2d (a % (4000000000000 : Int64))) (4602678819172646912 : UInt64))), .second, .val (.int (1 : Int32))] [(.int (1 : Int32)), (.int (isC (FP.dadd (FP.l2d (a % (4000000000000 : Int64))) (4602678819172646912 : UInt64))))])) _
    refine XS.icmpNo X6.here hx rfl (hb hby at_134) rfl (teq hc134).2 ?_
    show Steps p.tables e below (T6.setTop (mkF m 137 #[.val (.long a), .second, .val (.int fl), .val (.long (a % (4000000000000 : Int64))), .second, .val (.int (0 : Int32)), .val (.int (1 : Int32)), .val (.long (a % (4000000000000 : Int64))), .second, .val (.double (FP.dadd (FP.l2d (a % (4000000000000 : Int64))) (4602678819172646912 : UInt64))), .second, .val (.int (1 : Int32))] [])) _
    refine XS.iconst X6.here hx rfl (hb hby at_137) ?_
    show Steps p.tables e below (T6.setTop (mkF m 138 #[.val (.long a), .second, .val (.int fl), .val (.long (a % (4000000000000 : Int64))), .second, .val (.int (0 : Int32)), .val (.int (1 : Int32)), .val (.long (a % (4000000000000 : Int64))), .second, .val (.double (FP.dadd (FP.l2d (a % (4000000000000 : Int64))) (4602678819172646912 : UInt64))), .second, .val (.int (1 : Int32))] [(.int (1 : Int32))])) _
    refine XS.goto X6.here hx rfl (pc0 := 138) (pc' := 142) rfl (hb hby at_138) (by decide) (by decide) ?_
    show Steps p.tables e below (T6.setTop (mkF m 142 #[.val (.long a), .second, .val (.int fl), .val (.long (a % (4000000000000 : Int64))), .second, .val (.int (0 : Int32)), .val (.int (1 : Int32)), .val (.long (a % (4000000000000 : Int64))), .second, .val (.double (FP.dadd (FP.l2d (a % (4000000000000 : Int64))) (4602678819172646912 : UInt64))), .second, .val (.int (1 : Int32))] [(.int (1 : Int32))])) _
    exact retN X6 hx (t := .boolean) Bd.returns (by simp) (hb hby at_142) hr
  · show Q0 a fl h0 n0 _ T6.heap _
    rw [e6]
    exact ⟨rfl, N6⟩
set_option maxRecDepth 65536 in
set_option maxHeartbeats 40000000 in
theorem rm0_10t (l : Launch) (Z : State) (a0 : Array Value) (hw : ∀ d ∈ tables_1, d.before a0 Z = true) (ws : List Jvm.Cond) (a : Int64) (fl : Int32)  (h0 : Heap) (n0 : Nat) (Z0 : n0 ≤ h0.size)  (hc9 : ¬ ((fl &&& (1 : Int32)) = (0 : Int32))) (hc22 : (fl &&& (2 : Int32)) = (0 : Int32)) (hc108 : (lcmpW (-(a % (4000000000000 : Int64))) (0 : Int64)) < (0 : Int32)) (hc134 : (isC (FP.dneg (FP.l2d (a % (4000000000000 : Int64))))) = (0 : Int32)) :
    MetFree l x (head1 (Jvm.Cond.code x code maxLocals ret :: ws) room_1) (fun aa U => aa = #[(.long a), (.int fl)] ∧ Z.Warmed39 U.vm ∧ U.heap = h0) (fun _ _ _ _ _ => True) (fun _ U o U' => ∃ v L, o = .returned v ∧ Q0 a fl h0 n0 v U'.heap L ∧ FrameEnd U o U' L room_1.cells room_1.slots) := by
  refine MetFree.of_bodySF (plainFor_of_name pn_0) hisR ?_
  intro p e s m args below meth c s₁ Bd hml0 hP hK
  obtain ⟨rfl, hZ, hh⟩ := hP
  have hx := Bd.exec
  have hby := Bd.bytes
  have hml : c.maxLocals = 12 := hml0
  have hown : s.vm.findClass "com/example/metered_demand/metereddemand/model/MeasurementIsCountPinLaw" = some m.cls := findClass_of_methodNamed Bd.named
  have hnm := (name_of_methodNamed Bd.named Bd.method).1
  have X0 : Stand p l e room_1 s m #[(.long a), (.int fl)] below meth c s₁ [] 0 0 := Stand.of_body Bd
  have e0 : s₁.heap = h0 := by rw [← hh, Bd.state]; rfl
  have N0 := Fr.nil n0
  have pre0 : ∀ t, Steps p.tables e below (s₁.setTop (mkF m 0 #[.val (.long a), .second, .val (.int fl), .unset, .unset, .unset, .unset, .unset, .unset, .unset, .unset, .unset] [])) t → Steps p.tables e below (s₁.setTop (entryFrame m #[(.long a), (.int fl)] maxLocals)) t := fun t k => castTop (ef_0 m a fl) k
  obtain ⟨_, _, ⟨T7, L7, k7, n7⟩, -, X7, ⟨Lc7, hQ7, l7, y7, z7⟩, st7⟩ := Jvm.LawKit.callS X0 hx (y := (⟨"com/example/metered_demand/metereddemand/model/Measurement", "isCount", "(D)Z"⟩ : MethodName)) hown (mvT hZ (hw _ (List.mem_of_getElem? (i := 3) rfl))) (mvT hZ (hw _ (List.mem_of_getElem? (i := 4) rfl))) (mvT hZ (hw _ (List.mem_of_getElem? (i := 5) rfl))) (mvT hZ (hw _ (List.mem_of_getElem? (i := 6) rfl))) (by decide) (backOf (W := 0) (rm1 l Z a0 hw [] (FP.dneg (FP.l2d (a % (4000000000000 : Int64)))) h0 n0 Z0) hZ (hw _ (List.mem_of_getElem? (i := 6) rfl)) (hw _ (List.mem_of_getElem? (i := 5) rfl)) (by decide) (by decide)) (g := (mkF m 129 #[.val (.long a), .second, .val (.int fl), .val (.long (a % (4000000000000 : Int64))), .second, .val (.int (1 : Int32)), .val (.int (0 : Int32)), .val (.long (-(a % (4000000000000 : Int64)))), .second, .val (.double (FP.dneg (FP.l2d (a % (4000000000000 : Int64))))), .second, .val (.int (0 : Int32))] [(.double (FP.dneg (FP.l2d (a % (4000000000000 : Int64)))))])) rfl (by rw [hml]; rfl) (argsL := [(.double (FP.dneg (FP.l2d (a % (4000000000000 : Int64)))))]) (rest := []) (lenOf pd_0 rfl) rfl (by show 2 * 0 + _ ≤ _; exact Nat.le_of_eq rfl) (hb hby at_129) (fun _ _ => ⟨rfl, e0, (by decide : 0 + 0 ≤ _), (by decide : 0 + 0 ≤ _)⟩)
  dsimp only [Pt.U, Pt.locs, Pt.cells, Pt.slots] at X7 l7 y7 z7 st7 hQ7
  subst l7 y7 z7
  obtain ⟨rfl, N7q, e7⟩ := hQ7
  have N7 := Fr.app N0 N7q
  obtain ⟨fs, hr, hrun, hended, hW, hsame⟩ := X7.leave (v := some (.int (1 : Int32))) (fun h => by rw [Bd.returns] at h; cases h)
  refine ⟨_, _, pre0 _ ?_, hrun, hended, _, _, rfl, ?_, ⟨_, rfl⟩, hW, hsame.mono (by decide) (by decide)⟩
  · show Steps p.tables e below (s₁.setTop (mkF m 0 #[.val (.long a), .second, .val (.int fl), .unset, .unset, .unset, .unset, .unset, .unset, .unset, .unset, .unset] [])) _
    refine XS.lloadN X0.here hx rfl (hb hby at_0) rfl ?_
    show Steps p.tables e below (s₁.setTop (mkF m 1 #[.val (.long a), .second, .val (.int fl), .unset, .unset, .unset, .unset, .unset, .unset, .unset, .unset, .unset] [(.long a)])) _
    refine X0.ldc2Long hx hown (mvT hZ (hw _ (List.mem_of_getElem? (i := 0) rfl))) (g := (mkF m 1 #[.val (.long a), .second, .val (.int fl), .unset, .unset, .unset, .unset, .unset, .unset, .unset, .unset, .unset] [(.long a)])) rfl (hb hby at_1) _ ?_
    show Steps p.tables e below (s₁.setTop (mkF m 4 #[.val (.long a), .second, .val (.int fl), .unset, .unset, .unset, .unset, .unset, .unset, .unset, .unset, .unset] [(.long (4000000000000 : Int64)), (.long a)])) _
    refine gwLrem X0.here hx rfl (hb hby at_4) rfl (by decide : ¬ ((4000000000000 : Int64) = (0 : Int64))) ?_
    show Steps p.tables e below (s₁.setTop (mkF m 5 #[.val (.long a), .second, .val (.int fl), .unset, .unset, .unset, .unset, .unset, .unset, .unset, .unset, .unset] [(.long (a % (4000000000000 : Int64)))])) _
    refine XS.lstoreN X0.here hx rfl (hb hby at_5) rfl (l' := #[.val (.long a), .second, .val (.int fl), .val (.long (a % (4000000000000 : Int64))), .second, .unset, .unset, .unset, .unset, .unset, .unset, .unset]) rfl ?_
    show Steps p.tables e below (s₁.setTop (mkF m 6 #[.val (.long a), .second, .val (.int fl), .val (.long (a % (4000000000000 : Int64))), .second, .unset, .unset, .unset, .unset, .unset, .unset, .unset] [])) _
    refine XS.iloadN X0.here hx rfl (hb hby at_6) rfl ?_
    show Steps p.tables e below (s₁.setTop (mkF m 7 #[.val (.long a), .second, .val (.int fl), .val (.long (a % (4000000000000 : Int64))), .second, .unset, .unset, .unset, .unset, .unset, .unset, .unset] [(.int fl)])) _
    refine XS.iconst X0.here hx rfl (hb hby at_7) ?_
    show Steps p.tables e below (s₁.setTop (mkF m 8 #[.val (.long a), .second, .val (.int fl), .val (.long (a % (4000000000000 : Int64))), .second, .unset, .unset, .unset, .unset, .unset, .unset, .unset] [(.int (1 : Int32)), (.int fl)])) _
    refine XS.iand X0.here hx rfl (hb hby at_8) rfl ?_
    show Steps p.tables e below (s₁.setTop (mkF m 9 #[.val (.long a), .second, .val (.int fl), .val (.long (a % (4000000000000 : Int64))), .second, .unset, .unset, .unset, .unset, .unset, .unset, .unset] [(.int (fl &&& (1 : Int32)))])) _
    refine XS.ifNo X0.here hx rfl (hb hby at_9) rfl ((if0 _ _).trans (feq hc9).1) ?_
    show Steps p.tables e below (s₁.setTop (mkF m 12 #[.val (.long a), .second, .val (.int fl), .val (.long (a % (4000000000000 : Int64))), .second, .unset, .unset, .unset, .unset, .unset, .unset, .unset] [])) _
    refine XS.iconst X0.here hx rfl (hb hby at_12) ?_
    show Steps p.tables e below (s₁.setTop (mkF m 13 #[.val (.long a), .second, .val (.int fl), .val (.long (a % (4000000000000 : Int64))), .second, .unset, .unset, .unset, .unset, .unset, .unset, .unset] [(.int (1 : Int32))])) _
    refine XS.goto X0.here hx rfl (pc0 := 13) (pc' := 17) rfl (hb hby at_13) (by decide) (by decide) ?_
    show Steps p.tables e below (s₁.setTop (mkF m 17 #[.val (.long a), .second, .val (.int fl), .val (.long (a % (4000000000000 : Int64))), .second, .unset, .unset, .unset, .unset, .unset, .unset, .unset] [(.int (1 : Int32))])) _
    refine XS.istore X0.here hx rfl (hb hby at_17) rfl (l' := #[.val (.long a), .second, .val (.int fl), .val (.long (a % (4000000000000 : Int64))), .second, .val (.int (1 : Int32)), .unset, .unset, .unset, .unset, .unset, .unset]) rfl ?_
    show Steps p.tables e below (s₁.setTop (mkF m 19 #[.val (.long a), .second, .val (.int fl), .val (.long (a % (4000000000000 : Int64))), .second, .val (.int (1 : Int32)), .unset, .unset, .unset, .unset, .unset, .unset] [])) _
    refine XS.iloadN X0.here hx rfl (hb hby at_19) rfl ?_
    show Steps p.tables e below (s₁.setTop (mkF m 20 #[.val (.long a), .second, .val (.int fl), .val (.long (a % (4000000000000 : Int64))), .second, .val (.int (1 : Int32)), .unset, .unset, .unset, .unset, .unset, .unset] [(.int fl)])) _
    refine XS.iconst X0.here hx rfl (hb hby at_20) ?_
    show Steps p.tables e below (s₁.setTop (mkF m 21 #[.val (.long a), .second, .val (.int fl), .val (.long (a % (4000000000000 : Int64))), .second, .val (.int (1 : Int32)), .unset, .unset, .unset, .unset, .unset, .unset] [(.int (2 : Int32)), (.int fl)])) _
    refine XS.iand X0.here hx rfl (hb hby at_21) rfl ?_
    show Steps p.tables e below (s₁.setTop (mkF m 22 #[.val (.long a), .second, .val (.int fl), .val (.long (a % (4000000000000 : Int64))), .second, .val (.int (1 : Int32)), .unset, .unset, .unset, .unset, .unset, .unset] [(.int (fl &&& (2 : Int32)))])) _
    refine XS.ifYes X0.here hx rfl (pc0 := 22) (pc' := 29) rfl (hb hby at_22) rfl ((if0 _ _).trans (teq hc22).1) (by decide) (by decide) ?_
    show Steps p.tables e below (s₁.setTop (mkF m 29 #[.val (.long a), .second, .val (.int fl), .val (.long (a % (4000000000000 : Int64))), .second, .val (.int (1 : Int32)), .unset, .unset, .unset, .unset, .unset, .unset] [])) _
    refine XS.iconst X0.here hx rfl (hb hby at_29) ?_
    show Steps p.tables e below (s₁.setTop (mkF m 30 #[.val (.long a), .second, .val (.int fl), .val (.long (a % (4000000000000 : Int64))), .second, .val (.int (1 : Int32)), .unset, .unset, .unset, .unset, .unset, .unset] [(.int (0 : Int32))])) _
    refine XS.istore X0.here hx rfl (hb hby at_30) rfl (l' := #[.val (.long a), .second, .val (.int fl), .val (.long (a % (4000000000000 : Int64))), .second, .val (.int (1 : Int32)), .val (.int (0 : Int32)), .unset, .unset, .unset, .unset, .unset]) rfl ?_
    show Steps p.tables e below (s₁.setTop (mkF m 32 #[.val (.long a), .second, .val (.int fl), .val (.long (a % (4000000000000 : Int64))), .second, .val (.int (1 : Int32)), .val (.int (0 : Int32)), .unset, .unset, .unset, .unset, .unset] [])) _
    refine XS.iload X0.here hx rfl (hb hby at_32) rfl ?_
    show Steps p.tables e below (s₁.setTop (mkF m 34 #[.val (.long a), .second, .val (.int fl), .val (.long (a % (4000000000000 : Int64))), .second, .val (.int (1 : Int32)), .val (.int (0 : Int32)), .unset, .unset, .unset, .unset, .unset] [(.int (1 : Int32))])) _
    refine XS.ifNo X0.here hx rfl (hb hby at_34) rfl ((if0 _ _).trans (feq (by decide : ¬ ((1 : Int32) = (0 : Int32)))).1) ?_
    show Steps p.tables e below (s₁.setTop (mkF m 37 #[.val (.long a), .second, .val (.int fl), .val (.long (a % (4000000000000 : Int64))), .second, .val (.int (1 : Int32)), .val (.int (0 : Int32)), .unset, .unset, .unset, .unset, .unset] [])) _
    refine XS.lloadN X0.here hx rfl (hb hby at_37) rfl ?_
    show Steps p.tables e below (s₁.setTop (mkF m 38 #[.val (.long a), .second, .val (.int fl), .val (.long (a % (4000000000000 : Int64))), .second, .val (.int (1 : Int32)), .val (.int (0 : Int32)), .unset, .unset, .unset, .unset, .unset] [(.long (a % (4000000000000 : Int64)))])) _
    refine XS.lneg X0.here hx rfl (hb hby at_38) rfl ?_
    show Steps p.tables e below (s₁.setTop (mkF m 39 #[.val (.long a), .second, .val (.int fl), .val (.long (a % (4000000000000 : Int64))), .second, .val (.int (1 : Int32)), .val (.int (0 : Int32)), .unset, .unset, .unset, .unset, .unset] [(.long (-(a % (4000000000000 : Int64))))])) _
    refine XS.goto X0.here hx rfl (pc0 := 39) (pc' := 43) rfl (hb hby at_39) (by decide) (by decide) ?_
    show Steps p.tables e below (s₁.setTop (mkF m 43 #[.val (.long a), .second, .val (.int fl), .val (.long (a % (4000000000000 : Int64))), .second, .val (.int (1 : Int32)), .val (.int (0 : Int32)), .unset, .unset, .unset, .unset, .unset] [(.long (-(a % (4000000000000 : Int64))))])) _
    refine XS.lstore X0.here hx rfl (hb hby at_43) rfl (l' := #[.val (.long a), .second, .val (.int fl), .val (.long (a % (4000000000000 : Int64))), .second, .val (.int (1 : Int32)), .val (.int (0 : Int32)), .val (.long (-(a % (4000000000000 : Int64)))), .second, .unset, .unset, .unset]) rfl ?_
    show Steps p.tables e below (s₁.setTop (mkF m 45 #[.val (.long a), .second, .val (.int fl), .val (.long (a % (4000000000000 : Int64))), .second, .val (.int (1 : Int32)), .val (.int (0 : Int32)), .val (.long (-(a % (4000000000000 : Int64)))), .second, .unset, .unset, .unset] [])) _
    refine XS.iload X0.here hx rfl (hb hby at_45) rfl ?_
    show Steps p.tables e below (s₁.setTop (mkF m 47 #[.val (.long a), .second, .val (.int fl), .val (.long (a % (4000000000000 : Int64))), .second, .val (.int (1 : Int32)), .val (.int (0 : Int32)), .val (.long (-(a % (4000000000000 : Int64)))), .second, .unset, .unset, .unset] [(.int (1 : Int32))])) _
    refine XS.ifNo X0.here hx rfl (hb hby at_47) rfl ((if0 _ _).trans (feq (by decide : ¬ ((1 : Int32) = (0 : Int32)))).1) ?_
    show Steps p.tables e below (s₁.setTop (mkF m 50 #[.val (.long a), .second, .val (.int fl), .val (.long (a % (4000000000000 : Int64))), .second, .val (.int (1 : Int32)), .val (.int (0 : Int32)), .val (.long (-(a % (4000000000000 : Int64)))), .second, .unset, .unset, .unset] [])) _
    refine XS.lloadN X0.here hx rfl (hb hby at_50) rfl ?_
    show Steps p.tables e below (s₁.setTop (mkF m 51 #[.val (.long a), .second, .val (.int fl), .val (.long (a % (4000000000000 : Int64))), .second, .val (.int (1 : Int32)), .val (.int (0 : Int32)), .val (.long (-(a % (4000000000000 : Int64)))), .second, .unset, .unset, .unset] [(.long (a % (4000000000000 : Int64)))])) _
    refine XS.l2dS X0.here hx rfl (hb hby at_51) rfl rfl ?_
    show Steps p.tables e below (s₁.setTop (mkF m 52 #[.val (.long a), .second, .val (.int fl), .val (.long (a % (4000000000000 : Int64))), .second, .val (.int (1 : Int32)), .val (.int (0 : Int32)), .val (.long (-(a % (4000000000000 : Int64)))), .second, .unset, .unset, .unset] [(.double (FP.l2d (a % (4000000000000 : Int64))))])) _
    refine XS.dnegS X0.here hx rfl (hb hby at_52) rfl rfl ?_
    show Steps p.tables e below (s₁.setTop (mkF m 53 #[.val (.long a), .second, .val (.int fl), .val (.long (a % (4000000000000 : Int64))), .second, .val (.int (1 : Int32)), .val (.int (0 : Int32)), .val (.long (-(a % (4000000000000 : Int64)))), .second, .unset, .unset, .unset] [(.double (FP.dneg (FP.l2d (a % (4000000000000 : Int64)))))])) _
    refine XS.goto X0.here hx rfl (pc0 := 53) (pc' := 58) rfl (hb hby at_53) (by decide) (by decide) ?_
    show Steps p.tables e below (s₁.setTop (mkF m 58 #[.val (.long a), .second, .val (.int fl), .val (.long (a % (4000000000000 : Int64))), .second, .val (.int (1 : Int32)), .val (.int (0 : Int32)), .val (.long (-(a % (4000000000000 : Int64)))), .second, .unset, .unset, .unset] [(.double (FP.dneg (FP.l2d (a % (4000000000000 : Int64)))))])) _
    refine XS.dstore X0.here hx rfl (hb hby at_58) rfl (l' := #[.val (.long a), .second, .val (.int fl), .val (.long (a % (4000000000000 : Int64))), .second, .val (.int (1 : Int32)), .val (.int (0 : Int32)), .val (.long (-(a % (4000000000000 : Int64)))), .second, .val (.double (FP.dneg (FP.l2d (a % (4000000000000 : Int64))))), .second, .unset]) rfl ?_
    show Steps p.tables e below (s₁.setTop (mkF m 60 #[.val (.long a), .second, .val (.int fl), .val (.long (a % (4000000000000 : Int64))), .second, .val (.int (1 : Int32)), .val (.int (0 : Int32)), .val (.long (-(a % (4000000000000 : Int64)))), .second, .val (.double (FP.dneg (FP.l2d (a % (4000000000000 : Int64))))), .second, .unset] [])) _
    refine XS.iload X0.here hx rfl (hb hby at_60) rfl ?_
    show Steps p.tables e below (s₁.setTop (mkF m 62 #[.val (.long a), .second, .val (.int fl), .val (.long (a % (4000000000000 : Int64))), .second, .val (.int (1 : Int32)), .val (.int (0 : Int32)), .val (.long (-(a % (4000000000000 : Int64)))), .second, .val (.double (FP.dneg (FP.l2d (a % (4000000000000 : Int64))))), .second, .unset] [(.int (0 : Int32))])) _
    refine XS.ifYes X0.here hx rfl (pc0 := 62) (pc' := 73) rfl (hb hby at_62) rfl ((if0 _ _).trans (teq (rfl : (0 : Int32) = (0 : Int32))).1) (by decide) (by decide) ?_
    show Steps p.tables e below (s₁.setTop (mkF m 73 #[.val (.long a), .second, .val (.int fl), .val (.long (a % (4000000000000 : Int64))), .second, .val (.int (1 : Int32)), .val (.int (0 : Int32)), .val (.long (-(a % (4000000000000 : Int64)))), .second, .val (.double (FP.dneg (FP.l2d (a % (4000000000000 : Int64))))), .second, .unset] [])) _
    refine XS.iload X0.here hx rfl (hb hby at_73) rfl ?_
    show Steps p.tables e below (s₁.setTop (mkF m 75 #[.val (.long a), .second, .val (.int fl), .val (.long (a % (4000000000000 : Int64))), .second, .val (.int (1 : Int32)), .val (.int (0 : Int32)), .val (.long (-(a % (4000000000000 : Int64)))), .second, .val (.double (FP.dneg (FP.l2d (a % (4000000000000 : Int64))))), .second, .unset] [(.int (0 : Int32))])) _
    refine XS.ifYes X0.here hx rfl (pc0 := 75) (pc' := 104) rfl (hb hby at_75) rfl ((if0 _ _).trans (teq (rfl : (0 : Int32) = (0 : Int32))).1) (by decide) (by decide) ?_
    show Steps p.tables e below (s₁.setTop (mkF m 104 #[.val (.long a), .second, .val (.int fl), .val (.long (a % (4000000000000 : Int64))), .second, .val (.int (1 : Int32)), .val (.int (0 : Int32)), .val (.long (-(a % (4000000000000 : Int64)))), .second, .val (.double (FP.dneg (FP.l2d (a % (4000000000000 : Int64))))), .second, .unset] [])) _
    refine XS.lload X0.here hx rfl (hb hby at_104) rfl ?_
    show Steps p.tables e below (s₁.setTop (mkF m 106 #[.val (.long a), .second, .val (.int fl), .val (.long (a % (4000000000000 : Int64))), .second, .val (.int (1 : Int32)), .val (.int (0 : Int32)), .val (.long (-(a % (4000000000000 : Int64)))), .second, .val (.double (FP.dneg (FP.l2d (a % (4000000000000 : Int64))))), .second, .unset] [(.long (-(a % (4000000000000 : Int64))))])) _
    refine XS.lconst X0.here hx rfl (hb hby at_106) ?_
    show Steps p.tables e below (s₁.setTop (mkF m 107 #[.val (.long a), .second, .val (.int fl), .val (.long (a % (4000000000000 : Int64))), .second, .val (.int (1 : Int32)), .val (.int (0 : Int32)), .val (.long (-(a % (4000000000000 : Int64)))), .second, .val (.double (FP.dneg (FP.l2d (a % (4000000000000 : Int64))))), .second, .unset] [(.long (0 : Int64)), (.long (-(a % (4000000000000 : Int64))))])) _
    refine XS.lcmp X0.here hx rfl (hb hby at_107) rfl ?_
    show Steps p.tables e below (s₁.setTop (mkF m 108 #[.val (.long a), .second, .val (.int fl), .val (.long (a % (4000000000000 : Int64))), .second, .val (.int (1 : Int32)), .val (.int (0 : Int32)), .val (.long (-(a % (4000000000000 : Int64)))), .second, .val (.double (FP.dneg (FP.l2d (a % (4000000000000 : Int64))))), .second, .unset] [(.int (lcmpW (-(a % (4000000000000 : Int64))) (0 : Int64)))])) _
    refine XS.ifYes X0.here hx rfl (pc0 := 108) (pc' := 124) rfl (hb hby at_108) rfl ((if0 _ _).trans (tlt hc108).1) (by decide) (by decide) ?_
    show Steps p.tables e below (s₁.setTop (mkF m 124 #[.val (.long a), .second, .val (.int fl), .val (.long (a % (4000000000000 : Int64))), .second, .val (.int (1 : Int32)), .val (.int (0 : Int32)), .val (.long (-(a % (4000000000000 : Int64)))), .second, .val (.double (FP.dneg (FP.l2d (a % (4000000000000 : Int64))))), .second, .unset] [])) _
    refine XS.iconst X0.here hx rfl (hb hby at_124) ?_
    show Steps p.tables e below (s₁.setTop (mkF m 125 #[.val (.long a), .second, .val (.int fl), .val (.long (a % (4000000000000 : Int64))), .second, .val (.int (1 : Int32)), .val (.int (0 : Int32)), .val (.long (-(a % (4000000000000 : Int64)))), .second, .val (.double (FP.dneg (FP.l2d (a % (4000000000000 : Int64))))), .second, .unset] [(.int (0 : Int32))])) _
    refine XS.istore X0.here hx rfl (hb hby at_125) rfl (l' := #[.val (.long a), .second, .val (.int fl), .val (.long (a % (4000000000000 : Int64))), .second, .val (.int (1 : Int32)), .val (.int (0 : Int32)), .val (.long (-(a % (4000000000000 : Int64)))), .second, .val (.double (FP.dneg (FP.l2d (a % (4000000000000 : Int64))))), .second, .val (.int (0 : Int32))]) rfl ?_
    show Steps p.tables e below (s₁.setTop (mkF m 127 #[.val (.long a), .second, .val (.int fl), .val (.long (a % (4000000000000 : Int64))), .second, .val (.int (1 : Int32)), .val (.int (0 : Int32)), .val (.long (-(a % (4000000000000 : Int64)))), .second, .val (.double (FP.dneg (FP.l2d (a % (4000000000000 : Int64))))), .second, .val (.int (0 : Int32))] [])) _
    refine XS.dload X0.here hx rfl (hb hby at_127) rfl ?_
    show Steps p.tables e below (s₁.setTop (mkF m 129 #[.val (.long a), .second, .val (.int fl), .val (.long (a % (4000000000000 : Int64))), .second, .val (.int (1 : Int32)), .val (.int (0 : Int32)), .val (.long (-(a % (4000000000000 : Int64)))), .second, .val (.double (FP.dneg (FP.l2d (a % (4000000000000 : Int64))))), .second, .val (.int (0 : Int32))] [(.double (FP.dneg (FP.l2d (a % (4000000000000 : Int64)))))])) _
    refine st7 _ ?_
    show Steps p.tables e below (T7.setTop (mkF m 132 #[.val (.long a), .second, .val (.int fl), .val (.long (a % (4000000000000 : Int64))), .second, .val (.int (1 : Int32)), .val (.int (0 : Int32)), .val (.long (-(a % (4000000000000 : Int64)))), .second, .val (.double (FP.dneg (FP.l2d (a % (4000000000000 : Int64))))), .second, .val (.int (0 : Int32))] [(.int (isC (FP.dneg (FP.l2d (a % (4000000000000 : Int64))))))])) _
    refine XS.iload X7.here hx rfl (hb hby at_132) rfl ?_
    show Steps p.tables e below (T7.setTop (mkF m 134 #[.val (.long a), .second, .val (.int fl), .val (.long (a % (4000000000000 : Int64))), .second, .val (.int (1 : Int32)), .val (.int (0 : Int32)), .val (.long (-(a % (4000000000000 : Int64)))), .second, .val (.double (FP.dneg (FP.l2d (a % (4000000000000 : Int64))))), .second, .val (.int (0 : Int32))] [(.int (0 : Int32)), (.int (isC (FP.dneg (FP.l2d (a % (4000000000000 : Int64))))))])) _
    refine XS.icmpNo X7.here hx rfl (hb hby at_134) rfl (teq hc134).2 ?_
    show Steps p.tables e below (T7.setTop (mkF m 137 #[.val (.long a), .second, .val (.int fl), .val (.long (a % (4000000000000 : Int64))), .second, .val (.int (1 : Int32)), .val (.int (0 : Int32)), .val (.long (-(a % (4000000000000 : Int64)))), .second, .val (.double (FP.dneg (FP.l2d (a % (4000000000000 : Int64))))), .second, .val (.int (0 : Int32))] [])) _
    refine XS.iconst X7.here hx rfl (hb hby at_137) ?_
    show Steps p.tables e below (T7.setTop (mkF m 138 #[.val (.long a), .second, .val (.int fl), .val (.long (a % (4000000000000 : Int64))), .second, .val (.int (1 : Int32)), .val (.int (0 : Int32)), .val (.long (-(a % (4000000000000 : Int64)))), .second, .val (.double (FP.dneg (FP.l2d (a % (4000000000000 : Int64))))), .second, .val (.int (0 : Int32))] [(.int (1 : Int32))])) _
    refine XS.goto X7.here hx rfl (pc0 := 138) (pc' := 142) rfl (hb hby at_138) (by decide) (by decide) ?_
    show Steps p.tables e below (T7.setTop (mkF m 142 #[.val (.long a), .second, .val (.int fl), .val (.long (a % (4000000000000 : Int64))), .second, .val (.int (1 : Int32)), .val (.int (0 : Int32)), .val (.long (-(a % (4000000000000 : Int64)))), .second, .val (.double (FP.dneg (FP.l2d (a % (4000000000000 : Int64))))), .second, .val (.int (0 : Int32))] [(.int (1 : Int32))])) _
    exact retN X7 hx (t := .boolean) Bd.returns (by simp) (hb hby at_142) hr
  · show Q0 a fl h0 n0 _ T7.heap _
    rw [e7]
    exact ⟨rfl, N7⟩
set_option maxRecDepth 65536 in
set_option maxHeartbeats 40000000 in
theorem rm0_10ft (l : Launch) (Z : State) (a0 : Array Value) (hw : ∀ d ∈ tables_1, d.before a0 Z = true) (ws : List Jvm.Cond) (a : Int64) (fl : Int32)  (h0 : Heap) (n0 : Nat) (Z0 : n0 ≤ h0.size)  (hc9 : ¬ ((fl &&& (1 : Int32)) = (0 : Int32))) (hc22 : (fl &&& (2 : Int32)) = (0 : Int32)) (hc108 : ¬ ((lcmpW (-(a % (4000000000000 : Int64))) (0 : Int64)) < (0 : Int32))) (hc117 : (0 : Int32) < (lcmpW (-(a % (4000000000000 : Int64))) (1000000000000 : Int64))) (hc134 : (isC (FP.dneg (FP.l2d (a % (4000000000000 : Int64))))) = (0 : Int32)) :
    MetFree l x (head1 (Jvm.Cond.code x code maxLocals ret :: ws) room_1) (fun aa U => aa = #[(.long a), (.int fl)] ∧ Z.Warmed39 U.vm ∧ U.heap = h0) (fun _ _ _ _ _ => True) (fun _ U o U' => ∃ v L, o = .returned v ∧ Q0 a fl h0 n0 v U'.heap L ∧ FrameEnd U o U' L room_1.cells room_1.slots) := by
  refine MetFree.of_bodySF (plainFor_of_name pn_0) hisR ?_
  intro p e s m args below meth c s₁ Bd hml0 hP hK
  obtain ⟨rfl, hZ, hh⟩ := hP
  have hx := Bd.exec
  have hby := Bd.bytes
  have hml : c.maxLocals = 12 := hml0
  have hown : s.vm.findClass "com/example/metered_demand/metereddemand/model/MeasurementIsCountPinLaw" = some m.cls := findClass_of_methodNamed Bd.named
  have hnm := (name_of_methodNamed Bd.named Bd.method).1
  have X0 : Stand p l e room_1 s m #[(.long a), (.int fl)] below meth c s₁ [] 0 0 := Stand.of_body Bd
  have e0 : s₁.heap = h0 := by rw [← hh, Bd.state]; rfl
  have N0 := Fr.nil n0
  have pre0 : ∀ t, Steps p.tables e below (s₁.setTop (mkF m 0 #[.val (.long a), .second, .val (.int fl), .unset, .unset, .unset, .unset, .unset, .unset, .unset, .unset, .unset] [])) t → Steps p.tables e below (s₁.setTop (entryFrame m #[(.long a), (.int fl)] maxLocals)) t := fun t k => castTop (ef_0 m a fl) k
  obtain ⟨_, _, ⟨T8, L8, k8, n8⟩, -, X8, ⟨Lc8, hQ8, l8, y8, z8⟩, st8⟩ := Jvm.LawKit.callS X0 hx (y := (⟨"com/example/metered_demand/metereddemand/model/Measurement", "isCount", "(D)Z"⟩ : MethodName)) hown (mvT hZ (hw _ (List.mem_of_getElem? (i := 3) rfl))) (mvT hZ (hw _ (List.mem_of_getElem? (i := 4) rfl))) (mvT hZ (hw _ (List.mem_of_getElem? (i := 5) rfl))) (mvT hZ (hw _ (List.mem_of_getElem? (i := 6) rfl))) (by decide) (backOf (W := 0) (rm1 l Z a0 hw [] (FP.dneg (FP.l2d (a % (4000000000000 : Int64)))) h0 n0 Z0) hZ (hw _ (List.mem_of_getElem? (i := 6) rfl)) (hw _ (List.mem_of_getElem? (i := 5) rfl)) (by decide) (by decide)) (g := (mkF m 129 #[.val (.long a), .second, .val (.int fl), .val (.long (a % (4000000000000 : Int64))), .second, .val (.int (1 : Int32)), .val (.int (0 : Int32)), .val (.long (-(a % (4000000000000 : Int64)))), .second, .val (.double (FP.dneg (FP.l2d (a % (4000000000000 : Int64))))), .second, .val (.int (0 : Int32))] [(.double (FP.dneg (FP.l2d (a % (4000000000000 : Int64)))))])) rfl (by rw [hml]; rfl) (argsL := [(.double (FP.dneg (FP.l2d (a % (4000000000000 : Int64)))))]) (rest := []) (lenOf pd_0 rfl) rfl (by show 2 * 0 + _ ≤ _; exact Nat.le_of_eq rfl) (hb hby at_129) (fun _ _ => ⟨rfl, e0, (by decide : 0 + 0 ≤ _), (by decide : 0 + 0 ≤ _)⟩)
  dsimp only [Pt.U, Pt.locs, Pt.cells, Pt.slots] at X8 l8 y8 z8 st8 hQ8
  subst l8 y8 z8
  obtain ⟨rfl, N8q, e8⟩ := hQ8
  have N8 := Fr.app N0 N8q
  obtain ⟨fs, hr, hrun, hended, hW, hsame⟩ := X8.leave (v := some (.int (1 : Int32))) (fun h => by rw [Bd.returns] at h; cases h)
  refine ⟨_, _, pre0 _ ?_, hrun, hended, _, _, rfl, ?_, ⟨_, rfl⟩, hW, hsame.mono (by decide) (by decide)⟩
  · show Steps p.tables e below (s₁.setTop (mkF m 0 #[.val (.long a), .second, .val (.int fl), .unset, .unset, .unset, .unset, .unset, .unset, .unset, .unset, .unset] [])) _
    refine XS.lloadN X0.here hx rfl (hb hby at_0) rfl ?_
    show Steps p.tables e below (s₁.setTop (mkF m 1 #[.val (.long a), .second, .val (.int fl), .unset, .unset, .unset, .unset, .unset, .unset, .unset, .unset, .unset] [(.long a)])) _
    refine X0.ldc2Long hx hown (mvT hZ (hw _ (List.mem_of_getElem? (i := 0) rfl))) (g := (mkF m 1 #[.val (.long a), .second, .val (.int fl), .unset, .unset, .unset, .unset, .unset, .unset, .unset, .unset, .unset] [(.long a)])) rfl (hb hby at_1) _ ?_
    show Steps p.tables e below (s₁.setTop (mkF m 4 #[.val (.long a), .second, .val (.int fl), .unset, .unset, .unset, .unset, .unset, .unset, .unset, .unset, .unset] [(.long (4000000000000 : Int64)), (.long a)])) _
    refine gwLrem X0.here hx rfl (hb hby at_4) rfl (by decide : ¬ ((4000000000000 : Int64) = (0 : Int64))) ?_
    show Steps p.tables e below (s₁.setTop (mkF m 5 #[.val (.long a), .second, .val (.int fl), .unset, .unset, .unset, .unset, .unset, .unset, .unset, .unset, .unset] [(.long (a % (4000000000000 : Int64)))])) _
    refine XS.lstoreN X0.here hx rfl (hb hby at_5) rfl (l' := #[.val (.long a), .second, .val (.int fl), .val (.long (a % (4000000000000 : Int64))), .second, .unset, .unset, .unset, .unset, .unset, .unset, .unset]) rfl ?_
    show Steps p.tables e below (s₁.setTop (mkF m 6 #[.val (.long a), .second, .val (.int fl), .val (.long (a % (4000000000000 : Int64))), .second, .unset, .unset, .unset, .unset, .unset, .unset, .unset] [])) _
    refine XS.iloadN X0.here hx rfl (hb hby at_6) rfl ?_
    show Steps p.tables e below (s₁.setTop (mkF m 7 #[.val (.long a), .second, .val (.int fl), .val (.long (a % (4000000000000 : Int64))), .second, .unset, .unset, .unset, .unset, .unset, .unset, .unset] [(.int fl)])) _
    refine XS.iconst X0.here hx rfl (hb hby at_7) ?_
    show Steps p.tables e below (s₁.setTop (mkF m 8 #[.val (.long a), .second, .val (.int fl), .val (.long (a % (4000000000000 : Int64))), .second, .unset, .unset, .unset, .unset, .unset, .unset, .unset] [(.int (1 : Int32)), (.int fl)])) _
    refine XS.iand X0.here hx rfl (hb hby at_8) rfl ?_
    show Steps p.tables e below (s₁.setTop (mkF m 9 #[.val (.long a), .second, .val (.int fl), .val (.long (a % (4000000000000 : Int64))), .second, .unset, .unset, .unset, .unset, .unset, .unset, .unset] [(.int (fl &&& (1 : Int32)))])) _
    refine XS.ifNo X0.here hx rfl (hb hby at_9) rfl ((if0 _ _).trans (feq hc9).1) ?_
    show Steps p.tables e below (s₁.setTop (mkF m 12 #[.val (.long a), .second, .val (.int fl), .val (.long (a % (4000000000000 : Int64))), .second, .unset, .unset, .unset, .unset, .unset, .unset, .unset] [])) _
    refine XS.iconst X0.here hx rfl (hb hby at_12) ?_
    show Steps p.tables e below (s₁.setTop (mkF m 13 #[.val (.long a), .second, .val (.int fl), .val (.long (a % (4000000000000 : Int64))), .second, .unset, .unset, .unset, .unset, .unset, .unset, .unset] [(.int (1 : Int32))])) _
    refine XS.goto X0.here hx rfl (pc0 := 13) (pc' := 17) rfl (hb hby at_13) (by decide) (by decide) ?_
    show Steps p.tables e below (s₁.setTop (mkF m 17 #[.val (.long a), .second, .val (.int fl), .val (.long (a % (4000000000000 : Int64))), .second, .unset, .unset, .unset, .unset, .unset, .unset, .unset] [(.int (1 : Int32))])) _
    refine XS.istore X0.here hx rfl (hb hby at_17) rfl (l' := #[.val (.long a), .second, .val (.int fl), .val (.long (a % (4000000000000 : Int64))), .second, .val (.int (1 : Int32)), .unset, .unset, .unset, .unset, .unset, .unset]) rfl ?_
    show Steps p.tables e below (s₁.setTop (mkF m 19 #[.val (.long a), .second, .val (.int fl), .val (.long (a % (4000000000000 : Int64))), .second, .val (.int (1 : Int32)), .unset, .unset, .unset, .unset, .unset, .unset] [])) _
    refine XS.iloadN X0.here hx rfl (hb hby at_19) rfl ?_
    show Steps p.tables e below (s₁.setTop (mkF m 20 #[.val (.long a), .second, .val (.int fl), .val (.long (a % (4000000000000 : Int64))), .second, .val (.int (1 : Int32)), .unset, .unset, .unset, .unset, .unset, .unset] [(.int fl)])) _
    refine XS.iconst X0.here hx rfl (hb hby at_20) ?_
    show Steps p.tables e below (s₁.setTop (mkF m 21 #[.val (.long a), .second, .val (.int fl), .val (.long (a % (4000000000000 : Int64))), .second, .val (.int (1 : Int32)), .unset, .unset, .unset, .unset, .unset, .unset] [(.int (2 : Int32)), (.int fl)])) _
    refine XS.iand X0.here hx rfl (hb hby at_21) rfl ?_
    show Steps p.tables e below (s₁.setTop (mkF m 22 #[.val (.long a), .second, .val (.int fl), .val (.long (a % (4000000000000 : Int64))), .second, .val (.int (1 : Int32)), .unset, .unset, .unset, .unset, .unset, .unset] [(.int (fl &&& (2 : Int32)))])) _
    refine XS.ifYes X0.here hx rfl (pc0 := 22) (pc' := 29) rfl (hb hby at_22) rfl ((if0 _ _).trans (teq hc22).1) (by decide) (by decide) ?_
    show Steps p.tables e below (s₁.setTop (mkF m 29 #[.val (.long a), .second, .val (.int fl), .val (.long (a % (4000000000000 : Int64))), .second, .val (.int (1 : Int32)), .unset, .unset, .unset, .unset, .unset, .unset] [])) _
    refine XS.iconst X0.here hx rfl (hb hby at_29) ?_
    show Steps p.tables e below (s₁.setTop (mkF m 30 #[.val (.long a), .second, .val (.int fl), .val (.long (a % (4000000000000 : Int64))), .second, .val (.int (1 : Int32)), .unset, .unset, .unset, .unset, .unset, .unset] [(.int (0 : Int32))])) _
    refine XS.istore X0.here hx rfl (hb hby at_30) rfl (l' := #[.val (.long a), .second, .val (.int fl), .val (.long (a % (4000000000000 : Int64))), .second, .val (.int (1 : Int32)), .val (.int (0 : Int32)), .unset, .unset, .unset, .unset, .unset]) rfl ?_
    show Steps p.tables e below (s₁.setTop (mkF m 32 #[.val (.long a), .second, .val (.int fl), .val (.long (a % (4000000000000 : Int64))), .second, .val (.int (1 : Int32)), .val (.int (0 : Int32)), .unset, .unset, .unset, .unset, .unset] [])) _
    refine XS.iload X0.here hx rfl (hb hby at_32) rfl ?_
    show Steps p.tables e below (s₁.setTop (mkF m 34 #[.val (.long a), .second, .val (.int fl), .val (.long (a % (4000000000000 : Int64))), .second, .val (.int (1 : Int32)), .val (.int (0 : Int32)), .unset, .unset, .unset, .unset, .unset] [(.int (1 : Int32))])) _
    refine XS.ifNo X0.here hx rfl (hb hby at_34) rfl ((if0 _ _).trans (feq (by decide : ¬ ((1 : Int32) = (0 : Int32)))).1) ?_
    show Steps p.tables e below (s₁.setTop (mkF m 37 #[.val (.long a), .second, .val (.int fl), .val (.long (a % (4000000000000 : Int64))), .second, .val (.int (1 : Int32)), .val (.int (0 : Int32)), .unset, .unset, .unset, .unset, .unset] [])) _
    refine XS.lloadN X0.here hx rfl (hb hby at_37) rfl ?_
    show Steps p.tables e below (s₁.setTop (mkF m 38 #[.val (.long a), .second, .val (.int fl), .val (.long (a % (4000000000000 : Int64))), .second, .val (.int (1 : Int32)), .val (.int (0 : Int32)), .unset, .unset, .unset, .unset, .unset] [(.long (a % (4000000000000 : Int64)))])) _
    refine XS.lneg X0.here hx rfl (hb hby at_38) rfl ?_
    show Steps p.tables e below (s₁.setTop (mkF m 39 #[.val (.long a), .second, .val (.int fl), .val (.long (a % (4000000000000 : Int64))), .second, .val (.int (1 : Int32)), .val (.int (0 : Int32)), .unset, .unset, .unset, .unset, .unset] [(.long (-(a % (4000000000000 : Int64))))])) _
    refine XS.goto X0.here hx rfl (pc0 := 39) (pc' := 43) rfl (hb hby at_39) (by decide) (by decide) ?_
    show Steps p.tables e below (s₁.setTop (mkF m 43 #[.val (.long a), .second, .val (.int fl), .val (.long (a % (4000000000000 : Int64))), .second, .val (.int (1 : Int32)), .val (.int (0 : Int32)), .unset, .unset, .unset, .unset, .unset] [(.long (-(a % (4000000000000 : Int64))))])) _
    refine XS.lstore X0.here hx rfl (hb hby at_43) rfl (l' := #[.val (.long a), .second, .val (.int fl), .val (.long (a % (4000000000000 : Int64))), .second, .val (.int (1 : Int32)), .val (.int (0 : Int32)), .val (.long (-(a % (4000000000000 : Int64)))), .second, .unset, .unset, .unset]) rfl ?_
    show Steps p.tables e below (s₁.setTop (mkF m 45 #[.val (.long a), .second, .val (.int fl), .val (.long (a % (4000000000000 : Int64))), .second, .val (.int (1 : Int32)), .val (.int (0 : Int32)), .val (.long (-(a % (4000000000000 : Int64)))), .second, .unset, .unset, .unset] [])) _
    refine XS.iload X0.here hx rfl (hb hby at_45) rfl ?_
    show Steps p.tables e below (s₁.setTop (mkF m 47 #[.val (.long a), .second, .val (.int fl), .val (.long (a % (4000000000000 : Int64))), .second, .val (.int (1 : Int32)), .val (.int (0 : Int32)), .val (.long (-(a % (4000000000000 : Int64)))), .second, .unset, .unset, .unset] [(.int (1 : Int32))])) _
    refine XS.ifNo X0.here hx rfl (hb hby at_47) rfl ((if0 _ _).trans (feq (by decide : ¬ ((1 : Int32) = (0 : Int32)))).1) ?_
    show Steps p.tables e below (s₁.setTop (mkF m 50 #[.val (.long a), .second, .val (.int fl), .val (.long (a % (4000000000000 : Int64))), .second, .val (.int (1 : Int32)), .val (.int (0 : Int32)), .val (.long (-(a % (4000000000000 : Int64)))), .second, .unset, .unset, .unset] [])) _
    refine XS.lloadN X0.here hx rfl (hb hby at_50) rfl ?_
    show Steps p.tables e below (s₁.setTop (mkF m 51 #[.val (.long a), .second, .val (.int fl), .val (.long (a % (4000000000000 : Int64))), .second, .val (.int (1 : Int32)), .val (.int (0 : Int32)), .val (.long (-(a % (4000000000000 : Int64)))), .second, .unset, .unset, .unset] [(.long (a % (4000000000000 : Int64)))])) _
    refine XS.l2dS X0.here hx rfl (hb hby at_51) rfl rfl ?_
    show Steps p.tables e below (s₁.setTop (mkF m 52 #[.val (.long a), .second, .val (.int fl), .val (.long (a % (4000000000000 : Int64))), .second, .val (.int (1 : Int32)), .val (.int (0 : Int32)), .val (.long (-(a % (4000000000000 : Int64)))), .second, .unset, .unset, .unset] [(.double (FP.l2d (a % (4000000000000 : Int64))))])) _
    refine XS.dnegS X0.here hx rfl (hb hby at_52) rfl rfl ?_
    show Steps p.tables e below (s₁.setTop (mkF m 53 #[.val (.long a), .second, .val (.int fl), .val (.long (a % (4000000000000 : Int64))), .second, .val (.int (1 : Int32)), .val (.int (0 : Int32)), .val (.long (-(a % (4000000000000 : Int64)))), .second, .unset, .unset, .unset] [(.double (FP.dneg (FP.l2d (a % (4000000000000 : Int64)))))])) _
    refine XS.goto X0.here hx rfl (pc0 := 53) (pc' := 58) rfl (hb hby at_53) (by decide) (by decide) ?_
    show Steps p.tables e below (s₁.setTop (mkF m 58 #[.val (.long a), .second, .val (.int fl), .val (.long (a % (4000000000000 : Int64))), .second, .val (.int (1 : Int32)), .val (.int (0 : Int32)), .val (.long (-(a % (4000000000000 : Int64)))), .second, .unset, .unset, .unset] [(.double (FP.dneg (FP.l2d (a % (4000000000000 : Int64)))))])) _
    refine XS.dstore X0.here hx rfl (hb hby at_58) rfl (l' := #[.val (.long a), .second, .val (.int fl), .val (.long (a % (4000000000000 : Int64))), .second, .val (.int (1 : Int32)), .val (.int (0 : Int32)), .val (.long (-(a % (4000000000000 : Int64)))), .second, .val (.double (FP.dneg (FP.l2d (a % (4000000000000 : Int64))))), .second, .unset]) rfl ?_
    show Steps p.tables e below (s₁.setTop (mkF m 60 #[.val (.long a), .second, .val (.int fl), .val (.long (a % (4000000000000 : Int64))), .second, .val (.int (1 : Int32)), .val (.int (0 : Int32)), .val (.long (-(a % (4000000000000 : Int64)))), .second, .val (.double (FP.dneg (FP.l2d (a % (4000000000000 : Int64))))), .second, .unset] [])) _
    refine XS.iload X0.here hx rfl (hb hby at_60) rfl ?_
    show Steps p.tables e below (s₁.setTop (mkF m 62 #[.val (.long a), .second, .val (.int fl), .val (.long (a % (4000000000000 : Int64))), .second, .val (.int (1 : Int32)), .val (.int (0 : Int32)), .val (.long (-(a % (4000000000000 : Int64)))), .second, .val (.double (FP.dneg (FP.l2d (a % (4000000000000 : Int64))))), .second, .unset] [(.int (0 : Int32))])) _
    refine XS.ifYes X0.here hx rfl (pc0 := 62) (pc' := 73) rfl (hb hby at_62) rfl ((if0 _ _).trans (teq (rfl : (0 : Int32) = (0 : Int32))).1) (by decide) (by decide) ?_
    show Steps p.tables e below (s₁.setTop (mkF m 73 #[.val (.long a), .second, .val (.int fl), .val (.long (a % (4000000000000 : Int64))), .second, .val (.int (1 : Int32)), .val (.int (0 : Int32)), .val (.long (-(a % (4000000000000 : Int64)))), .second, .val (.double (FP.dneg (FP.l2d (a % (4000000000000 : Int64))))), .second, .unset] [])) _
    refine XS.iload X0.here hx rfl (hb hby at_73) rfl ?_
    show Steps p.tables e below (s₁.setTop (mkF m 75 #[.val (.long a), .second, .val (.int fl), .val (.long (a % (4000000000000 : Int64))), .second, .val (.int (1 : Int32)), .val (.int (0 : Int32)), .val (.long (-(a % (4000000000000 : Int64)))), .second, .val (.double (FP.dneg (FP.l2d (a % (4000000000000 : Int64))))), .second, .unset] [(.int (0 : Int32))])) _
    refine XS.ifYes X0.here hx rfl (pc0 := 75) (pc' := 104) rfl (hb hby at_75) rfl ((if0 _ _).trans (teq (rfl : (0 : Int32) = (0 : Int32))).1) (by decide) (by decide) ?_
    show Steps p.tables e below (s₁.setTop (mkF m 104 #[.val (.long a), .second, .val (.int fl), .val (.long (a % (4000000000000 : Int64))), .second, .val (.int (1 : Int32)), .val (.int (0 : Int32)), .val (.long (-(a % (4000000000000 : Int64)))), .second, .val (.double (FP.dneg (FP.l2d (a % (4000000000000 : Int64))))), .second, .unset] [])) _
    refine XS.lload X0.here hx rfl (hb hby at_104) rfl ?_
    show Steps p.tables e below (s₁.setTop (mkF m 106 #[.val (.long a), .second, .val (.int fl), .val (.long (a % (4000000000000 : Int64))), .second, .val (.int (1 : Int32)), .val (.int (0 : Int32)), .val (.long (-(a % (4000000000000 : Int64)))), .second, .val (.double (FP.dneg (FP.l2d (a % (4000000000000 : Int64))))), .second, .unset] [(.long (-(a % (4000000000000 : Int64))))])) _
    refine XS.lconst X0.here hx rfl (hb hby at_106) ?_
    show Steps p.tables e below (s₁.setTop (mkF m 107 #[.val (.long a), .second, .val (.int fl), .val (.long (a % (4000000000000 : Int64))), .second, .val (.int (1 : Int32)), .val (.int (0 : Int32)), .val (.long (-(a % (4000000000000 : Int64)))), .second, .val (.double (FP.dneg (FP.l2d (a % (4000000000000 : Int64))))), .second, .unset] [(.long (0 : Int64)), (.long (-(a % (4000000000000 : Int64))))])) _
    refine XS.lcmp X0.here hx rfl (hb hby at_107) rfl ?_
    show Steps p.tables e below (s₁.setTop (mkF m 108 #[.val (.long a), .second, .val (.int fl), .val (.long (a % (4000000000000 : Int64))), .second, .val (.int (1 : Int32)), .val (.int (0 : Int32)), .val (.long (-(a % (4000000000000 : Int64)))), .second, .val (.double (FP.dneg (FP.l2d (a % (4000000000000 : Int64))))), .second, .unset] [(.int (lcmpW (-(a % (4000000000000 : Int64))) (0 : Int64)))])) _
    refine XS.ifNo X0.here hx rfl (hb hby at_108) rfl ((if0 _ _).trans (flt hc108).1) ?_
    show Steps p.tables e below (s₁.setTop (mkF m 111 #[.val (.long a), .second, .val (.int fl), .val (.long (a % (4000000000000 : Int64))), .second, .val (.int (1 : Int32)), .val (.int (0 : Int32)), .val (.long (-(a % (4000000000000 : Int64)))), .second, .val (.double (FP.dneg (FP.l2d (a % (4000000000000 : Int64))))), .second, .unset] [])) _
    refine XS.lload X0.here hx rfl (hb hby at_111) rfl ?_
    show Steps p.tables e below (s₁.setTop (mkF m 113 #[.val (.long a), .second, .val (.int fl), .val (.long (a % (4000000000000 : Int64))), .second, .val (.int (1 : Int32)), .val (.int (0 : Int32)), .val (.long (-(a % (4000000000000 : Int64)))), .second, .val (.double (FP.dneg (FP.l2d (a % (4000000000000 : Int64))))), .second, .unset] [(.long (-(a % (4000000000000 : Int64))))])) _
    refine X0.ldc2Long hx hown (mvT hZ (hw _ (List.mem_of_getElem? (i := 8) rfl))) (g := (mkF m 113 #[.val (.long a), .second, .val (.int fl), .val (.long (a % (4000000000000 : Int64))), .second, .val (.int (1 : Int32)), .val (.int (0 : Int32)), .val (.long (-(a % (4000000000000 : Int64)))), .second, .val (.double (FP.dneg (FP.l2d (a % (4000000000000 : Int64))))), .second, .unset] [(.long (-(a % (4000000000000 : Int64))))])) rfl (hb hby at_113) _ ?_
    show Steps p.tables e below (s₁.setTop (mkF m 116 #[.val (.long a), .second, .val (.int fl), .val (.long (a % (4000000000000 : Int64))), .second, .val (.int (1 : Int32)), .val (.int (0 : Int32)), .val (.long (-(a % (4000000000000 : Int64)))), .second, .val (.double (FP.dneg (FP.l2d (a % (4000000000000 : Int64))))), .second, .unset] [(.long (1000000000000 : Int64)), (.long (-(a % (4000000000000 : Int64))))])) _
    refine XS.lcmp X0.here hx rfl (hb hby at_116) rfl ?_
    show Steps p.tables e below (s₁.setTop (mkF m 117 #[.val (.long a), .second, .val (.int fl), .val (.long (a % (4000000000000 : Int64))), .second, .val (.int (1 : Int32)), .val (.int (0 : Int32)), .val (.long (-(a % (4000000000000 : Int64)))), .second, .val (.double (FP.dneg (FP.l2d (a % (4000000000000 : Int64))))), .second, .unset] [(.int (lcmpW (-(a % (4000000000000 : Int64))) (1000000000000 : Int64)))])) _
    refine XS.ifYes X0.here hx rfl (pc0 := 117) (pc' := 124) rfl (hb hby at_117) rfl ((if0 _ _).trans (tlt hc117).2.2.1) (by decide) (by decide) ?_
    show Steps p.tables e below (s₁.setTop (mkF m 124 #[.val (.long a), .second, .val (.int fl), .val (.long (a % (4000000000000 : Int64))), .second, .val (.int (1 : Int32)), .val (.int (0 : Int32)), .val (.long (-(a % (4000000000000 : Int64)))), .second, .val (.double (FP.dneg (FP.l2d (a % (4000000000000 : Int64))))), .second, .unset] [])) _
    refine XS.iconst X0.here hx rfl (hb hby at_124) ?_
    show Steps p.tables e below (s₁.setTop (mkF m 125 #[.val (.long a), .second, .val (.int fl), .val (.long (a % (4000000000000 : Int64))), .second, .val (.int (1 : Int32)), .val (.int (0 : Int32)), .val (.long (-(a % (4000000000000 : Int64)))), .second, .val (.double (FP.dneg (FP.l2d (a % (4000000000000 : Int64))))), .second, .unset] [(.int (0 : Int32))])) _
    refine XS.istore X0.here hx rfl (hb hby at_125) rfl (l' := #[.val (.long a), .second, .val (.int fl), .val (.long (a % (4000000000000 : Int64))), .second, .val (.int (1 : Int32)), .val (.int (0 : Int32)), .val (.long (-(a % (4000000000000 : Int64)))), .second, .val (.double (FP.dneg (FP.l2d (a % (4000000000000 : Int64))))), .second, .val (.int (0 : Int32))]) rfl ?_
    show Steps p.tables e below (s₁.setTop (mkF m 127 #[.val (.long a), .second, .val (.int fl), .val (.long (a % (4000000000000 : Int64))), .second, .val (.int (1 : Int32)), .val (.int (0 : Int32)), .val (.long (-(a % (4000000000000 : Int64)))), .second, .val (.double (FP.dneg (FP.l2d (a % (4000000000000 : Int64))))), .second, .val (.int (0 : Int32))] [])) _
    refine XS.dload X0.here hx rfl (hb hby at_127) rfl ?_
    show Steps p.tables e below (s₁.setTop (mkF m 129 #[.val (.long a), .second, .val (.int fl), .val (.long (a % (4000000000000 : Int64))), .second, .val (.int (1 : Int32)), .val (.int (0 : Int32)), .val (.long (-(a % (4000000000000 : Int64)))), .second, .val (.double (FP.dneg (FP.l2d (a % (4000000000000 : Int64))))), .second, .val (.int (0 : Int32))] [(.double (FP.dneg (FP.l2d (a % (4000000000000 : Int64)))))])) _
    refine st8 _ ?_
    show Steps p.tables e below (T8.setTop (mkF m 132 #[.val (.long a), .second, .val (.int fl), .val (.long (a % (4000000000000 : Int64))), .second, .val (.int (1 : Int32)), .val (.int (0 : Int32)), .val (.long (-(a % (4000000000000 : Int64)))), .second, .val (.double (FP.dneg (FP.l2d (a % (4000000000000 : Int64))))), .second, .val (.int (0 : Int32))] [(.int (isC (FP.dneg (FP.l2d (a % (4000000000000 : Int64))))))])) _
    refine XS.iload X8.here hx rfl (hb hby at_132) rfl ?_
    show Steps p.tables e below (T8.setTop (mkF m 134 #[.val (.long a), .second, .val (.int fl), .val (.long (a % (4000000000000 : Int64))), .second, .val (.int (1 : Int32)), .val (.int (0 : Int32)), .val (.long (-(a % (4000000000000 : Int64)))), .second, .val (.double (FP.dneg (FP.l2d (a % (4000000000000 : Int64))))), .second, .val (.int (0 : Int32))] [(.int (0 : Int32)), (.int (isC (FP.dneg (FP.l2d (a % (4000000000000 : Int64))))))])) _
    refine XS.icmpNo X8.here hx rfl (hb hby at_134) rfl (teq hc134).2 ?_
    show Steps p.tables e below (T8.setTop (mkF m 137 #[.val (.long a), .second, .val (.int fl), .val (.long (a % (4000000000000 : Int64))), .second, .val (.int (1 : Int32)), .val (.int (0 : Int32)), .val (.long (-(a % (4000000000000 : Int64)))), .second, .val (.double (FP.dneg (FP.l2d (a % (4000000000000 : Int64))))), .second, .val (.int (0 : Int32))] [])) _
    refine XS.iconst X8.here hx rfl (hb hby at_137) ?_
    show Steps p.tables e below (T8.setTop (mkF m 138 #[.val (.long a), .second, .val (.int fl), .val (.long (a % (4000000000000 : Int64))), .second, .val (.int (1 : Int32)), .val (.int (0 : Int32)), .val (.long (-(a % (4000000000000 : Int64)))), .second, .val (.double (FP.dneg (FP.l2d (a % (4000000000000 : Int64))))), .second, .val (.int (0 : Int32))] [(.int (1 : Int32))])) _
    refine XS.goto X8.here hx rfl (pc0 := 138) (pc' := 142) rfl (hb hby at_138) (by decide) (by decide) ?_
    show Steps p.tables e below (T8.setTop (mkF m 142 #[.val (.long a), .second, .val (.int fl), .val (.long (a % (4000000000000 : Int64))), .second, .val (.int (1 : Int32)), .val (.int (0 : Int32)), .val (.long (-(a % (4000000000000 : Int64)))), .second, .val (.double (FP.dneg (FP.l2d (a % (4000000000000 : Int64))))), .second, .val (.int (0 : Int32))] [(.int (1 : Int32))])) _
    exact retN X8 hx (t := .boolean) Bd.returns (by simp) (hb hby at_142) hr
  · show Q0 a fl h0 n0 _ T8.heap _
    rw [e8]
    exact ⟨rfl, N8⟩
set_option maxRecDepth 65536 in
set_option maxHeartbeats 40000000 in
theorem rm0_10ff (l : Launch) (Z : State) (a0 : Array Value) (hw : ∀ d ∈ tables_1, d.before a0 Z = true) (ws : List Jvm.Cond) (a : Int64) (fl : Int32)  (h0 : Heap) (n0 : Nat) (Z0 : n0 ≤ h0.size)  (hc9 : ¬ ((fl &&& (1 : Int32)) = (0 : Int32))) (hc22 : (fl &&& (2 : Int32)) = (0 : Int32)) (hc108 : ¬ ((lcmpW (-(a % (4000000000000 : Int64))) (0 : Int64)) < (0 : Int32))) (hc117 : ¬ ((0 : Int32) < (lcmpW (-(a % (4000000000000 : Int64))) (1000000000000 : Int64)))) (hc134 : (isC (FP.dneg (FP.l2d (a % (4000000000000 : Int64))))) = (1 : Int32)) :
    MetFree l x (head1 (Jvm.Cond.code x code maxLocals ret :: ws) room_1) (fun aa U => aa = #[(.long a), (.int fl)] ∧ Z.Warmed39 U.vm ∧ U.heap = h0) (fun _ _ _ _ _ => True) (fun _ U o U' => ∃ v L, o = .returned v ∧ Q0 a fl h0 n0 v U'.heap L ∧ FrameEnd U o U' L room_1.cells room_1.slots) := by
  refine MetFree.of_bodySF (plainFor_of_name pn_0) hisR ?_
  intro p e s m args below meth c s₁ Bd hml0 hP hK
  obtain ⟨rfl, hZ, hh⟩ := hP
  have hx := Bd.exec
  have hby := Bd.bytes
  have hml : c.maxLocals = 12 := hml0
  have hown : s.vm.findClass "com/example/metered_demand/metereddemand/model/MeasurementIsCountPinLaw" = some m.cls := findClass_of_methodNamed Bd.named
  have hnm := (name_of_methodNamed Bd.named Bd.method).1
  have X0 : Stand p l e room_1 s m #[(.long a), (.int fl)] below meth c s₁ [] 0 0 := Stand.of_body Bd
  have e0 : s₁.heap = h0 := by rw [← hh, Bd.state]; rfl
  have N0 := Fr.nil n0
  have pre0 : ∀ t, Steps p.tables e below (s₁.setTop (mkF m 0 #[.val (.long a), .second, .val (.int fl), .unset, .unset, .unset, .unset, .unset, .unset, .unset, .unset, .unset] [])) t → Steps p.tables e below (s₁.setTop (entryFrame m #[(.long a), (.int fl)] maxLocals)) t := fun t k => castTop (ef_0 m a fl) k
  obtain ⟨_, _, ⟨T9, L9, k9, n9⟩, -, X9, ⟨Lc9, hQ9, l9, y9, z9⟩, st9⟩ := Jvm.LawKit.callS X0 hx (y := (⟨"com/example/metered_demand/metereddemand/model/Measurement", "isCount", "(D)Z"⟩ : MethodName)) hown (mvT hZ (hw _ (List.mem_of_getElem? (i := 3) rfl))) (mvT hZ (hw _ (List.mem_of_getElem? (i := 4) rfl))) (mvT hZ (hw _ (List.mem_of_getElem? (i := 5) rfl))) (mvT hZ (hw _ (List.mem_of_getElem? (i := 6) rfl))) (by decide) (backOf (W := 0) (rm1 l Z a0 hw [] (FP.dneg (FP.l2d (a % (4000000000000 : Int64)))) h0 n0 Z0) hZ (hw _ (List.mem_of_getElem? (i := 6) rfl)) (hw _ (List.mem_of_getElem? (i := 5) rfl)) (by decide) (by decide)) (g := (mkF m 129 #[.val (.long a), .second, .val (.int fl), .val (.long (a % (4000000000000 : Int64))), .second, .val (.int (1 : Int32)), .val (.int (0 : Int32)), .val (.long (-(a % (4000000000000 : Int64)))), .second, .val (.double (FP.dneg (FP.l2d (a % (4000000000000 : Int64))))), .second, .val (.int (1 : Int32))] [(.double (FP.dneg (FP.l2d (a % (4000000000000 : Int64)))))])) rfl (by rw [hml]; rfl) (argsL := [(.double (FP.dneg (FP.l2d (a % (4000000000000 : Int64)))))]) (rest := []) (lenOf pd_0 rfl) rfl (by show 2 * 0 + _ ≤ _; exact Nat.le_of_eq rfl) (hb hby at_129) (fun _ _ => ⟨rfl, e0, (by decide : 0 + 0 ≤ _), (by decide : 0 + 0 ≤ _)⟩)
  dsimp only [Pt.U, Pt.locs, Pt.cells, Pt.slots] at X9 l9 y9 z9 st9 hQ9
  subst l9 y9 z9
  obtain ⟨rfl, N9q, e9⟩ := hQ9
  have N9 := Fr.app N0 N9q
  obtain ⟨fs, hr, hrun, hended, hW, hsame⟩ := X9.leave (v := some (.int (1 : Int32))) (fun h => by rw [Bd.returns] at h; cases h)
  refine ⟨_, _, pre0 _ ?_, hrun, hended, _, _, rfl, ?_, ⟨_, rfl⟩, hW, hsame.mono (by decide) (by decide)⟩
  · show Steps p.tables e below (s₁.setTop (mkF m 0 #[.val (.long a), .second, .val (.int fl), .unset, .unset, .unset, .unset, .unset, .unset, .unset, .unset, .unset] [])) _
    refine XS.lloadN X0.here hx rfl (hb hby at_0) rfl ?_
    show Steps p.tables e below (s₁.setTop (mkF m 1 #[.val (.long a), .second, .val (.int fl), .unset, .unset, .unset, .unset, .unset, .unset, .unset, .unset, .unset] [(.long a)])) _
    refine X0.ldc2Long hx hown (mvT hZ (hw _ (List.mem_of_getElem? (i := 0) rfl))) (g := (mkF m 1 #[.val (.long a), .second, .val (.int fl), .unset, .unset, .unset, .unset, .unset, .unset, .unset, .unset, .unset] [(.long a)])) rfl (hb hby at_1) _ ?_
    show Steps p.tables e below (s₁.setTop (mkF m 4 #[.val (.long a), .second, .val (.int fl), .unset, .unset, .unset, .unset, .unset, .unset, .unset, .unset, .unset] [(.long (4000000000000 : Int64)), (.long a)])) _
    refine gwLrem X0.here hx rfl (hb hby at_4) rfl (by decide : ¬ ((4000000000000 : Int64) = (0 : Int64))) ?_
    show Steps p.tables e below (s₁.setTop (mkF m 5 #[.val (.long a), .second, .val (.int fl), .unset, .unset, .unset, .unset, .unset, .unset, .unset, .unset, .unset] [(.long (a % (4000000000000 : Int64)))])) _
    refine XS.lstoreN X0.here hx rfl (hb hby at_5) rfl (l' := #[.val (.long a), .second, .val (.int fl), .val (.long (a % (4000000000000 : Int64))), .second, .unset, .unset, .unset, .unset, .unset, .unset, .unset]) rfl ?_
    show Steps p.tables e below (s₁.setTop (mkF m 6 #[.val (.long a), .second, .val (.int fl), .val (.long (a % (4000000000000 : Int64))), .second, .unset, .unset, .unset, .unset, .unset, .unset, .unset] [])) _
    refine XS.iloadN X0.here hx rfl (hb hby at_6) rfl ?_
    show Steps p.tables e below (s₁.setTop (mkF m 7 #[.val (.long a), .second, .val (.int fl), .val (.long (a % (4000000000000 : Int64))), .second, .unset, .unset, .unset, .unset, .unset, .unset, .unset] [(.int fl)])) _
    refine XS.iconst X0.here hx rfl (hb hby at_7) ?_
    show Steps p.tables e below (s₁.setTop (mkF m 8 #[.val (.long a), .second, .val (.int fl), .val (.long (a % (4000000000000 : Int64))), .second, .unset, .unset, .unset, .unset, .unset, .unset, .unset] [(.int (1 : Int32)), (.int fl)])) _
    refine XS.iand X0.here hx rfl (hb hby at_8) rfl ?_
    show Steps p.tables e below (s₁.setTop (mkF m 9 #[.val (.long a), .second, .val (.int fl), .val (.long (a % (4000000000000 : Int64))), .second, .unset, .unset, .unset, .unset, .unset, .unset, .unset] [(.int (fl &&& (1 : Int32)))])) _
    refine XS.ifNo X0.here hx rfl (hb hby at_9) rfl ((if0 _ _).trans (feq hc9).1) ?_
    show Steps p.tables e below (s₁.setTop (mkF m 12 #[.val (.long a), .second, .val (.int fl), .val (.long (a % (4000000000000 : Int64))), .second, .unset, .unset, .unset, .unset, .unset, .unset, .unset] [])) _
    refine XS.iconst X0.here hx rfl (hb hby at_12) ?_
    show Steps p.tables e below (s₁.setTop (mkF m 13 #[.val (.long a), .second, .val (.int fl), .val (.long (a % (4000000000000 : Int64))), .second, .unset, .unset, .unset, .unset, .unset, .unset, .unset] [(.int (1 : Int32))])) _
    refine XS.goto X0.here hx rfl (pc0 := 13) (pc' := 17) rfl (hb hby at_13) (by decide) (by decide) ?_
    show Steps p.tables e below (s₁.setTop (mkF m 17 #[.val (.long a), .second, .val (.int fl), .val (.long (a % (4000000000000 : Int64))), .second, .unset, .unset, .unset, .unset, .unset, .unset, .unset] [(.int (1 : Int32))])) _
    refine XS.istore X0.here hx rfl (hb hby at_17) rfl (l' := #[.val (.long a), .second, .val (.int fl), .val (.long (a % (4000000000000 : Int64))), .second, .val (.int (1 : Int32)), .unset, .unset, .unset, .unset, .unset, .unset]) rfl ?_
    show Steps p.tables e below (s₁.setTop (mkF m 19 #[.val (.long a), .second, .val (.int fl), .val (.long (a % (4000000000000 : Int64))), .second, .val (.int (1 : Int32)), .unset, .unset, .unset, .unset, .unset, .unset] [])) _
    refine XS.iloadN X0.here hx rfl (hb hby at_19) rfl ?_
    show Steps p.tables e below (s₁.setTop (mkF m 20 #[.val (.long a), .second, .val (.int fl), .val (.long (a % (4000000000000 : Int64))), .second, .val (.int (1 : Int32)), .unset, .unset, .unset, .unset, .unset, .unset] [(.int fl)])) _
    refine XS.iconst X0.here hx rfl (hb hby at_20) ?_
    show Steps p.tables e below (s₁.setTop (mkF m 21 #[.val (.long a), .second, .val (.int fl), .val (.long (a % (4000000000000 : Int64))), .second, .val (.int (1 : Int32)), .unset, .unset, .unset, .unset, .unset, .unset] [(.int (2 : Int32)), (.int fl)])) _
    refine XS.iand X0.here hx rfl (hb hby at_21) rfl ?_
    show Steps p.tables e below (s₁.setTop (mkF m 22 #[.val (.long a), .second, .val (.int fl), .val (.long (a % (4000000000000 : Int64))), .second, .val (.int (1 : Int32)), .unset, .unset, .unset, .unset, .unset, .unset] [(.int (fl &&& (2 : Int32)))])) _
    refine XS.ifYes X0.here hx rfl (pc0 := 22) (pc' := 29) rfl (hb hby at_22) rfl ((if0 _ _).trans (teq hc22).1) (by decide) (by decide) ?_
    show Steps p.tables e below (s₁.setTop (mkF m 29 #[.val (.long a), .second, .val (.int fl), .val (.long (a % (4000000000000 : Int64))), .second, .val (.int (1 : Int32)), .unset, .unset, .unset, .unset, .unset, .unset] [])) _
    refine XS.iconst X0.here hx rfl (hb hby at_29) ?_
    show Steps p.tables e below (s₁.setTop (mkF m 30 #[.val (.long a), .second, .val (.int fl), .val (.long (a % (4000000000000 : Int64))), .second, .val (.int (1 : Int32)), .unset, .unset, .unset, .unset, .unset, .unset] [(.int (0 : Int32))])) _
    refine XS.istore X0.here hx rfl (hb hby at_30) rfl (l' := #[.val (.long a), .second, .val (.int fl), .val (.long (a % (4000000000000 : Int64))), .second, .val (.int (1 : Int32)), .val (.int (0 : Int32)), .unset, .unset, .unset, .unset, .unset]) rfl ?_
    show Steps p.tables e below (s₁.setTop (mkF m 32 #[.val (.long a), .second, .val (.int fl), .val (.long (a % (4000000000000 : Int64))), .second, .val (.int (1 : Int32)), .val (.int (0 : Int32)), .unset, .unset, .unset, .unset, .unset] [])) _
    refine XS.iload X0.here hx rfl (hb hby at_32) rfl ?_
    show Steps p.tables e below (s₁.setTop (mkF m 34 #[.val (.long a), .second, .val (.int fl), .val (.long (a % (4000000000000 : Int64))), .second, .val (.int (1 : Int32)), .val (.int (0 : Int32)), .unset, .unset, .unset, .unset, .unset] [(.int (1 : Int32))])) _
    refine XS.ifNo X0.here hx rfl (hb hby at_34) rfl ((if0 _ _).trans (feq (by decide : ¬ ((1 : Int32) = (0 : Int32)))).1) ?_
    show Steps p.tables e below (s₁.setTop (mkF m 37 #[.val (.long a), .second, .val (.int fl), .val (.long (a % (4000000000000 : Int64))), .second, .val (.int (1 : Int32)), .val (.int (0 : Int32)), .unset, .unset, .unset, .unset, .unset] [])) _
    refine XS.lloadN X0.here hx rfl (hb hby at_37) rfl ?_
    show Steps p.tables e below (s₁.setTop (mkF m 38 #[.val (.long a), .second, .val (.int fl), .val (.long (a % (4000000000000 : Int64))), .second, .val (.int (1 : Int32)), .val (.int (0 : Int32)), .unset, .unset, .unset, .unset, .unset] [(.long (a % (4000000000000 : Int64)))])) _
    refine XS.lneg X0.here hx rfl (hb hby at_38) rfl ?_
    show Steps p.tables e below (s₁.setTop (mkF m 39 #[.val (.long a), .second, .val (.int fl), .val (.long (a % (4000000000000 : Int64))), .second, .val (.int (1 : Int32)), .val (.int (0 : Int32)), .unset, .unset, .unset, .unset, .unset] [(.long (-(a % (4000000000000 : Int64))))])) _
    refine XS.goto X0.here hx rfl (pc0 := 39) (pc' := 43) rfl (hb hby at_39) (by decide) (by decide) ?_
    show Steps p.tables e below (s₁.setTop (mkF m 43 #[.val (.long a), .second, .val (.int fl), .val (.long (a % (4000000000000 : Int64))), .second, .val (.int (1 : Int32)), .val (.int (0 : Int32)), .unset, .unset, .unset, .unset, .unset] [(.long (-(a % (4000000000000 : Int64))))])) _
    refine XS.lstore X0.here hx rfl (hb hby at_43) rfl (l' := #[.val (.long a), .second, .val (.int fl), .val (.long (a % (4000000000000 : Int64))), .second, .val (.int (1 : Int32)), .val (.int (0 : Int32)), .val (.long (-(a % (4000000000000 : Int64)))), .second, .unset, .unset, .unset]) rfl ?_
    show Steps p.tables e below (s₁.setTop (mkF m 45 #[.val (.long a), .second, .val (.int fl), .val (.long (a % (4000000000000 : Int64))), .second, .val (.int (1 : Int32)), .val (.int (0 : Int32)), .val (.long (-(a % (4000000000000 : Int64)))), .second, .unset, .unset, .unset] [])) _
    refine XS.iload X0.here hx rfl (hb hby at_45) rfl ?_
    show Steps p.tables e below (s₁.setTop (mkF m 47 #[.val (.long a), .second, .val (.int fl), .val (.long (a % (4000000000000 : Int64))), .second, .val (.int (1 : Int32)), .val (.int (0 : Int32)), .val (.long (-(a % (4000000000000 : Int64)))), .second, .unset, .unset, .unset] [(.int (1 : Int32))])) _
    refine XS.ifNo X0.here hx rfl (hb hby at_47) rfl ((if0 _ _).trans (feq (by decide : ¬ ((1 : Int32) = (0 : Int32)))).1) ?_
    show Steps p.tables e below (s₁.setTop (mkF m 50 #[.val (.long a), .second, .val (.int fl), .val (.long (a % (4000000000000 : Int64))), .second, .val (.int (1 : Int32)), .val (.int (0 : Int32)), .val (.long (-(a % (4000000000000 : Int64)))), .second, .unset, .unset, .unset] [])) _
    refine XS.lloadN X0.here hx rfl (hb hby at_50) rfl ?_
    show Steps p.tables e below (s₁.setTop (mkF m 51 #[.val (.long a), .second, .val (.int fl), .val (.long (a % (4000000000000 : Int64))), .second, .val (.int (1 : Int32)), .val (.int (0 : Int32)), .val (.long (-(a % (4000000000000 : Int64)))), .second, .unset, .unset, .unset] [(.long (a % (4000000000000 : Int64)))])) _
    refine XS.l2dS X0.here hx rfl (hb hby at_51) rfl rfl ?_
    show Steps p.tables e below (s₁.setTop (mkF m 52 #[.val (.long a), .second, .val (.int fl), .val (.long (a % (4000000000000 : Int64))), .second, .val (.int (1 : Int32)), .val (.int (0 : Int32)), .val (.long (-(a % (4000000000000 : Int64)))), .second, .unset, .unset, .unset] [(.double (FP.l2d (a % (4000000000000 : Int64))))])) _
    refine XS.dnegS X0.here hx rfl (hb hby at_52) rfl rfl ?_
    show Steps p.tables e below (s₁.setTop (mkF m 53 #[.val (.long a), .second, .val (.int fl), .val (.long (a % (4000000000000 : Int64))), .second, .val (.int (1 : Int32)), .val (.int (0 : Int32)), .val (.long (-(a % (4000000000000 : Int64)))), .second, .unset, .unset, .unset] [(.double (FP.dneg (FP.l2d (a % (4000000000000 : Int64)))))])) _
    refine XS.goto X0.here hx rfl (pc0 := 53) (pc' := 58) rfl (hb hby at_53) (by decide) (by decide) ?_
    show Steps p.tables e below (s₁.setTop (mkF m 58 #[.val (.long a), .second, .val (.int fl), .val (.long (a % (4000000000000 : Int64))), .second, .val (.int (1 : Int32)), .val (.int (0 : Int32)), .val (.long (-(a % (4000000000000 : Int64)))), .second, .unset, .unset, .unset] [(.double (FP.dneg (FP.l2d (a % (4000000000000 : Int64)))))])) _
    refine XS.dstore X0.here hx rfl (hb hby at_58) rfl (l' := #[.val (.long a), .second, .val (.int fl), .val (.long (a % (4000000000000 : Int64))), .second, .val (.int (1 : Int32)), .val (.int (0 : Int32)), .val (.long (-(a % (4000000000000 : Int64)))), .second, .val (.double (FP.dneg (FP.l2d (a % (4000000000000 : Int64))))), .second, .unset]) rfl ?_
    show Steps p.tables e below (s₁.setTop (mkF m 60 #[.val (.long a), .second, .val (.int fl), .val (.long (a % (4000000000000 : Int64))), .second, .val (.int (1 : Int32)), .val (.int (0 : Int32)), .val (.long (-(a % (4000000000000 : Int64)))), .second, .val (.double (FP.dneg (FP.l2d (a % (4000000000000 : Int64))))), .second, .unset] [])) _
    refine XS.iload X0.here hx rfl (hb hby at_60) rfl ?_
    show Steps p.tables e below (s₁.setTop (mkF m 62 #[.val (.long a), .second, .val (.int fl), .val (.long (a % (4000000000000 : Int64))), .second, .val (.int (1 : Int32)), .val (.int (0 : Int32)), .val (.long (-(a % (4000000000000 : Int64)))), .second, .val (.double (FP.dneg (FP.l2d (a % (4000000000000 : Int64))))), .second, .unset] [(.int (0 : Int32))])) _
    refine XS.ifYes X0.here hx rfl (pc0 := 62) (pc' := 73) rfl (hb hby at_62) rfl ((if0 _ _).trans (teq (rfl : (0 : Int32) = (0 : Int32))).1) (by decide) (by decide) ?_
    show Steps p.tables e below (s₁.setTop (mkF m 73 #[.val (.long a), .second, .val (.int fl), .val (.long (a % (4000000000000 : Int64))), .second, .val (.int (1 : Int32)), .val (.int (0 : Int32)), .val (.long (-(a % (4000000000000 : Int64)))), .second, .val (.double (FP.dneg (FP.l2d (a % (4000000000000 : Int64))))), .second, .unset] [])) _
    refine XS.iload X0.here hx rfl (hb hby at_73) rfl ?_
    show Steps p.tables e below (s₁.setTop (mkF m 75 #[.val (.long a), .second, .val (.int fl), .val (.long (a % (4000000000000 : Int64))), .second, .val (.int (1 : Int32)), .val (.int (0 : Int32)), .val (.long (-(a % (4000000000000 : Int64)))), .second, .val (.double (FP.dneg (FP.l2d (a % (4000000000000 : Int64))))), .second, .unset] [(.int (0 : Int32))])) _
    refine XS.ifYes X0.here hx rfl (pc0 := 75) (pc' := 104) rfl (hb hby at_75) rfl ((if0 _ _).trans (teq (rfl : (0 : Int32) = (0 : Int32))).1) (by decide) (by decide) ?_
    show Steps p.tables e below (s₁.setTop (mkF m 104 #[.val (.long a), .second, .val (.int fl), .val (.long (a % (4000000000000 : Int64))), .second, .val (.int (1 : Int32)), .val (.int (0 : Int32)), .val (.long (-(a % (4000000000000 : Int64)))), .second, .val (.double (FP.dneg (FP.l2d (a % (4000000000000 : Int64))))), .second, .unset] [])) _
    refine XS.lload X0.here hx rfl (hb hby at_104) rfl ?_
    show Steps p.tables e below (s₁.setTop (mkF m 106 #[.val (.long a), .second, .val (.int fl), .val (.long (a % (4000000000000 : Int64))), .second, .val (.int (1 : Int32)), .val (.int (0 : Int32)), .val (.long (-(a % (4000000000000 : Int64)))), .second, .val (.double (FP.dneg (FP.l2d (a % (4000000000000 : Int64))))), .second, .unset] [(.long (-(a % (4000000000000 : Int64))))])) _
    refine XS.lconst X0.here hx rfl (hb hby at_106) ?_
    show Steps p.tables e below (s₁.setTop (mkF m 107 #[.val (.long a), .second, .val (.int fl), .val (.long (a % (4000000000000 : Int64))), .second, .val (.int (1 : Int32)), .val (.int (0 : Int32)), .val (.long (-(a % (4000000000000 : Int64)))), .second, .val (.double (FP.dneg (FP.l2d (a % (4000000000000 : Int64))))), .second, .unset] [(.long (0 : Int64)), (.long (-(a % (4000000000000 : Int64))))])) _
    refine XS.lcmp X0.here hx rfl (hb hby at_107) rfl ?_
    show Steps p.tables e below (s₁.setTop (mkF m 108 #[.val (.long a), .second, .val (.int fl), .val (.long (a % (4000000000000 : Int64))), .second, .val (.int (1 : Int32)), .val (.int (0 : Int32)), .val (.long (-(a % (4000000000000 : Int64)))), .second, .val (.double (FP.dneg (FP.l2d (a % (4000000000000 : Int64))))), .second, .unset] [(.int (lcmpW (-(a % (4000000000000 : Int64))) (0 : Int64)))])) _
    refine XS.ifNo X0.here hx rfl (hb hby at_108) rfl ((if0 _ _).trans (flt hc108).1) ?_
    show Steps p.tables e below (s₁.setTop (mkF m 111 #[.val (.long a), .second, .val (.int fl), .val (.long (a % (4000000000000 : Int64))), .second, .val (.int (1 : Int32)), .val (.int (0 : Int32)), .val (.long (-(a % (4000000000000 : Int64)))), .second, .val (.double (FP.dneg (FP.l2d (a % (4000000000000 : Int64))))), .second, .unset] [])) _
    refine XS.lload X0.here hx rfl (hb hby at_111) rfl ?_
    show Steps p.tables e below (s₁.setTop (mkF m 113 #[.val (.long a), .second, .val (.int fl), .val (.long (a % (4000000000000 : Int64))), .second, .val (.int (1 : Int32)), .val (.int (0 : Int32)), .val (.long (-(a % (4000000000000 : Int64)))), .second, .val (.double (FP.dneg (FP.l2d (a % (4000000000000 : Int64))))), .second, .unset] [(.long (-(a % (4000000000000 : Int64))))])) _
    refine X0.ldc2Long hx hown (mvT hZ (hw _ (List.mem_of_getElem? (i := 8) rfl))) (g := (mkF m 113 #[.val (.long a), .second, .val (.int fl), .val (.long (a % (4000000000000 : Int64))), .second, .val (.int (1 : Int32)), .val (.int (0 : Int32)), .val (.long (-(a % (4000000000000 : Int64)))), .second, .val (.double (FP.dneg (FP.l2d (a % (4000000000000 : Int64))))), .second, .unset] [(.long (-(a % (4000000000000 : Int64))))])) rfl (hb hby at_113) _ ?_
    show Steps p.tables e below (s₁.setTop (mkF m 116 #[.val (.long a), .second, .val (.int fl), .val (.long (a % (4000000000000 : Int64))), .second, .val (.int (1 : Int32)), .val (.int (0 : Int32)), .val (.long (-(a % (4000000000000 : Int64)))), .second, .val (.double (FP.dneg (FP.l2d (a % (4000000000000 : Int64))))), .second, .unset] [(.long (1000000000000 : Int64)), (.long (-(a % (4000000000000 : Int64))))])) _
    refine XS.lcmp X0.here hx rfl (hb hby at_116) rfl ?_
    show Steps p.tables e below (s₁.setTop (mkF m 117 #[.val (.long a), .second, .val (.int fl), .val (.long (a % (4000000000000 : Int64))), .second, .val (.int (1 : Int32)), .val (.int (0 : Int32)), .val (.long (-(a % (4000000000000 : Int64)))), .second, .val (.double (FP.dneg (FP.l2d (a % (4000000000000 : Int64))))), .second, .unset] [(.int (lcmpW (-(a % (4000000000000 : Int64))) (1000000000000 : Int64)))])) _
    refine XS.ifNo X0.here hx rfl (hb hby at_117) rfl ((if0 _ _).trans (flt hc117).2.2.1) ?_
    show Steps p.tables e below (s₁.setTop (mkF m 120 #[.val (.long a), .second, .val (.int fl), .val (.long (a % (4000000000000 : Int64))), .second, .val (.int (1 : Int32)), .val (.int (0 : Int32)), .val (.long (-(a % (4000000000000 : Int64)))), .second, .val (.double (FP.dneg (FP.l2d (a % (4000000000000 : Int64))))), .second, .unset] [])) _
    refine XS.iconst X0.here hx rfl (hb hby at_120) ?_
    show Steps p.tables e below (s₁.setTop (mkF m 121 #[.val (.long a), .second, .val (.int fl), .val (.long (a % (4000000000000 : Int64))), .second, .val (.int (1 : Int32)), .val (.int (0 : Int32)), .val (.long (-(a % (4000000000000 : Int64)))), .second, .val (.double (FP.dneg (FP.l2d (a % (4000000000000 : Int64))))), .second, .unset] [(.int (1 : Int32))])) _
    refine XS.goto X0.here hx rfl (pc0 := 121) (pc' := 125) rfl (hb hby at_121) (by decide) (by decide) ?_
    show Steps p.tables e below (s₁.setTop (mkF m 125 #[.val (.long a), .second, .val (.int fl), .val (.long (a % (4000000000000 : Int64))), .second, .val (.int (1 : Int32)), .val (.int (0 : Int32)), .val (.long (-(a % (4000000000000 : Int64)))), .second, .val (.double (FP.dneg (FP.l2d (a % (4000000000000 : Int64))))), .second, .unset] [(.int (1 : Int32))])) _
    refine XS.istore X0.here hx rfl (hb hby at_125) rfl (l' := #[.val (.long a), .second, .val (.int fl), .val (.long (a % (4000000000000 : Int64))), .second, .val (.int (1 : Int32)), .val (.int (0 : Int32)), .val (.long (-(a % (4000000000000 : Int64)))), .second, .val (.double (FP.dneg (FP.l2d (a % (4000000000000 : Int64))))), .second, .val (.int (1 : Int32))]) rfl ?_
    show Steps p.tables e below (s₁.setTop (mkF m 127 #[.val (.long a), .second, .val (.int fl), .val (.long (a % (4000000000000 : Int64))), .second, .val (.int (1 : Int32)), .val (.int (0 : Int32)), .val (.long (-(a % (4000000000000 : Int64)))), .second, .val (.double (FP.dneg (FP.l2d (a % (4000000000000 : Int64))))), .second, .val (.int (1 : Int32))] [])) _
    refine XS.dload X0.here hx rfl (hb hby at_127) rfl ?_
    show Steps p.tables e below (s₁.setTop (mkF m 129 #[.val (.long a), .second, .val (.int fl), .val (.long (a % (4000000000000 : Int64))), .second, .val (.int (1 : Int32)), .val (.int (0 : Int32)), .val (.long (-(a % (4000000000000 : Int64)))), .second, .val (.double (FP.dneg (FP.l2d (a % (4000000000000 : Int64))))), .second, .val (.int (1 : Int32))] [(.double (FP.dneg (FP.l2d (a % (4000000000000 : Int64)))))])) _
    refine st9 _ ?_
    show Steps p.tables e below (T9.setTop (mkF m 132 #[.val (.long a), .second, .val (.int fl), .val (.long (a % (4000000000000 : Int64))), .second, .val (.int (1 : Int32)), .val (.int (0 : Int32)), .val (.long (-(a % (4000000000000 : Int64)))), .second, .val (.double (FP.dneg (FP.l2d (a % (4000000000000 : Int64))))), .second, .val (.int (1 : Int32))] [(.int (isC (FP.dneg (FP.l2d (a % (4000000000000 : Int64))))))])) _
    refine XS.iload X9.here hx rfl (hb hby at_132) rfl ?_
    show Steps p.tables e below (T9.setTop (mkF m 134 #[.val (.long a), .second, .val (.int fl), .val (.long (a % (4000000000000 : Int64))), .second, .val (.int (1 : Int32)), .val (.int (0 : Int32)), .val (.long (-(a % (4000000000000 : Int64)))), .second, .val (.double (FP.dneg (FP.l2d (a % (4000000000000 : Int64))))), .second, .val (.int (1 : Int32))] [(.int (1 : Int32)), (.int (isC (FP.dneg (FP.l2d (a % (4000000000000 : Int64))))))])) _
    refine XS.icmpNo X9.here hx rfl (hb hby at_134) rfl (teq hc134).2 ?_
    show Steps p.tables e below (T9.setTop (mkF m 137 #[.val (.long a), .second, .val (.int fl), .val (.long (a % (4000000000000 : Int64))), .second, .val (.int (1 : Int32)), .val (.int (0 : Int32)), .val (.long (-(a % (4000000000000 : Int64)))), .second, .val (.double (FP.dneg (FP.l2d (a % (4000000000000 : Int64))))), .second, .val (.int (1 : Int32))] [])) _
    refine XS.iconst X9.here hx rfl (hb hby at_137) ?_
    show Steps p.tables e below (T9.setTop (mkF m 138 #[.val (.long a), .second, .val (.int fl), .val (.long (a % (4000000000000 : Int64))), .second, .val (.int (1 : Int32)), .val (.int (0 : Int32)), .val (.long (-(a % (4000000000000 : Int64)))), .second, .val (.double (FP.dneg (FP.l2d (a % (4000000000000 : Int64))))), .second, .val (.int (1 : Int32))] [(.int (1 : Int32))])) _
    refine XS.goto X9.here hx rfl (pc0 := 138) (pc' := 142) rfl (hb hby at_138) (by decide) (by decide) ?_
    show Steps p.tables e below (T9.setTop (mkF m 142 #[.val (.long a), .second, .val (.int fl), .val (.long (a % (4000000000000 : Int64))), .second, .val (.int (1 : Int32)), .val (.int (0 : Int32)), .val (.long (-(a % (4000000000000 : Int64)))), .second, .val (.double (FP.dneg (FP.l2d (a % (4000000000000 : Int64))))), .second, .val (.int (1 : Int32))] [(.int (1 : Int32))])) _
    exact retN X9 hx (t := .boolean) Bd.returns (by simp) (hb hby at_142) hr
  · show Q0 a fl h0 n0 _ T9.heap _
    rw [e9]
    exact ⟨rfl, N9⟩
set_option maxRecDepth 65536 in
set_option maxHeartbeats 40000000 in
theorem rm0_11t (l : Launch) (Z : State) (a0 : Array Value) (hw : ∀ d ∈ tables_1, d.before a0 Z = true) (ws : List Jvm.Cond) (a : Int64) (fl : Int32)  (h0 : Heap) (n0 : Nat) (Z0 : n0 ≤ h0.size)  (hc9 : ¬ ((fl &&& (1 : Int32)) = (0 : Int32))) (hc22 : ¬ ((fl &&& (2 : Int32)) = (0 : Int32))) (hnan70 : Jvm.Free.Fl.NoNaN64 (FP.dadd (FP.dneg (FP.l2d (a % (4000000000000 : Int64)))) (4602678819172646912 : UInt64))) (hc82 : (lcmpW (-(a % (4000000000000 : Int64))) (0 : Int64)) < (0 : Int32)) (hc134 : (isC (FP.dadd (FP.dneg (FP.l2d (a % (4000000000000 : Int64)))) (4602678819172646912 : UInt64))) = (0 : Int32)) :
    MetFree l x (head1 (Jvm.Cond.code x code maxLocals ret :: ws) room_1) (fun aa U => aa = #[(.long a), (.int fl)] ∧ Z.Warmed39 U.vm ∧ U.heap = h0) (fun _ _ _ _ _ => True) (fun _ U o U' => ∃ v L, o = .returned v ∧ Q0 a fl h0 n0 v U'.heap L ∧ FrameEnd U o U' L room_1.cells room_1.slots) := by
  refine MetFree.of_bodySF (plainFor_of_name pn_0) hisR ?_
  intro p e s m args below meth c s₁ Bd hml0 hP hK
  obtain ⟨rfl, hZ, hh⟩ := hP
  have hx := Bd.exec
  have hby := Bd.bytes
  have hml : c.maxLocals = 12 := hml0
  have hown : s.vm.findClass "com/example/metered_demand/metereddemand/model/MeasurementIsCountPinLaw" = some m.cls := findClass_of_methodNamed Bd.named
  have hnm := (name_of_methodNamed Bd.named Bd.method).1
  have X0 : Stand p l e room_1 s m #[(.long a), (.int fl)] below meth c s₁ [] 0 0 := Stand.of_body Bd
  have e0 : s₁.heap = h0 := by rw [← hh, Bd.state]; rfl
  have N0 := Fr.nil n0
  have pre0 : ∀ t, Steps p.tables e below (s₁.setTop (mkF m 0 #[.val (.long a), .second, .val (.int fl), .unset, .unset, .unset, .unset, .unset, .unset, .unset, .unset, .unset] [])) t → Steps p.tables e below (s₁.setTop (entryFrame m #[(.long a), (.int fl)] maxLocals)) t := fun t k => castTop (ef_0 m a fl) k
  obtain ⟨_, _, ⟨T10, L10, k10, n10⟩, -, X10, ⟨Lc10, hQ10, l10, y10, z10⟩, st10⟩ := Jvm.LawKit.callS X0 hx (y := (⟨"com/example/metered_demand/metereddemand/model/Measurement", "isCount", "(D)Z"⟩ : MethodName)) hown (mvT hZ (hw _ (List.mem_of_getElem? (i := 3) rfl))) (mvT hZ (hw _ (List.mem_of_getElem? (i := 4) rfl))) (mvT hZ (hw _ (List.mem_of_getElem? (i := 5) rfl))) (mvT hZ (hw _ (List.mem_of_getElem? (i := 6) rfl))) (by decide) (backOf (W := 0) (rm1 l Z a0 hw [] (FP.dadd (FP.dneg (FP.l2d (a % (4000000000000 : Int64)))) (4602678819172646912 : UInt64)) h0 n0 Z0) hZ (hw _ (List.mem_of_getElem? (i := 6) rfl)) (hw _ (List.mem_of_getElem? (i := 5) rfl)) (by decide) (by decide)) (g := (mkF m 129 #[.val (.long a), .second, .val (.int fl), .val (.long (a % (4000000000000 : Int64))), .second, .val (.int (1 : Int32)), .val (.int (1 : Int32)), .val (.long (-(a % (4000000000000 : Int64)))), .second, .val (.double (FP.dadd (FP.dneg (FP.l2d (a % (4000000000000 : Int64)))) (4602678819172646912 : UInt64))), .second, .val (.int (0 : Int32))] [(.double (FP.dadd (FP.dneg (FP.l2d (a % (4000000000000 : Int64)))) (4602678819172646912 : UInt64)))])) rfl (by rw [hml]; rfl) (argsL := [(.double (FP.dadd (FP.dneg (FP.l2d (a % (4000000000000 : Int64)))) (4602678819172646912 : UInt64)))]) (rest := []) (lenOf pd_0 rfl) rfl (by show 2 * 0 + _ ≤ _; exact Nat.le_of_eq rfl) (hb hby at_129) (fun _ _ => ⟨rfl, e0, (by decide : 0 + 0 ≤ _), (by decide : 0 + 0 ≤ _)⟩)
  dsimp only [Pt.U, Pt.locs, Pt.cells, Pt.slots] at X10 l10 y10 z10 st10 hQ10
  subst l10 y10 z10
  obtain ⟨rfl, N10q, e10⟩ := hQ10
  have N10 := Fr.app N0 N10q
  obtain ⟨fs, hr, hrun, hended, hW, hsame⟩ := X10.leave (v := some (.int (1 : Int32))) (fun h => by rw [Bd.returns] at h; cases h)
  refine ⟨_, _, pre0 _ ?_, hrun, hended, _, _, rfl, ?_, ⟨_, rfl⟩, hW, hsame.mono (by decide) (by decide)⟩
  · show Steps p.tables e below (s₁.setTop (mkF m 0 #[.val (.long a), .second, .val (.int fl), .unset, .unset, .unset, .unset, .unset, .unset, .unset, .unset, .unset] [])) _
    refine XS.lloadN X0.here hx rfl (hb hby at_0) rfl ?_
    show Steps p.tables e below (s₁.setTop (mkF m 1 #[.val (.long a), .second, .val (.int fl), .unset, .unset, .unset, .unset, .unset, .unset, .unset, .unset, .unset] [(.long a)])) _
    refine X0.ldc2Long hx hown (mvT hZ (hw _ (List.mem_of_getElem? (i := 0) rfl))) (g := (mkF m 1 #[.val (.long a), .second, .val (.int fl), .unset, .unset, .unset, .unset, .unset, .unset, .unset, .unset, .unset] [(.long a)])) rfl (hb hby at_1) _ ?_
    show Steps p.tables e below (s₁.setTop (mkF m 4 #[.val (.long a), .second, .val (.int fl), .unset, .unset, .unset, .unset, .unset, .unset, .unset, .unset, .unset] [(.long (4000000000000 : Int64)), (.long a)])) _
    refine gwLrem X0.here hx rfl (hb hby at_4) rfl (by decide : ¬ ((4000000000000 : Int64) = (0 : Int64))) ?_
    show Steps p.tables e below (s₁.setTop (mkF m 5 #[.val (.long a), .second, .val (.int fl), .unset, .unset, .unset, .unset, .unset, .unset, .unset, .unset, .unset] [(.long (a % (4000000000000 : Int64)))])) _
    refine XS.lstoreN X0.here hx rfl (hb hby at_5) rfl (l' := #[.val (.long a), .second, .val (.int fl), .val (.long (a % (4000000000000 : Int64))), .second, .unset, .unset, .unset, .unset, .unset, .unset, .unset]) rfl ?_
    show Steps p.tables e below (s₁.setTop (mkF m 6 #[.val (.long a), .second, .val (.int fl), .val (.long (a % (4000000000000 : Int64))), .second, .unset, .unset, .unset, .unset, .unset, .unset, .unset] [])) _
    refine XS.iloadN X0.here hx rfl (hb hby at_6) rfl ?_
    show Steps p.tables e below (s₁.setTop (mkF m 7 #[.val (.long a), .second, .val (.int fl), .val (.long (a % (4000000000000 : Int64))), .second, .unset, .unset, .unset, .unset, .unset, .unset, .unset] [(.int fl)])) _
    refine XS.iconst X0.here hx rfl (hb hby at_7) ?_
    show Steps p.tables e below (s₁.setTop (mkF m 8 #[.val (.long a), .second, .val (.int fl), .val (.long (a % (4000000000000 : Int64))), .second, .unset, .unset, .unset, .unset, .unset, .unset, .unset] [(.int (1 : Int32)), (.int fl)])) _
    refine XS.iand X0.here hx rfl (hb hby at_8) rfl ?_
    show Steps p.tables e below (s₁.setTop (mkF m 9 #[.val (.long a), .second, .val (.int fl), .val (.long (a % (4000000000000 : Int64))), .second, .unset, .unset, .unset, .unset, .unset, .unset, .unset] [(.int (fl &&& (1 : Int32)))])) _
    refine XS.ifNo X0.here hx rfl (hb hby at_9) rfl ((if0 _ _).trans (feq hc9).1) ?_
    show Steps p.tables e below (s₁.setTop (mkF m 12 #[.val (.long a), .second, .val (.int fl), .val (.long (a % (4000000000000 : Int64))), .second, .unset, .unset, .unset, .unset, .unset, .unset, .unset] [])) _
    refine XS.iconst X0.here hx rfl (hb hby at_12) ?_
    show Steps p.tables e below (s₁.setTop (mkF m 13 #[.val (.long a), .second, .val (.int fl), .val (.long (a % (4000000000000 : Int64))), .second, .unset, .unset, .unset, .unset, .unset, .unset, .unset] [(.int (1 : Int32))])) _
    refine XS.goto X0.here hx rfl (pc0 := 13) (pc' := 17) rfl (hb hby at_13) (by decide) (by decide) ?_
    show Steps p.tables e below (s₁.setTop (mkF m 17 #[.val (.long a), .second, .val (.int fl), .val (.long (a % (4000000000000 : Int64))), .second, .unset, .unset, .unset, .unset, .unset, .unset, .unset] [(.int (1 : Int32))])) _
    refine XS.istore X0.here hx rfl (hb hby at_17) rfl (l' := #[.val (.long a), .second, .val (.int fl), .val (.long (a % (4000000000000 : Int64))), .second, .val (.int (1 : Int32)), .unset, .unset, .unset, .unset, .unset, .unset]) rfl ?_
    show Steps p.tables e below (s₁.setTop (mkF m 19 #[.val (.long a), .second, .val (.int fl), .val (.long (a % (4000000000000 : Int64))), .second, .val (.int (1 : Int32)), .unset, .unset, .unset, .unset, .unset, .unset] [])) _
    refine XS.iloadN X0.here hx rfl (hb hby at_19) rfl ?_
    show Steps p.tables e below (s₁.setTop (mkF m 20 #[.val (.long a), .second, .val (.int fl), .val (.long (a % (4000000000000 : Int64))), .second, .val (.int (1 : Int32)), .unset, .unset, .unset, .unset, .unset, .unset] [(.int fl)])) _
    refine XS.iconst X0.here hx rfl (hb hby at_20) ?_
    show Steps p.tables e below (s₁.setTop (mkF m 21 #[.val (.long a), .second, .val (.int fl), .val (.long (a % (4000000000000 : Int64))), .second, .val (.int (1 : Int32)), .unset, .unset, .unset, .unset, .unset, .unset] [(.int (2 : Int32)), (.int fl)])) _
    refine XS.iand X0.here hx rfl (hb hby at_21) rfl ?_
    show Steps p.tables e below (s₁.setTop (mkF m 22 #[.val (.long a), .second, .val (.int fl), .val (.long (a % (4000000000000 : Int64))), .second, .val (.int (1 : Int32)), .unset, .unset, .unset, .unset, .unset, .unset] [(.int (fl &&& (2 : Int32)))])) _
    refine XS.ifNo X0.here hx rfl (hb hby at_22) rfl ((if0 _ _).trans (feq hc22).1) ?_
    show Steps p.tables e below (s₁.setTop (mkF m 25 #[.val (.long a), .second, .val (.int fl), .val (.long (a % (4000000000000 : Int64))), .second, .val (.int (1 : Int32)), .unset, .unset, .unset, .unset, .unset, .unset] [])) _
    refine XS.iconst X0.here hx rfl (hb hby at_25) ?_
    show Steps p.tables e below (s₁.setTop (mkF m 26 #[.val (.long a), .second, .val (.int fl), .val (.long (a % (4000000000000 : Int64))), .second, .val (.int (1 : Int32)), .unset, .unset, .unset, .unset, .unset, .unset] [(.int (1 : Int32))])) _
    refine XS.goto X0.here hx rfl (pc0 := 26) (pc' := 30) rfl (hb hby at_26) (by decide) (by decide) ?_
    show Steps p.tables e below (s₁.setTop (mkF m 30 #[.val (.long a), .second, .val (.int fl), .val (.long (a % (4000000000000 : Int64))), .second, .val (.int (1 : Int32)), .unset, .unset, .unset, .unset, .unset, .unset] [(.int (1 : Int32))])) _
    refine XS.istore X0.here hx rfl (hb hby at_30) rfl (l' := #[.val (.long a), .second, .val (.int fl), .val (.long (a % (4000000000000 : Int64))), .second, .val (.int (1 : Int32)), .val (.int (1 : Int32)), .unset, .unset, .unset, .unset, .unset]) rfl ?_
    show Steps p.tables e below (s₁.setTop (mkF m 32 #[.val (.long a), .second, .val (.int fl), .val (.long (a % (4000000000000 : Int64))), .second, .val (.int (1 : Int32)), .val (.int (1 : Int32)), .unset, .unset, .unset, .unset, .unset] [])) _
    refine XS.iload X0.here hx rfl (hb hby at_32) rfl ?_
    show Steps p.tables e below (s₁.setTop (mkF m 34 #[.val (.long a), .second, .val (.int fl), .val (.long (a % (4000000000000 : Int64))), .second, .val (.int (1 : Int32)), .val (.int (1 : Int32)), .unset, .unset, .unset, .unset, .unset] [(.int (1 : Int32))])) _
    refine XS.ifNo X0.here hx rfl (hb hby at_34) rfl ((if0 _ _).trans (feq (by decide : ¬ ((1 : Int32) = (0 : Int32)))).1) ?_
    show Steps p.tables e below (s₁.setTop (mkF m 37 #[.val (.long a), .second, .val (.int fl), .val (.long (a % (4000000000000 : Int64))), .second, .val (.int (1 : Int32)), .val (.int (1 : Int32)), .unset, .unset, .unset, .unset, .unset] [])) _
    refine XS.lloadN X0.here hx rfl (hb hby at_37) rfl ?_
    show Steps p.tables e below (s₁.setTop (mkF m 38 #[.val (.long a), .second, .val (.int fl), .val (.long (a % (4000000000000 : Int64))), .second, .val (.int (1 : Int32)), .val (.int (1 : Int32)), .unset, .unset, .unset, .unset, .unset] [(.long (a % (4000000000000 : Int64)))])) _
    refine XS.lneg X0.here hx rfl (hb hby at_38) rfl ?_
    show Steps p.tables e below (s₁.setTop (mkF m 39 #[.val (.long a), .second, .val (.int fl), .val (.long (a % (4000000000000 : Int64))), .second, .val (.int (1 : Int32)), .val (.int (1 : Int32)), .unset, .unset, .unset, .unset, .unset] [(.long (-(a % (4000000000000 : Int64))))])) _
    refine XS.goto X0.here hx rfl (pc0 := 39) (pc' := 43) rfl (hb hby at_39) (by decide) (by decide) ?_
    show Steps p.tables e below (s₁.setTop (mkF m 43 #[.val (.long a), .second, .val (.int fl), .val (.long (a % (4000000000000 : Int64))), .second, .val (.int (1 : Int32)), .val (.int (1 : Int32)), .unset, .unset, .unset, .unset, .unset] [(.long (-(a % (4000000000000 : Int64))))])) _
    refine XS.lstore X0.here hx rfl (hb hby at_43) rfl (l' := #[.val (.long a), .second, .val (.int fl), .val (.long (a % (4000000000000 : Int64))), .second, .val (.int (1 : Int32)), .val (.int (1 : Int32)), .val (.long (-(a % (4000000000000 : Int64)))), .second, .unset, .unset, .unset]) rfl ?_
    show Steps p.tables e below (s₁.setTop (mkF m 45 #[.val (.long a), .second, .val (.int fl), .val (.long (a % (4000000000000 : Int64))), .second, .val (.int (1 : Int32)), .val (.int (1 : Int32)), .val (.long (-(a % (4000000000000 : Int64)))), .second, .unset, .unset, .unset] [])) _
    refine XS.iload X0.here hx rfl (hb hby at_45) rfl ?_
    show Steps p.tables e below (s₁.setTop (mkF m 47 #[.val (.long a), .second, .val (.int fl), .val (.long (a % (4000000000000 : Int64))), .second, .val (.int (1 : Int32)), .val (.int (1 : Int32)), .val (.long (-(a % (4000000000000 : Int64)))), .second, .unset, .unset, .unset] [(.int (1 : Int32))])) _
    refine XS.ifNo X0.here hx rfl (hb hby at_47) rfl ((if0 _ _).trans (feq (by decide : ¬ ((1 : Int32) = (0 : Int32)))).1) ?_
    show Steps p.tables e below (s₁.setTop (mkF m 50 #[.val (.long a), .second, .val (.int fl), .val (.long (a % (4000000000000 : Int64))), .second, .val (.int (1 : Int32)), .val (.int (1 : Int32)), .val (.long (-(a % (4000000000000 : Int64)))), .second, .unset, .unset, .unset] [])) _
    refine XS.lloadN X0.here hx rfl (hb hby at_50) rfl ?_
    show Steps p.tables e below (s₁.setTop (mkF m 51 #[.val (.long a), .second, .val (.int fl), .val (.long (a % (4000000000000 : Int64))), .second, .val (.int (1 : Int32)), .val (.int (1 : Int32)), .val (.long (-(a % (4000000000000 : Int64)))), .second, .unset, .unset, .unset] [(.long (a % (4000000000000 : Int64)))])) _
    refine XS.l2dS X0.here hx rfl (hb hby at_51) rfl rfl ?_
    show Steps p.tables e below (s₁.setTop (mkF m 52 #[.val (.long a), .second, .val (.int fl), .val (.long (a % (4000000000000 : Int64))), .second, .val (.int (1 : Int32)), .val (.int (1 : Int32)), .val (.long (-(a % (4000000000000 : Int64)))), .second, .unset, .unset, .unset] [(.double (FP.l2d (a % (4000000000000 : Int64))))])) _
    refine XS.dnegS X0.here hx rfl (hb hby at_52) rfl rfl ?_
    show Steps p.tables e below (s₁.setTop (mkF m 53 #[.val (.long a), .second, .val (.int fl), .val (.long (a % (4000000000000 : Int64))), .second, .val (.int (1 : Int32)), .val (.int (1 : Int32)), .val (.long (-(a % (4000000000000 : Int64)))), .second, .unset, .unset, .unset] [(.double (FP.dneg (FP.l2d (a % (4000000000000 : Int64)))))])) _
    refine XS.goto X0.here hx rfl (pc0 := 53) (pc' := 58) rfl (hb hby at_53) (by decide) (by decide) ?_
    show Steps p.tables e below (s₁.setTop (mkF m 58 #[.val (.long a), .second, .val (.int fl), .val (.long (a % (4000000000000 : Int64))), .second, .val (.int (1 : Int32)), .val (.int (1 : Int32)), .val (.long (-(a % (4000000000000 : Int64)))), .second, .unset, .unset, .unset] [(.double (FP.dneg (FP.l2d (a % (4000000000000 : Int64)))))])) _
    refine XS.dstore X0.here hx rfl (hb hby at_58) rfl (l' := #[.val (.long a), .second, .val (.int fl), .val (.long (a % (4000000000000 : Int64))), .second, .val (.int (1 : Int32)), .val (.int (1 : Int32)), .val (.long (-(a % (4000000000000 : Int64)))), .second, .val (.double (FP.dneg (FP.l2d (a % (4000000000000 : Int64))))), .second, .unset]) rfl ?_
    show Steps p.tables e below (s₁.setTop (mkF m 60 #[.val (.long a), .second, .val (.int fl), .val (.long (a % (4000000000000 : Int64))), .second, .val (.int (1 : Int32)), .val (.int (1 : Int32)), .val (.long (-(a % (4000000000000 : Int64)))), .second, .val (.double (FP.dneg (FP.l2d (a % (4000000000000 : Int64))))), .second, .unset] [])) _
    refine XS.iload X0.here hx rfl (hb hby at_60) rfl ?_
    show Steps p.tables e below (s₁.setTop (mkF m 62 #[.val (.long a), .second, .val (.int fl), .val (.long (a % (4000000000000 : Int64))), .second, .val (.int (1 : Int32)), .val (.int (1 : Int32)), .val (.long (-(a % (4000000000000 : Int64)))), .second, .val (.double (FP.dneg (FP.l2d (a % (4000000000000 : Int64))))), .second, .unset] [(.int (1 : Int32))])) _
    refine XS.ifNo X0.here hx rfl (hb hby at_62) rfl ((if0 _ _).trans (feq (by decide : ¬ ((1 : Int32) = (0 : Int32)))).1) ?_
    show Steps p.tables e below (s₁.setTop (mkF m 65 #[.val (.long a), .second, .val (.int fl), .val (.long (a % (4000000000000 : Int64))), .second, .val (.int (1 : Int32)), .val (.int (1 : Int32)), .val (.long (-(a % (4000000000000 : Int64)))), .second, .val (.double (FP.dneg (FP.l2d (a % (4000000000000 : Int64))))), .second, .unset] [])) _
    refine XS.dload X0.here hx rfl (hb hby at_65) rfl ?_
    show Steps p.tables e below (s₁.setTop (mkF m 67 #[.val (.long a), .second, .val (.int fl), .val (.long (a % (4000000000000 : Int64))), .second, .val (.int (1 : Int32)), .val (.int (1 : Int32)), .val (.long (-(a % (4000000000000 : Int64)))), .second, .val (.double (FP.dneg (FP.l2d (a % (4000000000000 : Int64))))), .second, .unset] [(.double (FP.dneg (FP.l2d (a % (4000000000000 : Int64)))))])) _
    refine X0.ldc2DoubleC hx hown (mvT hZ (hw _ (List.mem_of_getElem? (i := 1) rfl))) (g := (mkF m 67 #[.val (.long a), .second, .val (.int fl), .val (.long (a % (4000000000000 : Int64))), .second, .val (.int (1 : Int32)), .val (.int (1 : Int32)), .val (.long (-(a % (4000000000000 : Int64)))), .second, .val (.double (FP.dneg (FP.l2d (a % (4000000000000 : Int64))))), .second, .unset] [(.double (FP.dneg (FP.l2d (a % (4000000000000 : Int64)))))])) rfl (hb hby at_67) _ ?_
    show Steps p.tables e below (s₁.setTop (mkF m 70 #[.val (.long a), .second, .val (.int fl), .val (.long (a % (4000000000000 : Int64))), .second, .val (.int (1 : Int32)), .val (.int (1 : Int32)), .val (.long (-(a % (4000000000000 : Int64)))), .second, .val (.double (FP.dneg (FP.l2d (a % (4000000000000 : Int64))))), .second, .unset] [(.double (4602678819172646912 : UInt64)), (.double (FP.dneg (FP.l2d (a % (4000000000000 : Int64)))))])) _
    refine XS.daddS X0.here hx rfl (hb hby at_70) rfl hnan70 rfl ?_
    show Steps p.tables e below (s₁.setTop (mkF m 71 #[.val (.long a), .second, .val (.int fl), .val (.long (a % (4000000000000 : Int64))), .second, .val (.int (1 : Int32)), .val (.int (1 : Int32)), .val (.long (-(a % (4000000000000 : Int64)))), .second, .val (.double (FP.dneg (FP.l2d (a % (4000000000000 : Int64))))), .second, .unset] [(.double (FP.dadd (FP.dneg (FP.l2d (a % (4000000000000 : Int64)))) (4602678819172646912 : UInt64)))])) _
    refine XS.dstore X0.here hx rfl (hb hby at_71) rfl (l' := #[.val (.long a), .second, .val (.int fl), .val (.long (a % (4000000000000 : Int64))), .second, .val (.int (1 : Int32)), .val (.int (1 : Int32)), .val (.long (-(a % (4000000000000 : Int64)))), .second, .val (.double (FP.dadd (FP.dneg (FP.l2d (a % (4000000000000 : Int64)))) (4602678819172646912 : UInt64))), .second, .unset]) rfl ?_
    show Steps p.tables e below (s₁.setTop (mkF m 73 #[.val (.long a), .second, .val (.int fl), .val (.long (a % (4000000000000 : Int64))), .second, .val (.int (1 : Int32)), .val (.int (1 : Int32)), .val (.long (-(a % (4000000000000 : Int64)))), .second, .val (.double (FP.dadd (FP.dneg (FP.l2d (a % (4000000000000 : Int64)))) (4602678819172646912 : UInt64))), .second, .unset] [])) _
    refine XS.iload X0.here hx rfl (hb hby at_73) rfl ?_
    show Steps p.tables e below (s₁.setTop (mkF m 75 #[.val (.long a), .second, .val (.int fl), .val (.long (a % (4000000000000 : Int64))), .second, .val (.int (1 : Int32)), .val (.int (1 : Int32)), .val (.long (-(a % (4000000000000 : Int64)))), .second, .val (.double (FP.dadd (FP.dneg (FP.l2d (a % (4000000000000 : Int64)))) (4602678819172646912 : UInt64))), .second, .unset] [(.int (1 : Int32))])) _
    refine XS.ifNo X0.here hx rfl (hb hby at_75) rfl ((if0 _ _).trans (feq (by decide : ¬ ((1 : Int32) = (0 : Int32)))).1) ?_
    show Steps p.tables e below (s₁.setTop (mkF m 78 #[.val (.long a), .second, .val (.int fl), .val (.long (a % (4000000000000 : Int64))), .second, .val (.int (1 : Int32)), .val (.int (1 : Int32)), .val (.long (-(a % (4000000000000 : Int64)))), .second, .val (.double (FP.dadd (FP.dneg (FP.l2d (a % (4000000000000 : Int64)))) (4602678819172646912 : UInt64))), .second, .unset] [])) _
    refine XS.lload X0.here hx rfl (hb hby at_78) rfl ?_
    show Steps p.tables e below (s₁.setTop (mkF m 80 #[.val (.long a), .second, .val (.int fl), .val (.long (a % (4000000000000 : Int64))), .second, .val (.int (1 : Int32)), .val (.int (1 : Int32)), .val (.long (-(a % (4000000000000 : Int64)))), .second, .val (.double (FP.dadd (FP.dneg (FP.l2d (a % (4000000000000 : Int64)))) (4602678819172646912 : UInt64))), .second, .unset] [(.long (-(a % (4000000000000 : Int64))))])) _
    refine XS.lconst X0.here hx rfl (hb hby at_80) ?_
    show Steps p.tables e below (s₁.setTop (mkF m 81 #[.val (.long a), .second, .val (.int fl), .val (.long (a % (4000000000000 : Int64))), .second, .val (.int (1 : Int32)), .val (.int (1 : Int32)), .val (.long (-(a % (4000000000000 : Int64)))), .second, .val (.double (FP.dadd (FP.dneg (FP.l2d (a % (4000000000000 : Int64)))) (4602678819172646912 : UInt64))), .second, .unset] [(.long (0 : Int64)), (.long (-(a % (4000000000000 : Int64))))])) _
    refine XS.lcmp X0.here hx rfl (hb hby at_81) rfl ?_
    show Steps p.tables e below (s₁.setTop (mkF m 82 #[.val (.long a), .second, .val (.int fl), .val (.long (a % (4000000000000 : Int64))), .second, .val (.int (1 : Int32)), .val (.int (1 : Int32)), .val (.long (-(a % (4000000000000 : Int64)))), .second, .val (.double (FP.dadd (FP.dneg (FP.l2d (a % (4000000000000 : Int64)))) (4602678819172646912 : UInt64))), .second, .unset] [(.int (lcmpW (-(a % (4000000000000 : Int64))) (0 : Int64)))])) _
    refine XS.ifYes X0.here hx rfl (pc0 := 82) (pc' := 98) rfl (hb hby at_82) rfl ((if0 _ _).trans (tlt hc82).1) (by decide) (by decide) ?_
    show Steps p.tables e below (s₁.setTop (mkF m 98 #[.val (.long a), .second, .val (.int fl), .val (.long (a % (4000000000000 : Int64))), .second, .val (.int (1 : Int32)), .val (.int (1 : Int32)), .val (.long (-(a % (4000000000000 : Int64)))), .second, .val (.double (FP.dadd (FP.dneg (FP.l2d (a % (4000000000000 : Int64)))) (4602678819172646912 : UInt64))), .second, .unset] [])) _
    refine XS.iconst X0.here hx rfl (hb hby at_98) ?_
    show Steps p.tables e below (s₁.setTop (mkF m 99 #[.val (.long a), .second, .val (.int fl), .val (.long (a % (4000000000000 : Int64))), .second, .val (.int (1 : Int32)), .val (.int (1 : Int32)), .val (.long (-(a % (4000000000000 : Int64)))), .second, .val (.double (FP.dadd (FP.dneg (FP.l2d (a % (4000000000000 : Int64)))) (4602678819172646912 : UInt64))), .second, .unset] [(.int (0 : Int32))])) _
    refine XS.istore X0.here hx rfl (hb hby at_99) rfl (l' := #[.val (.long a), .second, .val (.int fl), .val (.long (a % (4000000000000 : Int64))), .second, .val (.int (1 : Int32)), .val (.int (1 : Int32)), .val (.long (-(a % (4000000000000 : Int64)))), .second, .val (.double (FP.dadd (FP.dneg (FP.l2d (a % (4000000000000 : Int64)))) (4602678819172646912 : UInt64))), .second, .val (.int (0 : Int32))]) rfl ?_
    show Steps p.tables e below (s₁.setTop (mkF m 101 #[.val (.long a), .second, .val (.int fl), .val (.long (a % (4000000000000 : Int64))), .second, .val (.int (1 : Int32)), .val (.int (1 : Int32)), .val (.long (-(a % (4000000000000 : Int64)))), .second, .val (.double (FP.dadd (FP.dneg (FP.l2d (a % (4000000000000 : Int64)))) (4602678819172646912 : UInt64))), .second, .val (.int (0 : Int32))] [])) _
    refine XS.goto X0.here hx rfl (pc0 := 101) (pc' := 127) rfl (hb hby at_101) (by decide) (by decide) ?_
    show Steps p.tables e below (s₁.setTop (mkF m 127 #[.val (.long a), .second, .val (.int fl), .val (.long (a % (4000000000000 : Int64))), .second, .val (.int (1 : Int32)), .val (.int (1 : Int32)), .val (.long (-(a % (4000000000000 : Int64)))), .second, .val (.double (FP.dadd (FP.dneg (FP.l2d (a % (4000000000000 : Int64)))) (4602678819172646912 : UInt64))), .second, .val (.int (0 : Int32))] [])) _
    refine XS.dload X0.here hx rfl (hb hby at_127) rfl ?_
    show Steps p.tables e below (s₁.setTop (mkF m 129 #[.val (.long a), .second, .val (.int fl), .val (.long (a % (4000000000000 : Int64))), .second, .val (.int (1 : Int32)), .val (.int (1 : Int32)), .val (.long (-(a % (4000000000000 : Int64)))), .second, .val (.double (FP.dadd (FP.dneg (FP.l2d (a % (4000000000000 : Int64)))) (4602678819172646912 : UInt64))), .second, .val (.int (0 : Int32))] [(.double (FP.dadd (FP.dneg (FP.l2d (a % (4000000000000 : Int64)))) (4602678819172646912 : UInt64)))])) _
    refine st10 _ ?_
    show Steps p.tables e below (T10.setTop (mkF m 132 #[.val (.long a), .second, .val (.int fl), .val (.long (a % (4000000000000 : Int64))), .second, .val (.int (1 : Int32)), .val (.int (1 : Int32)), .val (.long (-(a % (4000000000000 : Int64)))), .second, .val (.double (FP.dadd (FP.dneg (FP.l2d (a % (4000000000000 : Int64)))) (4602678819172646912 : UInt64))), .second, .val (.int (0 : Int32))] [(.int (isC (FP.dadd (FP.dneg (FP.l2d (a % (4000000000000 : Int64)))) (4602678819172646912 : UInt64))))])) _
    refine XS.iload X10.here hx rfl (hb hby at_132) rfl ?_
    show Steps p.tables e below (T10.setTop (mkF m 134 #[.val (.long a), .second, .val (.int fl), .val (.long (a % (4000000000000 : Int64))), .second, .val (.int (1 : Int32)), .val (.int (1 : Int32)), .val (.long (-(a % (4000000000000 : Int64)))), .second, .val (.double (FP.dadd (FP.dneg (FP.l2d (a % (4000000000000 : Int64)))) (4602678819172646912 : UInt64))), .second, .val (.int (0 : Int32))] [(.int (0 : Int32)), (.int (isC (FP.dadd (FP.dneg (FP.l2d (a % (4000000000000 : Int64)))) (4602678819172646912 : UInt64))))])) _
    refine XS.icmpNo X10.here hx rfl (hb hby at_134) rfl (teq hc134).2 ?_
    show Steps p.tables e below (T10.setTop (mkF m 137 #[.val (.long a), .second, .val (.int fl), .val (.long (a % (4000000000000 : Int64))), .second, .val (.int (1 : Int32)), .val (.int (1 : Int32)), .val (.long (-(a % (4000000000000 : Int64)))), .second, .val (.double (FP.dadd (FP.dneg (FP.l2d (a % (4000000000000 : Int64)))) (4602678819172646912 : UInt64))), .second, .val (.int (0 : Int32))] [])) _
    refine XS.iconst X10.here hx rfl (hb hby at_137) ?_
    show Steps p.tables e below (T10.setTop (mkF m 138 #[.val (.long a), .second, .val (.int fl), .val (.long (a % (4000000000000 : Int64))), .second, .val (.int (1 : Int32)), .val (.int (1 : Int32)), .val (.long (-(a % (4000000000000 : Int64)))), .second, .val (.double (FP.dadd (FP.dneg (FP.l2d (a % (4000000000000 : Int64)))) (4602678819172646912 : UInt64))), .second, .val (.int (0 : Int32))] [(.int (1 : Int32))])) _
    refine XS.goto X10.here hx rfl (pc0 := 138) (pc' := 142) rfl (hb hby at_138) (by decide) (by decide) ?_
    show Steps p.tables e below (T10.setTop (mkF m 142 #[.val (.long a), .second, .val (.int fl), .val (.long (a % (4000000000000 : Int64))), .second, .val (.int (1 : Int32)), .val (.int (1 : Int32)), .val (.long (-(a % (4000000000000 : Int64)))), .second, .val (.double (FP.dadd (FP.dneg (FP.l2d (a % (4000000000000 : Int64)))) (4602678819172646912 : UInt64))), .second, .val (.int (0 : Int32))] [(.int (1 : Int32))])) _
    exact retN X10 hx (t := .boolean) Bd.returns (by simp) (hb hby at_142) hr
  · show Q0 a fl h0 n0 _ T10.heap _
    rw [e10]
    exact ⟨rfl, N10⟩
set_option maxRecDepth 65536 in
set_option maxHeartbeats 40000000 in
theorem rm0_11ft (l : Launch) (Z : State) (a0 : Array Value) (hw : ∀ d ∈ tables_1, d.before a0 Z = true) (ws : List Jvm.Cond) (a : Int64) (fl : Int32)  (h0 : Heap) (n0 : Nat) (Z0 : n0 ≤ h0.size)  (hc9 : ¬ ((fl &&& (1 : Int32)) = (0 : Int32))) (hc22 : ¬ ((fl &&& (2 : Int32)) = (0 : Int32))) (hnan70 : Jvm.Free.Fl.NoNaN64 (FP.dadd (FP.dneg (FP.l2d (a % (4000000000000 : Int64)))) (4602678819172646912 : UInt64))) (hc82 : ¬ ((lcmpW (-(a % (4000000000000 : Int64))) (0 : Int64)) < (0 : Int32))) (hc91 : (0 : Int32) < (lcmpW (-(a % (4000000000000 : Int64))) (999999999999 : Int64))) (hc134 : (isC (FP.dadd (FP.dneg (FP.l2d (a % (4000000000000 : Int64)))) (4602678819172646912 : UInt64))) = (0 : Int32)) :
    MetFree l x (head1 (Jvm.Cond.code x code maxLocals ret :: ws) room_1) (fun aa U => aa = #[(.long a), (.int fl)] ∧ Z.Warmed39 U.vm ∧ U.heap = h0) (fun _ _ _ _ _ => True) (fun _ U o U' => ∃ v L, o = .returned v ∧ Q0 a fl h0 n0 v U'.heap L ∧ FrameEnd U o U' L room_1.cells room_1.slots) := by
  refine MetFree.of_bodySF (plainFor_of_name pn_0) hisR ?_
  intro p e s m args below meth c s₁ Bd hml0 hP hK
  obtain ⟨rfl, hZ, hh⟩ := hP
  have hx := Bd.exec
  have hby := Bd.bytes
  have hml : c.maxLocals = 12 := hml0
  have hown : s.vm.findClass "com/example/metered_demand/metereddemand/model/MeasurementIsCountPinLaw" = some m.cls := findClass_of_methodNamed Bd.named
  have hnm := (name_of_methodNamed Bd.named Bd.method).1
  have X0 : Stand p l e room_1 s m #[(.long a), (.int fl)] below meth c s₁ [] 0 0 := Stand.of_body Bd
  have e0 : s₁.heap = h0 := by rw [← hh, Bd.state]; rfl
  have N0 := Fr.nil n0
  have pre0 : ∀ t, Steps p.tables e below (s₁.setTop (mkF m 0 #[.val (.long a), .second, .val (.int fl), .unset, .unset, .unset, .unset, .unset, .unset, .unset, .unset, .unset] [])) t → Steps p.tables e below (s₁.setTop (entryFrame m #[(.long a), (.int fl)] maxLocals)) t := fun t k => castTop (ef_0 m a fl) k
  obtain ⟨_, _, ⟨T11, L11, k11, n11⟩, -, X11, ⟨Lc11, hQ11, l11, y11, z11⟩, st11⟩ := Jvm.LawKit.callS X0 hx (y := (⟨"com/example/metered_demand/metereddemand/model/Measurement", "isCount", "(D)Z"⟩ : MethodName)) hown (mvT hZ (hw _ (List.mem_of_getElem? (i := 3) rfl))) (mvT hZ (hw _ (List.mem_of_getElem? (i := 4) rfl))) (mvT hZ (hw _ (List.mem_of_getElem? (i := 5) rfl))) (mvT hZ (hw _ (List.mem_of_getElem? (i := 6) rfl))) (by decide) (backOf (W := 0) (rm1 l Z a0 hw [] (FP.dadd (FP.dneg (FP.l2d (a % (4000000000000 : Int64)))) (4602678819172646912 : UInt64)) h0 n0 Z0) hZ (hw _ (List.mem_of_getElem? (i := 6) rfl)) (hw _ (List.mem_of_getElem? (i := 5) rfl)) (by decide) (by decide)) (g := (mkF m 129 #[.val (.long a), .second, .val (.int fl), .val (.long (a % (4000000000000 : Int64))), .second, .val (.int (1 : Int32)), .val (.int (1 : Int32)), .val (.long (-(a % (4000000000000 : Int64)))), .second, .val (.double (FP.dadd (FP.dneg (FP.l2d (a % (4000000000000 : Int64)))) (4602678819172646912 : UInt64))), .second, .val (.int (0 : Int32))] [(.double (FP.dadd (FP.dneg (FP.l2d (a % (4000000000000 : Int64)))) (4602678819172646912 : UInt64)))])) rfl (by rw [hml]; rfl) (argsL := [(.double (FP.dadd (FP.dneg (FP.l2d (a % (4000000000000 : Int64)))) (4602678819172646912 : UInt64)))]) (rest := []) (lenOf pd_0 rfl) rfl (by show 2 * 0 + _ ≤ _; exact Nat.le_of_eq rfl) (hb hby at_129) (fun _ _ => ⟨rfl, e0, (by decide : 0 + 0 ≤ _), (by decide : 0 + 0 ≤ _)⟩)
  dsimp only [Pt.U, Pt.locs, Pt.cells, Pt.slots] at X11 l11 y11 z11 st11 hQ11
  subst l11 y11 z11
  obtain ⟨rfl, N11q, e11⟩ := hQ11
  have N11 := Fr.app N0 N11q
  obtain ⟨fs, hr, hrun, hended, hW, hsame⟩ := X11.leave (v := some (.int (1 : Int32))) (fun h => by rw [Bd.returns] at h; cases h)
  refine ⟨_, _, pre0 _ ?_, hrun, hended, _, _, rfl, ?_, ⟨_, rfl⟩, hW, hsame.mono (by decide) (by decide)⟩
  · show Steps p.tables e below (s₁.setTop (mkF m 0 #[.val (.long a), .second, .val (.int fl), .unset, .unset, .unset, .unset, .unset, .unset, .unset, .unset, .unset] [])) _
    refine XS.lloadN X0.here hx rfl (hb hby at_0) rfl ?_
    show Steps p.tables e below (s₁.setTop (mkF m 1 #[.val (.long a), .second, .val (.int fl), .unset, .unset, .unset, .unset, .unset, .unset, .unset, .unset, .unset] [(.long a)])) _
    refine X0.ldc2Long hx hown (mvT hZ (hw _ (List.mem_of_getElem? (i := 0) rfl))) (g := (mkF m 1 #[.val (.long a), .second, .val (.int fl), .unset, .unset, .unset, .unset, .unset, .unset, .unset, .unset, .unset] [(.long a)])) rfl (hb hby at_1) _ ?_
    show Steps p.tables e below (s₁.setTop (mkF m 4 #[.val (.long a), .second, .val (.int fl), .unset, .unset, .unset, .unset, .unset, .unset, .unset, .unset, .unset] [(.long (4000000000000 : Int64)), (.long a)])) _
    refine gwLrem X0.here hx rfl (hb hby at_4) rfl (by decide : ¬ ((4000000000000 : Int64) = (0 : Int64))) ?_
    show Steps p.tables e below (s₁.setTop (mkF m 5 #[.val (.long a), .second, .val (.int fl), .unset, .unset, .unset, .unset, .unset, .unset, .unset, .unset, .unset] [(.long (a % (4000000000000 : Int64)))])) _
    refine XS.lstoreN X0.here hx rfl (hb hby at_5) rfl (l' := #[.val (.long a), .second, .val (.int fl), .val (.long (a % (4000000000000 : Int64))), .second, .unset, .unset, .unset, .unset, .unset, .unset, .unset]) rfl ?_
    show Steps p.tables e below (s₁.setTop (mkF m 6 #[.val (.long a), .second, .val (.int fl), .val (.long (a % (4000000000000 : Int64))), .second, .unset, .unset, .unset, .unset, .unset, .unset, .unset] [])) _
    refine XS.iloadN X0.here hx rfl (hb hby at_6) rfl ?_
    show Steps p.tables e below (s₁.setTop (mkF m 7 #[.val (.long a), .second, .val (.int fl), .val (.long (a % (4000000000000 : Int64))), .second, .unset, .unset, .unset, .unset, .unset, .unset, .unset] [(.int fl)])) _
    refine XS.iconst X0.here hx rfl (hb hby at_7) ?_
    show Steps p.tables e below (s₁.setTop (mkF m 8 #[.val (.long a), .second, .val (.int fl), .val (.long (a % (4000000000000 : Int64))), .second, .unset, .unset, .unset, .unset, .unset, .unset, .unset] [(.int (1 : Int32)), (.int fl)])) _
    refine XS.iand X0.here hx rfl (hb hby at_8) rfl ?_
    show Steps p.tables e below (s₁.setTop (mkF m 9 #[.val (.long a), .second, .val (.int fl), .val (.long (a % (4000000000000 : Int64))), .second, .unset, .unset, .unset, .unset, .unset, .unset, .unset] [(.int (fl &&& (1 : Int32)))])) _
    refine XS.ifNo X0.here hx rfl (hb hby at_9) rfl ((if0 _ _).trans (feq hc9).1) ?_
    show Steps p.tables e below (s₁.setTop (mkF m 12 #[.val (.long a), .second, .val (.int fl), .val (.long (a % (4000000000000 : Int64))), .second, .unset, .unset, .unset, .unset, .unset, .unset, .unset] [])) _
    refine XS.iconst X0.here hx rfl (hb hby at_12) ?_
    show Steps p.tables e below (s₁.setTop (mkF m 13 #[.val (.long a), .second, .val (.int fl), .val (.long (a % (4000000000000 : Int64))), .second, .unset, .unset, .unset, .unset, .unset, .unset, .unset] [(.int (1 : Int32))])) _
    refine XS.goto X0.here hx rfl (pc0 := 13) (pc' := 17) rfl (hb hby at_13) (by decide) (by decide) ?_
    show Steps p.tables e below (s₁.setTop (mkF m 17 #[.val (.long a), .second, .val (.int fl), .val (.long (a % (4000000000000 : Int64))), .second, .unset, .unset, .unset, .unset, .unset, .unset, .unset] [(.int (1 : Int32))])) _
    refine XS.istore X0.here hx rfl (hb hby at_17) rfl (l' := #[.val (.long a), .second, .val (.int fl), .val (.long (a % (4000000000000 : Int64))), .second, .val (.int (1 : Int32)), .unset, .unset, .unset, .unset, .unset, .unset]) rfl ?_
    show Steps p.tables e below (s₁.setTop (mkF m 19 #[.val (.long a), .second, .val (.int fl), .val (.long (a % (4000000000000 : Int64))), .second, .val (.int (1 : Int32)), .unset, .unset, .unset, .unset, .unset, .unset] [])) _
    refine XS.iloadN X0.here hx rfl (hb hby at_19) rfl ?_
    show Steps p.tables e below (s₁.setTop (mkF m 20 #[.val (.long a), .second, .val (.int fl), .val (.long (a % (4000000000000 : Int64))), .second, .val (.int (1 : Int32)), .unset, .unset, .unset, .unset, .unset, .unset] [(.int fl)])) _
    refine XS.iconst X0.here hx rfl (hb hby at_20) ?_
    show Steps p.tables e below (s₁.setTop (mkF m 21 #[.val (.long a), .second, .val (.int fl), .val (.long (a % (4000000000000 : Int64))), .second, .val (.int (1 : Int32)), .unset, .unset, .unset, .unset, .unset, .unset] [(.int (2 : Int32)), (.int fl)])) _
    refine XS.iand X0.here hx rfl (hb hby at_21) rfl ?_
    show Steps p.tables e below (s₁.setTop (mkF m 22 #[.val (.long a), .second, .val (.int fl), .val (.long (a % (4000000000000 : Int64))), .second, .val (.int (1 : Int32)), .unset, .unset, .unset, .unset, .unset, .unset] [(.int (fl &&& (2 : Int32)))])) _
    refine XS.ifNo X0.here hx rfl (hb hby at_22) rfl ((if0 _ _).trans (feq hc22).1) ?_
    show Steps p.tables e below (s₁.setTop (mkF m 25 #[.val (.long a), .second, .val (.int fl), .val (.long (a % (4000000000000 : Int64))), .second, .val (.int (1 : Int32)), .unset, .unset, .unset, .unset, .unset, .unset] [])) _
    refine XS.iconst X0.here hx rfl (hb hby at_25) ?_
    show Steps p.tables e below (s₁.setTop (mkF m 26 #[.val (.long a), .second, .val (.int fl), .val (.long (a % (4000000000000 : Int64))), .second, .val (.int (1 : Int32)), .unset, .unset, .unset, .unset, .unset, .unset] [(.int (1 : Int32))])) _
    refine XS.goto X0.here hx rfl (pc0 := 26) (pc' := 30) rfl (hb hby at_26) (by decide) (by decide) ?_
    show Steps p.tables e below (s₁.setTop (mkF m 30 #[.val (.long a), .second, .val (.int fl), .val (.long (a % (4000000000000 : Int64))), .second, .val (.int (1 : Int32)), .unset, .unset, .unset, .unset, .unset, .unset] [(.int (1 : Int32))])) _
    refine XS.istore X0.here hx rfl (hb hby at_30) rfl (l' := #[.val (.long a), .second, .val (.int fl), .val (.long (a % (4000000000000 : Int64))), .second, .val (.int (1 : Int32)), .val (.int (1 : Int32)), .unset, .unset, .unset, .unset, .unset]) rfl ?_
    show Steps p.tables e below (s₁.setTop (mkF m 32 #[.val (.long a), .second, .val (.int fl), .val (.long (a % (4000000000000 : Int64))), .second, .val (.int (1 : Int32)), .val (.int (1 : Int32)), .unset, .unset, .unset, .unset, .unset] [])) _
    refine XS.iload X0.here hx rfl (hb hby at_32) rfl ?_
    show Steps p.tables e below (s₁.setTop (mkF m 34 #[.val (.long a), .second, .val (.int fl), .val (.long (a % (4000000000000 : Int64))), .second, .val (.int (1 : Int32)), .val (.int (1 : Int32)), .unset, .unset, .unset, .unset, .unset] [(.int (1 : Int32))])) _
    refine XS.ifNo X0.here hx rfl (hb hby at_34) rfl ((if0 _ _).trans (feq (by decide : ¬ ((1 : Int32) = (0 : Int32)))).1) ?_
    show Steps p.tables e below (s₁.setTop (mkF m 37 #[.val (.long a), .second, .val (.int fl), .val (.long (a % (4000000000000 : Int64))), .second, .val (.int (1 : Int32)), .val (.int (1 : Int32)), .unset, .unset, .unset, .unset, .unset] [])) _
    refine XS.lloadN X0.here hx rfl (hb hby at_37) rfl ?_
    show Steps p.tables e below (s₁.setTop (mkF m 38 #[.val (.long a), .second, .val (.int fl), .val (.long (a % (4000000000000 : Int64))), .second, .val (.int (1 : Int32)), .val (.int (1 : Int32)), .unset, .unset, .unset, .unset, .unset] [(.long (a % (4000000000000 : Int64)))])) _
    refine XS.lneg X0.here hx rfl (hb hby at_38) rfl ?_
    show Steps p.tables e below (s₁.setTop (mkF m 39 #[.val (.long a), .second, .val (.int fl), .val (.long (a % (4000000000000 : Int64))), .second, .val (.int (1 : Int32)), .val (.int (1 : Int32)), .unset, .unset, .unset, .unset, .unset] [(.long (-(a % (4000000000000 : Int64))))])) _
    refine XS.goto X0.here hx rfl (pc0 := 39) (pc' := 43) rfl (hb hby at_39) (by decide) (by decide) ?_
    show Steps p.tables e below (s₁.setTop (mkF m 43 #[.val (.long a), .second, .val (.int fl), .val (.long (a % (4000000000000 : Int64))), .second, .val (.int (1 : Int32)), .val (.int (1 : Int32)), .unset, .unset, .unset, .unset, .unset] [(.long (-(a % (4000000000000 : Int64))))])) _
    refine XS.lstore X0.here hx rfl (hb hby at_43) rfl (l' := #[.val (.long a), .second, .val (.int fl), .val (.long (a % (4000000000000 : Int64))), .second, .val (.int (1 : Int32)), .val (.int (1 : Int32)), .val (.long (-(a % (4000000000000 : Int64)))), .second, .unset, .unset, .unset]) rfl ?_
    show Steps p.tables e below (s₁.setTop (mkF m 45 #[.val (.long a), .second, .val (.int fl), .val (.long (a % (4000000000000 : Int64))), .second, .val (.int (1 : Int32)), .val (.int (1 : Int32)), .val (.long (-(a % (4000000000000 : Int64)))), .second, .unset, .unset, .unset] [])) _
    refine XS.iload X0.here hx rfl (hb hby at_45) rfl ?_
    show Steps p.tables e below (s₁.setTop (mkF m 47 #[.val (.long a), .second, .val (.int fl), .val (.long (a % (4000000000000 : Int64))), .second, .val (.int (1 : Int32)), .val (.int (1 : Int32)), .val (.long (-(a % (4000000000000 : Int64)))), .second, .unset, .unset, .unset] [(.int (1 : Int32))])) _
    refine XS.ifNo X0.here hx rfl (hb hby at_47) rfl ((if0 _ _).trans (feq (by decide : ¬ ((1 : Int32) = (0 : Int32)))).1) ?_
    show Steps p.tables e below (s₁.setTop (mkF m 50 #[.val (.long a), .second, .val (.int fl), .val (.long (a % (4000000000000 : Int64))), .second, .val (.int (1 : Int32)), .val (.int (1 : Int32)), .val (.long (-(a % (4000000000000 : Int64)))), .second, .unset, .unset, .unset] [])) _
    refine XS.lloadN X0.here hx rfl (hb hby at_50) rfl ?_
    show Steps p.tables e below (s₁.setTop (mkF m 51 #[.val (.long a), .second, .val (.int fl), .val (.long (a % (4000000000000 : Int64))), .second, .val (.int (1 : Int32)), .val (.int (1 : Int32)), .val (.long (-(a % (4000000000000 : Int64)))), .second, .unset, .unset, .unset] [(.long (a % (4000000000000 : Int64)))])) _
    refine XS.l2dS X0.here hx rfl (hb hby at_51) rfl rfl ?_
    show Steps p.tables e below (s₁.setTop (mkF m 52 #[.val (.long a), .second, .val (.int fl), .val (.long (a % (4000000000000 : Int64))), .second, .val (.int (1 : Int32)), .val (.int (1 : Int32)), .val (.long (-(a % (4000000000000 : Int64)))), .second, .unset, .unset, .unset] [(.double (FP.l2d (a % (4000000000000 : Int64))))])) _
    refine XS.dnegS X0.here hx rfl (hb hby at_52) rfl rfl ?_
    show Steps p.tables e below (s₁.setTop (mkF m 53 #[.val (.long a), .second, .val (.int fl), .val (.long (a % (4000000000000 : Int64))), .second, .val (.int (1 : Int32)), .val (.int (1 : Int32)), .val (.long (-(a % (4000000000000 : Int64)))), .second, .unset, .unset, .unset] [(.double (FP.dneg (FP.l2d (a % (4000000000000 : Int64)))))])) _
    refine XS.goto X0.here hx rfl (pc0 := 53) (pc' := 58) rfl (hb hby at_53) (by decide) (by decide) ?_
    show Steps p.tables e below (s₁.setTop (mkF m 58 #[.val (.long a), .second, .val (.int fl), .val (.long (a % (4000000000000 : Int64))), .second, .val (.int (1 : Int32)), .val (.int (1 : Int32)), .val (.long (-(a % (4000000000000 : Int64)))), .second, .unset, .unset, .unset] [(.double (FP.dneg (FP.l2d (a % (4000000000000 : Int64)))))])) _
    refine XS.dstore X0.here hx rfl (hb hby at_58) rfl (l' := #[.val (.long a), .second, .val (.int fl), .val (.long (a % (4000000000000 : Int64))), .second, .val (.int (1 : Int32)), .val (.int (1 : Int32)), .val (.long (-(a % (4000000000000 : Int64)))), .second, .val (.double (FP.dneg (FP.l2d (a % (4000000000000 : Int64))))), .second, .unset]) rfl ?_
    show Steps p.tables e below (s₁.setTop (mkF m 60 #[.val (.long a), .second, .val (.int fl), .val (.long (a % (4000000000000 : Int64))), .second, .val (.int (1 : Int32)), .val (.int (1 : Int32)), .val (.long (-(a % (4000000000000 : Int64)))), .second, .val (.double (FP.dneg (FP.l2d (a % (4000000000000 : Int64))))), .second, .unset] [])) _
    refine XS.iload X0.here hx rfl (hb hby at_60) rfl ?_
    show Steps p.tables e below (s₁.setTop (mkF m 62 #[.val (.long a), .second, .val (.int fl), .val (.long (a % (4000000000000 : Int64))), .second, .val (.int (1 : Int32)), .val (.int (1 : Int32)), .val (.long (-(a % (4000000000000 : Int64)))), .second, .val (.double (FP.dneg (FP.l2d (a % (4000000000000 : Int64))))), .second, .unset] [(.int (1 : Int32))])) _
    refine XS.ifNo X0.here hx rfl (hb hby at_62) rfl ((if0 _ _).trans (feq (by decide : ¬ ((1 : Int32) = (0 : Int32)))).1) ?_
    show Steps p.tables e below (s₁.setTop (mkF m 65 #[.val (.long a), .second, .val (.int fl), .val (.long (a % (4000000000000 : Int64))), .second, .val (.int (1 : Int32)), .val (.int (1 : Int32)), .val (.long (-(a % (4000000000000 : Int64)))), .second, .val (.double (FP.dneg (FP.l2d (a % (4000000000000 : Int64))))), .second, .unset] [])) _
    refine XS.dload X0.here hx rfl (hb hby at_65) rfl ?_
    show Steps p.tables e below (s₁.setTop (mkF m 67 #[.val (.long a), .second, .val (.int fl), .val (.long (a % (4000000000000 : Int64))), .second, .val (.int (1 : Int32)), .val (.int (1 : Int32)), .val (.long (-(a % (4000000000000 : Int64)))), .second, .val (.double (FP.dneg (FP.l2d (a % (4000000000000 : Int64))))), .second, .unset] [(.double (FP.dneg (FP.l2d (a % (4000000000000 : Int64)))))])) _
    refine X0.ldc2DoubleC hx hown (mvT hZ (hw _ (List.mem_of_getElem? (i := 1) rfl))) (g := (mkF m 67 #[.val (.long a), .second, .val (.int fl), .val (.long (a % (4000000000000 : Int64))), .second, .val (.int (1 : Int32)), .val (.int (1 : Int32)), .val (.long (-(a % (4000000000000 : Int64)))), .second, .val (.double (FP.dneg (FP.l2d (a % (4000000000000 : Int64))))), .second, .unset] [(.double (FP.dneg (FP.l2d (a % (4000000000000 : Int64)))))])) rfl (hb hby at_67) _ ?_
    show Steps p.tables e below (s₁.setTop (mkF m 70 #[.val (.long a), .second, .val (.int fl), .val (.long (a % (4000000000000 : Int64))), .second, .val (.int (1 : Int32)), .val (.int (1 : Int32)), .val (.long (-(a % (4000000000000 : Int64)))), .second, .val (.double (FP.dneg (FP.l2d (a % (4000000000000 : Int64))))), .second, .unset] [(.double (4602678819172646912 : UInt64)), (.double (FP.dneg (FP.l2d (a % (4000000000000 : Int64)))))])) _
    refine XS.daddS X0.here hx rfl (hb hby at_70) rfl hnan70 rfl ?_
    show Steps p.tables e below (s₁.setTop (mkF m 71 #[.val (.long a), .second, .val (.int fl), .val (.long (a % (4000000000000 : Int64))), .second, .val (.int (1 : Int32)), .val (.int (1 : Int32)), .val (.long (-(a % (4000000000000 : Int64)))), .second, .val (.double (FP.dneg (FP.l2d (a % (4000000000000 : Int64))))), .second, .unset] [(.double (FP.dadd (FP.dneg (FP.l2d (a % (4000000000000 : Int64)))) (4602678819172646912 : UInt64)))])) _
    refine XS.dstore X0.here hx rfl (hb hby at_71) rfl (l' := #[.val (.long a), .second, .val (.int fl), .val (.long (a % (4000000000000 : Int64))), .second, .val (.int (1 : Int32)), .val (.int (1 : Int32)), .val (.long (-(a % (4000000000000 : Int64)))), .second, .val (.double (FP.dadd (FP.dneg (FP.l2d (a % (4000000000000 : Int64)))) (4602678819172646912 : UInt64))), .second, .unset]) rfl ?_
    show Steps p.tables e below (s₁.setTop (mkF m 73 #[.val (.long a), .second, .val (.int fl), .val (.long (a % (4000000000000 : Int64))), .second, .val (.int (1 : Int32)), .val (.int (1 : Int32)), .val (.long (-(a % (4000000000000 : Int64)))), .second, .val (.double (FP.dadd (FP.dneg (FP.l2d (a % (4000000000000 : Int64)))) (4602678819172646912 : UInt64))), .second, .unset] [])) _
    refine XS.iload X0.here hx rfl (hb hby at_73) rfl ?_
    show Steps p.tables e below (s₁.setTop (mkF m 75 #[.val (.long a), .second, .val (.int fl), .val (.long (a % (4000000000000 : Int64))), .second, .val (.int (1 : Int32)), .val (.int (1 : Int32)), .val (.long (-(a % (4000000000000 : Int64)))), .second, .val (.double (FP.dadd (FP.dneg (FP.l2d (a % (4000000000000 : Int64)))) (4602678819172646912 : UInt64))), .second, .unset] [(.int (1 : Int32))])) _
    refine XS.ifNo X0.here hx rfl (hb hby at_75) rfl ((if0 _ _).trans (feq (by decide : ¬ ((1 : Int32) = (0 : Int32)))).1) ?_
    show Steps p.tables e below (s₁.setTop (mkF m 78 #[.val (.long a), .second, .val (.int fl), .val (.long (a % (4000000000000 : Int64))), .second, .val (.int (1 : Int32)), .val (.int (1 : Int32)), .val (.long (-(a % (4000000000000 : Int64)))), .second, .val (.double (FP.dadd (FP.dneg (FP.l2d (a % (4000000000000 : Int64)))) (4602678819172646912 : UInt64))), .second, .unset] [])) _
    refine XS.lload X0.here hx rfl (hb hby at_78) rfl ?_
    show Steps p.tables e below (s₁.setTop (mkF m 80 #[.val (.long a), .second, .val (.int fl), .val (.long (a % (4000000000000 : Int64))), .second, .val (.int (1 : Int32)), .val (.int (1 : Int32)), .val (.long (-(a % (4000000000000 : Int64)))), .second, .val (.double (FP.dadd (FP.dneg (FP.l2d (a % (4000000000000 : Int64)))) (4602678819172646912 : UInt64))), .second, .unset] [(.long (-(a % (4000000000000 : Int64))))])) _
    refine XS.lconst X0.here hx rfl (hb hby at_80) ?_
    show Steps p.tables e below (s₁.setTop (mkF m 81 #[.val (.long a), .second, .val (.int fl), .val (.long (a % (4000000000000 : Int64))), .second, .val (.int (1 : Int32)), .val (.int (1 : Int32)), .val (.long (-(a % (4000000000000 : Int64)))), .second, .val (.double (FP.dadd (FP.dneg (FP.l2d (a % (4000000000000 : Int64)))) (4602678819172646912 : UInt64))), .second, .unset] [(.long (0 : Int64)), (.long (-(a % (4000000000000 : Int64))))])) _
    refine XS.lcmp X0.here hx rfl (hb hby at_81) rfl ?_
    show Steps p.tables e below (s₁.setTop (mkF m 82 #[.val (.long a), .second, .val (.int fl), .val (.long (a % (4000000000000 : Int64))), .second, .val (.int (1 : Int32)), .val (.int (1 : Int32)), .val (.long (-(a % (4000000000000 : Int64)))), .second, .val (.double (FP.dadd (FP.dneg (FP.l2d (a % (4000000000000 : Int64)))) (4602678819172646912 : UInt64))), .second, .unset] [(.int (lcmpW (-(a % (4000000000000 : Int64))) (0 : Int64)))])) _
    refine XS.ifNo X0.here hx rfl (hb hby at_82) rfl ((if0 _ _).trans (flt hc82).1) ?_
    show Steps p.tables e below (s₁.setTop (mkF m 85 #[.val (.long a), .second, .val (.int fl), .val (.long (a % (4000000000000 : Int64))), .second, .val (.int (1 : Int32)), .val (.int (1 : Int32)), .val (.long (-(a % (4000000000000 : Int64)))), .second, .val (.double (FP.dadd (FP.dneg (FP.l2d (a % (4000000000000 : Int64)))) (4602678819172646912 : UInt64))), .second, .unset] [])) _
    refine XS.lload X0.here hx rfl (hb hby at_85) rfl ?_
    show Steps p.tables e below (s₁.setTop (mkF m 87 #[.val (.long a), .second, .val (.int fl), .val (.long (a % (4000000000000 : Int64))), .second, .val (.int (1 : Int32)), .val (.int (1 : Int32)), .val (.long (-(a % (4000000000000 : Int64)))), .second, .val (.double (FP.dadd (FP.dneg (FP.l2d (a % (4000000000000 : Int64)))) (4602678819172646912 : UInt64))), .second, .unset] [(.long (-(a % (4000000000000 : Int64))))])) _
    refine X0.ldc2Long hx hown (mvT hZ (hw _ (List.mem_of_getElem? (i := 2) rfl))) (g := (mkF m 87 #[.val (.long a), .second, .val (.int fl), .val (.long (a % (4000000000000 : Int64))), .second, .val (.int (1 : Int32)), .val (.int (1 : Int32)), .val (.long (-(a % (4000000000000 : Int64)))), .second, .val (.double (FP.dadd (FP.dneg (FP.l2d (a % (4000000000000 : Int64)))) (4602678819172646912 : UInt64))), .second, .unset] [(.long (-(a % (4000000000000 : Int64))))])) rfl (hb hby at_87) _ ?_
    show Steps p.tables e below (s₁.setTop (mkF m 90 #[.val (.long a), .second, .val (.int fl), .val (.long (a % (4000000000000 : Int64))), .second, .val (.int (1 : Int32)), .val (.int (1 : Int32)), .val (.long (-(a % (4000000000000 : Int64)))), .second, .val (.double (FP.dadd (FP.dneg (FP.l2d (a % (4000000000000 : Int64)))) (4602678819172646912 : UInt64))), .second, .unset] [(.long (999999999999 : Int64)), (.long (-(a % (4000000000000 : Int64))))])) _
    refine XS.lcmp X0.here hx rfl (hb hby at_90) rfl ?_
    show Steps p.tables e below (s₁.setTop (mkF m 91 #[.val (.long a), .second, .val (.int fl), .val (.long (a % (4000000000000 : Int64))), .second, .val (.int (1 : Int32)), .val (.int (1 : Int32)), .val (.long (-(a % (4000000000000 : Int64)))), .second, .val (.double (FP.dadd (FP.dneg (FP.l2d (a % (4000000000000 : Int64)))) (4602678819172646912 : UInt64))), .second, .unset] [(.int (lcmpW (-(a % (4000000000000 : Int64))) (999999999999 : Int64)))])) _
    refine XS.ifYes X0.here hx rfl (pc0 := 91) (pc' := 98) rfl (hb hby at_91) rfl ((if0 _ _).trans (tlt hc91).2.2.1) (by decide) (by decide) ?_
    show Steps p.tables e below (s₁.setTop (mkF m 98 #[.val (.long a), .second, .val (.int fl), .val (.long (a % (4000000000000 : Int64))), .second, .val (.int (1 : Int32)), .val (.int (1 : Int32)), .val (.long (-(a % (4000000000000 : Int64)))), .second, .val (.double (FP.dadd (FP.dneg (FP.l2d (a % (4000000000000 : Int64)))) (4602678819172646912 : UInt64))), .second, .unset] [])) _
    refine XS.iconst X0.here hx rfl (hb hby at_98) ?_
    show Steps p.tables e below (s₁.setTop (mkF m 99 #[.val (.long a), .second, .val (.int fl), .val (.long (a % (4000000000000 : Int64))), .second, .val (.int (1 : Int32)), .val (.int (1 : Int32)), .val (.long (-(a % (4000000000000 : Int64)))), .second, .val (.double (FP.dadd (FP.dneg (FP.l2d (a % (4000000000000 : Int64)))) (4602678819172646912 : UInt64))), .second, .unset] [(.int (0 : Int32))])) _
    refine XS.istore X0.here hx rfl (hb hby at_99) rfl (l' := #[.val (.long a), .second, .val (.int fl), .val (.long (a % (4000000000000 : Int64))), .second, .val (.int (1 : Int32)), .val (.int (1 : Int32)), .val (.long (-(a % (4000000000000 : Int64)))), .second, .val (.double (FP.dadd (FP.dneg (FP.l2d (a % (4000000000000 : Int64)))) (4602678819172646912 : UInt64))), .second, .val (.int (0 : Int32))]) rfl ?_
    show Steps p.tables e below (s₁.setTop (mkF m 101 #[.val (.long a), .second, .val (.int fl), .val (.long (a % (4000000000000 : Int64))), .second, .val (.int (1 : Int32)), .val (.int (1 : Int32)), .val (.long (-(a % (4000000000000 : Int64)))), .second, .val (.double (FP.dadd (FP.dneg (FP.l2d (a % (4000000000000 : Int64)))) (4602678819172646912 : UInt64))), .second, .val (.int (0 : Int32))] [])) _
    refine XS.goto X0.here hx rfl (pc0 := 101) (pc' := 127) rfl (hb hby at_101) (by decide) (by decide) ?_
    show Steps p.tables e below (s₁.setTop (mkF m 127 #[.val (.long a), .second, .val (.int fl), .val (.long (a % (4000000000000 : Int64))), .second, .val (.int (1 : Int32)), .val (.int (1 : Int32)), .val (.long (-(a % (4000000000000 : Int64)))), .second, .val (.double (FP.dadd (FP.dneg (FP.l2d (a % (4000000000000 : Int64)))) (4602678819172646912 : UInt64))), .second, .val (.int (0 : Int32))] [])) _
    refine XS.dload X0.here hx rfl (hb hby at_127) rfl ?_
    show Steps p.tables e below (s₁.setTop (mkF m 129 #[.val (.long a), .second, .val (.int fl), .val (.long (a % (4000000000000 : Int64))), .second, .val (.int (1 : Int32)), .val (.int (1 : Int32)), .val (.long (-(a % (4000000000000 : Int64)))), .second, .val (.double (FP.dadd (FP.dneg (FP.l2d (a % (4000000000000 : Int64)))) (4602678819172646912 : UInt64))), .second, .val (.int (0 : Int32))] [(.double (FP.dadd (FP.dneg (FP.l2d (a % (4000000000000 : Int64)))) (4602678819172646912 : UInt64)))])) _
    refine st11 _ ?_
    show Steps p.tables e below (T11.setTop (mkF m 132 #[.val (.long a), .second, .val (.int fl), .val (.long (a % (4000000000000 : Int64))), .second, .val (.int (1 : Int32)), .val (.int (1 : Int32)), .val (.long (-(a % (4000000000000 : Int64)))), .second, .val (.double (FP.dadd (FP.dneg (FP.l2d (a % (4000000000000 : Int64)))) (4602678819172646912 : UInt64))), .second, .val (.int (0 : Int32))] [(.int (isC (FP.dadd (FP.dneg (FP.l2d (a % (4000000000000 : Int64)))) (4602678819172646912 : UInt64))))])) _
    refine XS.iload X11.here hx rfl (hb hby at_132) rfl ?_
    show Steps p.tables e below (T11.setTop (mkF m 134 #[.val (.long a), .second, .val (.int fl), .val (.long (a % (4000000000000 : Int64))), .second, .val (.int (1 : Int32)), .val (.int (1 : Int32)), .val (.long (-(a % (4000000000000 : Int64)))), .second, .val (.double (FP.dadd (FP.dneg (FP.l2d (a % (4000000000000 : Int64)))) (4602678819172646912 : UInt64))), .second, .val (.int (0 : Int32))] [(.int (0 : Int32)), (.int (isC (FP.dadd (FP.dneg (FP.l2d (a % (4000000000000 : Int64)))) (4602678819172646912 : UInt64))))])) _
    refine XS.icmpNo X11.here hx rfl (hb hby at_134) rfl (teq hc134).2 ?_
    show Steps p.tables e below (T11.setTop (mkF m 137 #[.val (.long a), .second, .val (.int fl), .val (.long (a % (4000000000000 : Int64))), .second, .val (.int (1 : Int32)), .val (.int (1 : Int32)), .val (.long (-(a % (4000000000000 : Int64)))), .second, .val (.double (FP.dadd (FP.dneg (FP.l2d (a % (4000000000000 : Int64)))) (4602678819172646912 : UInt64))), .second, .val (.int (0 : Int32))] [])) _
    refine XS.iconst X11.here hx rfl (hb hby at_137) ?_
    show Steps p.tables e below (T11.setTop (mkF m 138 #[.val (.long a), .second, .val (.int fl), .val (.long (a % (4000000000000 : Int64))), .second, .val (.int (1 : Int32)), .val (.int (1 : Int32)), .val (.long (-(a % (4000000000000 : Int64)))), .second, .val (.double (FP.dadd (FP.dneg (FP.l2d (a % (4000000000000 : Int64)))) (4602678819172646912 : UInt64))), .second, .val (.int (0 : Int32))] [(.int (1 : Int32))])) _
    refine XS.goto X11.here hx rfl (pc0 := 138) (pc' := 142) rfl (hb hby at_138) (by decide) (by decide) ?_
    show Steps p.tables e below (T11.setTop (mkF m 142 #[.val (.long a), .second, .val (.int fl), .val (.long (a % (4000000000000 : Int64))), .second, .val (.int (1 : Int32)), .val (.int (1 : Int32)), .val (.long (-(a % (4000000000000 : Int64)))), .second, .val (.double (FP.dadd (FP.dneg (FP.l2d (a % (4000000000000 : Int64)))) (4602678819172646912 : UInt64))), .second, .val (.int (0 : Int32))] [(.int (1 : Int32))])) _
    exact retN X11 hx (t := .boolean) Bd.returns (by simp) (hb hby at_142) hr
  · show Q0 a fl h0 n0 _ T11.heap _
    rw [e11]
    exact ⟨rfl, N11⟩
set_option maxRecDepth 65536 in
set_option maxHeartbeats 40000000 in
theorem rm0_11ff (l : Launch) (Z : State) (a0 : Array Value) (hw : ∀ d ∈ tables_1, d.before a0 Z = true) (ws : List Jvm.Cond) (a : Int64) (fl : Int32)  (h0 : Heap) (n0 : Nat) (Z0 : n0 ≤ h0.size)  (hc9 : ¬ ((fl &&& (1 : Int32)) = (0 : Int32))) (hc22 : ¬ ((fl &&& (2 : Int32)) = (0 : Int32))) (hnan70 : Jvm.Free.Fl.NoNaN64 (FP.dadd (FP.dneg (FP.l2d (a % (4000000000000 : Int64)))) (4602678819172646912 : UInt64))) (hc82 : ¬ ((lcmpW (-(a % (4000000000000 : Int64))) (0 : Int64)) < (0 : Int32))) (hc91 : ¬ ((0 : Int32) < (lcmpW (-(a % (4000000000000 : Int64))) (999999999999 : Int64)))) (hc134 : (isC (FP.dadd (FP.dneg (FP.l2d (a % (4000000000000 : Int64)))) (4602678819172646912 : UInt64))) = (1 : Int32)) :
    MetFree l x (head1 (Jvm.Cond.code x code maxLocals ret :: ws) room_1) (fun aa U => aa = #[(.long a), (.int fl)] ∧ Z.Warmed39 U.vm ∧ U.heap = h0) (fun _ _ _ _ _ => True) (fun _ U o U' => ∃ v L, o = .returned v ∧ Q0 a fl h0 n0 v U'.heap L ∧ FrameEnd U o U' L room_1.cells room_1.slots) := by
  refine MetFree.of_bodySF (plainFor_of_name pn_0) hisR ?_
  intro p e s m args below meth c s₁ Bd hml0 hP hK
  obtain ⟨rfl, hZ, hh⟩ := hP
  have hx := Bd.exec
  have hby := Bd.bytes
  have hml : c.maxLocals = 12 := hml0
  have hown : s.vm.findClass "com/example/metered_demand/metereddemand/model/MeasurementIsCountPinLaw" = some m.cls := findClass_of_methodNamed Bd.named
  have hnm := (name_of_methodNamed Bd.named Bd.method).1
  have X0 : Stand p l e room_1 s m #[(.long a), (.int fl)] below meth c s₁ [] 0 0 := Stand.of_body Bd
  have e0 : s₁.heap = h0 := by rw [← hh, Bd.state]; rfl
  have N0 := Fr.nil n0
  have pre0 : ∀ t, Steps p.tables e below (s₁.setTop (mkF m 0 #[.val (.long a), .second, .val (.int fl), .unset, .unset, .unset, .unset, .unset, .unset, .unset, .unset, .unset] [])) t → Steps p.tables e below (s₁.setTop (entryFrame m #[(.long a), (.int fl)] maxLocals)) t := fun t k => castTop (ef_0 m a fl) k
  obtain ⟨_, _, ⟨T12, L12, k12, n12⟩, -, X12, ⟨Lc12, hQ12, l12, y12, z12⟩, st12⟩ := Jvm.LawKit.callS X0 hx (y := (⟨"com/example/metered_demand/metereddemand/model/Measurement", "isCount", "(D)Z"⟩ : MethodName)) hown (mvT hZ (hw _ (List.mem_of_getElem? (i := 3) rfl))) (mvT hZ (hw _ (List.mem_of_getElem? (i := 4) rfl))) (mvT hZ (hw _ (List.mem_of_getElem? (i := 5) rfl))) (mvT hZ (hw _ (List.mem_of_getElem? (i := 6) rfl))) (by decide) (backOf (W := 0) (rm1 l Z a0 hw [] (FP.dadd (FP.dneg (FP.l2d (a % (4000000000000 : Int64)))) (4602678819172646912 : UInt64)) h0 n0 Z0) hZ (hw _ (List.mem_of_getElem? (i := 6) rfl)) (hw _ (List.mem_of_getElem? (i := 5) rfl)) (by decide) (by decide)) (g := (mkF m 129 #[.val (.long a), .second, .val (.int fl), .val (.long (a % (4000000000000 : Int64))), .second, .val (.int (1 : Int32)), .val (.int (1 : Int32)), .val (.long (-(a % (4000000000000 : Int64)))), .second, .val (.double (FP.dadd (FP.dneg (FP.l2d (a % (4000000000000 : Int64)))) (4602678819172646912 : UInt64))), .second, .val (.int (1 : Int32))] [(.double (FP.dadd (FP.dneg (FP.l2d (a % (4000000000000 : Int64)))) (4602678819172646912 : UInt64)))])) rfl (by rw [hml]; rfl) (argsL := [(.double (FP.dadd (FP.dneg (FP.l2d (a % (4000000000000 : Int64)))) (4602678819172646912 : UInt64)))]) (rest := []) (lenOf pd_0 rfl) rfl (by show 2 * 0 + _ ≤ _; exact Nat.le_of_eq rfl) (hb hby at_129) (fun _ _ => ⟨rfl, e0, (by decide : 0 + 0 ≤ _), (by decide : 0 + 0 ≤ _)⟩)
  dsimp only [Pt.U, Pt.locs, Pt.cells, Pt.slots] at X12 l12 y12 z12 st12 hQ12
  subst l12 y12 z12
  obtain ⟨rfl, N12q, e12⟩ := hQ12
  have N12 := Fr.app N0 N12q
  obtain ⟨fs, hr, hrun, hended, hW, hsame⟩ := X12.leave (v := some (.int (1 : Int32))) (fun h => by rw [Bd.returns] at h; cases h)
  refine ⟨_, _, pre0 _ ?_, hrun, hended, _, _, rfl, ?_, ⟨_, rfl⟩, hW, hsame.mono (by decide) (by decide)⟩
  · show Steps p.tables e below (s₁.setTop (mkF m 0 #[.val (.long a), .second, .val (.int fl), .unset, .unset, .unset, .unset, .unset, .unset, .unset, .unset, .unset] [])) _
    refine XS.lloadN X0.here hx rfl (hb hby at_0) rfl ?_
    show Steps p.tables e below (s₁.setTop (mkF m 1 #[.val (.long a), .second, .val (.int fl), .unset, .unset, .unset, .unset, .unset, .unset, .unset, .unset, .unset] [(.long a)])) _
    refine X0.ldc2Long hx hown (mvT hZ (hw _ (List.mem_of_getElem? (i := 0) rfl))) (g := (mkF m 1 #[.val (.long a), .second, .val (.int fl), .unset, .unset, .unset, .unset, .unset, .unset, .unset, .unset, .unset] [(.long a)])) rfl (hb hby at_1) _ ?_
    show Steps p.tables e below (s₁.setTop (mkF m 4 #[.val (.long a), .second, .val (.int fl), .unset, .unset, .unset, .unset, .unset, .unset, .unset, .unset, .unset] [(.long (4000000000000 : Int64)), (.long a)])) _
    refine gwLrem X0.here hx rfl (hb hby at_4) rfl (by decide : ¬ ((4000000000000 : Int64) = (0 : Int64))) ?_
    show Steps p.tables e below (s₁.setTop (mkF m 5 #[.val (.long a), .second, .val (.int fl), .unset, .unset, .unset, .unset, .unset, .unset, .unset, .unset, .unset] [(.long (a % (4000000000000 : Int64)))])) _
    refine XS.lstoreN X0.here hx rfl (hb hby at_5) rfl (l' := #[.val (.long a), .second, .val (.int fl), .val (.long (a % (4000000000000 : Int64))), .second, .unset, .unset, .unset, .unset, .unset, .unset, .unset]) rfl ?_
    show Steps p.tables e below (s₁.setTop (mkF m 6 #[.val (.long a), .second, .val (.int fl), .val (.long (a % (4000000000000 : Int64))), .second, .unset, .unset, .unset, .unset, .unset, .unset, .unset] [])) _
    refine XS.iloadN X0.here hx rfl (hb hby at_6) rfl ?_
    show Steps p.tables e below (s₁.setTop (mkF m 7 #[.val (.long a), .second, .val (.int fl), .val (.long (a % (4000000000000 : Int64))), .second, .unset, .unset, .unset, .unset, .unset, .unset, .unset] [(.int fl)])) _
    refine XS.iconst X0.here hx rfl (hb hby at_7) ?_
    show Steps p.tables e below (s₁.setTop (mkF m 8 #[.val (.long a), .second, .val (.int fl), .val (.long (a % (4000000000000 : Int64))), .second, .unset, .unset, .unset, .unset, .unset, .unset, .unset] [(.int (1 : Int32)), (.int fl)])) _
    refine XS.iand X0.here hx rfl (hb hby at_8) rfl ?_
    show Steps p.tables e below (s₁.setTop (mkF m 9 #[.val (.long a), .second, .val (.int fl), .val (.long (a % (4000000000000 : Int64))), .second, .unset, .unset, .unset, .unset, .unset, .unset, .unset] [(.int (fl &&& (1 : Int32)))])) _
    refine XS.ifNo X0.here hx rfl (hb hby at_9) rfl ((if0 _ _).trans (feq hc9).1) ?_
    show Steps p.tables e below (s₁.setTop (mkF m 12 #[.val (.long a), .second, .val (.int fl), .val (.long (a % (4000000000000 : Int64))), .second, .unset, .unset, .unset, .unset, .unset, .unset, .unset] [])) _
    refine XS.iconst X0.here hx rfl (hb hby at_12) ?_
    show Steps p.tables e below (s₁.setTop (mkF m 13 #[.val (.long a), .second, .val (.int fl), .val (.long (a % (4000000000000 : Int64))), .second, .unset, .unset, .unset, .unset, .unset, .unset, .unset] [(.int (1 : Int32))])) _
    refine XS.goto X0.here hx rfl (pc0 := 13) (pc' := 17) rfl (hb hby at_13) (by decide) (by decide) ?_
    show Steps p.tables e below (s₁.setTop (mkF m 17 #[.val (.long a), .second, .val (.int fl), .val (.long (a % (4000000000000 : Int64))), .second, .unset, .unset, .unset, .unset, .unset, .unset, .unset] [(.int (1 : Int32))])) _
    refine XS.istore X0.here hx rfl (hb hby at_17) rfl (l' := #[.val (.long a), .second, .val (.int fl), .val (.long (a % (4000000000000 : Int64))), .second, .val (.int (1 : Int32)), .unset, .unset, .unset, .unset, .unset, .unset]) rfl ?_
    show Steps p.tables e below (s₁.setTop (mkF m 19 #[.val (.long a), .second, .val (.int fl), .val (.long (a % (4000000000000 : Int64))), .second, .val (.int (1 : Int32)), .unset, .unset, .unset, .unset, .unset, .unset] [])) _
    refine XS.iloadN X0.here hx rfl (hb hby at_19) rfl ?_
    show Steps p.tables e below (s₁.setTop (mkF m 20 #[.val (.long a), .second, .val (.int fl), .val (.long (a % (4000000000000 : Int64))), .second, .val (.int (1 : Int32)), .unset, .unset, .unset, .unset, .unset, .unset] [(.int fl)])) _
    refine XS.iconst X0.here hx rfl (hb hby at_20) ?_
    show Steps p.tables e below (s₁.setTop (mkF m 21 #[.val (.long a), .second, .val (.int fl), .val (.long (a % (4000000000000 : Int64))), .second, .val (.int (1 : Int32)), .unset, .unset, .unset, .unset, .unset, .unset] [(.int (2 : Int32)), (.int fl)])) _
    refine XS.iand X0.here hx rfl (hb hby at_21) rfl ?_
    show Steps p.tables e below (s₁.setTop (mkF m 22 #[.val (.long a), .second, .val (.int fl), .val (.long (a % (4000000000000 : Int64))), .second, .val (.int (1 : Int32)), .unset, .unset, .unset, .unset, .unset, .unset] [(.int (fl &&& (2 : Int32)))])) _
    refine XS.ifNo X0.here hx rfl (hb hby at_22) rfl ((if0 _ _).trans (feq hc22).1) ?_
    show Steps p.tables e below (s₁.setTop (mkF m 25 #[.val (.long a), .second, .val (.int fl), .val (.long (a % (4000000000000 : Int64))), .second, .val (.int (1 : Int32)), .unset, .unset, .unset, .unset, .unset, .unset] [])) _
    refine XS.iconst X0.here hx rfl (hb hby at_25) ?_
    show Steps p.tables e below (s₁.setTop (mkF m 26 #[.val (.long a), .second, .val (.int fl), .val (.long (a % (4000000000000 : Int64))), .second, .val (.int (1 : Int32)), .unset, .unset, .unset, .unset, .unset, .unset] [(.int (1 : Int32))])) _
    refine XS.goto X0.here hx rfl (pc0 := 26) (pc' := 30) rfl (hb hby at_26) (by decide) (by decide) ?_
    show Steps p.tables e below (s₁.setTop (mkF m 30 #[.val (.long a), .second, .val (.int fl), .val (.long (a % (4000000000000 : Int64))), .second, .val (.int (1 : Int32)), .unset, .unset, .unset, .unset, .unset, .unset] [(.int (1 : Int32))])) _
    refine XS.istore X0.here hx rfl (hb hby at_30) rfl (l' := #[.val (.long a), .second, .val (.int fl), .val (.long (a % (4000000000000 : Int64))), .second, .val (.int (1 : Int32)), .val (.int (1 : Int32)), .unset, .unset, .unset, .unset, .unset]) rfl ?_
    show Steps p.tables e below (s₁.setTop (mkF m 32 #[.val (.long a), .second, .val (.int fl), .val (.long (a % (4000000000000 : Int64))), .second, .val (.int (1 : Int32)), .val (.int (1 : Int32)), .unset, .unset, .unset, .unset, .unset] [])) _
    refine XS.iload X0.here hx rfl (hb hby at_32) rfl ?_
    show Steps p.tables e below (s₁.setTop (mkF m 34 #[.val (.long a), .second, .val (.int fl), .val (.long (a % (4000000000000 : Int64))), .second, .val (.int (1 : Int32)), .val (.int (1 : Int32)), .unset, .unset, .unset, .unset, .unset] [(.int (1 : Int32))])) _
    refine XS.ifNo X0.here hx rfl (hb hby at_34) rfl ((if0 _ _).trans (feq (by decide : ¬ ((1 : Int32) = (0 : Int32)))).1) ?_
    show Steps p.tables e below (s₁.setTop (mkF m 37 #[.val (.long a), .second, .val (.int fl), .val (.long (a % (4000000000000 : Int64))), .second, .val (.int (1 : Int32)), .val (.int (1 : Int32)), .unset, .unset, .unset, .unset, .unset] [])) _
    refine XS.lloadN X0.here hx rfl (hb hby at_37) rfl ?_
    show Steps p.tables e below (s₁.setTop (mkF m 38 #[.val (.long a), .second, .val (.int fl), .val (.long (a % (4000000000000 : Int64))), .second, .val (.int (1 : Int32)), .val (.int (1 : Int32)), .unset, .unset, .unset, .unset, .unset] [(.long (a % (4000000000000 : Int64)))])) _
    refine XS.lneg X0.here hx rfl (hb hby at_38) rfl ?_
    show Steps p.tables e below (s₁.setTop (mkF m 39 #[.val (.long a), .second, .val (.int fl), .val (.long (a % (4000000000000 : Int64))), .second, .val (.int (1 : Int32)), .val (.int (1 : Int32)), .unset, .unset, .unset, .unset, .unset] [(.long (-(a % (4000000000000 : Int64))))])) _
    refine XS.goto X0.here hx rfl (pc0 := 39) (pc' := 43) rfl (hb hby at_39) (by decide) (by decide) ?_
    show Steps p.tables e below (s₁.setTop (mkF m 43 #[.val (.long a), .second, .val (.int fl), .val (.long (a % (4000000000000 : Int64))), .second, .val (.int (1 : Int32)), .val (.int (1 : Int32)), .unset, .unset, .unset, .unset, .unset] [(.long (-(a % (4000000000000 : Int64))))])) _
    refine XS.lstore X0.here hx rfl (hb hby at_43) rfl (l' := #[.val (.long a), .second, .val (.int fl), .val (.long (a % (4000000000000 : Int64))), .second, .val (.int (1 : Int32)), .val (.int (1 : Int32)), .val (.long (-(a % (4000000000000 : Int64)))), .second, .unset, .unset, .unset]) rfl ?_
    show Steps p.tables e below (s₁.setTop (mkF m 45 #[.val (.long a), .second, .val (.int fl), .val (.long (a % (4000000000000 : Int64))), .second, .val (.int (1 : Int32)), .val (.int (1 : Int32)), .val (.long (-(a % (4000000000000 : Int64)))), .second, .unset, .unset, .unset] [])) _
    refine XS.iload X0.here hx rfl (hb hby at_45) rfl ?_
    show Steps p.tables e below (s₁.setTop (mkF m 47 #[.val (.long a), .second, .val (.int fl), .val (.long (a % (4000000000000 : Int64))), .second, .val (.int (1 : Int32)), .val (.int (1 : Int32)), .val (.long (-(a % (4000000000000 : Int64)))), .second, .unset, .unset, .unset] [(.int (1 : Int32))])) _
    refine XS.ifNo X0.here hx rfl (hb hby at_47) rfl ((if0 _ _).trans (feq (by decide : ¬ ((1 : Int32) = (0 : Int32)))).1) ?_
    show Steps p.tables e below (s₁.setTop (mkF m 50 #[.val (.long a), .second, .val (.int fl), .val (.long (a % (4000000000000 : Int64))), .second, .val (.int (1 : Int32)), .val (.int (1 : Int32)), .val (.long (-(a % (4000000000000 : Int64)))), .second, .unset, .unset, .unset] [])) _
    refine XS.lloadN X0.here hx rfl (hb hby at_50) rfl ?_
    show Steps p.tables e below (s₁.setTop (mkF m 51 #[.val (.long a), .second, .val (.int fl), .val (.long (a % (4000000000000 : Int64))), .second, .val (.int (1 : Int32)), .val (.int (1 : Int32)), .val (.long (-(a % (4000000000000 : Int64)))), .second, .unset, .unset, .unset] [(.long (a % (4000000000000 : Int64)))])) _
    refine XS.l2dS X0.here hx rfl (hb hby at_51) rfl rfl ?_
    show Steps p.tables e below (s₁.setTop (mkF m 52 #[.val (.long a), .second, .val (.int fl), .val (.long (a % (4000000000000 : Int64))), .second, .val (.int (1 : Int32)), .val (.int (1 : Int32)), .val (.long (-(a % (4000000000000 : Int64)))), .second, .unset, .unset, .unset] [(.double (FP.l2d (a % (4000000000000 : Int64))))])) _
    refine XS.dnegS X0.here hx rfl (hb hby at_52) rfl rfl ?_
    show Steps p.tables e below (s₁.setTop (mkF m 53 #[.val (.long a), .second, .val (.int fl), .val (.long (a % (4000000000000 : Int64))), .second, .val (.int (1 : Int32)), .val (.int (1 : Int32)), .val (.long (-(a % (4000000000000 : Int64)))), .second, .unset, .unset, .unset] [(.double (FP.dneg (FP.l2d (a % (4000000000000 : Int64)))))])) _
    refine XS.goto X0.here hx rfl (pc0 := 53) (pc' := 58) rfl (hb hby at_53) (by decide) (by decide) ?_
    show Steps p.tables e below (s₁.setTop (mkF m 58 #[.val (.long a), .second, .val (.int fl), .val (.long (a % (4000000000000 : Int64))), .second, .val (.int (1 : Int32)), .val (.int (1 : Int32)), .val (.long (-(a % (4000000000000 : Int64)))), .second, .unset, .unset, .unset] [(.double (FP.dneg (FP.l2d (a % (4000000000000 : Int64)))))])) _
    refine XS.dstore X0.here hx rfl (hb hby at_58) rfl (l' := #[.val (.long a), .second, .val (.int fl), .val (.long (a % (4000000000000 : Int64))), .second, .val (.int (1 : Int32)), .val (.int (1 : Int32)), .val (.long (-(a % (4000000000000 : Int64)))), .second, .val (.double (FP.dneg (FP.l2d (a % (4000000000000 : Int64))))), .second, .unset]) rfl ?_
    show Steps p.tables e below (s₁.setTop (mkF m 60 #[.val (.long a), .second, .val (.int fl), .val (.long (a % (4000000000000 : Int64))), .second, .val (.int (1 : Int32)), .val (.int (1 : Int32)), .val (.long (-(a % (4000000000000 : Int64)))), .second, .val (.double (FP.dneg (FP.l2d (a % (4000000000000 : Int64))))), .second, .unset] [])) _
    refine XS.iload X0.here hx rfl (hb hby at_60) rfl ?_
    show Steps p.tables e below (s₁.setTop (mkF m 62 #[.val (.long a), .second, .val (.int fl), .val (.long (a % (4000000000000 : Int64))), .second, .val (.int (1 : Int32)), .val (.int (1 : Int32)), .val (.long (-(a % (4000000000000 : Int64)))), .second, .val (.double (FP.dneg (FP.l2d (a % (4000000000000 : Int64))))), .second, .unset] [(.int (1 : Int32))])) _
    refine XS.ifNo X0.here hx rfl (hb hby at_62) rfl ((if0 _ _).trans (feq (by decide : ¬ ((1 : Int32) = (0 : Int32)))).1) ?_
    show Steps p.tables e below (s₁.setTop (mkF m 65 #[.val (.long a), .second, .val (.int fl), .val (.long (a % (4000000000000 : Int64))), .second, .val (.int (1 : Int32)), .val (.int (1 : Int32)), .val (.long (-(a % (4000000000000 : Int64)))), .second, .val (.double (FP.dneg (FP.l2d (a % (4000000000000 : Int64))))), .second, .unset] [])) _
    refine XS.dload X0.here hx rfl (hb hby at_65) rfl ?_
    show Steps p.tables e below (s₁.setTop (mkF m 67 #[.val (.long a), .second, .val (.int fl), .val (.long (a % (4000000000000 : Int64))), .second, .val (.int (1 : Int32)), .val (.int (1 : Int32)), .val (.long (-(a % (4000000000000 : Int64)))), .second, .val (.double (FP.dneg (FP.l2d (a % (4000000000000 : Int64))))), .second, .unset] [(.double (FP.dneg (FP.l2d (a % (4000000000000 : Int64)))))])) _
    refine X0.ldc2DoubleC hx hown (mvT hZ (hw _ (List.mem_of_getElem? (i := 1) rfl))) (g := (mkF m 67 #[.val (.long a), .second, .val (.int fl), .val (.long (a % (4000000000000 : Int64))), .second, .val (.int (1 : Int32)), .val (.int (1 : Int32)), .val (.long (-(a % (4000000000000 : Int64)))), .second, .val (.double (FP.dneg (FP.l2d (a % (4000000000000 : Int64))))), .second, .unset] [(.double (FP.dneg (FP.l2d (a % (4000000000000 : Int64)))))])) rfl (hb hby at_67) _ ?_
    show Steps p.tables e below (s₁.setTop (mkF m 70 #[.val (.long a), .second, .val (.int fl), .val (.long (a % (4000000000000 : Int64))), .second, .val (.int (1 : Int32)), .val (.int (1 : Int32)), .val (.long (-(a % (4000000000000 : Int64)))), .second, .val (.double (FP.dneg (FP.l2d (a % (4000000000000 : Int64))))), .second, .unset] [(.double (4602678819172646912 : UInt64)), (.double (FP.dneg (FP.l2d (a % (4000000000000 : Int64)))))])) _
    refine XS.daddS X0.here hx rfl (hb hby at_70) rfl hnan70 rfl ?_
    show Steps p.tables e below (s₁.setTop (mkF m 71 #[.val (.long a), .second, .val (.int fl), .val (.long (a % (4000000000000 : Int64))), .second, .val (.int (1 : Int32)), .val (.int (1 : Int32)), .val (.long (-(a % (4000000000000 : Int64)))), .second, .val (.double (FP.dneg (FP.l2d (a % (4000000000000 : Int64))))), .second, .unset] [(.double (FP.dadd (FP.dneg (FP.l2d (a % (4000000000000 : Int64)))) (4602678819172646912 : UInt64)))])) _
    refine XS.dstore X0.here hx rfl (hb hby at_71) rfl (l' := #[.val (.long a), .second, .val (.int fl), .val (.long (a % (4000000000000 : Int64))), .second, .val (.int (1 : Int32)), .val (.int (1 : Int32)), .val (.long (-(a % (4000000000000 : Int64)))), .second, .val (.double (FP.dadd (FP.dneg (FP.l2d (a % (4000000000000 : Int64)))) (4602678819172646912 : UInt64))), .second, .unset]) rfl ?_
    show Steps p.tables e below (s₁.setTop (mkF m 73 #[.val (.long a), .second, .val (.int fl), .val (.long (a % (4000000000000 : Int64))), .second, .val (.int (1 : Int32)), .val (.int (1 : Int32)), .val (.long (-(a % (4000000000000 : Int64)))), .second, .val (.double (FP.dadd (FP.dneg (FP.l2d (a % (4000000000000 : Int64)))) (4602678819172646912 : UInt64))), .second, .unset] [])) _
    refine XS.iload X0.here hx rfl (hb hby at_73) rfl ?_
    show Steps p.tables e below (s₁.setTop (mkF m 75 #[.val (.long a), .second, .val (.int fl), .val (.long (a % (4000000000000 : Int64))), .second, .val (.int (1 : Int32)), .val (.int (1 : Int32)), .val (.long (-(a % (4000000000000 : Int64)))), .second, .val (.double (FP.dadd (FP.dneg (FP.l2d (a % (4000000000000 : Int64)))) (4602678819172646912 : UInt64))), .second, .unset] [(.int (1 : Int32))])) _
    refine XS.ifNo X0.here hx rfl (hb hby at_75) rfl ((if0 _ _).trans (feq (by decide : ¬ ((1 : Int32) = (0 : Int32)))).1) ?_
    show Steps p.tables e below (s₁.setTop (mkF m 78 #[.val (.long a), .second, .val (.int fl), .val (.long (a % (4000000000000 : Int64))), .second, .val (.int (1 : Int32)), .val (.int (1 : Int32)), .val (.long (-(a % (4000000000000 : Int64)))), .second, .val (.double (FP.dadd (FP.dneg (FP.l2d (a % (4000000000000 : Int64)))) (4602678819172646912 : UInt64))), .second, .unset] [])) _
    refine XS.lload X0.here hx rfl (hb hby at_78) rfl ?_
    show Steps p.tables e below (s₁.setTop (mkF m 80 #[.val (.long a), .second, .val (.int fl), .val (.long (a % (4000000000000 : Int64))), .second, .val (.int (1 : Int32)), .val (.int (1 : Int32)), .val (.long (-(a % (4000000000000 : Int64)))), .second, .val (.double (FP.dadd (FP.dneg (FP.l2d (a % (4000000000000 : Int64)))) (4602678819172646912 : UInt64))), .second, .unset] [(.long (-(a % (4000000000000 : Int64))))])) _
    refine XS.lconst X0.here hx rfl (hb hby at_80) ?_
    show Steps p.tables e below (s₁.setTop (mkF m 81 #[.val (.long a), .second, .val (.int fl), .val (.long (a % (4000000000000 : Int64))), .second, .val (.int (1 : Int32)), .val (.int (1 : Int32)), .val (.long (-(a % (4000000000000 : Int64)))), .second, .val (.double (FP.dadd (FP.dneg (FP.l2d (a % (4000000000000 : Int64)))) (4602678819172646912 : UInt64))), .second, .unset] [(.long (0 : Int64)), (.long (-(a % (4000000000000 : Int64))))])) _
    refine XS.lcmp X0.here hx rfl (hb hby at_81) rfl ?_
    show Steps p.tables e below (s₁.setTop (mkF m 82 #[.val (.long a), .second, .val (.int fl), .val (.long (a % (4000000000000 : Int64))), .second, .val (.int (1 : Int32)), .val (.int (1 : Int32)), .val (.long (-(a % (4000000000000 : Int64)))), .second, .val (.double (FP.dadd (FP.dneg (FP.l2d (a % (4000000000000 : Int64)))) (4602678819172646912 : UInt64))), .second, .unset] [(.int (lcmpW (-(a % (4000000000000 : Int64))) (0 : Int64)))])) _
    refine XS.ifNo X0.here hx rfl (hb hby at_82) rfl ((if0 _ _).trans (flt hc82).1) ?_
    show Steps p.tables e below (s₁.setTop (mkF m 85 #[.val (.long a), .second, .val (.int fl), .val (.long (a % (4000000000000 : Int64))), .second, .val (.int (1 : Int32)), .val (.int (1 : Int32)), .val (.long (-(a % (4000000000000 : Int64)))), .second, .val (.double (FP.dadd (FP.dneg (FP.l2d (a % (4000000000000 : Int64)))) (4602678819172646912 : UInt64))), .second, .unset] [])) _
    refine XS.lload X0.here hx rfl (hb hby at_85) rfl ?_
    show Steps p.tables e below (s₁.setTop (mkF m 87 #[.val (.long a), .second, .val (.int fl), .val (.long (a % (4000000000000 : Int64))), .second, .val (.int (1 : Int32)), .val (.int (1 : Int32)), .val (.long (-(a % (4000000000000 : Int64)))), .second, .val (.double (FP.dadd (FP.dneg (FP.l2d (a % (4000000000000 : Int64)))) (4602678819172646912 : UInt64))), .second, .unset] [(.long (-(a % (4000000000000 : Int64))))])) _
    refine X0.ldc2Long hx hown (mvT hZ (hw _ (List.mem_of_getElem? (i := 2) rfl))) (g := (mkF m 87 #[.val (.long a), .second, .val (.int fl), .val (.long (a % (4000000000000 : Int64))), .second, .val (.int (1 : Int32)), .val (.int (1 : Int32)), .val (.long (-(a % (4000000000000 : Int64)))), .second, .val (.double (FP.dadd (FP.dneg (FP.l2d (a % (4000000000000 : Int64)))) (4602678819172646912 : UInt64))), .second, .unset] [(.long (-(a % (4000000000000 : Int64))))])) rfl (hb hby at_87) _ ?_
    show Steps p.tables e below (s₁.setTop (mkF m 90 #[.val (.long a), .second, .val (.int fl), .val (.long (a % (4000000000000 : Int64))), .second, .val (.int (1 : Int32)), .val (.int (1 : Int32)), .val (.long (-(a % (4000000000000 : Int64)))), .second, .val (.double (FP.dadd (FP.dneg (FP.l2d (a % (4000000000000 : Int64)))) (4602678819172646912 : UInt64))), .second, .unset] [(.long (999999999999 : Int64)), (.long (-(a % (4000000000000 : Int64))))])) _
    refine XS.lcmp X0.here hx rfl (hb hby at_90) rfl ?_
    show Steps p.tables e below (s₁.setTop (mkF m 91 #[.val (.long a), .second, .val (.int fl), .val (.long (a % (4000000000000 : Int64))), .second, .val (.int (1 : Int32)), .val (.int (1 : Int32)), .val (.long (-(a % (4000000000000 : Int64)))), .second, .val (.double (FP.dadd (FP.dneg (FP.l2d (a % (4000000000000 : Int64)))) (4602678819172646912 : UInt64))), .second, .unset] [(.int (lcmpW (-(a % (4000000000000 : Int64))) (999999999999 : Int64)))])) _
    refine XS.ifNo X0.here hx rfl (hb hby at_91) rfl ((if0 _ _).trans (flt hc91).2.2.1) ?_
    show Steps p.tables e below (s₁.setTop (mkF m 94 #[.val (.long a), .second, .val (.int fl), .val (.long (a % (4000000000000 : Int64))), .second, .val (.int (1 : Int32)), .val (.int (1 : Int32)), .val (.long (-(a % (4000000000000 : Int64)))), .second, .val (.double (FP.dadd (FP.dneg (FP.l2d (a % (4000000000000 : Int64)))) (4602678819172646912 : UInt64))), .second, .unset] [])) _
    refine XS.iconst X0.here hx rfl (hb hby at_94) ?_
    show Steps p.tables e below (s₁.setTop (mkF m 95 #[.val (.long a), .second, .val (.int fl), .val (.long (a % (4000000000000 : Int64))), .second, .val (.int (1 : Int32)), .val (.int (1 : Int32)), .val (.long (-(a % (4000000000000 : Int64)))), .second, .val (.double (FP.dadd (FP.dneg (FP.l2d (a % (4000000000000 : Int64)))) (4602678819172646912 : UInt64))), .second, .unset] [(.int (1 : Int32))])) _
    refine XS.goto X0.here hx rfl (pc0 := 95) (pc' := 99) rfl (hb hby at_95) (by decide) (by decide) ?_
    show Steps p.tables e below (s₁.setTop (mkF m 99 #[.val (.long a), .second, .val (.int fl), .val (.long (a % (4000000000000 : Int64))), .second, .val (.int (1 : Int32)), .val (.int (1 : Int32)), .val (.long (-(a % (4000000000000 : Int64)))), .second, .val (.double (FP.dadd (FP.dneg (FP.l2d (a % (4000000000000 : Int64)))) (4602678819172646912 : UInt64))), .second, .unset] [(.int (1 : Int32))])) _
    refine XS.istore X0.here hx rfl (hb hby at_99) rfl (l' := #[.val (.long a), .second, .val (.int fl), .val (.long (a % (4000000000000 : Int64))), .second, .val (.int (1 : Int32)), .val (.int (1 : Int32)), .val (.long (-(a % (4000000000000 : Int64)))), .second, .val (.double (FP.dadd (FP.dneg (FP.l2d (a % (4000000000000 : Int64)))) (4602678819172646912 : UInt64))), .second, .val (.int (1 : Int32))]) rfl ?_
    show Steps p.tables e below (s₁.setTop (mkF m 101 #[.val (.long a), .second, .val (.int fl), .val (.long (a % (4000000000000 : Int64))), .second, .val (.int (1 : Int32)), .val (.int (1 : Int32)), .val (.long (-(a % (4000000000000 : Int64)))), .second, .val (.double (FP.dadd (FP.dneg (FP.l2d (a % (4000000000000 : Int64)))) (4602678819172646912 : UInt64))), .second, .val (.int (1 : Int32))] [])) _
    refine XS.goto X0.here hx rfl (pc0 := 101) (pc' := 127) rfl (hb hby at_101) (by decide) (by decide) ?_
    show Steps p.tables e below (s₁.setTop (mkF m 127 #[.val (.long a), .second, .val (.int fl), .val (.long (a % (4000000000000 : Int64))), .second, .val (.int (1 : Int32)), .val (.int (1 : Int32)), .val (.long (-(a % (4000000000000 : Int64)))), .second, .val (.double (FP.dadd (FP.dneg (FP.l2d (a % (4000000000000 : Int64)))) (4602678819172646912 : UInt64))), .second, .val (.int (1 : Int32))] [])) _
    refine XS.dload X0.here hx rfl (hb hby at_127) rfl ?_
    show Steps p.tables e below (s₁.setTop (mkF m 129 #[.val (.long a), .second, .val (.int fl), .val (.long (a % (4000000000000 : Int64))), .second, .val (.int (1 : Int32)), .val (.int (1 : Int32)), .val (.long (-(a % (4000000000000 : Int64)))), .second, .val (.double (FP.dadd (FP.dneg (FP.l2d (a % (4000000000000 : Int64)))) (4602678819172646912 : UInt64))), .second, .val (.int (1 : Int32))] [(.double (FP.dadd (FP.dneg (FP.l2d (a % (4000000000000 : Int64)))) (4602678819172646912 : UInt64)))])) _
    refine st12 _ ?_
    show Steps p.tables e below (T12.setTop (mkF m 132 #[.val (.long a), .second, .val (.int fl), .val (.long (a % (4000000000000 : Int64))), .second, .val (.int (1 : Int32)), .val (.int (1 : Int32)), .val (.long (-(a % (4000000000000 : Int64)))), .second, .val (.double (FP.dadd (FP.dneg (FP.l2d (a % (4000000000000 : Int64)))) (4602678819172646912 : UInt64))), .second, .val (.int (1 : Int32))] [(.int (isC (FP.dadd (FP.dneg (FP.l2d (a % (4000000000000 : Int64)))) (4602678819172646912 : UInt64))))])) _
    refine XS.iload X12.here hx rfl (hb hby at_132) rfl ?_
    show Steps p.tables e below (T12.setTop (mkF m 134 #[.val (.long a), .second, .val (.int fl), .val (.long (a % (4000000000000 : Int64))), .second, .val (.int (1 : Int32)), .val (.int (1 : Int32)), .val (.long (-(a % (4000000000000 : Int64)))), .second, .val (.double (FP.dadd (FP.dneg (FP.l2d (a % (4000000000000 : Int64)))) (4602678819172646912 : UInt64))), .second, .val (.int (1 : Int32))] [(.int (1 : Int32)), (.int (isC (FP.dadd (FP.dneg (FP.l2d (a % (4000000000000 : Int64)))) (4602678819172646912 : UInt64))))])) _
    refine XS.icmpNo X12.here hx rfl (hb hby at_134) rfl (teq hc134).2 ?_
    show Steps p.tables e below (T12.setTop (mkF m 137 #[.val (.long a), .second, .val (.int fl), .val (.long (a % (4000000000000 : Int64))), .second, .val (.int (1 : Int32)), .val (.int (1 : Int32)), .val (.long (-(a % (4000000000000 : Int64)))), .second, .val (.double (FP.dadd (FP.dneg (FP.l2d (a % (4000000000000 : Int64)))) (4602678819172646912 : UInt64))), .second, .val (.int (1 : Int32))] [])) _
    refine XS.iconst X12.here hx rfl (hb hby at_137) ?_
    show Steps p.tables e below (T12.setTop (mkF m 138 #[.val (.long a), .second, .val (.int fl), .val (.long (a % (4000000000000 : Int64))), .second, .val (.int (1 : Int32)), .val (.int (1 : Int32)), .val (.long (-(a % (4000000000000 : Int64)))), .second, .val (.double (FP.dadd (FP.dneg (FP.l2d (a % (4000000000000 : Int64)))) (4602678819172646912 : UInt64))), .second, .val (.int (1 : Int32))] [(.int (1 : Int32))])) _
    refine XS.goto X12.here hx rfl (pc0 := 138) (pc' := 142) rfl (hb hby at_138) (by decide) (by decide) ?_
    show Steps p.tables e below (T12.setTop (mkF m 142 #[.val (.long a), .second, .val (.int fl), .val (.long (a % (4000000000000 : Int64))), .second, .val (.int (1 : Int32)), .val (.int (1 : Int32)), .val (.long (-(a % (4000000000000 : Int64)))), .second, .val (.double (FP.dadd (FP.dneg (FP.l2d (a % (4000000000000 : Int64)))) (4602678819172646912 : UInt64))), .second, .val (.int (1 : Int32))] [(.int (1 : Int32))])) _
    exact retN X12 hx (t := .boolean) Bd.returns (by simp) (hb hby at_142) hr
  · show Q0 a fl h0 n0 _ T12.heap _
    rw [e12]
    exact ⟨rfl, N12⟩
theorem c0 : DV 0 1073 FP.dconst0 := dv_of_bits (s := false) (c := 0) (q := -1074) (by decide +kernel) (by decide +kernel)
theorem c12 : DV 2000000000000 1073 (4786511204640096256 : UInt64) := dv_of_bits (s := false) (c := 8192000000000000) (q := -13) (by decide +kernel) (by decide +kernel)
theorem chalf : DV 1 1073 (4602678819172646912 : UInt64) := dv_of_bits (s := false) (c := 4503599627370496) (q := -53) (by decide +kernel) (by decide +kernel)
theorem cmp_val (i j : Int) (o : CmpOp) : cmpValue (some (compare i j)) o = if i < j then -1 else if i = j then 0 else 1 := by
  simp only [compare, compareOfLessAndEq]
  split
  · rfl
  · split <;> rfl
theorem isC_of {i : Int} {d : UInt64} (h : DV i 1073 d) : isC d = if 0 ≤ i ∧ i ≤ 2000000000000 then 1 else 0 := by
  unfold isC
  rw [dv_cmp h c0, dv_cmp h c12, cmp_val, cmp_val]
  by_cases h1 : i < 0
  · rw [if_pos h1, if_pos (by decide), if_neg (by omega)]
  · rw [if_neg h1, if_neg (by split <;> decide)]
    by_cases h2 : i < 2000000000000
    · rw [if_pos h2, if_neg (by decide), if_pos (by omega)]
    · rw [if_neg h2]
      by_cases h3 : i = 2000000000000
      · rw [if_pos h3, if_neg (by decide), if_pos (by omega)]
      · rw [if_neg h3, if_pos (by decide), if_neg (by omega)]
set_option maxRecDepth 65536 in
set_option maxHeartbeats 40000000 in
theorem rm0 (l : Launch) (Z : State) (a0 : Array Value) (hw : ∀ d ∈ tables_1, d.before a0 Z = true) (ws : List Jvm.Cond) (a : Int64) (fl : Int32)  (h0 : Heap) (n0 : Nat) (Z0 : n0 ≤ h0.size)   :
    MetFree l x (head1 (Jvm.Cond.code x code maxLocals ret :: ws) room_1) (fun aa U => aa = #[(.long a), (.int fl)] ∧ Z.Warmed39 U.vm ∧ U.heap = h0) (fun _ _ _ _ _ => True) (fun _ U o U' => ∃ v L, o = .returned v ∧ Q0 a fl h0 n0 v U'.heap L ∧ FrameEnd U o U' L room_1.cells room_1.slots) := by
  have hb : (a % (4000000000000 : Int64)).toInt.natAbs < 4000000000000 := by rw [Int64.toInt_mod, Int.natAbs_tmod]; exact Nat.mod_lt _ (by decide)
  have d0 : DV ((a % (4000000000000 : Int64)).toInt * 2) 1073 (FP.l2d (a % (4000000000000 : Int64))) := dv_up (k := 1) (dv_l2d (by omega))
  have d1 := dv_neg d0
  have hneg : (-(a % (4000000000000 : Int64))).toInt = -(a % (4000000000000 : Int64)).toInt := Jvm.Kit.i64_neg (by omega)
  have eZ : ((0 : Int64)).toInt = 0 := rfl
  have eA : ((1000000000000 : Int64)).toInt = 1000000000000 := rfl
  have eB : ((999999999999 : Int64)).toInt = 999999999999 := rfl
  have k0 := dv_add d0 chalf (by omega) (by decide)
  have k1 := dv_add d1 chalf (by omega) (by decide)
  by_cases hc9 : (fl &&& (1 : Int32)) = (0 : Int32)
  · skip
    by_cases hc22 : (fl &&& (2 : Int32)) = (0 : Int32)
    · skip
      by_cases hc108 : (lcmpW (a % (4000000000000 : Int64)) (0 : Int64)) < (0 : Int32)
      · have b1 := hc108; rw [lw_lt, Int64.lt_iff_toInt_lt, eZ] at b1
        exact rm0_00t l Z a0 hw ws a fl h0 n0 Z0 hc9 hc22 hc108 (by rw [isC_of d0, if_neg (by omega)])
      · have b1 := hc108; rw [lw_lt, Int64.lt_iff_toInt_lt, eZ] at b1
        by_cases hc117 : (0 : Int32) < (lcmpW (a % (4000000000000 : Int64)) (1000000000000 : Int64))
        · have b2 := hc117; rw [lw_gt, Int64.lt_iff_toInt_lt, eA] at b2
          exact rm0_00ft l Z a0 hw ws a fl h0 n0 Z0 hc9 hc22 hc108 hc117 (by rw [isC_of d0, if_neg (by omega)])
        · have b2 := hc117; rw [lw_gt, Int64.lt_iff_toInt_lt, eA] at b2
          exact rm0_00ff l Z a0 hw ws a fl h0 n0 Z0 hc9 hc22 hc108 hc117 (by rw [isC_of d0, if_pos (by omega)])
    have hnan70 := dv_noNaN k0
    by_cases hc82 : (lcmpW (a % (4000000000000 : Int64)) (0 : Int64)) < (0 : Int32)
    · have b1 := hc82; rw [lw_lt, Int64.lt_iff_toInt_lt, eZ] at b1
      exact rm0_01t l Z a0 hw ws a fl h0 n0 Z0 hc9 hc22 hnan70 hc82 (by rw [isC_of k0, if_neg (by omega)])
    · have b1 := hc82; rw [lw_lt, Int64.lt_iff_toInt_lt, eZ] at b1
      by_cases hc91 : (0 : Int32) < (lcmpW (a % (4000000000000 : Int64)) (999999999999 : Int64))
      · have b2 := hc91; rw [lw_gt, Int64.lt_iff_toInt_lt, eB] at b2
        exact rm0_01ft l Z a0 hw ws a fl h0 n0 Z0 hc9 hc22 hnan70 hc82 hc91 (by rw [isC_of k0, if_neg (by omega)])
      · have b2 := hc91; rw [lw_gt, Int64.lt_iff_toInt_lt, eB] at b2
        exact rm0_01ff l Z a0 hw ws a fl h0 n0 Z0 hc9 hc22 hnan70 hc82 hc91 (by rw [isC_of k0, if_pos (by omega)])
  by_cases hc22 : (fl &&& (2 : Int32)) = (0 : Int32)
  · skip
    by_cases hc108 : (lcmpW (-(a % (4000000000000 : Int64))) (0 : Int64)) < (0 : Int32)
    · have b1 := hc108; rw [lw_lt, Int64.lt_iff_toInt_lt, eZ, hneg] at b1
      exact rm0_10t l Z a0 hw ws a fl h0 n0 Z0 hc9 hc22 hc108 (by rw [isC_of d1, if_neg (by omega)])
    · have b1 := hc108; rw [lw_lt, Int64.lt_iff_toInt_lt, eZ, hneg] at b1
      by_cases hc117 : (0 : Int32) < (lcmpW (-(a % (4000000000000 : Int64))) (1000000000000 : Int64))
      · have b2 := hc117; rw [lw_gt, Int64.lt_iff_toInt_lt, eA, hneg] at b2
        exact rm0_10ft l Z a0 hw ws a fl h0 n0 Z0 hc9 hc22 hc108 hc117 (by rw [isC_of d1, if_neg (by omega)])
      · have b2 := hc117; rw [lw_gt, Int64.lt_iff_toInt_lt, eA, hneg] at b2
        exact rm0_10ff l Z a0 hw ws a fl h0 n0 Z0 hc9 hc22 hc108 hc117 (by rw [isC_of d1, if_pos (by omega)])
  have hnan70 := dv_noNaN k1
  by_cases hc82 : (lcmpW (-(a % (4000000000000 : Int64))) (0 : Int64)) < (0 : Int32)
  · have b1 := hc82; rw [lw_lt, Int64.lt_iff_toInt_lt, eZ, hneg] at b1
    exact rm0_11t l Z a0 hw ws a fl h0 n0 Z0 hc9 hc22 hnan70 hc82 (by rw [isC_of k1, if_neg (by omega)])
  · have b1 := hc82; rw [lw_lt, Int64.lt_iff_toInt_lt, eZ, hneg] at b1
    by_cases hc91 : (0 : Int32) < (lcmpW (-(a % (4000000000000 : Int64))) (999999999999 : Int64))
    · have b2 := hc91; rw [lw_gt, Int64.lt_iff_toInt_lt, eB, hneg] at b2
      exact rm0_11ft l Z a0 hw ws a fl h0 n0 Z0 hc9 hc22 hnan70 hc82 hc91 (by rw [isC_of k1, if_neg (by omega)])
    · have b2 := hc91; rw [lw_gt, Int64.lt_iff_toInt_lt, eB, hneg] at b2
      exact rm0_11ff l Z a0 hw ws a fl h0 n0 Z0 hc9 hc22 hnan70 hc82 hc91 (by rw [isC_of k1, if_pos (by omega)])
set_option maxRecDepth 65536 in
set_option maxHeartbeats 40000000 in
theorem comes_1 {Post : Tables → Env → Array Value → State → Outcome → State → Prop} (hpost : ∀ tb e args s v u, (limb_1_1.after args s (.returned v) u = true ∧ limb_1_2.after args s (.returned v) u = true ∧ True) → FrameEnd s (.returned v) u (Jvm.fieldLocs frame_1_writes args s ++ Jvm.arrayLocs frame_1_arrays args s ++ Jvm.staticLocs frame_1_statics s) 0 0 → Post tb e args s (.returned v) u) :
    ArmFor flags0 classFile x code maxLocals ret World_1 tables_1 room_1 Calls_1 rest_1 Pre_1 Post := by
  intro l hfl _ _ p e ha hc hk s m args below hf hA hF happ hP
  obtain ⟨hcalls, hrest, hpre⟩ := hP
  obtain ⟨-, -, -, hnamed, -, -, -, hat⟩ := (Spec.applies_iff hf).mp happ
  obtain ⟨hg, hn⟩ := and_e (Cond.before_iff.mp (show (Jvm.Cond.and given_1 narrow_1).before args s = true from hpre))
  obtain ⟨hcount, hg0⟩ := and_e hg
  obtain ⟨ha0, hg1⟩ := and_e hg0
  have ha1 := hg1
  obtain ⟨w0, w1, rfl⟩ : ∃ w0 w1 : Value, args = #[w0, w1] := by
    have hs : args.size = 2 := by simpa [Cond.value, given_1] using hcount
    obtain ⟨L⟩ := args
    match L, hs with
    | [w0, w1], _ => exact ⟨w0, w1, rfl⟩
  have hw := fun d (hd : d ∈ tables_1) => atoms_spec (ws := Jvm.Cond.code x code maxLocals ret :: tables_1) hat d (List.mem_cons_of_mem _ hd)
  have hfit : Fit s := fun {y c} hc i hi => by
    obtain ⟨ha, rfl⟩ := Array.getElem?_eq_some_iff.mp hc
    have q := List.all_eq_true.mp ((Array.all_eq_true_iff_forall_mem.mp hF) _ (Array.getElem_mem ha)) i (List.mem_range.mpr hi)
    simpa [Array.getElem?_eq_getElem hi] using q
  obtain ⟨i0, ei0⟩ := isL_v ha0
  obtain rfl : w0 = (.long i0) := Option.some.inj ei0
  obtain ⟨i1, ei1⟩ := is_v ha1
  obtain rfl : w1 = (.int i1) := Option.some.inj ei1
  obtain ⟨n, o, h1, h2, h3, _, L, rfl, ⟨rfl, N⟩, hq⟩ := rm0 l s _ hw tables_1 i0 i1 s.heap s.heap.size (Nat.le_refl _)  p e ha hc hk s m _ below hf ((Spec.applies_iff_loose hf).mp happ).1 ⟨rfl, State.Warmed39.refl s, rfl⟩ trivial
  refine ⟨n, _, h1, h2, h3, hpost _ _ _ _ _ _ ⟨Cond.after_iff.mpr rfl, Cond.after_iff.mpr (eq_i res_at (Term.int_eval (1)) rfl), trivial⟩ ⟨hq.1, hq.2.1, (hq.2.2.sift fun y hy => Or.inr (N y hy)).mono (by decide) (by decide)⟩⟩
theorem main_1_1 : Claimed_1_1 := comes_1 fun _ _ _ _ _ _ h hF => ⟨h.1, hF⟩
theorem main_1_2 : Claimed_1_2 := comes_1 fun _ _ _ _ _ _ h hF => ⟨h.2.1, hF⟩
end Jvm.Pilot.@@N@@
namespace Jvm.Pilot.@@N@@
open Jvm Jvm.ClassFile Sem Op Lib Jvm.Free Jvm.Stand Jvm.Pilot.@@N@@.Jvm.D
/-! MADE BY PROGRAM (witnessworld.py) out of the Statement's table words and the real class files: 9 classes; the members and pool entries that the words name. The judged class is class 1, her method 1. -/
namespace start1
open Jvm.ClassFile
def u (s : String) : CpInfo := .utf8 (stringToUtf16 s)
/-- a pool by its gaps: so many unusable entries, then the entry; so many at the end -/
def gap : Nat → List CpInfo → List CpInfo
  | 0, r => r
  | n + 1, r => .unusable :: gap n r
def poolList (es : List (Nat × CpInfo)) (last : Nat) : List CpInfo := es.foldr (fun e r => gap e.1 (e.2 :: r)) (gap last [])
def pool (es : List (Nat × CpInfo)) (last : Nat) : Array CpInfo := ⟨poolList es last⟩
def fileOf (pool : Array CpInfo) (this : Nat) (attrs : Array Attribute := #[]) (ms : Array MethodInfo := #[]) (fl : Nat := 33) (sup : Nat := 0) (ifs : Array Nat := #[]) (fds : Array FieldInfo := #[]) : ClassFile where
  minorVersion := 0
  majorVersion := 65
  constantPool := pool
  accessFlags := fl
  thisClass := this
  superClass := sup
  interfaces := ifs
  fields := fds
  methods := ms
  attributes := attrs
def plain (name : String) (sup : Option ClassId) : Class where
  name := name
  kind := .ordinary
  loader := none
  accessFlags := 33
  super := sup
  interfaces := #[]
  cf := none
  fields := #[]
  methods := #[]
  instanceTypes := #[]
  staticTypes := #[]
  resolved := #[]
  callSites := []
  init := .initialized
  statics := none
  mirror := none

def pool0 : Array CpInfo := pool [(5, u "<init>"), (0, u "()V"), (1, .class_ 10), (1, u "java/lang/Object")] 113

def k0m0 : Method := { name := "<init>", desc := "()V", sig := { parameters := [], returnType := none }, accessFlags := 1, code := none }
/-- java/lang/Object -/
def k0 : Class := { plain "java/lang/Object" none with
  accessFlags := 33
  interfaces := #[]
  cf := some (fileOf pool0 8 #[] #[{ accessFlags := 1, nameIndex := 5, descriptorIndex := 6, attributes := #[] }] 33 0 #[] #[])
  fields := #[]
  methods := #[k0m0]
  instanceTypes := #[]
  staticTypes := #[]
  resolved := Array.replicate 124 none
  statics := none }

def pool1 : Array CpInfo := pool [(2, .class_ 4), (1, u "java/lang/Object"), (0, u "<init>"), (0, u "()V"), (0, .long 4000000000000), (1, .double 4602678819172646912), (1, .long 999999999999), (1, .long 1000000000000), (1, .methodref 16 17), (0, .class_ 18), (0, .nameAndType 19 20), (0, u "com/example/metered_demand/metereddemand/model/Measurement"), (0, u "isCount"), (0, u "(D)Z"), (0, .class_ 22), (0, u "com/example/metered_demand/metereddemand/model/MeasurementIsCountPinLaw"), (2, u "law"), (0, u "(JI)Z")] 3

def k1m0 : Method := { name := "<init>", desc := "()V", sig := { parameters := [], returnType := none }, accessFlags := 1, code := none }
def k1c1 : Code := { maxStack := 4, maxLocals := 12, code := code, exceptionTable := #[], attributes := #[] }
def k1m1 : Method := { name := "law", desc := "(JI)Z", sig := { parameters := [.long, .int], returnType := some .boolean }, accessFlags := 9, code := some k1c1 }
/-- com/example/metered_demand/metereddemand/model/MeasurementIsCountPinLaw -/
def k1 : Class := { plain "com/example/metered_demand/metereddemand/model/MeasurementIsCountPinLaw" (some 0) with
  accessFlags := 49
  interfaces := #[]
  cf := some (fileOf pool1 21 #[] #[{ accessFlags := 1, nameIndex := 5, descriptorIndex := 6, attributes := #[] }, { accessFlags := 9, nameIndex := 25, descriptorIndex := 26, attributes := #[] }] 49 2 #[] #[])
  fields := #[]
  methods := #[k1m0, k1m1]
  instanceTypes := #[]
  staticTypes := #[]
  resolved := Array.replicate 30 none
  statics := none }

def pool2 : Array CpInfo := pool [(2, .class_ 4), (1, u "java/lang/Object"), (3, .class_ 10), (1, u "com/example/metered_demand/metereddemand/model/Measurement"), (0, u "isCount"), (0, u "(D)Z"), (17, u "count"), (0, u "D"), (2, u "variance"), (15, u "MIN_STDDEV"), (3, .double 4786511204640096256), (5, u "MAX_COUNT"), (1, u "MIN_VARIANCE"), (2, u "DEFAULT_VARIANCE_PER_VEHICLE"), (0, u "DEFAULT_VARIANCE_FLOOR_COUNT")] 32

def k2c0 : Code := { maxStack := 4, maxLocals := 2, code := prog_11_method_4_code, exceptionTable := #[], attributes := #[] }
def k2m0 : Method := { name := "isCount", desc := "(D)Z", sig := { parameters := [.double], returnType := some .boolean }, accessFlags := 9, code := some k2c0 }
/-- com/example/metered_demand/metereddemand/model/Measurement -/
def k2 : Class := { plain "com/example/metered_demand/metereddemand/model/Measurement" (some 0) with
  accessFlags := 49
  interfaces := #[]
  cf := some (fileOf pool2 8 #[] #[{ accessFlags := 9, nameIndex := 11, descriptorIndex := 12, attributes := #[] }] 49 2 #[] #[{ accessFlags := 25, nameIndex := 60, descriptorIndex := 31, attributes := #[] }, { accessFlags := 25, nameIndex := 62, descriptorIndex := 31, attributes := #[] }, { accessFlags := 26, nameIndex := 50, descriptorIndex := 31, attributes := #[] }, { accessFlags := 26, nameIndex := 65, descriptorIndex := 31, attributes := #[] }, { accessFlags := 26, nameIndex := 66, descriptorIndex := 31, attributes := #[] }, { accessFlags := 18, nameIndex := 30, descriptorIndex := 31, attributes := #[] }, { accessFlags := 18, nameIndex := 34, descriptorIndex := 31, attributes := #[] }])
  fields := #[{ name := "MAX_COUNT", type := .double, accessFlags := 25, slot := 0, constantValue := 0 }, { name := "MIN_VARIANCE", type := .double, accessFlags := 25, slot := 1, constantValue := 0 }, { name := "MIN_STDDEV", type := .double, accessFlags := 26, slot := 2, constantValue := 0 }, { name := "DEFAULT_VARIANCE_PER_VEHICLE", type := .double, accessFlags := 26, slot := 3, constantValue := 0 }, { name := "DEFAULT_VARIANCE_FLOOR_COUNT", type := .double, accessFlags := 26, slot := 4, constantValue := 0 }, { name := "count", type := .double, accessFlags := 18, slot := 0, constantValue := 0 }, { name := "variance", type := .double, accessFlags := 18, slot := 1, constantValue := 0 }]
  methods := #[k2m0]
  instanceTypes := #[.double, .double]
  staticTypes := #[.double, .double, .double, .double, .double]
  resolved := Array.replicate 99 none
  statics := none }

def pool3 : Array CpInfo := pool [(1, u "java/lang/Cloneable"), (0, .class_ 1), (0, u "java/lang/Object"), (0, .class_ 3)] 3

/-- java/lang/Cloneable -/
def k3 : Class := { plain "java/lang/Cloneable" (some 0) with
  accessFlags := 1537
  interfaces := #[]
  cf := some (fileOf pool3 2 #[] #[] 1537 4 #[] #[])
  fields := #[]
  methods := #[]
  instanceTypes := #[]
  staticTypes := #[]
  resolved := Array.replicate 8 none
  statics := none }

def pool4 : Array CpInfo := pool [(1, u "java/io/Serializable"), (0, .class_ 1), (0, u "java/lang/Object"), (0, .class_ 3)] 3

/-- java/io/Serializable -/
def k4 : Class := { plain "java/io/Serializable" (some 0) with
  accessFlags := 1537
  interfaces := #[]
  cf := some (fileOf pool4 2 #[] #[] 1537 4 #[] #[])
  fields := #[]
  methods := #[]
  instanceTypes := #[]
  staticTypes := #[]
  resolved := Array.replicate 8 none
  statics := none }

/-- the primitive byte -/
def k5 : Class := { plain "byte" none with kind := .primitive 'B', accessFlags := 0x411 }
/-- [B -/
def k6 : Class := { plain "[B" (some 0) with kind := .array 5 .byte, interfaces := #[3, 4], accessFlags := 1041 }

/-- the primitive int -/
def k7 : Class := { plain "int" none with kind := .primitive 'I', accessFlags := 0x411 }
/-- [I -/
def k8 : Class := { plain "[I" (some 0) with kind := .array 7 .int, interfaces := #[3, 4], accessFlags := 1041 }

def heap : Heap := #[]
def classes : Array Class := #[k0, k1, k2, k3, k4, k5, k6, k7, k8]
def interned : List (Array UInt16 × Addr) := []
def slotsUsed : Nat := 0
def theMethod : MethodId := ⟨1, 1⟩
def args0 : Array Value := #[.long 5, .int 1]
def aboutOver (below : List Frame) : State where
  vm := { classes := classes, interned := interned.toArray }
  heap := heap
  slotsUsed := slotsUsed
  threads := #[{ frames := .invoking theMethod args0 :: below }]
def below0 : List Frame := [.native { method := ⟨0, 0⟩, args := #[] }]
def about1 : State := aboutOver below0
def p0 : Program := .bare "" "" ""
def e0 : Env := launch0.env 0 0 0
theorem w_frames : about1.frames = Frame.invoking theMethod args0 :: below0 := rfl
set_option maxRecDepth 65536 in
theorem w_args : argsFit about1.vm theMethod args0 = true := by decide +kernel
set_option maxRecDepth 65536 in
theorem w_heap : heapFits about1 = true := by decide +kernel
set_option maxRecDepth 65536 in
theorem w_runnable : about1.curStatus? = some .runnable := by decide +kernel
set_option maxRecDepth 65536 in
theorem w_alone : about1.alone = true := by decide +kernel
set_option maxRecDepth 65536 in
theorem w_named : about1.methodNamed? x = some theMethod := by decide +kernel
set_option maxRecDepth 65536 in
theorem w_hears : about1.hears theMethod below0 = true := by decide +kernel
set_option maxRecDepth 65536 in
theorem w_ripe : about1.ripe theMethod args0 below0 = true := by decide +kernel
theorem w_running : about1.status = .running := rfl
set_option maxRecDepth 65536 in
theorem w_room : about1.hasRoom e0.platform room_1 = true :=
  launch0.hasRoom_least _ room_1 (by decide +kernel) (by decide +kernel) (by decide +kernel) (by decide +kernel) (by decide +kernel) (by decide +kernel)
theorem allAtoms_all (ts : List Jvm.Cond) (a : Array Jvm.Value) (st : Jvm.State) : (allAtoms ts).before a st = ts.all (fun c => c.before a st) := by
  induction ts with
  | nil => rfl
  | cons c t ih =>
    show (Jvm.Cond.and c (allAtoms t)).before a st = _
    rw [Jvm.Cond.before_and, ih, List.all_cons]
def words1 : List Jvm.Cond := Jvm.Cond.code x code maxLocals ret :: tables_1
/-- a 'code' word, met by the world's own term for the bytes: nothing is compared byte by byte -/
theorem code_word {y : MethodName} {bytes : ByteArray} {mx : Nat} {rt : Option FieldType} {a : Array Value} {s : State} {m : MethodId} {meth : Method} {c : Code} (h1 : s.methodNamed? y = some m) (h2 : s.vm.method? m = some meth) (h3 : meth.code = some c) (h4 : c.code = bytes)
    (h5 : (c.maxLocals == mx && c.exceptionTable.isEmpty && decide (c.maxStack ≤ mostOperands) && decide (meth.sig.returnType = rt) && !meth.locks && decide (parseMethodDescriptor y.desc = some meth.sig)) = true) : (Jvm.Cond.code y bytes mx rt).before a s = true := by
  simp only [Bool.and_eq_true, beq_iff_eq, Bool.not_eq_true', decide_eq_true_eq] at h5
  obtain ⟨⟨⟨⟨⟨g1, g2⟩, g3⟩, g4⟩, g5⟩, g6⟩ := h5
  simp [Cond.before, Cond.holds, Cond.value, h1, h2, h3, h4, g1, g2, g3, g4, g5, g6]
def isCode : Jvm.Cond → Bool
  | .code _ _ _ _ => true
  | _ => false
theorem all_split {L : List Jvm.Cond} {P : Jvm.Cond → Bool} (h1 : L.all (fun c => isCode c || P c) = true) (h2 : ∀ c ∈ L.filter isCode, P c = true) : L.all P = true := by
  refine List.all_eq_true.mpr fun c hc => ?_
  have h := List.all_eq_true.mp h1 c hc
  rcases Bool.eq_false_or_eq_true (isCode c) with hi | hi
  · exact h2 c (List.mem_filter.mpr ⟨hc, hi⟩)
  · simpa [hi] using h
set_option maxRecDepth 65536 in
theorem w_c0 : (Jvm.Cond.code x code maxLocals ret).before args0 about1 = true := code_word (m := ⟨1, 1⟩) (meth := k1m1) (c := k1c1) (by decide +kernel) rfl rfl rfl (by decide +kernel)
set_option maxRecDepth 65536 in
theorem w_c1 : (Jvm.Cond.code ({ cls := "com/example/metered_demand/metereddemand/model/Measurement", name := "isCount", desc := "(D)Z" } : Jvm.MethodName) prog_11_method_4_code (2 : Nat) (Option.some Jvm.ClassFile.FieldType.boolean)).before args0 about1 = true := code_word (m := ⟨2, 0⟩) (meth := k2m0) (c := k2c0) (by decide +kernel) rfl rfl rfl (by decide +kernel)
def codes1 : List Jvm.Cond := [Jvm.Cond.code x code maxLocals ret, Jvm.Cond.code ({ cls := "com/example/metered_demand/metereddemand/model/Measurement", name := "isCount", desc := "(D)Z" } : Jvm.MethodName) prog_11_method_4_code (2 : Nat) (Option.some Jvm.ClassFile.FieldType.boolean)]
set_option maxRecDepth 65536 in
theorem codes_eq : words1.filter isCode = codes1 := rfl
theorem w_codes : ∀ c ∈ words1.filter isCode, c.before args0 about1 = true := by
  rw [codes_eq]
  intro c hc
  simp only [codes1, List.mem_cons, List.not_mem_nil, or_false] at hc
  rcases hc with rfl | rfl
  · exact w_c0
  · exact w_c1
set_option maxRecDepth 65536 in
theorem w_t1 : words1.all (fun c => isCode c || c.before args0 about1) = true := by decide +kernel
theorem w_tables : (allAtoms (Jvm.Cond.code x code maxLocals ret :: tables_1)).before args0 about1 = true := by
  rw [allAtoms_all]
  show words1.all (fun c => c.before args0 about1) = true
  refine all_split ?_ w_codes
  rw [w_t1]
set_option maxRecDepth 65536 in
theorem w_case : (Jvm.Cond.and given_1 narrow_1).before args0 about1 = true := by decide +kernel
theorem w_applies : (headSpec (Jvm.Cond.code x code maxLocals ret :: tables_1) room_1).applies x e0.platform about1 = true :=
  (Spec.applies_iff w_frames).mpr ⟨w_running, w_runnable, w_alone, w_named, w_hears, w_ripe, w_room, w_tables⟩
theorem atStart : AtStart classFile x code maxLocals ret World_1 tables_1 room_1 Calls_1 rest_1 Pre_1 launch0 p0 e0 about1 theMethod args0 below0 :=
  ⟨lists_1, trivial, launch0.admits_env _ _ _, launch0.least_env, fairChoices_fair.cas, fairChoices_fair.clock, w_frames, w_args, w_heap, w_applies, trivial, trivial, w_case⟩
end start1
theorem witness_1 : WitnessClaimed_1 := ⟨start1.p0, start1.e0, start1.about1, start1.theMethod, start1.args0, start1.below0, start1.atStart⟩
end Jvm.Pilot.@@N@@
