import JvmDerived
import JvmDerived.Pilot.@@N@@Statement
import JvmDerived.Pilot.@@N@@Code
set_option linter.unusedVariables false
set_option linter.unusedSimpArgs false
namespace Jvm.RoadKit
open Sem ClassFile Op Lib Jvm.Stand Jvm.Free Jvm.LawKit
section New
variable {p : Program} {l : Launch} {e : Env} {R : Room} {s : State} {m : MethodId} {args : Array Value} {below : List Frame} {meth : Method} {c : Code} {T : State} {locs : List Loc} {cells slots : Nat}
theorem retI (X : Stand p l e R s m args below meth c T locs cells slots) (hx : p.tables.exec = Jvm.exec) {pc : Nat} {Ls : Array Slot} {z : Int32} {rest : List Value} (hret : meth.sig.returnType = some .int) (hd : decode c.code pc = .ok (.ireturn, 1)) {fs : List Frame}
    (hl : ∀ (f : JFrame) (acts : List Action), f.method = m → f.locked = none → f.entered = [] → (doReturn e (T.setTop f) acts (some (.int z))).1 = T.setFrames fs) : Steps p.tables e below (T.setTop (mkF m pc Ls (.int z :: rest))) (T.setFrames fs) := by
  have hm' : T.vm.method? m = some meth := X.method'
  have hn : narrow .int (.int z) = .int z := rfl
  show Steps p.tables e below (T.setTop { method := m, pc := pc, locals := Ls, stack := _ :: rest, locked := none }) _
  jvm_step X.here [X.here.top, hx, hd, hm', hret, hn]
  first | (intro acts; rw [hl _ acts rfl rfl rfl]) | rw [hl _ _ rfl rfl rfl]
  exact Steps.refl _
theorem gwLrem {tb : Tables} [Ours tb] {e : Env} {below : List Frame} {T target : State} {m : MethodId} {c : Code} {g : JFrame} (h : At T m c below) (hx : tb.exec = Jvm.exec) (hg : g.method = m) {x y : Int64} {rest : List Value} (hd : decode c.code g.pc = .ok (.lrem, 1)) (hs : g.stack = .long y :: .long x :: rest) (hy : y ≠ 0)
    (hr : Steps tb e below (T.setTop { g with pc := g.pc + 1, stack := .long (x % y) :: rest }) target) : Steps tb e below (T.setTop g) target :=
  XS.lrem h hx hg hd hs hy (by rw [lrem_mod]; exact hr)
theorem gwIrem {tb : Tables} [Ours tb] {e : Env} {below : List Frame} {T target : State} {m : MethodId} {c : Code} {g : JFrame} (h : At T m c below) (hx : tb.exec = Jvm.exec) (hg : g.method = m) {x y : Int32} {rest : List Value} (hd : decode c.code g.pc = .ok (.irem, 1)) (hs : g.stack = .int y :: .int x :: rest) (hy : y ≠ 0)
    (hr : Steps tb e below (T.setTop { g with pc := g.pc + 1, stack := .int (x % y) :: rest }) target) : Steps tb e below (T.setTop g) target :=
  XS.irem h hx hg hd hs hy (by rw [Jvm.irem_eq_mod]; exact hr)
end New
end Jvm.RoadKit
@@BLOCK:NumsL.lean.txt@@
namespace Jvm.Pilot.@@N@@
open Jvm Jvm.ClassFile Sem Op Lib Jvm.Free Jvm.Stand Jvm.LawKit Jvm.RoadKit Bundle Jvm.Pilot.@@N@@.Jvm.D

section StrKit
variable {p : Program} {l : Launch} {e : Env} {R : Room} {s : State} {m : MethodId} {args : Array Value} {below : List Frame} {meth : Method} {c : Code} {T : State} {locs : List Loc} {cells slots : Nat} {Z : State} {a0 : Array Value} {h h' : Heap} {a b : Addr} {ty : FieldType} {n i sl : Nat} {f f' : Nat → Value} {v : Value} {ws : List Addr}
/-- an array of n components, the i-th holds f i -/
def AF (Z : State) (h : Heap) (a : Addr) (ty : FieldType) (n : Nat) (f : Nat → Value) : Prop := ∃ cl : Cell, Arr Z h a cl ty ∧ cl.slots.size = n ∧ ∀ i, i < n → cl.slots[i]? = some (f i)
theorem AF.lt (F : AF Z h a ty n f) : a < h.size := by obtain ⟨cl, A, -⟩ := F; exact A.lt
theorem AF.ext (F : AF Z h a ty n f) (E : Ext h h') : AF Z h' a ty n f := by obtain ⟨cl, A, r⟩ := F; exact ⟨cl, A.ext E, r⟩
theorem AF.other (F : AF Z h a ty n f) (W : Wr h h' b sl v) (q : a ≠ b) : AF Z h' a ty n f := by obtain ⟨cl, A, r⟩ := F; exact ⟨cl, A.other W q, r⟩
theorem AF.keep (F : AF Z h a ty n f) (K : Keep h h' ws) (q : a ∉ ws) : AF Z h' a ty n f := by obtain ⟨cl, A, r⟩ := F; exact ⟨cl, ⟨K.2.1 a cl A.1 q, A.2⟩, r⟩
theorem AF.congr (F : AF Z h a ty n f) (q : ∀ i, i < n → f i = f' i) : AF Z h a ty n f' := by obtain ⟨cl, A, r, g⟩ := F; exact ⟨cl, A, r, fun i hi => by rw [g i hi, q i hi]⟩
/-- f, but v at i -/
def upd (f : Nat → Value) (i : Nat) (v : Value) : Nat → Value := fun j => if j = i then v else f j
theorem AF.wr (F : AF Z h a ty n f) (W : Wr h h' a i v) : AF Z h' a ty n (upd f i v) := by
  obtain ⟨cl, A, r, g⟩ := F
  refine ⟨_, A.same W, by simp [Cell.setSlot, r], fun j hj => ?_⟩
  by_cases q : j = i
  · subst q; simp [Cell.setSlot, upd, r, hj]
  · show _ = some (if j = i then v else f j)
    rw [if_neg q, ← g j hj]
    simp [Cell.setSlot, Array.getElem?_setIfInBounds, Ne.symm q]
theorem AF.new {k : ClassId} {z : Int32} (A : Arr Z h a (newA k ty z) ty) (q : z.toNatClampNeg = n) : AF Z h a ty n (fun _ => defaultValue ty) := ⟨_, A, by rw [sz_new]; exact q, fun i hi => by simp [newA, q, hi]⟩
theorem clampN (h : n < 2147483648) : (Int32.ofNat n).toNatClampNeg = n := by
  show (Int32.ofNat n).toInt.toNat = n
  rw [Int32.toInt_ofNat_small h]; rfl
theorem nnN (h : n < 2147483648) : ¬ Int32.ofNat n < 0 := by rw [Int32.lt_iff_toInt_lt, Int32.toInt_ofNat_small h, Int32.toInt_zero]; omega
theorem inN {cl : Cell} (hs : cl.slots.size = n) (hi : i < n) (hn : n < 2147483648) : ¬ (Int32.ofNat i < 0 ∨ cl.slots.size ≤ (Int32.ofNat i).toNatClampNeg) := by
  rw [clampN (by omega), hs]
  exact fun q => q.elim (nnN (by omega)) (fun q => absurd q (by omega))
theorem ldCh (X : Stand p l e R s m args below meth c T locs cells slots) (hx : p.tables.exec = Jvm.exec) (hZ : Z.Warmed39 s.vm) (eT : T.heap = h) (F : AF Z h a .char n f) (hi : i < n) (hn : n < 2147483648) (hv : f i = v) {g : JFrame} (hg : g.method = m) {rest : List Value} (hs : g.stack = .int (Int32.ofNat i) :: .ref a :: rest) (hd : decode c.code g.pc = .ok (.caload, 1)) {target : State}
    (hr : Steps p.tables e below (T.setTop { g with pc := g.pc + 1, stack := v :: rest }) target) : Steps p.tables e below (T.setTop g) target := by
  subst hv
  obtain ⟨cl, A, r, q⟩ := F
  exact X.caload hx (by rw [eT]; exact A.1) (State.isArrayOf_alike hZ.alike A.2.1) A.2.2 (inN r hi hn) (by rw [clampN (by omega)]; exact q i hi) hg hs hd _ hr
theorem ldBy (X : Stand p l e R s m args below meth c T locs cells slots) (hx : p.tables.exec = Jvm.exec) (hZ : Z.Warmed39 s.vm) (eT : T.heap = h) (F : AF Z h a .byte n f) (hi : i < n) (hn : n < 2147483648) (hv : f i = v) {g : JFrame} (hg : g.method = m) {rest : List Value} (hs : g.stack = .int (Int32.ofNat i) :: .ref a :: rest) (hd : decode c.code g.pc = .ok (.baload, 1)) {target : State}
    (hr : Steps p.tables e below (T.setTop { g with pc := g.pc + 1, stack := v :: rest }) target) : Steps p.tables e below (T.setTop g) target := by
  subst hv
  obtain ⟨cl, A, r, q⟩ := F
  exact X.baloadBytes hx (by rw [eT]; exact A.1) (State.isArrayOf_alike hZ.alike A.2.1) A.2.2 (inN r hi hn) (by rw [clampN (by omega)]; exact q i hi) hg hs hd _ hr
theorem lenA (X : Stand p l e R s m args below meth c T locs cells slots) (hx : p.tables.exec = Jvm.exec) (hZ : Z.Warmed39 s.vm) (eT : T.heap = h) (F : AF Z h a ty n f) {g : JFrame} (hg : g.method = m) {rest : List Value} (hs : g.stack = .ref a :: rest) (hd : decode c.code g.pc = .ok (.arraylength, 1)) {target : State}
    (hr : Steps p.tables e below (T.setTop { g with pc := g.pc + 1, stack := .int (Int32.ofNat n) :: rest }) target) : Steps p.tables e below (T.setTop g) target := by
  obtain ⟨cl, A, r, q⟩ := F
  refine X.arraylength hx (by rw [eT]; exact A.1) (State.isArrayOf_alike hZ.alike A.2.1) hg hs hd _ ?_
  rw [r]
  exact hr
theorem stBy (X : Stand p l e R s m args below meth c T locs cells slots) (hx : p.tables.exec = Jvm.exec) (hZ : Z.Warmed39 s.vm) (eT : T.heap = h) (F : AF Z h a .byte n f) (hi : i < n) (hn : n < 2147483648) {x : Int32} {g : JFrame} (hg : g.method = m) {rest : List Value} (hs : g.stack = .int x :: .int (Int32.ofNat i) :: .ref a :: rest) (hd : decode c.code g.pc = .ok (.bastore, 1)) :
    ∃ T' h', Stand p l e R s m args below meth c T' (locs ++ [⟨a, i⟩]) cells slots ∧ T'.heap = h' ∧ Wr h h' a i (.int (nar .byte x)) ∧ ∀ target, Steps p.tables e below (T'.setTop { g with pc := g.pc + 1, stack := rest }) target → Steps p.tables e below (T.setTop g) target := by
  obtain ⟨cl, A, r, q⟩ := F
  obtain ⟨T', h', X', e', W', st⟩ := stB X hx hZ eT A (inN r hi hn) hg hs hd
  rw [clampN (by omega)] at X' W'
  exact ⟨T', h', X', e', W', st⟩
theorem stCh (X : Stand p l e R s m args below meth c T locs cells slots) (hx : p.tables.exec = Jvm.exec) (hZ : Z.Warmed39 s.vm) (eT : T.heap = h) (F : AF Z h a .char n f) (hi : i < n) (hn : n < 2147483648) {x : Int32} {g : JFrame} (hg : g.method = m) {rest : List Value} (hs : g.stack = .int x :: .int (Int32.ofNat i) :: .ref a :: rest) (hd : decode c.code g.pc = .ok (.castore, 1)) :
    ∃ T' h', Stand p l e R s m args below meth c T' (locs ++ [⟨a, i⟩]) cells slots ∧ T'.heap = h' ∧ Wr h h' a i (.int (nar .char x)) ∧ ∀ target, Steps p.tables e below (T'.setTop { g with pc := g.pc + 1, stack := rest }) target → Steps p.tables e below (T.setTop g) target := by
  obtain ⟨cl, A, r, q⟩ := F
  obtain ⟨T', h', X', e', W', st⟩ := stC X hx hZ eT A (inN r hi hn) hg hs hd
  rw [clampN (by omega)] at X' W'
  exact ⟨T', h', X', e', W', st⟩
theorem nwA (X : Stand p l e R s m args below meth c T locs cells slots) (hx : p.tables.exec = Jvm.exec) (hZ : Z.Warmed39 s.vm) {aty : ArrayType} (w : (Cond.arrayClass (newarray.typeOf aty)).before a0 Z = true) (eT : T.heap = h) {g : JFrame} (hg : g.method = m) (hd : decode c.code g.pc = .ok (.newarray aty, 2)) {rest : List Value} (hs : g.stack = .int (Int32.ofNat n) :: rest)
    {cap : Nat} (hcap : n ≤ cap) (hb : cap * 8 ≤ 536870912) (hc : cells + 1 ≤ R.cells) (hl : slots + cap ≤ R.slots) :
    ∃ T' h', Stand p l e R s m args below meth c T' locs (cells + 1) (slots + cap) ∧ T'.heap = h' ∧ Ext h h' ∧ AF Z h' h.size (newarray.typeOf aty) n (fun _ => defaultValue (newarray.typeOf aty)) ∧
      ∀ target, Steps p.tables e below (T'.setTop { g with pc := g.pc + 2, stack := .ref h.size :: rest }) target → Steps p.tables e below (T.setTop g) target := by
  obtain ⟨T', h', cA, X', e', E', A', st⟩ := newP X hx hZ w eT hg hd hs (nnN (by omega)) (cap := cap) (by rw [clampN (by omega)]; exact hcap) hb hc hl
  exact ⟨T', h', X', e', E', AF.new A' (clampN (by omega)), st⟩
theorem shl1N (h : i < 1073741824) : (Int32.ofNat i) <<< ((1 : Int32) &&& 31) = Int32.ofNat (2 * i) := by
  refine Int32.toInt_inj.mp ?_
  rw [Jvm.Kit.i32_shl _ _ (k := 1) (by decide) (by rw [Int32.toInt_ofNat_small (by omega)]; omega) (by rw [Int32.toInt_ofNat_small (by omega)]; omega), Int32.toInt_ofNat_small (by omega), Int32.toInt_ofNat_small (by omega)]
  omega
theorem shr1N (h : i < 1073741824) : (Int32.ofNat (2 * i)) >>> ((1 : Int32) &&& 31) = Int32.ofNat i := by
  refine Int32.toInt_inj.mp ?_
  rw [Jvm.Kit.i32_shr _ _ (k := 1) (by decide), Int32.toInt_ofNat_small (by omega), Int32.toInt_ofNat_small (by omega)]
  omega
theorem succN (i : Nat) : Int32.ofNat i + (1 : Int32) = Int32.ofNat (i + 1) := Int32.ofNat_succ i
theorem ltN (h1 : i < 2147483648) (h2 : n < 2147483648) : Int32.ofNat i < Int32.ofNat n ↔ i < n := by rw [Int32.lt_iff_toInt_lt, Int32.toInt_ofNat_small h1, Int32.toInt_ofNat_small h2]; omega
end StrKit

/-- a Java char as an int -/
def isCh (x : Int32) : Prop := 0 ≤ x.toInt ∧ x.toInt < 65536
def isB (x : Int32) : Prop := 0 ≤ x.toInt ∧ x.toInt < 256
def b8 (x : Int32) : Int32 := nar .byte (x.toInt8.toInt32)
def lo8 (x : Int32) : Int32 := b8 (x >>> ((0 : Int32) &&& 31))
def hi8 (x : Int32) : Int32 := b8 (x >>> ((8 : Int32) &&& 31))
def l16 (x : Int32) : Int32 := (x &&& (255 : Int32)).toUInt32.toUInt16.toUInt32.toInt32
def u16 (x y : Int32) : Int32 := (((x &&& (255 : Int32)) <<< ((0 : Int32) &&& 31)) ||| ((y &&& (255 : Int32)) <<< ((8 : Int32) &&& 31))).toUInt32.toUInt16.toUInt32.toInt32
theorem b8_mod (x : Int32) : ((b8 x).toInt - x.toInt) % 256 = 0 := by
  have h1 := (c_i2b x).1
  have h2 := (c_i2b (x.toInt8.toInt32)).1
  show ((x.toInt8.toInt32).toInt8.toInt32.toInt - x.toInt) % 256 = 0
  omega
theorem m255 (x : Int32) : (x &&& (255 : Int32)).toInt = x.toInt % 256 := by rw [c_mask x 255 8 (by decide) (by decide)]; rfl
theorem nar_ch (x : Int32) : isCh (nar .char x) := (c_i2c x).2
theorem i2c_eq {x : Int32} (h : isCh x) : x.toUInt32.toUInt16.toUInt32.toInt32 = x := by
  have q := c_i2c x
  refine Int32.toInt_inj.mp ?_
  have := h.1; have := h.2
  omega
theorem nar_id {x : Int32} (h : isCh x) : nar .char x = x := i2c_eq h
theorem l16_eq {x : Int32} (h : isB x) : l16 (b8 x) = x := by
  have q := b8_mod x
  have r := m255 (b8 x)
  have := h.1; have := h.2
  have e : (b8 x &&& (255 : Int32)) = x := Int32.toInt_inj.mp (by omega)
  unfold l16
  rw [e]
  exact i2c_eq ⟨by omega, by omega⟩
theorem l16_ch (x : Int32) : isCh (l16 x) := (c_i2c _).2
theorem u16_ch (x y : Int32) : isCh (u16 x y) := (c_i2c _).2
theorem u16_eq {x : Int32} (h : isCh x) : u16 (lo8 x) (hi8 x) = x := by
  have := h.1; have := h.2
  have q0 := b8_mod (x >>> ((0 : Int32) &&& 31))
  have q8 := b8_mod (x >>> ((8 : Int32) &&& 31))
  rw [c_ishr x 0 0 (by decide)] at q0
  rw [c_ishr x 8 8 (by decide)] at q8
  have r0 := m255 (lo8 x)
  have r8 := m255 (hi8 x)
  have s0 := c_ishl (lo8 x &&& (255 : Int32)) 0 0 (by decide)
  have s8 := c_ishl (hi8 x &&& (255 : Int32)) 8 8 (by decide)
  have b1 := (lo8 x &&& (255 : Int32)) <<< ((0 : Int32) &&& 31) |>.toInt_lt
  have b2 := (lo8 x &&& (255 : Int32)) <<< ((0 : Int32) &&& 31) |>.le_toInt
  have b3 := (hi8 x &&& (255 : Int32)) <<< ((8 : Int32) &&& 31) |>.toInt_lt
  have b4 := (hi8 x &&& (255 : Int32)) <<< ((8 : Int32) &&& 31) |>.le_toInt
  have t := c_or' ((lo8 x &&& (255 : Int32)) <<< ((0 : Int32) &&& 31)) ((hi8 x &&& (255 : Int32)) <<< ((8 : Int32) &&& 31)) 8 (by decide) 256 (by decide)
  have b5 := (((lo8 x &&& (255 : Int32)) <<< ((0 : Int32) &&& 31)) ||| ((hi8 x &&& (255 : Int32)) <<< ((8 : Int32) &&& 31))).toInt_lt
  have b6 := (((lo8 x &&& (255 : Int32)) <<< ((0 : Int32) &&& 31)) ||| ((hi8 x &&& (255 : Int32)) <<< ((8 : Int32) &&& 31))).le_toInt
  change ((lo8 x).toInt - _) % 256 = 0 at q0
  change ((hi8 x).toInt - _) % 256 = 0 at q8
  have e : (((lo8 x &&& (255 : Int32)) <<< ((0 : Int32) &&& 31)) ||| ((hi8 x &&& (255 : Int32)) <<< ((8 : Int32) &&& 31))) = x := by
    refine Int32.toInt_inj.mp ?_
    generalize (lo8 x &&& (255 : Int32)) <<< ((0 : Int32) &&& 31) = A at *
    generalize (hi8 x &&& (255 : Int32)) <<< ((8 : Int32) &&& 31) = B at *
    simp only [Nat.pow_zero, Int.natCast_one, Int.mul_one, Int.ediv_one] at *
    have e8 : ((2 ^ 8 : Nat) : Int) = 256 := by decide
    rw [e8] at *
    have tt := t (by omega) (by omega) (by omega)
    omega
  unfold u16
  rw [e]
  exact i2c_eq h
theorem codA (n : Nat) : (((Int32.ofNat n) - (Int32.ofNat n)).toUInt32 >>> ((31 : Int32) &&& 31).toUInt32).toInt32.toInt8.toInt32 = (0 : Int32) := by
  rw [show Int32.ofNat n - Int32.ofNat n = 0 from Int32.sub_self _]
  decide
theorem codB {n : Nat} (hp : 0 < n) (h : 2 * n < 2147483648) : (((Int32.ofNat n) - (Int32.ofNat (2 * n))).toUInt32 >>> ((31 : Int32) &&& 31).toUInt32).toInt32.toInt8.toInt32 = (1 : Int32) := by
  have e : ((((Int32.ofNat n) - (Int32.ofNat (2 * n))).toUInt32 >>> ((31 : Int32) &&& 31).toUInt32).toInt32) = (1 : Int32) := by
    refine Int32.toInt_inj.mp ?_
    rw [c_iushr _ 31 31 (by decide) (by decide)]
    have q := c_isub (Int32.ofNat n) (Int32.ofNat (2 * n))
    rw [Int32.toInt_ofNat_small (by omega), Int32.toInt_ofNat_small (by omega)] at q
    have h1 := ((Int32.ofNat n) - (Int32.ofNat (2 * n))).toInt_lt
    have h2 := ((Int32.ofNat n) - (Int32.ofNat (2 * n))).le_toInt
    have e31 : ((2 ^ 31 : Nat) : Int) = 2147483648 := by decide
    rw [e31, show (1 : Int32).toInt = 1 from rfl]
    omega
  rw [e]
  decide
theorem smB {x : Int32} (h : isCh x) (q : ¬ ((255 : Int32) < x)) : isB x := by
  rw [Int32.lt_iff_toInt_lt, show (255 : Int32).toInt = 255 from rfl] at q
  exact ⟨h.1, by omega⟩
theorem isCh_of {x : Int32} (h : isB x) : isCh x := ⟨h.1, by have := h.2; omega⟩
theorem firstBig (g : Nat → Int32) : ∀ n : Nat, (∀ j, j < n → ¬ ((255 : Int32) < g j)) ∨ ∃ k, k < n ∧ (255 : Int32) < g k ∧ ∀ j, j < k → ¬ ((255 : Int32) < g j)
  | 0 => Or.inl fun j hj => absurd hj (Nat.not_lt_zero _)
  | n + 1 => by
    rcases firstBig g n with h | ⟨k, h1, h2, h3⟩
    · by_cases q : (255 : Int32) < g n
      · exact Or.inr ⟨n, Nat.lt_succ_self _, q, h⟩
      · exact Or.inl fun j hj => by
          by_cases r : j = n
          · rw [r]; exact q
          · exact h j (by omega)
    · exact Or.inr ⟨k, by omega, h2, h3⟩
theorem shr0 (x : Int32) : x >>> ((0 : Int32) &&& 31) = x := by
  refine Int32.toInt_inj.mp ?_
  rw [c_ishr x 0 0 (by decide)]
  exact Int.ediv_one _

/-- the statics that the String bodies read, as they stood when the law began -/
def StrSta (Z : State) : Prop := (∃ k : Int32, ¬ (k = (0 : Int32)) ∧ Sta Z Z.heap "java/lang/String" "COMPACT_STRINGS" "Z" (.int k)) ∧
  (Sta Z Z.heap "jdk/internal/util/Preconditions" "SIOOBE_FORMATTER" "Ljava/util/function/BiFunction;" .null ∨ ∃ a : Addr, Sta Z Z.heap "jdk/internal/util/Preconditions" "SIOOBE_FORMATTER" "Ljava/util/function/BiFunction;" (.ref a))
def Ca (g : Nat → Int32) : Nat → Value := fun j => .int (g j)
def Lb (g : Nat → Int32) : Nat → Value := fun j => .int (b8 (g j))
def Ub (g : Nat → Int32) : Nat → Value := fun j => .int (if j % 2 = 0 then lo8 (g (j / 2)) else hi8 (g (j / 2)))
theorem Ub_lo (g : Nat → Int32) (i : Nat) : Ub g (2 * i) = .int (lo8 (g i)) := by unfold Ub; rw [if_pos (by omega), show 2 * i / 2 = i by omega]
theorem Ub_hi (g : Nat → Int32) (i : Nat) : Ub g (2 * i + 1) = .int (hi8 (g i)) := by unfold Ub; rw [if_neg (by omega), show (2 * i + 1) / 2 = i by omega]
def QI (r : Int32) (h0 : Heap) (n0 : Nat) (v : Option Value) (h : Heap) (L : List Loc) : Prop := v = some (.int r) ∧ Fr n0 L ∧ h = h0
def QN (h0 : Heap) (n0 : Nat) (v : Option Value) (h : Heap) (L : List Loc) : Prop := v = none ∧ Fr n0 L ∧ h = h0
def QA (Z : State) (ty : FieldType) (n : Nat) (f : Nat → Value) (h0 : Heap) (n0 : Nat) (v : Option Value) (h : Heap) (L : List Loc) : Prop := ∃ b : Addr, v = some (.ref b) ∧ Fr n0 L ∧ Keep h0 h [] ∧ h0.size ≤ b ∧ AF Z h b ty n f
def QK (Z : State) (b : Addr) (ty : FieldType) (n : Nat) (f : Nat → Value) (h0 : Heap) (n0 : Nat) (v : Option Value) (h : Heap) (L : List Loc) : Prop := v = none ∧ Fr n0 L ∧ Keep h0 h [b] ∧ AF Z h b ty n f
def QR (Z : State) (r : Int32) (b : Addr) (ty : FieldType) (n : Nat) (P : (Nat → Value) → Prop) (h0 : Heap) (n0 : Nat) (v : Option Value) (h : Heap) (L : List Loc) : Prop := v = some (.int r) ∧ Fr n0 L ∧ Keep h0 h [b] ∧ ∃ f, AF Z h b ty n f ∧ P f
theorem notin0 {a b : Addr} (q : a ≠ b) : a ∉ [b] := fun r => q (List.mem_singleton.mp r)
/-- a compact String of n bytes, the j-th is w j -/
def StrV (Z : State) (h : Heap) (a : Addr) (n : Nat) (w : Nat → Value) : Prop := Exa Z h a "java/lang/String" ∧ ∃ b : Addr, Fld Z h a "java/lang/String" "value" "[B" (.ref b) ∧ Fld Z h a "java/lang/String" "coder" "B" (.int (0 : Int32)) ∧ AF Z h b .byte n w
theorem StrV.lt {Z : State} {h : Heap} {a : Addr} {n : Nat} {w : Nat → Value} (S : StrV Z h a n w) : a < h.size := S.1.lt
theorem StrV.ext {Z : State} {h h' : Heap} {a : Addr} {n : Nat} {w : Nat → Value} (S : StrV Z h a n w) (E : Ext h h') : StrV Z h' a n w := by
  obtain ⟨X, b, V, C, A⟩ := S
  exact ⟨X.ext E, b, V.ext E, C.ext E, A.ext E⟩
theorem StrV.keep {Z : State} {h h' : Heap} {a : Addr} {n : Nat} {w : Nat → Value} (S : StrV Z h a n w) (K : Keep h h' []) : StrV Z h' a n w := by
  obtain ⟨X, b, V, C, A⟩ := S
  exact ⟨X.keep K, b, V.keep K (List.not_mem_nil), C.keep K (List.not_mem_nil), A.keep K (List.not_mem_nil)⟩
/-- .. where the writes went to cells that were not there yet -/
theorem StrV.keepN {Z : State} {h h' : Heap} {a o : Addr} {n : Nat} {w : Nat → Value} (S : StrV Z h a n w) (K : Keep h h' [o]) (hao : a ≠ o) (hbo : ∀ b : Addr, ¬ AF Z h o .byte n w) : StrV Z h' a n w := by
  obtain ⟨X, b, V, C, A⟩ := S
  have q : b ≠ o := fun e => hbo b (e ▸ A)
  exact ⟨X.keep K, b, V.keep K (notin0 hao), C.keep K (notin0 hao), A.keep K (notin0 q)⟩
theorem StrV.congr {Z : State} {h : Heap} {a : Addr} {n : Nat} {w w' : Nat → Value} (S : StrV Z h a n w) (q : ∀ j, j < n → w j = w' j) : StrV Z h a n w' := by
  obtain ⟨X, b, V, C, A⟩ := S
  exact ⟨X, b, V, C, A.congr q⟩
def Str (Z : State) (h : Heap) (a : Addr) (n : Nat) (g : Nat → Int32) : Prop := StrV Z h a n (Lb g)
def QS (Z : State) (o : Addr) (n : Nat) (g : Nat → Int32) (h0 : Heap) (n0 : Nat) (v : Option Value) (h : Heap) (L : List Loc) : Prop := v = none ∧ Fr n0 L ∧ Keep h0 h [o] ∧ Str Z h o n g
theorem notin1 {a b : Addr} (q : a ≠ b) : a ∉ [b] := fun r => q (List.mem_singleton.mp r)
theorem all1 {n0 : Nat} {b : Addr} (q : n0 ≤ b) : ∀ x ∈ [b], n0 ≤ x := fun x r => by cases List.mem_singleton.mp r; exact q
theorem all0' {n0 : Nat} : ∀ x ∈ ([] : List Addr), n0 ≤ x := fun x r => absurd r List.not_mem_nil
def QRf (r : Addr) (h0 : Heap) (n0 : Nat) (v : Option Value) (h : Heap) (L : List Loc) : Prop := v = some (.ref r) ∧ Fr n0 L ∧ h = h0
/-- a String comes back -/
def QV (Z : State) (n : Nat) (w : Nat → Value) (h0 : Heap) (n0 : Nat) (v : Option Value) (h : Heap) (L : List Loc) : Prop := ∃ o : Addr, v = some (.ref o) ∧ Fr n0 L ∧ Keep h0 h [] ∧ StrV Z h o n w
def QSV (Z : State) (o : Addr) (n : Nat) (w : Nat → Value) (h0 : Heap) (n0 : Nat) (v : Option Value) (h : Heap) (L : List Loc) : Prop := v = none ∧ Fr n0 L ∧ Keep h0 h [o] ∧ StrV Z h o n w
theorem subN {n m : Nat} (h : m ≤ n) (hn : n < 2147483648) : Int32.ofNat n - Int32.ofNat m = Int32.ofNat (n - m) := by
  refine Int32.toInt_inj.mp ?_
  have q := c_isub (Int32.ofNat n) (Int32.ofNat m)
  rw [Int32.toInt_ofNat_small (by omega), Int32.toInt_ofNat_small (by omega)] at q
  have h1 := (Int32.ofNat n - Int32.ofNat m).toInt_lt
  have h2 := (Int32.ofNat n - Int32.ofNat m).le_toInt
  rw [Int32.toInt_ofNat_small (by omega)]
  omega
theorem neN {n m : Nat} (h : n ≠ m) (hn : n < 2147483648) (hm : m < 2147483648) : ¬ (Int32.ofNat n = Int32.ofNat m) := fun q => by
  have q := congrArg Int32.toInt q
  rw [Int32.toInt_ofNat_small hn, Int32.toInt_ofNat_small hm] at q
  omega

/-- a String that is being made (its value is null yet) is no booked one -/
theorem safeNull {Z : State} {EL : List (String × Nat)} {vm : Vm} {h : Heap} {x : Addr} (hal : Z.vm.Alike vm) (E : Exa Z h x "java/lang/String") (G : Fld Z h x "java/lang/String" "value" "[B" .null) : Safe Z EL vm h x := fun B => by
  obtain ⟨cell, k, e1, e2, e3, -, -⟩ := E
  obtain ⟨p, -, u, a, -, q, -, F, rfl | rfl⟩ := B
  · cases (show h[q.sa]? = some q.sC from F.ha).symm.trans e1
    obtain ⟨cS, ⟨⟨s1, s2, s3, ⟨cv, kv, iv, s4, s4'⟩, s5, s6, s7, s8, sr⟩, f, e⟩, -⟩ := F
    obtain ⟨kv', z4⟩ := ff_back (U := Wst Z vm h) hal s4
    obtain ⟨c1, cf, k1, i1, f1, g1, g2, -, -, -, -, g7⟩ := G
    cases g1.symm.trans e1
    have e5 := z4.symm.trans g2
    simp only [Option.some.injEq, Prod.mk.injEq] at e5
    rw [e5.2.2.2] at s8
    cases s8.symm.trans g7
  · cases (show h[q.sd]? = some q.SA from F.hd).symm.trans e1
    obtain ⟨cS, -, -, f, -⟩ := F
    have f : vm.findClass "[B" = some q.SA.cls := f
    rw [hal.findClass] at f
    obtain ⟨k1, q1, q2⟩ := Vm.findClass_spec f
    obtain ⟨k2, q3, q4⟩ := Vm.findClass_spec e2
    cases q1.symm.trans q3
    exact absurd (q2.symm.trans q4) (by decide)
theorem AF.empty {Z : State} {h : Heap} {a : Addr} {k : ClassId} {ty : FieldType} {z : Int32} {dv : Value} (A : Arv Z h a k ty z [] dv) (hz : z.toNatClampNeg = 0) (f : Nat → Value) : AF Z h a ty 0 f := by
  obtain ⟨cl, Ar, -, S, -⟩ := A
  exact ⟨cl, Ar, by rw [S, hz], fun i hi => absurd hi (Nat.not_lt_zero _)⟩

section CopyKit
variable {p : Program} {l : Launch} {e : Env} {R : Room} {s : State} {m : MethodId} {args : Array Value} {below : List Frame} {meth : Method} {c : Code} {T : State} {locs : List Loc} {cells slots : Nat} {Z : State} {a0 : Array Value} {h h' : Heap} {a b : Addr} {ty : FieldType} {n i : Nat} {f f' : Nat → Value} {v : Value}
theorem getD_range (f : Nat → Value) (n j : Nat) (dv : Value) (hj : j < n) : ((List.range n).map f).getD j dv = f j := by
  simp [List.getD, hj]
theorem AF.arv (F : AF Z h a ty n f) (hn : n < 2147483648) (dv : Value) (hf : ∀ j, j < n → fits ty (f j) = true) : ∃ k, Arv Z h a k ty (Int32.ofNat n) ((List.range n).map f) dv := by
  obtain ⟨cl, A, r, g⟩ := F
  refine ⟨cl.cls, cl, A, rfl, by rw [r, clampN hn], nnN hn, fun j hj => ?_, fun j hj => ?_⟩
  · rw [r] at hj; rw [g j hj, getD_range f n j dv hj]
  · rw [r] at hj; rw [getD_range f n j dv hj]; exact hf j hj
theorem afOf {k : ClassId} {z : Int32} {vs : List Value} {dv : Value} (F : Arv Z h a k ty z vs dv) (hz : z.toNatClampNeg = n) : AF Z h a ty n (fun j => vs.getD j dv) := by
  obtain ⟨cl, A, -, S, -, H, -⟩ := F
  exact ⟨cl, A, by rw [S, hz], fun j hj => H j (by rw [S, hz]; exact hj)⟩
/-- System.arraycopy of k components, from the start of a to the start of b -/
theorem cpF (X : Stand p l e R s m args below meth c T locs cells slots) (hx : p.tables.exec = Jvm.exec) (hZ : Z.Warmed39 s.vm) {own : String} {index : Nat} (hown : s.vm.findClass own = some m.cls)
    (w1 : (Cond.methodLink own index Jvm.Stand.acN).before a0 Z = true) (w2 : (Cond.native Jvm.Stand.acN).before a0 Z = true) (w3 : (Cond.static Jvm.Stand.acN).before a0 Z = true) (w4 : (Cond.initialized "java/lang/System").before a0 Z = true) (eT : T.heap = h)
    {k na nb : Nat} (A : AF Z h a ty na f) (B : AF Z h b ty nb f') (hty : refKind ty = false) (ha : na < 2147483648) (hb : nb < 2147483648) (h4 : k ≤ na) (h5 : k ≤ nb) (hf : ∀ j, j < na → fits ty (f j) = true) (hf' : ∀ j, j < nb → fits ty (f' j) = true) {n0 : Nat} (N : Fr n0 locs) (ge : n0 ≤ b)
    {g : JFrame} (hg : g.method = m) (hsize : g.locals.size = c.maxLocals) {rest : List Value} (hs : g.stack = .int (Int32.ofNat k) :: .int (0 : Int32) :: .ref b :: .int (0 : Int32) :: .ref a :: rest) (hd : decode c.code g.pc = .ok (.invokestatic index, 3))
    (hfr : 1 ≤ R.frames) {W : Nat} (hW : 2 * g.monitorRoom + (rest.map fun v => v.category).sum ≤ W) (hlo : W + (nativeFrameWords "java/lang/System" "arraycopy" 5 + 11) ≤ R.locals) :
    ∃ T' h' L, Stand p l e R s m args below meth c T' L cells slots ∧ T'.heap = h' ∧ Fr n0 L ∧ Keep h h' [b] ∧ AF Z h' b ty nb (fun j => if j < k then f j else f' j) ∧
      ∀ target, Steps p.tables e below (T'.setTop { g with pc := g.pc + 3, stack := rest }) target → Steps p.tables e below (T.setTop g) target := by
  obtain ⟨ka, VA⟩ := A.arv ha .null hf
  obtain ⟨kb, VB⟩ := B.arv hb .null hf'
  have ck : (Int32.ofNat k).toNatClampNeg = k := clampN (by omega)
  have c0 : (0 : Int32).toNatClampNeg = 0 := rfl
  obtain ⟨T', h', L, X', e', N', K', V', st⟩ := cpA X hx hZ hown w1 w2 w3 w4 eT VA VB (Or.inl ⟨rfl, hty⟩) (sp := 0) (dp := 0) (nn := Int32.ofNat k) (by decide) (by decide) (nnN (by omega)) (by rw [c0, ck, clampN ha]; omega) (by rw [c0, ck, clampN hb]; omega) rfl (by rw [c0, ck, List.length_map, List.length_range]; omega) N ge hg hsize hs hd hfr hW hlo
  refine ⟨T', h', L, X', e', N', K', (afOf V' (clampN hb)).congr fun j hj => ?_, st⟩
  rw [c0, ck]
  simp only [List.take_zero, List.nil_append, Nat.zero_add]
  by_cases q : j < k
  · rw [if_pos q]
    simp only [List.getD]
    rw [List.getElem?_append_left (by simp [q])]
    simp [q, show j < na by omega]
  · rw [if_neg q]
    simp only [List.getD]
    rw [List.getElem?_append_right (by simp; omega)]
    simp [show k + (j - k) = j by omega, hj]
end CopyKit

theorem pd_0 : parseMethodDescriptor "(I)Lcom/example/trestle/trestle/ResourceKind;" = some ⟨[.int], some (.object "com/example/trestle/trestle/ResourceKind")⟩ := by decide +kernel
theorem pd_1 : parseMethodDescriptor "(ICCC)Ljava/lang/String;" = some ⟨[.int, .char, .char, .char], some (.object "java/lang/String")⟩ := by decide +kernel
theorem pd_2 : parseMethodDescriptor "([C)V" = some ⟨[(.array .char)], none⟩ := by decide +kernel
theorem pd_3 : parseMethodDescriptor "([CIILjava/lang/Void;)V" = some ⟨[(.array .char), .int, .int, (.object "java/lang/Void")], none⟩ := by decide +kernel
theorem pd_4 : parseMethodDescriptor "()V" = some ⟨[], none⟩ := by decide +kernel
theorem pd_5 : parseMethodDescriptor "([CII)[B" = some ⟨[(.array .char), .int, .int], some (.array .byte)⟩ := by decide +kernel
theorem pd_6 : parseMethodDescriptor "([CI[BII)I" = some ⟨[(.array .char), .int, (.array .byte), .int, .int], some .int⟩ := by decide +kernel
theorem pd_7 : parseMethodDescriptor "([BI)B" = some ⟨[(.array .byte), .int], some .byte⟩ := by decide +kernel
theorem pd_8 : parseMethodDescriptor "(Ljava/lang/String;)Ljava/lang/String;" = some ⟨[(.object "java/lang/String")], some (.object "java/lang/String")⟩ := by decide +kernel
theorem pd_9 : parseMethodDescriptor "()I" = some ⟨[], some .int⟩ := by decide +kernel
theorem pd_10 : parseMethodDescriptor "()B" = some ⟨[], some .byte⟩ := by decide +kernel
theorem pd_11 : parseMethodDescriptor "(II)Ljava/lang/String;" = some ⟨[.int, .int], some (.object "java/lang/String")⟩ := by decide +kernel
theorem pd_12 : parseMethodDescriptor "(III)V" = some ⟨[.int, .int, .int], none⟩ := by decide +kernel
theorem pd_13 : parseMethodDescriptor "(IIILjava/util/function/BiFunction;)I" = some ⟨[.int, .int, .int, (.object "java/util/function/BiFunction")], some .int⟩ := by decide +kernel
theorem pd_14 : parseMethodDescriptor "()Z" = some ⟨[], some .boolean⟩ := by decide +kernel
theorem pd_15 : parseMethodDescriptor "([BII)Ljava/lang/String;" = some ⟨[(.array .byte), .int, .int], some (.object "java/lang/String")⟩ := by decide +kernel
theorem pd_16 : parseMethodDescriptor "([BII)[B" = some ⟨[(.array .byte), .int, .int], some (.array .byte)⟩ := by decide +kernel
theorem pd_17 : parseMethodDescriptor "(II)V" = some ⟨[.int, .int], none⟩ := by decide +kernel
theorem pd_18 : parseMethodDescriptor "(II)I" = some ⟨[.int, .int], some .int⟩ := by decide +kernel
theorem pd_19 : parseMethodDescriptor "(Ljava/lang/Object;ILjava/lang/Object;II)V" = some ⟨[(.object "java/lang/Object"), .int, (.object "java/lang/Object"), .int, .int], none⟩ := by decide +kernel
theorem pd_20 : parseMethodDescriptor "([BB)V" = some ⟨[(.array .byte), .byte], none⟩ := by decide +kernel
theorem pd_21 : parseMethodDescriptor "(Ljava/lang/Object;)Z" = some ⟨[(.object "java/lang/Object")], some .boolean⟩ := by decide +kernel
theorem pd_22 : parseMethodDescriptor "([B[B)Z" = some ⟨[(.array .byte), (.array .byte)], some .boolean⟩ := by decide +kernel
theorem pd_23 : parseMethodDescriptor "(I)Ljava/lang/String;" = some ⟨[.int], some (.object "java/lang/String")⟩ := by decide +kernel
def EL1 : List (String × Nat) := [("com/example/trestle/trestle/ResourceKindIdPinLaw", 24), ("com/example/trestle/trestle/ResourceKindIdPinLaw", 58), ("com/example/trestle/trestle/ResourceKindIdPinLaw", 60), ("com/example/trestle/trestle/ResourceKindIdPinLaw", 62), ("com/example/trestle/trestle/ResourceKindIdPinLaw", 64), ("com/example/trestle/trestle/ResourceKindIdPinLaw", 66), ("com/example/trestle/trestle/ResourceKindIdPinLaw", 68), ("java/lang/StringLatin1", 151)]
theorem d7_0 : decode jdk_52_method_21_code 0 = .ok (.iconst 0, 1) := by decide +kernel
theorem d7_1 : decode jdk_52_method_21_code 1 = .ok (.istore 5, 2) := by decide +kernel
theorem d7_3 : decode jdk_52_method_21_code 3 = .ok (.iload 5, 2) := by decide +kernel
theorem d7_5 : decode jdk_52_method_21_code 5 = .ok (.iload 4, 2) := by decide +kernel
theorem d7_7 : decode jdk_52_method_21_code 7 = .ok (.if_icmp .ge 37, 3) := by decide +kernel
theorem d7_10 : decode jdk_52_method_21_code 10 = .ok (.aload_n 0, 1) := by decide +kernel
theorem d7_11 : decode jdk_52_method_21_code 11 = .ok (.iload_n 1, 1) := by decide +kernel
theorem d7_12 : decode jdk_52_method_21_code 12 = .ok (.caload, 1) := by decide +kernel
theorem d7_13 : decode jdk_52_method_21_code 13 = .ok (.istore 6, 2) := by decide +kernel
theorem d7_15 : decode jdk_52_method_21_code 15 = .ok (.iload 6, 2) := by decide +kernel
theorem d7_17 : decode jdk_52_method_21_code 17 = .ok (.sipush 255, 3) := by decide +kernel
theorem d7_20 : decode jdk_52_method_21_code 20 = .ok (.if_icmp .le 6, 3) := by decide +kernel
theorem d7_23 : decode jdk_52_method_21_code 23 = .ok (.iload 5, 2) := by decide +kernel
theorem d7_25 : decode jdk_52_method_21_code 25 = .ok (.ireturn, 1) := by decide +kernel
theorem d7_26 : decode jdk_52_method_21_code 26 = .ok (.aload_n 2, 1) := by decide +kernel
theorem d7_27 : decode jdk_52_method_21_code 27 = .ok (.iload_n 3, 1) := by decide +kernel
theorem d7_28 : decode jdk_52_method_21_code 28 = .ok (.iload 6, 2) := by decide +kernel
theorem d7_30 : decode jdk_52_method_21_code 30 = .ok (.i2b, 1) := by decide +kernel
theorem d7_31 : decode jdk_52_method_21_code 31 = .ok (.bastore, 1) := by decide +kernel
theorem d7_32 : decode jdk_52_method_21_code 32 = .ok (.iinc 1 1, 3) := by decide +kernel
theorem d7_35 : decode jdk_52_method_21_code 35 = .ok (.iinc 3 1, 3) := by decide +kernel
theorem d7_38 : decode jdk_52_method_21_code 38 = .ok (.iinc 5 1, 3) := by decide +kernel
theorem d7_41 : decode jdk_52_method_21_code 41 = .ok (.goto (-38), 3) := by decide +kernel
theorem d7_44 : decode jdk_52_method_21_code 44 = .ok (.iload 4, 2) := by decide +kernel
theorem d7_46 : decode jdk_52_method_21_code 46 = .ok (.ireturn, 1) := by decide +kernel
theorem pn_7 : plainName "java/lang/StringUTF16" = true := by first | (simp [plainName, overriddenIn]; done) | decide +kernel
theorem ef_7 (m : MethodId) (x0 : Addr) (x1 : Int32) (x2 : Addr) (x3 : Int32) (x4 : Int32) : entryFrame m #[(.ref x0), (.int x1), (.ref x2), (.int x3), (.int x4)] 7 = mkF m 0 #[.val (.ref x0), .val (.int x1), .val (.ref x2), .val (.int x3), .val (.int x4), .unset, .unset] [] := by first | (simp [entryFrame, mkF, argsToLocals, Value.category]; done) | rfl
set_option maxRecDepth 65536 in
set_option maxHeartbeats 40000000 in
theorem tnC5 {p : Program} {l : Launch} {e : Env} {R : Room} {s : State} {m : MethodId} {args : Array Value} {below : List Frame} {meth : Method} {c : Code} {T0 : State} {locs : List Loc} {cells slots : Nat} {Z : State} {a0 : Array Value} {h0 : Heap} {n0 : Nat} (a b : Addr) (i n : Nat) (g : Nat → Int32) (f : Nat → Value) (q : Slot) (hq : q = .unset ∨ ∃ x : Int32, q = .val (.int x)) (X0 : Stand p l e R s m args below meth c T0 locs cells slots) (hx : p.tables.exec = Jvm.exec) (hZ : Z.Warmed39 s.vm) (hw : ∀ d ∈ tables_1, d.before a0 Z = true) (hby : c.code = jdk_52_method_21_code) (hown : s.vm.findClass "java/lang/StringUTF16" = some m.cls) (e0 : T0.heap = h0) (Z0 : n0 ≤ h0.size) (N0 : Fr n0 locs) (hn : n ≤ 20) (hi : i < n) (FA : AF Z h0 a .char n (Ca g)) (FB : AF Z h0 b .byte n f) (hab : a ≠ b) (g_b : n0 ≤ b) (hsm : ¬ ((255 : Int32) < g i)) :
    ∃ (T' : State) (locs' : List Loc), Stand p l e R s m args below meth c T' locs' cells slots ∧ Fr n0 locs' ∧ Keep h0 T'.heap [b] ∧ AF Z T'.heap b .byte n (upd f i (.int (b8 (g i)))) ∧ ∀ target, Steps p.tables e below (T'.setTop (mkF m 3 #[.val (.ref a), .val (.int (Int32.ofNat (i + 1))), .val (.ref b), .val (.int (Int32.ofNat (i + 1))), .val (.int (Int32.ofNat n)), .val (.int (Int32.ofNat (i + 1))), .val (.int (g i))] [])) target → Steps p.tables e below (T0.setTop (mkF m 3 #[.val (.ref a), .val (.int (Int32.ofNat i)), .val (.ref b), .val (.int (Int32.ofNat i)), .val (.int (Int32.ofNat n)), .val (.int (Int32.ofNat i)), q] [])) target := by
  obtain ⟨T1, h1, X1, e1, W1, st1⟩ := stBy X0 hx hZ e0 FB (i := i) hi (by omega) (x := ((g i).toInt8.toInt32)) (g := (mkF m 31 #[.val (.ref a), .val (.int (Int32.ofNat i)), .val (.ref b), .val (.int (Int32.ofNat i)), .val (.int (Int32.ofNat n)), .val (.int (Int32.ofNat i)), .val (.int (g i))] [(.int ((g i).toInt8.toInt32)), (.int (Int32.ofNat i)), (.ref b)])) rfl rfl (hb hby d7_31)
  have A1 := FB.wr W1
  have FA_e1 := FA.other W1 hab
  have N1 := Fr.snoc X1 N0 g_b
  have K1 := (Keep.refl h0 [b]).wr W1 (Or.inl (List.mem_of_getElem? (i := 0) rfl))
  have Z1 : n0 ≤ h1.size := Nat.le_trans Z0 (Keep.of_wr W1).1
  refine ⟨_, _, X1, N1, by rw [e1]; exact K1, by rw [e1]; exact A1, fun target kt => ?_⟩
  show Steps p.tables e below (T0.setTop (mkF m 3 #[.val (.ref a), .val (.int (Int32.ofNat i)), .val (.ref b), .val (.int (Int32.ofNat i)), .val (.int (Int32.ofNat n)), .val (.int (Int32.ofNat i)), q] [])) _
  refine XS.iload X0.here hx rfl (hb hby d7_3) rfl ?_
  refine XS.iload X0.here hx rfl (hb hby d7_5) rfl ?_
  refine XS.icmpNo X0.here hx rfl (hb hby d7_7) rfl (tlt ((ltN (by omega) (by omega)).mpr hi)).2.1 ?_
  refine XS.aloadN X0.here hx rfl (hb hby d7_10) rfl rfl ?_
  refine XS.iloadN X0.here hx rfl (hb hby d7_11) rfl ?_
  show Steps p.tables e below (T0.setTop (mkF m 12 #[.val (.ref a), .val (.int (Int32.ofNat i)), .val (.ref b), .val (.int (Int32.ofNat i)), .val (.int (Int32.ofNat n)), .val (.int (Int32.ofNat i)), q] [(.int (Int32.ofNat i)), (.ref a)])) _
  refine ldCh X0 hx hZ e0 FA (i := i) hi (by omega) (v := (.int (g i))) rfl (g := (mkF m 12 #[.val (.ref a), .val (.int (Int32.ofNat i)), .val (.ref b), .val (.int (Int32.ofNat i)), .val (.int (Int32.ofNat n)), .val (.int (Int32.ofNat i)), q] [(.int (Int32.ofNat i)), (.ref a)])) rfl rfl (hb hby d7_12) ?_
  refine XS.istore X0.here hx rfl (hb hby d7_13) rfl (l' := #[.val (.ref a), .val (.int (Int32.ofNat i)), .val (.ref b), .val (.int (Int32.ofNat i)), .val (.int (Int32.ofNat n)), .val (.int (Int32.ofNat i)), .val (.int (g i))]) (by rcases hq with rfl | ⟨_, rfl⟩ <;> rfl) ?_
  refine XS.iload X0.here hx rfl (hb hby d7_15) rfl ?_
  refine XS.sipush X0.here hx rfl (hb hby d7_17) ?_
  refine XS.icmpYes X0.here hx rfl (pc0 := 20) (pc' := 26) rfl (hb hby d7_20) rfl (flt hsm).2.2.2 (by decide) (by decide) ?_
  refine XS.aloadN X0.here hx rfl (hb hby d7_26) rfl rfl ?_
  show Steps p.tables e below (T0.setTop (mkF m 27 #[.val (.ref a), .val (.int (Int32.ofNat i)), .val (.ref b), .val (.int (Int32.ofNat i)), .val (.int (Int32.ofNat n)), .val (.int (Int32.ofNat i)), .val (.int (g i))] [(.ref b)])) _
  refine XS.iloadN X0.here hx rfl (hb hby d7_27) rfl ?_
  refine XS.iload X0.here hx rfl (hb hby d7_28) rfl ?_
  refine XS.i2b X0.here hx rfl (hb hby d7_30) rfl ?_
  show Steps p.tables e below (T0.setTop (mkF m 31 #[.val (.ref a), .val (.int (Int32.ofNat i)), .val (.ref b), .val (.int (Int32.ofNat i)), .val (.int (Int32.ofNat n)), .val (.int (Int32.ofNat i)), .val (.int (g i))] [(.int ((g i).toInt8.toInt32)), (.int (Int32.ofNat i)), (.ref b)])) _
  refine st1 _ ?_
  refine XS.iinc X1.here hx rfl (hb hby d7_32) rfl (l' := #[.val (.ref a), .val (.int ((Int32.ofNat i) + (1 : Int32))), .val (.ref b), .val (.int (Int32.ofNat i)), .val (.int (Int32.ofNat n)), .val (.int (Int32.ofNat i)), .val (.int (g i))]) rfl ?_
  refine XS.iinc X1.here hx rfl (hb hby d7_35) rfl (l' := #[.val (.ref a), .val (.int ((Int32.ofNat i) + (1 : Int32))), .val (.ref b), .val (.int ((Int32.ofNat i) + (1 : Int32))), .val (.int (Int32.ofNat n)), .val (.int (Int32.ofNat i)), .val (.int (g i))]) rfl ?_
  refine XS.iinc X1.here hx rfl (hb hby d7_38) rfl (l' := #[.val (.ref a), .val (.int ((Int32.ofNat i) + (1 : Int32))), .val (.ref b), .val (.int ((Int32.ofNat i) + (1 : Int32))), .val (.int (Int32.ofNat n)), .val (.int ((Int32.ofNat i) + (1 : Int32))), .val (.int (g i))]) rfl ?_
  show Steps p.tables e below (T1.setTop (mkF m 41 #[.val (.ref a), .val (.int ((Int32.ofNat i) + (1 : Int32))), .val (.ref b), .val (.int ((Int32.ofNat i) + (1 : Int32))), .val (.int (Int32.ofNat n)), .val (.int ((Int32.ofNat i) + (1 : Int32))), .val (.int (g i))] [])) _
  rw [show ((Int32.ofNat i) + (1 : Int32)) = (Int32.ofNat (i + 1)) from succN i]
  show Steps p.tables e below (T1.setTop (mkF m 41 #[.val (.ref a), .val (.int (Int32.ofNat (i + 1))), .val (.ref b), .val (.int (Int32.ofNat (i + 1))), .val (.int (Int32.ofNat n)), .val (.int (Int32.ofNat (i + 1))), .val (.int (g i))] [])) _
  refine XS.goto X1.here hx rfl (pc0 := 41) (pc' := 3) rfl (hb hby d7_41) (by decide) (by decide) ?_
  exact kt
set_option maxRecDepth 65536 in
set_option maxHeartbeats 40000000 in
theorem exC5 {p : Program} {l : Launch} {e : Env} {R : Room} {s : State} {m : MethodId} {args : Array Value} {below : List Frame} {meth : Method} {c : Code} {T0 : State} {locs : List Loc} {cells slots : Nat} {Z : State} {a0 : Array Value} (a b : Addr) (i n : Nat) (q : Slot) (X0 : Stand p l e R s m args below meth c T0 locs cells slots) (hx : p.tables.exec = Jvm.exec) (hZ : Z.Warmed39 s.vm) (hw : ∀ d ∈ tables_1, d.before a0 Z = true) (hby : c.code = jdk_52_method_21_code) (hown : s.vm.findClass "java/lang/StringUTF16" = some m.cls)  (hc7 : ¬ ((Int32.ofNat i) < (Int32.ofNat n))) {target : State}
    (kt : Steps p.tables e below (T0.setTop (mkF m 44 #[.val (.ref a), .val (.int (Int32.ofNat i)), .val (.ref b), .val (.int (Int32.ofNat i)), .val (.int (Int32.ofNat n)), .val (.int (Int32.ofNat i)), q] [])) target) : Steps p.tables e below (T0.setTop (mkF m 3 #[.val (.ref a), .val (.int (Int32.ofNat i)), .val (.ref b), .val (.int (Int32.ofNat i)), .val (.int (Int32.ofNat n)), .val (.int (Int32.ofNat i)), q] [])) target := by
  show Steps p.tables e below (T0.setTop (mkF m 3 #[.val (.ref a), .val (.int (Int32.ofNat i)), .val (.ref b), .val (.int (Int32.ofNat i)), .val (.int (Int32.ofNat n)), .val (.int (Int32.ofNat i)), q] [])) _
  refine XS.iload X0.here hx rfl (hb hby d7_3) rfl ?_
  refine XS.iload X0.here hx rfl (hb hby d7_5) rfl ?_
  refine XS.icmpYes X0.here hx rfl (pc0 := 7) (pc' := 44) rfl (hb hby d7_7) rfl (flt hc7).2.1 (by decide) (by decide) ?_
  exact kt
set_option maxRecDepth 65536 in
set_option maxHeartbeats 40000000 in
theorem bgC5 {p : Program} {l : Launch} {e : Env} {R : Room} {s : State} {m : MethodId} {args : Array Value} {below : List Frame} {meth : Method} {c : Code} {T0 : State} {locs : List Loc} {cells slots : Nat} {Z : State} {a0 : Array Value} {h0 : Heap} {n0 : Nat} (a b : Addr) (i n : Nat) (g : Nat → Int32) (q : Slot) (hq : q = .unset ∨ ∃ x : Int32, q = .val (.int x)) (X0 : Stand p l e R s m args below meth c T0 locs cells slots) (hx : p.tables.exec = Jvm.exec) (hZ : Z.Warmed39 s.vm) (hw : ∀ d ∈ tables_1, d.before a0 Z = true) (hby : c.code = jdk_52_method_21_code) (hown : s.vm.findClass "java/lang/StringUTF16" = some m.cls) (e0 : T0.heap = h0) (Z0 : n0 ≤ h0.size) (N0 : Fr n0 locs) (hn : n ≤ 20) (hi : i < n) (FA : AF Z h0 a .char n (Ca g)) (hbg : (255 : Int32) < g i) {target : State} (kt : Steps p.tables e below (T0.setTop (mkF m 23 #[.val (.ref a), .val (.int (Int32.ofNat i)), .val (.ref b), .val (.int (Int32.ofNat i)), .val (.int (Int32.ofNat n)), .val (.int (Int32.ofNat i)), .val (.int (g i))] [])) target) : Steps p.tables e below (T0.setTop (mkF m 3 #[.val (.ref a), .val (.int (Int32.ofNat i)), .val (.ref b), .val (.int (Int32.ofNat i)), .val (.int (Int32.ofNat n)), .val (.int (Int32.ofNat i)), q] [])) target := by
  show Steps p.tables e below (T0.setTop (mkF m 3 #[.val (.ref a), .val (.int (Int32.ofNat i)), .val (.ref b), .val (.int (Int32.ofNat i)), .val (.int (Int32.ofNat n)), .val (.int (Int32.ofNat i)), q] [])) _
  refine XS.iload X0.here hx rfl (hb hby d7_3) rfl ?_
  refine XS.iload X0.here hx rfl (hb hby d7_5) rfl ?_
  refine XS.icmpNo X0.here hx rfl (hb hby d7_7) rfl (tlt ((ltN (by omega) (by omega)).mpr hi)).2.1 ?_
  refine XS.aloadN X0.here hx rfl (hb hby d7_10) rfl rfl ?_
  refine XS.iloadN X0.here hx rfl (hb hby d7_11) rfl ?_
  show Steps p.tables e below (T0.setTop (mkF m 12 #[.val (.ref a), .val (.int (Int32.ofNat i)), .val (.ref b), .val (.int (Int32.ofNat i)), .val (.int (Int32.ofNat n)), .val (.int (Int32.ofNat i)), q] [(.int (Int32.ofNat i)), (.ref a)])) _
  refine ldCh X0 hx hZ e0 FA (i := i) hi (by omega) (v := (.int (g i))) rfl (g := (mkF m 12 #[.val (.ref a), .val (.int (Int32.ofNat i)), .val (.ref b), .val (.int (Int32.ofNat i)), .val (.int (Int32.ofNat n)), .val (.int (Int32.ofNat i)), q] [(.int (Int32.ofNat i)), (.ref a)])) rfl rfl (hb hby d7_12) ?_
  refine XS.istore X0.here hx rfl (hb hby d7_13) rfl (l' := #[.val (.ref a), .val (.int (Int32.ofNat i)), .val (.ref b), .val (.int (Int32.ofNat i)), .val (.int (Int32.ofNat n)), .val (.int (Int32.ofNat i)), .val (.int (g i))]) (by rcases hq with rfl | ⟨_, rfl⟩ <;> rfl) ?_
  refine XS.iload X0.here hx rfl (hb hby d7_15) rfl ?_
  refine XS.sipush X0.here hx rfl (hb hby d7_17) ?_
  refine XS.icmpNo X0.here hx rfl (hb hby d7_20) rfl (tlt hbg).2.2.2 ?_
  exact kt
set_option maxRecDepth 65536 in
set_option maxHeartbeats 40000000 in
theorem lpC5 {p : Program} {l : Launch} {e : Env} {R : Room} {s : State} {m : MethodId} {args : Array Value} {below : List Frame} {meth : Method} {c : Code} {cells slots : Nat} {Z : State} {a0 : Array Value} {n0 : Nat} (a b : Addr) (n N : Nat) (g : Nat → Int32) (hx : p.tables.exec = Jvm.exec) (hZ : Z.Warmed39 s.vm) (hw : ∀ d ∈ tables_1, d.before a0 Z = true) (hby : c.code = jdk_52_method_21_code) (hown : s.vm.findClass "java/lang/StringUTF16" = some m.cls) (hn : n ≤ 20) (hab : a ≠ b) (g_b : n0 ≤ b) (hN : N ≤ n) (hsm : ∀ j, j < N → ¬ ((255 : Int32) < g j)) :
    ∀ (k i : Nat) (f : Nat → Value) (q : Slot) (T0 : State) (locs : List Loc), (q = .unset ∨ ∃ x : Int32, q = .val (.int x)) → i + k = N → Stand p l e R s m args below meth c T0 locs cells slots → n0 ≤ T0.heap.size → Fr n0 locs → AF Z T0.heap a .char n (Ca g) → AF Z T0.heap b .byte n f → (∀ j, j < i → f j = Lb g j) →
    ∃ (T' : State) (locs' : List Loc) (f' : Nat → Value) (q' : Slot), (q' = .unset ∨ ∃ x : Int32, q' = .val (.int x)) ∧ Stand p l e R s m args below meth c T' locs' cells slots ∧ Fr n0 locs' ∧ Keep T0.heap T'.heap [b] ∧ AF Z T'.heap b .byte n f' ∧ (∀ j, j < N → f' j = Lb g j) ∧ ∀ target, Steps p.tables e below (T'.setTop (mkF m 3 #[.val (.ref a), .val (.int (Int32.ofNat N)), .val (.ref b), .val (.int (Int32.ofNat N)), .val (.int (Int32.ofNat n)), .val (.int (Int32.ofNat N)), q'] [])) target → Steps p.tables e below (T0.setTop (mkF m 3 #[.val (.ref a), .val (.int (Int32.ofNat i)), .val (.ref b), .val (.int (Int32.ofNat i)), .val (.int (Int32.ofNat n)), .val (.int (Int32.ofNat i)), q] [])) target := by
  intro k
  induction k with
  | zero =>
    intro i f q T0 locs hq hk X0 Z0 N0 FA FB hf
    obtain rfl : i = N := by omega
    exact ⟨T0, locs, f, q, hq, X0, N0, Keep.refl _ _, FB, hf, fun target kt => kt⟩
  | succ k ih =>
    intro i f q T0 locs hq hk X0 Z0 N0 FA FB hf
    obtain ⟨T1, locs1, X1, N1, K1, A1, st1⟩ := tnC5 a b i n g f q hq X0 hx hZ hw hby hown rfl Z0 N0 hn (by omega) FA FB hab g_b (hsm i (by omega))
    obtain ⟨T2, locs2, f2, q2, hq2, X2, N2, K2, A2, hf2, st2⟩ := ih (i + 1) _ _ T1 locs1 (Or.inr ⟨_, rfl⟩) (by omega) X1 (Nat.le_trans Z0 K1.1) N1 (FA.keep K1 (notin1 hab)) A1 (fun j hj => by
      unfold upd
      by_cases q1 : j = i
      · rw [if_pos q1, q1]; rfl
      · rw [if_neg q1]; exact hf j (by omega))
    exact ⟨T2, locs2, f2, q2, hq2, X2, N2, K1.trans K2 (fun x r => Or.inl r), A2, hf2, fun target kt => st1 target (st2 target kt)⟩
set_option maxRecDepth 65536 in
set_option maxHeartbeats 40000000 in
theorem rmC5A (l : Launch) (Z : State) (a0 : Array Value) (hw : ∀ d ∈ tables_1, d.before a0 Z = true) (ws : List Jvm.Cond) (a b : Addr) (n : Nat) (g : Nat → Int32) (f : Nat → Value)  (h0 : Heap) (n0 : Nat) (Z0 : n0 ≤ h0.size) (hn : n ≤ 20) (FA : AF Z h0 a .char n (Ca g)) (FB : AF Z h0 b .byte n f) (hab : a ≠ b) (g_b : n0 ≤ b) (hsm : ∀ j, j < n → ¬ ((255 : Int32) < g j))  :
    MetFree l (⟨"java/lang/StringUTF16", "compress", "([CI[BII)I"⟩ : MethodName) (head1 (Jvm.Cond.code (⟨"java/lang/StringUTF16", "compress", "([CI[BII)I"⟩ : MethodName) jdk_52_method_21_code 7 (some .int) :: ws) ({ frames := 0, cells := 0, slots := 0, locals := 0 } : Room)) (fun aa_ U_ => aa_ = #[(.ref a), (.int (0 : Int32)), (.ref b), (.int (0 : Int32)), (.int (Int32.ofNat n))] ∧ Z.Warmed39 U_.vm ∧ U_.heap = h0) (fun _ _ _ _ _ => True) (fun _ U_ o_ V_ => ∃ v_ L_, o_ = .returned v_ ∧ QR Z (Int32.ofNat n) b .byte n (fun f' => ∀ j, j < n → f' j = Lb g j) h0 n0 v_ V_.heap L_ ∧ FrameEnd U_ o_ V_ L_ ({ frames := 0, cells := 0, slots := 0, locals := 0 } : Room).cells ({ frames := 0, cells := 0, slots := 0, locals := 0 } : Room).slots) := by
  refine MetFree.of_bodySF (plainFor_of_name pn_7) hisR ?_
  intro p e s m args below meth c s₁ Bd hml0 hP hK
  obtain ⟨rfl, hZ, hh⟩ := hP
  have hx := Bd.exec
  have hby := Bd.bytes
  have hml : c.maxLocals = 7 := hml0
  have hown : s.vm.findClass "java/lang/StringUTF16" = some m.cls := findClass_of_methodNamed Bd.named
  have hnm := (name_of_methodNamed Bd.named Bd.method).1
  have X0 : Stand p l e ({ frames := 0, cells := 0, slots := 0, locals := 0 } : Room) s m #[(.ref a), (.int (0 : Int32)), (.ref b), (.int (0 : Int32)), (.int (Int32.ofNat n))] below meth c s₁ [] 0 0 := Stand.of_body Bd
  have e0 : s₁.heap = h0 := by rw [← hh, Bd.state]; rfl
  have N0 := Fr.nil n0
  have pre0 : ∀ zz, Steps p.tables e below (s₁.setTop (mkF m 0 #[.val (.ref a), .val (.int (0 : Int32)), .val (.ref b), .val (.int (0 : Int32)), .val (.int (Int32.ofNat n)), .unset, .unset] [])) zz → Steps p.tables e below (s₁.setTop (entryFrame m #[(.ref a), (.int (0 : Int32)), (.ref b), (.int (0 : Int32)), (.int (Int32.ofNat n))] 7)) zz := fun zz kz_ => castTop (ef_7 m a (0 : Int32) b (0 : Int32) (Int32.ofNat n)) kz_
  have Z0' : n0 ≤ s₁.heap.size := by rw [e0]; exact Z0
  obtain ⟨T2, L2, f2, q2, hq2, X2, N2, Kl2, A2, hf2, st2⟩ := lpC5 a b n n g hx hZ hw hby hown hn hab g_b (by omega) hsm n 0 f .unset _ _ (Or.inl rfl) (by omega) X0 Z0' N0 (by rw [e0]; exact FA) (by rw [e0]; exact FB) (fun j hj => absurd hj (by omega))
  obtain ⟨fs, hr, hrun, hended, hW, hsame⟩ := X2.leave (v := some (.int (Int32.ofNat n))) (fun h => by rw [Bd.returns] at h; cases h)
  refine ⟨_, _, pre0 _ ?_, hrun, hended, _, _, rfl, ?_, ⟨_, rfl⟩, hW, hsame.mono (by decide) (by decide)⟩
  · show Steps p.tables e below (s₁.setTop (mkF m 0 #[.val (.ref a), .val (.int (0 : Int32)), .val (.ref b), .val (.int (0 : Int32)), .val (.int (Int32.ofNat n)), .unset, .unset] [])) _
    refine XS.iconst X0.here hx rfl (hb hby d7_0) ?_
    refine XS.istore X0.here hx rfl (hb hby d7_1) rfl (l' := #[.val (.ref a), .val (.int (0 : Int32)), .val (.ref b), .val (.int (0 : Int32)), .val (.int (Int32.ofNat n)), .val (.int (0 : Int32)), .unset]) rfl ?_
    show Steps p.tables e below (s₁.setTop (mkF m 3 #[.val (.ref a), .val (.int (Int32.ofNat 0)), .val (.ref b), .val (.int (Int32.ofNat 0)), .val (.int (Int32.ofNat n)), .val (.int (Int32.ofNat 0)), .unset] [])) _
    refine st2 _ ?_
    refine exC5 a b n n q2 X2 hx hZ hw hby hown (fun q => absurd ((ltN (by omega) (by omega)).mp q) (Nat.lt_irrefl _)) ?_
    refine XS.iload X2.here hx rfl (hb hby d7_44) rfl ?_
    show Steps p.tables e below (T2.setTop (mkF m 46 #[.val (.ref a), .val (.int (Int32.ofNat n)), .val (.ref b), .val (.int (Int32.ofNat n)), .val (.int (Int32.ofNat n)), .val (.int (Int32.ofNat n)), q2] [(.int (Int32.ofNat n))])) _
    exact retI X2 hx Bd.returns (hb hby d7_46) hr
  · show QR Z (Int32.ofNat n) b .byte n (fun f' => ∀ j, j < n → f' j = Lb g j) h0 n0 _ T2.heap _
    exact ⟨rfl, N2, by have q := Kl2; rw [e0] at q; exact q, f2, A2, hf2⟩
theorem d6_0 : decode jdk_52_method_16_code 0 = .ok (.iload_n 2, 1) := by decide +kernel
theorem d6_1 : decode jdk_52_method_16_code 1 = .ok (.newarray .byte, 2) := by decide +kernel
theorem d6_3 : decode jdk_52_method_16_code 3 = .ok (.astore_n 3, 1) := by decide +kernel
theorem d6_4 : decode jdk_52_method_16_code 4 = .ok (.aload_n 0, 1) := by decide +kernel
theorem d6_5 : decode jdk_52_method_16_code 5 = .ok (.iload_n 1, 1) := by decide +kernel
theorem d6_6 : decode jdk_52_method_16_code 6 = .ok (.aload_n 3, 1) := by decide +kernel
theorem d6_7 : decode jdk_52_method_16_code 7 = .ok (.iconst 0, 1) := by decide +kernel
theorem d6_8 : decode jdk_52_method_16_code 8 = .ok (.iload_n 2, 1) := by decide +kernel
theorem d6_9 : decode jdk_52_method_16_code 9 = .ok (.invokestatic 115, 3) := by decide +kernel
theorem d6_12 : decode jdk_52_method_16_code 12 = .ok (.istore 4, 2) := by decide +kernel
theorem d6_14 : decode jdk_52_method_16_code 14 = .ok (.iload 4, 2) := by decide +kernel
theorem d6_16 : decode jdk_52_method_16_code 16 = .ok (.iload_n 2, 1) := by decide +kernel
theorem d6_17 : decode jdk_52_method_16_code 17 = .ok (.if_icmp .eq 40, 3) := by decide +kernel
theorem d6_20 : decode jdk_52_method_16_code 20 = .ok (.aload_n 0, 1) := by decide +kernel
theorem d6_21 : decode jdk_52_method_16_code 21 = .ok (.iload_n 1, 1) := by decide +kernel
theorem d6_22 : decode jdk_52_method_16_code 22 = .ok (.iload_n 2, 1) := by decide +kernel
theorem d6_23 : decode jdk_52_method_16_code 23 = .ok (.invokestatic 119, 3) := by decide +kernel
theorem d6_26 : decode jdk_52_method_16_code 26 = .ok (.astore 5, 2) := by decide +kernel
theorem d6_28 : decode jdk_52_method_16_code 28 = .ok (.aload 5, 2) := by decide +kernel
theorem d6_30 : decode jdk_52_method_16_code 30 = .ok (.iload 4, 2) := by decide +kernel
theorem d6_32 : decode jdk_52_method_16_code 32 = .ok (.invokestatic 71, 3) := by decide +kernel
theorem d6_35 : decode jdk_52_method_16_code 35 = .ok (.sipush 255, 3) := by decide +kernel
theorem d6_38 : decode jdk_52_method_16_code 38 = .ok (.if_icmp .gt 16, 3) := by decide +kernel
theorem d6_41 : decode jdk_52_method_16_code 41 = .ok (.aload 5, 2) := by decide +kernel
theorem d6_43 : decode jdk_52_method_16_code 43 = .ok (.iconst 0, 1) := by decide +kernel
theorem d6_44 : decode jdk_52_method_16_code 44 = .ok (.aload_n 3, 1) := by decide +kernel
theorem d6_45 : decode jdk_52_method_16_code 45 = .ok (.iconst 0, 1) := by decide +kernel
theorem d6_46 : decode jdk_52_method_16_code 46 = .ok (.iload_n 2, 1) := by decide +kernel
theorem d6_47 : decode jdk_52_method_16_code 47 = .ok (.invokestatic 123, 3) := by decide +kernel
theorem d6_50 : decode jdk_52_method_16_code 50 = .ok (.iload_n 2, 1) := by decide +kernel
theorem d6_51 : decode jdk_52_method_16_code 51 = .ok (.if_icmp .eq 6, 3) := by decide +kernel
theorem d6_54 : decode jdk_52_method_16_code 54 = .ok (.aload 5, 2) := by decide +kernel
theorem d6_56 : decode jdk_52_method_16_code 56 = .ok (.areturn, 1) := by decide +kernel
theorem d6_57 : decode jdk_52_method_16_code 57 = .ok (.aload_n 3, 1) := by decide +kernel
theorem d6_58 : decode jdk_52_method_16_code 58 = .ok (.areturn, 1) := by decide +kernel
theorem pn_6 : plainName "java/lang/StringUTF16" = true := by first | (simp [plainName, overriddenIn]; done) | decide +kernel
theorem ef_6 (m : MethodId) (x0 : Addr) (x1 : Int32) (x2 : Int32) : entryFrame m #[(.ref x0), (.int x1), (.int x2)] 6 = mkF m 0 #[.val (.ref x0), .val (.int x1), .val (.int x2), .unset, .unset, .unset] [] := by first | (simp [entryFrame, mkF, argsToLocals, Value.category]; done) | rfl
set_option maxRecDepth 65536 in
set_option maxHeartbeats 40000000 in
theorem rmC3A (l : Launch) (Z : State) (a0 : Array Value) (hw : ∀ d ∈ tables_1, d.before a0 Z = true) (ws : List Jvm.Cond) (a : Addr) (n : Nat) (g : Nat → Int32)  (h0 : Heap) (n0 : Nat) (Z0 : n0 ≤ h0.size) (hn : n ≤ 20) (O : Old Z n0 h0) (SK : StrSta Z) (FA : AF Z h0 a .char n (Ca g)) (hsm : ∀ j, j < n → ¬ ((255 : Int32) < g j))  :
    MetFree l (⟨"java/lang/StringUTF16", "compress", "([CII)[B"⟩ : MethodName) (head1 (Jvm.Cond.code (⟨"java/lang/StringUTF16", "compress", "([CII)[B"⟩ : MethodName) jdk_52_method_16_code 6 (some (.array .byte)) :: ws) ({ frames := 3, cells := 2, slots := 60, locals := 60 } : Room)) (fun aa_ U_ => aa_ = #[(.ref a), (.int (0 : Int32)), (.int (Int32.ofNat n))] ∧ Z.Warmed39 U_.vm ∧ U_.heap = h0) (fun _ _ _ _ _ => True) (fun _ U_ o_ V_ => ∃ v_ L_, o_ = .returned v_ ∧ QA Z .byte n (Lb g) h0 n0 v_ V_.heap L_ ∧ FrameEnd U_ o_ V_ L_ ({ frames := 3, cells := 2, slots := 60, locals := 60 } : Room).cells ({ frames := 3, cells := 2, slots := 60, locals := 60 } : Room).slots) := by
  refine MetFree.of_bodySF (plainFor_of_name pn_6) hisR ?_
  intro p e s m args below meth c s₁ Bd hml0 hP hK
  obtain ⟨rfl, hZ, hh⟩ := hP
  have hx := Bd.exec
  have hby := Bd.bytes
  have hml : c.maxLocals = 6 := hml0
  have hown : s.vm.findClass "java/lang/StringUTF16" = some m.cls := findClass_of_methodNamed Bd.named
  have hnm := (name_of_methodNamed Bd.named Bd.method).1
  have X0 : Stand p l e ({ frames := 3, cells := 2, slots := 60, locals := 60 } : Room) s m #[(.ref a), (.int (0 : Int32)), (.int (Int32.ofNat n))] below meth c s₁ [] 0 0 := Stand.of_body Bd
  have e0 : s₁.heap = h0 := by rw [← hh, Bd.state]; rfl
  have N0 := Fr.nil n0
  have pre0 : ∀ zz, Steps p.tables e below (s₁.setTop (mkF m 0 #[.val (.ref a), .val (.int (0 : Int32)), .val (.int (Int32.ofNat n)), .unset, .unset, .unset] [])) zz → Steps p.tables e below (s₁.setTop (entryFrame m #[(.ref a), (.int (0 : Int32)), (.int (Int32.ofNat n))] 6)) zz := fun zz kz_ => castTop (ef_6 m a (0 : Int32) (Int32.ofNat n)) kz_
  obtain ⟨T3, h3, X3, e3, E3, A3, st3⟩ := nwA X0 hx hZ (hw _ (List.mem_of_getElem? (i := 30) rfl)) e0 (g := (mkF m 1 #[.val (.ref a), .val (.int (0 : Int32)), .val (.int (Int32.ofNat n)), .unset, .unset, .unset] [(.int (Int32.ofNat n))])) rfl (hb hby d6_1) (n := n) rfl (cap := 20) (by omega) (by decide) (by decide) (by decide)
  obtain ⟨b3, q3⟩ : ∃ z, z = h0.size := ⟨_, rfl⟩
  rw [← q3] at A3 st3
  have V3 : AF Z h3 b3 .byte n (fun _ => (.int (0 : Int32))) := A3
  have g_b3 : n0 ≤ b3 := Nat.le_trans Z0 (Nat.le_of_eq q3.symm)
  have sz_b3 : h0.size ≤ b3 := Nat.le_trans (Keep.refl h0 []).1 (Nat.le_of_eq q3.symm)
  have K3 := (Keep.refl h0 []).ext E3
  have Z3 : n0 ≤ h3.size := Nat.le_trans Z0 E3.1
  have ne_a_b3 : a ≠ b3 := Nat.ne_of_lt (Nat.lt_of_lt_of_le FA.lt (Nat.le_of_eq q3.symm))
  have FA_e3 := FA.ext E3
  have O3 := O.ext E3
  obtain ⟨_, _, ⟨T4, L4, k4, n4⟩, -, X4, ⟨Lc4, hQ4, l4, y4, z4⟩, st4⟩ := Jvm.LawKit.callS X3 hx (y := (⟨"java/lang/StringUTF16", "compress", "([CI[BII)I"⟩ : MethodName)) hown (mvT hZ (hw _ (List.mem_of_getElem? (i := 31) rfl))) (mvT hZ (hw _ (List.mem_of_getElem? (i := 32) rfl))) (mvT hZ (hw _ (List.mem_of_getElem? (i := 28) rfl))) (mvT hZ (hw _ (List.mem_of_getElem? (i := 33) rfl))) (by decide) (backOf (W := 0) (rmC5A l Z a0 hw [] a b3 n g (fun _ => (.int (0 : Int32))) h3 n0 Z3 hn  FA_e3 V3 ne_a_b3 g_b3 hsm) hZ (hw _ (List.mem_of_getElem? (i := 33) rfl)) (hw _ (List.mem_of_getElem? (i := 28) rfl)) (by decide) (by decide)) (g := (mkF m 9 #[.val (.ref a), .val (.int (0 : Int32)), .val (.int (Int32.ofNat n)), .val (.ref b3), .unset, .unset] [(.int (Int32.ofNat n)), (.int (0 : Int32)), (.ref b3), (.int (0 : Int32)), (.ref a)])) rfl (by rw [hml]; rfl) (argsL := [(.ref a), (.int (0 : Int32)), (.ref b3), (.int (0 : Int32)), (.int (Int32.ofNat n))]) (rest := []) (lenOf pd_6 rfl) rfl (by show 2 * 0 + _ ≤ _; exact Nat.le_of_eq rfl) (hb hby d6_9) (fun _ _ => ⟨rfl, e3, (by decide : 1 + 0 ≤ _), (by decide : 20 + 0 ≤ _)⟩)
  dsimp only [Pt.U, Pt.locs, Pt.cells, Pt.slots] at X4 l4 y4 z4 st4 hQ4
  subst l4 y4 z4
  obtain ⟨rfl, N4q, K4, f4, A4, hf4⟩ := hQ4
  have N4 := Fr.app N0 N4q
  have FA_e4 := FA_e3.keep K4 (notin1 ne_a_b3)
  have KK4 := K3.trans K4 (fun x r => by cases List.mem_singleton.mp r; exact (Or.inr sz_b3))
  have Z4 : n0 ≤ T4.heap.size := Nat.le_trans Z3 K4.1
  have O4 := O3.keep K4 (all1 g_b3)
  obtain ⟨fs, hr, hrun, hended, hW, hsame⟩ := X4.leave (v := some (.ref b3)) (fun h => by rw [Bd.returns] at h; cases h)
  refine ⟨_, _, pre0 _ ?_, hrun, hended, _, _, rfl, ?_, ⟨_, rfl⟩, hW, hsame.mono (by decide) (by decide)⟩
  · show Steps p.tables e below (s₁.setTop (mkF m 0 #[.val (.ref a), .val (.int (0 : Int32)), .val (.int (Int32.ofNat n)), .unset, .unset, .unset] [])) _
    refine XS.iloadN X0.here hx rfl (hb hby d6_0) rfl ?_
    show Steps p.tables e below (s₁.setTop (mkF m 1 #[.val (.ref a), .val (.int (0 : Int32)), .val (.int (Int32.ofNat n)), .unset, .unset, .unset] [(.int (Int32.ofNat n))])) _
    refine st3 _ ?_
    refine XS.astoreN X3.here hx rfl (hb hby d6_3) rfl rfl (l' := #[.val (.ref a), .val (.int (0 : Int32)), .val (.int (Int32.ofNat n)), .val (.ref b3), .unset, .unset]) rfl ?_
    refine XS.aloadN X3.here hx rfl (hb hby d6_4) rfl rfl ?_
    refine XS.iloadN X3.here hx rfl (hb hby d6_5) rfl ?_
    refine XS.aloadN X3.here hx rfl (hb hby d6_6) rfl rfl ?_
    refine XS.iconst X3.here hx rfl (hb hby d6_7) ?_
    show Steps p.tables e below (T3.setTop (mkF m 8 #[.val (.ref a), .val (.int (0 : Int32)), .val (.int (Int32.ofNat n)), .val (.ref b3), .unset, .unset] [(.int (0 : Int32)), (.ref b3), (.int (0 : Int32)), (.ref a)])) _
    refine XS.iloadN X3.here hx rfl (hb hby d6_8) rfl ?_
    show Steps p.tables e below (T3.setTop (mkF m 9 #[.val (.ref a), .val (.int (0 : Int32)), .val (.int (Int32.ofNat n)), .val (.ref b3), .unset, .unset] [(.int (Int32.ofNat n)), (.int (0 : Int32)), (.ref b3), (.int (0 : Int32)), (.ref a)])) _
    refine st4 _ ?_
    refine XS.istore X4.here hx rfl (hb hby d6_12) rfl (l' := #[.val (.ref a), .val (.int (0 : Int32)), .val (.int (Int32.ofNat n)), .val (.ref b3), .val (.int (Int32.ofNat n)), .unset]) rfl ?_
    refine XS.iload X4.here hx rfl (hb hby d6_14) rfl ?_
    refine XS.iloadN X4.here hx rfl (hb hby d6_16) rfl ?_
    refine XS.icmpYes X4.here hx rfl (pc0 := 17) (pc' := 57) rfl (hb hby d6_17) rfl (teq (rfl : (Int32.ofNat n) = (Int32.ofNat n))).1 (by decide) (by decide) ?_
    refine XS.aloadN X4.here hx rfl (hb hby d6_57) rfl rfl ?_
    show Steps p.tables e below (T4.setTop (mkF m 58 #[.val (.ref a), .val (.int (0 : Int32)), .val (.int (Int32.ofNat n)), .val (.ref b3), .val (.int (Int32.ofNat n)), .unset] [(.ref b3)])) _
    jvm_step X4.here [X4.here.top, hx, (hb hby d6_58), X4.method', Bd.returns, Value.isRef, FieldType.isReference]
    first | (intro acts; rw [hr _ acts rfl rfl rfl]) | rw [hr _ _ rfl rfl rfl]
    exact Steps.refl _
  · show QA Z .byte n (Lb g) h0 n0 _ T4.heap _
    exact ⟨b3, rfl, N4, KK4, sz_b3, A4.congr hf4⟩
theorem d8_0 : decode jdk_52_method_15_code 0 = .ok (.iload_n 1, 1) := by decide +kernel
theorem d8_1 : decode jdk_52_method_15_code 1 = .ok (.aload_n 0, 1) := by decide +kernel
theorem d8_2 : decode jdk_52_method_15_code 2 = .ok (.arraylength, 1) := by decide +kernel
theorem d8_3 : decode jdk_52_method_15_code 3 = .ok (.isub, 1) := by decide +kernel
theorem d8_4 : decode jdk_52_method_15_code 4 = .ok (.bipush 31, 2) := by decide +kernel
theorem d8_6 : decode jdk_52_method_15_code 6 = .ok (.iushr, 1) := by decide +kernel
theorem d8_7 : decode jdk_52_method_15_code 7 = .ok (.i2b, 1) := by decide +kernel
theorem d8_8 : decode jdk_52_method_15_code 8 = .ok (.ireturn, 1) := by decide +kernel
theorem pn_8 : plainName "java/lang/StringUTF16" = true := by first | (simp [plainName, overriddenIn]; done) | decide +kernel
theorem ef_8 (m : MethodId) (x0 : Addr) (x1 : Int32) : entryFrame m #[(.ref x0), (.int x1)] 2 = mkF m 0 #[.val (.ref x0), .val (.int x1)] [] := by first | (simp [entryFrame, mkF, argsToLocals, Value.category]; done) | rfl
set_option maxRecDepth 65536 in
set_option maxHeartbeats 40000000 in
theorem rmCOA (l : Launch) (Z : State) (a0 : Array Value) (hw : ∀ d ∈ tables_1, d.before a0 Z = true) (ws : List Jvm.Cond) (b : Addr) (n : Nat) (f : Nat → Value)  (h0 : Heap) (n0 : Nat) (Z0 : n0 ≤ h0.size) (hn : n ≤ 20)  (FB : AF Z h0 b .byte n f)  :
    MetFree l (⟨"java/lang/StringUTF16", "coderFromArrayLen", "([BI)B"⟩ : MethodName) (head1 (Jvm.Cond.code (⟨"java/lang/StringUTF16", "coderFromArrayLen", "([BI)B"⟩ : MethodName) jdk_52_method_15_code 2 (some .byte) :: ws) ({ frames := 0, cells := 0, slots := 0, locals := 0 } : Room)) (fun aa_ U_ => aa_ = #[(.ref b), (.int (Int32.ofNat n))] ∧ Z.Warmed39 U_.vm ∧ U_.heap = h0) (fun _ _ _ _ _ => True) (fun _ U_ o_ V_ => ∃ v_ L_, o_ = .returned v_ ∧ QI (0 : Int32) h0 n0 v_ V_.heap L_ ∧ FrameEnd U_ o_ V_ L_ ({ frames := 0, cells := 0, slots := 0, locals := 0 } : Room).cells ({ frames := 0, cells := 0, slots := 0, locals := 0 } : Room).slots) := by
  refine MetFree.of_bodySF (plainFor_of_name pn_8) hisR ?_
  intro p e s m args below meth c s₁ Bd hml0 hP hK
  obtain ⟨rfl, hZ, hh⟩ := hP
  have hx := Bd.exec
  have hby := Bd.bytes
  have hml : c.maxLocals = 2 := hml0
  have hown : s.vm.findClass "java/lang/StringUTF16" = some m.cls := findClass_of_methodNamed Bd.named
  have hnm := (name_of_methodNamed Bd.named Bd.method).1
  have X0 : Stand p l e ({ frames := 0, cells := 0, slots := 0, locals := 0 } : Room) s m #[(.ref b), (.int (Int32.ofNat n))] below meth c s₁ [] 0 0 := Stand.of_body Bd
  have e0 : s₁.heap = h0 := by rw [← hh, Bd.state]; rfl
  have N0 := Fr.nil n0
  have pre0 : ∀ zz, Steps p.tables e below (s₁.setTop (mkF m 0 #[.val (.ref b), .val (.int (Int32.ofNat n))] [])) zz → Steps p.tables e below (s₁.setTop (entryFrame m #[(.ref b), (.int (Int32.ofNat n))] 2)) zz := fun zz kz_ => castTop (ef_8 m b (Int32.ofNat n)) kz_
  obtain ⟨fs, hr, hrun, hended, hW, hsame⟩ := X0.leave (v := some (.int (0 : Int32))) (fun h => by rw [Bd.returns] at h; cases h)
  refine ⟨_, _, pre0 _ ?_, hrun, hended, _, _, rfl, ?_, ⟨_, rfl⟩, hW, hsame.mono (by decide) (by decide)⟩
  · show Steps p.tables e below (s₁.setTop (mkF m 0 #[.val (.ref b), .val (.int (Int32.ofNat n))] [])) _
    refine XS.iloadN X0.here hx rfl (hb hby d8_0) rfl ?_
    refine XS.aloadN X0.here hx rfl (hb hby d8_1) rfl rfl ?_
    show Steps p.tables e below (s₁.setTop (mkF m 2 #[.val (.ref b), .val (.int (Int32.ofNat n))] [(.ref b), (.int (Int32.ofNat n))])) _
    refine lenA X0 hx hZ e0 FB (g := (mkF m 2 #[.val (.ref b), .val (.int (Int32.ofNat n))] [(.ref b), (.int (Int32.ofNat n))])) rfl rfl (hb hby d8_2) ?_
    refine XS.isub X0.here hx rfl (hb hby d8_3) rfl ?_
    refine XS.bipush X0.here hx rfl (hb hby d8_4) ?_
    refine XS.iushr X0.here hx rfl (hb hby d8_6) rfl ?_
    refine XS.i2b X0.here hx rfl (hb hby d8_7) rfl ?_
    show Steps p.tables e below (s₁.setTop (mkF m 8 #[.val (.ref b), .val (.int (Int32.ofNat n))] [(.int (((((Int32.ofNat n) - (Int32.ofNat n)).toUInt32 >>> ((31 : Int32) &&& 31).toUInt32).toInt32).toInt8.toInt32))])) _
    rw [show (((((Int32.ofNat n) - (Int32.ofNat n)).toUInt32 >>> ((31 : Int32) &&& 31).toUInt32).toInt32).toInt8.toInt32) = (0 : Int32) from codA n]
    show Steps p.tables e below (s₁.setTop (mkF m 8 #[.val (.ref b), .val (.int (Int32.ofNat n))] [(.int (0 : Int32))])) _
    exact retN X0 hx (t := .byte) Bd.returns (by simp) (hb hby d8_8) hr
  · show QI (0 : Int32) h0 n0 _ s₁.heap _
    rw [e0]
    exact ⟨rfl, N0, rfl⟩
theorem d4_0 : decode jdk_42_method_149_code 0 = .ok (.aload_n 0, 1) := by decide +kernel
theorem d4_1 : decode jdk_42_method_149_code 1 = .ok (.invokespecial 1, 3) := by decide +kernel
theorem d4_4 : decode jdk_42_method_149_code 4 = .ok (.iload_n 3, 1) := by decide +kernel
theorem d4_5 : decode jdk_42_method_149_code 5 = .ok (.ifCond .ne 22, 3) := by decide +kernel
theorem d4_8 : decode jdk_42_method_149_code 8 = .ok (.aload_n 0, 1) := by decide +kernel
theorem d4_9 : decode jdk_42_method_149_code 9 = .ok (.ldc 7, 2) := by decide +kernel
theorem d4_11 : decode jdk_42_method_149_code 11 = .ok (.getfield 9, 3) := by decide +kernel
theorem d4_14 : decode jdk_42_method_149_code 14 = .ok (.putfield 9, 3) := by decide +kernel
theorem d4_17 : decode jdk_42_method_149_code 17 = .ok (.aload_n 0, 1) := by decide +kernel
theorem d4_18 : decode jdk_42_method_149_code 18 = .ok (.ldc 7, 2) := by decide +kernel
theorem d4_20 : decode jdk_42_method_149_code 20 = .ok (.getfield 15, 3) := by decide +kernel
theorem d4_23 : decode jdk_42_method_149_code 23 = .ok (.putfield 15, 3) := by decide +kernel
theorem d4_26 : decode jdk_42_method_149_code 26 = .ok (.return_, 1) := by decide +kernel
theorem d4_27 : decode jdk_42_method_149_code 27 = .ok (.getstatic 38, 3) := by decide +kernel
theorem d4_30 : decode jdk_42_method_149_code 30 = .ok (.ifCond .eq 28, 3) := by decide +kernel
theorem d4_33 : decode jdk_42_method_149_code 33 = .ok (.aload_n 1, 1) := by decide +kernel
theorem d4_34 : decode jdk_42_method_149_code 34 = .ok (.iload_n 2, 1) := by decide +kernel
theorem d4_35 : decode jdk_42_method_149_code 35 = .ok (.iload_n 3, 1) := by decide +kernel
theorem d4_36 : decode jdk_42_method_149_code 36 = .ok (.invokestatic 177, 3) := by decide +kernel
theorem d4_39 : decode jdk_42_method_149_code 39 = .ok (.astore 5, 2) := by decide +kernel
theorem d4_41 : decode jdk_42_method_149_code 41 = .ok (.aload_n 0, 1) := by decide +kernel
theorem d4_42 : decode jdk_42_method_149_code 42 = .ok (.aload 5, 2) := by decide +kernel
theorem d4_44 : decode jdk_42_method_149_code 44 = .ok (.iload_n 3, 1) := by decide +kernel
theorem d4_45 : decode jdk_42_method_149_code 45 = .ok (.invokestatic 47, 3) := by decide +kernel
theorem d4_48 : decode jdk_42_method_149_code 48 = .ok (.putfield 15, 3) := by decide +kernel
theorem d4_51 : decode jdk_42_method_149_code 51 = .ok (.aload_n 0, 1) := by decide +kernel
theorem d4_52 : decode jdk_42_method_149_code 52 = .ok (.aload 5, 2) := by decide +kernel
theorem d4_54 : decode jdk_42_method_149_code 54 = .ok (.putfield 9, 3) := by decide +kernel
theorem d4_57 : decode jdk_42_method_149_code 57 = .ok (.return_, 1) := by decide +kernel
theorem d4_58 : decode jdk_42_method_149_code 58 = .ok (.aload_n 0, 1) := by decide +kernel
theorem d4_59 : decode jdk_42_method_149_code 59 = .ok (.iconst 1, 1) := by decide +kernel
theorem d4_60 : decode jdk_42_method_149_code 60 = .ok (.putfield 15, 3) := by decide +kernel
theorem d4_63 : decode jdk_42_method_149_code 63 = .ok (.aload_n 0, 1) := by decide +kernel
theorem d4_64 : decode jdk_42_method_149_code 64 = .ok (.aload_n 1, 1) := by decide +kernel
theorem d4_65 : decode jdk_42_method_149_code 65 = .ok (.iload_n 2, 1) := by decide +kernel
theorem d4_66 : decode jdk_42_method_149_code 66 = .ok (.iload_n 3, 1) := by decide +kernel
theorem d4_67 : decode jdk_42_method_149_code 67 = .ok (.invokestatic 180, 3) := by decide +kernel
theorem d4_70 : decode jdk_42_method_149_code 70 = .ok (.putfield 9, 3) := by decide +kernel
theorem d4_73 : decode jdk_42_method_149_code 73 = .ok (.return_, 1) := by decide +kernel
theorem pn_4 : plainName "java/lang/String" = true := by first | (simp [plainName, overriddenIn]; done) | decide +kernel
theorem ef_4 (m : MethodId) (x0 : Addr) (x1 : Addr) (x2 : Int32) (x3 : Int32) : entryFrame m #[(.ref x0), (.ref x1), (.int x2), (.int x3), .null] 6 = mkF m 0 #[.val (.ref x0), .val (.ref x1), .val (.int x2), .val (.int x3), .val .null, .unset] [] := by first | (simp [entryFrame, mkF, argsToLocals, Value.category]; done) | rfl
set_option maxRecDepth 65536 in
set_option maxHeartbeats 40000000 in
theorem rmI4A (l : Launch) (Z : State) (a0 : Array Value) (hw : ∀ d ∈ tables_1, d.before a0 Z = true) (ws : List Jvm.Cond) (o a : Addr) (n : Nat) (g : Nat → Int32)  (h0 : Heap) (n0 : Nat) (Z0 : n0 ≤ h0.size) (hn : n ≤ 20) (hp : 0 < n) (O : Old Z n0 h0) (SK : StrSta Z) (FA : AF Z h0 a .char n (Ca g)) (hch : ∀ j, j < n → isCh (g j)) (EO : Exa Z h0 o "java/lang/String") (FV : Fld Z h0 o "java/lang/String" "value" "[B" .null) (FC : Fld Z h0 o "java/lang/String" "coder" "B" (.int (0 : Int32))) (g_o : n0 ≤ o) (hao : a ≠ o)  (hsm : ∀ j, j < n → ¬ ((255 : Int32) < g j))  :
    MetFree l (⟨"java/lang/String", "<init>", "([CIILjava/lang/Void;)V"⟩ : MethodName) (head1 (Jvm.Cond.code (⟨"java/lang/String", "<init>", "([CIILjava/lang/Void;)V"⟩ : MethodName) jdk_42_method_149_code 6 none :: ws) ({ frames := 4, cells := 2, slots := 60, locals := 100 } : Room)) (fun aa_ U_ => aa_ = #[(.ref o), (.ref a), (.int (0 : Int32)), (.int (Int32.ofNat n)), .null] ∧ Z.Warmed39 U_.vm ∧ U_.heap = h0) (fun _ _ _ _ _ => True) (fun _ U_ o_ V_ => ∃ v_ L_, o_ = .returned v_ ∧ QS Z o n g h0 n0 v_ V_.heap L_ ∧ FrameEnd U_ o_ V_ L_ ({ frames := 4, cells := 2, slots := 60, locals := 100 } : Room).cells ({ frames := 4, cells := 2, slots := 60, locals := 100 } : Room).slots) := by
  refine MetFree.of_bodySF (plainFor_of_name pn_4) hisR ?_
  intro p e s m args below meth c s₁ Bd hml0 hP hK
  obtain ⟨rfl, hZ, hh⟩ := hP
  have hx := Bd.exec
  have hby := Bd.bytes
  have hml : c.maxLocals = 6 := hml0
  have hown : s.vm.findClass "java/lang/String" = some m.cls := findClass_of_methodNamed Bd.named
  have hnm := (name_of_methodNamed Bd.named Bd.method).1
  have X0 : Stand p l e ({ frames := 4, cells := 2, slots := 60, locals := 100 } : Room) s m #[(.ref o), (.ref a), (.int (0 : Int32)), (.int (Int32.ofNat n)), .null] below meth c s₁ [] 0 0 := Stand.of_body Bd
  have e0 : s₁.heap = h0 := by rw [← hh, Bd.state]; rfl
  have N0 := Fr.nil n0
  have pre0 : ∀ zz, Steps p.tables e below (s₁.setTop (mkF m 0 #[.val (.ref o), .val (.ref a), .val (.int (0 : Int32)), .val (.int (Int32.ofNat n)), .val .null, .unset] [])) zz → Steps p.tables e below (s₁.setTop (entryFrame m #[(.ref o), (.ref a), (.int (0 : Int32)), (.int (Int32.ofNat n)), .null] 6)) zz := fun zz kz_ => castTop (ef_4 m o a (0 : Int32) (Int32.ofNat n)) kz_
  obtain ⟨kc, hkc, hcs⟩ := SK.1
  obtain ⟨T5, X5, e5, st5⟩ := initO X0 hx hZ hown (hw _ (List.mem_of_getElem? (i := 22) rfl)) (hw _ (List.mem_of_getElem? (i := 23) rfl)) (hw _ (List.mem_of_getElem? (i := 24) rfl)) e0 (g := (mkF m 1 #[.val (.ref o), .val (.ref a), .val (.int (0 : Int32)), .val (.int (Int32.ofNat n)), .val .null, .unset] [(.ref o)])) rfl (by rw [hml]; rfl) rfl (hb hby d4_1) (by decide) (W := 0) (by show 2 * 0 + _ ≤ _; exact Nat.le_of_eq rfl) (by decide)
  obtain ⟨T6, X6, e6, st6⟩ := getS2 X5 hx hZ hown (host := "") (Or.inl (hw _ (List.mem_of_getElem? (i := 25) rfl))) Via.refl e5 (Sta.ext O.2 hcs) (g := (mkF m 27 #[.val (.ref o), .val (.ref a), .val (.int (0 : Int32)), .val (.int (Int32.ofNat n)), .val .null, .unset] [])) rfl (hb hby d4_27)
  obtain ⟨_, _, ⟨T7, L7, k7, n7⟩, -, X7, ⟨Lc7, hQ7, l7, y7, z7⟩, st7⟩ := Jvm.LawKit.callS X6 hx (y := (⟨"java/lang/StringUTF16", "compress", "([CII)[B"⟩ : MethodName)) hown (mvT hZ (hw _ (List.mem_of_getElem? (i := 26) rfl))) (mvT hZ (hw _ (List.mem_of_getElem? (i := 27) rfl))) (mvT hZ (hw _ (List.mem_of_getElem? (i := 28) rfl))) (mvT hZ (hw _ (List.mem_of_getElem? (i := 29) rfl))) (by decide) (backOf (W := 0) (rmC3A l Z a0 hw [] a n g h0 n0 Z0 hn O SK FA hsm) hZ (hw _ (List.mem_of_getElem? (i := 29) rfl)) (hw _ (List.mem_of_getElem? (i := 28) rfl)) (by decide) (by decide)) (g := (mkF m 36 #[.val (.ref o), .val (.ref a), .val (.int (0 : Int32)), .val (.int (Int32.ofNat n)), .val .null, .unset] [(.int (Int32.ofNat n)), (.int (0 : Int32)), (.ref a)])) rfl (by rw [hml]; rfl) (argsL := [(.ref a), (.int (0 : Int32)), (.int (Int32.ofNat n))]) (rest := []) (lenOf pd_5 rfl) rfl (by show 2 * 0 + _ ≤ _; exact Nat.le_of_eq rfl) (hb hby d4_36) (fun _ _ => ⟨rfl, e6, (by decide : 0 + 2 ≤ _), (by decide : 0 + 60 ≤ _)⟩)
  dsimp only [Pt.U, Pt.locs, Pt.cells, Pt.slots] at X7 l7 y7 z7 st7 hQ7
  subst l7 y7 z7
  obtain ⟨b7, rfl, N7q, K7, zq7, A7⟩ := hQ7
  have N7 := Fr.app N0 N7q
  have ne_a_b7 : a ≠ b7 := Nat.ne_of_lt (Nat.lt_of_lt_of_le FA.lt zq7)
  have ne_o_b7 : o ≠ b7 := Nat.ne_of_lt (Nat.lt_of_lt_of_le EO.lt zq7)
  have g_b7 : n0 ≤ b7 := Nat.le_trans Z0 zq7
  have sz_b7 : h0.size ≤ b7 := Nat.le_trans (Keep.refl h0 [o]).1 zq7
  have EO_e7 := EO.keep K7
  have FV_e7 := FV.keep K7 List.not_mem_nil
  have FC_e7 := FC.keep K7 List.not_mem_nil
  have FA_e7 := FA.keep K7 List.not_mem_nil
  have KK7 := (Keep.refl h0 [o]).trans K7 (fun x r => absurd r List.not_mem_nil)
  have Z7 : n0 ≤ T7.heap.size := Nat.le_trans Z0 K7.1
  have O7 := O.keep K7 all0'
  obtain ⟨_, _, ⟨T8, L8, k8, n8⟩, -, X8, ⟨Lc8, hQ8, l8, y8, z8⟩, st8⟩ := Jvm.LawKit.callS X7 hx (y := (⟨"java/lang/StringUTF16", "coderFromArrayLen", "([BI)B"⟩ : MethodName)) hown (mvT hZ (hw _ (List.mem_of_getElem? (i := 34) rfl))) (mvT hZ (hw _ (List.mem_of_getElem? (i := 35) rfl))) (mvT hZ (hw _ (List.mem_of_getElem? (i := 28) rfl))) (mvT hZ (hw _ (List.mem_of_getElem? (i := 36) rfl))) (by decide) (backOf (W := 1) (rmCOA l Z a0 hw [] b7 n (Lb g) T7.heap n0 Z7 hn  A7) hZ (hw _ (List.mem_of_getElem? (i := 36) rfl)) (hw _ (List.mem_of_getElem? (i := 28) rfl)) (by decide) (by decide)) (g := (mkF m 45 #[.val (.ref o), .val (.ref a), .val (.int (0 : Int32)), .val (.int (Int32.ofNat n)), .val .null, .val (.ref b7)] [(.int (Int32.ofNat n)), (.ref b7), (.ref o)])) rfl (by rw [hml]; rfl) (argsL := [(.ref b7), (.int (Int32.ofNat n))]) (rest := [(.ref o)]) (lenOf pd_7 rfl) rfl (by show 2 * 0 + _ ≤ _; exact Nat.le_of_eq rfl) (hb hby d4_45) (fun _ _ => ⟨rfl, rfl, (by decide : 2 + 0 ≤ _), (by decide : 60 + 0 ≤ _)⟩)
  dsimp only [Pt.U, Pt.locs, Pt.cells, Pt.slots] at X8 l8 y8 z8 st8 hQ8
  subst l8 y8 z8
  obtain ⟨rfl, N8q, e8⟩ := hQ8
  have N8 := Fr.app N7 N8q
  obtain ⟨T9, h9, X9, e9, W9, st9⟩ := putFN X8 hx hZ hown (hw _ (List.mem_of_getElem? (i := 37) rfl)) Via.refl e8 FC_e7 EO_e7 (Or.inr ⟨(hw _ (List.mem_of_getElem? (i := 38) rfl)), rfl, hnm⟩) (hw _ (List.mem_of_getElem? (i := 12) rfl)) (ty := .byte) (v' := (.int (0 : Int32))) (by decide) rfl (by decide) (g := (mkF m 48 #[.val (.ref o), .val (.ref a), .val (.int (0 : Int32)), .val (.int (Int32.ofNat n)), .val .null, .val (.ref b7)] [(.int (0 : Int32)), (.ref o)])) rfl rfl (hb hby d4_48)
  have Fw9 := FC_e7.same W9
  have EO_e9 := EO_e7.wr W9
  have FV_e9 := FV_e7.other W9 (Or.inr (slot_ne (Or.inr (hw _ (List.mem_of_getElem? (i := 40) rfl))) (Or.inr (hw _ (List.mem_of_getElem? (i := 38) rfl))) (by decide) (t := (.array .byte)) (t' := .byte) (by decide) (by decide)))
  have FA_e9 := FA_e7.other W9 hao
  have A7_e9 := A7.other W9 (Ne.symm ne_o_b7)
  have N9 := Fr.snoc X9 N8 g_o
  have K9 := KK7.wr W9 (Or.inl (List.mem_of_getElem? (i := 0) rfl))
  have Z9 : n0 ≤ h9.size := Nat.le_trans Z7 (Keep.of_wr W9).1
  have O9 := O7.wr W9 g_o
  obtain ⟨T10, h10, X10, e10, W10, st10⟩ := putF X9 hx hZ hown (host := "") (Or.inl (hw _ (List.mem_of_getElem? (i := 39) rfl))) Via.refl e9 FV_e9 EO_e9 (Or.inr ⟨(hw _ (List.mem_of_getElem? (i := 40) rfl)), rfl, hnm⟩) (hw _ (List.mem_of_getElem? (i := 12) rfl)) (ty := (.array .byte)) (by decide) rfl rfl (g := (mkF m 54 #[.val (.ref o), .val (.ref a), .val (.int (0 : Int32)), .val (.int (Int32.ofNat n)), .val .null, .val (.ref b7)] [(.ref b7), (.ref o)])) rfl rfl (hb hby d4_54)
  have Fw10 := FV_e9.same W10
  have EO_e10 := EO_e9.wr W10
  have Fw9_e10 := Fw9.other W10 (Or.inr (slot_ne (Or.inr (hw _ (List.mem_of_getElem? (i := 38) rfl))) (Or.inr (hw _ (List.mem_of_getElem? (i := 40) rfl))) (by decide) (t := .byte) (t' := (.array .byte)) (by decide) (by decide)))
  have FA_e10 := FA_e9.other W10 hao
  have A7_e10 := A7_e9.other W10 (Ne.symm ne_o_b7)
  have N10 := Fr.snoc X10 N9 g_o
  have K10 := K9.wr W10 (Or.inl (List.mem_of_getElem? (i := 0) rfl))
  have Z10 : n0 ≤ h10.size := Nat.le_trans Z9 (Keep.of_wr W10).1
  have O10 := O9.wr W10 g_o
  obtain ⟨fs, hr, hrun, hended, hW, hsame⟩ := X10.leave (v := none) (fun _ => rfl)
  refine ⟨_, _, pre0 _ ?_, hrun, hended, _, _, rfl, ?_, ⟨_, rfl⟩, hW, hsame.mono (by decide) (by decide)⟩
  · show Steps p.tables e below (s₁.setTop (mkF m 0 #[.val (.ref o), .val (.ref a), .val (.int (0 : Int32)), .val (.int (Int32.ofNat n)), .val .null, .unset] [])) _
    refine XS.aloadN X0.here hx rfl (hb hby d4_0) rfl rfl ?_
    show Steps p.tables e below (s₁.setTop (mkF m 1 #[.val (.ref o), .val (.ref a), .val (.int (0 : Int32)), .val (.int (Int32.ofNat n)), .val .null, .unset] [(.ref o)])) _
    refine st5 _ ?_
    refine XS.iloadN X5.here hx rfl (hb hby d4_4) rfl ?_
    refine XS.ifYes X5.here hx rfl (pc0 := 5) (pc' := 27) rfl (hb hby d4_5) rfl ((if0 _ _).trans (feq (fun q => absurd (congrArg Int32.toInt q) (by rw [Int32.toInt_ofNat_small (by omega)]; intro r; change (n : Int) = 0 at r; omega))).2) (by decide) (by decide) ?_
    show Steps p.tables e below (T5.setTop (mkF m 27 #[.val (.ref o), .val (.ref a), .val (.int (0 : Int32)), .val (.int (Int32.ofNat n)), .val .null, .unset] [])) _
    refine st6 _ ?_
    refine XS.ifNo X6.here hx rfl (hb hby d4_30) rfl ((if0 _ _).trans (feq hkc).1) ?_
    refine XS.aloadN X6.here hx rfl (hb hby d4_33) rfl rfl ?_
    refine XS.iloadN X6.here hx rfl (hb hby d4_34) rfl ?_
    refine XS.iloadN X6.here hx rfl (hb hby d4_35) rfl ?_
    show Steps p.tables e below (T6.setTop (mkF m 36 #[.val (.ref o), .val (.ref a), .val (.int (0 : Int32)), .val (.int (Int32.ofNat n)), .val .null, .unset] [(.int (Int32.ofNat n)), (.int (0 : Int32)), (.ref a)])) _
    refine st7 _ ?_
    refine XS.astore X7.here hx rfl (hb hby d4_39) rfl rfl (l' := #[.val (.ref o), .val (.ref a), .val (.int (0 : Int32)), .val (.int (Int32.ofNat n)), .val .null, .val (.ref b7)]) rfl ?_
    refine XS.aloadN X7.here hx rfl (hb hby d4_41) rfl rfl ?_
    refine XS.aload X7.here hx rfl (hb hby d4_42) rfl rfl ?_
    refine XS.iloadN X7.here hx rfl (hb hby d4_44) rfl ?_
    show Steps p.tables e below (T7.setTop (mkF m 45 #[.val (.ref o), .val (.ref a), .val (.int (0 : Int32)), .val (.int (Int32.ofNat n)), .val .null, .val (.ref b7)] [(.int (Int32.ofNat n)), (.ref b7), (.ref o)])) _
    refine st8 _ ?_
    show Steps p.tables e below (T8.setTop (mkF m 48 #[.val (.ref o), .val (.ref a), .val (.int (0 : Int32)), .val (.int (Int32.ofNat n)), .val .null, .val (.ref b7)] [(.int (0 : Int32)), (.ref o)])) _
    refine st9 _ ?_
    refine XS.aloadN X9.here hx rfl (hb hby d4_51) rfl rfl ?_
    refine XS.aload X9.here hx rfl (hb hby d4_52) rfl rfl ?_
    show Steps p.tables e below (T9.setTop (mkF m 54 #[.val (.ref o), .val (.ref a), .val (.int (0 : Int32)), .val (.int (Int32.ofNat n)), .val .null, .val (.ref b7)] [(.ref b7), (.ref o)])) _
    refine st10 _ ?_
    show Steps p.tables e below (T10.setTop (mkF m 57 #[.val (.ref o), .val (.ref a), .val (.int (0 : Int32)), .val (.int (Int32.ofNat n)), .val .null, .val (.ref b7)] [])) _
    exact X10.returnOut hx Bd.returns (hb hby d4_57) hr
  · show QS Z o n g h0 n0 _ T10.heap _
    exact ⟨rfl, N10, by rw [e10]; exact K10, by rw [e10]; exact ⟨EO_e10, b7, Fw10, Fw9_e10, A7_e10⟩⟩
set_option maxRecDepth 65536 in
set_option maxHeartbeats 40000000 in
theorem rmI4 (l : Launch) (Z : State) (a0 : Array Value) (hw : ∀ d ∈ tables_1, d.before a0 Z = true) (ws : List Jvm.Cond) (o a : Addr) (n : Nat) (g : Nat → Int32)  (h0 : Heap) (n0 : Nat) (Z0 : n0 ≤ h0.size) (hn : n ≤ 20) (hp : 0 < n) (O : Old Z n0 h0) (SK : StrSta Z) (FA : AF Z h0 a .char n (Ca g)) (hch : ∀ j, j < n → isCh (g j)) (EO : Exa Z h0 o "java/lang/String") (FV : Fld Z h0 o "java/lang/String" "value" "[B" .null) (FC : Fld Z h0 o "java/lang/String" "coder" "B" (.int (0 : Int32))) (g_o : n0 ≤ o) (hao : a ≠ o) (hsm : ∀ j, j < n → ¬ ((255 : Int32) < g j))  :
    MetFree l (⟨"java/lang/String", "<init>", "([CIILjava/lang/Void;)V"⟩ : MethodName) (head1 (Jvm.Cond.code (⟨"java/lang/String", "<init>", "([CIILjava/lang/Void;)V"⟩ : MethodName) jdk_42_method_149_code 6 none :: ws) ({ frames := 4, cells := 2, slots := 60, locals := 100 } : Room)) (fun aa_ U_ => aa_ = #[(.ref o), (.ref a), (.int (0 : Int32)), (.int (Int32.ofNat n)), .null] ∧ Z.Warmed39 U_.vm ∧ U_.heap = h0) (fun _ _ _ _ _ => True) (fun _ U_ o_ V_ => ∃ v_ L_, o_ = .returned v_ ∧ QS Z o n g h0 n0 v_ V_.heap L_ ∧ FrameEnd U_ o_ V_ L_ ({ frames := 4, cells := 2, slots := 60, locals := 100 } : Room).cells ({ frames := 4, cells := 2, slots := 60, locals := 100 } : Room).slots) := by
  exact rmI4A l Z a0 hw ws o a n g h0 n0 Z0 hn hp O SK FA hch EO FV FC g_o hao hsm
theorem d3_0 : decode jdk_42_method_3_code 0 = .ok (.aload_n 0, 1) := by decide +kernel
theorem d3_1 : decode jdk_42_method_3_code 1 = .ok (.aload_n 1, 1) := by decide +kernel
theorem d3_2 : decode jdk_42_method_3_code 2 = .ok (.iconst 0, 1) := by decide +kernel
theorem d3_3 : decode jdk_42_method_3_code 3 = .ok (.aload_n 1, 1) := by decide +kernel
theorem d3_4 : decode jdk_42_method_3_code 4 = .ok (.arraylength, 1) := by decide +kernel
theorem d3_5 : decode jdk_42_method_3_code 5 = .ok (.aconst_null, 1) := by decide +kernel
theorem d3_6 : decode jdk_42_method_3_code 6 = .ok (.invokespecial 27, 3) := by decide +kernel
theorem d3_9 : decode jdk_42_method_3_code 9 = .ok (.return_, 1) := by decide +kernel
theorem pn_3 : plainName "java/lang/String" = true := by first | (simp [plainName, overriddenIn]; done) | decide +kernel
theorem ef_3 (m : MethodId) (x0 : Addr) (x1 : Addr) : entryFrame m #[(.ref x0), (.ref x1)] 2 = mkF m 0 #[.val (.ref x0), .val (.ref x1)] [] := by first | (simp [entryFrame, mkF, argsToLocals, Value.category]; done) | rfl
set_option maxRecDepth 65536 in
set_option maxHeartbeats 40000000 in
theorem rmI1 (l : Launch) (Z : State) (a0 : Array Value) (hw : ∀ d ∈ tables_1, d.before a0 Z = true) (ws : List Jvm.Cond) (o a : Addr) (n : Nat) (g : Nat → Int32)  (h0 : Heap) (n0 : Nat) (Z0 : n0 ≤ h0.size) (hn : n ≤ 20) (hp : 0 < n) (O : Old Z n0 h0) (SK : StrSta Z) (FA : AF Z h0 a .char n (Ca g)) (hch : ∀ j, j < n → isCh (g j)) (EO : Exa Z h0 o "java/lang/String") (FV : Fld Z h0 o "java/lang/String" "value" "[B" .null) (FC : Fld Z h0 o "java/lang/String" "coder" "B" (.int (0 : Int32))) (g_o : n0 ≤ o) (hao : a ≠ o) (hsm : ∀ j, j < n → ¬ ((255 : Int32) < g j))  :
    MetFree l (⟨"java/lang/String", "<init>", "([C)V"⟩ : MethodName) (head1 (Jvm.Cond.code (⟨"java/lang/String", "<init>", "([C)V"⟩ : MethodName) jdk_42_method_3_code 2 none :: ws) ({ frames := 5, cells := 2, slots := 60, locals := 124 } : Room)) (fun aa_ U_ => aa_ = #[(.ref o), (.ref a)] ∧ Z.Warmed39 U_.vm ∧ U_.heap = h0) (fun _ _ _ _ _ => True) (fun _ U_ o_ V_ => ∃ v_ L_, o_ = .returned v_ ∧ QS Z o n g h0 n0 v_ V_.heap L_ ∧ FrameEnd U_ o_ V_ L_ ({ frames := 5, cells := 2, slots := 60, locals := 124 } : Room).cells ({ frames := 5, cells := 2, slots := 60, locals := 124 } : Room).slots) := by
  refine MetFree.of_bodySF (plainFor_of_name pn_3) hisR ?_
  intro p e s m args below meth c s₁ Bd hml0 hP hK
  obtain ⟨rfl, hZ, hh⟩ := hP
  have hx := Bd.exec
  have hby := Bd.bytes
  have hml : c.maxLocals = 2 := hml0
  have hown : s.vm.findClass "java/lang/String" = some m.cls := findClass_of_methodNamed Bd.named
  have hnm := (name_of_methodNamed Bd.named Bd.method).1
  have X0 : Stand p l e ({ frames := 5, cells := 2, slots := 60, locals := 124 } : Room) s m #[(.ref o), (.ref a)] below meth c s₁ [] 0 0 := Stand.of_body Bd
  have e0 : s₁.heap = h0 := by rw [← hh, Bd.state]; rfl
  have N0 := Fr.nil n0
  have pre0 : ∀ zz, Steps p.tables e below (s₁.setTop (mkF m 0 #[.val (.ref o), .val (.ref a)] [])) zz → Steps p.tables e below (s₁.setTop (entryFrame m #[(.ref o), (.ref a)] 2)) zz := fun zz kz_ => castTop (ef_3 m o a) kz_
  obtain ⟨_, _, ⟨T11, L11, k11, n11⟩, -, X11, ⟨Lc11, hQ11, l11, y11, z11⟩, st11⟩ := X0.specialBack hx (y := (⟨"java/lang/String", "<init>", "([CIILjava/lang/Void;)V"⟩ : MethodName)) rfl hown (mvT hZ (hw _ (List.mem_of_getElem? (i := 18) rfl))) (mvT hZ (hw _ (List.mem_of_getElem? (i := 19) rfl))) (mvT hZ (hw _ (List.mem_of_getElem? (i := 21) rfl))) (by decide) (backOf (W := 0) (rmI4 l Z a0 hw [] o a n g h0 n0 Z0 hn hp O SK FA hch EO FV FC g_o hao hsm) hZ (hw _ (List.mem_of_getElem? (i := 21) rfl)) (hw _ (List.mem_of_getElem? (i := 13) rfl)) (by decide) (by decide)) (g := (mkF m 6 #[.val (.ref o), .val (.ref a)] [.null, (.int (Int32.ofNat n)), (.int (0 : Int32)), (.ref a), (.ref o)])) rfl (by rw [hml]; rfl) (Steps.refl _) (a := o) (argsL := [(.ref a), (.int (0 : Int32)), (.int (Int32.ofNat n)), .null]) (rest := []) (lenOf pd_3 rfl) rfl (by show 2 * 0 + _ ≤ _; exact Nat.le_of_eq rfl) (hb hby d3_6) (fun _ _ => ⟨rfl, e0, (by decide : 0 + 2 ≤ _), (by decide : 0 + 60 ≤ _)⟩)
  dsimp only [Pt.U, Pt.locs, Pt.cells, Pt.slots] at X11 l11 y11 z11 st11 hQ11
  subst l11 y11 z11
  obtain ⟨rfl, N11q, K11, S11⟩ := hQ11
  have N11 := Fr.app N0 N11q
  have EO_e11 := EO.keep K11
  have FA_e11 := FA.keep K11 (notin1 hao)
  have KK11 := (Keep.refl h0 [o]).trans K11 (fun x r => by cases List.mem_singleton.mp r; exact (Or.inl (List.mem_of_getElem? (i := 0) rfl)))
  have Z11 : n0 ≤ T11.heap.size := Nat.le_trans Z0 K11.1
  have O11 := O.keep K11 (all1 g_o)
  obtain ⟨fs, hr, hrun, hended, hW, hsame⟩ := X11.leave (v := none) (fun _ => rfl)
  refine ⟨_, _, pre0 _ ?_, hrun, hended, _, _, rfl, ?_, ⟨_, rfl⟩, hW, hsame.mono (by decide) (by decide)⟩
  · show Steps p.tables e below (s₁.setTop (mkF m 0 #[.val (.ref o), .val (.ref a)] [])) _
    refine XS.aloadN X0.here hx rfl (hb hby d3_0) rfl rfl ?_
    refine XS.aloadN X0.here hx rfl (hb hby d3_1) rfl rfl ?_
    refine XS.iconst X0.here hx rfl (hb hby d3_2) ?_
    refine XS.aloadN X0.here hx rfl (hb hby d3_3) rfl rfl ?_
    show Steps p.tables e below (s₁.setTop (mkF m 4 #[.val (.ref o), .val (.ref a)] [(.ref a), (.int (0 : Int32)), (.ref a), (.ref o)])) _
    refine lenA X0 hx hZ e0 FA (g := (mkF m 4 #[.val (.ref o), .val (.ref a)] [(.ref a), (.int (0 : Int32)), (.ref a), (.ref o)])) rfl rfl (hb hby d3_4) ?_
    refine XS.aconstNull X0.here hx rfl (hb hby d3_5) ?_
    show Steps p.tables e below (s₁.setTop (mkF m 6 #[.val (.ref o), .val (.ref a)] [.null, (.int (Int32.ofNat n)), (.int (0 : Int32)), (.ref a), (.ref o)])) _
    refine st11.trans ?_
    show Steps p.tables e below (T11.setTop (mkF m 9 #[.val (.ref o), .val (.ref a)] [])) _
    exact X11.returnOut hx Bd.returns (hb hby d3_9) hr
  · show QS Z o n g h0 n0 _ T11.heap _
    exact ⟨rfl, N11, KK11, S11⟩
theorem d11_0 : decode jdk_42_method_152_code 0 = .ok (.getstatic 38, 3) := by decide +kernel
theorem d11_3 : decode jdk_42_method_152_code 3 = .ok (.ifCond .eq 10, 3) := by decide +kernel
theorem d11_6 : decode jdk_42_method_152_code 6 = .ok (.aload_n 0, 1) := by decide +kernel
theorem d11_7 : decode jdk_42_method_152_code 7 = .ok (.getfield 15, 3) := by decide +kernel
theorem d11_10 : decode jdk_42_method_152_code 10 = .ok (.goto 4, 3) := by decide +kernel
theorem d11_13 : decode jdk_42_method_152_code 13 = .ok (.iconst 1, 1) := by decide +kernel
theorem d11_14 : decode jdk_42_method_152_code 14 = .ok (.ireturn, 1) := by decide +kernel
theorem pn_11 : plainName "java/lang/String" = true := by first | (simp [plainName, overriddenIn]; done) | decide +kernel
theorem ef_11 (m : MethodId) (x0 : Addr) : entryFrame m #[(.ref x0)] 1 = mkF m 0 #[.val (.ref x0)] [] := by first | (simp [entryFrame, mkF, argsToLocals, Value.category]; done) | rfl
set_option maxRecDepth 65536 in
set_option maxHeartbeats 40000000 in
theorem rmCD0 (l : Launch) (Z : State) (a0 : Array Value) (hw : ∀ d ∈ tables_1, d.before a0 Z = true) (ws : List Jvm.Cond) (o : Addr)  (h0 : Heap) (n0 : Nat) (Z0 : n0 ≤ h0.size) (O : Old Z n0 h0) (SK : StrSta Z) (EO : Exa Z h0 o "java/lang/String") (FC : Fld Z h0 o "java/lang/String" "coder" "B" (.int (0 : Int32)))  :
    MetFree l (⟨"java/lang/String", "coder", "()B"⟩ : MethodName) (head1 (Jvm.Cond.code (⟨"java/lang/String", "coder", "()B"⟩ : MethodName) jdk_42_method_152_code 1 (some .byte) :: ws) ({ frames := 0, cells := 0, slots := 0, locals := 0 } : Room)) (fun aa_ U_ => aa_ = #[(.ref o)] ∧ Z.Warmed39 U_.vm ∧ U_.heap = h0) (fun _ _ _ _ _ => True) (fun _ U_ o_ V_ => ∃ v_ L_, o_ = .returned v_ ∧ QI (0 : Int32) h0 n0 v_ V_.heap L_ ∧ FrameEnd U_ o_ V_ L_ ({ frames := 0, cells := 0, slots := 0, locals := 0 } : Room).cells ({ frames := 0, cells := 0, slots := 0, locals := 0 } : Room).slots) := by
  refine MetFree.of_bodySF (plainFor_of_name pn_11) hisR ?_
  intro p e s m args below meth c s₁ Bd hml0 hP hK
  obtain ⟨rfl, hZ, hh⟩ := hP
  have hx := Bd.exec
  have hby := Bd.bytes
  have hml : c.maxLocals = 1 := hml0
  have hown : s.vm.findClass "java/lang/String" = some m.cls := findClass_of_methodNamed Bd.named
  have hnm := (name_of_methodNamed Bd.named Bd.method).1
  have X0 : Stand p l e ({ frames := 0, cells := 0, slots := 0, locals := 0 } : Room) s m #[(.ref o)] below meth c s₁ [] 0 0 := Stand.of_body Bd
  have e0 : s₁.heap = h0 := by rw [← hh, Bd.state]; rfl
  have N0 := Fr.nil n0
  have pre0 : ∀ zz, Steps p.tables e below (s₁.setTop (mkF m 0 #[.val (.ref o)] [])) zz → Steps p.tables e below (s₁.setTop (entryFrame m #[(.ref o)] 1)) zz := fun zz kz_ => castTop (ef_11 m o) kz_
  obtain ⟨kc, hkc, hcs⟩ := SK.1
  obtain ⟨T12, X12, e12, st12⟩ := getS2 X0 hx hZ hown (host := "") (Or.inl (hw _ (List.mem_of_getElem? (i := 25) rfl))) Via.refl e0 (Sta.ext O.2 hcs) (g := (mkF m 0 #[.val (.ref o)] [])) rfl (hb hby d11_0)
  obtain ⟨T13, X13, e13, st13⟩ := getF X12 hx hZ hown (host := "") (Or.inl (hw _ (List.mem_of_getElem? (i := 37) rfl))) Via.refl e12 FC (g := (mkF m 7 #[.val (.ref o)] [(.ref o)])) rfl rfl (hb hby d11_7)
  obtain ⟨fs, hr, hrun, hended, hW, hsame⟩ := X13.leave (v := some (.int (0 : Int32))) (fun h => by rw [Bd.returns] at h; cases h)
  refine ⟨_, _, pre0 _ ?_, hrun, hended, _, _, rfl, ?_, ⟨_, rfl⟩, hW, hsame.mono (by decide) (by decide)⟩
  · show Steps p.tables e below (s₁.setTop (mkF m 0 #[.val (.ref o)] [])) _
    refine st12 _ ?_
    refine XS.ifNo X12.here hx rfl (hb hby d11_3) rfl ((if0 _ _).trans (feq hkc).1) ?_
    refine XS.aloadN X12.here hx rfl (hb hby d11_6) rfl rfl ?_
    show Steps p.tables e below (T12.setTop (mkF m 7 #[.val (.ref o)] [(.ref o)])) _
    refine st13 _ ?_
    refine XS.goto X13.here hx rfl (pc0 := 10) (pc' := 14) rfl (hb hby d11_10) (by decide) (by decide) ?_
    show Steps p.tables e below (T13.setTop (mkF m 14 #[.val (.ref o)] [(.int (0 : Int32))])) _
    exact retN X13 hx (t := .byte) Bd.returns (by simp) (hb hby d11_14) hr
  · show QI (0 : Int32) h0 n0 _ T13.heap _
    rw [e13]
    exact ⟨rfl, N0, rfl⟩
theorem d15_0 : decode jdk_42_method_154_code 0 = .ok (.getstatic 38, 3) := by decide +kernel
theorem d15_3 : decode jdk_42_method_154_code 3 = .ok (.ifCond .eq 14, 3) := by decide +kernel
theorem d15_6 : decode jdk_42_method_154_code 6 = .ok (.aload_n 0, 1) := by decide +kernel
theorem d15_7 : decode jdk_42_method_154_code 7 = .ok (.getfield 15, 3) := by decide +kernel
theorem d15_10 : decode jdk_42_method_154_code 10 = .ok (.ifCond .ne 7, 3) := by decide +kernel
theorem d15_13 : decode jdk_42_method_154_code 13 = .ok (.iconst 1, 1) := by decide +kernel
theorem d15_14 : decode jdk_42_method_154_code 14 = .ok (.goto 4, 3) := by decide +kernel
theorem d15_17 : decode jdk_42_method_154_code 17 = .ok (.iconst 0, 1) := by decide +kernel
theorem d15_18 : decode jdk_42_method_154_code 18 = .ok (.ireturn, 1) := by decide +kernel
theorem pn_15 : plainName "java/lang/String" = true := by first | (simp [plainName, overriddenIn]; done) | decide +kernel
theorem ef_15 (m : MethodId) (x0 : Addr) : entryFrame m #[(.ref x0)] 1 = mkF m 0 #[.val (.ref x0)] [] := by first | (simp [entryFrame, mkF, argsToLocals, Value.category]; done) | rfl
set_option maxRecDepth 65536 in
set_option maxHeartbeats 40000000 in
theorem rmIL0 (l : Launch) (Z : State) (a0 : Array Value) (hw : ∀ d ∈ tables_1, d.before a0 Z = true) (ws : List Jvm.Cond) (o : Addr)  (h0 : Heap) (n0 : Nat) (Z0 : n0 ≤ h0.size) (O : Old Z n0 h0) (SK : StrSta Z) (EO : Exa Z h0 o "java/lang/String") (FC : Fld Z h0 o "java/lang/String" "coder" "B" (.int (0 : Int32)))  :
    MetFree l (⟨"java/lang/String", "isLatin1", "()Z"⟩ : MethodName) (head1 (Jvm.Cond.code (⟨"java/lang/String", "isLatin1", "()Z"⟩ : MethodName) jdk_42_method_154_code 1 (some .boolean) :: ws) ({ frames := 0, cells := 0, slots := 0, locals := 0 } : Room)) (fun aa_ U_ => aa_ = #[(.ref o)] ∧ Z.Warmed39 U_.vm ∧ U_.heap = h0) (fun _ _ _ _ _ => True) (fun _ U_ o_ V_ => ∃ v_ L_, o_ = .returned v_ ∧ QI (1 : Int32) h0 n0 v_ V_.heap L_ ∧ FrameEnd U_ o_ V_ L_ ({ frames := 0, cells := 0, slots := 0, locals := 0 } : Room).cells ({ frames := 0, cells := 0, slots := 0, locals := 0 } : Room).slots) := by
  refine MetFree.of_bodySF (plainFor_of_name pn_15) hisR ?_
  intro p e s m args below meth c s₁ Bd hml0 hP hK
  obtain ⟨rfl, hZ, hh⟩ := hP
  have hx := Bd.exec
  have hby := Bd.bytes
  have hml : c.maxLocals = 1 := hml0
  have hown : s.vm.findClass "java/lang/String" = some m.cls := findClass_of_methodNamed Bd.named
  have hnm := (name_of_methodNamed Bd.named Bd.method).1
  have X0 : Stand p l e ({ frames := 0, cells := 0, slots := 0, locals := 0 } : Room) s m #[(.ref o)] below meth c s₁ [] 0 0 := Stand.of_body Bd
  have e0 : s₁.heap = h0 := by rw [← hh, Bd.state]; rfl
  have N0 := Fr.nil n0
  have pre0 : ∀ zz, Steps p.tables e below (s₁.setTop (mkF m 0 #[.val (.ref o)] [])) zz → Steps p.tables e below (s₁.setTop (entryFrame m #[(.ref o)] 1)) zz := fun zz kz_ => castTop (ef_15 m o) kz_
  obtain ⟨kc, hkc, hcs⟩ := SK.1
  obtain ⟨T14, X14, e14, st14⟩ := getS2 X0 hx hZ hown (host := "") (Or.inl (hw _ (List.mem_of_getElem? (i := 25) rfl))) Via.refl e0 (Sta.ext O.2 hcs) (g := (mkF m 0 #[.val (.ref o)] [])) rfl (hb hby d15_0)
  obtain ⟨T15, X15, e15, st15⟩ := getF X14 hx hZ hown (host := "") (Or.inl (hw _ (List.mem_of_getElem? (i := 37) rfl))) Via.refl e14 FC (g := (mkF m 7 #[.val (.ref o)] [(.ref o)])) rfl rfl (hb hby d15_7)
  obtain ⟨fs, hr, hrun, hended, hW, hsame⟩ := X15.leave (v := some (.int (1 : Int32))) (fun h => by rw [Bd.returns] at h; cases h)
  refine ⟨_, _, pre0 _ ?_, hrun, hended, _, _, rfl, ?_, ⟨_, rfl⟩, hW, hsame.mono (by decide) (by decide)⟩
  · show Steps p.tables e below (s₁.setTop (mkF m 0 #[.val (.ref o)] [])) _
    refine st14 _ ?_
    refine XS.ifNo X14.here hx rfl (hb hby d15_3) rfl ((if0 _ _).trans (feq hkc).1) ?_
    refine XS.aloadN X14.here hx rfl (hb hby d15_6) rfl rfl ?_
    show Steps p.tables e below (T14.setTop (mkF m 7 #[.val (.ref o)] [(.ref o)])) _
    refine st15 _ ?_
    refine XS.ifNo X15.here hx rfl (hb hby d15_10) rfl ((if0 _ _).trans (teq (rfl : (0 : Int32) = (0 : Int32))).2) ?_
    refine XS.iconst X15.here hx rfl (hb hby d15_13) ?_
    refine XS.goto X15.here hx rfl (pc0 := 14) (pc' := 18) rfl (hb hby d15_14) (by decide) (by decide) ?_
    show Steps p.tables e below (T15.setTop (mkF m 18 #[.val (.ref o)] [(.int (1 : Int32))])) _
    exact retN X15 hx (t := .boolean) Bd.returns (by simp) (hb hby d15_18) hr
  · show QI (1 : Int32) h0 n0 _ T15.heap _
    rw [e15]
    exact ⟨rfl, N0, rfl⟩
theorem d10_0 : decode jdk_42_method_54_code 0 = .ok (.aload_n 0, 1) := by decide +kernel
theorem d10_1 : decode jdk_42_method_54_code 1 = .ok (.getfield 9, 3) := by decide +kernel
theorem d10_4 : decode jdk_42_method_54_code 4 = .ok (.arraylength, 1) := by decide +kernel
theorem d10_5 : decode jdk_42_method_54_code 5 = .ok (.aload_n 0, 1) := by decide +kernel
theorem d10_6 : decode jdk_42_method_54_code 6 = .ok (.invokevirtual 335, 3) := by decide +kernel
theorem d10_9 : decode jdk_42_method_54_code 9 = .ok (.ishr, 1) := by decide +kernel
theorem d10_10 : decode jdk_42_method_54_code 10 = .ok (.ireturn, 1) := by decide +kernel
theorem pn_10 : plainName "java/lang/String" = true := by first | (simp [plainName, overriddenIn]; done) | decide +kernel
theorem ef_10 (m : MethodId) (x0 : Addr) : entryFrame m #[(.ref x0)] 1 = mkF m 0 #[.val (.ref x0)] [] := by first | (simp [entryFrame, mkF, argsToLocals, Value.category]; done) | rfl
set_option maxRecDepth 65536 in
set_option maxHeartbeats 40000000 in
theorem rmLEN0 (l : Launch) (Z : State) (a0 : Array Value) (hw : ∀ d ∈ tables_1, d.before a0 Z = true) (ws : List Jvm.Cond) (o b : Addr) (n : Nat) (f : Nat → Value)  (h0 : Heap) (n0 : Nat) (Z0 : n0 ≤ h0.size) (hn : n ≤ 20) (O : Old Z n0 h0) (SK : StrSta Z) (EO : Exa Z h0 o "java/lang/String") (FC : Fld Z h0 o "java/lang/String" "coder" "B" (.int (0 : Int32))) (FV : Fld Z h0 o "java/lang/String" "value" "[B" (.ref b)) (FB : AF Z h0 b .byte n f)  :
    MetFree l (⟨"java/lang/String", "length", "()I"⟩ : MethodName) (head1 (Jvm.Cond.code (⟨"java/lang/String", "length", "()I"⟩ : MethodName) jdk_42_method_54_code 1 (some .int) :: ws) ({ frames := 1, cells := 0, slots := 0, locals := 14 } : Room)) (fun aa_ U_ => aa_ = #[(.ref o)] ∧ Z.Warmed39 U_.vm ∧ U_.heap = h0) (fun _ _ _ _ _ => True) (fun _ U_ o_ V_ => ∃ v_ L_, o_ = .returned v_ ∧ QI (Int32.ofNat n) h0 n0 v_ V_.heap L_ ∧ FrameEnd U_ o_ V_ L_ ({ frames := 1, cells := 0, slots := 0, locals := 14 } : Room).cells ({ frames := 1, cells := 0, slots := 0, locals := 14 } : Room).slots) := by
  refine MetFree.of_bodySF (plainFor_of_name pn_10) hisR ?_
  intro p e s m args below meth c s₁ Bd hml0 hP hK
  obtain ⟨rfl, hZ, hh⟩ := hP
  have hx := Bd.exec
  have hby := Bd.bytes
  have hml : c.maxLocals = 1 := hml0
  have hown : s.vm.findClass "java/lang/String" = some m.cls := findClass_of_methodNamed Bd.named
  have hnm := (name_of_methodNamed Bd.named Bd.method).1
  have X0 : Stand p l e ({ frames := 1, cells := 0, slots := 0, locals := 14 } : Room) s m #[(.ref o)] below meth c s₁ [] 0 0 := Stand.of_body Bd
  have e0 : s₁.heap = h0 := by rw [← hh, Bd.state]; rfl
  have N0 := Fr.nil n0
  have pre0 : ∀ zz, Steps p.tables e below (s₁.setTop (mkF m 0 #[.val (.ref o)] [])) zz → Steps p.tables e below (s₁.setTop (entryFrame m #[(.ref o)] 1)) zz := fun zz kz_ => castTop (ef_10 m o) kz_
  obtain ⟨T16, X16, e16, st16⟩ := getF X0 hx hZ hown (host := "") (Or.inl (hw _ (List.mem_of_getElem? (i := 39) rfl))) Via.refl e0 FV (g := (mkF m 1 #[.val (.ref o)] [(.ref o)])) rfl rfl (hb hby d10_1)
  obtain ⟨cq17, kq17, q17a, q17b, q17c⟩ := isOf hZ e16 EO
  obtain ⟨_, _, ⟨T17, L17, k17, n17⟩, -, X17, ⟨Lc17, hQ17, l17, y17, z17⟩, st17⟩ := X16.virtualBack hx (y := (⟨"java/lang/String", "coder", "()B"⟩ : MethodName)) (z := (⟨"java/lang/String", "coder", "()B"⟩ : MethodName)) hown (mvT hZ (hw _ (List.mem_of_getElem? (i := 51) rfl))) (mvT hZ (hw _ (List.mem_of_getElem? (i := 52) rfl))) (notFace_of_selects (args := #[]) (mvT hZ (hw _ (List.mem_of_getElem? (i := 54) rfl)))) (mvT hZ (hw _ (List.mem_of_getElem? (i := 54) rfl))) (mvT hZ (hw _ (List.mem_of_getElem? (i := 53) rfl))) (by decide) (backOf (W := 1) (rmCD0 l Z a0 hw [] o h0 n0 Z0 O SK EO FC) hZ (hw _ (List.mem_of_getElem? (i := 55) rfl)) (hw _ (List.mem_of_getElem? (i := 13) rfl)) (by decide) (by decide)) q17a q17c (g := (mkF m 6 #[.val (.ref o)] [(.ref o), (.int (Int32.ofNat n))])) rfl (by rw [hml]; rfl) (Steps.refl _) (argsL := []) (rest := [(.int (Int32.ofNat n))]) (lenOf pd_10 rfl) rfl (by show 2 * 0 + _ ≤ _; exact Nat.le_of_eq rfl) (hb hby d10_6) (fun _ _ => ⟨rfl, e16, (by decide : 0 + 0 ≤ _), (by decide : 0 + 0 ≤ _)⟩)
  dsimp only [Pt.U, Pt.locs, Pt.cells, Pt.slots] at X17 l17 y17 z17 st17 hQ17
  subst l17 y17 z17
  obtain ⟨rfl, N17q, e17⟩ := hQ17
  have N17 := Fr.app N0 N17q
  obtain ⟨fs, hr, hrun, hended, hW, hsame⟩ := X17.leave (v := some (.int (Int32.ofNat n))) (fun h => by rw [Bd.returns] at h; cases h)
  refine ⟨_, _, pre0 _ ?_, hrun, hended, _, _, rfl, ?_, ⟨_, rfl⟩, hW, hsame.mono (by decide) (by decide)⟩
  · show Steps p.tables e below (s₁.setTop (mkF m 0 #[.val (.ref o)] [])) _
    refine XS.aloadN X0.here hx rfl (hb hby d10_0) rfl rfl ?_
    show Steps p.tables e below (s₁.setTop (mkF m 1 #[.val (.ref o)] [(.ref o)])) _
    refine st16 _ ?_
    show Steps p.tables e below (T16.setTop (mkF m 4 #[.val (.ref o)] [(.ref b)])) _
    refine lenA X16 hx hZ e16 FB (g := (mkF m 4 #[.val (.ref o)] [(.ref b)])) rfl rfl (hb hby d10_4) ?_
    refine XS.aloadN X16.here hx rfl (hb hby d10_5) rfl rfl ?_
    show Steps p.tables e below (T16.setTop (mkF m 6 #[.val (.ref o)] [(.ref o), (.int (Int32.ofNat n))])) _
    refine st17.trans ?_
    refine XS.ishr X17.here hx rfl (hb hby d10_9) rfl ?_
    show Steps p.tables e below (T17.setTop (mkF m 10 #[.val (.ref o)] [(.int ((Int32.ofNat n) >>> ((0 : Int32) &&& 31)))])) _
    rw [show ((Int32.ofNat n) >>> ((0 : Int32) &&& 31)) = (Int32.ofNat n) from shr0 _]
    show Steps p.tables e below (T17.setTop (mkF m 10 #[.val (.ref o)] [(.int (Int32.ofNat n))])) _
    exact retI X17 hx Bd.returns (hb hby d10_10) hr
  · show QI (Int32.ofNat n) h0 n0 _ T17.heap _
    rw [e17]
    exact ⟨rfl, N17, rfl⟩
theorem d14_0 : decode jdk_41_method_12_code 0 = .ok (.iload_n 0, 1) := by decide +kernel
theorem d14_1 : decode jdk_41_method_12_code 1 = .ok (.ifCond .lt 13, 3) := by decide +kernel
theorem d14_4 : decode jdk_41_method_12_code 4 = .ok (.iload_n 0, 1) := by decide +kernel
theorem d14_5 : decode jdk_41_method_12_code 5 = .ok (.iload_n 1, 1) := by decide +kernel
theorem d14_6 : decode jdk_41_method_12_code 6 = .ok (.if_icmp .gt 8, 3) := by decide +kernel
theorem d14_9 : decode jdk_41_method_12_code 9 = .ok (.iload_n 1, 1) := by decide +kernel
theorem d14_10 : decode jdk_41_method_12_code 10 = .ok (.iload_n 2, 1) := by decide +kernel
theorem d14_11 : decode jdk_41_method_12_code 11 = .ok (.if_icmp .le 11, 3) := by decide +kernel
theorem d14_14 : decode jdk_41_method_12_code 14 = .ok (.aload_n 3, 1) := by decide +kernel
theorem d14_15 : decode jdk_41_method_12_code 15 = .ok (.iload_n 0, 1) := by decide +kernel
theorem d14_16 : decode jdk_41_method_12_code 16 = .ok (.iload_n 1, 1) := by decide +kernel
theorem d14_17 : decode jdk_41_method_12_code 17 = .ok (.iload_n 2, 1) := by decide +kernel
theorem d14_18 : decode jdk_41_method_12_code 18 = .ok (.invokestatic 99, 3) := by decide +kernel
theorem d14_21 : decode jdk_41_method_12_code 21 = .ok (.athrow, 1) := by decide +kernel
theorem d14_22 : decode jdk_41_method_12_code 22 = .ok (.iload_n 0, 1) := by decide +kernel
theorem d14_23 : decode jdk_41_method_12_code 23 = .ok (.ireturn, 1) := by decide +kernel
theorem pn_14 : plainName "jdk/internal/util/Preconditions" = true := by first | (simp [plainName, overriddenIn]; done) | decide +kernel
theorem ef_14 (m : MethodId) (x0 : Int32) (x1 : Int32) (x2 : Int32) (x3 : Addr) : entryFrame m #[(.int x0), (.int x1), (.int x2), (.ref x3)] 4 = mkF m 0 #[.val (.int x0), .val (.int x1), .val (.int x2), .val (.ref x3)] [] := by first | (simp [entryFrame, mkF, argsToLocals, Value.category]; done) | rfl
theorem ef_14n (m : MethodId) (x0 : Int32) (x1 : Int32) (x2 : Int32) : entryFrame m #[(.int x0), (.int x1), (.int x2), .null] 4 = mkF m 0 #[.val (.int x0), .val (.int x1), .val (.int x2), .val .null] [] := by first | (simp [entryFrame, mkF, argsToLocals, Value.category]; done) | rfl
set_option maxRecDepth 65536 in
set_option maxHeartbeats 40000000 in
theorem rmCFT0 (l : Launch) (Z : State) (a0 : Array Value) (hw : ∀ d ∈ tables_1, d.before a0 Z = true) (ws : List Jvm.Cond) (k n : Nat)  (h0 : Heap) (n0 : Nat) (Z0 : n0 ≤ h0.size) (hn : n ≤ 20) (hk : k ≤ n)  :
    MetFree l (⟨"jdk/internal/util/Preconditions", "checkFromToIndex", "(IIILjava/util/function/BiFunction;)I"⟩ : MethodName) (head1 (Jvm.Cond.code (⟨"jdk/internal/util/Preconditions", "checkFromToIndex", "(IIILjava/util/function/BiFunction;)I"⟩ : MethodName) jdk_41_method_12_code 4 (some .int) :: ws) ({ frames := 0, cells := 0, slots := 0, locals := 0 } : Room)) (fun aa_ U_ => aa_ = #[(.int (0 : Int32)), (.int (Int32.ofNat k)), (.int (Int32.ofNat n)), .null] ∧ Z.Warmed39 U_.vm ∧ U_.heap = h0) (fun _ _ _ _ _ => True) (fun _ U_ o_ V_ => ∃ v_ L_, o_ = .returned v_ ∧ QI (0 : Int32) h0 n0 v_ V_.heap L_ ∧ FrameEnd U_ o_ V_ L_ ({ frames := 0, cells := 0, slots := 0, locals := 0 } : Room).cells ({ frames := 0, cells := 0, slots := 0, locals := 0 } : Room).slots) := by
  refine MetFree.of_bodySF (plainFor_of_name pn_14) hisR ?_
  intro p e s m args below meth c s₁ Bd hml0 hP hK
  obtain ⟨rfl, hZ, hh⟩ := hP
  have hx := Bd.exec
  have hby := Bd.bytes
  have hml : c.maxLocals = 4 := hml0
  have hown : s.vm.findClass "jdk/internal/util/Preconditions" = some m.cls := findClass_of_methodNamed Bd.named
  have hnm := (name_of_methodNamed Bd.named Bd.method).1
  have X0 : Stand p l e ({ frames := 0, cells := 0, slots := 0, locals := 0 } : Room) s m #[(.int (0 : Int32)), (.int (Int32.ofNat k)), (.int (Int32.ofNat n)), .null] below meth c s₁ [] 0 0 := Stand.of_body Bd
  have e0 : s₁.heap = h0 := by rw [← hh, Bd.state]; rfl
  have N0 := Fr.nil n0
  have pre0 : ∀ zz, Steps p.tables e below (s₁.setTop (mkF m 0 #[.val (.int (0 : Int32)), .val (.int (Int32.ofNat k)), .val (.int (Int32.ofNat n)), .val .null] [])) zz → Steps p.tables e below (s₁.setTop (entryFrame m #[(.int (0 : Int32)), (.int (Int32.ofNat k)), (.int (Int32.ofNat n)), .null] 4)) zz := fun zz kz_ => castTop (ef_14n m (0 : Int32) (Int32.ofNat k) (Int32.ofNat n)) kz_
  obtain ⟨fs, hr, hrun, hended, hW, hsame⟩ := X0.leave (v := some (.int (0 : Int32))) (fun h => by rw [Bd.returns] at h; cases h)
  refine ⟨_, _, pre0 _ ?_, hrun, hended, _, _, rfl, ?_, ⟨_, rfl⟩, hW, hsame.mono (by decide) (by decide)⟩
  · show Steps p.tables e below (s₁.setTop (mkF m 0 #[.val (.int (0 : Int32)), .val (.int (Int32.ofNat k)), .val (.int (Int32.ofNat n)), .val .null] [])) _
    refine XS.iloadN X0.here hx rfl (hb hby d14_0) rfl ?_
    refine XS.ifNo X0.here hx rfl (hb hby d14_1) rfl ((if0 _ _).trans (flt (by decide : ¬ ((0 : Int32) < (0 : Int32)))).1) ?_
    refine XS.iloadN X0.here hx rfl (hb hby d14_4) rfl ?_
    refine XS.iloadN X0.here hx rfl (hb hby d14_5) rfl ?_
    refine XS.icmpNo X0.here hx rfl (hb hby d14_6) rfl (flt (nnN (by omega))).2.2.1 ?_
    refine XS.iloadN X0.here hx rfl (hb hby d14_9) rfl ?_
    show Steps p.tables e below (s₁.setTop (mkF m 10 #[.val (.int (0 : Int32)), .val (.int (Int32.ofNat k)), .val (.int (Int32.ofNat n)), .val .null] [(.int (Int32.ofNat k))])) _
    refine XS.iloadN X0.here hx rfl (hb hby d14_10) rfl ?_
    refine XS.icmpYes X0.here hx rfl (pc0 := 11) (pc' := 22) rfl (hb hby d14_11) rfl (flt (fun q => absurd ((ltN (by omega) (by omega)).mp q) (by omega))).2.2.2 (by decide) (by decide) ?_
    refine XS.iloadN X0.here hx rfl (hb hby d14_22) rfl ?_
    show Steps p.tables e below (s₁.setTop (mkF m 23 #[.val (.int (0 : Int32)), .val (.int (Int32.ofNat k)), .val (.int (Int32.ofNat n)), .val .null] [(.int (0 : Int32))])) _
    exact retI X0 hx Bd.returns (hb hby d14_23) hr
  · show QI (0 : Int32) h0 n0 _ s₁.heap _
    rw [e0]
    exact ⟨rfl, N0, rfl⟩
set_option maxRecDepth 65536 in
set_option maxHeartbeats 40000000 in
theorem rmCFT1 (l : Launch) (Z : State) (a0 : Array Value) (hw : ∀ d ∈ tables_1, d.before a0 Z = true) (ws : List Jvm.Cond) (k n : Nat) (fa : Addr)  (h0 : Heap) (n0 : Nat) (Z0 : n0 ≤ h0.size) (hn : n ≤ 20) (hk : k ≤ n)  :
    MetFree l (⟨"jdk/internal/util/Preconditions", "checkFromToIndex", "(IIILjava/util/function/BiFunction;)I"⟩ : MethodName) (head1 (Jvm.Cond.code (⟨"jdk/internal/util/Preconditions", "checkFromToIndex", "(IIILjava/util/function/BiFunction;)I"⟩ : MethodName) jdk_41_method_12_code 4 (some .int) :: ws) ({ frames := 0, cells := 0, slots := 0, locals := 0 } : Room)) (fun aa_ U_ => aa_ = #[(.int (0 : Int32)), (.int (Int32.ofNat k)), (.int (Int32.ofNat n)), (.ref fa)] ∧ Z.Warmed39 U_.vm ∧ U_.heap = h0) (fun _ _ _ _ _ => True) (fun _ U_ o_ V_ => ∃ v_ L_, o_ = .returned v_ ∧ QI (0 : Int32) h0 n0 v_ V_.heap L_ ∧ FrameEnd U_ o_ V_ L_ ({ frames := 0, cells := 0, slots := 0, locals := 0 } : Room).cells ({ frames := 0, cells := 0, slots := 0, locals := 0 } : Room).slots) := by
  refine MetFree.of_bodySF (plainFor_of_name pn_14) hisR ?_
  intro p e s m args below meth c s₁ Bd hml0 hP hK
  obtain ⟨rfl, hZ, hh⟩ := hP
  have hx := Bd.exec
  have hby := Bd.bytes
  have hml : c.maxLocals = 4 := hml0
  have hown : s.vm.findClass "jdk/internal/util/Preconditions" = some m.cls := findClass_of_methodNamed Bd.named
  have hnm := (name_of_methodNamed Bd.named Bd.method).1
  have X0 : Stand p l e ({ frames := 0, cells := 0, slots := 0, locals := 0 } : Room) s m #[(.int (0 : Int32)), (.int (Int32.ofNat k)), (.int (Int32.ofNat n)), (.ref fa)] below meth c s₁ [] 0 0 := Stand.of_body Bd
  have e0 : s₁.heap = h0 := by rw [← hh, Bd.state]; rfl
  have N0 := Fr.nil n0
  have pre0 : ∀ zz, Steps p.tables e below (s₁.setTop (mkF m 0 #[.val (.int (0 : Int32)), .val (.int (Int32.ofNat k)), .val (.int (Int32.ofNat n)), .val (.ref fa)] [])) zz → Steps p.tables e below (s₁.setTop (entryFrame m #[(.int (0 : Int32)), (.int (Int32.ofNat k)), (.int (Int32.ofNat n)), (.ref fa)] 4)) zz := fun zz kz_ => castTop (ef_14 m (0 : Int32) (Int32.ofNat k) (Int32.ofNat n) fa) kz_
  obtain ⟨fs, hr, hrun, hended, hW, hsame⟩ := X0.leave (v := some (.int (0 : Int32))) (fun h => by rw [Bd.returns] at h; cases h)
  refine ⟨_, _, pre0 _ ?_, hrun, hended, _, _, rfl, ?_, ⟨_, rfl⟩, hW, hsame.mono (by decide) (by decide)⟩
  · show Steps p.tables e below (s₁.setTop (mkF m 0 #[.val (.int (0 : Int32)), .val (.int (Int32.ofNat k)), .val (.int (Int32.ofNat n)), .val (.ref fa)] [])) _
    refine XS.iloadN X0.here hx rfl (hb hby d14_0) rfl ?_
    refine XS.ifNo X0.here hx rfl (hb hby d14_1) rfl ((if0 _ _).trans (flt (by decide : ¬ ((0 : Int32) < (0 : Int32)))).1) ?_
    refine XS.iloadN X0.here hx rfl (hb hby d14_4) rfl ?_
    refine XS.iloadN X0.here hx rfl (hb hby d14_5) rfl ?_
    refine XS.icmpNo X0.here hx rfl (hb hby d14_6) rfl (flt (nnN (by omega))).2.2.1 ?_
    refine XS.iloadN X0.here hx rfl (hb hby d14_9) rfl ?_
    show Steps p.tables e below (s₁.setTop (mkF m 10 #[.val (.int (0 : Int32)), .val (.int (Int32.ofNat k)), .val (.int (Int32.ofNat n)), .val (.ref fa)] [(.int (Int32.ofNat k))])) _
    refine XS.iloadN X0.here hx rfl (hb hby d14_10) rfl ?_
    refine XS.icmpYes X0.here hx rfl (pc0 := 11) (pc' := 22) rfl (hb hby d14_11) rfl (flt (fun q => absurd ((ltN (by omega) (by omega)).mp q) (by omega))).2.2.2 (by decide) (by decide) ?_
    refine XS.iloadN X0.here hx rfl (hb hby d14_22) rfl ?_
    show Steps p.tables e below (s₁.setTop (mkF m 23 #[.val (.int (0 : Int32)), .val (.int (Int32.ofNat k)), .val (.int (Int32.ofNat n)), .val (.ref fa)] [(.int (0 : Int32))])) _
    exact retI X0 hx Bd.returns (hb hby d14_23) hr
  · show QI (0 : Int32) h0 n0 _ s₁.heap _
    rw [e0]
    exact ⟨rfl, N0, rfl⟩
theorem d13_0 : decode jdk_42_method_158_code 0 = .ok (.iload_n 0, 1) := by decide +kernel
theorem d13_1 : decode jdk_42_method_158_code 1 = .ok (.iload_n 1, 1) := by decide +kernel
theorem d13_2 : decode jdk_42_method_158_code 2 = .ok (.iload_n 2, 1) := by decide +kernel
theorem d13_3 : decode jdk_42_method_158_code 3 = .ok (.getstatic 1053, 3) := by decide +kernel
theorem d13_6 : decode jdk_42_method_158_code 6 = .ok (.invokestatic 1062, 3) := by decide +kernel
theorem d13_9 : decode jdk_42_method_158_code 9 = .ok (.pop, 1) := by decide +kernel
theorem d13_10 : decode jdk_42_method_158_code 10 = .ok (.return_, 1) := by decide +kernel
theorem pn_13 : plainName "java/lang/String" = true := by first | (simp [plainName, overriddenIn]; done) | decide +kernel
theorem ef_13 (m : MethodId) (x0 : Int32) (x1 : Int32) (x2 : Int32) : entryFrame m #[(.int x0), (.int x1), (.int x2)] 3 = mkF m 0 #[.val (.int x0), .val (.int x1), .val (.int x2)] [] := by first | (simp [entryFrame, mkF, argsToLocals, Value.category]; done) | rfl
set_option maxRecDepth 65536 in
set_option maxHeartbeats 40000000 in
theorem rmCBE0 (l : Launch) (Z : State) (a0 : Array Value) (hw : ∀ d ∈ tables_1, d.before a0 Z = true) (ws : List Jvm.Cond) (k n : Nat)  (h0 : Heap) (n0 : Nat) (Z0 : n0 ≤ h0.size) (hn : n ≤ 20) (hk : k ≤ n) (O : Old Z n0 h0) (hfm : Sta Z Z.heap "jdk/internal/util/Preconditions" "SIOOBE_FORMATTER" "Ljava/util/function/BiFunction;" .null)  :
    MetFree l (⟨"java/lang/String", "checkBoundsBeginEnd", "(III)V"⟩ : MethodName) (head1 (Jvm.Cond.code (⟨"java/lang/String", "checkBoundsBeginEnd", "(III)V"⟩ : MethodName) jdk_42_method_158_code 3 none :: ws) ({ frames := 1, cells := 0, slots := 0, locals := 16 } : Room)) (fun aa_ U_ => aa_ = #[(.int (0 : Int32)), (.int (Int32.ofNat k)), (.int (Int32.ofNat n))] ∧ Z.Warmed39 U_.vm ∧ U_.heap = h0) (fun _ _ _ _ _ => True) (fun _ U_ o_ V_ => ∃ v_ L_, o_ = .returned v_ ∧ QN  h0 n0 v_ V_.heap L_ ∧ FrameEnd U_ o_ V_ L_ ({ frames := 1, cells := 0, slots := 0, locals := 16 } : Room).cells ({ frames := 1, cells := 0, slots := 0, locals := 16 } : Room).slots) := by
  refine MetFree.of_bodySF (plainFor_of_name pn_13) hisR ?_
  intro p e s m args below meth c s₁ Bd hml0 hP hK
  obtain ⟨rfl, hZ, hh⟩ := hP
  have hx := Bd.exec
  have hby := Bd.bytes
  have hml : c.maxLocals = 3 := hml0
  have hown : s.vm.findClass "java/lang/String" = some m.cls := findClass_of_methodNamed Bd.named
  have hnm := (name_of_methodNamed Bd.named Bd.method).1
  have X0 : Stand p l e ({ frames := 1, cells := 0, slots := 0, locals := 16 } : Room) s m #[(.int (0 : Int32)), (.int (Int32.ofNat k)), (.int (Int32.ofNat n))] below meth c s₁ [] 0 0 := Stand.of_body Bd
  have e0 : s₁.heap = h0 := by rw [← hh, Bd.state]; rfl
  have N0 := Fr.nil n0
  have pre0 : ∀ zz, Steps p.tables e below (s₁.setTop (mkF m 0 #[.val (.int (0 : Int32)), .val (.int (Int32.ofNat k)), .val (.int (Int32.ofNat n))] [])) zz → Steps p.tables e below (s₁.setTop (entryFrame m #[(.int (0 : Int32)), (.int (Int32.ofNat k)), (.int (Int32.ofNat n))] 3)) zz := fun zz kz_ => castTop (ef_13 m (0 : Int32) (Int32.ofNat k) (Int32.ofNat n)) kz_
  obtain ⟨T18, X18, e18, st18⟩ := getS2 X0 hx hZ hown (host := "") (Or.inl (hw _ (List.mem_of_getElem? (i := 67) rfl))) Via.refl e0 (Sta.ext O.2 hfm) (g := (mkF m 3 #[.val (.int (0 : Int32)), .val (.int (Int32.ofNat k)), .val (.int (Int32.ofNat n))] [(.int (Int32.ofNat n)), (.int (Int32.ofNat k)), (.int (0 : Int32))])) rfl (hb hby d13_3)
  obtain ⟨_, _, ⟨T19, L19, k19, n19⟩, -, X19, ⟨Lc19, hQ19, l19, y19, z19⟩, st19⟩ := Jvm.LawKit.callS X18 hx (y := (⟨"jdk/internal/util/Preconditions", "checkFromToIndex", "(IIILjava/util/function/BiFunction;)I"⟩ : MethodName)) hown (mvT hZ (hw _ (List.mem_of_getElem? (i := 69) rfl))) (mvT hZ (hw _ (List.mem_of_getElem? (i := 70) rfl))) (mvT hZ (hw _ (List.mem_of_getElem? (i := 68) rfl))) (mvT hZ (hw _ (List.mem_of_getElem? (i := 71) rfl))) (by decide) (backOf (W := 0) (rmCFT0 l Z a0 hw [] k n h0 n0 Z0 hn hk) hZ (hw _ (List.mem_of_getElem? (i := 71) rfl)) (hw _ (List.mem_of_getElem? (i := 68) rfl)) (by decide) (by decide)) (g := (mkF m 6 #[.val (.int (0 : Int32)), .val (.int (Int32.ofNat k)), .val (.int (Int32.ofNat n))] [.null, (.int (Int32.ofNat n)), (.int (Int32.ofNat k)), (.int (0 : Int32))])) rfl (by rw [hml]; rfl) (argsL := [(.int (0 : Int32)), (.int (Int32.ofNat k)), (.int (Int32.ofNat n)), .null]) (rest := []) (lenOf pd_13 rfl) rfl (by show 2 * 0 + _ ≤ _; exact Nat.le_of_eq rfl) (hb hby d13_6) (fun _ _ => ⟨rfl, e18, (by decide : 0 + 0 ≤ _), (by decide : 0 + 0 ≤ _)⟩)
  dsimp only [Pt.U, Pt.locs, Pt.cells, Pt.slots] at X19 l19 y19 z19 st19 hQ19
  subst l19 y19 z19
  obtain ⟨rfl, N19q, e19⟩ := hQ19
  have N19 := Fr.app N0 N19q
  obtain ⟨fs, hr, hrun, hended, hW, hsame⟩ := X19.leave (v := none) (fun _ => rfl)
  refine ⟨_, _, pre0 _ ?_, hrun, hended, _, _, rfl, ?_, ⟨_, rfl⟩, hW, hsame.mono (by decide) (by decide)⟩
  · show Steps p.tables e below (s₁.setTop (mkF m 0 #[.val (.int (0 : Int32)), .val (.int (Int32.ofNat k)), .val (.int (Int32.ofNat n))] [])) _
    refine XS.iloadN X0.here hx rfl (hb hby d13_0) rfl ?_
    refine XS.iloadN X0.here hx rfl (hb hby d13_1) rfl ?_
    refine XS.iloadN X0.here hx rfl (hb hby d13_2) rfl ?_
    show Steps p.tables e below (s₁.setTop (mkF m 3 #[.val (.int (0 : Int32)), .val (.int (Int32.ofNat k)), .val (.int (Int32.ofNat n))] [(.int (Int32.ofNat n)), (.int (Int32.ofNat k)), (.int (0 : Int32))])) _
    refine st18 _ ?_
    show Steps p.tables e below (T18.setTop (mkF m 6 #[.val (.int (0 : Int32)), .val (.int (Int32.ofNat k)), .val (.int (Int32.ofNat n))] [.null, (.int (Int32.ofNat n)), (.int (Int32.ofNat k)), (.int (0 : Int32))])) _
    refine st19 _ ?_
    refine XS.pop X19.here hx rfl (hb hby d13_9) rfl rfl ?_
    show Steps p.tables e below (T19.setTop (mkF m 10 #[.val (.int (0 : Int32)), .val (.int (Int32.ofNat k)), .val (.int (Int32.ofNat n))] [])) _
    exact X19.returnOut hx Bd.returns (hb hby d13_10) hr
  · show QN  h0 n0 _ T19.heap _
    rw [e19]
    exact ⟨rfl, N19, rfl⟩
set_option maxRecDepth 65536 in
set_option maxHeartbeats 40000000 in
theorem rmCBE1 (l : Launch) (Z : State) (a0 : Array Value) (hw : ∀ d ∈ tables_1, d.before a0 Z = true) (ws : List Jvm.Cond) (k n : Nat) (fa : Addr)  (h0 : Heap) (n0 : Nat) (Z0 : n0 ≤ h0.size) (hn : n ≤ 20) (hk : k ≤ n) (O : Old Z n0 h0) (hfm : Sta Z Z.heap "jdk/internal/util/Preconditions" "SIOOBE_FORMATTER" "Ljava/util/function/BiFunction;" (.ref fa))  :
    MetFree l (⟨"java/lang/String", "checkBoundsBeginEnd", "(III)V"⟩ : MethodName) (head1 (Jvm.Cond.code (⟨"java/lang/String", "checkBoundsBeginEnd", "(III)V"⟩ : MethodName) jdk_42_method_158_code 3 none :: ws) ({ frames := 1, cells := 0, slots := 0, locals := 16 } : Room)) (fun aa_ U_ => aa_ = #[(.int (0 : Int32)), (.int (Int32.ofNat k)), (.int (Int32.ofNat n))] ∧ Z.Warmed39 U_.vm ∧ U_.heap = h0) (fun _ _ _ _ _ => True) (fun _ U_ o_ V_ => ∃ v_ L_, o_ = .returned v_ ∧ QN  h0 n0 v_ V_.heap L_ ∧ FrameEnd U_ o_ V_ L_ ({ frames := 1, cells := 0, slots := 0, locals := 16 } : Room).cells ({ frames := 1, cells := 0, slots := 0, locals := 16 } : Room).slots) := by
  refine MetFree.of_bodySF (plainFor_of_name pn_13) hisR ?_
  intro p e s m args below meth c s₁ Bd hml0 hP hK
  obtain ⟨rfl, hZ, hh⟩ := hP
  have hx := Bd.exec
  have hby := Bd.bytes
  have hml : c.maxLocals = 3 := hml0
  have hown : s.vm.findClass "java/lang/String" = some m.cls := findClass_of_methodNamed Bd.named
  have hnm := (name_of_methodNamed Bd.named Bd.method).1
  have X0 : Stand p l e ({ frames := 1, cells := 0, slots := 0, locals := 16 } : Room) s m #[(.int (0 : Int32)), (.int (Int32.ofNat k)), (.int (Int32.ofNat n))] below meth c s₁ [] 0 0 := Stand.of_body Bd
  have e0 : s₁.heap = h0 := by rw [← hh, Bd.state]; rfl
  have N0 := Fr.nil n0
  have pre0 : ∀ zz, Steps p.tables e below (s₁.setTop (mkF m 0 #[.val (.int (0 : Int32)), .val (.int (Int32.ofNat k)), .val (.int (Int32.ofNat n))] [])) zz → Steps p.tables e below (s₁.setTop (entryFrame m #[(.int (0 : Int32)), (.int (Int32.ofNat k)), (.int (Int32.ofNat n))] 3)) zz := fun zz kz_ => castTop (ef_13 m (0 : Int32) (Int32.ofNat k) (Int32.ofNat n)) kz_
  obtain ⟨T20, X20, e20, st20⟩ := getS2 X0 hx hZ hown (host := "") (Or.inl (hw _ (List.mem_of_getElem? (i := 67) rfl))) Via.refl e0 (Sta.ext O.2 hfm) (g := (mkF m 3 #[.val (.int (0 : Int32)), .val (.int (Int32.ofNat k)), .val (.int (Int32.ofNat n))] [(.int (Int32.ofNat n)), (.int (Int32.ofNat k)), (.int (0 : Int32))])) rfl (hb hby d13_3)
  obtain ⟨_, _, ⟨T21, L21, k21, n21⟩, -, X21, ⟨Lc21, hQ21, l21, y21, z21⟩, st21⟩ := Jvm.LawKit.callS X20 hx (y := (⟨"jdk/internal/util/Preconditions", "checkFromToIndex", "(IIILjava/util/function/BiFunction;)I"⟩ : MethodName)) hown (mvT hZ (hw _ (List.mem_of_getElem? (i := 69) rfl))) (mvT hZ (hw _ (List.mem_of_getElem? (i := 70) rfl))) (mvT hZ (hw _ (List.mem_of_getElem? (i := 68) rfl))) (mvT hZ (hw _ (List.mem_of_getElem? (i := 71) rfl))) (by decide) (backOf (W := 0) (rmCFT1 l Z a0 hw [] k n fa h0 n0 Z0 hn hk) hZ (hw _ (List.mem_of_getElem? (i := 71) rfl)) (hw _ (List.mem_of_getElem? (i := 68) rfl)) (by decide) (by decide)) (g := (mkF m 6 #[.val (.int (0 : Int32)), .val (.int (Int32.ofNat k)), .val (.int (Int32.ofNat n))] [(.ref fa), (.int (Int32.ofNat n)), (.int (Int32.ofNat k)), (.int (0 : Int32))])) rfl (by rw [hml]; rfl) (argsL := [(.int (0 : Int32)), (.int (Int32.ofNat k)), (.int (Int32.ofNat n)), (.ref fa)]) (rest := []) (lenOf pd_13 rfl) rfl (by show 2 * 0 + _ ≤ _; exact Nat.le_of_eq rfl) (hb hby d13_6) (fun _ _ => ⟨rfl, e20, (by decide : 0 + 0 ≤ _), (by decide : 0 + 0 ≤ _)⟩)
  dsimp only [Pt.U, Pt.locs, Pt.cells, Pt.slots] at X21 l21 y21 z21 st21 hQ21
  subst l21 y21 z21
  obtain ⟨rfl, N21q, e21⟩ := hQ21
  have N21 := Fr.app N0 N21q
  obtain ⟨fs, hr, hrun, hended, hW, hsame⟩ := X21.leave (v := none) (fun _ => rfl)
  refine ⟨_, _, pre0 _ ?_, hrun, hended, _, _, rfl, ?_, ⟨_, rfl⟩, hW, hsame.mono (by decide) (by decide)⟩
  · show Steps p.tables e below (s₁.setTop (mkF m 0 #[.val (.int (0 : Int32)), .val (.int (Int32.ofNat k)), .val (.int (Int32.ofNat n))] [])) _
    refine XS.iloadN X0.here hx rfl (hb hby d13_0) rfl ?_
    refine XS.iloadN X0.here hx rfl (hb hby d13_1) rfl ?_
    refine XS.iloadN X0.here hx rfl (hb hby d13_2) rfl ?_
    show Steps p.tables e below (s₁.setTop (mkF m 3 #[.val (.int (0 : Int32)), .val (.int (Int32.ofNat k)), .val (.int (Int32.ofNat n))] [(.int (Int32.ofNat n)), (.int (Int32.ofNat k)), (.int (0 : Int32))])) _
    refine st20 _ ?_
    show Steps p.tables e below (T20.setTop (mkF m 6 #[.val (.int (0 : Int32)), .val (.int (Int32.ofNat k)), .val (.int (Int32.ofNat n))] [(.ref fa), (.int (Int32.ofNat n)), (.int (Int32.ofNat k)), (.int (0 : Int32))])) _
    refine st21 _ ?_
    refine XS.pop X21.here hx rfl (hb hby d13_9) rfl rfl ?_
    show Steps p.tables e below (T21.setTop (mkF m 10 #[.val (.int (0 : Int32)), .val (.int (Int32.ofNat k)), .val (.int (Int32.ofNat n))] [])) _
    exact X21.returnOut hx Bd.returns (hb hby d13_10) hr
  · show QN  h0 n0 _ T21.heap _
    rw [e21]
    exact ⟨rfl, N21, rfl⟩
set_option maxRecDepth 65536 in
set_option maxHeartbeats 40000000 in
theorem rmCBE (l : Launch) (Z : State) (a0 : Array Value) (hw : ∀ d ∈ tables_1, d.before a0 Z = true) (ws : List Jvm.Cond) (k n : Nat)  (h0 : Heap) (n0 : Nat) (Z0 : n0 ≤ h0.size) (hn : n ≤ 20) (hk : k ≤ n) (O : Old Z n0 h0) (SK : StrSta Z)  :
    MetFree l (⟨"java/lang/String", "checkBoundsBeginEnd", "(III)V"⟩ : MethodName) (head1 (Jvm.Cond.code (⟨"java/lang/String", "checkBoundsBeginEnd", "(III)V"⟩ : MethodName) jdk_42_method_158_code 3 none :: ws) ({ frames := 1, cells := 0, slots := 0, locals := 16 } : Room)) (fun aa_ U_ => aa_ = #[(.int (0 : Int32)), (.int (Int32.ofNat k)), (.int (Int32.ofNat n))] ∧ Z.Warmed39 U_.vm ∧ U_.heap = h0) (fun _ _ _ _ _ => True) (fun _ U_ o_ V_ => ∃ v_ L_, o_ = .returned v_ ∧ QN  h0 n0 v_ V_.heap L_ ∧ FrameEnd U_ o_ V_ L_ ({ frames := 1, cells := 0, slots := 0, locals := 16 } : Room).cells ({ frames := 1, cells := 0, slots := 0, locals := 16 } : Room).slots) := by
  obtain hfm | ⟨fa, hfm⟩ := SK.2
  · exact rmCBE0 l Z a0 hw ws k n h0 n0 Z0 hn hk O hfm
  · exact rmCBE1 l Z a0 hw ws k n fa h0 n0 Z0 hn hk O hfm
theorem d19_0 : decode jdk_65_method_131_code 0 = .ok (.iload_n 1, 1) := by decide +kernel
theorem d19_1 : decode jdk_65_method_131_code 1 = .ok (.iload_n 0, 1) := by decide +kernel
theorem d19_2 : decode jdk_65_method_131_code 2 = .ok (.if_icmp .ge 35, 3) := by decide +kernel
theorem d19_5 : decode jdk_65_method_131_code 5 = .ok (.new 43, 3) := by decide +kernel
theorem d19_8 : decode jdk_65_method_131_code 8 = .ok (.dup, 1) := by decide +kernel
theorem d19_9 : decode jdk_65_method_131_code 9 = .ok (.new 45, 3) := by decide +kernel
theorem d19_12 : decode jdk_65_method_131_code 12 = .ok (.dup, 1) := by decide +kernel
theorem d19_13 : decode jdk_65_method_131_code 13 = .ok (.invokespecial 47, 3) := by decide +kernel
theorem d19_16 : decode jdk_65_method_131_code 16 = .ok (.iload_n 0, 1) := by decide +kernel
theorem d19_17 : decode jdk_65_method_131_code 17 = .ok (.invokevirtual 54, 3) := by decide +kernel
theorem d19_20 : decode jdk_65_method_131_code 20 = .ok (.ldc_w 337, 3) := by decide +kernel
theorem d19_23 : decode jdk_65_method_131_code 23 = .ok (.invokevirtual 50, 3) := by decide +kernel
theorem d19_26 : decode jdk_65_method_131_code 26 = .ok (.iload_n 1, 1) := by decide +kernel
theorem d19_27 : decode jdk_65_method_131_code 27 = .ok (.invokevirtual 54, 3) := by decide +kernel
theorem d19_30 : decode jdk_65_method_131_code 30 = .ok (.invokevirtual 61, 3) := by decide +kernel
theorem d19_33 : decode jdk_65_method_131_code 33 = .ok (.invokespecial 65, 3) := by decide +kernel
theorem d19_36 : decode jdk_65_method_131_code 36 = .ok (.athrow, 1) := by decide +kernel
theorem d19_37 : decode jdk_65_method_131_code 37 = .ok (.return_, 1) := by decide +kernel
theorem pn_19 : plainName "java/util/Arrays" = true := by first | (simp [plainName, overriddenIn]; done) | decide +kernel
theorem ef_19 (m : MethodId) (x0 : Int32) (x1 : Int32) : entryFrame m #[(.int x0), (.int x1)] 2 = mkF m 0 #[.val (.int x0), .val (.int x1)] [] := by first | (simp [entryFrame, mkF, argsToLocals, Value.category]; done) | rfl
set_option maxRecDepth 65536 in
set_option maxHeartbeats 40000000 in
theorem rmCKL (l : Launch) (Z : State) (a0 : Array Value) (hw : ∀ d ∈ tables_1, d.before a0 Z = true) (ws : List Jvm.Cond) (k : Nat)  (h0 : Heap) (n0 : Nat) (Z0 : n0 ≤ h0.size) (hk : k ≤ 20)  :
    MetFree l (⟨"java/util/Arrays", "checkLength", "(II)V"⟩ : MethodName) (head1 (Jvm.Cond.code (⟨"java/util/Arrays", "checkLength", "(II)V"⟩ : MethodName) jdk_65_method_131_code 2 none :: ws) ({ frames := 0, cells := 0, slots := 0, locals := 0 } : Room)) (fun aa_ U_ => aa_ = #[(.int (0 : Int32)), (.int (Int32.ofNat k))] ∧ Z.Warmed39 U_.vm ∧ U_.heap = h0) (fun _ _ _ _ _ => True) (fun _ U_ o_ V_ => ∃ v_ L_, o_ = .returned v_ ∧ QN  h0 n0 v_ V_.heap L_ ∧ FrameEnd U_ o_ V_ L_ ({ frames := 0, cells := 0, slots := 0, locals := 0 } : Room).cells ({ frames := 0, cells := 0, slots := 0, locals := 0 } : Room).slots) := by
  refine MetFree.of_bodySF (plainFor_of_name pn_19) hisR ?_
  intro p e s m args below meth c s₁ Bd hml0 hP hK
  obtain ⟨rfl, hZ, hh⟩ := hP
  have hx := Bd.exec
  have hby := Bd.bytes
  have hml : c.maxLocals = 2 := hml0
  have hown : s.vm.findClass "java/util/Arrays" = some m.cls := findClass_of_methodNamed Bd.named
  have hnm := (name_of_methodNamed Bd.named Bd.method).1
  have X0 : Stand p l e ({ frames := 0, cells := 0, slots := 0, locals := 0 } : Room) s m #[(.int (0 : Int32)), (.int (Int32.ofNat k))] below meth c s₁ [] 0 0 := Stand.of_body Bd
  have e0 : s₁.heap = h0 := by rw [← hh, Bd.state]; rfl
  have N0 := Fr.nil n0
  have pre0 : ∀ zz, Steps p.tables e below (s₁.setTop (mkF m 0 #[.val (.int (0 : Int32)), .val (.int (Int32.ofNat k))] [])) zz → Steps p.tables e below (s₁.setTop (entryFrame m #[(.int (0 : Int32)), (.int (Int32.ofNat k))] 2)) zz := fun zz kz_ => castTop (ef_19 m (0 : Int32) (Int32.ofNat k)) kz_
  obtain ⟨fs, hr, hrun, hended, hW, hsame⟩ := X0.leave (v := none) (fun _ => rfl)
  refine ⟨_, _, pre0 _ ?_, hrun, hended, _, _, rfl, ?_, ⟨_, rfl⟩, hW, hsame.mono (by decide) (by decide)⟩
  · show Steps p.tables e below (s₁.setTop (mkF m 0 #[.val (.int (0 : Int32)), .val (.int (Int32.ofNat k))] [])) _
    refine XS.iloadN X0.here hx rfl (hb hby d19_0) rfl ?_
    refine XS.iloadN X0.here hx rfl (hb hby d19_1) rfl ?_
    refine XS.icmpYes X0.here hx rfl (pc0 := 2) (pc' := 37) rfl (hb hby d19_2) rfl (flt (nnN (by omega))).2.1 (by decide) (by decide) ?_
    show Steps p.tables e below (s₁.setTop (mkF m 37 #[.val (.int (0 : Int32)), .val (.int (Int32.ofNat k))] [])) _
    exact X0.returnOut hx Bd.returns (hb hby d19_37) hr
  · show QN  h0 n0 _ s₁.heap _
    rw [e0]
    exact ⟨rfl, N0, rfl⟩
theorem d20_0 : decode jdk_29_method_69_code 0 = .ok (.iload_n 0, 1) := by decide +kernel
theorem d20_1 : decode jdk_29_method_69_code 1 = .ok (.iload_n 1, 1) := by decide +kernel
theorem d20_2 : decode jdk_29_method_69_code 2 = .ok (.if_icmp .gt 7, 3) := by decide +kernel
theorem d20_5 : decode jdk_29_method_69_code 5 = .ok (.iload_n 0, 1) := by decide +kernel
theorem d20_6 : decode jdk_29_method_69_code 6 = .ok (.goto 4, 3) := by decide +kernel
theorem d20_9 : decode jdk_29_method_69_code 9 = .ok (.iload_n 1, 1) := by decide +kernel
theorem d20_10 : decode jdk_29_method_69_code 10 = .ok (.ireturn, 1) := by decide +kernel

theorem ef_20 (m : MethodId) (x0 : Int32) (x1 : Int32) : entryFrame m #[(.int x0), (.int x1)] 2 = mkF m 0 #[.val (.int x0), .val (.int x1)] [] := by first | (simp [entryFrame, mkF, argsToLocals, Value.category]; done) | rfl
set_option maxRecDepth 65536 in
set_option maxHeartbeats 40000000 in
theorem rmMIN (l : Launch) (Z : State) (a0 : Array Value) (hw : ∀ d ∈ tables_1, d.before a0 Z = true) (ws : List Jvm.Cond) (n k : Nat)  (h0 : Heap) (n0 : Nat) (Z0 : n0 ≤ h0.size) (hn : n ≤ 20) (hk : k < n)  :
    MetFree l (⟨"java/lang/Math", "min", "(II)I"⟩ : MethodName) (head1 (Jvm.Cond.code (⟨"java/lang/Math", "min", "(II)I"⟩ : MethodName) jdk_29_method_69_code 2 (some .int) :: ws) ({ frames := 0, cells := 0, slots := 0, locals := 0 } : Room)) (fun aa_ U_ => aa_ = #[(.int (Int32.ofNat n)), (.int (Int32.ofNat k))] ∧ Z.Warmed39 U_.vm ∧ U_.heap = h0) (fun _ _ _ _ _ => True) (fun _ U_ o_ V_ => ∃ v_ L_, o_ = .returned v_ ∧ QI (Int32.ofNat k) h0 n0 v_ V_.heap L_ ∧ FrameEnd U_ o_ V_ L_ ({ frames := 0, cells := 0, slots := 0, locals := 0 } : Room).cells ({ frames := 0, cells := 0, slots := 0, locals := 0 } : Room).slots) := by
  refine MetFree.of_bodySF (Jvm.Free.JP.mathPlain rfl (by decide +kernel)) hisR ?_
  intro p e s m args below meth c s₁ Bd hml0 hP hK
  obtain ⟨rfl, hZ, hh⟩ := hP
  have hx := Bd.exec
  have hby := Bd.bytes
  have hml : c.maxLocals = 2 := hml0
  have hown : s.vm.findClass "java/lang/Math" = some m.cls := findClass_of_methodNamed Bd.named
  have hnm := (name_of_methodNamed Bd.named Bd.method).1
  have X0 : Stand p l e ({ frames := 0, cells := 0, slots := 0, locals := 0 } : Room) s m #[(.int (Int32.ofNat n)), (.int (Int32.ofNat k))] below meth c s₁ [] 0 0 := Stand.of_body Bd
  have e0 : s₁.heap = h0 := by rw [← hh, Bd.state]; rfl
  have N0 := Fr.nil n0
  have pre0 : ∀ zz, Steps p.tables e below (s₁.setTop (mkF m 0 #[.val (.int (Int32.ofNat n)), .val (.int (Int32.ofNat k))] [])) zz → Steps p.tables e below (s₁.setTop (entryFrame m #[(.int (Int32.ofNat n)), (.int (Int32.ofNat k))] 2)) zz := fun zz kz_ => castTop (ef_20 m (Int32.ofNat n) (Int32.ofNat k)) kz_
  obtain ⟨fs, hr, hrun, hended, hW, hsame⟩ := X0.leave (v := some (.int (Int32.ofNat k))) (fun h => by rw [Bd.returns] at h; cases h)
  refine ⟨_, _, pre0 _ ?_, hrun, hended, _, _, rfl, ?_, ⟨_, rfl⟩, hW, hsame.mono (by decide) (by decide)⟩
  · show Steps p.tables e below (s₁.setTop (mkF m 0 #[.val (.int (Int32.ofNat n)), .val (.int (Int32.ofNat k))] [])) _
    refine XS.iloadN X0.here hx rfl (hb hby d20_0) rfl ?_
    refine XS.iloadN X0.here hx rfl (hb hby d20_1) rfl ?_
    refine XS.icmpYes X0.here hx rfl (pc0 := 2) (pc' := 9) rfl (hb hby d20_2) rfl (tlt ((ltN (by omega) (by omega)).mpr hk)).2.2.1 (by decide) (by decide) ?_
    refine XS.iloadN X0.here hx rfl (hb hby d20_9) rfl ?_
    show Steps p.tables e below (s₁.setTop (mkF m 10 #[.val (.int (Int32.ofNat n)), .val (.int (Int32.ofNat k))] [(.int (Int32.ofNat k))])) _
    exact retI X0 hx Bd.returns (hb hby d20_10) hr
  · show QI (Int32.ofNat k) h0 n0 _ s₁.heap _
    rw [e0]
    exact ⟨rfl, N0, rfl⟩
theorem d18_0 : decode jdk_65_method_133_code 0 = .ok (.iload_n 1, 1) := by decide +kernel
theorem d18_1 : decode jdk_65_method_133_code 1 = .ok (.iload_n 2, 1) := by decide +kernel
theorem d18_2 : decode jdk_65_method_133_code 2 = .ok (.invokestatic 343, 3) := by decide +kernel
theorem d18_5 : decode jdk_65_method_133_code 5 = .ok (.iload_n 2, 1) := by decide +kernel
theorem d18_6 : decode jdk_65_method_133_code 6 = .ok (.iload_n 1, 1) := by decide +kernel
theorem d18_7 : decode jdk_65_method_133_code 7 = .ok (.isub, 1) := by decide +kernel
theorem d18_8 : decode jdk_65_method_133_code 8 = .ok (.istore_n 3, 1) := by decide +kernel
theorem d18_9 : decode jdk_65_method_133_code 9 = .ok (.iload_n 3, 1) := by decide +kernel
theorem d18_10 : decode jdk_65_method_133_code 10 = .ok (.newarray .byte, 2) := by decide +kernel
theorem d18_12 : decode jdk_65_method_133_code 12 = .ok (.astore 4, 2) := by decide +kernel
theorem d18_14 : decode jdk_65_method_133_code 14 = .ok (.aload_n 0, 1) := by decide +kernel
theorem d18_15 : decode jdk_65_method_133_code 15 = .ok (.iload_n 1, 1) := by decide +kernel
theorem d18_16 : decode jdk_65_method_133_code 16 = .ok (.aload 4, 2) := by decide +kernel
theorem d18_18 : decode jdk_65_method_133_code 18 = .ok (.iconst 0, 1) := by decide +kernel
theorem d18_19 : decode jdk_65_method_133_code 19 = .ok (.aload_n 0, 1) := by decide +kernel
theorem d18_20 : decode jdk_65_method_133_code 20 = .ok (.arraylength, 1) := by decide +kernel
theorem d18_21 : decode jdk_65_method_133_code 21 = .ok (.iload_n 1, 1) := by decide +kernel
theorem d18_22 : decode jdk_65_method_133_code 22 = .ok (.isub, 1) := by decide +kernel
theorem d18_23 : decode jdk_65_method_133_code 23 = .ok (.iload_n 3, 1) := by decide +kernel
theorem d18_24 : decode jdk_65_method_133_code 24 = .ok (.invokestatic 304, 3) := by decide +kernel
theorem d18_27 : decode jdk_65_method_133_code 27 = .ok (.invokestatic 150, 3) := by decide +kernel
theorem d18_30 : decode jdk_65_method_133_code 30 = .ok (.aload 4, 2) := by decide +kernel
theorem d18_32 : decode jdk_65_method_133_code 32 = .ok (.areturn, 1) := by decide +kernel
theorem pn_18 : plainName "java/util/Arrays" = true := by first | (simp [plainName, overriddenIn]; done) | decide +kernel
theorem ef_18 (m : MethodId) (x0 : Addr) (x1 : Int32) (x2 : Int32) : entryFrame m #[(.ref x0), (.int x1), (.int x2)] 5 = mkF m 0 #[.val (.ref x0), .val (.int x1), .val (.int x2), .unset, .unset] [] := by first | (simp [entryFrame, mkF, argsToLocals, Value.category]; done) | rfl
set_option maxRecDepth 65536 in
set_option maxHeartbeats 40000000 in
theorem rmCRB (l : Launch) (Z : State) (a0 : Array Value) (hw : ∀ d ∈ tables_1, d.before a0 Z = true) (ws : List Jvm.Cond) (b : Addr) (n k : Nat) (f : Nat → Value)  (h0 : Heap) (n0 : Nat) (Z0 : n0 ≤ h0.size) (hn : n ≤ 20) (hk : k < n) (FB : AF Z h0 b .byte n f) (hft : ∀ j, j < n → fits .byte (f j) = true)  :
    MetFree l (⟨"java/util/Arrays", "copyOfRangeByte", "([BII)[B"⟩ : MethodName) (head1 (Jvm.Cond.code (⟨"java/util/Arrays", "copyOfRangeByte", "([BII)[B"⟩ : MethodName) jdk_65_method_133_code 5 (some (.array .byte)) :: ws) ({ frames := 1, cells := 1, slots := 20, locals := 40 } : Room)) (fun aa_ U_ => aa_ = #[(.ref b), (.int (0 : Int32)), (.int (Int32.ofNat k))] ∧ Z.Warmed39 U_.vm ∧ U_.heap = h0) (fun _ _ _ _ _ => True) (fun _ U_ o_ V_ => ∃ v_ L_, o_ = .returned v_ ∧ QA Z .byte k f h0 n0 v_ V_.heap L_ ∧ FrameEnd U_ o_ V_ L_ ({ frames := 1, cells := 1, slots := 20, locals := 40 } : Room).cells ({ frames := 1, cells := 1, slots := 20, locals := 40 } : Room).slots) := by
  refine MetFree.of_bodySF (plainFor_of_name pn_18) hisR ?_
  intro p e s m args below meth c s₁ Bd hml0 hP hK
  obtain ⟨rfl, hZ, hh⟩ := hP
  have hx := Bd.exec
  have hby := Bd.bytes
  have hml : c.maxLocals = 5 := hml0
  have hown : s.vm.findClass "java/util/Arrays" = some m.cls := findClass_of_methodNamed Bd.named
  have hnm := (name_of_methodNamed Bd.named Bd.method).1
  have X0 : Stand p l e ({ frames := 1, cells := 1, slots := 20, locals := 40 } : Room) s m #[(.ref b), (.int (0 : Int32)), (.int (Int32.ofNat k))] below meth c s₁ [] 0 0 := Stand.of_body Bd
  have e0 : s₁.heap = h0 := by rw [← hh, Bd.state]; rfl
  have N0 := Fr.nil n0
  have pre0 : ∀ zz, Steps p.tables e below (s₁.setTop (mkF m 0 #[.val (.ref b), .val (.int (0 : Int32)), .val (.int (Int32.ofNat k)), .unset, .unset] [])) zz → Steps p.tables e below (s₁.setTop (entryFrame m #[(.ref b), (.int (0 : Int32)), (.int (Int32.ofNat k))] 5)) zz := fun zz kz_ => castTop (ef_18 m b (0 : Int32) (Int32.ofNat k)) kz_
  obtain ⟨_, _, ⟨T22, L22, k22, n22⟩, -, X22, ⟨Lc22, hQ22, l22, y22, z22⟩, st22⟩ := Jvm.LawKit.callS X0 hx (y := (⟨"java/util/Arrays", "checkLength", "(II)V"⟩ : MethodName)) hown (mvT hZ (hw _ (List.mem_of_getElem? (i := 89) rfl))) (mvT hZ (hw _ (List.mem_of_getElem? (i := 90) rfl))) (mvT hZ (hw _ (List.mem_of_getElem? (i := 84) rfl))) (mvT hZ (hw _ (List.mem_of_getElem? (i := 91) rfl))) (by decide) (backOf (W := 0) (rmCKL l Z a0 hw [] k h0 n0 Z0 (by omega)) hZ (hw _ (List.mem_of_getElem? (i := 91) rfl)) (hw _ (List.mem_of_getElem? (i := 84) rfl)) (by decide) (by decide)) (g := (mkF m 2 #[.val (.ref b), .val (.int (0 : Int32)), .val (.int (Int32.ofNat k)), .unset, .unset] [(.int (Int32.ofNat k)), (.int (0 : Int32))])) rfl (by rw [hml]; rfl) (argsL := [(.int (0 : Int32)), (.int (Int32.ofNat k))]) (rest := []) (lenOf pd_17 rfl) rfl (by show 2 * 0 + _ ≤ _; exact Nat.le_of_eq rfl) (hb hby d18_2) (fun _ _ => ⟨rfl, e0, (by decide : 0 + 0 ≤ _), (by decide : 0 + 0 ≤ _)⟩)
  dsimp only [Pt.U, Pt.locs, Pt.cells, Pt.slots] at X22 l22 y22 z22 st22 hQ22
  subst l22 y22 z22
  obtain ⟨rfl, N22q, e22⟩ := hQ22
  have N22 := Fr.app N0 N22q
  obtain ⟨T23, h23, X23, e23, E23, A23, st23⟩ := nwA X22 hx hZ (hw _ (List.mem_of_getElem? (i := 30) rfl)) e22 (g := (mkF m 10 #[.val (.ref b), .val (.int (0 : Int32)), .val (.int (Int32.ofNat k)), .val (.int (Int32.ofNat k)), .unset] [(.int (Int32.ofNat k))])) rfl (hb hby d18_10) (n := k) rfl (cap := 20) (by omega) (by decide) (by decide) (by decide)
  obtain ⟨b23, q23⟩ : ∃ z, z = h0.size := ⟨_, rfl⟩
  rw [← q23] at A23 st23
  have V23 : AF Z h23 b23 .byte k (fun _ => (.int (0 : Int32))) := A23
  have g_b23 : n0 ≤ b23 := Nat.le_trans Z0 (Nat.le_of_eq q23.symm)
  have sz_b23 : h0.size ≤ b23 := Nat.le_trans (Keep.refl h0 []).1 (Nat.le_of_eq q23.symm)
  have K23 := (Keep.refl h0 []).ext E23
  have Z23 : n0 ≤ h23.size := Nat.le_trans Z0 E23.1
  have ne_b_b23 : b ≠ b23 := Nat.ne_of_lt (Nat.lt_of_lt_of_le FB.lt (Nat.le_of_eq q23.symm))
  have FB_e23 := FB.ext E23
  obtain ⟨_, _, ⟨T24, L24, k24, n24⟩, -, X24, ⟨Lc24, hQ24, l24, y24, z24⟩, st24⟩ := Jvm.LawKit.callS X23 hx (y := (⟨"java/lang/Math", "min", "(II)I"⟩ : MethodName)) hown (mvT hZ (hw _ (List.mem_of_getElem? (i := 92) rfl))) (mvT hZ (hw _ (List.mem_of_getElem? (i := 93) rfl))) (mvT hZ (hw _ (List.mem_of_getElem? (i := 94) rfl))) (mvT hZ (hw _ (List.mem_of_getElem? (i := 95) rfl))) (by decide) (backOf (W := 4) (rmMIN l Z a0 hw [] n k h23 n0 Z23 hn hk) hZ (hw _ (List.mem_of_getElem? (i := 95) rfl)) (hw _ (List.mem_of_getElem? (i := 94) rfl)) (by decide) (by decide)) (g := (mkF m 24 #[.val (.ref b), .val (.int (0 : Int32)), .val (.int (Int32.ofNat k)), .val (.int (Int32.ofNat k)), .val (.ref b23)] [(.int (Int32.ofNat k)), (.int (Int32.ofNat n)), (.int (0 : Int32)), (.ref b23), (.int (0 : Int32)), (.ref b)])) rfl (by rw [hml]; rfl) (argsL := [(.int (Int32.ofNat n)), (.int (Int32.ofNat k))]) (rest := [(.int (0 : Int32)), (.ref b23), (.int (0 : Int32)), (.ref b)]) (lenOf pd_18 rfl) rfl (by show 2 * 0 + _ ≤ _; exact Nat.le_of_eq rfl) (hb hby d18_24) (fun _ _ => ⟨rfl, e23, (by decide : 1 + 0 ≤ _), (by decide : 20 + 0 ≤ _)⟩)
  dsimp only [Pt.U, Pt.locs, Pt.cells, Pt.slots] at X24 l24 y24 z24 st24 hQ24
  subst l24 y24 z24
  obtain ⟨rfl, N24q, e24⟩ := hQ24
  have N24 := Fr.app N22 N24q
  obtain ⟨T25, h25, L25, X25, e25, N25, K25, A25, st25⟩ := cpF X24 hx hZ hown (hw _ (List.mem_of_getElem? (i := 96) rfl)) (hw _ (List.mem_of_getElem? (i := 99) rfl)) (hw _ (List.mem_of_getElem? (i := 97) rfl)) (hw _ (List.mem_of_getElem? (i := 98) rfl)) e24 FB_e23 V23 rfl (by omega) (by omega) (by omega) (by omega) hft (fun _ _ => by decide) N24 g_b23 (g := (mkF m 27 #[.val (.ref b), .val (.int (0 : Int32)), .val (.int (Int32.ofNat k)), .val (.int (Int32.ofNat k)), .val (.ref b23)] [(.int (Int32.ofNat k)), (.int (0 : Int32)), (.ref b23), (.int (0 : Int32)), (.ref b)])) rfl (by rw [hml]; rfl) rfl (hb hby d18_27) (by decide) (W := 0) (by show 2 * 0 + _ ≤ _; exact Nat.le_of_eq rfl) (by decide)
  have FB_e25 := FB_e23.keep K25 (notin1 ne_b_b23)
  have KK25 := K23.trans K25 (fun x r => by cases List.mem_singleton.mp r; exact (Or.inr sz_b23))
  have Z25 : n0 ≤ h25.size := Nat.le_trans Z23 K25.1
  obtain ⟨fs, hr, hrun, hended, hW, hsame⟩ := X25.leave (v := some (.ref b23)) (fun h => by rw [Bd.returns] at h; cases h)
  refine ⟨_, _, pre0 _ ?_, hrun, hended, _, _, rfl, ?_, ⟨_, rfl⟩, hW, hsame.mono (by decide) (by decide)⟩
  · show Steps p.tables e below (s₁.setTop (mkF m 0 #[.val (.ref b), .val (.int (0 : Int32)), .val (.int (Int32.ofNat k)), .unset, .unset] [])) _
    refine XS.iloadN X0.here hx rfl (hb hby d18_0) rfl ?_
    refine XS.iloadN X0.here hx rfl (hb hby d18_1) rfl ?_
    show Steps p.tables e below (s₁.setTop (mkF m 2 #[.val (.ref b), .val (.int (0 : Int32)), .val (.int (Int32.ofNat k)), .unset, .unset] [(.int (Int32.ofNat k)), (.int (0 : Int32))])) _
    refine st22 _ ?_
    refine XS.iloadN X22.here hx rfl (hb hby d18_5) rfl ?_
    refine XS.iloadN X22.here hx rfl (hb hby d18_6) rfl ?_
    refine XS.isub X22.here hx rfl (hb hby d18_7) rfl ?_
    show Steps p.tables e below (T22.setTop (mkF m 8 #[.val (.ref b), .val (.int (0 : Int32)), .val (.int (Int32.ofNat k)), .unset, .unset] [(.int ((Int32.ofNat k) - (0 : Int32)))])) _
    rw [show ((Int32.ofNat k) - (0 : Int32)) = (Int32.ofNat k) from Int32.sub_zero _]
    show Steps p.tables e below (T22.setTop (mkF m 8 #[.val (.ref b), .val (.int (0 : Int32)), .val (.int (Int32.ofNat k)), .unset, .unset] [(.int (Int32.ofNat k))])) _
    refine XS.istoreN X22.here hx rfl (hb hby d18_8) rfl (l' := #[.val (.ref b), .val (.int (0 : Int32)), .val (.int (Int32.ofNat k)), .val (.int (Int32.ofNat k)), .unset]) rfl ?_
    refine XS.iloadN X22.here hx rfl (hb hby d18_9) rfl ?_
    show Steps p.tables e below (T22.setTop (mkF m 10 #[.val (.ref b), .val (.int (0 : Int32)), .val (.int (Int32.ofNat k)), .val (.int (Int32.ofNat k)), .unset] [(.int (Int32.ofNat k))])) _
    refine st23 _ ?_
    refine XS.astore X23.here hx rfl (hb hby d18_12) rfl rfl (l' := #[.val (.ref b), .val (.int (0 : Int32)), .val (.int (Int32.ofNat k)), .val (.int (Int32.ofNat k)), .val (.ref b23)]) rfl ?_
    refine XS.aloadN X23.here hx rfl (hb hby d18_14) rfl rfl ?_
    refine XS.iloadN X23.here hx rfl (hb hby d18_15) rfl ?_
    refine XS.aload X23.here hx rfl (hb hby d18_16) rfl rfl ?_
    refine XS.iconst X23.here hx rfl (hb hby d18_18) ?_
    show Steps p.tables e below (T23.setTop (mkF m 19 #[.val (.ref b), .val (.int (0 : Int32)), .val (.int (Int32.ofNat k)), .val (.int (Int32.ofNat k)), .val (.ref b23)] [(.int (0 : Int32)), (.ref b23), (.int (0 : Int32)), (.ref b)])) _
    refine XS.aloadN X23.here hx rfl (hb hby d18_19) rfl rfl ?_
    show Steps p.tables e below (T23.setTop (mkF m 20 #[.val (.ref b), .val (.int (0 : Int32)), .val (.int (Int32.ofNat k)), .val (.int (Int32.ofNat k)), .val (.ref b23)] [(.ref b), (.int (0 : Int32)), (.ref b23), (.int (0 : Int32)), (.ref b)])) _
    refine lenA X23 hx hZ e23 FB_e23 (g := (mkF m 20 #[.val (.ref b), .val (.int (0 : Int32)), .val (.int (Int32.ofNat k)), .val (.int (Int32.ofNat k)), .val (.ref b23)] [(.ref b), (.int (0 : Int32)), (.ref b23), (.int (0 : Int32)), (.ref b)])) rfl rfl (hb hby d18_20) ?_
    refine XS.iloadN X23.here hx rfl (hb hby d18_21) rfl ?_
    refine XS.isub X23.here hx rfl (hb hby d18_22) rfl ?_
    show Steps p.tables e below (T23.setTop (mkF m 23 #[.val (.ref b), .val (.int (0 : Int32)), .val (.int (Int32.ofNat k)), .val (.int (Int32.ofNat k)), .val (.ref b23)] [(.int ((Int32.ofNat n) - (0 : Int32))), (.int (0 : Int32)), (.ref b23), (.int (0 : Int32)), (.ref b)])) _
    rw [show ((Int32.ofNat n) - (0 : Int32)) = (Int32.ofNat n) from Int32.sub_zero _]
    show Steps p.tables e below (T23.setTop (mkF m 23 #[.val (.ref b), .val (.int (0 : Int32)), .val (.int (Int32.ofNat k)), .val (.int (Int32.ofNat k)), .val (.ref b23)] [(.int (Int32.ofNat n)), (.int (0 : Int32)), (.ref b23), (.int (0 : Int32)), (.ref b)])) _
    refine XS.iloadN X23.here hx rfl (hb hby d18_23) rfl ?_
    show Steps p.tables e below (T23.setTop (mkF m 24 #[.val (.ref b), .val (.int (0 : Int32)), .val (.int (Int32.ofNat k)), .val (.int (Int32.ofNat k)), .val (.ref b23)] [(.int (Int32.ofNat k)), (.int (Int32.ofNat n)), (.int (0 : Int32)), (.ref b23), (.int (0 : Int32)), (.ref b)])) _
    refine st24 _ ?_
    show Steps p.tables e below (T24.setTop (mkF m 27 #[.val (.ref b), .val (.int (0 : Int32)), .val (.int (Int32.ofNat k)), .val (.int (Int32.ofNat k)), .val (.ref b23)] [(.int (Int32.ofNat k)), (.int (0 : Int32)), (.ref b23), (.int (0 : Int32)), (.ref b)])) _
    refine st25 _ ?_
    refine XS.aload X25.here hx rfl (hb hby d18_30) rfl rfl ?_
    show Steps p.tables e below (T25.setTop (mkF m 32 #[.val (.ref b), .val (.int (0 : Int32)), .val (.int (Int32.ofNat k)), .val (.int (Int32.ofNat k)), .val (.ref b23)] [(.ref b23)])) _
    jvm_step X25.here [X25.here.top, hx, (hb hby d18_32), X25.method', Bd.returns, Value.isRef, FieldType.isReference]
    first | (intro acts; rw [hr _ acts rfl rfl rfl]) | rw [hr _ _ rfl rfl rfl]
    exact Steps.refl _
  · show QA Z .byte k f h0 n0 _ T25.heap _
    exact ⟨b23, rfl, N25, by rw [e25]; exact KK25, sz_b23, by rw [e25]; exact A25.congr fun j hj => if_pos hj⟩
theorem d17_0 : decode jdk_65_method_132_code 0 = .ok (.iload_n 1, 1) := by decide +kernel
theorem d17_1 : decode jdk_65_method_132_code 1 = .ok (.ifCond .ne 9, 3) := by decide +kernel
theorem d17_4 : decode jdk_65_method_132_code 4 = .ok (.iload_n 2, 1) := by decide +kernel
theorem d17_5 : decode jdk_65_method_132_code 5 = .ok (.aload_n 0, 1) := by decide +kernel
theorem d17_6 : decode jdk_65_method_132_code 6 = .ok (.arraylength, 1) := by decide +kernel
theorem d17_7 : decode jdk_65_method_132_code 7 = .ok (.if_icmp .eq 10, 3) := by decide +kernel
theorem d17_10 : decode jdk_65_method_132_code 10 = .ok (.aload_n 0, 1) := by decide +kernel
theorem d17_11 : decode jdk_65_method_132_code 11 = .ok (.iload_n 1, 1) := by decide +kernel
theorem d17_12 : decode jdk_65_method_132_code 12 = .ok (.iload_n 2, 1) := by decide +kernel
theorem d17_13 : decode jdk_65_method_132_code 13 = .ok (.invokestatic 339, 3) := by decide +kernel
theorem d17_16 : decode jdk_65_method_132_code 16 = .ok (.areturn, 1) := by decide +kernel
theorem d17_17 : decode jdk_65_method_132_code 17 = .ok (.aload_n 0, 1) := by decide +kernel
theorem d17_18 : decode jdk_65_method_132_code 18 = .ok (.invokevirtual 310, 3) := by decide +kernel
theorem d17_21 : decode jdk_65_method_132_code 21 = .ok (.checkcast 311, 3) := by decide +kernel
theorem d17_24 : decode jdk_65_method_132_code 24 = .ok (.areturn, 1) := by decide +kernel
theorem pn_17 : plainName "java/util/Arrays" = true := by first | (simp [plainName, overriddenIn]; done) | decide +kernel
theorem ef_17 (m : MethodId) (x0 : Addr) (x1 : Int32) (x2 : Int32) : entryFrame m #[(.ref x0), (.int x1), (.int x2)] 3 = mkF m 0 #[.val (.ref x0), .val (.int x1), .val (.int x2)] [] := by first | (simp [entryFrame, mkF, argsToLocals, Value.category]; done) | rfl
set_option maxRecDepth 65536 in
set_option maxHeartbeats 40000000 in
theorem rmCR (l : Launch) (Z : State) (a0 : Array Value) (hw : ∀ d ∈ tables_1, d.before a0 Z = true) (ws : List Jvm.Cond) (b : Addr) (n k : Nat) (f : Nat → Value)  (h0 : Heap) (n0 : Nat) (Z0 : n0 ≤ h0.size) (hn : n ≤ 20) (hk : k < n) (FB : AF Z h0 b .byte n f) (hft : ∀ j, j < n → fits .byte (f j) = true)  :
    MetFree l (⟨"java/util/Arrays", "copyOfRange", "([BII)[B"⟩ : MethodName) (head1 (Jvm.Cond.code (⟨"java/util/Arrays", "copyOfRange", "([BII)[B"⟩ : MethodName) jdk_65_method_132_code 3 (some (.array .byte)) :: ws) ({ frames := 2, cells := 1, slots := 20, locals := 60 } : Room)) (fun aa_ U_ => aa_ = #[(.ref b), (.int (0 : Int32)), (.int (Int32.ofNat k))] ∧ Z.Warmed39 U_.vm ∧ U_.heap = h0) (fun _ _ _ _ _ => True) (fun _ U_ o_ V_ => ∃ v_ L_, o_ = .returned v_ ∧ QA Z .byte k f h0 n0 v_ V_.heap L_ ∧ FrameEnd U_ o_ V_ L_ ({ frames := 2, cells := 1, slots := 20, locals := 60 } : Room).cells ({ frames := 2, cells := 1, slots := 20, locals := 60 } : Room).slots) := by
  refine MetFree.of_bodySF (plainFor_of_name pn_17) hisR ?_
  intro p e s m args below meth c s₁ Bd hml0 hP hK
  obtain ⟨rfl, hZ, hh⟩ := hP
  have hx := Bd.exec
  have hby := Bd.bytes
  have hml : c.maxLocals = 3 := hml0
  have hown : s.vm.findClass "java/util/Arrays" = some m.cls := findClass_of_methodNamed Bd.named
  have hnm := (name_of_methodNamed Bd.named Bd.method).1
  have X0 : Stand p l e ({ frames := 2, cells := 1, slots := 20, locals := 60 } : Room) s m #[(.ref b), (.int (0 : Int32)), (.int (Int32.ofNat k))] below meth c s₁ [] 0 0 := Stand.of_body Bd
  have e0 : s₁.heap = h0 := by rw [← hh, Bd.state]; rfl
  have N0 := Fr.nil n0
  have pre0 : ∀ zz, Steps p.tables e below (s₁.setTop (mkF m 0 #[.val (.ref b), .val (.int (0 : Int32)), .val (.int (Int32.ofNat k))] [])) zz → Steps p.tables e below (s₁.setTop (entryFrame m #[(.ref b), (.int (0 : Int32)), (.int (Int32.ofNat k))] 3)) zz := fun zz kz_ => castTop (ef_17 m b (0 : Int32) (Int32.ofNat k)) kz_
  obtain ⟨_, _, ⟨T26, L26, k26, n26⟩, -, X26, ⟨Lc26, hQ26, l26, y26, z26⟩, st26⟩ := Jvm.LawKit.callS X0 hx (y := (⟨"java/util/Arrays", "copyOfRangeByte", "([BII)[B"⟩ : MethodName)) hown (mvT hZ (hw _ (List.mem_of_getElem? (i := 86) rfl))) (mvT hZ (hw _ (List.mem_of_getElem? (i := 87) rfl))) (mvT hZ (hw _ (List.mem_of_getElem? (i := 84) rfl))) (mvT hZ (hw _ (List.mem_of_getElem? (i := 88) rfl))) (by decide) (backOf (W := 0) (rmCRB l Z a0 hw [] b n k f h0 n0 Z0 hn hk FB hft) hZ (hw _ (List.mem_of_getElem? (i := 88) rfl)) (hw _ (List.mem_of_getElem? (i := 84) rfl)) (by decide) (by decide)) (g := (mkF m 13 #[.val (.ref b), .val (.int (0 : Int32)), .val (.int (Int32.ofNat k))] [(.int (Int32.ofNat k)), (.int (0 : Int32)), (.ref b)])) rfl (by rw [hml]; rfl) (argsL := [(.ref b), (.int (0 : Int32)), (.int (Int32.ofNat k))]) (rest := []) (lenOf pd_16 rfl) rfl (by show 2 * 0 + _ ≤ _; exact Nat.le_of_eq rfl) (hb hby d17_13) (fun _ _ => ⟨rfl, e0, (by decide : 0 + 1 ≤ _), (by decide : 0 + 20 ≤ _)⟩)
  dsimp only [Pt.U, Pt.locs, Pt.cells, Pt.slots] at X26 l26 y26 z26 st26 hQ26
  subst l26 y26 z26
  obtain ⟨b26, rfl, N26q, K26, zq26, A26⟩ := hQ26
  have N26 := Fr.app N0 N26q
  have ne_b_b26 : b ≠ b26 := Nat.ne_of_lt (Nat.lt_of_lt_of_le FB.lt zq26)
  have g_b26 : n0 ≤ b26 := Nat.le_trans Z0 zq26
  have sz_b26 : h0.size ≤ b26 := Nat.le_trans (Keep.refl h0 []).1 zq26
  have FB_e26 := FB.keep K26 List.not_mem_nil
  have KK26 := (Keep.refl h0 []).trans K26 (fun x r => absurd r List.not_mem_nil)
  have Z26 : n0 ≤ T26.heap.size := Nat.le_trans Z0 K26.1
  obtain ⟨fs, hr, hrun, hended, hW, hsame⟩ := X26.leave (v := some (.ref b26)) (fun h => by rw [Bd.returns] at h; cases h)
  refine ⟨_, _, pre0 _ ?_, hrun, hended, _, _, rfl, ?_, ⟨_, rfl⟩, hW, hsame.mono (by decide) (by decide)⟩
  · show Steps p.tables e below (s₁.setTop (mkF m 0 #[.val (.ref b), .val (.int (0 : Int32)), .val (.int (Int32.ofNat k))] [])) _
    refine XS.iloadN X0.here hx rfl (hb hby d17_0) rfl ?_
    refine XS.ifNo X0.here hx rfl (hb hby d17_1) rfl ((if0 _ _).trans (teq (rfl : (0 : Int32) = (0 : Int32))).2) ?_
    refine XS.iloadN X0.here hx rfl (hb hby d17_4) rfl ?_
    refine XS.aloadN X0.here hx rfl (hb hby d17_5) rfl rfl ?_
    show Steps p.tables e below (s₁.setTop (mkF m 6 #[.val (.ref b), .val (.int (0 : Int32)), .val (.int (Int32.ofNat k))] [(.ref b), (.int (Int32.ofNat k))])) _
    refine lenA X0 hx hZ e0 FB (g := (mkF m 6 #[.val (.ref b), .val (.int (0 : Int32)), .val (.int (Int32.ofNat k))] [(.ref b), (.int (Int32.ofNat k))])) rfl rfl (hb hby d17_6) ?_
    refine XS.icmpNo X0.here hx rfl (hb hby d17_7) rfl (feq (neN (by omega) (by omega) (by omega))).1 ?_
    refine XS.aloadN X0.here hx rfl (hb hby d17_10) rfl rfl ?_
    refine XS.iloadN X0.here hx rfl (hb hby d17_11) rfl ?_
    refine XS.iloadN X0.here hx rfl (hb hby d17_12) rfl ?_
    show Steps p.tables e below (s₁.setTop (mkF m 13 #[.val (.ref b), .val (.int (0 : Int32)), .val (.int (Int32.ofNat k))] [(.int (Int32.ofNat k)), (.int (0 : Int32)), (.ref b)])) _
    refine st26 _ ?_
    show Steps p.tables e below (T26.setTop (mkF m 16 #[.val (.ref b), .val (.int (0 : Int32)), .val (.int (Int32.ofNat k))] [(.ref b26)])) _
    jvm_step X26.here [X26.here.top, hx, (hb hby d17_16), X26.method', Bd.returns, Value.isRef, FieldType.isReference]
    first | (intro acts; rw [hr _ acts rfl rfl rfl]) | rw [hr _ _ rfl rfl rfl]
    exact Steps.refl _
  · show QA Z .byte k f h0 n0 _ T26.heap _
    exact ⟨b26, rfl, N26, KK26, sz_b26, A26⟩
theorem d21_0 : decode jdk_42_method_151_code 0 = .ok (.aload_n 0, 1) := by decide +kernel
theorem d21_1 : decode jdk_42_method_151_code 1 = .ok (.invokespecial 1, 3) := by decide +kernel
theorem d21_4 : decode jdk_42_method_151_code 4 = .ok (.aload_n 0, 1) := by decide +kernel
theorem d21_5 : decode jdk_42_method_151_code 5 = .ok (.aload_n 1, 1) := by decide +kernel
theorem d21_6 : decode jdk_42_method_151_code 6 = .ok (.putfield 9, 3) := by decide +kernel
theorem d21_9 : decode jdk_42_method_151_code 9 = .ok (.aload_n 0, 1) := by decide +kernel
theorem d21_10 : decode jdk_42_method_151_code 10 = .ok (.iload_n 2, 1) := by decide +kernel
theorem d21_11 : decode jdk_42_method_151_code 11 = .ok (.putfield 15, 3) := by decide +kernel
theorem d21_14 : decode jdk_42_method_151_code 14 = .ok (.return_, 1) := by decide +kernel
theorem pn_21 : plainName "java/lang/String" = true := by first | (simp [plainName, overriddenIn]; done) | decide +kernel
theorem ef_21 (m : MethodId) (x0 : Addr) (x1 : Addr) (x2 : Int32) : entryFrame m #[(.ref x0), (.ref x1), (.int x2)] 3 = mkF m 0 #[.val (.ref x0), .val (.ref x1), .val (.int x2)] [] := by first | (simp [entryFrame, mkF, argsToLocals, Value.category]; done) | rfl
set_option maxRecDepth 65536 in
set_option maxHeartbeats 40000000 in
theorem rmIB (l : Launch) (Z : State) (a0 : Array Value) (hw : ∀ d ∈ tables_1, d.before a0 Z = true) (ws : List Jvm.Cond) (o b : Addr) (n : Nat) (f : Nat → Value)  (h0 : Heap) (n0 : Nat) (Z0 : n0 ≤ h0.size) (EO : Exa Z h0 o "java/lang/String") (FV : Fld Z h0 o "java/lang/String" "value" "[B" .null) (FC : Fld Z h0 o "java/lang/String" "coder" "B" (.int (0 : Int32))) (g_o : n0 ≤ o) (FB : AF Z h0 b .byte n f) (hbo : b ≠ o)  :
    MetFree l (⟨"java/lang/String", "<init>", "([BB)V"⟩ : MethodName) (head1 (Jvm.Cond.code (⟨"java/lang/String", "<init>", "([BB)V"⟩ : MethodName) jdk_42_method_151_code 3 none :: ws) ({ frames := 1, cells := 0, slots := 0, locals := 14 } : Room)) (fun aa_ U_ => aa_ = #[(.ref o), (.ref b), (.int (0 : Int32))] ∧ Z.Warmed39 U_.vm ∧ U_.heap = h0) (fun _ _ _ _ _ => True) (fun _ U_ o_ V_ => ∃ v_ L_, o_ = .returned v_ ∧ QSV Z o n f h0 n0 v_ V_.heap L_ ∧ FrameEnd U_ o_ V_ L_ ({ frames := 1, cells := 0, slots := 0, locals := 14 } : Room).cells ({ frames := 1, cells := 0, slots := 0, locals := 14 } : Room).slots) := by
  refine MetFree.of_bodySF (plainFor_of_name pn_21) hisR ?_
  intro p e s m args below meth c s₁ Bd hml0 hP hK
  obtain ⟨rfl, hZ, hh⟩ := hP
  have hx := Bd.exec
  have hby := Bd.bytes
  have hml : c.maxLocals = 3 := hml0
  have hown : s.vm.findClass "java/lang/String" = some m.cls := findClass_of_methodNamed Bd.named
  have hnm := (name_of_methodNamed Bd.named Bd.method).1
  have X0 : Stand p l e ({ frames := 1, cells := 0, slots := 0, locals := 14 } : Room) s m #[(.ref o), (.ref b), (.int (0 : Int32))] below meth c s₁ [] 0 0 := Stand.of_body Bd
  have e0 : s₁.heap = h0 := by rw [← hh, Bd.state]; rfl
  have N0 := Fr.nil n0
  have pre0 : ∀ zz, Steps p.tables e below (s₁.setTop (mkF m 0 #[.val (.ref o), .val (.ref b), .val (.int (0 : Int32))] [])) zz → Steps p.tables e below (s₁.setTop (entryFrame m #[(.ref o), (.ref b), (.int (0 : Int32))] 3)) zz := fun zz kz_ => castTop (ef_21 m o b (0 : Int32)) kz_
  obtain ⟨T27, X27, e27, st27⟩ := initO X0 hx hZ hown (hw _ (List.mem_of_getElem? (i := 22) rfl)) (hw _ (List.mem_of_getElem? (i := 23) rfl)) (hw _ (List.mem_of_getElem? (i := 24) rfl)) e0 (g := (mkF m 1 #[.val (.ref o), .val (.ref b), .val (.int (0 : Int32))] [(.ref o)])) rfl (by rw [hml]; rfl) rfl (hb hby d21_1) (by decide) (W := 0) (by show 2 * 0 + _ ≤ _; exact Nat.le_of_eq rfl) (by decide)
  obtain ⟨T28, h28, X28, e28, W28, st28⟩ := putF X27 hx hZ hown (host := "") (Or.inl (hw _ (List.mem_of_getElem? (i := 39) rfl))) Via.refl e27 FV EO (Or.inr ⟨(hw _ (List.mem_of_getElem? (i := 40) rfl)), rfl, hnm⟩) (hw _ (List.mem_of_getElem? (i := 12) rfl)) (ty := (.array .byte)) (by decide) rfl rfl (g := (mkF m 6 #[.val (.ref o), .val (.ref b), .val (.int (0 : Int32))] [(.ref b), (.ref o)])) rfl rfl (hb hby d21_6)
  have Fw28 := FV.same W28
  have EO_e28 := EO.wr W28
  have FC_e28 := FC.other W28 (Or.inr (slot_ne (Or.inr (hw _ (List.mem_of_getElem? (i := 38) rfl))) (Or.inr (hw _ (List.mem_of_getElem? (i := 40) rfl))) (by decide) (t := .byte) (t' := (.array .byte)) (by decide) (by decide)))
  have FB_e28 := FB.other W28 hbo
  have N28 := Fr.snoc X28 N0 g_o
  have K28 := (Keep.refl h0 [o]).wr W28 (Or.inl (List.mem_of_getElem? (i := 0) rfl))
  have Z28 : n0 ≤ h28.size := Nat.le_trans Z0 (Keep.of_wr W28).1
  obtain ⟨T29, h29, X29, e29, W29, st29⟩ := putFN X28 hx hZ hown (hw _ (List.mem_of_getElem? (i := 37) rfl)) Via.refl e28 FC_e28 EO_e28 (Or.inr ⟨(hw _ (List.mem_of_getElem? (i := 38) rfl)), rfl, hnm⟩) (hw _ (List.mem_of_getElem? (i := 12) rfl)) (ty := .byte) (v' := (.int (0 : Int32))) (by decide) rfl (by decide) (g := (mkF m 11 #[.val (.ref o), .val (.ref b), .val (.int (0 : Int32))] [(.int (0 : Int32)), (.ref o)])) rfl rfl (hb hby d21_11)
  have Fw29 := FC_e28.same W29
  have EO_e29 := EO_e28.wr W29
  have Fw28_e29 := Fw28.other W29 (Or.inr (slot_ne (Or.inr (hw _ (List.mem_of_getElem? (i := 40) rfl))) (Or.inr (hw _ (List.mem_of_getElem? (i := 38) rfl))) (by decide) (t := (.array .byte)) (t' := .byte) (by decide) (by decide)))
  have FB_e29 := FB_e28.other W29 hbo
  have N29 := Fr.snoc X29 N28 g_o
  have K29 := K28.wr W29 (Or.inl (List.mem_of_getElem? (i := 0) rfl))
  have Z29 : n0 ≤ h29.size := Nat.le_trans Z28 (Keep.of_wr W29).1
  obtain ⟨fs, hr, hrun, hended, hW, hsame⟩ := X29.leave (v := none) (fun _ => rfl)
  refine ⟨_, _, pre0 _ ?_, hrun, hended, _, _, rfl, ?_, ⟨_, rfl⟩, hW, hsame.mono (by decide) (by decide)⟩
  · show Steps p.tables e below (s₁.setTop (mkF m 0 #[.val (.ref o), .val (.ref b), .val (.int (0 : Int32))] [])) _
    refine XS.aloadN X0.here hx rfl (hb hby d21_0) rfl rfl ?_
    show Steps p.tables e below (s₁.setTop (mkF m 1 #[.val (.ref o), .val (.ref b), .val (.int (0 : Int32))] [(.ref o)])) _
    refine st27 _ ?_
    refine XS.aloadN X27.here hx rfl (hb hby d21_4) rfl rfl ?_
    refine XS.aloadN X27.here hx rfl (hb hby d21_5) rfl rfl ?_
    show Steps p.tables e below (T27.setTop (mkF m 6 #[.val (.ref o), .val (.ref b), .val (.int (0 : Int32))] [(.ref b), (.ref o)])) _
    refine st28 _ ?_
    refine XS.aloadN X28.here hx rfl (hb hby d21_9) rfl rfl ?_
    refine XS.iloadN X28.here hx rfl (hb hby d21_10) rfl ?_
    show Steps p.tables e below (T28.setTop (mkF m 11 #[.val (.ref o), .val (.ref b), .val (.int (0 : Int32))] [(.int (0 : Int32)), (.ref o)])) _
    refine st29 _ ?_
    show Steps p.tables e below (T29.setTop (mkF m 14 #[.val (.ref o), .val (.ref b), .val (.int (0 : Int32))] [])) _
    exact X29.returnOut hx Bd.returns (hb hby d21_14) hr
  · show QSV Z o n f h0 n0 _ T29.heap _
    exact ⟨rfl, N29, by rw [e29]; exact K29, by rw [e29]; exact ⟨EO_e29, b, Fw28_e29, Fw29, FB_e29⟩⟩
theorem d16_0 : decode jdk_43_method_47_code 0 = .ok (.iload_n 2, 1) := by decide +kernel
theorem d16_1 : decode jdk_43_method_47_code 1 = .ok (.ifCond .ne 6, 3) := by decide +kernel
theorem d16_4 : decode jdk_43_method_47_code 4 = .ok (.ldc 151, 2) := by decide +kernel
theorem d16_6 : decode jdk_43_method_47_code 6 = .ok (.areturn, 1) := by decide +kernel
theorem d16_7 : decode jdk_43_method_47_code 7 = .ok (.new 1, 3) := by decide +kernel
theorem d16_10 : decode jdk_43_method_47_code 10 = .ok (.dup, 1) := by decide +kernel
theorem d16_11 : decode jdk_43_method_47_code 11 = .ok (.aload_n 0, 1) := by decide +kernel
theorem d16_12 : decode jdk_43_method_47_code 12 = .ok (.iload_n 1, 1) := by decide +kernel
theorem d16_13 : decode jdk_43_method_47_code 13 = .ok (.iload_n 1, 1) := by decide +kernel
theorem d16_14 : decode jdk_43_method_47_code 14 = .ok (.iload_n 2, 1) := by decide +kernel
theorem d16_15 : decode jdk_43_method_47_code 15 = .ok (.iadd, 1) := by decide +kernel
theorem d16_16 : decode jdk_43_method_47_code 16 = .ok (.invokestatic 232, 3) := by decide +kernel
theorem d16_19 : decode jdk_43_method_47_code 19 = .ok (.iconst 0, 1) := by decide +kernel
theorem d16_20 : decode jdk_43_method_47_code 20 = .ok (.invokespecial 112, 3) := by decide +kernel
theorem d16_23 : decode jdk_43_method_47_code 23 = .ok (.areturn, 1) := by decide +kernel
theorem pn_16 : plainName "java/lang/StringLatin1" = true := by first | (simp [plainName, overriddenIn]; done) | decide +kernel
theorem ef_16 (m : MethodId) (x0 : Addr) (x1 : Int32) (x2 : Int32) : entryFrame m #[(.ref x0), (.int x1), (.int x2)] 3 = mkF m 0 #[.val (.ref x0), .val (.int x1), .val (.int x2)] [] := by first | (simp [entryFrame, mkF, argsToLocals, Value.category]; done) | rfl
set_option maxRecDepth 65536 in
set_option maxHeartbeats 40000000 in
theorem rmNS (l : Launch) (Z : State) (a0 : Array Value) (hw : ∀ d ∈ tables_1, d.before a0 Z = true) (ws : List Jvm.Cond) (b : Addr) (n k : Nat) (f : Nat → Value)  (h0 : Heap) (n0 : Nat) (Z0 : n0 ≤ h0.size) (hn : n ≤ 20) (hp : 0 < k) (hk : k < n) (FB : AF Z h0 b .byte n f) (hft : ∀ j, j < n → fits .byte (f j) = true)  :
    MetFree l (⟨"java/lang/StringLatin1", "newString", "([BII)Ljava/lang/String;"⟩ : MethodName) (head1 (Jvm.Cond.code (⟨"java/lang/StringLatin1", "newString", "([BII)Ljava/lang/String;"⟩ : MethodName) jdk_43_method_47_code 3 (some (.object "java/lang/String")) :: ws) ({ frames := 3, cells := 2, slots := 24, locals := 80 } : Room)) (fun aa_ U_ => aa_ = #[(.ref b), (.int (0 : Int32)), (.int (Int32.ofNat k))] ∧ Z.Warmed39 U_.vm ∧ U_.heap = h0) (fun _ _ _ _ _ => True) (fun _ U_ o_ V_ => ∃ v_ L_, o_ = .returned v_ ∧ QV Z k f h0 n0 v_ V_.heap L_ ∧ FrameEnd U_ o_ V_ L_ ({ frames := 3, cells := 2, slots := 24, locals := 80 } : Room).cells ({ frames := 3, cells := 2, slots := 24, locals := 80 } : Room).slots) := by
  refine MetFree.of_bodySF (plainFor_of_name pn_16) hisR ?_
  intro p e s m args below meth c s₁ Bd hml0 hP hK
  obtain ⟨rfl, hZ, hh⟩ := hP
  have hx := Bd.exec
  have hby := Bd.bytes
  have hml : c.maxLocals = 3 := hml0
  have hown : s.vm.findClass "java/lang/StringLatin1" = some m.cls := findClass_of_methodNamed Bd.named
  have hnm := (name_of_methodNamed Bd.named Bd.method).1
  have X0 : Stand p l e ({ frames := 3, cells := 2, slots := 24, locals := 80 } : Room) s m #[(.ref b), (.int (0 : Int32)), (.int (Int32.ofNat k))] below meth c s₁ [] 0 0 := Stand.of_body Bd
  have e0 : s₁.heap = h0 := by rw [← hh, Bd.state]; rfl
  have N0 := Fr.nil n0
  have pre0 : ∀ zz, Steps p.tables e below (s₁.setTop (mkF m 0 #[.val (.ref b), .val (.int (0 : Int32)), .val (.int (Int32.ofNat k))] [])) zz → Steps p.tables e below (s₁.setTop (entryFrame m #[(.ref b), (.int (0 : Int32)), (.int (Int32.ofNat k))] 3)) zz := fun zz kz_ => castTop (ef_16 m b (0 : Int32) (Int32.ofNat k)) kz_
  obtain ⟨T30, h30, X30, e30, E30, A30, D30, -, st30⟩ := newO X0 hx hZ hown (hw _ (List.mem_of_getElem? (i := 81) rfl)) (hw _ (List.mem_of_getElem? (i := 12) rfl)) (hw _ (List.mem_of_getElem? (i := 13) rfl)) e0 (g := (mkF m 7 #[.val (.ref b), .val (.int (0 : Int32)), .val (.int (Int32.ofNat k))] [])) rfl (hb hby d16_7) (by decide) (by decide)
  obtain ⟨b30, g30⟩ : ∃ z, z = h0.size := ⟨_, rfl⟩
  rw [← g30] at A30 D30 st30
  have ne_b_b30 : b ≠ b30 := Nat.ne_of_lt (Nat.lt_of_lt_of_le FB.lt (Nat.le_of_eq g30.symm))
  have FB_e30 := FB.ext E30
  have E_b30 := A30
  have g_b30 : n0 ≤ b30 := Nat.le_trans Z0 (Nat.le_of_eq g30.symm)
  have sz_b30 : h0.size ≤ b30 := Nat.le_trans (Keep.refl h0 []).1 (Nat.le_of_eq g30.symm)
  have K30 := (Keep.refl h0 []).ext E30
  have Z30 : n0 ≤ h30.size := Nat.le_trans Z0 E30.1
  have F_coder_b30 : Fld Z h30 b30 "java/lang/String" "coder" "B" (.int (0 : Int32)) := D30 (Or.inr (hw _ (List.mem_of_getElem? (i := 38) rfl))) (ty := .byte) (by decide)
  have F_value_b30 : Fld Z h30 b30 "java/lang/String" "value" "[B" .null := D30 (Or.inr (hw _ (List.mem_of_getElem? (i := 40) rfl))) (ty := (.array .byte)) (by decide)
  obtain ⟨_, _, ⟨T31, L31, k31, n31⟩, -, X31, ⟨Lc31, hQ31, l31, y31, z31⟩, st31⟩ := Jvm.LawKit.callS X30 hx (y := (⟨"java/util/Arrays", "copyOfRange", "([BII)[B"⟩ : MethodName)) hown (mvT hZ (hw _ (List.mem_of_getElem? (i := 82) rfl))) (mvT hZ (hw _ (List.mem_of_getElem? (i := 83) rfl))) (mvT hZ (hw _ (List.mem_of_getElem? (i := 84) rfl))) (mvT hZ (hw _ (List.mem_of_getElem? (i := 85) rfl))) (by decide) (backOf (W := 2) (rmCR l Z a0 hw [] b n k f h30 n0 Z30 hn hk FB_e30 hft) hZ (hw _ (List.mem_of_getElem? (i := 85) rfl)) (hw _ (List.mem_of_getElem? (i := 84) rfl)) (by decide) (by decide)) (g := (mkF m 16 #[.val (.ref b), .val (.int (0 : Int32)), .val (.int (Int32.ofNat k))] [(.int (Int32.ofNat k)), (.int (0 : Int32)), (.ref b), (.ref b30), (.ref b30)])) rfl (by rw [hml]; rfl) (argsL := [(.ref b), (.int (0 : Int32)), (.int (Int32.ofNat k))]) (rest := [(.ref b30), (.ref b30)]) (lenOf pd_16 rfl) rfl (by show 2 * 0 + _ ≤ _; exact Nat.le_of_eq rfl) (hb hby d16_16) (fun _ _ => ⟨rfl, e30, (by decide : 1 + 1 ≤ _), (by decide : 4 + 20 ≤ _)⟩)
  dsimp only [Pt.U, Pt.locs, Pt.cells, Pt.slots] at X31 l31 y31 z31 st31 hQ31
  subst l31 y31 z31
  obtain ⟨b31, rfl, N31q, K31, zq31, A31⟩ := hQ31
  have N31 := Fr.app N0 N31q
  have ne_b_b31 : b ≠ b31 := Nat.ne_of_lt (Nat.lt_of_lt_of_le FB_e30.lt zq31)
  have ne_b30_b31 : b30 ≠ b31 := Nat.ne_of_lt (Nat.lt_of_lt_of_le E_b30.lt zq31)
  have g_b31 : n0 ≤ b31 := Nat.le_trans Z30 zq31
  have sz_b31 : h0.size ≤ b31 := Nat.le_trans K30.1 zq31
  have FB_e31 := FB_e30.keep K31 List.not_mem_nil
  have E_b30_e31 := E_b30.keep K31
  have F_coder_b30_e31 := F_coder_b30.keep K31 List.not_mem_nil
  have F_value_b30_e31 := F_value_b30.keep K31 List.not_mem_nil
  have KK31 := K30.trans K31 (fun x r => absurd r List.not_mem_nil)
  have Z31 : n0 ≤ T31.heap.size := Nat.le_trans Z30 K31.1
  obtain ⟨_, _, ⟨T32, L32, k32, n32⟩, -, X32, ⟨Lc32, hQ32, l32, y32, z32⟩, st32⟩ := X31.specialBack hx (y := (⟨"java/lang/String", "<init>", "([BB)V"⟩ : MethodName)) rfl hown (mvT hZ (hw _ (List.mem_of_getElem? (i := 100) rfl))) (mvT hZ (hw _ (List.mem_of_getElem? (i := 101) rfl))) (mvT hZ (hw _ (List.mem_of_getElem? (i := 102) rfl))) (by decide) (backOf (W := 1) (rmIB l Z a0 hw [] b30 b31 k f T31.heap n0 Z31 E_b30_e31 F_value_b30_e31 F_coder_b30_e31 g_b30 A31 (Ne.symm ne_b30_b31)) hZ (hw _ (List.mem_of_getElem? (i := 102) rfl)) (hw _ (List.mem_of_getElem? (i := 13) rfl)) (by decide) (by decide)) (g := (mkF m 20 #[.val (.ref b), .val (.int (0 : Int32)), .val (.int (Int32.ofNat k))] [(.int (0 : Int32)), (.ref b31), (.ref b30), (.ref b30)])) rfl (by rw [hml]; rfl) (Steps.refl _) (a := b30) (argsL := [(.ref b31), (.int (0 : Int32))]) (rest := [(.ref b30)]) (lenOf pd_20 rfl) rfl (by show 2 * 0 + _ ≤ _; exact Nat.le_of_eq rfl) (hb hby d16_20) (fun _ _ => ⟨rfl, rfl, (by decide : 2 + 0 ≤ _), (by decide : 24 + 0 ≤ _)⟩)
  dsimp only [Pt.U, Pt.locs, Pt.cells, Pt.slots] at X32 l32 y32 z32 st32 hQ32
  subst l32 y32 z32
  obtain ⟨rfl, N32q, K32, S32⟩ := hQ32
  have N32 := Fr.app N31 N32q
  have KK32 := KK31.trans K32 (fun x r => by cases List.mem_singleton.mp r; exact (Or.inr sz_b30))
  have Z32 : n0 ≤ T32.heap.size := Nat.le_trans Z31 K32.1
  obtain ⟨fs, hr, hrun, hended, hW, hsame⟩ := X32.leave (v := some (.ref b30)) (fun h => by rw [Bd.returns] at h; cases h)
  refine ⟨_, _, pre0 _ ?_, hrun, hended, _, _, rfl, ?_, ⟨_, rfl⟩, hW, hsame.mono (by decide) (by decide)⟩
  · show Steps p.tables e below (s₁.setTop (mkF m 0 #[.val (.ref b), .val (.int (0 : Int32)), .val (.int (Int32.ofNat k))] [])) _
    refine XS.iloadN X0.here hx rfl (hb hby d16_0) rfl ?_
    refine XS.ifYes X0.here hx rfl (pc0 := 1) (pc' := 7) rfl (hb hby d16_1) rfl ((if0 _ _).trans (feq (neN (m := 0) (by omega) (by omega) (by omega))).2) (by decide) (by decide) ?_
    show Steps p.tables e below (s₁.setTop (mkF m 7 #[.val (.ref b), .val (.int (0 : Int32)), .val (.int (Int32.ofNat k))] [])) _
    refine st30 _ ?_
    refine XS.dup X30.here hx rfl (hb hby d16_10) rfl rfl ?_
    refine XS.aloadN X30.here hx rfl (hb hby d16_11) rfl rfl ?_
    refine XS.iloadN X30.here hx rfl (hb hby d16_12) rfl ?_
    refine XS.iloadN X30.here hx rfl (hb hby d16_13) rfl ?_
    refine XS.iloadN X30.here hx rfl (hb hby d16_14) rfl ?_
    show Steps p.tables e below (T30.setTop (mkF m 15 #[.val (.ref b), .val (.int (0 : Int32)), .val (.int (Int32.ofNat k))] [(.int (Int32.ofNat k)), (.int (0 : Int32)), (.int (0 : Int32)), (.ref b), (.ref b30), (.ref b30)])) _
    refine XS.iadd X30.here hx rfl (hb hby d16_15) rfl ?_
    show Steps p.tables e below (T30.setTop (mkF m 16 #[.val (.ref b), .val (.int (0 : Int32)), .val (.int (Int32.ofNat k))] [(.int ((0 : Int32) + (Int32.ofNat k))), (.int (0 : Int32)), (.ref b), (.ref b30), (.ref b30)])) _
    rw [show ((0 : Int32) + (Int32.ofNat k)) = (Int32.ofNat k) from Int32.zero_add _]
    show Steps p.tables e below (T30.setTop (mkF m 16 #[.val (.ref b), .val (.int (0 : Int32)), .val (.int (Int32.ofNat k))] [(.int (Int32.ofNat k)), (.int (0 : Int32)), (.ref b), (.ref b30), (.ref b30)])) _
    refine st31 _ ?_
    refine XS.iconst X31.here hx rfl (hb hby d16_19) ?_
    show Steps p.tables e below (T31.setTop (mkF m 20 #[.val (.ref b), .val (.int (0 : Int32)), .val (.int (Int32.ofNat k))] [(.int (0 : Int32)), (.ref b31), (.ref b30), (.ref b30)])) _
    refine st32.trans ?_
    show Steps p.tables e below (T32.setTop (mkF m 23 #[.val (.ref b), .val (.int (0 : Int32)), .val (.int (Int32.ofNat k))] [(.ref b30)])) _
    jvm_step X32.here [X32.here.top, hx, (hb hby d16_23), X32.method', Bd.returns, Value.isRef, FieldType.isReference]
    first | (intro acts; rw [hr _ acts rfl rfl rfl]) | rw [hr _ _ rfl rfl rfl]
    exact Steps.refl _
  · show QV Z k f h0 n0 _ T32.heap _
    exact ⟨b30, rfl, N32, KK32, S32⟩
theorem d12_0 : decode jdk_42_method_92_code 0 = .ok (.aload_n 0, 1) := by decide +kernel
theorem d12_1 : decode jdk_42_method_92_code 1 = .ok (.invokevirtual 505, 3) := by decide +kernel
theorem d12_4 : decode jdk_42_method_92_code 4 = .ok (.istore_n 3, 1) := by decide +kernel
theorem d12_5 : decode jdk_42_method_92_code 5 = .ok (.iload_n 1, 1) := by decide +kernel
theorem d12_6 : decode jdk_42_method_92_code 6 = .ok (.iload_n 2, 1) := by decide +kernel
theorem d12_7 : decode jdk_42_method_92_code 7 = .ok (.iload_n 3, 1) := by decide +kernel
theorem d12_8 : decode jdk_42_method_92_code 8 = .ok (.invokestatic 521, 3) := by decide +kernel
theorem d12_11 : decode jdk_42_method_92_code 11 = .ok (.iload_n 1, 1) := by decide +kernel
theorem d12_12 : decode jdk_42_method_92_code 12 = .ok (.ifCond .ne 10, 3) := by decide +kernel
theorem d12_15 : decode jdk_42_method_92_code 15 = .ok (.iload_n 2, 1) := by decide +kernel
theorem d12_16 : decode jdk_42_method_92_code 16 = .ok (.iload_n 3, 1) := by decide +kernel
theorem d12_17 : decode jdk_42_method_92_code 17 = .ok (.if_icmp .ne 5, 3) := by decide +kernel
theorem d12_20 : decode jdk_42_method_92_code 20 = .ok (.aload_n 0, 1) := by decide +kernel
theorem d12_21 : decode jdk_42_method_92_code 21 = .ok (.areturn, 1) := by decide +kernel
theorem d12_22 : decode jdk_42_method_92_code 22 = .ok (.iload_n 2, 1) := by decide +kernel
theorem d12_23 : decode jdk_42_method_92_code 23 = .ok (.iload_n 1, 1) := by decide +kernel
theorem d12_24 : decode jdk_42_method_92_code 24 = .ok (.isub, 1) := by decide +kernel
theorem d12_25 : decode jdk_42_method_92_code 25 = .ok (.istore 4, 2) := by decide +kernel
theorem d12_27 : decode jdk_42_method_92_code 27 = .ok (.aload_n 0, 1) := by decide +kernel
theorem d12_28 : decode jdk_42_method_92_code 28 = .ok (.invokevirtual 492, 3) := by decide +kernel
theorem d12_31 : decode jdk_42_method_92_code 31 = .ok (.ifCond .eq 16, 3) := by decide +kernel
theorem d12_34 : decode jdk_42_method_92_code 34 = .ok (.aload_n 0, 1) := by decide +kernel
theorem d12_35 : decode jdk_42_method_92_code 35 = .ok (.getfield 9, 3) := by decide +kernel
theorem d12_38 : decode jdk_42_method_92_code 38 = .ok (.iload_n 1, 1) := by decide +kernel
theorem d12_39 : decode jdk_42_method_92_code 39 = .ok (.iload 4, 2) := by decide +kernel
theorem d12_41 : decode jdk_42_method_92_code 41 = .ok (.invokestatic 685, 3) := by decide +kernel
theorem d12_44 : decode jdk_42_method_92_code 44 = .ok (.goto 13, 3) := by decide +kernel
theorem d12_47 : decode jdk_42_method_92_code 47 = .ok (.aload_n 0, 1) := by decide +kernel
theorem d12_48 : decode jdk_42_method_92_code 48 = .ok (.getfield 9, 3) := by decide +kernel
theorem d12_51 : decode jdk_42_method_92_code 51 = .ok (.iload_n 1, 1) := by decide +kernel
theorem d12_52 : decode jdk_42_method_92_code 52 = .ok (.iload 4, 2) := by decide +kernel
theorem d12_54 : decode jdk_42_method_92_code 54 = .ok (.invokestatic 689, 3) := by decide +kernel
theorem d12_57 : decode jdk_42_method_92_code 57 = .ok (.areturn, 1) := by decide +kernel
theorem pn_12 : plainName "java/lang/String" = true := by first | (simp [plainName, overriddenIn]; done) | decide +kernel
theorem ef_12 (m : MethodId) (x0 : Addr) (x1 : Int32) (x2 : Int32) : entryFrame m #[(.ref x0), (.int x1), (.int x2)] 5 = mkF m 0 #[.val (.ref x0), .val (.int x1), .val (.int x2), .unset, .unset] [] := by first | (simp [entryFrame, mkF, argsToLocals, Value.category]; done) | rfl
set_option maxRecDepth 65536 in
set_option maxHeartbeats 40000000 in
theorem rmSUB1 (l : Launch) (Z : State) (a0 : Array Value) (hw : ∀ d ∈ tables_1, d.before a0 Z = true) (ws : List Jvm.Cond) (o b : Addr) (n k : Nat) (f : Nat → Value)  (h0 : Heap) (n0 : Nat) (Z0 : n0 ≤ h0.size) (hn : n ≤ 20) (hp : 0 < k) (hk : k < n) (O : Old Z n0 h0) (SK : StrSta Z) (EO : Exa Z h0 o "java/lang/String") (FC : Fld Z h0 o "java/lang/String" "coder" "B" (.int (0 : Int32))) (FV : Fld Z h0 o "java/lang/String" "value" "[B" (.ref b)) (FB : AF Z h0 b .byte n f) (hft : ∀ j, j < n → fits .byte (f j) = true)  :
    MetFree l (⟨"java/lang/String", "substring", "(II)Ljava/lang/String;"⟩ : MethodName) (head1 (Jvm.Cond.code (⟨"java/lang/String", "substring", "(II)Ljava/lang/String;"⟩ : MethodName) jdk_42_method_92_code 5 (some (.object "java/lang/String")) :: ws) ({ frames := 4, cells := 2, slots := 24, locals := 110 } : Room)) (fun aa_ U_ => aa_ = #[(.ref o), (.int (0 : Int32)), (.int (Int32.ofNat k))] ∧ Z.Warmed39 U_.vm ∧ U_.heap = h0) (fun _ _ _ _ _ => True) (fun _ U_ o_ V_ => ∃ v_ L_, o_ = .returned v_ ∧ QV Z k f h0 n0 v_ V_.heap L_ ∧ FrameEnd U_ o_ V_ L_ ({ frames := 4, cells := 2, slots := 24, locals := 110 } : Room).cells ({ frames := 4, cells := 2, slots := 24, locals := 110 } : Room).slots) := by
  refine MetFree.of_bodySF (plainFor_of_name pn_12) hisR ?_
  intro p e s m args below meth c s₁ Bd hml0 hP hK
  obtain ⟨rfl, hZ, hh⟩ := hP
  have hx := Bd.exec
  have hby := Bd.bytes
  have hml : c.maxLocals = 5 := hml0
  have hown : s.vm.findClass "java/lang/String" = some m.cls := findClass_of_methodNamed Bd.named
  have hnm := (name_of_methodNamed Bd.named Bd.method).1
  have X0 : Stand p l e ({ frames := 4, cells := 2, slots := 24, locals := 110 } : Room) s m #[(.ref o), (.int (0 : Int32)), (.int (Int32.ofNat k))] below meth c s₁ [] 0 0 := Stand.of_body Bd
  have e0 : s₁.heap = h0 := by rw [← hh, Bd.state]; rfl
  have N0 := Fr.nil n0
  have pre0 : ∀ zz, Steps p.tables e below (s₁.setTop (mkF m 0 #[.val (.ref o), .val (.int (0 : Int32)), .val (.int (Int32.ofNat k)), .unset, .unset] [])) zz → Steps p.tables e below (s₁.setTop (entryFrame m #[(.ref o), (.int (0 : Int32)), (.int (Int32.ofNat k))] 5)) zz := fun zz kz_ => castTop (ef_12 m o (0 : Int32) (Int32.ofNat k)) kz_
  obtain ⟨cq33, kq33, q33a, q33b, q33c⟩ := isOf hZ e0 EO
  obtain ⟨_, _, ⟨T33, L33, k33, n33⟩, -, X33, ⟨Lc33, hQ33, l33, y33, z33⟩, st33⟩ := X0.virtualBack hx (y := (⟨"java/lang/String", "length", "()I"⟩ : MethodName)) (z := (⟨"java/lang/String", "length", "()I"⟩ : MethodName)) hown (mvT hZ (hw _ (List.mem_of_getElem? (i := 63) rfl))) (mvT hZ (hw _ (List.mem_of_getElem? (i := 47) rfl))) (notFace_of_selects (args := #[]) (mvT hZ (hw _ (List.mem_of_getElem? (i := 49) rfl)))) (mvT hZ (hw _ (List.mem_of_getElem? (i := 49) rfl))) (mvT hZ (hw _ (List.mem_of_getElem? (i := 48) rfl))) (by decide) (backOf (W := 0) (rmLEN0 l Z a0 hw [] o b n f h0 n0 Z0 hn O SK EO FC FV FB) hZ (hw _ (List.mem_of_getElem? (i := 50) rfl)) (hw _ (List.mem_of_getElem? (i := 13) rfl)) (by decide) (by decide)) q33a q33c (g := (mkF m 1 #[.val (.ref o), .val (.int (0 : Int32)), .val (.int (Int32.ofNat k)), .unset, .unset] [(.ref o)])) rfl (by rw [hml]; rfl) (Steps.refl _) (argsL := []) (rest := []) (lenOf pd_9 rfl) rfl (by show 2 * 0 + _ ≤ _; exact Nat.le_of_eq rfl) (hb hby d12_1) (fun _ _ => ⟨rfl, e0, (by decide : 0 + 0 ≤ _), (by decide : 0 + 0 ≤ _)⟩)
  dsimp only [Pt.U, Pt.locs, Pt.cells, Pt.slots] at X33 l33 y33 z33 st33 hQ33
  subst l33 y33 z33
  obtain ⟨rfl, N33q, e33⟩ := hQ33
  have N33 := Fr.app N0 N33q
  obtain ⟨_, _, ⟨T34, L34, k34, n34⟩, -, X34, ⟨Lc34, hQ34, l34, y34, z34⟩, st34⟩ := Jvm.LawKit.callS X33 hx (y := (⟨"java/lang/String", "checkBoundsBeginEnd", "(III)V"⟩ : MethodName)) hown (mvT hZ (hw _ (List.mem_of_getElem? (i := 64) rfl))) (mvT hZ (hw _ (List.mem_of_getElem? (i := 65) rfl))) (mvT hZ (hw _ (List.mem_of_getElem? (i := 13) rfl))) (mvT hZ (hw _ (List.mem_of_getElem? (i := 66) rfl))) (by decide) (backOf (W := 0) (rmCBE l Z a0 hw [] k n h0 n0 Z0 hn (by omega) O SK) hZ (hw _ (List.mem_of_getElem? (i := 66) rfl)) (hw _ (List.mem_of_getElem? (i := 13) rfl)) (by decide) (by decide)) (g := (mkF m 8 #[.val (.ref o), .val (.int (0 : Int32)), .val (.int (Int32.ofNat k)), .val (.int (Int32.ofNat n)), .unset] [(.int (Int32.ofNat n)), (.int (Int32.ofNat k)), (.int (0 : Int32))])) rfl (by rw [hml]; rfl) (argsL := [(.int (0 : Int32)), (.int (Int32.ofNat k)), (.int (Int32.ofNat n))]) (rest := []) (lenOf pd_12 rfl) rfl (by show 2 * 0 + _ ≤ _; exact Nat.le_of_eq rfl) (hb hby d12_8) (fun _ _ => ⟨rfl, e33, (by decide : 0 + 0 ≤ _), (by decide : 0 + 0 ≤ _)⟩)
  dsimp only [Pt.U, Pt.locs, Pt.cells, Pt.slots] at X34 l34 y34 z34 st34 hQ34
  subst l34 y34 z34
  obtain ⟨rfl, N34q, e34⟩ := hQ34
  have N34 := Fr.app N33 N34q
  obtain ⟨cq35, kq35, q35a, q35b, q35c⟩ := isOf hZ e34 EO
  obtain ⟨_, _, ⟨T35, L35, k35, n35⟩, -, X35, ⟨Lc35, hQ35, l35, y35, z35⟩, st35⟩ := X34.virtualBack hx (y := (⟨"java/lang/String", "isLatin1", "()Z"⟩ : MethodName)) (z := (⟨"java/lang/String", "isLatin1", "()Z"⟩ : MethodName)) hown (mvT hZ (hw _ (List.mem_of_getElem? (i := 72) rfl))) (mvT hZ (hw _ (List.mem_of_getElem? (i := 73) rfl))) (notFace_of_selects (args := #[]) (mvT hZ (hw _ (List.mem_of_getElem? (i := 75) rfl)))) (mvT hZ (hw _ (List.mem_of_getElem? (i := 75) rfl))) (mvT hZ (hw _ (List.mem_of_getElem? (i := 74) rfl))) (by decide) (backOf (W := 0) (rmIL0 l Z a0 hw [] o h0 n0 Z0 O SK EO FC) hZ (hw _ (List.mem_of_getElem? (i := 76) rfl)) (hw _ (List.mem_of_getElem? (i := 13) rfl)) (by decide) (by decide)) q35a q35c (g := (mkF m 28 #[.val (.ref o), .val (.int (0 : Int32)), .val (.int (Int32.ofNat k)), .val (.int (Int32.ofNat n)), .val (.int (Int32.ofNat k))] [(.ref o)])) rfl (by rw [hml]; rfl) (Steps.refl _) (argsL := []) (rest := []) (lenOf pd_14 rfl) rfl (by show 2 * 0 + _ ≤ _; exact Nat.le_of_eq rfl) (hb hby d12_28) (fun _ _ => ⟨rfl, e34, (by decide : 0 + 0 ≤ _), (by decide : 0 + 0 ≤ _)⟩)
  dsimp only [Pt.U, Pt.locs, Pt.cells, Pt.slots] at X35 l35 y35 z35 st35 hQ35
  subst l35 y35 z35
  obtain ⟨rfl, N35q, e35⟩ := hQ35
  have N35 := Fr.app N34 N35q
  obtain ⟨T36, X36, e36, st36⟩ := getF X35 hx hZ hown (host := "") (Or.inl (hw _ (List.mem_of_getElem? (i := 39) rfl))) Via.refl e35 FV (g := (mkF m 35 #[.val (.ref o), .val (.int (0 : Int32)), .val (.int (Int32.ofNat k)), .val (.int (Int32.ofNat n)), .val (.int (Int32.ofNat k))] [(.ref o)])) rfl rfl (hb hby d12_35)
  obtain ⟨_, _, ⟨T37, L37, k37, n37⟩, -, X37, ⟨Lc37, hQ37, l37, y37, z37⟩, st37⟩ := Jvm.LawKit.callS X36 hx (y := (⟨"java/lang/StringLatin1", "newString", "([BII)Ljava/lang/String;"⟩ : MethodName)) hown (mvT hZ (hw _ (List.mem_of_getElem? (i := 77) rfl))) (mvT hZ (hw _ (List.mem_of_getElem? (i := 78) rfl))) (mvT hZ (hw _ (List.mem_of_getElem? (i := 79) rfl))) (mvT hZ (hw _ (List.mem_of_getElem? (i := 80) rfl))) (by decide) (backOf (W := 0) (rmNS l Z a0 hw [] b n k f h0 n0 Z0 hn hp hk FB hft) hZ (hw _ (List.mem_of_getElem? (i := 80) rfl)) (hw _ (List.mem_of_getElem? (i := 79) rfl)) (by decide) (by decide)) (g := (mkF m 41 #[.val (.ref o), .val (.int (0 : Int32)), .val (.int (Int32.ofNat k)), .val (.int (Int32.ofNat n)), .val (.int (Int32.ofNat k))] [(.int (Int32.ofNat k)), (.int (0 : Int32)), (.ref b)])) rfl (by rw [hml]; rfl) (argsL := [(.ref b), (.int (0 : Int32)), (.int (Int32.ofNat k))]) (rest := []) (lenOf pd_15 rfl) rfl (by show 2 * 0 + _ ≤ _; exact Nat.le_of_eq rfl) (hb hby d12_41) (fun _ _ => ⟨rfl, e36, (by decide : 0 + 2 ≤ _), (by decide : 0 + 24 ≤ _)⟩)
  dsimp only [Pt.U, Pt.locs, Pt.cells, Pt.slots] at X37 l37 y37 z37 st37 hQ37
  subst l37 y37 z37
  obtain ⟨o37, rfl, N37q, K37, S37⟩ := hQ37
  have N37 := Fr.app N35 N37q
  have KK37 := (Keep.refl h0 []).trans K37 (fun x r => absurd r List.not_mem_nil)
  have Z37 : n0 ≤ T37.heap.size := Nat.le_trans Z0 K37.1
  have O37 := O.keep K37 all0'
  obtain ⟨fs, hr, hrun, hended, hW, hsame⟩ := X37.leave (v := some (.ref o37)) (fun h => by rw [Bd.returns] at h; cases h)
  refine ⟨_, _, pre0 _ ?_, hrun, hended, _, _, rfl, ?_, ⟨_, rfl⟩, hW, hsame.mono (by decide) (by decide)⟩
  · show Steps p.tables e below (s₁.setTop (mkF m 0 #[.val (.ref o), .val (.int (0 : Int32)), .val (.int (Int32.ofNat k)), .unset, .unset] [])) _
    refine XS.aloadN X0.here hx rfl (hb hby d12_0) rfl rfl ?_
    show Steps p.tables e below (s₁.setTop (mkF m 1 #[.val (.ref o), .val (.int (0 : Int32)), .val (.int (Int32.ofNat k)), .unset, .unset] [(.ref o)])) _
    refine st33.trans ?_
    refine XS.istoreN X33.here hx rfl (hb hby d12_4) rfl (l' := #[.val (.ref o), .val (.int (0 : Int32)), .val (.int (Int32.ofNat k)), .val (.int (Int32.ofNat n)), .unset]) rfl ?_
    refine XS.iloadN X33.here hx rfl (hb hby d12_5) rfl ?_
    refine XS.iloadN X33.here hx rfl (hb hby d12_6) rfl ?_
    refine XS.iloadN X33.here hx rfl (hb hby d12_7) rfl ?_
    show Steps p.tables e below (T33.setTop (mkF m 8 #[.val (.ref o), .val (.int (0 : Int32)), .val (.int (Int32.ofNat k)), .val (.int (Int32.ofNat n)), .unset] [(.int (Int32.ofNat n)), (.int (Int32.ofNat k)), (.int (0 : Int32))])) _
    refine st34 _ ?_
    refine XS.iloadN X34.here hx rfl (hb hby d12_11) rfl ?_
    refine XS.ifNo X34.here hx rfl (hb hby d12_12) rfl ((if0 _ _).trans (teq (rfl : (0 : Int32) = (0 : Int32))).2) ?_
    refine XS.iloadN X34.here hx rfl (hb hby d12_15) rfl ?_
    refine XS.iloadN X34.here hx rfl (hb hby d12_16) rfl ?_
    refine XS.icmpYes X34.here hx rfl (pc0 := 17) (pc' := 22) rfl (hb hby d12_17) rfl (feq (neN (by omega) (by omega) (by omega))).2 (by decide) (by decide) ?_
    show Steps p.tables e below (T34.setTop (mkF m 22 #[.val (.ref o), .val (.int (0 : Int32)), .val (.int (Int32.ofNat k)), .val (.int (Int32.ofNat n)), .unset] [])) _
    refine XS.iloadN X34.here hx rfl (hb hby d12_22) rfl ?_
    refine XS.iloadN X34.here hx rfl (hb hby d12_23) rfl ?_
    refine XS.isub X34.here hx rfl (hb hby d12_24) rfl ?_
    show Steps p.tables e below (T34.setTop (mkF m 25 #[.val (.ref o), .val (.int (0 : Int32)), .val (.int (Int32.ofNat k)), .val (.int (Int32.ofNat n)), .unset] [(.int ((Int32.ofNat k) - (0 : Int32)))])) _
    rw [show ((Int32.ofNat k) - (0 : Int32)) = (Int32.ofNat k) from Int32.sub_zero _]
    show Steps p.tables e below (T34.setTop (mkF m 25 #[.val (.ref o), .val (.int (0 : Int32)), .val (.int (Int32.ofNat k)), .val (.int (Int32.ofNat n)), .unset] [(.int (Int32.ofNat k))])) _
    refine XS.istore X34.here hx rfl (hb hby d12_25) rfl (l' := #[.val (.ref o), .val (.int (0 : Int32)), .val (.int (Int32.ofNat k)), .val (.int (Int32.ofNat n)), .val (.int (Int32.ofNat k))]) rfl ?_
    refine XS.aloadN X34.here hx rfl (hb hby d12_27) rfl rfl ?_
    show Steps p.tables e below (T34.setTop (mkF m 28 #[.val (.ref o), .val (.int (0 : Int32)), .val (.int (Int32.ofNat k)), .val (.int (Int32.ofNat n)), .val (.int (Int32.ofNat k))] [(.ref o)])) _
    refine st35.trans ?_
    refine XS.ifNo X35.here hx rfl (hb hby d12_31) rfl ((if0 _ _).trans (feq (by decide : ¬ ((1 : Int32) = (0 : Int32)))).1) ?_
    refine XS.aloadN X35.here hx rfl (hb hby d12_34) rfl rfl ?_
    show Steps p.tables e below (T35.setTop (mkF m 35 #[.val (.ref o), .val (.int (0 : Int32)), .val (.int (Int32.ofNat k)), .val (.int (Int32.ofNat n)), .val (.int (Int32.ofNat k))] [(.ref o)])) _
    refine st36 _ ?_
    refine XS.iloadN X36.here hx rfl (hb hby d12_38) rfl ?_
    refine XS.iload X36.here hx rfl (hb hby d12_39) rfl ?_
    show Steps p.tables e below (T36.setTop (mkF m 41 #[.val (.ref o), .val (.int (0 : Int32)), .val (.int (Int32.ofNat k)), .val (.int (Int32.ofNat n)), .val (.int (Int32.ofNat k))] [(.int (Int32.ofNat k)), (.int (0 : Int32)), (.ref b)])) _
    refine st37 _ ?_
    refine XS.goto X37.here hx rfl (pc0 := 44) (pc' := 57) rfl (hb hby d12_44) (by decide) (by decide) ?_
    show Steps p.tables e below (T37.setTop (mkF m 57 #[.val (.ref o), .val (.int (0 : Int32)), .val (.int (Int32.ofNat k)), .val (.int (Int32.ofNat n)), .val (.int (Int32.ofNat k))] [(.ref o37)])) _
    jvm_step X37.here [X37.here.top, hx, (hb hby d12_57), X37.method', Bd.returns, Value.isRef, FieldType.isReference]
    first | (intro acts; rw [hr _ acts rfl rfl rfl]) | rw [hr _ _ rfl rfl rfl]
    exact Steps.refl _
  · show QV Z k f h0 n0 _ T37.heap _
    exact ⟨o37, rfl, N37, KK37, S37⟩
set_option maxRecDepth 65536 in
set_option maxHeartbeats 40000000 in
theorem rmSUB (l : Launch) (Z : State) (a0 : Array Value) (hw : ∀ d ∈ tables_1, d.before a0 Z = true) (ws : List Jvm.Cond) (o : Addr) (n k : Nat) (f : Nat → Value)  (h0 : Heap) (n0 : Nat) (Z0 : n0 ≤ h0.size) (hn : n ≤ 20) (hp : 0 < k) (hk : k < n) (O : Old Z n0 h0) (SK : StrSta Z) (S : StrV Z h0 o n f) (hft : ∀ j, j < n → fits .byte (f j) = true)  :
    MetFree l (⟨"java/lang/String", "substring", "(II)Ljava/lang/String;"⟩ : MethodName) (head1 (Jvm.Cond.code (⟨"java/lang/String", "substring", "(II)Ljava/lang/String;"⟩ : MethodName) jdk_42_method_92_code 5 (some (.object "java/lang/String")) :: ws) ({ frames := 4, cells := 2, slots := 24, locals := 110 } : Room)) (fun aa_ U_ => aa_ = #[(.ref o), (.int (0 : Int32)), (.int (Int32.ofNat k))] ∧ Z.Warmed39 U_.vm ∧ U_.heap = h0) (fun _ _ _ _ _ => True) (fun _ U_ o_ V_ => ∃ v_ L_, o_ = .returned v_ ∧ QV Z k f h0 n0 v_ V_.heap L_ ∧ FrameEnd U_ o_ V_ L_ ({ frames := 4, cells := 2, slots := 24, locals := 110 } : Room).cells ({ frames := 4, cells := 2, slots := 24, locals := 110 } : Room).slots) := by
  obtain ⟨EO, b, FV, FC, FB⟩ := S
  exact rmSUB1 l Z a0 hw ws o b n k f h0 n0 Z0 hn hp hk O SK EO FC FV FB hft
set_option maxRecDepth 65536 in
set_option maxHeartbeats 40000000 in
theorem rmLEN (l : Launch) (Z : State) (a0 : Array Value) (hw : ∀ d ∈ tables_1, d.before a0 Z = true) (ws : List Jvm.Cond) (o : Addr) (n : Nat) (f : Nat → Value)  (h0 : Heap) (n0 : Nat) (Z0 : n0 ≤ h0.size) (hn : n ≤ 20) (O : Old Z n0 h0) (SK : StrSta Z) (S : StrV Z h0 o n f)  :
    MetFree l (⟨"java/lang/String", "length", "()I"⟩ : MethodName) (head1 (Jvm.Cond.code (⟨"java/lang/String", "length", "()I"⟩ : MethodName) jdk_42_method_54_code 1 (some .int) :: ws) ({ frames := 1, cells := 0, slots := 0, locals := 14 } : Room)) (fun aa_ U_ => aa_ = #[(.ref o)] ∧ Z.Warmed39 U_.vm ∧ U_.heap = h0) (fun _ _ _ _ _ => True) (fun _ U_ o_ V_ => ∃ v_ L_, o_ = .returned v_ ∧ QI (Int32.ofNat n) h0 n0 v_ V_.heap L_ ∧ FrameEnd U_ o_ V_ L_ ({ frames := 1, cells := 0, slots := 0, locals := 14 } : Room).cells ({ frames := 1, cells := 0, slots := 0, locals := 14 } : Room).slots) := by
  obtain ⟨EO, b, FV, FC, FB⟩ := S
  exact rmLEN0 l Z a0 hw ws o b n f h0 n0 Z0 hn O SK EO FC FV FB
theorem d23_0 : decode jdk_43_method_13_code 0 = .ok (.aload_n 0, 1) := by decide +kernel
theorem d23_1 : decode jdk_43_method_13_code 1 = .ok (.arraylength, 1) := by decide +kernel
theorem d23_2 : decode jdk_43_method_13_code 2 = .ok (.aload_n 1, 1) := by decide +kernel
theorem d23_3 : decode jdk_43_method_13_code 3 = .ok (.arraylength, 1) := by decide +kernel
theorem d23_4 : decode jdk_43_method_13_code 4 = .ok (.if_icmp .ne 30, 3) := by decide +kernel
theorem d23_7 : decode jdk_43_method_13_code 7 = .ok (.iconst 0, 1) := by decide +kernel
theorem d23_8 : decode jdk_43_method_13_code 8 = .ok (.istore_n 2, 1) := by decide +kernel
theorem d23_9 : decode jdk_43_method_13_code 9 = .ok (.iload_n 2, 1) := by decide +kernel
theorem d23_10 : decode jdk_43_method_13_code 10 = .ok (.aload_n 0, 1) := by decide +kernel
theorem d23_11 : decode jdk_43_method_13_code 11 = .ok (.arraylength, 1) := by decide +kernel
theorem d23_12 : decode jdk_43_method_13_code 12 = .ok (.if_icmp .ge 20, 3) := by decide +kernel
theorem d23_15 : decode jdk_43_method_13_code 15 = .ok (.aload_n 0, 1) := by decide +kernel
theorem d23_16 : decode jdk_43_method_13_code 16 = .ok (.iload_n 2, 1) := by decide +kernel
theorem d23_17 : decode jdk_43_method_13_code 17 = .ok (.baload, 1) := by decide +kernel
theorem d23_18 : decode jdk_43_method_13_code 18 = .ok (.aload_n 1, 1) := by decide +kernel
theorem d23_19 : decode jdk_43_method_13_code 19 = .ok (.iload_n 2, 1) := by decide +kernel
theorem d23_20 : decode jdk_43_method_13_code 20 = .ok (.baload, 1) := by decide +kernel
theorem d23_21 : decode jdk_43_method_13_code 21 = .ok (.if_icmp .eq 5, 3) := by decide +kernel
theorem d23_24 : decode jdk_43_method_13_code 24 = .ok (.iconst 0, 1) := by decide +kernel
theorem d23_25 : decode jdk_43_method_13_code 25 = .ok (.ireturn, 1) := by decide +kernel
theorem d23_26 : decode jdk_43_method_13_code 26 = .ok (.iinc 2 1, 3) := by decide +kernel
theorem d23_29 : decode jdk_43_method_13_code 29 = .ok (.goto (-20), 3) := by decide +kernel
theorem d23_32 : decode jdk_43_method_13_code 32 = .ok (.iconst 1, 1) := by decide +kernel
theorem d23_33 : decode jdk_43_method_13_code 33 = .ok (.ireturn, 1) := by decide +kernel
theorem d23_34 : decode jdk_43_method_13_code 34 = .ok (.iconst 0, 1) := by decide +kernel
theorem d23_35 : decode jdk_43_method_13_code 35 = .ok (.ireturn, 1) := by decide +kernel
theorem pn_23 : plainName "java/lang/StringLatin1" = true := by first | (simp [plainName, overriddenIn]; done) | decide +kernel
theorem ef_23 (m : MethodId) (x0 : Addr) (x1 : Addr) : entryFrame m #[(.ref x0), (.ref x1)] 3 = mkF m 0 #[.val (.ref x0), .val (.ref x1), .unset] [] := by first | (simp [entryFrame, mkF, argsToLocals, Value.category]; done) | rfl
set_option maxRecDepth 65536 in
set_option maxHeartbeats 40000000 in
theorem tnEQ {p : Program} {l : Launch} {e : Env} {R : Room} {s : State} {m : MethodId} {args : Array Value} {below : List Frame} {meth : Method} {c : Code} {T0 : State} {locs : List Loc} {cells slots : Nat} {Z : State} {a0 : Array Value} {h0 : Heap} (b d : Addr) (i n : Nat) (w : Nat → Int32) (X0 : Stand p l e R s m args below meth c T0 locs cells slots) (hx : p.tables.exec = Jvm.exec) (hZ : Z.Warmed39 s.vm) (hw : ∀ d ∈ tables_1, d.before a0 Z = true) (hby : c.code = jdk_43_method_13_code) (hown : s.vm.findClass "java/lang/StringLatin1" = some m.cls) (e0 : T0.heap = h0) (hn : n ≤ 20) (hi : i < n) (FB : AF Z h0 b .byte n (fun j => Value.int (w j))) (FD : AF Z h0 d .byte n (fun j => Value.int (w j))) {target : State} (kt : Steps p.tables e below (T0.setTop (mkF m 9 #[.val (.ref b), .val (.ref d), .val (.int (Int32.ofNat (i + 1)))] [])) target) : Steps p.tables e below (T0.setTop (mkF m 9 #[.val (.ref b), .val (.ref d), .val (.int (Int32.ofNat i))] [])) target := by
  show Steps p.tables e below (T0.setTop (mkF m 9 #[.val (.ref b), .val (.ref d), .val (.int (Int32.ofNat i))] [])) _
  refine XS.iloadN X0.here hx rfl (hb hby d23_9) rfl ?_
  refine XS.aloadN X0.here hx rfl (hb hby d23_10) rfl rfl ?_
  show Steps p.tables e below (T0.setTop (mkF m 11 #[.val (.ref b), .val (.ref d), .val (.int (Int32.ofNat i))] [(.ref b), (.int (Int32.ofNat i))])) _
  refine lenA X0 hx hZ e0 FB (g := (mkF m 11 #[.val (.ref b), .val (.ref d), .val (.int (Int32.ofNat i))] [(.ref b), (.int (Int32.ofNat i))])) rfl rfl (hb hby d23_11) ?_
  refine XS.icmpNo X0.here hx rfl (hb hby d23_12) rfl (tlt ((ltN (by omega) (by omega)).mpr hi)).2.1 ?_
  refine XS.aloadN X0.here hx rfl (hb hby d23_15) rfl rfl ?_
  refine XS.iloadN X0.here hx rfl (hb hby d23_16) rfl ?_
  show Steps p.tables e below (T0.setTop (mkF m 17 #[.val (.ref b), .val (.ref d), .val (.int (Int32.ofNat i))] [(.int (Int32.ofNat i)), (.ref b)])) _
  refine ldBy X0 hx hZ e0 FB (i := i) hi (by omega) (v := (.int (w i))) rfl (g := (mkF m 17 #[.val (.ref b), .val (.ref d), .val (.int (Int32.ofNat i))] [(.int (Int32.ofNat i)), (.ref b)])) rfl rfl (hb hby d23_17) ?_
  refine XS.aloadN X0.here hx rfl (hb hby d23_18) rfl rfl ?_
  refine XS.iloadN X0.here hx rfl (hb hby d23_19) rfl ?_
  show Steps p.tables e below (T0.setTop (mkF m 20 #[.val (.ref b), .val (.ref d), .val (.int (Int32.ofNat i))] [(.int (Int32.ofNat i)), (.ref d), (.int (w i))])) _
  refine ldBy X0 hx hZ e0 FD (i := i) hi (by omega) (v := (.int (w i))) rfl (g := (mkF m 20 #[.val (.ref b), .val (.ref d), .val (.int (Int32.ofNat i))] [(.int (Int32.ofNat i)), (.ref d), (.int (w i))])) rfl rfl (hb hby d23_20) ?_
  refine XS.icmpYes X0.here hx rfl (pc0 := 21) (pc' := 26) rfl (hb hby d23_21) rfl (teq (rfl : (w i) = (w i))).1 (by decide) (by decide) ?_
  refine XS.iinc X0.here hx rfl (hb hby d23_26) rfl (l' := #[.val (.ref b), .val (.ref d), .val (.int ((Int32.ofNat i) + (1 : Int32)))]) rfl ?_
  show Steps p.tables e below (T0.setTop (mkF m 29 #[.val (.ref b), .val (.ref d), .val (.int ((Int32.ofNat i) + (1 : Int32)))] [])) _
  rw [show ((Int32.ofNat i) + (1 : Int32)) = (Int32.ofNat (i + 1)) from succN i]
  show Steps p.tables e below (T0.setTop (mkF m 29 #[.val (.ref b), .val (.ref d), .val (.int (Int32.ofNat (i + 1)))] [])) _
  refine XS.goto X0.here hx rfl (pc0 := 29) (pc' := 9) rfl (hb hby d23_29) (by decide) (by decide) ?_
  exact kt
set_option maxRecDepth 65536 in
set_option maxHeartbeats 40000000 in
theorem exEQ {p : Program} {l : Launch} {e : Env} {R : Room} {s : State} {m : MethodId} {args : Array Value} {below : List Frame} {meth : Method} {c : Code} {T0 : State} {locs : List Loc} {cells slots : Nat} {Z : State} {a0 : Array Value} {h0 : Heap} (b d : Addr) (n : Nat) (w : Nat → Int32) (X0 : Stand p l e R s m args below meth c T0 locs cells slots) (hx : p.tables.exec = Jvm.exec) (hZ : Z.Warmed39 s.vm) (hw : ∀ d ∈ tables_1, d.before a0 Z = true) (hby : c.code = jdk_43_method_13_code) (hown : s.vm.findClass "java/lang/StringLatin1" = some m.cls) (e0 : T0.heap = h0) (hn : n ≤ 20) (FB : AF Z h0 b .byte n (fun j => Value.int (w j))) {target : State} (kt : Steps p.tables e below (T0.setTop (mkF m 32 #[.val (.ref b), .val (.ref d), .val (.int (Int32.ofNat n))] [])) target) : Steps p.tables e below (T0.setTop (mkF m 9 #[.val (.ref b), .val (.ref d), .val (.int (Int32.ofNat n))] [])) target := by
  show Steps p.tables e below (T0.setTop (mkF m 9 #[.val (.ref b), .val (.ref d), .val (.int (Int32.ofNat n))] [])) _
  refine XS.iloadN X0.here hx rfl (hb hby d23_9) rfl ?_
  refine XS.aloadN X0.here hx rfl (hb hby d23_10) rfl rfl ?_
  show Steps p.tables e below (T0.setTop (mkF m 11 #[.val (.ref b), .val (.ref d), .val (.int (Int32.ofNat n))] [(.ref b), (.int (Int32.ofNat n))])) _
  refine lenA X0 hx hZ e0 FB (g := (mkF m 11 #[.val (.ref b), .val (.ref d), .val (.int (Int32.ofNat n))] [(.ref b), (.int (Int32.ofNat n))])) rfl rfl (hb hby d23_11) ?_
  refine XS.icmpYes X0.here hx rfl (pc0 := 12) (pc' := 32) rfl (hb hby d23_12) rfl (flt (fun q => absurd ((ltN (by omega) (by omega)).mp q) (Nat.lt_irrefl _))).2.1 (by decide) (by decide) ?_
  exact kt
set_option maxRecDepth 65536 in
set_option maxHeartbeats 40000000 in
theorem lpEQ {p : Program} {l : Launch} {e : Env} {R : Room} {s : State} {m : MethodId} {args : Array Value} {below : List Frame} {meth : Method} {c : Code} {T0 : State} {locs : List Loc} {cells slots : Nat} {Z : State} {a0 : Array Value} {h0 : Heap} (b d : Addr) (n : Nat) (w : Nat → Int32) (X0 : Stand p l e R s m args below meth c T0 locs cells slots) (hx : p.tables.exec = Jvm.exec) (hZ : Z.Warmed39 s.vm) (hw : ∀ d ∈ tables_1, d.before a0 Z = true) (hby : c.code = jdk_43_method_13_code) (hown : s.vm.findClass "java/lang/StringLatin1" = some m.cls) (e0 : T0.heap = h0) (hn : n ≤ 20) (FB : AF Z h0 b .byte n (fun j => Value.int (w j))) (FD : AF Z h0 d .byte n (fun j => Value.int (w j))) {target : State} (kt : Steps p.tables e below (T0.setTop (mkF m 32 #[.val (.ref b), .val (.ref d), .val (.int (Int32.ofNat n))] [])) target) : ∀ k i, i + k = n → Steps p.tables e below (T0.setTop (mkF m 9 #[.val (.ref b), .val (.ref d), .val (.int (Int32.ofNat i))] [])) target := by
  intro k
  induction k with
  | zero => intro i hk; obtain rfl : i = n := by omega
            exact exEQ b d i w X0 hx hZ hw hby hown e0 hn FB kt
  | succ k ih => intro i hk; exact tnEQ b d i n w X0 hx hZ hw hby hown e0 hn (by omega) FB FD (ih (i + 1) (by omega))
set_option maxRecDepth 65536 in
set_option maxHeartbeats 40000000 in
theorem rmLEQ (l : Launch) (Z : State) (a0 : Array Value) (hw : ∀ d ∈ tables_1, d.before a0 Z = true) (ws : List Jvm.Cond) (b d : Addr) (n : Nat) (w : Nat → Int32)  (h0 : Heap) (n0 : Nat) (Z0 : n0 ≤ h0.size) (hn : n ≤ 20) (FB : AF Z h0 b .byte n (fun j => Value.int (w j))) (FD : AF Z h0 d .byte n (fun j => Value.int (w j)))  :
    MetFree l (⟨"java/lang/StringLatin1", "equals", "([B[B)Z"⟩ : MethodName) (head1 (Jvm.Cond.code (⟨"java/lang/StringLatin1", "equals", "([B[B)Z"⟩ : MethodName) jdk_43_method_13_code 3 (some .boolean) :: ws) ({ frames := 0, cells := 0, slots := 0, locals := 0 } : Room)) (fun aa_ U_ => aa_ = #[(.ref b), (.ref d)] ∧ Z.Warmed39 U_.vm ∧ U_.heap = h0) (fun _ _ _ _ _ => True) (fun _ U_ o_ V_ => ∃ v_ L_, o_ = .returned v_ ∧ QI (1 : Int32) h0 n0 v_ V_.heap L_ ∧ FrameEnd U_ o_ V_ L_ ({ frames := 0, cells := 0, slots := 0, locals := 0 } : Room).cells ({ frames := 0, cells := 0, slots := 0, locals := 0 } : Room).slots) := by
  refine MetFree.of_bodySF (plainFor_of_name pn_23) hisR ?_
  intro p e s m args below meth c s₁ Bd hml0 hP hK
  obtain ⟨rfl, hZ, hh⟩ := hP
  have hx := Bd.exec
  have hby := Bd.bytes
  have hml : c.maxLocals = 3 := hml0
  have hown : s.vm.findClass "java/lang/StringLatin1" = some m.cls := findClass_of_methodNamed Bd.named
  have hnm := (name_of_methodNamed Bd.named Bd.method).1
  have X0 : Stand p l e ({ frames := 0, cells := 0, slots := 0, locals := 0 } : Room) s m #[(.ref b), (.ref d)] below meth c s₁ [] 0 0 := Stand.of_body Bd
  have e0 : s₁.heap = h0 := by rw [← hh, Bd.state]; rfl
  have N0 := Fr.nil n0
  have pre0 : ∀ zz, Steps p.tables e below (s₁.setTop (mkF m 0 #[.val (.ref b), .val (.ref d), .unset] [])) zz → Steps p.tables e below (s₁.setTop (entryFrame m #[(.ref b), (.ref d)] 3)) zz := fun zz kz_ => castTop (ef_23 m b d) kz_
  obtain ⟨fs, hr, hrun, hended, hW, hsame⟩ := X0.leave (v := some (.int (1 : Int32))) (fun h => by rw [Bd.returns] at h; cases h)
  refine ⟨_, _, pre0 _ ?_, hrun, hended, _, _, rfl, ?_, ⟨_, rfl⟩, hW, hsame.mono (by decide) (by decide)⟩
  · show Steps p.tables e below (s₁.setTop (mkF m 0 #[.val (.ref b), .val (.ref d), .unset] [])) _
    refine XS.aloadN X0.here hx rfl (hb hby d23_0) rfl rfl ?_
    show Steps p.tables e below (s₁.setTop (mkF m 1 #[.val (.ref b), .val (.ref d), .unset] [(.ref b)])) _
    refine lenA X0 hx hZ e0 FB (g := (mkF m 1 #[.val (.ref b), .val (.ref d), .unset] [(.ref b)])) rfl rfl (hb hby d23_1) ?_
    refine XS.aloadN X0.here hx rfl (hb hby d23_2) rfl rfl ?_
    show Steps p.tables e below (s₁.setTop (mkF m 3 #[.val (.ref b), .val (.ref d), .unset] [(.ref d), (.int (Int32.ofNat n))])) _
    refine lenA X0 hx hZ e0 FD (g := (mkF m 3 #[.val (.ref b), .val (.ref d), .unset] [(.ref d), (.int (Int32.ofNat n))])) rfl rfl (hb hby d23_3) ?_
    refine XS.icmpNo X0.here hx rfl (hb hby d23_4) rfl (teq (rfl : (Int32.ofNat n) = (Int32.ofNat n))).2 ?_
    refine XS.iconst X0.here hx rfl (hb hby d23_7) ?_
    refine XS.istoreN X0.here hx rfl (hb hby d23_8) rfl (l' := #[.val (.ref b), .val (.ref d), .val (.int (0 : Int32))]) rfl ?_
    show Steps p.tables e below (s₁.setTop (mkF m 9 #[.val (.ref b), .val (.ref d), .val (.int (Int32.ofNat 0))] [])) _
    refine lpEQ b d n w X0 hx hZ hw hby hown e0 hn FB FD ?_ n 0 (by omega)
    refine XS.iconst X0.here hx rfl (hb hby d23_32) ?_
    show Steps p.tables e below (s₁.setTop (mkF m 33 #[.val (.ref b), .val (.ref d), .val (.int (Int32.ofNat n))] [(.int (1 : Int32))])) _
    exact retN X0 hx (t := .boolean) Bd.returns (by simp) (hb hby d23_33) hr
  · show QI (1 : Int32) h0 n0 _ s₁.heap _
    rw [e0]
    exact ⟨rfl, N0, rfl⟩
theorem d22_0 : decode jdk_42_method_66_code 0 = .ok (.aload_n 0, 1) := by decide +kernel
theorem d22_1 : decode jdk_42_method_66_code 1 = .ok (.aload_n 1, 1) := by decide +kernel
theorem d22_2 : decode jdk_42_method_66_code 2 = .ok (.if_acmp .ne 5, 3) := by decide +kernel
theorem d22_5 : decode jdk_42_method_66_code 5 = .ok (.iconst 1, 1) := by decide +kernel
theorem d22_6 : decode jdk_42_method_66_code 6 = .ok (.ireturn, 1) := by decide +kernel
theorem d22_7 : decode jdk_42_method_66_code 7 = .ok (.aload_n 1, 1) := by decide +kernel
theorem d22_8 : decode jdk_42_method_66_code 8 = .ok (.instanceof 10, 3) := by decide +kernel
theorem d22_11 : decode jdk_42_method_66_code 11 = .ok (.ifCond .eq 43, 3) := by decide +kernel
theorem d22_14 : decode jdk_42_method_66_code 14 = .ok (.aload_n 1, 1) := by decide +kernel
theorem d22_15 : decode jdk_42_method_66_code 15 = .ok (.checkcast 10, 3) := by decide +kernel
theorem d22_18 : decode jdk_42_method_66_code 18 = .ok (.astore_n 2, 1) := by decide +kernel
theorem d22_19 : decode jdk_42_method_66_code 19 = .ok (.getstatic 38, 3) := by decide +kernel
theorem d22_22 : decode jdk_42_method_66_code 22 = .ok (.ifCond .eq 14, 3) := by decide +kernel
theorem d22_25 : decode jdk_42_method_66_code 25 = .ok (.aload_n 0, 1) := by decide +kernel
theorem d22_26 : decode jdk_42_method_66_code 26 = .ok (.getfield 15, 3) := by decide +kernel
theorem d22_29 : decode jdk_42_method_66_code 29 = .ok (.aload_n 2, 1) := by decide +kernel
theorem d22_30 : decode jdk_42_method_66_code 30 = .ok (.getfield 15, 3) := by decide +kernel
theorem d22_33 : decode jdk_42_method_66_code 33 = .ok (.if_icmp .ne 21, 3) := by decide +kernel
theorem d22_36 : decode jdk_42_method_66_code 36 = .ok (.aload_n 0, 1) := by decide +kernel
theorem d22_37 : decode jdk_42_method_66_code 37 = .ok (.getfield 9, 3) := by decide +kernel
theorem d22_40 : decode jdk_42_method_66_code 40 = .ok (.aload_n 2, 1) := by decide +kernel
theorem d22_41 : decode jdk_42_method_66_code 41 = .ok (.getfield 9, 3) := by decide +kernel
theorem d22_44 : decode jdk_42_method_66_code 44 = .ok (.invokestatic 541, 3) := by decide +kernel
theorem d22_47 : decode jdk_42_method_66_code 47 = .ok (.ifCond .eq 7, 3) := by decide +kernel
theorem d22_50 : decode jdk_42_method_66_code 50 = .ok (.iconst 1, 1) := by decide +kernel
theorem d22_51 : decode jdk_42_method_66_code 51 = .ok (.goto 4, 3) := by decide +kernel
theorem d22_54 : decode jdk_42_method_66_code 54 = .ok (.iconst 0, 1) := by decide +kernel
theorem d22_55 : decode jdk_42_method_66_code 55 = .ok (.ireturn, 1) := by decide +kernel
theorem pn_22 : plainName "java/lang/String" = true := by first | (simp [plainName, overriddenIn]; done) | decide +kernel
theorem ef_22 (m : MethodId) (x0 : Addr) (x1 : Addr) : entryFrame m #[(.ref x0), (.ref x1)] 3 = mkF m 0 #[.val (.ref x0), .val (.ref x1), .unset] [] := by first | (simp [entryFrame, mkF, argsToLocals, Value.category]; done) | rfl
set_option maxRecDepth 65536 in
set_option maxHeartbeats 40000000 in
theorem rmEQs (l : Launch) (Z : State) (a0 : Array Value) (hw : ∀ d ∈ tables_1, d.before a0 Z = true) (ws : List Jvm.Cond) (o : Addr)  (h0 : Heap) (n0 : Nat) (Z0 : n0 ≤ h0.size)   :
    MetFree l (⟨"java/lang/String", "equals", "(Ljava/lang/Object;)Z"⟩ : MethodName) (head1 (Jvm.Cond.code (⟨"java/lang/String", "equals", "(Ljava/lang/Object;)Z"⟩ : MethodName) jdk_42_method_66_code 3 (some .boolean) :: ws) ({ frames := 1, cells := 0, slots := 0, locals := 20 } : Room)) (fun aa_ U_ => aa_ = #[(.ref o), (.ref o)] ∧ Z.Warmed39 U_.vm ∧ U_.heap = h0) (fun _ _ _ _ _ => True) (fun _ U_ o_ V_ => ∃ v_ L_, o_ = .returned v_ ∧ QI (1 : Int32) h0 n0 v_ V_.heap L_ ∧ FrameEnd U_ o_ V_ L_ ({ frames := 1, cells := 0, slots := 0, locals := 20 } : Room).cells ({ frames := 1, cells := 0, slots := 0, locals := 20 } : Room).slots) := by
  refine MetFree.of_bodySF (plainFor_of_name pn_22) hisR ?_
  intro p e s m args below meth c s₁ Bd hml0 hP hK
  obtain ⟨rfl, hZ, hh⟩ := hP
  have hx := Bd.exec
  have hby := Bd.bytes
  have hml : c.maxLocals = 3 := hml0
  have hown : s.vm.findClass "java/lang/String" = some m.cls := findClass_of_methodNamed Bd.named
  have hnm := (name_of_methodNamed Bd.named Bd.method).1
  have X0 : Stand p l e ({ frames := 1, cells := 0, slots := 0, locals := 20 } : Room) s m #[(.ref o), (.ref o)] below meth c s₁ [] 0 0 := Stand.of_body Bd
  have e0 : s₁.heap = h0 := by rw [← hh, Bd.state]; rfl
  have N0 := Fr.nil n0
  have pre0 : ∀ zz, Steps p.tables e below (s₁.setTop (mkF m 0 #[.val (.ref o), .val (.ref o), .unset] [])) zz → Steps p.tables e below (s₁.setTop (entryFrame m #[(.ref o), (.ref o)] 3)) zz := fun zz kz_ => castTop (ef_22 m o o) kz_
  obtain ⟨fs, hr, hrun, hended, hW, hsame⟩ := X0.leave (v := some (.int (1 : Int32))) (fun h => by rw [Bd.returns] at h; cases h)
  refine ⟨_, _, pre0 _ ?_, hrun, hended, _, _, rfl, ?_, ⟨_, rfl⟩, hW, hsame.mono (by decide) (by decide)⟩
  · show Steps p.tables e below (s₁.setTop (mkF m 0 #[.val (.ref o), .val (.ref o), .unset] [])) _
    refine XS.aloadN X0.here hx rfl (hb hby d22_0) rfl rfl ?_
    refine XS.aloadN X0.here hx rfl (hb hby d22_1) rfl rfl ?_
    refine Jvm.RoadKit.acmp (g := (mkF m 2 #[.val (.ref o), .val (.ref o), .unset] [(.ref o), (.ref o)])) X0 hx rfl rfl rfl (pc0 := 2) (pc' := 5) (same := true) rfl (hb hby d22_2) rfl (decide_eq_true rfl) (by decide) (by decide) ?_
    refine XS.iconst X0.here hx rfl (hb hby d22_5) ?_
    show Steps p.tables e below (s₁.setTop (mkF m 6 #[.val (.ref o), .val (.ref o), .unset] [(.int (1 : Int32))])) _
    exact retN X0 hx (t := .boolean) Bd.returns (by simp) (hb hby d22_6) hr
  · show QI (1 : Int32) h0 n0 _ s₁.heap _
    rw [e0]
    exact ⟨rfl, N0, rfl⟩
set_option maxRecDepth 65536 in
set_option maxHeartbeats 40000000 in
theorem rmEQd (l : Launch) (Z : State) (a0 : Array Value) (hw : ∀ d ∈ tables_1, d.before a0 Z = true) (ws : List Jvm.Cond) (o o2 b d : Addr) (n : Nat) (w : Nat → Int32)  (h0 : Heap) (n0 : Nat) (Z0 : n0 ≤ h0.size) (hn : n ≤ 20) (O : Old Z n0 h0) (SK : StrSta Z) (hne : ¬ (o = o2)) (EO : Exa Z h0 o "java/lang/String") (FC : Fld Z h0 o "java/lang/String" "coder" "B" (.int (0 : Int32))) (FV : Fld Z h0 o "java/lang/String" "value" "[B" (.ref b)) (EO2 : Exa Z h0 o2 "java/lang/String") (FC2 : Fld Z h0 o2 "java/lang/String" "coder" "B" (.int (0 : Int32))) (FV2 : Fld Z h0 o2 "java/lang/String" "value" "[B" (.ref d)) (FB : AF Z h0 b .byte n (fun j => Value.int (w j))) (FD : AF Z h0 d .byte n (fun j => Value.int (w j)))  :
    MetFree l (⟨"java/lang/String", "equals", "(Ljava/lang/Object;)Z"⟩ : MethodName) (head1 (Jvm.Cond.code (⟨"java/lang/String", "equals", "(Ljava/lang/Object;)Z"⟩ : MethodName) jdk_42_method_66_code 3 (some .boolean) :: ws) ({ frames := 1, cells := 0, slots := 0, locals := 20 } : Room)) (fun aa_ U_ => aa_ = #[(.ref o), (.ref o2)] ∧ Z.Warmed39 U_.vm ∧ U_.heap = h0) (fun _ _ _ _ _ => True) (fun _ U_ o_ V_ => ∃ v_ L_, o_ = .returned v_ ∧ QI (1 : Int32) h0 n0 v_ V_.heap L_ ∧ FrameEnd U_ o_ V_ L_ ({ frames := 1, cells := 0, slots := 0, locals := 20 } : Room).cells ({ frames := 1, cells := 0, slots := 0, locals := 20 } : Room).slots) := by
  refine MetFree.of_bodySF (plainFor_of_name pn_22) hisR ?_
  intro p e s m args below meth c s₁ Bd hml0 hP hK
  obtain ⟨rfl, hZ, hh⟩ := hP
  have hx := Bd.exec
  have hby := Bd.bytes
  have hml : c.maxLocals = 3 := hml0
  have hown : s.vm.findClass "java/lang/String" = some m.cls := findClass_of_methodNamed Bd.named
  have hnm := (name_of_methodNamed Bd.named Bd.method).1
  have X0 : Stand p l e ({ frames := 1, cells := 0, slots := 0, locals := 20 } : Room) s m #[(.ref o), (.ref o2)] below meth c s₁ [] 0 0 := Stand.of_body Bd
  have e0 : s₁.heap = h0 := by rw [← hh, Bd.state]; rfl
  have N0 := Fr.nil n0
  have pre0 : ∀ zz, Steps p.tables e below (s₁.setTop (mkF m 0 #[.val (.ref o), .val (.ref o2), .unset] [])) zz → Steps p.tables e below (s₁.setTop (entryFrame m #[(.ref o), (.ref o2)] 3)) zz := fun zz kz_ => castTop (ef_22 m o o2) kz_
  obtain ⟨kc, hkc, hcs⟩ := SK.1
  obtain ⟨T38, X38, e38, st38⟩ := instY X0 hx hZ hown (hw _ (List.mem_of_getElem? (i := 108) rfl)) e0 (Ins.self EO2) (g := (mkF m 8 #[.val (.ref o), .val (.ref o2), .unset] [(.ref o2)])) rfl rfl (hb hby d22_8)
  obtain ⟨T39, X39, e39, st39⟩ := castY X38 hx hZ hown (hw _ (List.mem_of_getElem? (i := 108) rfl)) e38 (Ins.self EO2) (g := (mkF m 15 #[.val (.ref o), .val (.ref o2), .unset] [(.ref o2)])) rfl rfl (hb hby d22_15)
  obtain ⟨T40, X40, e40, st40⟩ := getS2 X39 hx hZ hown (host := "") (Or.inl (hw _ (List.mem_of_getElem? (i := 25) rfl))) Via.refl e39 (Sta.ext O.2 hcs) (g := (mkF m 19 #[.val (.ref o), .val (.ref o2), .val (.ref o2)] [])) rfl (hb hby d22_19)
  obtain ⟨T41, X41, e41, st41⟩ := getF X40 hx hZ hown (host := "") (Or.inl (hw _ (List.mem_of_getElem? (i := 37) rfl))) Via.refl e40 FC (g := (mkF m 26 #[.val (.ref o), .val (.ref o2), .val (.ref o2)] [(.ref o)])) rfl rfl (hb hby d22_26)
  obtain ⟨T42, X42, e42, st42⟩ := getF X41 hx hZ hown (host := "") (Or.inl (hw _ (List.mem_of_getElem? (i := 37) rfl))) Via.refl e41 FC2 (g := (mkF m 30 #[.val (.ref o), .val (.ref o2), .val (.ref o2)] [(.ref o2), (.int (0 : Int32))])) rfl rfl (hb hby d22_30)
  obtain ⟨T43, X43, e43, st43⟩ := getF X42 hx hZ hown (host := "") (Or.inl (hw _ (List.mem_of_getElem? (i := 39) rfl))) Via.refl e42 FV (g := (mkF m 37 #[.val (.ref o), .val (.ref o2), .val (.ref o2)] [(.ref o)])) rfl rfl (hb hby d22_37)
  obtain ⟨T44, X44, e44, st44⟩ := getF X43 hx hZ hown (host := "") (Or.inl (hw _ (List.mem_of_getElem? (i := 39) rfl))) Via.refl e43 FV2 (g := (mkF m 41 #[.val (.ref o), .val (.ref o2), .val (.ref o2)] [(.ref o2), (.ref b)])) rfl rfl (hb hby d22_41)
  obtain ⟨_, _, ⟨T45, L45, k45, n45⟩, -, X45, ⟨Lc45, hQ45, l45, y45, z45⟩, st45⟩ := Jvm.LawKit.callS X44 hx (y := (⟨"java/lang/StringLatin1", "equals", "([B[B)Z"⟩ : MethodName)) hown (mvT hZ (hw _ (List.mem_of_getElem? (i := 109) rfl))) (mvT hZ (hw _ (List.mem_of_getElem? (i := 110) rfl))) (mvT hZ (hw _ (List.mem_of_getElem? (i := 79) rfl))) (mvT hZ (hw _ (List.mem_of_getElem? (i := 111) rfl))) (by decide) (backOf (W := 0) (rmLEQ l Z a0 hw [] b d n w h0 n0 Z0 hn FB FD) hZ (hw _ (List.mem_of_getElem? (i := 111) rfl)) (hw _ (List.mem_of_getElem? (i := 79) rfl)) (by decide) (by decide)) (g := (mkF m 44 #[.val (.ref o), .val (.ref o2), .val (.ref o2)] [(.ref d), (.ref b)])) rfl (by rw [hml]; rfl) (argsL := [(.ref b), (.ref d)]) (rest := []) (lenOf pd_22 rfl) rfl (by show 2 * 0 + _ ≤ _; exact Nat.le_of_eq rfl) (hb hby d22_44) (fun _ _ => ⟨rfl, e44, (by decide : 0 + 0 ≤ _), (by decide : 0 + 0 ≤ _)⟩)
  dsimp only [Pt.U, Pt.locs, Pt.cells, Pt.slots] at X45 l45 y45 z45 st45 hQ45
  subst l45 y45 z45
  obtain ⟨rfl, N45q, e45⟩ := hQ45
  have N45 := Fr.app N0 N45q
  obtain ⟨fs, hr, hrun, hended, hW, hsame⟩ := X45.leave (v := some (.int (1 : Int32))) (fun h => by rw [Bd.returns] at h; cases h)
  refine ⟨_, _, pre0 _ ?_, hrun, hended, _, _, rfl, ?_, ⟨_, rfl⟩, hW, hsame.mono (by decide) (by decide)⟩
  · show Steps p.tables e below (s₁.setTop (mkF m 0 #[.val (.ref o), .val (.ref o2), .unset] [])) _
    refine XS.aloadN X0.here hx rfl (hb hby d22_0) rfl rfl ?_
    refine XS.aloadN X0.here hx rfl (hb hby d22_1) rfl rfl ?_
    refine Jvm.RoadKit.acmp (g := (mkF m 2 #[.val (.ref o), .val (.ref o2), .unset] [(.ref o2), (.ref o)])) X0 hx rfl rfl rfl (pc0 := 2) (pc' := 7) (same := false) rfl (hb hby d22_2) rfl (decide_eq_false fun q => hne (Value.ref.inj q)) (by decide) (by decide) ?_
    refine XS.aloadN X0.here hx rfl (hb hby d22_7) rfl rfl ?_
    show Steps p.tables e below (s₁.setTop (mkF m 8 #[.val (.ref o), .val (.ref o2), .unset] [(.ref o2)])) _
    refine st38 _ ?_
    refine XS.ifNo X38.here hx rfl (hb hby d22_11) rfl ((if0 _ _).trans (feq (by decide : ¬ ((1 : Int32) = (0 : Int32)))).1) ?_
    refine XS.aloadN X38.here hx rfl (hb hby d22_14) rfl rfl ?_
    show Steps p.tables e below (T38.setTop (mkF m 15 #[.val (.ref o), .val (.ref o2), .unset] [(.ref o2)])) _
    refine st39 _ ?_
    refine XS.astoreN X39.here hx rfl (hb hby d22_18) rfl rfl (l' := #[.val (.ref o), .val (.ref o2), .val (.ref o2)]) rfl ?_
    show Steps p.tables e below (T39.setTop (mkF m 19 #[.val (.ref o), .val (.ref o2), .val (.ref o2)] [])) _
    refine st40 _ ?_
    refine XS.ifNo X40.here hx rfl (hb hby d22_22) rfl ((if0 _ _).trans (feq hkc).1) ?_
    refine XS.aloadN X40.here hx rfl (hb hby d22_25) rfl rfl ?_
    show Steps p.tables e below (T40.setTop (mkF m 26 #[.val (.ref o), .val (.ref o2), .val (.ref o2)] [(.ref o)])) _
    refine st41 _ ?_
    refine XS.aloadN X41.here hx rfl (hb hby d22_29) rfl rfl ?_
    show Steps p.tables e below (T41.setTop (mkF m 30 #[.val (.ref o), .val (.ref o2), .val (.ref o2)] [(.ref o2), (.int (0 : Int32))])) _
    refine st42 _ ?_
    refine XS.icmpNo X42.here hx rfl (hb hby d22_33) rfl (teq (rfl : (0 : Int32) = (0 : Int32))).2 ?_
    refine XS.aloadN X42.here hx rfl (hb hby d22_36) rfl rfl ?_
    show Steps p.tables e below (T42.setTop (mkF m 37 #[.val (.ref o), .val (.ref o2), .val (.ref o2)] [(.ref o)])) _
    refine st43 _ ?_
    refine XS.aloadN X43.here hx rfl (hb hby d22_40) rfl rfl ?_
    show Steps p.tables e below (T43.setTop (mkF m 41 #[.val (.ref o), .val (.ref o2), .val (.ref o2)] [(.ref o2), (.ref b)])) _
    refine st44 _ ?_
    show Steps p.tables e below (T44.setTop (mkF m 44 #[.val (.ref o), .val (.ref o2), .val (.ref o2)] [(.ref d), (.ref b)])) _
    refine st45 _ ?_
    refine XS.ifNo X45.here hx rfl (hb hby d22_47) rfl ((if0 _ _).trans (feq (by decide : ¬ ((1 : Int32) = (0 : Int32)))).1) ?_
    refine XS.iconst X45.here hx rfl (hb hby d22_50) ?_
    refine XS.goto X45.here hx rfl (pc0 := 51) (pc' := 55) rfl (hb hby d22_51) (by decide) (by decide) ?_
    show Steps p.tables e below (T45.setTop (mkF m 55 #[.val (.ref o), .val (.ref o2), .val (.ref o2)] [(.int (1 : Int32))])) _
    exact retN X45 hx (t := .boolean) Bd.returns (by simp) (hb hby d22_55) hr
  · show QI (1 : Int32) h0 n0 _ T45.heap _
    rw [e45]
    exact ⟨rfl, N45, rfl⟩
set_option maxRecDepth 65536 in
set_option maxHeartbeats 40000000 in
theorem rmEQ (l : Launch) (Z : State) (a0 : Array Value) (hw : ∀ d ∈ tables_1, d.before a0 Z = true) (ws : List Jvm.Cond) (o o2 : Addr) (n : Nat) (w : Nat → Int32)  (h0 : Heap) (n0 : Nat) (Z0 : n0 ≤ h0.size) (hn : n ≤ 20) (O : Old Z n0 h0) (SK : StrSta Z) (S : StrV Z h0 o n (fun j => Value.int (w j))) (S2 : StrV Z h0 o2 n (fun j => Value.int (w j)))  :
    MetFree l (⟨"java/lang/String", "equals", "(Ljava/lang/Object;)Z"⟩ : MethodName) (head1 (Jvm.Cond.code (⟨"java/lang/String", "equals", "(Ljava/lang/Object;)Z"⟩ : MethodName) jdk_42_method_66_code 3 (some .boolean) :: ws) ({ frames := 1, cells := 0, slots := 0, locals := 20 } : Room)) (fun aa_ U_ => aa_ = #[(.ref o), (.ref o2)] ∧ Z.Warmed39 U_.vm ∧ U_.heap = h0) (fun _ _ _ _ _ => True) (fun _ U_ o_ V_ => ∃ v_ L_, o_ = .returned v_ ∧ QI (1 : Int32) h0 n0 v_ V_.heap L_ ∧ FrameEnd U_ o_ V_ L_ ({ frames := 1, cells := 0, slots := 0, locals := 20 } : Room).cells ({ frames := 1, cells := 0, slots := 0, locals := 20 } : Room).slots) := by
  by_cases hne : o = o2
  · subst hne; exact rmEQs l Z a0 hw ws o h0 n0 Z0
  · obtain ⟨EO, b, FV, FC, FB⟩ := S
    obtain ⟨EO2, d, FV2, FC2, FD⟩ := S2
    exact rmEQd l Z a0 hw ws o o2 b d n w h0 n0 Z0 hn O SK hne EO FC FV EO2 FC2 FV2 FB FD
set_option maxRecDepth 65536 in
set_option maxHeartbeats 40000000 in
theorem rmNS0 (l : Launch) (Z : State) (a0 : Array Value) (hw : ∀ d ∈ tables_1, d.before a0 Z = true) (ws : List Jvm.Cond) (b : Addr) (f : Nat → Value)  (h0 : Heap) (n0 : Nat) (Z0 : n0 ≤ h0.size) (hEL : EW Z a0 EL1)  :
    MetFree l (⟨"java/lang/StringLatin1", "newString", "([BII)Ljava/lang/String;"⟩ : MethodName) (head1 (Jvm.Cond.code (⟨"java/lang/StringLatin1", "newString", "([BII)Ljava/lang/String;"⟩ : MethodName) jdk_43_method_47_code 3 (some (.object "java/lang/String")) :: ws) ({ frames := 0, cells := 2, slots := 4, locals := 0 } : Room)) (fun aa_ U_ => aa_ = #[(.ref b), (.int (0 : Int32)), (.int (0 : Int32))] ∧ Z.Warmed39 U_.vm ∧ U_.heap = h0 ∧ CHv Z EL1 U_.vm h0) (fun _ _ _ _ _ => True) (fun _ U_ o_ V_ => ∃ v_ L_, o_ = .returned v_ ∧ QV Z 0 f h0 n0 v_ V_.heap L_ ∧ CHr Z EL1 U_.vm U_.heap V_.vm V_.heap ∧ ReturnedEndW U_ o_ V_ L_ ({ frames := 0, cells := 2, slots := 4, locals := 0 } : Room).cells ({ frames := 0, cells := 2, slots := 4, locals := 0 } : Room).slots) := by
  refine MetFree.of_bodySF (plainFor_of_name pn_16) hisR ?_
  intro p e s m args below meth c s₁ Bd hml0 hP hK
  obtain ⟨rfl, hZ, hh, CH0⟩ := hP
  have hx := Bd.exec
  have hby := Bd.bytes
  have hml : c.maxLocals = 3 := hml0
  have hown : s.vm.findClass "java/lang/StringLatin1" = some m.cls := findClass_of_methodNamed Bd.named
  have hnm := (name_of_methodNamed Bd.named Bd.method).1
  have X0 : Stand p l e ({ frames := 0, cells := 2, slots := 4, locals := 0 } : Room) s m #[(.ref b), (.int (0 : Int32)), (.int (0 : Int32))] below meth c s₁ [] 0 0 := Stand.of_body Bd
  have e0 : s₁.heap = h0 := by rw [← hh, Bd.state]; rfl
  have N0 := Fr.nil n0
  have pre0 : ∀ zz, Steps p.tables e below (s₁.setTop (mkF m 0 #[.val (.ref b), .val (.int (0 : Int32)), .val (.int (0 : Int32))] [])) zz → Steps p.tables e below (s₁.setTop (entryFrame m #[(.ref b), (.int (0 : Int32)), (.int (0 : Int32))] 3)) zz := fun zz kz_ => castTop (ef_16 m b (0 : Int32) (0 : Int32)) kz_
  have hwS : ∀ a ∈ Bundle.stringAtoms, a.before a0 Z = true := fun d hd => hw d (by simpa using (List.all_eq_true.mp (by decide +kernel : (Bundle.stringAtoms.all fun c => tables_1.contains c) = true)) d hd)
  obtain ⟨a46, T46, h46, k46, v46, kk46, X46, e46, E46, hS46, hk46, hZ46, hown46, Ex46, Fc46, Fv46, Av46, la46, lb46, C46, Lt46, Sn46, st46⟩ := ldcCH (s := s) (vm0 := s.vm) (EL := EL1) X0 hx hZ hown (hw _ (List.mem_of_getElem? (i := 120) rfl)) hwS e0 ((State.WarmedH.refl s).since 0) (Nat.zero_le _) hEL (by decide) CH0 (vs := []) (z := (0 : Int32)) (by decide) (by decide) (by decide) (g := (mkF m 4 #[.val (.ref b), .val (.int (0 : Int32)), .val (.int (0 : Int32))] [])) rfl (hb hby d16_4) (n := 0) (by decide) (by decide) (by decide) (by decide)
  have K46 := (Keep.refl h0 []).ext E46
  have Z46 : n0 ≤ h46.size := Nat.le_trans Z0 E46.1
  have CR46 := (CHr.refl CH0).trans C46
  obtain ⟨fs, hr, hrun, hended, -, hWW, hBB, hSS⟩ := Stand.leaveW (s := s) (vm₁ := T46.vm) X46 hS46 (by rw [e46]; exact hk46) (v := some (.ref a46)) (fun h => by rw [Bd.returns] at h; cases h)
  refine ⟨_, _, pre0 _ ?_, hrun, hended, _, _, rfl, ?_, ?_, ⟨_, rfl⟩, hWW, hBB, hSS.mono (by decide) (by decide)⟩
  · show Steps p.tables e below (s₁.setTop (mkF m 0 #[.val (.ref b), .val (.int (0 : Int32)), .val (.int (0 : Int32))] [])) _
    refine XS.iloadN X0.here hx rfl (hb hby d16_0) rfl ?_
    refine XS.ifNo X0.here hx rfl (hb hby d16_1) rfl ((if0 _ _).trans (teq (rfl : (0 : Int32) = (0 : Int32))).2) ?_
    show Steps p.tables e below (s₁.setTop (mkF m 4 #[.val (.ref b), .val (.int (0 : Int32)), .val (.int (0 : Int32))] [])) _
    refine st46 _ ?_
    show Steps p.tables e below (T46.setTop (mkF m 6 #[.val (.ref b), .val (.int (0 : Int32)), .val (.int (0 : Int32))] [(.ref a46)])) _
    jvm_step X46.here [X46.here.top, hx, (hb hby d16_6), X46.method', Bd.returns, Value.isRef, FieldType.isReference]
    first | (intro acts; rw [hr _ acts rfl rfl rfl]) | rw [hr _ _ rfl rfl rfl]
    exact Steps.refl _
  · show QV Z 0 f h0 n0 _ T46.heap _
    exact ⟨a46, rfl, N0, by rw [e46]; exact K46, by rw [e46]; exact ⟨Ex46, v46, Fv46, Fc46, AF.empty Av46 rfl _⟩⟩
  · show CHr Z EL1 s.vm s.heap T46.vm T46.heap
    have q := CR46.trans (CHv.at (s := s) (vm0 := T46.vm) X46 hZ46 hEL C46.1)
    rw [hh, e46]
    exact q
set_option maxRecDepth 65536 in
set_option maxHeartbeats 40000000 in
theorem rmSUB0 (l : Launch) (Z : State) (a0 : Array Value) (hw : ∀ d ∈ tables_1, d.before a0 Z = true) (ws : List Jvm.Cond) (o b : Addr) (n : Nat) (f f' : Nat → Value)  (h0 : Heap) (n0 : Nat) (Z0 : n0 ≤ h0.size) (hn : n ≤ 20) (hp : 0 < n) (O : Old Z n0 h0) (SK : StrSta Z) (EO : Exa Z h0 o "java/lang/String") (FC : Fld Z h0 o "java/lang/String" "coder" "B" (.int (0 : Int32))) (FV : Fld Z h0 o "java/lang/String" "value" "[B" (.ref b)) (FB : AF Z h0 b .byte n f) (hEL : EW Z a0 EL1)  :
    MetFree l (⟨"java/lang/String", "substring", "(II)Ljava/lang/String;"⟩ : MethodName) (head1 (Jvm.Cond.code (⟨"java/lang/String", "substring", "(II)Ljava/lang/String;"⟩ : MethodName) jdk_42_method_92_code 5 (some (.object "java/lang/String")) :: ws) ({ frames := 2, cells := 2, slots := 4, locals := 50 } : Room)) (fun aa_ U_ => aa_ = #[(.ref o), (.int (0 : Int32)), (.int (Int32.ofNat 0))] ∧ Z.Warmed39 U_.vm ∧ U_.heap = h0 ∧ CHv Z EL1 U_.vm h0) (fun _ _ _ _ _ => True) (fun _ U_ o_ V_ => ∃ v_ L_, o_ = .returned v_ ∧ QV Z 0 f' h0 n0 v_ V_.heap L_ ∧ CHr Z EL1 U_.vm U_.heap V_.vm V_.heap ∧ ReturnedEndW U_ o_ V_ L_ ({ frames := 2, cells := 2, slots := 4, locals := 50 } : Room).cells ({ frames := 2, cells := 2, slots := 4, locals := 50 } : Room).slots) := by
  refine MetFree.of_bodySF (plainFor_of_name pn_12) hisR ?_
  intro p e s m args below meth c s₁ Bd hml0 hP hK
  obtain ⟨rfl, hZ, hh, CH0⟩ := hP
  have hx := Bd.exec
  have hby := Bd.bytes
  have hml : c.maxLocals = 5 := hml0
  have hown : s.vm.findClass "java/lang/String" = some m.cls := findClass_of_methodNamed Bd.named
  have hnm := (name_of_methodNamed Bd.named Bd.method).1
  have X0 : Stand p l e ({ frames := 2, cells := 2, slots := 4, locals := 50 } : Room) s m #[(.ref o), (.int (0 : Int32)), (.int (Int32.ofNat 0))] below meth c s₁ [] 0 0 := Stand.of_body Bd
  have e0 : s₁.heap = h0 := by rw [← hh, Bd.state]; rfl
  have N0 := Fr.nil n0
  have pre0 : ∀ zz, Steps p.tables e below (s₁.setTop (mkF m 0 #[.val (.ref o), .val (.int (0 : Int32)), .val (.int (Int32.ofNat 0)), .unset, .unset] [])) zz → Steps p.tables e below (s₁.setTop (entryFrame m #[(.ref o), (.int (0 : Int32)), (.int (Int32.ofNat 0))] 5)) zz := fun zz kz_ => castTop (ef_12 m o (0 : Int32) (Int32.ofNat 0)) kz_
  obtain ⟨cq47, kq47, q47a, q47b, q47c⟩ := isOf hZ e0 EO
  obtain ⟨_, _, ⟨T47, L47, k47, n47⟩, -, X47, ⟨Lc47, hQ47, l47, y47, z47⟩, st47⟩ := X0.virtualBack hx (y := (⟨"java/lang/String", "length", "()I"⟩ : MethodName)) (z := (⟨"java/lang/String", "length", "()I"⟩ : MethodName)) hown (mvT hZ (hw _ (List.mem_of_getElem? (i := 63) rfl))) (mvT hZ (hw _ (List.mem_of_getElem? (i := 47) rfl))) (notFace_of_selects (args := #[]) (mvT hZ (hw _ (List.mem_of_getElem? (i := 49) rfl)))) (mvT hZ (hw _ (List.mem_of_getElem? (i := 49) rfl))) (mvT hZ (hw _ (List.mem_of_getElem? (i := 48) rfl))) (by decide) (backOf (W := 0) (rmLEN0 l Z a0 hw [] o b n f h0 n0 Z0 hn O SK EO FC FV FB) hZ (hw _ (List.mem_of_getElem? (i := 50) rfl)) (hw _ (List.mem_of_getElem? (i := 13) rfl)) (by decide) (by decide)) q47a q47c (g := (mkF m 1 #[.val (.ref o), .val (.int (0 : Int32)), .val (.int (Int32.ofNat 0)), .unset, .unset] [(.ref o)])) rfl (by rw [hml]; rfl) (Steps.refl _) (argsL := []) (rest := []) (lenOf pd_9 rfl) rfl (by show 2 * 0 + _ ≤ _; exact Nat.le_of_eq rfl) (hb hby d12_1) (fun _ _ => ⟨rfl, e0, (by decide : 0 + 0 ≤ _), (by decide : 0 + 0 ≤ _)⟩)
  dsimp only [Pt.U, Pt.locs, Pt.cells, Pt.slots] at X47 l47 y47 z47 st47 hQ47
  subst l47 y47 z47
  obtain ⟨rfl, N47q, e47⟩ := hQ47
  have N47 := Fr.app N0 N47q
  obtain ⟨_, _, ⟨T48, L48, k48, n48⟩, -, X48, ⟨Lc48, hQ48, l48, y48, z48⟩, st48⟩ := Jvm.LawKit.callS X47 hx (y := (⟨"java/lang/String", "checkBoundsBeginEnd", "(III)V"⟩ : MethodName)) hown (mvT hZ (hw _ (List.mem_of_getElem? (i := 64) rfl))) (mvT hZ (hw _ (List.mem_of_getElem? (i := 65) rfl))) (mvT hZ (hw _ (List.mem_of_getElem? (i := 13) rfl))) (mvT hZ (hw _ (List.mem_of_getElem? (i := 66) rfl))) (by decide) (backOf (W := 0) (rmCBE l Z a0 hw [] 0 n h0 n0 Z0 hn (by omega) O SK) hZ (hw _ (List.mem_of_getElem? (i := 66) rfl)) (hw _ (List.mem_of_getElem? (i := 13) rfl)) (by decide) (by decide)) (g := (mkF m 8 #[.val (.ref o), .val (.int (0 : Int32)), .val (.int (Int32.ofNat 0)), .val (.int (Int32.ofNat n)), .unset] [(.int (Int32.ofNat n)), (.int (Int32.ofNat 0)), (.int (0 : Int32))])) rfl (by rw [hml]; rfl) (argsL := [(.int (0 : Int32)), (.int (Int32.ofNat 0)), (.int (Int32.ofNat n))]) (rest := []) (lenOf pd_12 rfl) rfl (by show 2 * 0 + _ ≤ _; exact Nat.le_of_eq rfl) (hb hby d12_8) (fun _ _ => ⟨rfl, e47, (by decide : 0 + 0 ≤ _), (by decide : 0 + 0 ≤ _)⟩)
  dsimp only [Pt.U, Pt.locs, Pt.cells, Pt.slots] at X48 l48 y48 z48 st48 hQ48
  subst l48 y48 z48
  obtain ⟨rfl, N48q, e48⟩ := hQ48
  have N48 := Fr.app N47 N48q
  obtain ⟨cq49, kq49, q49a, q49b, q49c⟩ := isOf hZ e48 EO
  obtain ⟨_, _, ⟨T49, L49, k49, n49⟩, -, X49, ⟨Lc49, hQ49, l49, y49, z49⟩, st49⟩ := X48.virtualBack hx (y := (⟨"java/lang/String", "isLatin1", "()Z"⟩ : MethodName)) (z := (⟨"java/lang/String", "isLatin1", "()Z"⟩ : MethodName)) hown (mvT hZ (hw _ (List.mem_of_getElem? (i := 72) rfl))) (mvT hZ (hw _ (List.mem_of_getElem? (i := 73) rfl))) (notFace_of_selects (args := #[]) (mvT hZ (hw _ (List.mem_of_getElem? (i := 75) rfl)))) (mvT hZ (hw _ (List.mem_of_getElem? (i := 75) rfl))) (mvT hZ (hw _ (List.mem_of_getElem? (i := 74) rfl))) (by decide) (backOf (W := 0) (rmIL0 l Z a0 hw [] o h0 n0 Z0 O SK EO FC) hZ (hw _ (List.mem_of_getElem? (i := 76) rfl)) (hw _ (List.mem_of_getElem? (i := 13) rfl)) (by decide) (by decide)) q49a q49c (g := (mkF m 28 #[.val (.ref o), .val (.int (0 : Int32)), .val (.int (Int32.ofNat 0)), .val (.int (Int32.ofNat n)), .val (.int (0 : Int32))] [(.ref o)])) rfl (by rw [hml]; rfl) (Steps.refl _) (argsL := []) (rest := []) (lenOf pd_14 rfl) rfl (by show 2 * 0 + _ ≤ _; exact Nat.le_of_eq rfl) (hb hby d12_28) (fun _ _ => ⟨rfl, e48, (by decide : 0 + 0 ≤ _), (by decide : 0 + 0 ≤ _)⟩)
  dsimp only [Pt.U, Pt.locs, Pt.cells, Pt.slots] at X49 l49 y49 z49 st49 hQ49
  subst l49 y49 z49
  obtain ⟨rfl, N49q, e49⟩ := hQ49
  have N49 := Fr.app N48 N49q
  obtain ⟨T50, X50, e50, st50⟩ := getF X49 hx hZ hown (host := "") (Or.inl (hw _ (List.mem_of_getElem? (i := 39) rfl))) Via.refl e49 FV (g := (mkF m 35 #[.val (.ref o), .val (.int (0 : Int32)), .val (.int (Int32.ofNat 0)), .val (.int (Int32.ofNat n)), .val (.int (0 : Int32))] [(.ref o)])) rfl rfl (hb hby d12_35)
  obtain ⟨_, _, ⟨T51, L51, k51, n51⟩, -, X51, hS251, hg51, ⟨Lc51, hQ51, l51, y51, z51, C51⟩, st51⟩ := callSS X50 hx (y := (⟨"java/lang/StringLatin1", "newString", "([BII)Ljava/lang/String;"⟩ : MethodName)) hown (mvT hZ (hw _ (List.mem_of_getElem? (i := 77) rfl))) (mvT hZ (hw _ (List.mem_of_getElem? (i := 78) rfl))) (mvT hZ (hw _ (List.mem_of_getElem? (i := 79) rfl))) (mvT hZ (hw _ (List.mem_of_getElem? (i := 80) rfl))) (by decide) (backOfSH (s := s) (vm0 := s.vm) (EL := EL1) (W := 0) (rmNS0 l Z a0 hw [] b f' h0 n0 Z0 hEL) hZ (hw _ (List.mem_of_getElem? (i := 80) rfl)) (hw _ (List.mem_of_getElem? (i := 79) rfl)) (by decide) (by decide) hEL CH0) (g := (mkF m 41 #[.val (.ref o), .val (.int (0 : Int32)), .val (.int (Int32.ofNat 0)), .val (.int (Int32.ofNat n)), .val (.int (0 : Int32))] [(.int (0 : Int32)), (.int (0 : Int32)), (.ref b)])) rfl (by rw [hml]; rfl) (argsL := [(.ref b), (.int (0 : Int32)), (.int (0 : Int32))]) (rest := []) (lenOf pd_15 rfl) rfl (by show 2 * 0 + _ ≤ _; exact Nat.le_of_eq rfl) (hb hby d12_41) (fun _ _ => ⟨rfl, e50, (by decide : 0 + 2 ≤ _), (by decide : 0 + 4 ≤ _)⟩)
  dsimp only [Pt.U, Pt.locs, Pt.cells, Pt.slots] at X51 l51 y51 z51 st51 hQ51 hS251 hg51
  subst l51 y51 z51
  obtain ⟨o51, rfl, N51q, K51, S51⟩ := hQ51
  have N51 := Fr.app N49 N51q
  dsimp only [Pt.U, Pt.locs, Pt.cells, Pt.slots] at C51
  have CR51 := (CHr.refl CH0).trans C51
  have hS51 := foldS ((State.WarmedH.refl s).since 0) (by rw [e50]; exact (Nat.zero_le _)) hS251 hg51
  have hZ51 : Z.Warmed39 (s.setVm T51.vm).vm := State.Warmed39.trans hZ hS251.1
  have hown51 : (s.setVm T51.vm).vm.findClass "java/lang/String" = some m.cls := by rw [show (s.setVm T51.vm).vm = T51.vm from rfl, hS251.1.alike.findClass]; exact hown
  have KK51 := (Keep.refl h0 []).trans K51 (fun x r => absurd r List.not_mem_nil)
  have Z51 : n0 ≤ T51.heap.size := Nat.le_trans Z0 K51.1
  have O51 := O.keep K51 all0'
  obtain ⟨fs, hr, hrun, hended, -, hWW, hBB, hSS⟩ := Stand.leaveW (s := s) (vm₁ := T51.vm) X51 hS51 (by exact (Nat.le_refl _)) (v := some (.ref o51)) (fun h => by rw [Bd.returns] at h; cases h)
  refine ⟨_, _, pre0 _ ?_, hrun, hended, _, _, rfl, ?_, ?_, ⟨_, rfl⟩, hWW, hBB, hSS.mono (by decide) (by decide)⟩
  · show Steps p.tables e below (s₁.setTop (mkF m 0 #[.val (.ref o), .val (.int (0 : Int32)), .val (.int (Int32.ofNat 0)), .unset, .unset] [])) _
    refine XS.aloadN X0.here hx rfl (hb hby d12_0) rfl rfl ?_
    show Steps p.tables e below (s₁.setTop (mkF m 1 #[.val (.ref o), .val (.int (0 : Int32)), .val (.int (Int32.ofNat 0)), .unset, .unset] [(.ref o)])) _
    refine st47.trans ?_
    refine XS.istoreN X47.here hx rfl (hb hby d12_4) rfl (l' := #[.val (.ref o), .val (.int (0 : Int32)), .val (.int (Int32.ofNat 0)), .val (.int (Int32.ofNat n)), .unset]) rfl ?_
    refine XS.iloadN X47.here hx rfl (hb hby d12_5) rfl ?_
    refine XS.iloadN X47.here hx rfl (hb hby d12_6) rfl ?_
    refine XS.iloadN X47.here hx rfl (hb hby d12_7) rfl ?_
    show Steps p.tables e below (T47.setTop (mkF m 8 #[.val (.ref o), .val (.int (0 : Int32)), .val (.int (Int32.ofNat 0)), .val (.int (Int32.ofNat n)), .unset] [(.int (Int32.ofNat n)), (.int (Int32.ofNat 0)), (.int (0 : Int32))])) _
    refine st48 _ ?_
    refine XS.iloadN X48.here hx rfl (hb hby d12_11) rfl ?_
    refine XS.ifNo X48.here hx rfl (hb hby d12_12) rfl ((if0 _ _).trans (teq (rfl : (0 : Int32) = (0 : Int32))).2) ?_
    refine XS.iloadN X48.here hx rfl (hb hby d12_15) rfl ?_
    refine XS.iloadN X48.here hx rfl (hb hby d12_16) rfl ?_
    refine XS.icmpYes X48.here hx rfl (pc0 := 17) (pc' := 22) rfl (hb hby d12_17) rfl (feq (neN (by omega) (by omega) (by omega))).2 (by decide) (by decide) ?_
    show Steps p.tables e below (T48.setTop (mkF m 22 #[.val (.ref o), .val (.int (0 : Int32)), .val (.int (Int32.ofNat 0)), .val (.int (Int32.ofNat n)), .unset] [])) _
    refine XS.iloadN X48.here hx rfl (hb hby d12_22) rfl ?_
    refine XS.iloadN X48.here hx rfl (hb hby d12_23) rfl ?_
    refine XS.isub X48.here hx rfl (hb hby d12_24) rfl ?_
    show Steps p.tables e below (T48.setTop (mkF m 25 #[.val (.ref o), .val (.int (0 : Int32)), .val (.int (Int32.ofNat 0)), .val (.int (Int32.ofNat n)), .unset] [(.int ((Int32.ofNat 0) - (0 : Int32)))])) _
    rw [show ((Int32.ofNat 0) - (0 : Int32)) = (0 : Int32) from rfl]
    show Steps p.tables e below (T48.setTop (mkF m 25 #[.val (.ref o), .val (.int (0 : Int32)), .val (.int (Int32.ofNat 0)), .val (.int (Int32.ofNat n)), .unset] [(.int (0 : Int32))])) _
    refine XS.istore X48.here hx rfl (hb hby d12_25) rfl (l' := #[.val (.ref o), .val (.int (0 : Int32)), .val (.int (Int32.ofNat 0)), .val (.int (Int32.ofNat n)), .val (.int (0 : Int32))]) rfl ?_
    refine XS.aloadN X48.here hx rfl (hb hby d12_27) rfl rfl ?_
    show Steps p.tables e below (T48.setTop (mkF m 28 #[.val (.ref o), .val (.int (0 : Int32)), .val (.int (Int32.ofNat 0)), .val (.int (Int32.ofNat n)), .val (.int (0 : Int32))] [(.ref o)])) _
    refine st49.trans ?_
    refine XS.ifNo X49.here hx rfl (hb hby d12_31) rfl ((if0 _ _).trans (feq (by decide : ¬ ((1 : Int32) = (0 : Int32)))).1) ?_
    refine XS.aloadN X49.here hx rfl (hb hby d12_34) rfl rfl ?_
    show Steps p.tables e below (T49.setTop (mkF m 35 #[.val (.ref o), .val (.int (0 : Int32)), .val (.int (Int32.ofNat 0)), .val (.int (Int32.ofNat n)), .val (.int (0 : Int32))] [(.ref o)])) _
    refine st50 _ ?_
    refine XS.iloadN X50.here hx rfl (hb hby d12_38) rfl ?_
    refine XS.iload X50.here hx rfl (hb hby d12_39) rfl ?_
    show Steps p.tables e below (T50.setTop (mkF m 41 #[.val (.ref o), .val (.int (0 : Int32)), .val (.int (Int32.ofNat 0)), .val (.int (Int32.ofNat n)), .val (.int (0 : Int32))] [(.int (0 : Int32)), (.int (0 : Int32)), (.ref b)])) _
    refine st51.trans ?_
    refine XS.goto X51.here hx rfl (pc0 := 44) (pc' := 57) rfl (hb hby d12_44) (by decide) (by decide) ?_
    show Steps p.tables e below (T51.setTop (mkF m 57 #[.val (.ref o), .val (.int (0 : Int32)), .val (.int (Int32.ofNat 0)), .val (.int (Int32.ofNat n)), .val (.int (0 : Int32))] [(.ref o51)])) _
    jvm_step X51.here [X51.here.top, hx, (hb hby d12_57), X51.method', Bd.returns, Value.isRef, FieldType.isReference]
    first | (intro acts; rw [hr _ acts rfl rfl rfl]) | rw [hr _ _ rfl rfl rfl]
    exact Steps.refl _
  · show QV Z 0 f' h0 n0 _ T51.heap _
    exact ⟨o51, rfl, N51, KK51, S51⟩
  · show CHr Z EL1 s.vm s.heap T51.vm T51.heap
    have q := CR51.trans (CHv.at (s := s) (vm0 := T51.vm) X51 hZ51 hEL C51.1)
    rw [hh]
    exact q
/-- an enum constant of the start, its suffix m bytes long -/
def KD (Z : State) (kd : Addr) (m : Nat) : Prop := Exa Z Z.heap kd "com/example/trestle/trestle/ResourceKind" ∧ ∃ su : Addr, Fld Z Z.heap kd "com/example/trestle/trestle/ResourceKind" "suffix" "Ljava/lang/String;" (.ref su) ∧ ∃ w, StrV Z Z.heap su m w
theorem d9_0 : decode prog_20_method_7_code 0 = .ok (.aload_n 1, 1) := by decide +kernel
theorem d9_1 : decode prog_20_method_7_code 1 = .ok (.iconst 0, 1) := by decide +kernel
theorem d9_2 : decode prog_20_method_7_code 2 = .ok (.aload_n 1, 1) := by decide +kernel
theorem d9_3 : decode prog_20_method_7_code 3 = .ok (.invokevirtual 76, 3) := by decide +kernel
theorem d9_6 : decode prog_20_method_7_code 6 = .ok (.aload_n 0, 1) := by decide +kernel
theorem d9_7 : decode prog_20_method_7_code 7 = .ok (.getfield 41, 3) := by decide +kernel
theorem d9_10 : decode prog_20_method_7_code 10 = .ok (.invokevirtual 76, 3) := by decide +kernel
theorem d9_13 : decode prog_20_method_7_code 13 = .ok (.isub, 1) := by decide +kernel
theorem d9_14 : decode prog_20_method_7_code 14 = .ok (.invokevirtual 80, 3) := by decide +kernel
theorem d9_17 : decode prog_20_method_7_code 17 = .ok (.areturn, 1) := by decide +kernel
theorem pn_9 : plainName "com/example/trestle/trestle/ResourceKind" = true := by first | (simp [plainName, overriddenIn]; done) | decide +kernel
theorem ef_9 (m : MethodId) (x0 : Addr) (x1 : Addr) : entryFrame m #[(.ref x0), (.ref x1)] 2 = mkF m 0 #[.val (.ref x0), .val (.ref x1)] [] := by first | (simp [entryFrame, mkF, argsToLocals, Value.category]; done) | rfl
set_option maxRecDepth 65536 in
set_option maxHeartbeats 40000000 in
theorem rmID (l : Launch) (Z : State) (a0 : Array Value) (hw : ∀ d ∈ tables_1, d.before a0 Z = true) (ws : List Jvm.Cond) (kd o : Addr) (n mm : Nat) (f : Nat → Value)  (h0 : Heap) (n0 : Nat) (Z0 : n0 ≤ h0.size) (hn : n ≤ 20) (O : Old Z n0 h0) (SK : StrSta Z) (SO : StrV Z h0 o n f) (hm : mm < n) (hm0 : 0 < mm) (KDm : KD Z kd mm) (hft : ∀ j, j < n → fits .byte (f j) = true)  :
    MetFree l (⟨"com/example/trestle/trestle/ResourceKind", "id", "(Ljava/lang/String;)Ljava/lang/String;"⟩ : MethodName) (head1 (Jvm.Cond.code (⟨"com/example/trestle/trestle/ResourceKind", "id", "(Ljava/lang/String;)Ljava/lang/String;"⟩ : MethodName) prog_20_method_7_code 2 (some (.object "java/lang/String")) :: ws) ({ frames := 5, cells := 2, slots := 24, locals := 140 } : Room)) (fun aa_ U_ => aa_ = #[(.ref kd), (.ref o)] ∧ Z.Warmed39 U_.vm ∧ U_.heap = h0) (fun _ _ _ _ _ => True) (fun _ U_ o_ V_ => ∃ v_ L_, o_ = .returned v_ ∧ QV Z (n - mm) f h0 n0 v_ V_.heap L_ ∧ FrameEnd U_ o_ V_ L_ ({ frames := 5, cells := 2, slots := 24, locals := 140 } : Room).cells ({ frames := 5, cells := 2, slots := 24, locals := 140 } : Room).slots) := by
  refine MetFree.of_bodySF (plainFor_of_name pn_9) hisR ?_
  intro p e s m args below meth c s₁ Bd hml0 hP hK
  obtain ⟨rfl, hZ, hh⟩ := hP
  have hx := Bd.exec
  have hby := Bd.bytes
  have hml : c.maxLocals = 2 := hml0
  have hown : s.vm.findClass "com/example/trestle/trestle/ResourceKind" = some m.cls := findClass_of_methodNamed Bd.named
  have hnm := (name_of_methodNamed Bd.named Bd.method).1
  have X0 : Stand p l e ({ frames := 5, cells := 2, slots := 24, locals := 140 } : Room) s m #[(.ref kd), (.ref o)] below meth c s₁ [] 0 0 := Stand.of_body Bd
  have e0 : s₁.heap = h0 := by rw [← hh, Bd.state]; rfl
  have N0 := Fr.nil n0
  have pre0 : ∀ zz, Steps p.tables e below (s₁.setTop (mkF m 0 #[.val (.ref kd), .val (.ref o)] [])) zz → Steps p.tables e below (s₁.setTop (entryFrame m #[(.ref kd), (.ref o)] 2)) zz := fun zz kz_ => castTop (ef_9 m kd o) kz_
  obtain ⟨EK, su, FS0, ws_, SU0⟩ := KDm
  have FS := FS0.ext O.2
  have SU := SU0.ext O.2
  obtain ⟨cq52, kq52, q52a, q52b, q52c⟩ := isOf hZ e0 SO.1
  obtain ⟨_, _, ⟨T52, L52, k52, n52⟩, -, X52, ⟨Lc52, hQ52, l52, y52, z52⟩, st52⟩ := X0.virtualBack hx (y := (⟨"java/lang/String", "length", "()I"⟩ : MethodName)) (z := (⟨"java/lang/String", "length", "()I"⟩ : MethodName)) hown (mvT hZ (hw _ (List.mem_of_getElem? (i := 46) rfl))) (mvT hZ (hw _ (List.mem_of_getElem? (i := 47) rfl))) (notFace_of_selects (args := #[]) (mvT hZ (hw _ (List.mem_of_getElem? (i := 49) rfl)))) (mvT hZ (hw _ (List.mem_of_getElem? (i := 49) rfl))) (mvT hZ (hw _ (List.mem_of_getElem? (i := 48) rfl))) (by decide) (backOf (W := 2) (rmLEN l Z a0 hw [] o n f h0 n0 Z0 hn O SK SO) hZ (hw _ (List.mem_of_getElem? (i := 50) rfl)) (hw _ (List.mem_of_getElem? (i := 13) rfl)) (by decide) (by decide)) q52a q52c (g := (mkF m 3 #[.val (.ref kd), .val (.ref o)] [(.ref o), (.int (0 : Int32)), (.ref o)])) rfl (by rw [hml]; rfl) (Steps.refl _) (argsL := []) (rest := [(.int (0 : Int32)), (.ref o)]) (lenOf pd_9 rfl) rfl (by show 2 * 0 + _ ≤ _; exact Nat.le_of_eq rfl) (hb hby d9_3) (fun _ _ => ⟨rfl, e0, (by decide : 0 + 0 ≤ _), (by decide : 0 + 0 ≤ _)⟩)
  dsimp only [Pt.U, Pt.locs, Pt.cells, Pt.slots] at X52 l52 y52 z52 st52 hQ52
  subst l52 y52 z52
  obtain ⟨rfl, N52q, e52⟩ := hQ52
  have N52 := Fr.app N0 N52q
  obtain ⟨T53, X53, e53, st53⟩ := getF X52 hx hZ hown (host := "") (Or.inl (hw _ (List.mem_of_getElem? (i := 56) rfl))) Via.refl e52 FS (g := (mkF m 7 #[.val (.ref kd), .val (.ref o)] [(.ref kd), (.int (Int32.ofNat n)), (.int (0 : Int32)), (.ref o)])) rfl rfl (hb hby d9_7)
  obtain ⟨cq54, kq54, q54a, q54b, q54c⟩ := isOf hZ e53 SU.1
  obtain ⟨_, _, ⟨T54, L54, k54, n54⟩, -, X54, ⟨Lc54, hQ54, l54, y54, z54⟩, st54⟩ := X53.virtualBack hx (y := (⟨"java/lang/String", "length", "()I"⟩ : MethodName)) (z := (⟨"java/lang/String", "length", "()I"⟩ : MethodName)) hown (mvT hZ (hw _ (List.mem_of_getElem? (i := 46) rfl))) (mvT hZ (hw _ (List.mem_of_getElem? (i := 47) rfl))) (notFace_of_selects (args := #[]) (mvT hZ (hw _ (List.mem_of_getElem? (i := 49) rfl)))) (mvT hZ (hw _ (List.mem_of_getElem? (i := 49) rfl))) (mvT hZ (hw _ (List.mem_of_getElem? (i := 48) rfl))) (by decide) (backOf (W := 3) (rmLEN l Z a0 hw [] su mm ws_ h0 n0 Z0 (by omega) O SK SU) hZ (hw _ (List.mem_of_getElem? (i := 50) rfl)) (hw _ (List.mem_of_getElem? (i := 13) rfl)) (by decide) (by decide)) q54a q54c (g := (mkF m 10 #[.val (.ref kd), .val (.ref o)] [(.ref su), (.int (Int32.ofNat n)), (.int (0 : Int32)), (.ref o)])) rfl (by rw [hml]; rfl) (Steps.refl _) (argsL := []) (rest := [(.int (Int32.ofNat n)), (.int (0 : Int32)), (.ref o)]) (lenOf pd_9 rfl) rfl (by show 2 * 0 + _ ≤ _; exact Nat.le_of_eq rfl) (hb hby d9_10) (fun _ _ => ⟨rfl, e53, (by decide : 0 + 0 ≤ _), (by decide : 0 + 0 ≤ _)⟩)
  dsimp only [Pt.U, Pt.locs, Pt.cells, Pt.slots] at X54 l54 y54 z54 st54 hQ54
  subst l54 y54 z54
  obtain ⟨rfl, N54q, e54⟩ := hQ54
  have N54 := Fr.app N52 N54q
  obtain ⟨cq55, kq55, q55a, q55b, q55c⟩ := isOf hZ e54 SO.1
  obtain ⟨_, _, ⟨T55, L55, k55, n55⟩, -, X55, ⟨Lc55, hQ55, l55, y55, z55⟩, st55⟩ := X54.virtualBack hx (y := (⟨"java/lang/String", "substring", "(II)Ljava/lang/String;"⟩ : MethodName)) (z := (⟨"java/lang/String", "substring", "(II)Ljava/lang/String;"⟩ : MethodName)) hown (mvT hZ (hw _ (List.mem_of_getElem? (i := 58) rfl))) (mvT hZ (hw _ (List.mem_of_getElem? (i := 59) rfl))) (notFace_of_selects (args := #[]) (mvT hZ (hw _ (List.mem_of_getElem? (i := 61) rfl)))) (mvT hZ (hw _ (List.mem_of_getElem? (i := 61) rfl))) (mvT hZ (hw _ (List.mem_of_getElem? (i := 60) rfl))) (by decide) (backOf (W := 0) (rmSUB l Z a0 hw [] o n (n - mm) f h0 n0 Z0 hn (by omega) (by omega) O SK SO hft) hZ (hw _ (List.mem_of_getElem? (i := 62) rfl)) (hw _ (List.mem_of_getElem? (i := 13) rfl)) (by decide) (by decide)) q55a q55c (g := (mkF m 14 #[.val (.ref kd), .val (.ref o)] [(.int (Int32.ofNat (n - mm))), (.int (0 : Int32)), (.ref o)])) rfl (by rw [hml]; rfl) (Steps.refl _) (argsL := [(.int (0 : Int32)), (.int (Int32.ofNat (n - mm)))]) (rest := []) (lenOf pd_11 rfl) rfl (by show 2 * 0 + _ ≤ _; exact Nat.le_of_eq rfl) (hb hby d9_14) (fun _ _ => ⟨rfl, e54, (by decide : 0 + 2 ≤ _), (by decide : 0 + 24 ≤ _)⟩)
  dsimp only [Pt.U, Pt.locs, Pt.cells, Pt.slots] at X55 l55 y55 z55 st55 hQ55
  subst l55 y55 z55
  obtain ⟨o55, rfl, N55q, K55, S55⟩ := hQ55
  have N55 := Fr.app N54 N55q
  have KK55 := (Keep.refl h0 []).trans K55 (fun x r => absurd r List.not_mem_nil)
  have Z55 : n0 ≤ T55.heap.size := Nat.le_trans Z0 K55.1
  have O55 := O.keep K55 all0'
  obtain ⟨fs, hr, hrun, hended, hW, hsame⟩ := X55.leave (v := some (.ref o55)) (fun h => by rw [Bd.returns] at h; cases h)
  refine ⟨_, _, pre0 _ ?_, hrun, hended, _, _, rfl, ?_, ⟨_, rfl⟩, hW, hsame.mono (by decide) (by decide)⟩
  · show Steps p.tables e below (s₁.setTop (mkF m 0 #[.val (.ref kd), .val (.ref o)] [])) _
    refine XS.aloadN X0.here hx rfl (hb hby d9_0) rfl rfl ?_
    refine XS.iconst X0.here hx rfl (hb hby d9_1) ?_
    refine XS.aloadN X0.here hx rfl (hb hby d9_2) rfl rfl ?_
    show Steps p.tables e below (s₁.setTop (mkF m 3 #[.val (.ref kd), .val (.ref o)] [(.ref o), (.int (0 : Int32)), (.ref o)])) _
    refine st52.trans ?_
    refine XS.aloadN X52.here hx rfl (hb hby d9_6) rfl rfl ?_
    show Steps p.tables e below (T52.setTop (mkF m 7 #[.val (.ref kd), .val (.ref o)] [(.ref kd), (.int (Int32.ofNat n)), (.int (0 : Int32)), (.ref o)])) _
    refine st53 _ ?_
    show Steps p.tables e below (T53.setTop (mkF m 10 #[.val (.ref kd), .val (.ref o)] [(.ref su), (.int (Int32.ofNat n)), (.int (0 : Int32)), (.ref o)])) _
    refine st54.trans ?_
    refine XS.isub X54.here hx rfl (hb hby d9_13) rfl ?_
    show Steps p.tables e below (T54.setTop (mkF m 14 #[.val (.ref kd), .val (.ref o)] [(.int ((Int32.ofNat n) - (Int32.ofNat mm))), (.int (0 : Int32)), (.ref o)])) _
    rw [show ((Int32.ofNat n) - (Int32.ofNat mm)) = (Int32.ofNat (n - mm)) from subN (by omega) (by omega)]
    show Steps p.tables e below (T54.setTop (mkF m 14 #[.val (.ref kd), .val (.ref o)] [(.int (Int32.ofNat (n - mm))), (.int (0 : Int32)), (.ref o)])) _
    refine st55.trans ?_
    show Steps p.tables e below (T55.setTop (mkF m 17 #[.val (.ref kd), .val (.ref o)] [(.ref o55)])) _
    jvm_step X55.here [X55.here.top, hx, (hb hby d9_17), X55.method', Bd.returns, Value.isRef, FieldType.isReference]
    first | (intro acts; rw [hr _ acts rfl rfl rfl]) | rw [hr _ _ rfl rfl rfl]
    exact Steps.refl _
  · show QV Z (n - mm) f h0 n0 _ T55.heap _
    exact ⟨o55, rfl, N55, KK55, S55⟩
set_option maxRecDepth 65536 in
set_option maxHeartbeats 40000000 in
theorem rmID0 (l : Launch) (Z : State) (a0 : Array Value) (hw : ∀ d ∈ tables_1, d.before a0 Z = true) (ws : List Jvm.Cond) (kd o : Addr) (n : Nat) (f : Nat → Value)  (h0 : Heap) (n0 : Nat) (Z0 : n0 ≤ h0.size) (hn : n ≤ 20) (O : Old Z n0 h0) (SK : StrSta Z) (SO : StrV Z h0 o n f) (hp : 0 < n) (KDm : KD Z kd n) (hEL : EW Z a0 EL1)  :
    MetFree l (⟨"com/example/trestle/trestle/ResourceKind", "id", "(Ljava/lang/String;)Ljava/lang/String;"⟩ : MethodName) (head1 (Jvm.Cond.code (⟨"com/example/trestle/trestle/ResourceKind", "id", "(Ljava/lang/String;)Ljava/lang/String;"⟩ : MethodName) prog_20_method_7_code 2 (some (.object "java/lang/String")) :: ws) ({ frames := 4, cells := 2, slots := 4, locals := 90 } : Room)) (fun aa_ U_ => aa_ = #[(.ref kd), (.ref o)] ∧ Z.Warmed39 U_.vm ∧ U_.heap = h0 ∧ CHv Z EL1 U_.vm h0) (fun _ _ _ _ _ => True) (fun _ U_ o_ V_ => ∃ v_ L_, o_ = .returned v_ ∧ QV Z 0 f h0 n0 v_ V_.heap L_ ∧ CHr Z EL1 U_.vm U_.heap V_.vm V_.heap ∧ ReturnedEndW U_ o_ V_ L_ ({ frames := 4, cells := 2, slots := 4, locals := 90 } : Room).cells ({ frames := 4, cells := 2, slots := 4, locals := 90 } : Room).slots) := by
  refine MetFree.of_bodySF (plainFor_of_name pn_9) hisR ?_
  intro p e s m args below meth c s₁ Bd hml0 hP hK
  obtain ⟨rfl, hZ, hh, CH0⟩ := hP
  have hx := Bd.exec
  have hby := Bd.bytes
  have hml : c.maxLocals = 2 := hml0
  have hown : s.vm.findClass "com/example/trestle/trestle/ResourceKind" = some m.cls := findClass_of_methodNamed Bd.named
  have hnm := (name_of_methodNamed Bd.named Bd.method).1
  have X0 : Stand p l e ({ frames := 4, cells := 2, slots := 4, locals := 90 } : Room) s m #[(.ref kd), (.ref o)] below meth c s₁ [] 0 0 := Stand.of_body Bd
  have e0 : s₁.heap = h0 := by rw [← hh, Bd.state]; rfl
  have N0 := Fr.nil n0
  have pre0 : ∀ zz, Steps p.tables e below (s₁.setTop (mkF m 0 #[.val (.ref kd), .val (.ref o)] [])) zz → Steps p.tables e below (s₁.setTop (entryFrame m #[(.ref kd), (.ref o)] 2)) zz := fun zz kz_ => castTop (ef_9 m kd o) kz_
  obtain ⟨EK, su, FS0, ws_, SU0⟩ := KDm
  have FS := FS0.ext O.2
  have SU := SU0.ext O.2
  have SO' := SO
  obtain ⟨EO, b, FV, FC, FB⟩ := SO'
  obtain ⟨cq56, kq56, q56a, q56b, q56c⟩ := isOf hZ e0 SO.1
  obtain ⟨_, _, ⟨T56, L56, k56, n56⟩, -, X56, ⟨Lc56, hQ56, l56, y56, z56⟩, st56⟩ := X0.virtualBack hx (y := (⟨"java/lang/String", "length", "()I"⟩ : MethodName)) (z := (⟨"java/lang/String", "length", "()I"⟩ : MethodName)) hown (mvT hZ (hw _ (List.mem_of_getElem? (i := 46) rfl))) (mvT hZ (hw _ (List.mem_of_getElem? (i := 47) rfl))) (notFace_of_selects (args := #[]) (mvT hZ (hw _ (List.mem_of_getElem? (i := 49) rfl)))) (mvT hZ (hw _ (List.mem_of_getElem? (i := 49) rfl))) (mvT hZ (hw _ (List.mem_of_getElem? (i := 48) rfl))) (by decide) (backOf (W := 2) (rmLEN l Z a0 hw [] o n f h0 n0 Z0 hn O SK SO) hZ (hw _ (List.mem_of_getElem? (i := 50) rfl)) (hw _ (List.mem_of_getElem? (i := 13) rfl)) (by decide) (by decide)) q56a q56c (g := (mkF m 3 #[.val (.ref kd), .val (.ref o)] [(.ref o), (.int (0 : Int32)), (.ref o)])) rfl (by rw [hml]; rfl) (Steps.refl _) (argsL := []) (rest := [(.int (0 : Int32)), (.ref o)]) (lenOf pd_9 rfl) rfl (by show 2 * 0 + _ ≤ _; exact Nat.le_of_eq rfl) (hb hby d9_3) (fun _ _ => ⟨rfl, e0, (by decide : 0 + 0 ≤ _), (by decide : 0 + 0 ≤ _)⟩)
  dsimp only [Pt.U, Pt.locs, Pt.cells, Pt.slots] at X56 l56 y56 z56 st56 hQ56
  subst l56 y56 z56
  obtain ⟨rfl, N56q, e56⟩ := hQ56
  have N56 := Fr.app N0 N56q
  obtain ⟨T57, X57, e57, st57⟩ := getF X56 hx hZ hown (host := "") (Or.inl (hw _ (List.mem_of_getElem? (i := 56) rfl))) Via.refl e56 FS (g := (mkF m 7 #[.val (.ref kd), .val (.ref o)] [(.ref kd), (.int (Int32.ofNat n)), (.int (0 : Int32)), (.ref o)])) rfl rfl (hb hby d9_7)
  obtain ⟨cq58, kq58, q58a, q58b, q58c⟩ := isOf hZ e57 SU.1
  obtain ⟨_, _, ⟨T58, L58, k58, n58⟩, -, X58, ⟨Lc58, hQ58, l58, y58, z58⟩, st58⟩ := X57.virtualBack hx (y := (⟨"java/lang/String", "length", "()I"⟩ : MethodName)) (z := (⟨"java/lang/String", "length", "()I"⟩ : MethodName)) hown (mvT hZ (hw _ (List.mem_of_getElem? (i := 46) rfl))) (mvT hZ (hw _ (List.mem_of_getElem? (i := 47) rfl))) (notFace_of_selects (args := #[]) (mvT hZ (hw _ (List.mem_of_getElem? (i := 49) rfl)))) (mvT hZ (hw _ (List.mem_of_getElem? (i := 49) rfl))) (mvT hZ (hw _ (List.mem_of_getElem? (i := 48) rfl))) (by decide) (backOf (W := 3) (rmLEN l Z a0 hw [] su n ws_ h0 n0 Z0 (by omega) O SK SU) hZ (hw _ (List.mem_of_getElem? (i := 50) rfl)) (hw _ (List.mem_of_getElem? (i := 13) rfl)) (by decide) (by decide)) q58a q58c (g := (mkF m 10 #[.val (.ref kd), .val (.ref o)] [(.ref su), (.int (Int32.ofNat n)), (.int (0 : Int32)), (.ref o)])) rfl (by rw [hml]; rfl) (Steps.refl _) (argsL := []) (rest := [(.int (Int32.ofNat n)), (.int (0 : Int32)), (.ref o)]) (lenOf pd_9 rfl) rfl (by show 2 * 0 + _ ≤ _; exact Nat.le_of_eq rfl) (hb hby d9_10) (fun _ _ => ⟨rfl, e57, (by decide : 0 + 0 ≤ _), (by decide : 0 + 0 ≤ _)⟩)
  dsimp only [Pt.U, Pt.locs, Pt.cells, Pt.slots] at X58 l58 y58 z58 st58 hQ58
  subst l58 y58 z58
  obtain ⟨rfl, N58q, e58⟩ := hQ58
  have N58 := Fr.app N56 N58q
  obtain ⟨cq59, kq59, q59a, q59b, q59c⟩ := isOf hZ e58 SO.1
  obtain ⟨_, _, ⟨T59, L59, k59, n59⟩, -, X59, hS259, hg59, ⟨Lc59, hQ59, l59, y59, z59, C59⟩, st59⟩ := X58.virtualBackS hx (y := (⟨"java/lang/String", "substring", "(II)Ljava/lang/String;"⟩ : MethodName)) (z := (⟨"java/lang/String", "substring", "(II)Ljava/lang/String;"⟩ : MethodName)) hown (mvT hZ (hw _ (List.mem_of_getElem? (i := 58) rfl))) (mvT hZ (hw _ (List.mem_of_getElem? (i := 59) rfl))) (notFace_of_selects (args := #[]) (mvT hZ (hw _ (List.mem_of_getElem? (i := 61) rfl)))) (mvT hZ (hw _ (List.mem_of_getElem? (i := 61) rfl))) (mvT hZ (hw _ (List.mem_of_getElem? (i := 60) rfl))) (by decide) (backOfSH (s := s) (vm0 := s.vm) (EL := EL1) (W := 0) (rmSUB0 l Z a0 hw [] o b n f f h0 n0 Z0 hn hp O SK EO FC FV FB hEL) hZ (hw _ (List.mem_of_getElem? (i := 62) rfl)) (hw _ (List.mem_of_getElem? (i := 13) rfl)) (by decide) (by decide) hEL CH0) q59a q59c (g := (mkF m 14 #[.val (.ref kd), .val (.ref o)] [(.int (Int32.ofNat 0)), (.int (0 : Int32)), (.ref o)])) rfl (by rw [hml]; rfl) (Steps.refl _) (argsL := [(.int (0 : Int32)), (.int (Int32.ofNat 0))]) (rest := []) (lenOf pd_11 rfl) rfl (by show 2 * 0 + _ ≤ _; exact Nat.le_of_eq rfl) (hb hby d9_14) (fun _ _ => ⟨rfl, e58, (by decide : 0 + 2 ≤ _), (by decide : 0 + 4 ≤ _)⟩)
  dsimp only [Pt.U, Pt.locs, Pt.cells, Pt.slots] at X59 l59 y59 z59 st59 hQ59 hS259 hg59 C59
  subst l59 y59 z59
  obtain ⟨o59, rfl, N59q, K59, S59⟩ := hQ59
  have N59 := Fr.app N58 N59q
  have CR59 := (CHr.refl CH0).trans C59
  have hS59 := foldS ((State.WarmedH.refl s).since 0) (by rw [e58]; exact (Nat.zero_le _)) hS259 hg59
  have hZ59 : Z.Warmed39 (s.setVm T59.vm).vm := State.Warmed39.trans hZ hS259.1
  have hown59 : (s.setVm T59.vm).vm.findClass "com/example/trestle/trestle/ResourceKind" = some m.cls := by rw [show (s.setVm T59.vm).vm = T59.vm from rfl, hS259.1.alike.findClass]; exact hown
  have KK59 := (Keep.refl h0 []).trans K59 (fun x r => absurd r List.not_mem_nil)
  have Z59 : n0 ≤ T59.heap.size := Nat.le_trans Z0 K59.1
  have O59 := O.keep K59 all0'
  obtain ⟨fs, hr, hrun, hended, -, hWW, hBB, hSS⟩ := Stand.leaveW (s := s) (vm₁ := T59.vm) X59 hS59 (by exact (Nat.le_refl _)) (v := some (.ref o59)) (fun h => by rw [Bd.returns] at h; cases h)
  refine ⟨_, _, pre0 _ ?_, hrun, hended, _, _, rfl, ?_, ?_, ⟨_, rfl⟩, hWW, hBB, hSS.mono (by decide) (by decide)⟩
  · show Steps p.tables e below (s₁.setTop (mkF m 0 #[.val (.ref kd), .val (.ref o)] [])) _
    refine XS.aloadN X0.here hx rfl (hb hby d9_0) rfl rfl ?_
    refine XS.iconst X0.here hx rfl (hb hby d9_1) ?_
    refine XS.aloadN X0.here hx rfl (hb hby d9_2) rfl rfl ?_
    show Steps p.tables e below (s₁.setTop (mkF m 3 #[.val (.ref kd), .val (.ref o)] [(.ref o), (.int (0 : Int32)), (.ref o)])) _
    refine st56.trans ?_
    refine XS.aloadN X56.here hx rfl (hb hby d9_6) rfl rfl ?_
    show Steps p.tables e below (T56.setTop (mkF m 7 #[.val (.ref kd), .val (.ref o)] [(.ref kd), (.int (Int32.ofNat n)), (.int (0 : Int32)), (.ref o)])) _
    refine st57 _ ?_
    show Steps p.tables e below (T57.setTop (mkF m 10 #[.val (.ref kd), .val (.ref o)] [(.ref su), (.int (Int32.ofNat n)), (.int (0 : Int32)), (.ref o)])) _
    refine st58.trans ?_
    refine XS.isub X58.here hx rfl (hb hby d9_13) rfl ?_
    show Steps p.tables e below (T58.setTop (mkF m 14 #[.val (.ref kd), .val (.ref o)] [(.int ((Int32.ofNat n) - (Int32.ofNat n))), (.int (0 : Int32)), (.ref o)])) _
    rw [show ((Int32.ofNat n) - (Int32.ofNat n)) = (Int32.ofNat 0) from Int32.sub_self _]
    show Steps p.tables e below (T58.setTop (mkF m 14 #[.val (.ref kd), .val (.ref o)] [(.int (Int32.ofNat 0)), (.int (0 : Int32)), (.ref o)])) _
    refine st59.trans ?_
    show Steps p.tables e below (T59.setTop (mkF m 17 #[.val (.ref kd), .val (.ref o)] [(.ref o59)])) _
    jvm_step X59.here [X59.here.top, hx, (hb hby d9_17), X59.method', Bd.returns, Value.isRef, FieldType.isReference]
    first | (intro acts; rw [hr _ acts rfl rfl rfl]) | rw [hr _ _ rfl rfl rfl]
    exact Steps.refl _
  · show QV Z 0 f h0 n0 _ T59.heap _
    exact ⟨o59, rfl, N59, KK59, S59⟩
  · show CHr Z EL1 s.vm s.heap T59.vm T59.heap
    have q := CR59.trans (CHv.at (s := s) (vm0 := T59.vm) X59 hZ59 hEL C59.1)
    rw [hh]
    exact q
theorem d1_0 : decode method_3_code 0 = .ok (.iload_n 0, 1) := by decide +kernel
theorem d1_1 : decode method_3_code 1 = .ok (.ifCond .ne 7, 3) := by decide +kernel
theorem d1_4 : decode method_3_code 4 = .ok (.getstatic 39, 3) := by decide +kernel
theorem d1_7 : decode method_3_code 7 = .ok (.areturn, 1) := by decide +kernel
theorem d1_8 : decode method_3_code 8 = .ok (.iload_n 0, 1) := by decide +kernel
theorem d1_9 : decode method_3_code 9 = .ok (.iconst 1, 1) := by decide +kernel
theorem d1_10 : decode method_3_code 10 = .ok (.if_icmp .ne 7, 3) := by decide +kernel
theorem d1_13 : decode method_3_code 13 = .ok (.getstatic 43, 3) := by decide +kernel
theorem d1_16 : decode method_3_code 16 = .ok (.areturn, 1) := by decide +kernel
theorem d1_17 : decode method_3_code 17 = .ok (.iload_n 0, 1) := by decide +kernel
theorem d1_18 : decode method_3_code 18 = .ok (.iconst 2, 1) := by decide +kernel
theorem d1_19 : decode method_3_code 19 = .ok (.if_icmp .ne 7, 3) := by decide +kernel
theorem d1_22 : decode method_3_code 22 = .ok (.getstatic 46, 3) := by decide +kernel
theorem d1_25 : decode method_3_code 25 = .ok (.areturn, 1) := by decide +kernel
theorem d1_26 : decode method_3_code 26 = .ok (.iload_n 0, 1) := by decide +kernel
theorem d1_27 : decode method_3_code 27 = .ok (.iconst 3, 1) := by decide +kernel
theorem d1_28 : decode method_3_code 28 = .ok (.if_icmp .ne 7, 3) := by decide +kernel
theorem d1_31 : decode method_3_code 31 = .ok (.getstatic 49, 3) := by decide +kernel
theorem d1_34 : decode method_3_code 34 = .ok (.areturn, 1) := by decide +kernel
theorem d1_35 : decode method_3_code 35 = .ok (.iload_n 0, 1) := by decide +kernel
theorem d1_36 : decode method_3_code 36 = .ok (.iconst 4, 1) := by decide +kernel
theorem d1_37 : decode method_3_code 37 = .ok (.if_icmp .ne 7, 3) := by decide +kernel
theorem d1_40 : decode method_3_code 40 = .ok (.getstatic 52, 3) := by decide +kernel
theorem d1_43 : decode method_3_code 43 = .ok (.areturn, 1) := by decide +kernel
theorem d1_44 : decode method_3_code 44 = .ok (.getstatic 55, 3) := by decide +kernel
theorem d1_47 : decode method_3_code 47 = .ok (.areturn, 1) := by decide +kernel
theorem pn_1 : plainName "com/example/trestle/trestle/ResourceKindIdPinLaw" = true := by first | (simp [plainName, overriddenIn]; done) | decide +kernel
theorem ef_1 (m : MethodId) (x0 : Int32) : entryFrame m #[(.int x0)] 1 = mkF m 0 #[.val (.int x0)] [] := by first | (simp [entryFrame, mkF, argsToLocals, Value.category]; done) | rfl
set_option maxRecDepth 65536 in
set_option maxHeartbeats 40000000 in
theorem rmK0 (l : Launch) (Z : State) (a0 : Array Value) (hw : ∀ d ∈ tables_1, d.before a0 Z = true) (ws : List Jvm.Cond) (kd : Addr)  (h0 : Heap) (n0 : Nat) (Z0 : n0 ≤ h0.size) (O : Old Z n0 h0) (hst : Sta Z Z.heap "com/example/trestle/trestle/ResourceKind" "PROXY_SERVICE" "Lcom/example/trestle/trestle/ResourceKind;" (.ref kd))  :
    MetFree l (⟨"com/example/trestle/trestle/ResourceKindIdPinLaw", "kindOf", "(I)Lcom/example/trestle/trestle/ResourceKind;"⟩ : MethodName) (head1 (Jvm.Cond.code (⟨"com/example/trestle/trestle/ResourceKindIdPinLaw", "kindOf", "(I)Lcom/example/trestle/trestle/ResourceKind;"⟩ : MethodName) method_3_code 1 (some (.object "com/example/trestle/trestle/ResourceKind")) :: ws) ({ frames := 0, cells := 0, slots := 0, locals := 0 } : Room)) (fun aa_ U_ => aa_ = #[(.int (0 : Int32))] ∧ Z.Warmed39 U_.vm ∧ U_.heap = h0) (fun _ _ _ _ _ => True) (fun _ U_ o_ V_ => ∃ v_ L_, o_ = .returned v_ ∧ QRf kd h0 n0 v_ V_.heap L_ ∧ FrameEnd U_ o_ V_ L_ ({ frames := 0, cells := 0, slots := 0, locals := 0 } : Room).cells ({ frames := 0, cells := 0, slots := 0, locals := 0 } : Room).slots) := by
  refine MetFree.of_bodySF (plainFor_of_name pn_1) hisR ?_
  intro p e s m args below meth c s₁ Bd hml0 hP hK
  obtain ⟨rfl, hZ, hh⟩ := hP
  have hx := Bd.exec
  have hby := Bd.bytes
  have hml : c.maxLocals = 1 := hml0
  have hown : s.vm.findClass "com/example/trestle/trestle/ResourceKindIdPinLaw" = some m.cls := findClass_of_methodNamed Bd.named
  have hnm := (name_of_methodNamed Bd.named Bd.method).1
  have X0 : Stand p l e ({ frames := 0, cells := 0, slots := 0, locals := 0 } : Room) s m #[(.int (0 : Int32))] below meth c s₁ [] 0 0 := Stand.of_body Bd
  have e0 : s₁.heap = h0 := by rw [← hh, Bd.state]; rfl
  have N0 := Fr.nil n0
  have pre0 : ∀ zz, Steps p.tables e below (s₁.setTop (mkF m 0 #[.val (.int (0 : Int32))] [])) zz → Steps p.tables e below (s₁.setTop (entryFrame m #[(.int (0 : Int32))] 1)) zz := fun zz kz_ => castTop (ef_1 m (0 : Int32)) kz_
  obtain ⟨T60, X60, e60, st60⟩ := getS2 X0 hx hZ hown (host := "") (Or.inl (hw _ (List.mem_of_getElem? (i := 5) rfl))) Via.refl e0 (Sta.ext O.2 hst) (g := (mkF m 4 #[.val (.int (0 : Int32))] [])) rfl (hb hby d1_4)
  obtain ⟨fs, hr, hrun, hended, hW, hsame⟩ := X60.leave (v := some (.ref kd)) (fun h => by rw [Bd.returns] at h; cases h)
  refine ⟨_, _, pre0 _ ?_, hrun, hended, _, _, rfl, ?_, ⟨_, rfl⟩, hW, hsame.mono (by decide) (by decide)⟩
  · show Steps p.tables e below (s₁.setTop (mkF m 0 #[.val (.int (0 : Int32))] [])) _
    refine XS.iloadN X0.here hx rfl (hb hby d1_0) rfl ?_
    refine XS.ifNo X0.here hx rfl (hb hby d1_1) rfl ((if0 _ _).trans (teq (rfl : (0 : Int32) = (0 : Int32))).2) ?_
    show Steps p.tables e below (s₁.setTop (mkF m 4 #[.val (.int (0 : Int32))] [])) _
    refine st60 _ ?_
    show Steps p.tables e below (T60.setTop (mkF m 7 #[.val (.int (0 : Int32))] [(.ref kd)])) _
    jvm_step X60.here [X60.here.top, hx, (hb hby d1_7), X60.method', Bd.returns, Value.isRef, FieldType.isReference]
    first | (intro acts; rw [hr _ acts rfl rfl rfl]) | rw [hr _ _ rfl rfl rfl]
    exact Steps.refl _
  · show QRf kd h0 n0 _ T60.heap _
    rw [e60]
    exact ⟨rfl, N0, rfl⟩
set_option maxRecDepth 65536 in
set_option maxHeartbeats 40000000 in
theorem rmK1 (l : Launch) (Z : State) (a0 : Array Value) (hw : ∀ d ∈ tables_1, d.before a0 Z = true) (ws : List Jvm.Cond) (kd : Addr)  (h0 : Heap) (n0 : Nat) (Z0 : n0 ≤ h0.size) (O : Old Z n0 h0) (hst : Sta Z Z.heap "com/example/trestle/trestle/ResourceKind" "BUSINESS_SERVICE" "Lcom/example/trestle/trestle/ResourceKind;" (.ref kd))  :
    MetFree l (⟨"com/example/trestle/trestle/ResourceKindIdPinLaw", "kindOf", "(I)Lcom/example/trestle/trestle/ResourceKind;"⟩ : MethodName) (head1 (Jvm.Cond.code (⟨"com/example/trestle/trestle/ResourceKindIdPinLaw", "kindOf", "(I)Lcom/example/trestle/trestle/ResourceKind;"⟩ : MethodName) method_3_code 1 (some (.object "com/example/trestle/trestle/ResourceKind")) :: ws) ({ frames := 0, cells := 0, slots := 0, locals := 0 } : Room)) (fun aa_ U_ => aa_ = #[(.int (1 : Int32))] ∧ Z.Warmed39 U_.vm ∧ U_.heap = h0) (fun _ _ _ _ _ => True) (fun _ U_ o_ V_ => ∃ v_ L_, o_ = .returned v_ ∧ QRf kd h0 n0 v_ V_.heap L_ ∧ FrameEnd U_ o_ V_ L_ ({ frames := 0, cells := 0, slots := 0, locals := 0 } : Room).cells ({ frames := 0, cells := 0, slots := 0, locals := 0 } : Room).slots) := by
  refine MetFree.of_bodySF (plainFor_of_name pn_1) hisR ?_
  intro p e s m args below meth c s₁ Bd hml0 hP hK
  obtain ⟨rfl, hZ, hh⟩ := hP
  have hx := Bd.exec
  have hby := Bd.bytes
  have hml : c.maxLocals = 1 := hml0
  have hown : s.vm.findClass "com/example/trestle/trestle/ResourceKindIdPinLaw" = some m.cls := findClass_of_methodNamed Bd.named
  have hnm := (name_of_methodNamed Bd.named Bd.method).1
  have X0 : Stand p l e ({ frames := 0, cells := 0, slots := 0, locals := 0 } : Room) s m #[(.int (1 : Int32))] below meth c s₁ [] 0 0 := Stand.of_body Bd
  have e0 : s₁.heap = h0 := by rw [← hh, Bd.state]; rfl
  have N0 := Fr.nil n0
  have pre0 : ∀ zz, Steps p.tables e below (s₁.setTop (mkF m 0 #[.val (.int (1 : Int32))] [])) zz → Steps p.tables e below (s₁.setTop (entryFrame m #[(.int (1 : Int32))] 1)) zz := fun zz kz_ => castTop (ef_1 m (1 : Int32)) kz_
  obtain ⟨T61, X61, e61, st61⟩ := getS2 X0 hx hZ hown (host := "") (Or.inl (hw _ (List.mem_of_getElem? (i := 128) rfl))) Via.refl e0 (Sta.ext O.2 hst) (g := (mkF m 13 #[.val (.int (1 : Int32))] [])) rfl (hb hby d1_13)
  obtain ⟨fs, hr, hrun, hended, hW, hsame⟩ := X61.leave (v := some (.ref kd)) (fun h => by rw [Bd.returns] at h; cases h)
  refine ⟨_, _, pre0 _ ?_, hrun, hended, _, _, rfl, ?_, ⟨_, rfl⟩, hW, hsame.mono (by decide) (by decide)⟩
  · show Steps p.tables e below (s₁.setTop (mkF m 0 #[.val (.int (1 : Int32))] [])) _
    refine XS.iloadN X0.here hx rfl (hb hby d1_0) rfl ?_
    refine XS.ifYes X0.here hx rfl (pc0 := 1) (pc' := 8) rfl (hb hby d1_1) rfl ((if0 _ _).trans (feq (by decide : ¬ ((1 : Int32) = (0 : Int32)))).2) (by decide) (by decide) ?_
    refine XS.iloadN X0.here hx rfl (hb hby d1_8) rfl ?_
    refine XS.iconst X0.here hx rfl (hb hby d1_9) ?_
    refine XS.icmpNo X0.here hx rfl (hb hby d1_10) rfl (teq (rfl : (1 : Int32) = (1 : Int32))).2 ?_
    show Steps p.tables e below (s₁.setTop (mkF m 13 #[.val (.int (1 : Int32))] [])) _
    refine st61 _ ?_
    show Steps p.tables e below (T61.setTop (mkF m 16 #[.val (.int (1 : Int32))] [(.ref kd)])) _
    jvm_step X61.here [X61.here.top, hx, (hb hby d1_16), X61.method', Bd.returns, Value.isRef, FieldType.isReference]
    first | (intro acts; rw [hr _ acts rfl rfl rfl]) | rw [hr _ _ rfl rfl rfl]
    exact Steps.refl _
  · show QRf kd h0 n0 _ T61.heap _
    rw [e61]
    exact ⟨rfl, N0, rfl⟩
set_option maxRecDepth 65536 in
set_option maxHeartbeats 40000000 in
theorem rmK2 (l : Launch) (Z : State) (a0 : Array Value) (hw : ∀ d ∈ tables_1, d.before a0 Z = true) (ws : List Jvm.Cond) (kd : Addr)  (h0 : Heap) (n0 : Nat) (Z0 : n0 ≤ h0.size) (O : Old Z n0 h0) (hst : Sta Z Z.heap "com/example/trestle/trestle/ResourceKind" "XQUERY" "Lcom/example/trestle/trestle/ResourceKind;" (.ref kd))  :
    MetFree l (⟨"com/example/trestle/trestle/ResourceKindIdPinLaw", "kindOf", "(I)Lcom/example/trestle/trestle/ResourceKind;"⟩ : MethodName) (head1 (Jvm.Cond.code (⟨"com/example/trestle/trestle/ResourceKindIdPinLaw", "kindOf", "(I)Lcom/example/trestle/trestle/ResourceKind;"⟩ : MethodName) method_3_code 1 (some (.object "com/example/trestle/trestle/ResourceKind")) :: ws) ({ frames := 0, cells := 0, slots := 0, locals := 0 } : Room)) (fun aa_ U_ => aa_ = #[(.int (2 : Int32))] ∧ Z.Warmed39 U_.vm ∧ U_.heap = h0) (fun _ _ _ _ _ => True) (fun _ U_ o_ V_ => ∃ v_ L_, o_ = .returned v_ ∧ QRf kd h0 n0 v_ V_.heap L_ ∧ FrameEnd U_ o_ V_ L_ ({ frames := 0, cells := 0, slots := 0, locals := 0 } : Room).cells ({ frames := 0, cells := 0, slots := 0, locals := 0 } : Room).slots) := by
  refine MetFree.of_bodySF (plainFor_of_name pn_1) hisR ?_
  intro p e s m args below meth c s₁ Bd hml0 hP hK
  obtain ⟨rfl, hZ, hh⟩ := hP
  have hx := Bd.exec
  have hby := Bd.bytes
  have hml : c.maxLocals = 1 := hml0
  have hown : s.vm.findClass "com/example/trestle/trestle/ResourceKindIdPinLaw" = some m.cls := findClass_of_methodNamed Bd.named
  have hnm := (name_of_methodNamed Bd.named Bd.method).1
  have X0 : Stand p l e ({ frames := 0, cells := 0, slots := 0, locals := 0 } : Room) s m #[(.int (2 : Int32))] below meth c s₁ [] 0 0 := Stand.of_body Bd
  have e0 : s₁.heap = h0 := by rw [← hh, Bd.state]; rfl
  have N0 := Fr.nil n0
  have pre0 : ∀ zz, Steps p.tables e below (s₁.setTop (mkF m 0 #[.val (.int (2 : Int32))] [])) zz → Steps p.tables e below (s₁.setTop (entryFrame m #[(.int (2 : Int32))] 1)) zz := fun zz kz_ => castTop (ef_1 m (2 : Int32)) kz_
  obtain ⟨T62, X62, e62, st62⟩ := getS2 X0 hx hZ hown (host := "") (Or.inl (hw _ (List.mem_of_getElem? (i := 122) rfl))) Via.refl e0 (Sta.ext O.2 hst) (g := (mkF m 22 #[.val (.int (2 : Int32))] [])) rfl (hb hby d1_22)
  obtain ⟨fs, hr, hrun, hended, hW, hsame⟩ := X62.leave (v := some (.ref kd)) (fun h => by rw [Bd.returns] at h; cases h)
  refine ⟨_, _, pre0 _ ?_, hrun, hended, _, _, rfl, ?_, ⟨_, rfl⟩, hW, hsame.mono (by decide) (by decide)⟩
  · show Steps p.tables e below (s₁.setTop (mkF m 0 #[.val (.int (2 : Int32))] [])) _
    refine XS.iloadN X0.here hx rfl (hb hby d1_0) rfl ?_
    refine XS.ifYes X0.here hx rfl (pc0 := 1) (pc' := 8) rfl (hb hby d1_1) rfl ((if0 _ _).trans (feq (by decide : ¬ ((2 : Int32) = (0 : Int32)))).2) (by decide) (by decide) ?_
    refine XS.iloadN X0.here hx rfl (hb hby d1_8) rfl ?_
    refine XS.iconst X0.here hx rfl (hb hby d1_9) ?_
    refine XS.icmpYes X0.here hx rfl (pc0 := 10) (pc' := 17) rfl (hb hby d1_10) rfl (feq (by decide : ¬ ((2 : Int32) = (1 : Int32)))).2 (by decide) (by decide) ?_
    refine XS.iloadN X0.here hx rfl (hb hby d1_17) rfl ?_
    show Steps p.tables e below (s₁.setTop (mkF m 18 #[.val (.int (2 : Int32))] [(.int (2 : Int32))])) _
    refine XS.iconst X0.here hx rfl (hb hby d1_18) ?_
    refine XS.icmpNo X0.here hx rfl (hb hby d1_19) rfl (teq (rfl : (2 : Int32) = (2 : Int32))).2 ?_
    show Steps p.tables e below (s₁.setTop (mkF m 22 #[.val (.int (2 : Int32))] [])) _
    refine st62 _ ?_
    show Steps p.tables e below (T62.setTop (mkF m 25 #[.val (.int (2 : Int32))] [(.ref kd)])) _
    jvm_step X62.here [X62.here.top, hx, (hb hby d1_25), X62.method', Bd.returns, Value.isRef, FieldType.isReference]
    first | (intro acts; rw [hr _ acts rfl rfl rfl]) | rw [hr _ _ rfl rfl rfl]
    exact Steps.refl _
  · show QRf kd h0 n0 _ T62.heap _
    rw [e62]
    exact ⟨rfl, N0, rfl⟩
set_option maxRecDepth 65536 in
set_option maxHeartbeats 40000000 in
theorem rmK3 (l : Launch) (Z : State) (a0 : Array Value) (hw : ∀ d ∈ tables_1, d.before a0 Z = true) (ws : List Jvm.Cond) (kd : Addr)  (h0 : Heap) (n0 : Nat) (Z0 : n0 ≤ h0.size) (O : Old Z n0 h0) (hst : Sta Z Z.heap "com/example/trestle/trestle/ResourceKind" "XSLT" "Lcom/example/trestle/trestle/ResourceKind;" (.ref kd))  :
    MetFree l (⟨"com/example/trestle/trestle/ResourceKindIdPinLaw", "kindOf", "(I)Lcom/example/trestle/trestle/ResourceKind;"⟩ : MethodName) (head1 (Jvm.Cond.code (⟨"com/example/trestle/trestle/ResourceKindIdPinLaw", "kindOf", "(I)Lcom/example/trestle/trestle/ResourceKind;"⟩ : MethodName) method_3_code 1 (some (.object "com/example/trestle/trestle/ResourceKind")) :: ws) ({ frames := 0, cells := 0, slots := 0, locals := 0 } : Room)) (fun aa_ U_ => aa_ = #[(.int (3 : Int32))] ∧ Z.Warmed39 U_.vm ∧ U_.heap = h0) (fun _ _ _ _ _ => True) (fun _ U_ o_ V_ => ∃ v_ L_, o_ = .returned v_ ∧ QRf kd h0 n0 v_ V_.heap L_ ∧ FrameEnd U_ o_ V_ L_ ({ frames := 0, cells := 0, slots := 0, locals := 0 } : Room).cells ({ frames := 0, cells := 0, slots := 0, locals := 0 } : Room).slots) := by
  refine MetFree.of_bodySF (plainFor_of_name pn_1) hisR ?_
  intro p e s m args below meth c s₁ Bd hml0 hP hK
  obtain ⟨rfl, hZ, hh⟩ := hP
  have hx := Bd.exec
  have hby := Bd.bytes
  have hml : c.maxLocals = 1 := hml0
  have hown : s.vm.findClass "com/example/trestle/trestle/ResourceKindIdPinLaw" = some m.cls := findClass_of_methodNamed Bd.named
  have hnm := (name_of_methodNamed Bd.named Bd.method).1
  have X0 : Stand p l e ({ frames := 0, cells := 0, slots := 0, locals := 0 } : Room) s m #[(.int (3 : Int32))] below meth c s₁ [] 0 0 := Stand.of_body Bd
  have e0 : s₁.heap = h0 := by rw [← hh, Bd.state]; rfl
  have N0 := Fr.nil n0
  have pre0 : ∀ zz, Steps p.tables e below (s₁.setTop (mkF m 0 #[.val (.int (3 : Int32))] [])) zz → Steps p.tables e below (s₁.setTop (entryFrame m #[(.int (3 : Int32))] 1)) zz := fun zz kz_ => castTop (ef_1 m (3 : Int32)) kz_
  obtain ⟨T63, X63, e63, st63⟩ := getS2 X0 hx hZ hown (host := "") (Or.inl (hw _ (List.mem_of_getElem? (i := 112) rfl))) Via.refl e0 (Sta.ext O.2 hst) (g := (mkF m 31 #[.val (.int (3 : Int32))] [])) rfl (hb hby d1_31)
  obtain ⟨fs, hr, hrun, hended, hW, hsame⟩ := X63.leave (v := some (.ref kd)) (fun h => by rw [Bd.returns] at h; cases h)
  refine ⟨_, _, pre0 _ ?_, hrun, hended, _, _, rfl, ?_, ⟨_, rfl⟩, hW, hsame.mono (by decide) (by decide)⟩
  · show Steps p.tables e below (s₁.setTop (mkF m 0 #[.val (.int (3 : Int32))] [])) _
    refine XS.iloadN X0.here hx rfl (hb hby d1_0) rfl ?_
    refine XS.ifYes X0.here hx rfl (pc0 := 1) (pc' := 8) rfl (hb hby d1_1) rfl ((if0 _ _).trans (feq (by decide : ¬ ((3 : Int32) = (0 : Int32)))).2) (by decide) (by decide) ?_
    refine XS.iloadN X0.here hx rfl (hb hby d1_8) rfl ?_
    refine XS.iconst X0.here hx rfl (hb hby d1_9) ?_
    refine XS.icmpYes X0.here hx rfl (pc0 := 10) (pc' := 17) rfl (hb hby d1_10) rfl (feq (by decide : ¬ ((3 : Int32) = (1 : Int32)))).2 (by decide) (by decide) ?_
    refine XS.iloadN X0.here hx rfl (hb hby d1_17) rfl ?_
    show Steps p.tables e below (s₁.setTop (mkF m 18 #[.val (.int (3 : Int32))] [(.int (3 : Int32))])) _
    refine XS.iconst X0.here hx rfl (hb hby d1_18) ?_
    refine XS.icmpYes X0.here hx rfl (pc0 := 19) (pc' := 26) rfl (hb hby d1_19) rfl (feq (by decide : ¬ ((3 : Int32) = (2 : Int32)))).2 (by decide) (by decide) ?_
    refine XS.iloadN X0.here hx rfl (hb hby d1_26) rfl ?_
    refine XS.iconst X0.here hx rfl (hb hby d1_27) ?_
    refine XS.icmpNo X0.here hx rfl (hb hby d1_28) rfl (teq (rfl : (3 : Int32) = (3 : Int32))).2 ?_
    show Steps p.tables e below (s₁.setTop (mkF m 31 #[.val (.int (3 : Int32))] [])) _
    refine st63 _ ?_
    show Steps p.tables e below (T63.setTop (mkF m 34 #[.val (.int (3 : Int32))] [(.ref kd)])) _
    jvm_step X63.here [X63.here.top, hx, (hb hby d1_34), X63.method', Bd.returns, Value.isRef, FieldType.isReference]
    first | (intro acts; rw [hr _ acts rfl rfl rfl]) | rw [hr _ _ rfl rfl rfl]
    exact Steps.refl _
  · show QRf kd h0 n0 _ T63.heap _
    rw [e63]
    exact ⟨rfl, N0, rfl⟩
set_option maxRecDepth 65536 in
set_option maxHeartbeats 40000000 in
theorem rmK4 (l : Launch) (Z : State) (a0 : Array Value) (hw : ∀ d ∈ tables_1, d.before a0 Z = true) (ws : List Jvm.Cond) (kd : Addr)  (h0 : Heap) (n0 : Nat) (Z0 : n0 ≤ h0.size) (O : Old Z n0 h0) (hst : Sta Z Z.heap "com/example/trestle/trestle/ResourceKind" "WSDL" "Lcom/example/trestle/trestle/ResourceKind;" (.ref kd))  :
    MetFree l (⟨"com/example/trestle/trestle/ResourceKindIdPinLaw", "kindOf", "(I)Lcom/example/trestle/trestle/ResourceKind;"⟩ : MethodName) (head1 (Jvm.Cond.code (⟨"com/example/trestle/trestle/ResourceKindIdPinLaw", "kindOf", "(I)Lcom/example/trestle/trestle/ResourceKind;"⟩ : MethodName) method_3_code 1 (some (.object "com/example/trestle/trestle/ResourceKind")) :: ws) ({ frames := 0, cells := 0, slots := 0, locals := 0 } : Room)) (fun aa_ U_ => aa_ = #[(.int (4 : Int32))] ∧ Z.Warmed39 U_.vm ∧ U_.heap = h0) (fun _ _ _ _ _ => True) (fun _ U_ o_ V_ => ∃ v_ L_, o_ = .returned v_ ∧ QRf kd h0 n0 v_ V_.heap L_ ∧ FrameEnd U_ o_ V_ L_ ({ frames := 0, cells := 0, slots := 0, locals := 0 } : Room).cells ({ frames := 0, cells := 0, slots := 0, locals := 0 } : Room).slots) := by
  refine MetFree.of_bodySF (plainFor_of_name pn_1) hisR ?_
  intro p e s m args below meth c s₁ Bd hml0 hP hK
  obtain ⟨rfl, hZ, hh⟩ := hP
  have hx := Bd.exec
  have hby := Bd.bytes
  have hml : c.maxLocals = 1 := hml0
  have hown : s.vm.findClass "com/example/trestle/trestle/ResourceKindIdPinLaw" = some m.cls := findClass_of_methodNamed Bd.named
  have hnm := (name_of_methodNamed Bd.named Bd.method).1
  have X0 : Stand p l e ({ frames := 0, cells := 0, slots := 0, locals := 0 } : Room) s m #[(.int (4 : Int32))] below meth c s₁ [] 0 0 := Stand.of_body Bd
  have e0 : s₁.heap = h0 := by rw [← hh, Bd.state]; rfl
  have N0 := Fr.nil n0
  have pre0 : ∀ zz, Steps p.tables e below (s₁.setTop (mkF m 0 #[.val (.int (4 : Int32))] [])) zz → Steps p.tables e below (s₁.setTop (entryFrame m #[(.int (4 : Int32))] 1)) zz := fun zz kz_ => castTop (ef_1 m (4 : Int32)) kz_
  obtain ⟨T64, X64, e64, st64⟩ := getS2 X0 hx hZ hown (host := "") (Or.inl (hw _ (List.mem_of_getElem? (i := 125) rfl))) Via.refl e0 (Sta.ext O.2 hst) (g := (mkF m 40 #[.val (.int (4 : Int32))] [])) rfl (hb hby d1_40)
  obtain ⟨fs, hr, hrun, hended, hW, hsame⟩ := X64.leave (v := some (.ref kd)) (fun h => by rw [Bd.returns] at h; cases h)
  refine ⟨_, _, pre0 _ ?_, hrun, hended, _, _, rfl, ?_, ⟨_, rfl⟩, hW, hsame.mono (by decide) (by decide)⟩
  · show Steps p.tables e below (s₁.setTop (mkF m 0 #[.val (.int (4 : Int32))] [])) _
    refine XS.iloadN X0.here hx rfl (hb hby d1_0) rfl ?_
    refine XS.ifYes X0.here hx rfl (pc0 := 1) (pc' := 8) rfl (hb hby d1_1) rfl ((if0 _ _).trans (feq (by decide : ¬ ((4 : Int32) = (0 : Int32)))).2) (by decide) (by decide) ?_
    refine XS.iloadN X0.here hx rfl (hb hby d1_8) rfl ?_
    refine XS.iconst X0.here hx rfl (hb hby d1_9) ?_
    refine XS.icmpYes X0.here hx rfl (pc0 := 10) (pc' := 17) rfl (hb hby d1_10) rfl (feq (by decide : ¬ ((4 : Int32) = (1 : Int32)))).2 (by decide) (by decide) ?_
    refine XS.iloadN X0.here hx rfl (hb hby d1_17) rfl ?_
    show Steps p.tables e below (s₁.setTop (mkF m 18 #[.val (.int (4 : Int32))] [(.int (4 : Int32))])) _
    refine XS.iconst X0.here hx rfl (hb hby d1_18) ?_
    refine XS.icmpYes X0.here hx rfl (pc0 := 19) (pc' := 26) rfl (hb hby d1_19) rfl (feq (by decide : ¬ ((4 : Int32) = (2 : Int32)))).2 (by decide) (by decide) ?_
    refine XS.iloadN X0.here hx rfl (hb hby d1_26) rfl ?_
    refine XS.iconst X0.here hx rfl (hb hby d1_27) ?_
    refine XS.icmpYes X0.here hx rfl (pc0 := 28) (pc' := 35) rfl (hb hby d1_28) rfl (feq (by decide : ¬ ((4 : Int32) = (3 : Int32)))).2 (by decide) (by decide) ?_
    refine XS.iloadN X0.here hx rfl (hb hby d1_35) rfl ?_
    show Steps p.tables e below (s₁.setTop (mkF m 36 #[.val (.int (4 : Int32))] [(.int (4 : Int32))])) _
    refine XS.iconst X0.here hx rfl (hb hby d1_36) ?_
    refine XS.icmpNo X0.here hx rfl (hb hby d1_37) rfl (teq (rfl : (4 : Int32) = (4 : Int32))).2 ?_
    show Steps p.tables e below (s₁.setTop (mkF m 40 #[.val (.int (4 : Int32))] [])) _
    refine st64 _ ?_
    show Steps p.tables e below (T64.setTop (mkF m 43 #[.val (.int (4 : Int32))] [(.ref kd)])) _
    jvm_step X64.here [X64.here.top, hx, (hb hby d1_43), X64.method', Bd.returns, Value.isRef, FieldType.isReference]
    first | (intro acts; rw [hr _ acts rfl rfl rfl]) | rw [hr _ _ rfl rfl rfl]
    exact Steps.refl _
  · show QRf kd h0 n0 _ T64.heap _
    rw [e64]
    exact ⟨rfl, N0, rfl⟩
set_option maxRecDepth 65536 in
set_option maxHeartbeats 40000000 in
theorem rmK5 (l : Launch) (Z : State) (a0 : Array Value) (hw : ∀ d ∈ tables_1, d.before a0 Z = true) (ws : List Jvm.Cond) (kd : Addr)  (h0 : Heap) (n0 : Nat) (Z0 : n0 ≤ h0.size) (O : Old Z n0 h0) (hst : Sta Z Z.heap "com/example/trestle/trestle/ResourceKind" "XML_SCHEMA" "Lcom/example/trestle/trestle/ResourceKind;" (.ref kd))  :
    MetFree l (⟨"com/example/trestle/trestle/ResourceKindIdPinLaw", "kindOf", "(I)Lcom/example/trestle/trestle/ResourceKind;"⟩ : MethodName) (head1 (Jvm.Cond.code (⟨"com/example/trestle/trestle/ResourceKindIdPinLaw", "kindOf", "(I)Lcom/example/trestle/trestle/ResourceKind;"⟩ : MethodName) method_3_code 1 (some (.object "com/example/trestle/trestle/ResourceKind")) :: ws) ({ frames := 0, cells := 0, slots := 0, locals := 0 } : Room)) (fun aa_ U_ => aa_ = #[(.int (5 : Int32))] ∧ Z.Warmed39 U_.vm ∧ U_.heap = h0) (fun _ _ _ _ _ => True) (fun _ U_ o_ V_ => ∃ v_ L_, o_ = .returned v_ ∧ QRf kd h0 n0 v_ V_.heap L_ ∧ FrameEnd U_ o_ V_ L_ ({ frames := 0, cells := 0, slots := 0, locals := 0 } : Room).cells ({ frames := 0, cells := 0, slots := 0, locals := 0 } : Room).slots) := by
  refine MetFree.of_bodySF (plainFor_of_name pn_1) hisR ?_
  intro p e s m args below meth c s₁ Bd hml0 hP hK
  obtain ⟨rfl, hZ, hh⟩ := hP
  have hx := Bd.exec
  have hby := Bd.bytes
  have hml : c.maxLocals = 1 := hml0
  have hown : s.vm.findClass "com/example/trestle/trestle/ResourceKindIdPinLaw" = some m.cls := findClass_of_methodNamed Bd.named
  have hnm := (name_of_methodNamed Bd.named Bd.method).1
  have X0 : Stand p l e ({ frames := 0, cells := 0, slots := 0, locals := 0 } : Room) s m #[(.int (5 : Int32))] below meth c s₁ [] 0 0 := Stand.of_body Bd
  have e0 : s₁.heap = h0 := by rw [← hh, Bd.state]; rfl
  have N0 := Fr.nil n0
  have pre0 : ∀ zz, Steps p.tables e below (s₁.setTop (mkF m 0 #[.val (.int (5 : Int32))] [])) zz → Steps p.tables e below (s₁.setTop (entryFrame m #[(.int (5 : Int32))] 1)) zz := fun zz kz_ => castTop (ef_1 m (5 : Int32)) kz_
  obtain ⟨T65, X65, e65, st65⟩ := getS2 X0 hx hZ hown (host := "") (Or.inl (hw _ (List.mem_of_getElem? (i := 132) rfl))) Via.refl e0 (Sta.ext O.2 hst) (g := (mkF m 44 #[.val (.int (5 : Int32))] [])) rfl (hb hby d1_44)
  obtain ⟨fs, hr, hrun, hended, hW, hsame⟩ := X65.leave (v := some (.ref kd)) (fun h => by rw [Bd.returns] at h; cases h)
  refine ⟨_, _, pre0 _ ?_, hrun, hended, _, _, rfl, ?_, ⟨_, rfl⟩, hW, hsame.mono (by decide) (by decide)⟩
  · show Steps p.tables e below (s₁.setTop (mkF m 0 #[.val (.int (5 : Int32))] [])) _
    refine XS.iloadN X0.here hx rfl (hb hby d1_0) rfl ?_
    refine XS.ifYes X0.here hx rfl (pc0 := 1) (pc' := 8) rfl (hb hby d1_1) rfl ((if0 _ _).trans (feq (by decide : ¬ ((5 : Int32) = (0 : Int32)))).2) (by decide) (by decide) ?_
    refine XS.iloadN X0.here hx rfl (hb hby d1_8) rfl ?_
    refine XS.iconst X0.here hx rfl (hb hby d1_9) ?_
    refine XS.icmpYes X0.here hx rfl (pc0 := 10) (pc' := 17) rfl (hb hby d1_10) rfl (feq (by decide : ¬ ((5 : Int32) = (1 : Int32)))).2 (by decide) (by decide) ?_
    refine XS.iloadN X0.here hx rfl (hb hby d1_17) rfl ?_
    show Steps p.tables e below (s₁.setTop (mkF m 18 #[.val (.int (5 : Int32))] [(.int (5 : Int32))])) _
    refine XS.iconst X0.here hx rfl (hb hby d1_18) ?_
    refine XS.icmpYes X0.here hx rfl (pc0 := 19) (pc' := 26) rfl (hb hby d1_19) rfl (feq (by decide : ¬ ((5 : Int32) = (2 : Int32)))).2 (by decide) (by decide) ?_
    refine XS.iloadN X0.here hx rfl (hb hby d1_26) rfl ?_
    refine XS.iconst X0.here hx rfl (hb hby d1_27) ?_
    refine XS.icmpYes X0.here hx rfl (pc0 := 28) (pc' := 35) rfl (hb hby d1_28) rfl (feq (by decide : ¬ ((5 : Int32) = (3 : Int32)))).2 (by decide) (by decide) ?_
    refine XS.iloadN X0.here hx rfl (hb hby d1_35) rfl ?_
    show Steps p.tables e below (s₁.setTop (mkF m 36 #[.val (.int (5 : Int32))] [(.int (5 : Int32))])) _
    refine XS.iconst X0.here hx rfl (hb hby d1_36) ?_
    refine XS.icmpYes X0.here hx rfl (pc0 := 37) (pc' := 44) rfl (hb hby d1_37) rfl (feq (by decide : ¬ ((5 : Int32) = (4 : Int32)))).2 (by decide) (by decide) ?_
    show Steps p.tables e below (s₁.setTop (mkF m 44 #[.val (.int (5 : Int32))] [])) _
    refine st65 _ ?_
    show Steps p.tables e below (T65.setTop (mkF m 47 #[.val (.int (5 : Int32))] [(.ref kd)])) _
    jvm_step X65.here [X65.here.top, hx, (hb hby d1_47), X65.method', Bd.returns, Value.isRef, FieldType.isReference]
    first | (intro acts; rw [hr _ acts rfl rfl rfl]) | rw [hr _ _ rfl rfl rfl]
    exact Steps.refl _
  · show QRf kd h0 n0 _ T65.heap _
    rw [e65]
    exact ⟨rfl, N0, rfl⟩
theorem d24_0 : decode method_4_code 0 = .ok (.iload_n 0, 1) := by decide +kernel
theorem d24_1 : decode method_4_code 1 = .ok (.ifCond .ne 6, 3) := by decide +kernel
theorem d24_4 : decode method_4_code 4 = .ok (.ldc 58, 2) := by decide +kernel
theorem d24_6 : decode method_4_code 6 = .ok (.areturn, 1) := by decide +kernel
theorem d24_7 : decode method_4_code 7 = .ok (.iload_n 0, 1) := by decide +kernel
theorem d24_8 : decode method_4_code 8 = .ok (.iconst 1, 1) := by decide +kernel
theorem d24_9 : decode method_4_code 9 = .ok (.if_icmp .ne 6, 3) := by decide +kernel
theorem d24_12 : decode method_4_code 12 = .ok (.ldc 60, 2) := by decide +kernel
theorem d24_14 : decode method_4_code 14 = .ok (.areturn, 1) := by decide +kernel
theorem d24_15 : decode method_4_code 15 = .ok (.iload_n 0, 1) := by decide +kernel
theorem d24_16 : decode method_4_code 16 = .ok (.iconst 2, 1) := by decide +kernel
theorem d24_17 : decode method_4_code 17 = .ok (.if_icmp .ne 6, 3) := by decide +kernel
theorem d24_20 : decode method_4_code 20 = .ok (.ldc 62, 2) := by decide +kernel
theorem d24_22 : decode method_4_code 22 = .ok (.areturn, 1) := by decide +kernel
theorem d24_23 : decode method_4_code 23 = .ok (.iload_n 0, 1) := by decide +kernel
theorem d24_24 : decode method_4_code 24 = .ok (.iconst 3, 1) := by decide +kernel
theorem d24_25 : decode method_4_code 25 = .ok (.if_icmp .ne 6, 3) := by decide +kernel
theorem d24_28 : decode method_4_code 28 = .ok (.ldc 64, 2) := by decide +kernel
theorem d24_30 : decode method_4_code 30 = .ok (.areturn, 1) := by decide +kernel
theorem d24_31 : decode method_4_code 31 = .ok (.iload_n 0, 1) := by decide +kernel
theorem d24_32 : decode method_4_code 32 = .ok (.iconst 4, 1) := by decide +kernel
theorem d24_33 : decode method_4_code 33 = .ok (.if_icmp .ne 6, 3) := by decide +kernel
theorem d24_36 : decode method_4_code 36 = .ok (.ldc 66, 2) := by decide +kernel
theorem d24_38 : decode method_4_code 38 = .ok (.areturn, 1) := by decide +kernel
theorem d24_39 : decode method_4_code 39 = .ok (.ldc 68, 2) := by decide +kernel
theorem d24_41 : decode method_4_code 41 = .ok (.areturn, 1) := by decide +kernel
theorem pn_24 : plainName "com/example/trestle/trestle/ResourceKindIdPinLaw" = true := by first | (simp [plainName, overriddenIn]; done) | decide +kernel
theorem ef_24 (m : MethodId) (x0 : Int32) : entryFrame m #[(.int x0)] 1 = mkF m 0 #[.val (.int x0)] [] := by first | (simp [entryFrame, mkF, argsToLocals, Value.category]; done) | rfl
def sw0 : Nat → Value := fun j => ([(.int (46 : Int32)), (.int (112 : Int32)), (.int (114 : Int32)), (.int (111 : Int32)), (.int (120 : Int32)), (.int (121 : Int32)), (.int (46 : Int32)), (.int (120 : Int32)), (.int (109 : Int32)), (.int (108 : Int32))] : List Value).getD j (.int 0)
set_option maxRecDepth 65536 in
set_option maxHeartbeats 40000000 in
theorem rmSX0 (l : Launch) (Z : State) (a0 : Array Value) (hw : ∀ d ∈ tables_1, d.before a0 Z = true) (ws : List Jvm.Cond)   (h0 : Heap) (n0 : Nat) (Z0 : n0 ≤ h0.size) (hEL : EW Z a0 EL1)  :
    MetFree l (⟨"com/example/trestle/trestle/ResourceKindIdPinLaw", "suffixOf", "(I)Ljava/lang/String;"⟩ : MethodName) (head1 (Jvm.Cond.code (⟨"com/example/trestle/trestle/ResourceKindIdPinLaw", "suffixOf", "(I)Ljava/lang/String;"⟩ : MethodName) method_4_code 1 (some (.object "java/lang/String")) :: ws) ({ frames := 0, cells := 2, slots := 60, locals := 0 } : Room)) (fun aa_ U_ => aa_ = #[(.int (0 : Int32))] ∧ Z.Warmed39 U_.vm ∧ U_.heap = h0 ∧ CHv Z EL1 U_.vm h0) (fun _ _ _ _ _ => True) (fun _ U_ o_ V_ => ∃ v_ L_, o_ = .returned v_ ∧ QV Z 10 sw0 h0 n0 v_ V_.heap L_ ∧ CHr Z EL1 U_.vm U_.heap V_.vm V_.heap ∧ ReturnedEndW U_ o_ V_ L_ ({ frames := 0, cells := 2, slots := 60, locals := 0 } : Room).cells ({ frames := 0, cells := 2, slots := 60, locals := 0 } : Room).slots) := by
  refine MetFree.of_bodySF (plainFor_of_name pn_24) hisR ?_
  intro p e s m args below meth c s₁ Bd hml0 hP hK
  obtain ⟨rfl, hZ, hh, CH0⟩ := hP
  have hx := Bd.exec
  have hby := Bd.bytes
  have hml : c.maxLocals = 1 := hml0
  have hown : s.vm.findClass "com/example/trestle/trestle/ResourceKindIdPinLaw" = some m.cls := findClass_of_methodNamed Bd.named
  have hnm := (name_of_methodNamed Bd.named Bd.method).1
  have X0 : Stand p l e ({ frames := 0, cells := 2, slots := 60, locals := 0 } : Room) s m #[(.int (0 : Int32))] below meth c s₁ [] 0 0 := Stand.of_body Bd
  have e0 : s₁.heap = h0 := by rw [← hh, Bd.state]; rfl
  have N0 := Fr.nil n0
  have pre0 : ∀ zz, Steps p.tables e below (s₁.setTop (mkF m 0 #[.val (.int (0 : Int32))] [])) zz → Steps p.tables e below (s₁.setTop (entryFrame m #[(.int (0 : Int32))] 1)) zz := fun zz kz_ => castTop (ef_24 m (0 : Int32)) kz_
  have hwS : ∀ a ∈ Bundle.stringAtoms, a.before a0 Z = true := fun d hd => hw d (by simpa using (List.all_eq_true.mp (by decide +kernel : (Bundle.stringAtoms.all fun c => tables_1.contains c) = true)) d hd)
  obtain ⟨a66, T66, h66, k66, v66, kk66, X66, e66, E66, hS66, hk66, hZ66, hown66, Ex66, Fc66, Fv66, Av66, la66, lb66, C66, Lt66, Sn66, st66⟩ := ldcCH (s := s) (vm0 := s.vm) (EL := EL1) X0 hx hZ hown (hw _ (List.mem_of_getElem? (i := 131) rfl)) hwS e0 ((State.WarmedH.refl s).since 0) (Nat.zero_le _) hEL (by decide) CH0 (vs := [(.int (46 : Int32)), (.int (112 : Int32)), (.int (114 : Int32)), (.int (111 : Int32)), (.int (120 : Int32)), (.int (121 : Int32)), (.int (46 : Int32)), (.int (120 : Int32)), (.int (109 : Int32)), (.int (108 : Int32))]) (z := (10 : Int32)) (by decide) (by decide) (by decide) (g := (mkF m 4 #[.val (.int (0 : Int32))] [])) rfl (hb hby d24_4) (n := 40) (by decide) (by decide) (by decide) (by decide)
  have K66 := (Keep.refl h0 []).ext E66
  have Z66 : n0 ≤ h66.size := Nat.le_trans Z0 E66.1
  have CR66 := (CHr.refl CH0).trans C66
  obtain ⟨fs, hr, hrun, hended, -, hWW, hBB, hSS⟩ := Stand.leaveW (s := s) (vm₁ := T66.vm) X66 hS66 (by rw [e66]; exact hk66) (v := some (.ref a66)) (fun h => by rw [Bd.returns] at h; cases h)
  refine ⟨_, _, pre0 _ ?_, hrun, hended, _, _, rfl, ?_, ?_, ⟨_, rfl⟩, hWW, hBB, hSS.mono (by decide) (by decide)⟩
  · show Steps p.tables e below (s₁.setTop (mkF m 0 #[.val (.int (0 : Int32))] [])) _
    refine XS.iloadN X0.here hx rfl (hb hby d24_0) rfl ?_
    refine XS.ifNo X0.here hx rfl (hb hby d24_1) rfl ((if0 _ _).trans (teq (rfl : (0 : Int32) = (0 : Int32))).2) ?_
    show Steps p.tables e below (s₁.setTop (mkF m 4 #[.val (.int (0 : Int32))] [])) _
    refine st66 _ ?_
    show Steps p.tables e below (T66.setTop (mkF m 6 #[.val (.int (0 : Int32))] [(.ref a66)])) _
    jvm_step X66.here [X66.here.top, hx, (hb hby d24_6), X66.method', Bd.returns, Value.isRef, FieldType.isReference]
    first | (intro acts; rw [hr _ acts rfl rfl rfl]) | rw [hr _ _ rfl rfl rfl]
    exact Steps.refl _
  · show QV Z 10 sw0 h0 n0 _ T66.heap _
    exact ⟨a66, rfl, N0, by rw [e66]; exact K66, by rw [e66]; exact ⟨Ex66, v66, Fv66, Fc66, afOf Av66 rfl⟩⟩
  · show CHr Z EL1 s.vm s.heap T66.vm T66.heap
    have q := CR66.trans (CHv.at (s := s) (vm0 := T66.vm) X66 hZ66 hEL C66.1)
    rw [hh, e66]
    exact q
def sw1 : Nat → Value := fun j => ([(.int (46 : Int32)), (.int (98 : Int32)), (.int (117 : Int32)), (.int (115 : Int32)), (.int (105 : Int32)), (.int (110 : Int32)), (.int (101 : Int32)), (.int (115 : Int32)), (.int (115 : Int32)), (.int (46 : Int32)), (.int (120 : Int32)), (.int (109 : Int32)), (.int (108 : Int32))] : List Value).getD j (.int 0)
set_option maxRecDepth 65536 in
set_option maxHeartbeats 40000000 in
theorem rmSX1 (l : Launch) (Z : State) (a0 : Array Value) (hw : ∀ d ∈ tables_1, d.before a0 Z = true) (ws : List Jvm.Cond)   (h0 : Heap) (n0 : Nat) (Z0 : n0 ≤ h0.size) (hEL : EW Z a0 EL1)  :
    MetFree l (⟨"com/example/trestle/trestle/ResourceKindIdPinLaw", "suffixOf", "(I)Ljava/lang/String;"⟩ : MethodName) (head1 (Jvm.Cond.code (⟨"com/example/trestle/trestle/ResourceKindIdPinLaw", "suffixOf", "(I)Ljava/lang/String;"⟩ : MethodName) method_4_code 1 (some (.object "java/lang/String")) :: ws) ({ frames := 0, cells := 2, slots := 60, locals := 0 } : Room)) (fun aa_ U_ => aa_ = #[(.int (1 : Int32))] ∧ Z.Warmed39 U_.vm ∧ U_.heap = h0 ∧ CHv Z EL1 U_.vm h0) (fun _ _ _ _ _ => True) (fun _ U_ o_ V_ => ∃ v_ L_, o_ = .returned v_ ∧ QV Z 13 sw1 h0 n0 v_ V_.heap L_ ∧ CHr Z EL1 U_.vm U_.heap V_.vm V_.heap ∧ ReturnedEndW U_ o_ V_ L_ ({ frames := 0, cells := 2, slots := 60, locals := 0 } : Room).cells ({ frames := 0, cells := 2, slots := 60, locals := 0 } : Room).slots) := by
  refine MetFree.of_bodySF (plainFor_of_name pn_24) hisR ?_
  intro p e s m args below meth c s₁ Bd hml0 hP hK
  obtain ⟨rfl, hZ, hh, CH0⟩ := hP
  have hx := Bd.exec
  have hby := Bd.bytes
  have hml : c.maxLocals = 1 := hml0
  have hown : s.vm.findClass "com/example/trestle/trestle/ResourceKindIdPinLaw" = some m.cls := findClass_of_methodNamed Bd.named
  have hnm := (name_of_methodNamed Bd.named Bd.method).1
  have X0 : Stand p l e ({ frames := 0, cells := 2, slots := 60, locals := 0 } : Room) s m #[(.int (1 : Int32))] below meth c s₁ [] 0 0 := Stand.of_body Bd
  have e0 : s₁.heap = h0 := by rw [← hh, Bd.state]; rfl
  have N0 := Fr.nil n0
  have pre0 : ∀ zz, Steps p.tables e below (s₁.setTop (mkF m 0 #[.val (.int (1 : Int32))] [])) zz → Steps p.tables e below (s₁.setTop (entryFrame m #[(.int (1 : Int32))] 1)) zz := fun zz kz_ => castTop (ef_24 m (1 : Int32)) kz_
  have hwS : ∀ a ∈ Bundle.stringAtoms, a.before a0 Z = true := fun d hd => hw d (by simpa using (List.all_eq_true.mp (by decide +kernel : (Bundle.stringAtoms.all fun c => tables_1.contains c) = true)) d hd)
  obtain ⟨a67, T67, h67, k67, v67, kk67, X67, e67, E67, hS67, hk67, hZ67, hown67, Ex67, Fc67, Fv67, Av67, la67, lb67, C67, Lt67, Sn67, st67⟩ := ldcCH (s := s) (vm0 := s.vm) (EL := EL1) X0 hx hZ hown (hw _ (List.mem_of_getElem? (i := 130) rfl)) hwS e0 ((State.WarmedH.refl s).since 0) (Nat.zero_le _) hEL (by decide) CH0 (vs := [(.int (46 : Int32)), (.int (98 : Int32)), (.int (117 : Int32)), (.int (115 : Int32)), (.int (105 : Int32)), (.int (110 : Int32)), (.int (101 : Int32)), (.int (115 : Int32)), (.int (115 : Int32)), (.int (46 : Int32)), (.int (120 : Int32)), (.int (109 : Int32)), (.int (108 : Int32))]) (z := (13 : Int32)) (by decide) (by decide) (by decide) (g := (mkF m 12 #[.val (.int (1 : Int32))] [])) rfl (hb hby d24_12) (n := 52) (by decide) (by decide) (by decide) (by decide)
  have K67 := (Keep.refl h0 []).ext E67
  have Z67 : n0 ≤ h67.size := Nat.le_trans Z0 E67.1
  have CR67 := (CHr.refl CH0).trans C67
  obtain ⟨fs, hr, hrun, hended, -, hWW, hBB, hSS⟩ := Stand.leaveW (s := s) (vm₁ := T67.vm) X67 hS67 (by rw [e67]; exact hk67) (v := some (.ref a67)) (fun h => by rw [Bd.returns] at h; cases h)
  refine ⟨_, _, pre0 _ ?_, hrun, hended, _, _, rfl, ?_, ?_, ⟨_, rfl⟩, hWW, hBB, hSS.mono (by decide) (by decide)⟩
  · show Steps p.tables e below (s₁.setTop (mkF m 0 #[.val (.int (1 : Int32))] [])) _
    refine XS.iloadN X0.here hx rfl (hb hby d24_0) rfl ?_
    refine XS.ifYes X0.here hx rfl (pc0 := 1) (pc' := 7) rfl (hb hby d24_1) rfl ((if0 _ _).trans (feq (by decide : ¬ ((1 : Int32) = (0 : Int32)))).2) (by decide) (by decide) ?_
    refine XS.iloadN X0.here hx rfl (hb hby d24_7) rfl ?_
    refine XS.iconst X0.here hx rfl (hb hby d24_8) ?_
    refine XS.icmpNo X0.here hx rfl (hb hby d24_9) rfl (teq (rfl : (1 : Int32) = (1 : Int32))).2 ?_
    show Steps p.tables e below (s₁.setTop (mkF m 12 #[.val (.int (1 : Int32))] [])) _
    refine st67 _ ?_
    show Steps p.tables e below (T67.setTop (mkF m 14 #[.val (.int (1 : Int32))] [(.ref a67)])) _
    jvm_step X67.here [X67.here.top, hx, (hb hby d24_14), X67.method', Bd.returns, Value.isRef, FieldType.isReference]
    first | (intro acts; rw [hr _ acts rfl rfl rfl]) | rw [hr _ _ rfl rfl rfl]
    exact Steps.refl _
  · show QV Z 13 sw1 h0 n0 _ T67.heap _
    exact ⟨a67, rfl, N0, by rw [e67]; exact K67, by rw [e67]; exact ⟨Ex67, v67, Fv67, Fc67, afOf Av67 rfl⟩⟩
  · show CHr Z EL1 s.vm s.heap T67.vm T67.heap
    have q := CR67.trans (CHv.at (s := s) (vm0 := T67.vm) X67 hZ67 hEL C67.1)
    rw [hh, e67]
    exact q
def sw2 : Nat → Value := fun j => ([(.int (46 : Int32)), (.int (120 : Int32)), (.int (113 : Int32))] : List Value).getD j (.int 0)
set_option maxRecDepth 65536 in
set_option maxHeartbeats 40000000 in
theorem rmSX2 (l : Launch) (Z : State) (a0 : Array Value) (hw : ∀ d ∈ tables_1, d.before a0 Z = true) (ws : List Jvm.Cond)   (h0 : Heap) (n0 : Nat) (Z0 : n0 ≤ h0.size) (hEL : EW Z a0 EL1)  :
    MetFree l (⟨"com/example/trestle/trestle/ResourceKindIdPinLaw", "suffixOf", "(I)Ljava/lang/String;"⟩ : MethodName) (head1 (Jvm.Cond.code (⟨"com/example/trestle/trestle/ResourceKindIdPinLaw", "suffixOf", "(I)Ljava/lang/String;"⟩ : MethodName) method_4_code 1 (some (.object "java/lang/String")) :: ws) ({ frames := 0, cells := 2, slots := 60, locals := 0 } : Room)) (fun aa_ U_ => aa_ = #[(.int (2 : Int32))] ∧ Z.Warmed39 U_.vm ∧ U_.heap = h0 ∧ CHv Z EL1 U_.vm h0) (fun _ _ _ _ _ => True) (fun _ U_ o_ V_ => ∃ v_ L_, o_ = .returned v_ ∧ QV Z 3 sw2 h0 n0 v_ V_.heap L_ ∧ CHr Z EL1 U_.vm U_.heap V_.vm V_.heap ∧ ReturnedEndW U_ o_ V_ L_ ({ frames := 0, cells := 2, slots := 60, locals := 0 } : Room).cells ({ frames := 0, cells := 2, slots := 60, locals := 0 } : Room).slots) := by
  refine MetFree.of_bodySF (plainFor_of_name pn_24) hisR ?_
  intro p e s m args below meth c s₁ Bd hml0 hP hK
  obtain ⟨rfl, hZ, hh, CH0⟩ := hP
  have hx := Bd.exec
  have hby := Bd.bytes
  have hml : c.maxLocals = 1 := hml0
  have hown : s.vm.findClass "com/example/trestle/trestle/ResourceKindIdPinLaw" = some m.cls := findClass_of_methodNamed Bd.named
  have hnm := (name_of_methodNamed Bd.named Bd.method).1
  have X0 : Stand p l e ({ frames := 0, cells := 2, slots := 60, locals := 0 } : Room) s m #[(.int (2 : Int32))] below meth c s₁ [] 0 0 := Stand.of_body Bd
  have e0 : s₁.heap = h0 := by rw [← hh, Bd.state]; rfl
  have N0 := Fr.nil n0
  have pre0 : ∀ zz, Steps p.tables e below (s₁.setTop (mkF m 0 #[.val (.int (2 : Int32))] [])) zz → Steps p.tables e below (s₁.setTop (entryFrame m #[(.int (2 : Int32))] 1)) zz := fun zz kz_ => castTop (ef_24 m (2 : Int32)) kz_
  have hwS : ∀ a ∈ Bundle.stringAtoms, a.before a0 Z = true := fun d hd => hw d (by simpa using (List.all_eq_true.mp (by decide +kernel : (Bundle.stringAtoms.all fun c => tables_1.contains c) = true)) d hd)
  obtain ⟨a68, T68, h68, k68, v68, kk68, X68, e68, E68, hS68, hk68, hZ68, hown68, Ex68, Fc68, Fv68, Av68, la68, lb68, C68, Lt68, Sn68, st68⟩ := ldcCH (s := s) (vm0 := s.vm) (EL := EL1) X0 hx hZ hown (hw _ (List.mem_of_getElem? (i := 124) rfl)) hwS e0 ((State.WarmedH.refl s).since 0) (Nat.zero_le _) hEL (by decide) CH0 (vs := [(.int (46 : Int32)), (.int (120 : Int32)), (.int (113 : Int32))]) (z := (3 : Int32)) (by decide) (by decide) (by decide) (g := (mkF m 20 #[.val (.int (2 : Int32))] [])) rfl (hb hby d24_20) (n := 12) (by decide) (by decide) (by decide) (by decide)
  have K68 := (Keep.refl h0 []).ext E68
  have Z68 : n0 ≤ h68.size := Nat.le_trans Z0 E68.1
  have CR68 := (CHr.refl CH0).trans C68
  obtain ⟨fs, hr, hrun, hended, -, hWW, hBB, hSS⟩ := Stand.leaveW (s := s) (vm₁ := T68.vm) X68 hS68 (by rw [e68]; exact hk68) (v := some (.ref a68)) (fun h => by rw [Bd.returns] at h; cases h)
  refine ⟨_, _, pre0 _ ?_, hrun, hended, _, _, rfl, ?_, ?_, ⟨_, rfl⟩, hWW, hBB, hSS.mono (by decide) (by decide)⟩
  · show Steps p.tables e below (s₁.setTop (mkF m 0 #[.val (.int (2 : Int32))] [])) _
    refine XS.iloadN X0.here hx rfl (hb hby d24_0) rfl ?_
    refine XS.ifYes X0.here hx rfl (pc0 := 1) (pc' := 7) rfl (hb hby d24_1) rfl ((if0 _ _).trans (feq (by decide : ¬ ((2 : Int32) = (0 : Int32)))).2) (by decide) (by decide) ?_
    refine XS.iloadN X0.here hx rfl (hb hby d24_7) rfl ?_
    refine XS.iconst X0.here hx rfl (hb hby d24_8) ?_
    refine XS.icmpYes X0.here hx rfl (pc0 := 9) (pc' := 15) rfl (hb hby d24_9) rfl (feq (by decide : ¬ ((2 : Int32) = (1 : Int32)))).2 (by decide) (by decide) ?_
    refine XS.iloadN X0.here hx rfl (hb hby d24_15) rfl ?_
    show Steps p.tables e below (s₁.setTop (mkF m 16 #[.val (.int (2 : Int32))] [(.int (2 : Int32))])) _
    refine XS.iconst X0.here hx rfl (hb hby d24_16) ?_
    refine XS.icmpNo X0.here hx rfl (hb hby d24_17) rfl (teq (rfl : (2 : Int32) = (2 : Int32))).2 ?_
    show Steps p.tables e below (s₁.setTop (mkF m 20 #[.val (.int (2 : Int32))] [])) _
    refine st68 _ ?_
    show Steps p.tables e below (T68.setTop (mkF m 22 #[.val (.int (2 : Int32))] [(.ref a68)])) _
    jvm_step X68.here [X68.here.top, hx, (hb hby d24_22), X68.method', Bd.returns, Value.isRef, FieldType.isReference]
    first | (intro acts; rw [hr _ acts rfl rfl rfl]) | rw [hr _ _ rfl rfl rfl]
    exact Steps.refl _
  · show QV Z 3 sw2 h0 n0 _ T68.heap _
    exact ⟨a68, rfl, N0, by rw [e68]; exact K68, by rw [e68]; exact ⟨Ex68, v68, Fv68, Fc68, afOf Av68 rfl⟩⟩
  · show CHr Z EL1 s.vm s.heap T68.vm T68.heap
    have q := CR68.trans (CHv.at (s := s) (vm0 := T68.vm) X68 hZ68 hEL C68.1)
    rw [hh, e68]
    exact q
def sw3 : Nat → Value := fun j => ([(.int (46 : Int32)), (.int (120 : Int32)), (.int (115 : Int32)), (.int (108 : Int32))] : List Value).getD j (.int 0)
set_option maxRecDepth 65536 in
set_option maxHeartbeats 40000000 in
theorem rmSX3 (l : Launch) (Z : State) (a0 : Array Value) (hw : ∀ d ∈ tables_1, d.before a0 Z = true) (ws : List Jvm.Cond)   (h0 : Heap) (n0 : Nat) (Z0 : n0 ≤ h0.size) (hEL : EW Z a0 EL1)  :
    MetFree l (⟨"com/example/trestle/trestle/ResourceKindIdPinLaw", "suffixOf", "(I)Ljava/lang/String;"⟩ : MethodName) (head1 (Jvm.Cond.code (⟨"com/example/trestle/trestle/ResourceKindIdPinLaw", "suffixOf", "(I)Ljava/lang/String;"⟩ : MethodName) method_4_code 1 (some (.object "java/lang/String")) :: ws) ({ frames := 0, cells := 2, slots := 60, locals := 0 } : Room)) (fun aa_ U_ => aa_ = #[(.int (3 : Int32))] ∧ Z.Warmed39 U_.vm ∧ U_.heap = h0 ∧ CHv Z EL1 U_.vm h0) (fun _ _ _ _ _ => True) (fun _ U_ o_ V_ => ∃ v_ L_, o_ = .returned v_ ∧ QV Z 4 sw3 h0 n0 v_ V_.heap L_ ∧ CHr Z EL1 U_.vm U_.heap V_.vm V_.heap ∧ ReturnedEndW U_ o_ V_ L_ ({ frames := 0, cells := 2, slots := 60, locals := 0 } : Room).cells ({ frames := 0, cells := 2, slots := 60, locals := 0 } : Room).slots) := by
  refine MetFree.of_bodySF (plainFor_of_name pn_24) hisR ?_
  intro p e s m args below meth c s₁ Bd hml0 hP hK
  obtain ⟨rfl, hZ, hh, CH0⟩ := hP
  have hx := Bd.exec
  have hby := Bd.bytes
  have hml : c.maxLocals = 1 := hml0
  have hown : s.vm.findClass "com/example/trestle/trestle/ResourceKindIdPinLaw" = some m.cls := findClass_of_methodNamed Bd.named
  have hnm := (name_of_methodNamed Bd.named Bd.method).1
  have X0 : Stand p l e ({ frames := 0, cells := 2, slots := 60, locals := 0 } : Room) s m #[(.int (3 : Int32))] below meth c s₁ [] 0 0 := Stand.of_body Bd
  have e0 : s₁.heap = h0 := by rw [← hh, Bd.state]; rfl
  have N0 := Fr.nil n0
  have pre0 : ∀ zz, Steps p.tables e below (s₁.setTop (mkF m 0 #[.val (.int (3 : Int32))] [])) zz → Steps p.tables e below (s₁.setTop (entryFrame m #[(.int (3 : Int32))] 1)) zz := fun zz kz_ => castTop (ef_24 m (3 : Int32)) kz_
  have hwS : ∀ a ∈ Bundle.stringAtoms, a.before a0 Z = true := fun d hd => hw d (by simpa using (List.all_eq_true.mp (by decide +kernel : (Bundle.stringAtoms.all fun c => tables_1.contains c) = true)) d hd)
  obtain ⟨a69, T69, h69, k69, v69, kk69, X69, e69, E69, hS69, hk69, hZ69, hown69, Ex69, Fc69, Fv69, Av69, la69, lb69, C69, Lt69, Sn69, st69⟩ := ldcCH (s := s) (vm0 := s.vm) (EL := EL1) X0 hx hZ hown (hw _ (List.mem_of_getElem? (i := 117) rfl)) hwS e0 ((State.WarmedH.refl s).since 0) (Nat.zero_le _) hEL (by decide) CH0 (vs := [(.int (46 : Int32)), (.int (120 : Int32)), (.int (115 : Int32)), (.int (108 : Int32))]) (z := (4 : Int32)) (by decide) (by decide) (by decide) (g := (mkF m 28 #[.val (.int (3 : Int32))] [])) rfl (hb hby d24_28) (n := 16) (by decide) (by decide) (by decide) (by decide)
  have K69 := (Keep.refl h0 []).ext E69
  have Z69 : n0 ≤ h69.size := Nat.le_trans Z0 E69.1
  have CR69 := (CHr.refl CH0).trans C69
  obtain ⟨fs, hr, hrun, hended, -, hWW, hBB, hSS⟩ := Stand.leaveW (s := s) (vm₁ := T69.vm) X69 hS69 (by rw [e69]; exact hk69) (v := some (.ref a69)) (fun h => by rw [Bd.returns] at h; cases h)
  refine ⟨_, _, pre0 _ ?_, hrun, hended, _, _, rfl, ?_, ?_, ⟨_, rfl⟩, hWW, hBB, hSS.mono (by decide) (by decide)⟩
  · show Steps p.tables e below (s₁.setTop (mkF m 0 #[.val (.int (3 : Int32))] [])) _
    refine XS.iloadN X0.here hx rfl (hb hby d24_0) rfl ?_
    refine XS.ifYes X0.here hx rfl (pc0 := 1) (pc' := 7) rfl (hb hby d24_1) rfl ((if0 _ _).trans (feq (by decide : ¬ ((3 : Int32) = (0 : Int32)))).2) (by decide) (by decide) ?_
    refine XS.iloadN X0.here hx rfl (hb hby d24_7) rfl ?_
    refine XS.iconst X0.here hx rfl (hb hby d24_8) ?_
    refine XS.icmpYes X0.here hx rfl (pc0 := 9) (pc' := 15) rfl (hb hby d24_9) rfl (feq (by decide : ¬ ((3 : Int32) = (1 : Int32)))).2 (by decide) (by decide) ?_
    refine XS.iloadN X0.here hx rfl (hb hby d24_15) rfl ?_
    show Steps p.tables e below (s₁.setTop (mkF m 16 #[.val (.int (3 : Int32))] [(.int (3 : Int32))])) _
    refine XS.iconst X0.here hx rfl (hb hby d24_16) ?_
    refine XS.icmpYes X0.here hx rfl (pc0 := 17) (pc' := 23) rfl (hb hby d24_17) rfl (feq (by decide : ¬ ((3 : Int32) = (2 : Int32)))).2 (by decide) (by decide) ?_
    refine XS.iloadN X0.here hx rfl (hb hby d24_23) rfl ?_
    refine XS.iconst X0.here hx rfl (hb hby d24_24) ?_
    refine XS.icmpNo X0.here hx rfl (hb hby d24_25) rfl (teq (rfl : (3 : Int32) = (3 : Int32))).2 ?_
    show Steps p.tables e below (s₁.setTop (mkF m 28 #[.val (.int (3 : Int32))] [])) _
    refine st69 _ ?_
    show Steps p.tables e below (T69.setTop (mkF m 30 #[.val (.int (3 : Int32))] [(.ref a69)])) _
    jvm_step X69.here [X69.here.top, hx, (hb hby d24_30), X69.method', Bd.returns, Value.isRef, FieldType.isReference]
    first | (intro acts; rw [hr _ acts rfl rfl rfl]) | rw [hr _ _ rfl rfl rfl]
    exact Steps.refl _
  · show QV Z 4 sw3 h0 n0 _ T69.heap _
    exact ⟨a69, rfl, N0, by rw [e69]; exact K69, by rw [e69]; exact ⟨Ex69, v69, Fv69, Fc69, afOf Av69 rfl⟩⟩
  · show CHr Z EL1 s.vm s.heap T69.vm T69.heap
    have q := CR69.trans (CHv.at (s := s) (vm0 := T69.vm) X69 hZ69 hEL C69.1)
    rw [hh, e69]
    exact q
def sw4 : Nat → Value := fun j => ([(.int (46 : Int32)), (.int (119 : Int32)), (.int (115 : Int32)), (.int (100 : Int32)), (.int (108 : Int32))] : List Value).getD j (.int 0)
set_option maxRecDepth 65536 in
set_option maxHeartbeats 40000000 in
theorem rmSX4 (l : Launch) (Z : State) (a0 : Array Value) (hw : ∀ d ∈ tables_1, d.before a0 Z = true) (ws : List Jvm.Cond)   (h0 : Heap) (n0 : Nat) (Z0 : n0 ≤ h0.size) (hEL : EW Z a0 EL1)  :
    MetFree l (⟨"com/example/trestle/trestle/ResourceKindIdPinLaw", "suffixOf", "(I)Ljava/lang/String;"⟩ : MethodName) (head1 (Jvm.Cond.code (⟨"com/example/trestle/trestle/ResourceKindIdPinLaw", "suffixOf", "(I)Ljava/lang/String;"⟩ : MethodName) method_4_code 1 (some (.object "java/lang/String")) :: ws) ({ frames := 0, cells := 2, slots := 60, locals := 0 } : Room)) (fun aa_ U_ => aa_ = #[(.int (4 : Int32))] ∧ Z.Warmed39 U_.vm ∧ U_.heap = h0 ∧ CHv Z EL1 U_.vm h0) (fun _ _ _ _ _ => True) (fun _ U_ o_ V_ => ∃ v_ L_, o_ = .returned v_ ∧ QV Z 5 sw4 h0 n0 v_ V_.heap L_ ∧ CHr Z EL1 U_.vm U_.heap V_.vm V_.heap ∧ ReturnedEndW U_ o_ V_ L_ ({ frames := 0, cells := 2, slots := 60, locals := 0 } : Room).cells ({ frames := 0, cells := 2, slots := 60, locals := 0 } : Room).slots) := by
  refine MetFree.of_bodySF (plainFor_of_name pn_24) hisR ?_
  intro p e s m args below meth c s₁ Bd hml0 hP hK
  obtain ⟨rfl, hZ, hh, CH0⟩ := hP
  have hx := Bd.exec
  have hby := Bd.bytes
  have hml : c.maxLocals = 1 := hml0
  have hown : s.vm.findClass "com/example/trestle/trestle/ResourceKindIdPinLaw" = some m.cls := findClass_of_methodNamed Bd.named
  have hnm := (name_of_methodNamed Bd.named Bd.method).1
  have X0 : Stand p l e ({ frames := 0, cells := 2, slots := 60, locals := 0 } : Room) s m #[(.int (4 : Int32))] below meth c s₁ [] 0 0 := Stand.of_body Bd
  have e0 : s₁.heap = h0 := by rw [← hh, Bd.state]; rfl
  have N0 := Fr.nil n0
  have pre0 : ∀ zz, Steps p.tables e below (s₁.setTop (mkF m 0 #[.val (.int (4 : Int32))] [])) zz → Steps p.tables e below (s₁.setTop (entryFrame m #[(.int (4 : Int32))] 1)) zz := fun zz kz_ => castTop (ef_24 m (4 : Int32)) kz_
  have hwS : ∀ a ∈ Bundle.stringAtoms, a.before a0 Z = true := fun d hd => hw d (by simpa using (List.all_eq_true.mp (by decide +kernel : (Bundle.stringAtoms.all fun c => tables_1.contains c) = true)) d hd)
  obtain ⟨a70, T70, h70, k70, v70, kk70, X70, e70, E70, hS70, hk70, hZ70, hown70, Ex70, Fc70, Fv70, Av70, la70, lb70, C70, Lt70, Sn70, st70⟩ := ldcCH (s := s) (vm0 := s.vm) (EL := EL1) X0 hx hZ hown (hw _ (List.mem_of_getElem? (i := 127) rfl)) hwS e0 ((State.WarmedH.refl s).since 0) (Nat.zero_le _) hEL (by decide) CH0 (vs := [(.int (46 : Int32)), (.int (119 : Int32)), (.int (115 : Int32)), (.int (100 : Int32)), (.int (108 : Int32))]) (z := (5 : Int32)) (by decide) (by decide) (by decide) (g := (mkF m 36 #[.val (.int (4 : Int32))] [])) rfl (hb hby d24_36) (n := 20) (by decide) (by decide) (by decide) (by decide)
  have K70 := (Keep.refl h0 []).ext E70
  have Z70 : n0 ≤ h70.size := Nat.le_trans Z0 E70.1
  have CR70 := (CHr.refl CH0).trans C70
  obtain ⟨fs, hr, hrun, hended, -, hWW, hBB, hSS⟩ := Stand.leaveW (s := s) (vm₁ := T70.vm) X70 hS70 (by rw [e70]; exact hk70) (v := some (.ref a70)) (fun h => by rw [Bd.returns] at h; cases h)
  refine ⟨_, _, pre0 _ ?_, hrun, hended, _, _, rfl, ?_, ?_, ⟨_, rfl⟩, hWW, hBB, hSS.mono (by decide) (by decide)⟩
  · show Steps p.tables e below (s₁.setTop (mkF m 0 #[.val (.int (4 : Int32))] [])) _
    refine XS.iloadN X0.here hx rfl (hb hby d24_0) rfl ?_
    refine XS.ifYes X0.here hx rfl (pc0 := 1) (pc' := 7) rfl (hb hby d24_1) rfl ((if0 _ _).trans (feq (by decide : ¬ ((4 : Int32) = (0 : Int32)))).2) (by decide) (by decide) ?_
    refine XS.iloadN X0.here hx rfl (hb hby d24_7) rfl ?_
    refine XS.iconst X0.here hx rfl (hb hby d24_8) ?_
    refine XS.icmpYes X0.here hx rfl (pc0 := 9) (pc' := 15) rfl (hb hby d24_9) rfl (feq (by decide : ¬ ((4 : Int32) = (1 : Int32)))).2 (by decide) (by decide) ?_
    refine XS.iloadN X0.here hx rfl (hb hby d24_15) rfl ?_
    show Steps p.tables e below (s₁.setTop (mkF m 16 #[.val (.int (4 : Int32))] [(.int (4 : Int32))])) _
    refine XS.iconst X0.here hx rfl (hb hby d24_16) ?_
    refine XS.icmpYes X0.here hx rfl (pc0 := 17) (pc' := 23) rfl (hb hby d24_17) rfl (feq (by decide : ¬ ((4 : Int32) = (2 : Int32)))).2 (by decide) (by decide) ?_
    refine XS.iloadN X0.here hx rfl (hb hby d24_23) rfl ?_
    refine XS.iconst X0.here hx rfl (hb hby d24_24) ?_
    refine XS.icmpYes X0.here hx rfl (pc0 := 25) (pc' := 31) rfl (hb hby d24_25) rfl (feq (by decide : ¬ ((4 : Int32) = (3 : Int32)))).2 (by decide) (by decide) ?_
    refine XS.iloadN X0.here hx rfl (hb hby d24_31) rfl ?_
    show Steps p.tables e below (s₁.setTop (mkF m 32 #[.val (.int (4 : Int32))] [(.int (4 : Int32))])) _
    refine XS.iconst X0.here hx rfl (hb hby d24_32) ?_
    refine XS.icmpNo X0.here hx rfl (hb hby d24_33) rfl (teq (rfl : (4 : Int32) = (4 : Int32))).2 ?_
    show Steps p.tables e below (s₁.setTop (mkF m 36 #[.val (.int (4 : Int32))] [])) _
    refine st70 _ ?_
    show Steps p.tables e below (T70.setTop (mkF m 38 #[.val (.int (4 : Int32))] [(.ref a70)])) _
    jvm_step X70.here [X70.here.top, hx, (hb hby d24_38), X70.method', Bd.returns, Value.isRef, FieldType.isReference]
    first | (intro acts; rw [hr _ acts rfl rfl rfl]) | rw [hr _ _ rfl rfl rfl]
    exact Steps.refl _
  · show QV Z 5 sw4 h0 n0 _ T70.heap _
    exact ⟨a70, rfl, N0, by rw [e70]; exact K70, by rw [e70]; exact ⟨Ex70, v70, Fv70, Fc70, afOf Av70 rfl⟩⟩
  · show CHr Z EL1 s.vm s.heap T70.vm T70.heap
    have q := CR70.trans (CHv.at (s := s) (vm0 := T70.vm) X70 hZ70 hEL C70.1)
    rw [hh, e70]
    exact q
def sw5 : Nat → Value := fun j => ([(.int (46 : Int32)), (.int (120 : Int32)), (.int (115 : Int32)), (.int (100 : Int32))] : List Value).getD j (.int 0)
set_option maxRecDepth 65536 in
set_option maxHeartbeats 40000000 in
theorem rmSX5 (l : Launch) (Z : State) (a0 : Array Value) (hw : ∀ d ∈ tables_1, d.before a0 Z = true) (ws : List Jvm.Cond)   (h0 : Heap) (n0 : Nat) (Z0 : n0 ≤ h0.size) (hEL : EW Z a0 EL1)  :
    MetFree l (⟨"com/example/trestle/trestle/ResourceKindIdPinLaw", "suffixOf", "(I)Ljava/lang/String;"⟩ : MethodName) (head1 (Jvm.Cond.code (⟨"com/example/trestle/trestle/ResourceKindIdPinLaw", "suffixOf", "(I)Ljava/lang/String;"⟩ : MethodName) method_4_code 1 (some (.object "java/lang/String")) :: ws) ({ frames := 0, cells := 2, slots := 60, locals := 0 } : Room)) (fun aa_ U_ => aa_ = #[(.int (5 : Int32))] ∧ Z.Warmed39 U_.vm ∧ U_.heap = h0 ∧ CHv Z EL1 U_.vm h0) (fun _ _ _ _ _ => True) (fun _ U_ o_ V_ => ∃ v_ L_, o_ = .returned v_ ∧ QV Z 4 sw5 h0 n0 v_ V_.heap L_ ∧ CHr Z EL1 U_.vm U_.heap V_.vm V_.heap ∧ ReturnedEndW U_ o_ V_ L_ ({ frames := 0, cells := 2, slots := 60, locals := 0 } : Room).cells ({ frames := 0, cells := 2, slots := 60, locals := 0 } : Room).slots) := by
  refine MetFree.of_bodySF (plainFor_of_name pn_24) hisR ?_
  intro p e s m args below meth c s₁ Bd hml0 hP hK
  obtain ⟨rfl, hZ, hh, CH0⟩ := hP
  have hx := Bd.exec
  have hby := Bd.bytes
  have hml : c.maxLocals = 1 := hml0
  have hown : s.vm.findClass "com/example/trestle/trestle/ResourceKindIdPinLaw" = some m.cls := findClass_of_methodNamed Bd.named
  have hnm := (name_of_methodNamed Bd.named Bd.method).1
  have X0 : Stand p l e ({ frames := 0, cells := 2, slots := 60, locals := 0 } : Room) s m #[(.int (5 : Int32))] below meth c s₁ [] 0 0 := Stand.of_body Bd
  have e0 : s₁.heap = h0 := by rw [← hh, Bd.state]; rfl
  have N0 := Fr.nil n0
  have pre0 : ∀ zz, Steps p.tables e below (s₁.setTop (mkF m 0 #[.val (.int (5 : Int32))] [])) zz → Steps p.tables e below (s₁.setTop (entryFrame m #[(.int (5 : Int32))] 1)) zz := fun zz kz_ => castTop (ef_24 m (5 : Int32)) kz_
  have hwS : ∀ a ∈ Bundle.stringAtoms, a.before a0 Z = true := fun d hd => hw d (by simpa using (List.all_eq_true.mp (by decide +kernel : (Bundle.stringAtoms.all fun c => tables_1.contains c) = true)) d hd)
  obtain ⟨a71, T71, h71, k71, v71, kk71, X71, e71, E71, hS71, hk71, hZ71, hown71, Ex71, Fc71, Fv71, Av71, la71, lb71, C71, Lt71, Sn71, st71⟩ := ldcCH (s := s) (vm0 := s.vm) (EL := EL1) X0 hx hZ hown (hw _ (List.mem_of_getElem? (i := 134) rfl)) hwS e0 ((State.WarmedH.refl s).since 0) (Nat.zero_le _) hEL (by decide) CH0 (vs := [(.int (46 : Int32)), (.int (120 : Int32)), (.int (115 : Int32)), (.int (100 : Int32))]) (z := (4 : Int32)) (by decide) (by decide) (by decide) (g := (mkF m 39 #[.val (.int (5 : Int32))] [])) rfl (hb hby d24_39) (n := 16) (by decide) (by decide) (by decide) (by decide)
  have K71 := (Keep.refl h0 []).ext E71
  have Z71 : n0 ≤ h71.size := Nat.le_trans Z0 E71.1
  have CR71 := (CHr.refl CH0).trans C71
  obtain ⟨fs, hr, hrun, hended, -, hWW, hBB, hSS⟩ := Stand.leaveW (s := s) (vm₁ := T71.vm) X71 hS71 (by rw [e71]; exact hk71) (v := some (.ref a71)) (fun h => by rw [Bd.returns] at h; cases h)
  refine ⟨_, _, pre0 _ ?_, hrun, hended, _, _, rfl, ?_, ?_, ⟨_, rfl⟩, hWW, hBB, hSS.mono (by decide) (by decide)⟩
  · show Steps p.tables e below (s₁.setTop (mkF m 0 #[.val (.int (5 : Int32))] [])) _
    refine XS.iloadN X0.here hx rfl (hb hby d24_0) rfl ?_
    refine XS.ifYes X0.here hx rfl (pc0 := 1) (pc' := 7) rfl (hb hby d24_1) rfl ((if0 _ _).trans (feq (by decide : ¬ ((5 : Int32) = (0 : Int32)))).2) (by decide) (by decide) ?_
    refine XS.iloadN X0.here hx rfl (hb hby d24_7) rfl ?_
    refine XS.iconst X0.here hx rfl (hb hby d24_8) ?_
    refine XS.icmpYes X0.here hx rfl (pc0 := 9) (pc' := 15) rfl (hb hby d24_9) rfl (feq (by decide : ¬ ((5 : Int32) = (1 : Int32)))).2 (by decide) (by decide) ?_
    refine XS.iloadN X0.here hx rfl (hb hby d24_15) rfl ?_
    show Steps p.tables e below (s₁.setTop (mkF m 16 #[.val (.int (5 : Int32))] [(.int (5 : Int32))])) _
    refine XS.iconst X0.here hx rfl (hb hby d24_16) ?_
    refine XS.icmpYes X0.here hx rfl (pc0 := 17) (pc' := 23) rfl (hb hby d24_17) rfl (feq (by decide : ¬ ((5 : Int32) = (2 : Int32)))).2 (by decide) (by decide) ?_
    refine XS.iloadN X0.here hx rfl (hb hby d24_23) rfl ?_
    refine XS.iconst X0.here hx rfl (hb hby d24_24) ?_
    refine XS.icmpYes X0.here hx rfl (pc0 := 25) (pc' := 31) rfl (hb hby d24_25) rfl (feq (by decide : ¬ ((5 : Int32) = (3 : Int32)))).2 (by decide) (by decide) ?_
    refine XS.iloadN X0.here hx rfl (hb hby d24_31) rfl ?_
    show Steps p.tables e below (s₁.setTop (mkF m 32 #[.val (.int (5 : Int32))] [(.int (5 : Int32))])) _
    refine XS.iconst X0.here hx rfl (hb hby d24_32) ?_
    refine XS.icmpYes X0.here hx rfl (pc0 := 33) (pc' := 39) rfl (hb hby d24_33) rfl (feq (by decide : ¬ ((5 : Int32) = (4 : Int32)))).2 (by decide) (by decide) ?_
    show Steps p.tables e below (s₁.setTop (mkF m 39 #[.val (.int (5 : Int32))] [])) _
    refine st71 _ ?_
    show Steps p.tables e below (T71.setTop (mkF m 41 #[.val (.int (5 : Int32))] [(.ref a71)])) _
    jvm_step X71.here [X71.here.top, hx, (hb hby d24_41), X71.method', Bd.returns, Value.isRef, FieldType.isReference]
    first | (intro acts; rw [hr _ acts rfl rfl rfl]) | rw [hr _ _ rfl rfl rfl]
    exact Steps.refl _
  · show QV Z 4 sw5 h0 n0 _ T71.heap _
    exact ⟨a71, rfl, N0, by rw [e71]; exact K71, by rw [e71]; exact ⟨Ex71, v71, Fv71, Fc71, afOf Av71 rfl⟩⟩
  · show CHr Z EL1 s.vm s.heap T71.vm T71.heap
    have q := CR71.trans (CHv.at (s := s) (vm0 := T71.vm) X71 hZ71 hEL C71.1)
    rw [hh, e71]
    exact q
def gl (l : List Int32) : Nat → Int32 := fun j => l.getD j 0
theorem updS {F : Nat → Value} {l : List Int32} {i : Nat} {v : Value} (P : ∀ j, j < i → F j = Ca (gl l) j) (hv : v = .int (gl l i)) : ∀ j, j < i + 1 → upd F i v j = Ca (gl l) j := fun j hj => by
  unfold upd
  by_cases q : j = i
  · rw [if_pos q, hv, q]; rfl
  · rw [if_neg q]; exact P j (by omega)
theorem upd0 {F : Nat → Value} {l : List Int32} : ∀ j, j < 0 → F j = Ca (gl l) j := fun j hj => absurd hj (Nat.not_lt_zero _)
theorem glB {l : List Int32} (h : ∀ x ∈ l, isB x) : ∀ j, isB (gl l j) := fun j => by
  unfold gl
  rw [List.getD]
  cases q : l[j]? with
  | none => exact ⟨by decide, by decide⟩
  | some x => exact h x (List.mem_of_getElem? q)
theorem notBig {x : Int32} (h : isB x) : ¬ ((255 : Int32) < x) := by
  rw [Int32.lt_iff_toInt_lt, show (255 : Int32).toInt = 255 from rfl]
  have := h.2; omega
theorem fitsLb (g : Nat → Int32) (n : Nat) : ∀ j, j < n → fits .byte (Lb g j) = true := fun j _ => fits_nar_byte _
def c8 (x : Int32) : Int32 := (x &&& (255 : Int32)).toUInt32.toUInt16.toUInt32.toInt32
theorem c8_B (x : Int32) : isB (c8 x) := by
  unfold c8
  rw [i2c_mask]
  have := m255 x
  exact ⟨by omega, by omega⟩
def kF (x : Int32) : Int32 := (x &&& (2147483647 : Int32)) % (6 : Int32)
theorem kF_is (x : Int32) : kF x = 0 ∨ kF x = 1 ∨ kF x = 2 ∨ kF x = 3 ∨ kF x = 4 ∨ kF x = 5 := by
  have m := c_and x 2147483647 (by decide)
  have r := (c_irem (x &&& (2147483647 : Int32)) 6 6 rfl).1 m.1
  have e : ∀ q : Int32, (kF x).toInt = q.toInt → kF x = q := fun q h => Int32.toInt_inj.mp h
  have r : (kF x).toInt = _ := r
  have b : (kF x).toInt = 0 ∨ (kF x).toInt = 1 ∨ (kF x).toInt = 2 ∨ (kF x).toInt = 3 ∨ (kF x).toInt = 4 ∨ (kF x).toInt = 5 := by omega
  rcases b with b | b | b | b | b | b
  · exact Or.inl (e 0 b)
  · exact Or.inr (Or.inl (e 1 b))
  · exact Or.inr (Or.inr (Or.inl (e 2 b)))
  · exact Or.inr (Or.inr (Or.inr (Or.inl (e 3 b))))
  · exact Or.inr (Or.inr (Or.inr (Or.inr (Or.inl (e 4 b)))))
  · exact Or.inr (Or.inr (Or.inr (Or.inr (Or.inr (e 5 b)))))
theorem d2_0 : decode method_5_code 0 = .ok (.iload_n 0, 1) := by decide +kernel
theorem d2_1 : decode method_5_code 1 = .ok (.ifCond .ne 84, 3) := by decide +kernel
theorem d2_4 : decode method_5_code 4 = .ok (.new 27, 3) := by decide +kernel
theorem d2_7 : decode method_5_code 7 = .ok (.dup, 1) := by decide +kernel
theorem d2_8 : decode method_5_code 8 = .ok (.bipush 13, 2) := by decide +kernel
theorem d2_10 : decode method_5_code 10 = .ok (.newarray .char, 2) := by decide +kernel
theorem d2_12 : decode method_5_code 12 = .ok (.dup, 1) := by decide +kernel
theorem d2_13 : decode method_5_code 13 = .ok (.iconst 0, 1) := by decide +kernel
theorem d2_14 : decode method_5_code 14 = .ok (.iload_n 1, 1) := by decide +kernel
theorem d2_15 : decode method_5_code 15 = .ok (.castore, 1) := by decide +kernel
theorem d2_16 : decode method_5_code 16 = .ok (.dup, 1) := by decide +kernel
theorem d2_17 : decode method_5_code 17 = .ok (.iconst 1, 1) := by decide +kernel
theorem d2_18 : decode method_5_code 18 = .ok (.iload_n 2, 1) := by decide +kernel
theorem d2_19 : decode method_5_code 19 = .ok (.castore, 1) := by decide +kernel
theorem d2_20 : decode method_5_code 20 = .ok (.dup, 1) := by decide +kernel
theorem d2_21 : decode method_5_code 21 = .ok (.iconst 2, 1) := by decide +kernel
theorem d2_22 : decode method_5_code 22 = .ok (.iload_n 3, 1) := by decide +kernel
theorem d2_23 : decode method_5_code 23 = .ok (.castore, 1) := by decide +kernel
theorem d2_24 : decode method_5_code 24 = .ok (.dup, 1) := by decide +kernel
theorem d2_25 : decode method_5_code 25 = .ok (.iconst 3, 1) := by decide +kernel
theorem d2_26 : decode method_5_code 26 = .ok (.bipush 46, 2) := by decide +kernel
theorem d2_28 : decode method_5_code 28 = .ok (.castore, 1) := by decide +kernel
theorem d2_29 : decode method_5_code 29 = .ok (.dup, 1) := by decide +kernel
theorem d2_30 : decode method_5_code 30 = .ok (.iconst 4, 1) := by decide +kernel
theorem d2_31 : decode method_5_code 31 = .ok (.bipush 112, 2) := by decide +kernel
theorem d2_33 : decode method_5_code 33 = .ok (.castore, 1) := by decide +kernel
theorem d2_34 : decode method_5_code 34 = .ok (.dup, 1) := by decide +kernel
theorem d2_35 : decode method_5_code 35 = .ok (.iconst 5, 1) := by decide +kernel
theorem d2_36 : decode method_5_code 36 = .ok (.bipush 114, 2) := by decide +kernel
theorem d2_38 : decode method_5_code 38 = .ok (.castore, 1) := by decide +kernel
theorem d2_39 : decode method_5_code 39 = .ok (.dup, 1) := by decide +kernel
theorem d2_40 : decode method_5_code 40 = .ok (.bipush 6, 2) := by decide +kernel
theorem d2_42 : decode method_5_code 42 = .ok (.bipush 111, 2) := by decide +kernel
theorem d2_44 : decode method_5_code 44 = .ok (.castore, 1) := by decide +kernel
theorem d2_45 : decode method_5_code 45 = .ok (.dup, 1) := by decide +kernel
theorem d2_46 : decode method_5_code 46 = .ok (.bipush 7, 2) := by decide +kernel
theorem d2_48 : decode method_5_code 48 = .ok (.bipush 120, 2) := by decide +kernel
theorem d2_50 : decode method_5_code 50 = .ok (.castore, 1) := by decide +kernel
theorem d2_51 : decode method_5_code 51 = .ok (.dup, 1) := by decide +kernel
theorem d2_52 : decode method_5_code 52 = .ok (.bipush 8, 2) := by decide +kernel
theorem d2_54 : decode method_5_code 54 = .ok (.bipush 121, 2) := by decide +kernel
theorem d2_56 : decode method_5_code 56 = .ok (.castore, 1) := by decide +kernel
theorem d2_57 : decode method_5_code 57 = .ok (.dup, 1) := by decide +kernel
theorem d2_58 : decode method_5_code 58 = .ok (.bipush 9, 2) := by decide +kernel
theorem d2_60 : decode method_5_code 60 = .ok (.bipush 46, 2) := by decide +kernel
theorem d2_62 : decode method_5_code 62 = .ok (.castore, 1) := by decide +kernel
theorem d2_63 : decode method_5_code 63 = .ok (.dup, 1) := by decide +kernel
theorem d2_64 : decode method_5_code 64 = .ok (.bipush 10, 2) := by decide +kernel
theorem d2_66 : decode method_5_code 66 = .ok (.bipush 120, 2) := by decide +kernel
theorem d2_68 : decode method_5_code 68 = .ok (.castore, 1) := by decide +kernel
theorem d2_69 : decode method_5_code 69 = .ok (.dup, 1) := by decide +kernel
theorem d2_70 : decode method_5_code 70 = .ok (.bipush 11, 2) := by decide +kernel
theorem d2_72 : decode method_5_code 72 = .ok (.bipush 109, 2) := by decide +kernel
theorem d2_74 : decode method_5_code 74 = .ok (.castore, 1) := by decide +kernel
theorem d2_75 : decode method_5_code 75 = .ok (.dup, 1) := by decide +kernel
theorem d2_76 : decode method_5_code 76 = .ok (.bipush 12, 2) := by decide +kernel
theorem d2_78 : decode method_5_code 78 = .ok (.bipush 108, 2) := by decide +kernel
theorem d2_80 : decode method_5_code 80 = .ok (.castore, 1) := by decide +kernel
theorem d2_81 : decode method_5_code 81 = .ok (.invokespecial 36, 3) := by decide +kernel
theorem d2_84 : decode method_5_code 84 = .ok (.areturn, 1) := by decide +kernel
theorem d2_85 : decode method_5_code 85 = .ok (.iload_n 0, 1) := by decide +kernel
theorem d2_86 : decode method_5_code 86 = .ok (.iconst 1, 1) := by decide +kernel
theorem d2_87 : decode method_5_code 87 = .ok (.if_icmp .ne 102, 3) := by decide +kernel
theorem d2_90 : decode method_5_code 90 = .ok (.new 27, 3) := by decide +kernel
theorem d2_93 : decode method_5_code 93 = .ok (.dup, 1) := by decide +kernel
theorem d2_94 : decode method_5_code 94 = .ok (.bipush 16, 2) := by decide +kernel
theorem d2_96 : decode method_5_code 96 = .ok (.newarray .char, 2) := by decide +kernel
theorem d2_98 : decode method_5_code 98 = .ok (.dup, 1) := by decide +kernel
theorem d2_99 : decode method_5_code 99 = .ok (.iconst 0, 1) := by decide +kernel
theorem d2_100 : decode method_5_code 100 = .ok (.iload_n 1, 1) := by decide +kernel
theorem d2_101 : decode method_5_code 101 = .ok (.castore, 1) := by decide +kernel
theorem d2_102 : decode method_5_code 102 = .ok (.dup, 1) := by decide +kernel
theorem d2_103 : decode method_5_code 103 = .ok (.iconst 1, 1) := by decide +kernel
theorem d2_104 : decode method_5_code 104 = .ok (.iload_n 2, 1) := by decide +kernel
theorem d2_105 : decode method_5_code 105 = .ok (.castore, 1) := by decide +kernel
theorem d2_106 : decode method_5_code 106 = .ok (.dup, 1) := by decide +kernel
theorem d2_107 : decode method_5_code 107 = .ok (.iconst 2, 1) := by decide +kernel
theorem d2_108 : decode method_5_code 108 = .ok (.iload_n 3, 1) := by decide +kernel
theorem d2_109 : decode method_5_code 109 = .ok (.castore, 1) := by decide +kernel
theorem d2_110 : decode method_5_code 110 = .ok (.dup, 1) := by decide +kernel
theorem d2_111 : decode method_5_code 111 = .ok (.iconst 3, 1) := by decide +kernel
theorem d2_112 : decode method_5_code 112 = .ok (.bipush 46, 2) := by decide +kernel
theorem d2_114 : decode method_5_code 114 = .ok (.castore, 1) := by decide +kernel
theorem d2_115 : decode method_5_code 115 = .ok (.dup, 1) := by decide +kernel
theorem d2_116 : decode method_5_code 116 = .ok (.iconst 4, 1) := by decide +kernel
theorem d2_117 : decode method_5_code 117 = .ok (.bipush 98, 2) := by decide +kernel
theorem d2_119 : decode method_5_code 119 = .ok (.castore, 1) := by decide +kernel
theorem d2_120 : decode method_5_code 120 = .ok (.dup, 1) := by decide +kernel
theorem d2_121 : decode method_5_code 121 = .ok (.iconst 5, 1) := by decide +kernel
theorem d2_122 : decode method_5_code 122 = .ok (.bipush 117, 2) := by decide +kernel
theorem d2_124 : decode method_5_code 124 = .ok (.castore, 1) := by decide +kernel
theorem d2_125 : decode method_5_code 125 = .ok (.dup, 1) := by decide +kernel
theorem d2_126 : decode method_5_code 126 = .ok (.bipush 6, 2) := by decide +kernel
theorem d2_128 : decode method_5_code 128 = .ok (.bipush 115, 2) := by decide +kernel
theorem d2_130 : decode method_5_code 130 = .ok (.castore, 1) := by decide +kernel
theorem d2_131 : decode method_5_code 131 = .ok (.dup, 1) := by decide +kernel
theorem d2_132 : decode method_5_code 132 = .ok (.bipush 7, 2) := by decide +kernel
theorem d2_134 : decode method_5_code 134 = .ok (.bipush 105, 2) := by decide +kernel
theorem d2_136 : decode method_5_code 136 = .ok (.castore, 1) := by decide +kernel
theorem d2_137 : decode method_5_code 137 = .ok (.dup, 1) := by decide +kernel
theorem d2_138 : decode method_5_code 138 = .ok (.bipush 8, 2) := by decide +kernel
theorem d2_140 : decode method_5_code 140 = .ok (.bipush 110, 2) := by decide +kernel
theorem d2_142 : decode method_5_code 142 = .ok (.castore, 1) := by decide +kernel
theorem d2_143 : decode method_5_code 143 = .ok (.dup, 1) := by decide +kernel
theorem d2_144 : decode method_5_code 144 = .ok (.bipush 9, 2) := by decide +kernel
theorem d2_146 : decode method_5_code 146 = .ok (.bipush 101, 2) := by decide +kernel
theorem d2_148 : decode method_5_code 148 = .ok (.castore, 1) := by decide +kernel
theorem d2_149 : decode method_5_code 149 = .ok (.dup, 1) := by decide +kernel
theorem d2_150 : decode method_5_code 150 = .ok (.bipush 10, 2) := by decide +kernel
theorem d2_152 : decode method_5_code 152 = .ok (.bipush 115, 2) := by decide +kernel
theorem d2_154 : decode method_5_code 154 = .ok (.castore, 1) := by decide +kernel
theorem d2_155 : decode method_5_code 155 = .ok (.dup, 1) := by decide +kernel
theorem d2_156 : decode method_5_code 156 = .ok (.bipush 11, 2) := by decide +kernel
theorem d2_158 : decode method_5_code 158 = .ok (.bipush 115, 2) := by decide +kernel
theorem d2_160 : decode method_5_code 160 = .ok (.castore, 1) := by decide +kernel
theorem d2_161 : decode method_5_code 161 = .ok (.dup, 1) := by decide +kernel
theorem d2_162 : decode method_5_code 162 = .ok (.bipush 12, 2) := by decide +kernel
theorem d2_164 : decode method_5_code 164 = .ok (.bipush 46, 2) := by decide +kernel
theorem d2_166 : decode method_5_code 166 = .ok (.castore, 1) := by decide +kernel
theorem d2_167 : decode method_5_code 167 = .ok (.dup, 1) := by decide +kernel
theorem d2_168 : decode method_5_code 168 = .ok (.bipush 13, 2) := by decide +kernel
theorem d2_170 : decode method_5_code 170 = .ok (.bipush 120, 2) := by decide +kernel
theorem d2_172 : decode method_5_code 172 = .ok (.castore, 1) := by decide +kernel
theorem d2_173 : decode method_5_code 173 = .ok (.dup, 1) := by decide +kernel
theorem d2_174 : decode method_5_code 174 = .ok (.bipush 14, 2) := by decide +kernel
theorem d2_176 : decode method_5_code 176 = .ok (.bipush 109, 2) := by decide +kernel
theorem d2_178 : decode method_5_code 178 = .ok (.castore, 1) := by decide +kernel
theorem d2_179 : decode method_5_code 179 = .ok (.dup, 1) := by decide +kernel
theorem d2_180 : decode method_5_code 180 = .ok (.bipush 15, 2) := by decide +kernel
theorem d2_182 : decode method_5_code 182 = .ok (.bipush 108, 2) := by decide +kernel
theorem d2_184 : decode method_5_code 184 = .ok (.castore, 1) := by decide +kernel
theorem d2_185 : decode method_5_code 185 = .ok (.invokespecial 36, 3) := by decide +kernel
theorem d2_188 : decode method_5_code 188 = .ok (.areturn, 1) := by decide +kernel
theorem d2_189 : decode method_5_code 189 = .ok (.iload_n 0, 1) := by decide +kernel
theorem d2_190 : decode method_5_code 190 = .ok (.iconst 2, 1) := by decide +kernel
theorem d2_191 : decode method_5_code 191 = .ok (.if_icmp .ne 42, 3) := by decide +kernel
theorem d2_194 : decode method_5_code 194 = .ok (.new 27, 3) := by decide +kernel
theorem d2_197 : decode method_5_code 197 = .ok (.dup, 1) := by decide +kernel
theorem d2_198 : decode method_5_code 198 = .ok (.bipush 6, 2) := by decide +kernel
theorem d2_200 : decode method_5_code 200 = .ok (.newarray .char, 2) := by decide +kernel
theorem d2_202 : decode method_5_code 202 = .ok (.dup, 1) := by decide +kernel
theorem d2_203 : decode method_5_code 203 = .ok (.iconst 0, 1) := by decide +kernel
theorem d2_204 : decode method_5_code 204 = .ok (.iload_n 1, 1) := by decide +kernel
theorem d2_205 : decode method_5_code 205 = .ok (.castore, 1) := by decide +kernel
theorem d2_206 : decode method_5_code 206 = .ok (.dup, 1) := by decide +kernel
theorem d2_207 : decode method_5_code 207 = .ok (.iconst 1, 1) := by decide +kernel
theorem d2_208 : decode method_5_code 208 = .ok (.iload_n 2, 1) := by decide +kernel
theorem d2_209 : decode method_5_code 209 = .ok (.castore, 1) := by decide +kernel
theorem d2_210 : decode method_5_code 210 = .ok (.dup, 1) := by decide +kernel
theorem d2_211 : decode method_5_code 211 = .ok (.iconst 2, 1) := by decide +kernel
theorem d2_212 : decode method_5_code 212 = .ok (.iload_n 3, 1) := by decide +kernel
theorem d2_213 : decode method_5_code 213 = .ok (.castore, 1) := by decide +kernel
theorem d2_214 : decode method_5_code 214 = .ok (.dup, 1) := by decide +kernel
theorem d2_215 : decode method_5_code 215 = .ok (.iconst 3, 1) := by decide +kernel
theorem d2_216 : decode method_5_code 216 = .ok (.bipush 46, 2) := by decide +kernel
theorem d2_218 : decode method_5_code 218 = .ok (.castore, 1) := by decide +kernel
theorem d2_219 : decode method_5_code 219 = .ok (.dup, 1) := by decide +kernel
theorem d2_220 : decode method_5_code 220 = .ok (.iconst 4, 1) := by decide +kernel
theorem d2_221 : decode method_5_code 221 = .ok (.bipush 120, 2) := by decide +kernel
theorem d2_223 : decode method_5_code 223 = .ok (.castore, 1) := by decide +kernel
theorem d2_224 : decode method_5_code 224 = .ok (.dup, 1) := by decide +kernel
theorem d2_225 : decode method_5_code 225 = .ok (.iconst 5, 1) := by decide +kernel
theorem d2_226 : decode method_5_code 226 = .ok (.bipush 113, 2) := by decide +kernel
theorem d2_228 : decode method_5_code 228 = .ok (.castore, 1) := by decide +kernel
theorem d2_229 : decode method_5_code 229 = .ok (.invokespecial 36, 3) := by decide +kernel
theorem d2_232 : decode method_5_code 232 = .ok (.areturn, 1) := by decide +kernel
theorem d2_233 : decode method_5_code 233 = .ok (.iload_n 0, 1) := by decide +kernel
theorem d2_234 : decode method_5_code 234 = .ok (.iconst 3, 1) := by decide +kernel
theorem d2_235 : decode method_5_code 235 = .ok (.if_icmp .ne 48, 3) := by decide +kernel
theorem d2_238 : decode method_5_code 238 = .ok (.new 27, 3) := by decide +kernel
theorem d2_241 : decode method_5_code 241 = .ok (.dup, 1) := by decide +kernel
theorem d2_242 : decode method_5_code 242 = .ok (.bipush 7, 2) := by decide +kernel
theorem d2_244 : decode method_5_code 244 = .ok (.newarray .char, 2) := by decide +kernel
theorem d2_246 : decode method_5_code 246 = .ok (.dup, 1) := by decide +kernel
theorem d2_247 : decode method_5_code 247 = .ok (.iconst 0, 1) := by decide +kernel
theorem d2_248 : decode method_5_code 248 = .ok (.iload_n 1, 1) := by decide +kernel
theorem d2_249 : decode method_5_code 249 = .ok (.castore, 1) := by decide +kernel
theorem d2_250 : decode method_5_code 250 = .ok (.dup, 1) := by decide +kernel
theorem d2_251 : decode method_5_code 251 = .ok (.iconst 1, 1) := by decide +kernel
theorem d2_252 : decode method_5_code 252 = .ok (.iload_n 2, 1) := by decide +kernel
theorem d2_253 : decode method_5_code 253 = .ok (.castore, 1) := by decide +kernel
theorem d2_254 : decode method_5_code 254 = .ok (.dup, 1) := by decide +kernel
theorem d2_255 : decode method_5_code 255 = .ok (.iconst 2, 1) := by decide +kernel
theorem d2_256 : decode method_5_code 256 = .ok (.iload_n 3, 1) := by decide +kernel
theorem d2_257 : decode method_5_code 257 = .ok (.castore, 1) := by decide +kernel
theorem d2_258 : decode method_5_code 258 = .ok (.dup, 1) := by decide +kernel
theorem d2_259 : decode method_5_code 259 = .ok (.iconst 3, 1) := by decide +kernel
theorem d2_260 : decode method_5_code 260 = .ok (.bipush 46, 2) := by decide +kernel
theorem d2_262 : decode method_5_code 262 = .ok (.castore, 1) := by decide +kernel
theorem d2_263 : decode method_5_code 263 = .ok (.dup, 1) := by decide +kernel
theorem d2_264 : decode method_5_code 264 = .ok (.iconst 4, 1) := by decide +kernel
theorem d2_265 : decode method_5_code 265 = .ok (.bipush 120, 2) := by decide +kernel
theorem d2_267 : decode method_5_code 267 = .ok (.castore, 1) := by decide +kernel
theorem d2_268 : decode method_5_code 268 = .ok (.dup, 1) := by decide +kernel
theorem d2_269 : decode method_5_code 269 = .ok (.iconst 5, 1) := by decide +kernel
theorem d2_270 : decode method_5_code 270 = .ok (.bipush 115, 2) := by decide +kernel
theorem d2_272 : decode method_5_code 272 = .ok (.castore, 1) := by decide +kernel
theorem d2_273 : decode method_5_code 273 = .ok (.dup, 1) := by decide +kernel
theorem d2_274 : decode method_5_code 274 = .ok (.bipush 6, 2) := by decide +kernel
theorem d2_276 : decode method_5_code 276 = .ok (.bipush 108, 2) := by decide +kernel
theorem d2_278 : decode method_5_code 278 = .ok (.castore, 1) := by decide +kernel
theorem d2_279 : decode method_5_code 279 = .ok (.invokespecial 36, 3) := by decide +kernel
theorem d2_282 : decode method_5_code 282 = .ok (.areturn, 1) := by decide +kernel
theorem d2_283 : decode method_5_code 283 = .ok (.iload_n 0, 1) := by decide +kernel
theorem d2_284 : decode method_5_code 284 = .ok (.iconst 4, 1) := by decide +kernel
theorem d2_285 : decode method_5_code 285 = .ok (.if_icmp .ne 54, 3) := by decide +kernel
theorem d2_288 : decode method_5_code 288 = .ok (.new 27, 3) := by decide +kernel
theorem d2_291 : decode method_5_code 291 = .ok (.dup, 1) := by decide +kernel
theorem d2_292 : decode method_5_code 292 = .ok (.bipush 8, 2) := by decide +kernel
theorem d2_294 : decode method_5_code 294 = .ok (.newarray .char, 2) := by decide +kernel
theorem d2_296 : decode method_5_code 296 = .ok (.dup, 1) := by decide +kernel
theorem d2_297 : decode method_5_code 297 = .ok (.iconst 0, 1) := by decide +kernel
theorem d2_298 : decode method_5_code 298 = .ok (.iload_n 1, 1) := by decide +kernel
theorem d2_299 : decode method_5_code 299 = .ok (.castore, 1) := by decide +kernel
theorem d2_300 : decode method_5_code 300 = .ok (.dup, 1) := by decide +kernel
theorem d2_301 : decode method_5_code 301 = .ok (.iconst 1, 1) := by decide +kernel
theorem d2_302 : decode method_5_code 302 = .ok (.iload_n 2, 1) := by decide +kernel
theorem d2_303 : decode method_5_code 303 = .ok (.castore, 1) := by decide +kernel
theorem d2_304 : decode method_5_code 304 = .ok (.dup, 1) := by decide +kernel
theorem d2_305 : decode method_5_code 305 = .ok (.iconst 2, 1) := by decide +kernel
theorem d2_306 : decode method_5_code 306 = .ok (.iload_n 3, 1) := by decide +kernel
theorem d2_307 : decode method_5_code 307 = .ok (.castore, 1) := by decide +kernel
theorem d2_308 : decode method_5_code 308 = .ok (.dup, 1) := by decide +kernel
theorem d2_309 : decode method_5_code 309 = .ok (.iconst 3, 1) := by decide +kernel
theorem d2_310 : decode method_5_code 310 = .ok (.bipush 46, 2) := by decide +kernel
theorem d2_312 : decode method_5_code 312 = .ok (.castore, 1) := by decide +kernel
theorem d2_313 : decode method_5_code 313 = .ok (.dup, 1) := by decide +kernel
theorem d2_314 : decode method_5_code 314 = .ok (.iconst 4, 1) := by decide +kernel
theorem d2_315 : decode method_5_code 315 = .ok (.bipush 119, 2) := by decide +kernel
theorem d2_317 : decode method_5_code 317 = .ok (.castore, 1) := by decide +kernel
theorem d2_318 : decode method_5_code 318 = .ok (.dup, 1) := by decide +kernel
theorem d2_319 : decode method_5_code 319 = .ok (.iconst 5, 1) := by decide +kernel
theorem d2_320 : decode method_5_code 320 = .ok (.bipush 115, 2) := by decide +kernel
theorem d2_322 : decode method_5_code 322 = .ok (.castore, 1) := by decide +kernel
theorem d2_323 : decode method_5_code 323 = .ok (.dup, 1) := by decide +kernel
theorem d2_324 : decode method_5_code 324 = .ok (.bipush 6, 2) := by decide +kernel
theorem d2_326 : decode method_5_code 326 = .ok (.bipush 100, 2) := by decide +kernel
theorem d2_328 : decode method_5_code 328 = .ok (.castore, 1) := by decide +kernel
theorem d2_329 : decode method_5_code 329 = .ok (.dup, 1) := by decide +kernel
theorem d2_330 : decode method_5_code 330 = .ok (.bipush 7, 2) := by decide +kernel
theorem d2_332 : decode method_5_code 332 = .ok (.bipush 108, 2) := by decide +kernel
theorem d2_334 : decode method_5_code 334 = .ok (.castore, 1) := by decide +kernel
theorem d2_335 : decode method_5_code 335 = .ok (.invokespecial 36, 3) := by decide +kernel
theorem d2_338 : decode method_5_code 338 = .ok (.areturn, 1) := by decide +kernel
theorem d2_339 : decode method_5_code 339 = .ok (.new 27, 3) := by decide +kernel
theorem d2_342 : decode method_5_code 342 = .ok (.dup, 1) := by decide +kernel
theorem d2_343 : decode method_5_code 343 = .ok (.bipush 7, 2) := by decide +kernel
theorem d2_345 : decode method_5_code 345 = .ok (.newarray .char, 2) := by decide +kernel
theorem d2_347 : decode method_5_code 347 = .ok (.dup, 1) := by decide +kernel
theorem d2_348 : decode method_5_code 348 = .ok (.iconst 0, 1) := by decide +kernel
theorem d2_349 : decode method_5_code 349 = .ok (.iload_n 1, 1) := by decide +kernel
theorem d2_350 : decode method_5_code 350 = .ok (.castore, 1) := by decide +kernel
theorem d2_351 : decode method_5_code 351 = .ok (.dup, 1) := by decide +kernel
theorem d2_352 : decode method_5_code 352 = .ok (.iconst 1, 1) := by decide +kernel
theorem d2_353 : decode method_5_code 353 = .ok (.iload_n 2, 1) := by decide +kernel
theorem d2_354 : decode method_5_code 354 = .ok (.castore, 1) := by decide +kernel
theorem d2_355 : decode method_5_code 355 = .ok (.dup, 1) := by decide +kernel
theorem d2_356 : decode method_5_code 356 = .ok (.iconst 2, 1) := by decide +kernel
theorem d2_357 : decode method_5_code 357 = .ok (.iload_n 3, 1) := by decide +kernel
theorem d2_358 : decode method_5_code 358 = .ok (.castore, 1) := by decide +kernel
theorem d2_359 : decode method_5_code 359 = .ok (.dup, 1) := by decide +kernel
theorem d2_360 : decode method_5_code 360 = .ok (.iconst 3, 1) := by decide +kernel
theorem d2_361 : decode method_5_code 361 = .ok (.bipush 46, 2) := by decide +kernel
theorem d2_363 : decode method_5_code 363 = .ok (.castore, 1) := by decide +kernel
theorem d2_364 : decode method_5_code 364 = .ok (.dup, 1) := by decide +kernel
theorem d2_365 : decode method_5_code 365 = .ok (.iconst 4, 1) := by decide +kernel
theorem d2_366 : decode method_5_code 366 = .ok (.bipush 120, 2) := by decide +kernel
theorem d2_368 : decode method_5_code 368 = .ok (.castore, 1) := by decide +kernel
theorem d2_369 : decode method_5_code 369 = .ok (.dup, 1) := by decide +kernel
theorem d2_370 : decode method_5_code 370 = .ok (.iconst 5, 1) := by decide +kernel
theorem d2_371 : decode method_5_code 371 = .ok (.bipush 115, 2) := by decide +kernel
theorem d2_373 : decode method_5_code 373 = .ok (.castore, 1) := by decide +kernel
theorem d2_374 : decode method_5_code 374 = .ok (.dup, 1) := by decide +kernel
theorem d2_375 : decode method_5_code 375 = .ok (.bipush 6, 2) := by decide +kernel
theorem d2_377 : decode method_5_code 377 = .ok (.bipush 100, 2) := by decide +kernel
theorem d2_379 : decode method_5_code 379 = .ok (.castore, 1) := by decide +kernel
theorem d2_380 : decode method_5_code 380 = .ok (.invokespecial 36, 3) := by decide +kernel
theorem d2_383 : decode method_5_code 383 = .ok (.areturn, 1) := by decide +kernel
theorem pn_2 : plainName "com/example/trestle/trestle/ResourceKindIdPinLaw" = true := by first | (simp [plainName, overriddenIn]; done) | decide +kernel
theorem ef_2 (m : MethodId) (x0 : Int32) (x1 : Int32) (x2 : Int32) (x3 : Int32) : entryFrame m #[(.int x0), (.int x1), (.int x2), (.int x3)] 4 = mkF m 0 #[.val (.int x0), .val (.int x1), .val (.int x2), .val (.int x3)] [] := by first | (simp [entryFrame, mkF, argsToLocals, Value.category]; done) | rfl
set_option maxRecDepth 65536 in
set_option maxHeartbeats 40000000 in
theorem rmW0 (l : Launch) (Z : State) (a0 : Array Value) (hw : ∀ d ∈ tables_1, d.before a0 Z = true) (ws : List Jvm.Cond) (x y z : Int32)  (h0 : Heap) (n0 : Nat) (Z0 : n0 ≤ h0.size) (O : Old Z n0 h0) (SK : StrSta Z) (hx8 : isB x) (hy8 : isB y) (hz8 : isB z)  :
    MetFree l (⟨"com/example/trestle/trestle/ResourceKindIdPinLaw", "withPrefix", "(ICCC)Ljava/lang/String;"⟩ : MethodName) (head1 (Jvm.Cond.code (⟨"com/example/trestle/trestle/ResourceKindIdPinLaw", "withPrefix", "(ICCC)Ljava/lang/String;"⟩ : MethodName) method_5_code 4 (some (.object "java/lang/String")) :: ws) ({ frames := 6, cells := 4, slots := 100, locals := 150 } : Room)) (fun aa_ U_ => aa_ = #[(.int (0 : Int32)), (.int x), (.int y), (.int z)] ∧ Z.Warmed39 U_.vm ∧ U_.heap = h0) (fun _ _ _ _ _ => True) (fun _ U_ o_ V_ => ∃ v_ L_, o_ = .returned v_ ∧ QV Z 13 (Lb (gl [x, y, z, (46 : Int32), (112 : Int32), (114 : Int32), (111 : Int32), (120 : Int32), (121 : Int32), (46 : Int32), (120 : Int32), (109 : Int32), (108 : Int32)])) h0 n0 v_ V_.heap L_ ∧ FrameEnd U_ o_ V_ L_ ({ frames := 6, cells := 4, slots := 100, locals := 150 } : Room).cells ({ frames := 6, cells := 4, slots := 100, locals := 150 } : Room).slots) := by
  refine MetFree.of_bodySF (plainFor_of_name pn_2) hisR ?_
  intro p e s m args below meth c s₁ Bd hml0 hP hK
  obtain ⟨rfl, hZ, hh⟩ := hP
  have hx := Bd.exec
  have hby := Bd.bytes
  have hml : c.maxLocals = 4 := hml0
  have hown : s.vm.findClass "com/example/trestle/trestle/ResourceKindIdPinLaw" = some m.cls := findClass_of_methodNamed Bd.named
  have hnm := (name_of_methodNamed Bd.named Bd.method).1
  have X0 : Stand p l e ({ frames := 6, cells := 4, slots := 100, locals := 150 } : Room) s m #[(.int (0 : Int32)), (.int x), (.int y), (.int z)] below meth c s₁ [] 0 0 := Stand.of_body Bd
  have e0 : s₁.heap = h0 := by rw [← hh, Bd.state]; rfl
  have N0 := Fr.nil n0
  have pre0 : ∀ zz, Steps p.tables e below (s₁.setTop (mkF m 0 #[.val (.int (0 : Int32)), .val (.int x), .val (.int y), .val (.int z)] [])) zz → Steps p.tables e below (s₁.setTop (entryFrame m #[(.int (0 : Int32)), (.int x), (.int y), (.int z)] 4)) zz := fun zz kz_ => castTop (ef_2 m (0 : Int32) x y z) kz_
  obtain ⟨T72, h72, X72, e72, E72, A72, D72, -, st72⟩ := newO X0 hx hZ hown (hw _ (List.mem_of_getElem? (i := 11) rfl)) (hw _ (List.mem_of_getElem? (i := 12) rfl)) (hw _ (List.mem_of_getElem? (i := 13) rfl)) e0 (g := (mkF m 4 #[.val (.int (0 : Int32)), .val (.int x), .val (.int y), .val (.int z)] [])) rfl (hb hby d2_4) (by decide) (by decide)
  obtain ⟨b72, g72⟩ : ∃ z, z = h0.size := ⟨_, rfl⟩
  rw [← g72] at A72 D72 st72
  have E_b72 := A72
  have g_b72 : n0 ≤ b72 := Nat.le_trans Z0 (Nat.le_of_eq g72.symm)
  have sz_b72 : h0.size ≤ b72 := Nat.le_trans (Keep.refl h0 []).1 (Nat.le_of_eq g72.symm)
  have K72 := (Keep.refl h0 []).ext E72
  have Z72 : n0 ≤ h72.size := Nat.le_trans Z0 E72.1
  have F_coder_b72 : Fld Z h72 b72 "java/lang/String" "coder" "B" (.int (0 : Int32)) := D72 (Or.inr (hw _ (List.mem_of_getElem? (i := 38) rfl))) (ty := .byte) (by decide)
  have F_value_b72 : Fld Z h72 b72 "java/lang/String" "value" "[B" .null := D72 (Or.inr (hw _ (List.mem_of_getElem? (i := 40) rfl))) (ty := (.array .byte)) (by decide)
  have O72 := O.ext E72
  obtain ⟨T73, h73, X73, e73, E73, A73, st73⟩ := nwA X72 hx hZ (hw _ (List.mem_of_getElem? (i := 14) rfl)) e72 (g := (mkF m 10 #[.val (.int (0 : Int32)), .val (.int x), .val (.int y), .val (.int z)] [(.int (13 : Int32)), (.ref b72), (.ref b72)])) rfl (hb hby d2_10) (n := 13) rfl (cap := 13) (by decide) (by decide) (by decide) (by decide)
  obtain ⟨b73, q73⟩ : ∃ z, z = h72.size := ⟨_, rfl⟩
  rw [← q73] at A73 st73
  have V73 : AF Z h73 b73 .char 13 (fun _ => (.int (0 : Int32))) := A73
  have g_b73 : n0 ≤ b73 := Nat.le_trans Z72 (Nat.le_of_eq q73.symm)
  have sz_b73 : h0.size ≤ b73 := Nat.le_trans K72.1 (Nat.le_of_eq q73.symm)
  have K73 := K72.ext E73
  have Z73 : n0 ≤ h73.size := Nat.le_trans Z72 E73.1
  have ne_b72_b73 : b72 ≠ b73 := Nat.ne_of_lt (Nat.lt_of_lt_of_le E_b72.lt (Nat.le_of_eq q73.symm))
  have E_b72_e73 := E_b72.ext E73
  have F_coder_b72_e73 := F_coder_b72.ext E73
  have F_value_b72_e73 := F_value_b72.ext E73
  have O73 := O72.ext E73
  obtain ⟨T74, h74, X74, e74, W74, st74⟩ := stCh X73 hx hZ e73 V73 (i := 0) (by decide) (by decide) (x := x) (g := (mkF m 15 #[.val (.int (0 : Int32)), .val (.int x), .val (.int y), .val (.int z)] [(.int x), (.int (0 : Int32)), (.ref b73), (.ref b73), (.ref b72), (.ref b72)])) rfl rfl (hb hby d2_15)
  have A74 := V73.wr W74
  have E_b72_e74 := E_b72_e73.wr W74
  have F_coder_b72_e74 := F_coder_b72_e73.other W74 (Or.inl ne_b72_b73)
  have F_value_b72_e74 := F_value_b72_e73.other W74 (Or.inl ne_b72_b73)
  have N74 := Fr.snoc X74 N0 g_b73
  have K74 := K73.wr W74 (Or.inr sz_b73)
  have Z74 : n0 ≤ h74.size := Nat.le_trans Z73 (Keep.of_wr W74).1
  have O74 := O73.wr W74 g_b73
  obtain ⟨T75, h75, X75, e75, W75, st75⟩ := stCh X74 hx hZ e74 A74 (i := 1) (by decide) (by decide) (x := y) (g := (mkF m 19 #[.val (.int (0 : Int32)), .val (.int x), .val (.int y), .val (.int z)] [(.int y), (.int (1 : Int32)), (.ref b73), (.ref b73), (.ref b72), (.ref b72)])) rfl rfl (hb hby d2_19)
  have A75 := A74.wr W75
  have E_b72_e75 := E_b72_e74.wr W75
  have F_coder_b72_e75 := F_coder_b72_e74.other W75 (Or.inl ne_b72_b73)
  have F_value_b72_e75 := F_value_b72_e74.other W75 (Or.inl ne_b72_b73)
  have N75 := Fr.snoc X75 N74 g_b73
  have K75 := K74.wr W75 (Or.inr sz_b73)
  have Z75 : n0 ≤ h75.size := Nat.le_trans Z74 (Keep.of_wr W75).1
  have O75 := O74.wr W75 g_b73
  obtain ⟨T76, h76, X76, e76, W76, st76⟩ := stCh X75 hx hZ e75 A75 (i := 2) (by decide) (by decide) (x := z) (g := (mkF m 23 #[.val (.int (0 : Int32)), .val (.int x), .val (.int y), .val (.int z)] [(.int z), (.int (2 : Int32)), (.ref b73), (.ref b73), (.ref b72), (.ref b72)])) rfl rfl (hb hby d2_23)
  have A76 := A75.wr W76
  have E_b72_e76 := E_b72_e75.wr W76
  have F_coder_b72_e76 := F_coder_b72_e75.other W76 (Or.inl ne_b72_b73)
  have F_value_b72_e76 := F_value_b72_e75.other W76 (Or.inl ne_b72_b73)
  have N76 := Fr.snoc X76 N75 g_b73
  have K76 := K75.wr W76 (Or.inr sz_b73)
  have Z76 : n0 ≤ h76.size := Nat.le_trans Z75 (Keep.of_wr W76).1
  have O76 := O75.wr W76 g_b73
  obtain ⟨T77, h77, X77, e77, W77, st77⟩ := stCh X76 hx hZ e76 A76 (i := 3) (by decide) (by decide) (x := (46 : Int32)) (g := (mkF m 28 #[.val (.int (0 : Int32)), .val (.int x), .val (.int y), .val (.int z)] [(.int (46 : Int32)), (.int (3 : Int32)), (.ref b73), (.ref b73), (.ref b72), (.ref b72)])) rfl rfl (hb hby d2_28)
  have A77 := A76.wr W77
  have E_b72_e77 := E_b72_e76.wr W77
  have F_coder_b72_e77 := F_coder_b72_e76.other W77 (Or.inl ne_b72_b73)
  have F_value_b72_e77 := F_value_b72_e76.other W77 (Or.inl ne_b72_b73)
  have N77 := Fr.snoc X77 N76 g_b73
  have K77 := K76.wr W77 (Or.inr sz_b73)
  have Z77 : n0 ≤ h77.size := Nat.le_trans Z76 (Keep.of_wr W77).1
  have O77 := O76.wr W77 g_b73
  obtain ⟨T78, h78, X78, e78, W78, st78⟩ := stCh X77 hx hZ e77 A77 (i := 4) (by decide) (by decide) (x := (112 : Int32)) (g := (mkF m 33 #[.val (.int (0 : Int32)), .val (.int x), .val (.int y), .val (.int z)] [(.int (112 : Int32)), (.int (4 : Int32)), (.ref b73), (.ref b73), (.ref b72), (.ref b72)])) rfl rfl (hb hby d2_33)
  have A78 := A77.wr W78
  have E_b72_e78 := E_b72_e77.wr W78
  have F_coder_b72_e78 := F_coder_b72_e77.other W78 (Or.inl ne_b72_b73)
  have F_value_b72_e78 := F_value_b72_e77.other W78 (Or.inl ne_b72_b73)
  have N78 := Fr.snoc X78 N77 g_b73
  have K78 := K77.wr W78 (Or.inr sz_b73)
  have Z78 : n0 ≤ h78.size := Nat.le_trans Z77 (Keep.of_wr W78).1
  have O78 := O77.wr W78 g_b73
  obtain ⟨T79, h79, X79, e79, W79, st79⟩ := stCh X78 hx hZ e78 A78 (i := 5) (by decide) (by decide) (x := (114 : Int32)) (g := (mkF m 38 #[.val (.int (0 : Int32)), .val (.int x), .val (.int y), .val (.int z)] [(.int (114 : Int32)), (.int (5 : Int32)), (.ref b73), (.ref b73), (.ref b72), (.ref b72)])) rfl rfl (hb hby d2_38)
  have A79 := A78.wr W79
  have E_b72_e79 := E_b72_e78.wr W79
  have F_coder_b72_e79 := F_coder_b72_e78.other W79 (Or.inl ne_b72_b73)
  have F_value_b72_e79 := F_value_b72_e78.other W79 (Or.inl ne_b72_b73)
  have N79 := Fr.snoc X79 N78 g_b73
  have K79 := K78.wr W79 (Or.inr sz_b73)
  have Z79 : n0 ≤ h79.size := Nat.le_trans Z78 (Keep.of_wr W79).1
  have O79 := O78.wr W79 g_b73
  obtain ⟨T80, h80, X80, e80, W80, st80⟩ := stCh X79 hx hZ e79 A79 (i := 6) (by decide) (by decide) (x := (111 : Int32)) (g := (mkF m 44 #[.val (.int (0 : Int32)), .val (.int x), .val (.int y), .val (.int z)] [(.int (111 : Int32)), (.int (6 : Int32)), (.ref b73), (.ref b73), (.ref b72), (.ref b72)])) rfl rfl (hb hby d2_44)
  have A80 := A79.wr W80
  have E_b72_e80 := E_b72_e79.wr W80
  have F_coder_b72_e80 := F_coder_b72_e79.other W80 (Or.inl ne_b72_b73)
  have F_value_b72_e80 := F_value_b72_e79.other W80 (Or.inl ne_b72_b73)
  have N80 := Fr.snoc X80 N79 g_b73
  have K80 := K79.wr W80 (Or.inr sz_b73)
  have Z80 : n0 ≤ h80.size := Nat.le_trans Z79 (Keep.of_wr W80).1
  have O80 := O79.wr W80 g_b73
  obtain ⟨T81, h81, X81, e81, W81, st81⟩ := stCh X80 hx hZ e80 A80 (i := 7) (by decide) (by decide) (x := (120 : Int32)) (g := (mkF m 50 #[.val (.int (0 : Int32)), .val (.int x), .val (.int y), .val (.int z)] [(.int (120 : Int32)), (.int (7 : Int32)), (.ref b73), (.ref b73), (.ref b72), (.ref b72)])) rfl rfl (hb hby d2_50)
  have A81 := A80.wr W81
  have E_b72_e81 := E_b72_e80.wr W81
  have F_coder_b72_e81 := F_coder_b72_e80.other W81 (Or.inl ne_b72_b73)
  have F_value_b72_e81 := F_value_b72_e80.other W81 (Or.inl ne_b72_b73)
  have N81 := Fr.snoc X81 N80 g_b73
  have K81 := K80.wr W81 (Or.inr sz_b73)
  have Z81 : n0 ≤ h81.size := Nat.le_trans Z80 (Keep.of_wr W81).1
  have O81 := O80.wr W81 g_b73
  obtain ⟨T82, h82, X82, e82, W82, st82⟩ := stCh X81 hx hZ e81 A81 (i := 8) (by decide) (by decide) (x := (121 : Int32)) (g := (mkF m 56 #[.val (.int (0 : Int32)), .val (.int x), .val (.int y), .val (.int z)] [(.int (121 : Int32)), (.int (8 : Int32)), (.ref b73), (.ref b73), (.ref b72), (.ref b72)])) rfl rfl (hb hby d2_56)
  have A82 := A81.wr W82
  have E_b72_e82 := E_b72_e81.wr W82
  have F_coder_b72_e82 := F_coder_b72_e81.other W82 (Or.inl ne_b72_b73)
  have F_value_b72_e82 := F_value_b72_e81.other W82 (Or.inl ne_b72_b73)
  have N82 := Fr.snoc X82 N81 g_b73
  have K82 := K81.wr W82 (Or.inr sz_b73)
  have Z82 : n0 ≤ h82.size := Nat.le_trans Z81 (Keep.of_wr W82).1
  have O82 := O81.wr W82 g_b73
  obtain ⟨T83, h83, X83, e83, W83, st83⟩ := stCh X82 hx hZ e82 A82 (i := 9) (by decide) (by decide) (x := (46 : Int32)) (g := (mkF m 62 #[.val (.int (0 : Int32)), .val (.int x), .val (.int y), .val (.int z)] [(.int (46 : Int32)), (.int (9 : Int32)), (.ref b73), (.ref b73), (.ref b72), (.ref b72)])) rfl rfl (hb hby d2_62)
  have A83 := A82.wr W83
  have E_b72_e83 := E_b72_e82.wr W83
  have F_coder_b72_e83 := F_coder_b72_e82.other W83 (Or.inl ne_b72_b73)
  have F_value_b72_e83 := F_value_b72_e82.other W83 (Or.inl ne_b72_b73)
  have N83 := Fr.snoc X83 N82 g_b73
  have K83 := K82.wr W83 (Or.inr sz_b73)
  have Z83 : n0 ≤ h83.size := Nat.le_trans Z82 (Keep.of_wr W83).1
  have O83 := O82.wr W83 g_b73
  obtain ⟨T84, h84, X84, e84, W84, st84⟩ := stCh X83 hx hZ e83 A83 (i := 10) (by decide) (by decide) (x := (120 : Int32)) (g := (mkF m 68 #[.val (.int (0 : Int32)), .val (.int x), .val (.int y), .val (.int z)] [(.int (120 : Int32)), (.int (10 : Int32)), (.ref b73), (.ref b73), (.ref b72), (.ref b72)])) rfl rfl (hb hby d2_68)
  have A84 := A83.wr W84
  have E_b72_e84 := E_b72_e83.wr W84
  have F_coder_b72_e84 := F_coder_b72_e83.other W84 (Or.inl ne_b72_b73)
  have F_value_b72_e84 := F_value_b72_e83.other W84 (Or.inl ne_b72_b73)
  have N84 := Fr.snoc X84 N83 g_b73
  have K84 := K83.wr W84 (Or.inr sz_b73)
  have Z84 : n0 ≤ h84.size := Nat.le_trans Z83 (Keep.of_wr W84).1
  have O84 := O83.wr W84 g_b73
  obtain ⟨T85, h85, X85, e85, W85, st85⟩ := stCh X84 hx hZ e84 A84 (i := 11) (by decide) (by decide) (x := (109 : Int32)) (g := (mkF m 74 #[.val (.int (0 : Int32)), .val (.int x), .val (.int y), .val (.int z)] [(.int (109 : Int32)), (.int (11 : Int32)), (.ref b73), (.ref b73), (.ref b72), (.ref b72)])) rfl rfl (hb hby d2_74)
  have A85 := A84.wr W85
  have E_b72_e85 := E_b72_e84.wr W85
  have F_coder_b72_e85 := F_coder_b72_e84.other W85 (Or.inl ne_b72_b73)
  have F_value_b72_e85 := F_value_b72_e84.other W85 (Or.inl ne_b72_b73)
  have N85 := Fr.snoc X85 N84 g_b73
  have K85 := K84.wr W85 (Or.inr sz_b73)
  have Z85 : n0 ≤ h85.size := Nat.le_trans Z84 (Keep.of_wr W85).1
  have O85 := O84.wr W85 g_b73
  obtain ⟨T86, h86, X86, e86, W86, st86⟩ := stCh X85 hx hZ e85 A85 (i := 12) (by decide) (by decide) (x := (108 : Int32)) (g := (mkF m 80 #[.val (.int (0 : Int32)), .val (.int x), .val (.int y), .val (.int z)] [(.int (108 : Int32)), (.int (12 : Int32)), (.ref b73), (.ref b73), (.ref b72), (.ref b72)])) rfl rfl (hb hby d2_80)
  have A86 := A85.wr W86
  have E_b72_e86 := E_b72_e85.wr W86
  have F_coder_b72_e86 := F_coder_b72_e85.other W86 (Or.inl ne_b72_b73)
  have F_value_b72_e86 := F_value_b72_e85.other W86 (Or.inl ne_b72_b73)
  have N86 := Fr.snoc X86 N85 g_b73
  have K86 := K85.wr W86 (Or.inr sz_b73)
  have Z86 : n0 ≤ h86.size := Nat.le_trans Z85 (Keep.of_wr W86).1
  have O86 := O85.wr W86 g_b73
  have hBb72 : ∀ j, isB (gl [x, y, z, (46 : Int32), (112 : Int32), (114 : Int32), (111 : Int32), (120 : Int32), (121 : Int32), (46 : Int32), (120 : Int32), (109 : Int32), (108 : Int32)] j) := glB (List.forall_mem_cons.mpr ⟨hx8, (List.forall_mem_cons.mpr ⟨hy8, (List.forall_mem_cons.mpr ⟨hz8, (List.forall_mem_cons.mpr ⟨⟨by decide, by decide⟩, (List.forall_mem_cons.mpr ⟨⟨by decide, by decide⟩, (List.forall_mem_cons.mpr ⟨⟨by decide, by decide⟩, (List.forall_mem_cons.mpr ⟨⟨by decide, by decide⟩, (List.forall_mem_cons.mpr ⟨⟨by decide, by decide⟩, (List.forall_mem_cons.mpr ⟨⟨by decide, by decide⟩, (List.forall_mem_cons.mpr ⟨⟨by decide, by decide⟩, (List.forall_mem_cons.mpr ⟨⟨by decide, by decide⟩, (List.forall_mem_cons.mpr ⟨⟨by decide, by decide⟩, (List.forall_mem_cons.mpr ⟨⟨by decide, by decide⟩, (fun _ q => absurd q List.not_mem_nil)⟩)⟩)⟩)⟩)⟩)⟩)⟩)⟩)⟩)⟩)⟩)⟩)⟩)
  obtain ⟨_, _, ⟨T87, L87, k87, n87⟩, -, X87, ⟨Lc87, hQ87, l87, y87, z87⟩, st87⟩ := X86.specialBack hx (y := (⟨"java/lang/String", "<init>", "([C)V"⟩ : MethodName)) rfl hown (mvT hZ (hw _ (List.mem_of_getElem? (i := 15) rfl))) (mvT hZ (hw _ (List.mem_of_getElem? (i := 16) rfl))) (mvT hZ (hw _ (List.mem_of_getElem? (i := 17) rfl))) (by decide) (backOf (W := 1) (rmI1 l Z a0 hw [] b72 b73 13 (gl [x, y, z, (46 : Int32), (112 : Int32), (114 : Int32), (111 : Int32), (120 : Int32), (121 : Int32), (46 : Int32), (120 : Int32), (109 : Int32), (108 : Int32)]) h86 n0 Z86 (by decide) (by decide) O86 SK (A86.congr (updS (updS (updS (updS (updS (updS (updS (updS (updS (updS (updS (updS (updS upd0 (congrArg Value.int (nar_id (isCh_of hx8)))) (congrArg Value.int (nar_id (isCh_of hy8)))) (congrArg Value.int (nar_id (isCh_of hz8)))) rfl) rfl) rfl) rfl) rfl) rfl) rfl) rfl) rfl) rfl)) (fun j _ => isCh_of (hBb72 j)) E_b72_e86 F_value_b72_e86 F_coder_b72_e86 g_b72 (Ne.symm ne_b72_b73) (fun j _ => notBig (hBb72 j))) hZ (hw _ (List.mem_of_getElem? (i := 17) rfl)) (hw _ (List.mem_of_getElem? (i := 13) rfl)) (by decide) (by decide)) (g := (mkF m 81 #[.val (.int (0 : Int32)), .val (.int x), .val (.int y), .val (.int z)] [(.ref b73), (.ref b72), (.ref b72)])) rfl (by rw [hml]; rfl) (Steps.refl _) (a := b72) (argsL := [(.ref b73)]) (rest := [(.ref b72)]) (lenOf pd_2 rfl) rfl (by show 2 * 0 + _ ≤ _; exact Nat.le_of_eq rfl) (hb hby d2_81) (fun _ _ => ⟨rfl, e86, (by decide : 2 + 2 ≤ _), (by decide : 17 + 60 ≤ _)⟩)
  dsimp only [Pt.U, Pt.locs, Pt.cells, Pt.slots] at X87 l87 y87 z87 st87 hQ87
  subst l87 y87 z87
  obtain ⟨rfl, N87q, K87, S87⟩ := hQ87
  have N87 := Fr.app N86 N87q
  have KK87 := K86.trans K87 (fun x r => by cases List.mem_singleton.mp r; exact (Or.inr sz_b72))
  have Z87 : n0 ≤ T87.heap.size := Nat.le_trans Z86 K87.1
  have O87 := O86.keep K87 (all1 g_b72)
  obtain ⟨fs, hr, hrun, hended, hW, hsame⟩ := X87.leave (v := some (.ref b72)) (fun h => by rw [Bd.returns] at h; cases h)
  refine ⟨_, _, pre0 _ ?_, hrun, hended, _, _, rfl, ?_, ⟨_, rfl⟩, hW, hsame.mono (by decide) (by decide)⟩
  · show Steps p.tables e below (s₁.setTop (mkF m 0 #[.val (.int (0 : Int32)), .val (.int x), .val (.int y), .val (.int z)] [])) _
    refine XS.iloadN X0.here hx rfl (hb hby d2_0) rfl ?_
    refine XS.ifNo X0.here hx rfl (hb hby d2_1) rfl ((if0 _ _).trans (teq (rfl : (0 : Int32) = (0 : Int32))).2) ?_
    show Steps p.tables e below (s₁.setTop (mkF m 4 #[.val (.int (0 : Int32)), .val (.int x), .val (.int y), .val (.int z)] [])) _
    refine st72 _ ?_
    refine XS.dup X72.here hx rfl (hb hby d2_7) rfl rfl ?_
    refine XS.bipush X72.here hx rfl (hb hby d2_8) ?_
    show Steps p.tables e below (T72.setTop (mkF m 10 #[.val (.int (0 : Int32)), .val (.int x), .val (.int y), .val (.int z)] [(.int (13 : Int32)), (.ref b72), (.ref b72)])) _
    refine st73 _ ?_
    refine XS.dup X73.here hx rfl (hb hby d2_12) rfl rfl ?_
    refine XS.iconst X73.here hx rfl (hb hby d2_13) ?_
    refine XS.iloadN X73.here hx rfl (hb hby d2_14) rfl ?_
    show Steps p.tables e below (T73.setTop (mkF m 15 #[.val (.int (0 : Int32)), .val (.int x), .val (.int y), .val (.int z)] [(.int x), (.int (0 : Int32)), (.ref b73), (.ref b73), (.ref b72), (.ref b72)])) _
    refine st74 _ ?_
    refine XS.dup X74.here hx rfl (hb hby d2_16) rfl rfl ?_
    refine XS.iconst X74.here hx rfl (hb hby d2_17) ?_
    refine XS.iloadN X74.here hx rfl (hb hby d2_18) rfl ?_
    show Steps p.tables e below (T74.setTop (mkF m 19 #[.val (.int (0 : Int32)), .val (.int x), .val (.int y), .val (.int z)] [(.int y), (.int (1 : Int32)), (.ref b73), (.ref b73), (.ref b72), (.ref b72)])) _
    refine st75 _ ?_
    refine XS.dup X75.here hx rfl (hb hby d2_20) rfl rfl ?_
    refine XS.iconst X75.here hx rfl (hb hby d2_21) ?_
    refine XS.iloadN X75.here hx rfl (hb hby d2_22) rfl ?_
    show Steps p.tables e below (T75.setTop (mkF m 23 #[.val (.int (0 : Int32)), .val (.int x), .val (.int y), .val (.int z)] [(.int z), (.int (2 : Int32)), (.ref b73), (.ref b73), (.ref b72), (.ref b72)])) _
    refine st76 _ ?_
    refine XS.dup X76.here hx rfl (hb hby d2_24) rfl rfl ?_
    refine XS.iconst X76.here hx rfl (hb hby d2_25) ?_
    refine XS.bipush X76.here hx rfl (hb hby d2_26) ?_
    show Steps p.tables e below (T76.setTop (mkF m 28 #[.val (.int (0 : Int32)), .val (.int x), .val (.int y), .val (.int z)] [(.int (46 : Int32)), (.int (3 : Int32)), (.ref b73), (.ref b73), (.ref b72), (.ref b72)])) _
    refine st77 _ ?_
    refine XS.dup X77.here hx rfl (hb hby d2_29) rfl rfl ?_
    refine XS.iconst X77.here hx rfl (hb hby d2_30) ?_
    refine XS.bipush X77.here hx rfl (hb hby d2_31) ?_
    show Steps p.tables e below (T77.setTop (mkF m 33 #[.val (.int (0 : Int32)), .val (.int x), .val (.int y), .val (.int z)] [(.int (112 : Int32)), (.int (4 : Int32)), (.ref b73), (.ref b73), (.ref b72), (.ref b72)])) _
    refine st78 _ ?_
    refine XS.dup X78.here hx rfl (hb hby d2_34) rfl rfl ?_
    refine XS.iconst X78.here hx rfl (hb hby d2_35) ?_
    refine XS.bipush X78.here hx rfl (hb hby d2_36) ?_
    show Steps p.tables e below (T78.setTop (mkF m 38 #[.val (.int (0 : Int32)), .val (.int x), .val (.int y), .val (.int z)] [(.int (114 : Int32)), (.int (5 : Int32)), (.ref b73), (.ref b73), (.ref b72), (.ref b72)])) _
    refine st79 _ ?_
    refine XS.dup X79.here hx rfl (hb hby d2_39) rfl rfl ?_
    refine XS.bipush X79.here hx rfl (hb hby d2_40) ?_
    refine XS.bipush X79.here hx rfl (hb hby d2_42) ?_
    show Steps p.tables e below (T79.setTop (mkF m 44 #[.val (.int (0 : Int32)), .val (.int x), .val (.int y), .val (.int z)] [(.int (111 : Int32)), (.int (6 : Int32)), (.ref b73), (.ref b73), (.ref b72), (.ref b72)])) _
    refine st80 _ ?_
    refine XS.dup X80.here hx rfl (hb hby d2_45) rfl rfl ?_
    refine XS.bipush X80.here hx rfl (hb hby d2_46) ?_
    refine XS.bipush X80.here hx rfl (hb hby d2_48) ?_
    show Steps p.tables e below (T80.setTop (mkF m 50 #[.val (.int (0 : Int32)), .val (.int x), .val (.int y), .val (.int z)] [(.int (120 : Int32)), (.int (7 : Int32)), (.ref b73), (.ref b73), (.ref b72), (.ref b72)])) _
    refine st81 _ ?_
    refine XS.dup X81.here hx rfl (hb hby d2_51) rfl rfl ?_
    refine XS.bipush X81.here hx rfl (hb hby d2_52) ?_
    refine XS.bipush X81.here hx rfl (hb hby d2_54) ?_
    show Steps p.tables e below (T81.setTop (mkF m 56 #[.val (.int (0 : Int32)), .val (.int x), .val (.int y), .val (.int z)] [(.int (121 : Int32)), (.int (8 : Int32)), (.ref b73), (.ref b73), (.ref b72), (.ref b72)])) _
    refine st82 _ ?_
    refine XS.dup X82.here hx rfl (hb hby d2_57) rfl rfl ?_
    refine XS.bipush X82.here hx rfl (hb hby d2_58) ?_
    refine XS.bipush X82.here hx rfl (hb hby d2_60) ?_
    show Steps p.tables e below (T82.setTop (mkF m 62 #[.val (.int (0 : Int32)), .val (.int x), .val (.int y), .val (.int z)] [(.int (46 : Int32)), (.int (9 : Int32)), (.ref b73), (.ref b73), (.ref b72), (.ref b72)])) _
    refine st83 _ ?_
    refine XS.dup X83.here hx rfl (hb hby d2_63) rfl rfl ?_
    refine XS.bipush X83.here hx rfl (hb hby d2_64) ?_
    refine XS.bipush X83.here hx rfl (hb hby d2_66) ?_
    show Steps p.tables e below (T83.setTop (mkF m 68 #[.val (.int (0 : Int32)), .val (.int x), .val (.int y), .val (.int z)] [(.int (120 : Int32)), (.int (10 : Int32)), (.ref b73), (.ref b73), (.ref b72), (.ref b72)])) _
    refine st84 _ ?_
    refine XS.dup X84.here hx rfl (hb hby d2_69) rfl rfl ?_
    refine XS.bipush X84.here hx rfl (hb hby d2_70) ?_
    refine XS.bipush X84.here hx rfl (hb hby d2_72) ?_
    show Steps p.tables e below (T84.setTop (mkF m 74 #[.val (.int (0 : Int32)), .val (.int x), .val (.int y), .val (.int z)] [(.int (109 : Int32)), (.int (11 : Int32)), (.ref b73), (.ref b73), (.ref b72), (.ref b72)])) _
    refine st85 _ ?_
    refine XS.dup X85.here hx rfl (hb hby d2_75) rfl rfl ?_
    refine XS.bipush X85.here hx rfl (hb hby d2_76) ?_
    refine XS.bipush X85.here hx rfl (hb hby d2_78) ?_
    show Steps p.tables e below (T85.setTop (mkF m 80 #[.val (.int (0 : Int32)), .val (.int x), .val (.int y), .val (.int z)] [(.int (108 : Int32)), (.int (12 : Int32)), (.ref b73), (.ref b73), (.ref b72), (.ref b72)])) _
    refine st86 _ ?_
    show Steps p.tables e below (T86.setTop (mkF m 81 #[.val (.int (0 : Int32)), .val (.int x), .val (.int y), .val (.int z)] [(.ref b73), (.ref b72), (.ref b72)])) _
    refine st87.trans ?_
    show Steps p.tables e below (T87.setTop (mkF m 84 #[.val (.int (0 : Int32)), .val (.int x), .val (.int y), .val (.int z)] [(.ref b72)])) _
    jvm_step X87.here [X87.here.top, hx, (hb hby d2_84), X87.method', Bd.returns, Value.isRef, FieldType.isReference]
    first | (intro acts; rw [hr _ acts rfl rfl rfl]) | rw [hr _ _ rfl rfl rfl]
    exact Steps.refl _
  · show QV Z 13 (Lb (gl [x, y, z, (46 : Int32), (112 : Int32), (114 : Int32), (111 : Int32), (120 : Int32), (121 : Int32), (46 : Int32), (120 : Int32), (109 : Int32), (108 : Int32)])) h0 n0 _ T87.heap _
    exact ⟨b72, rfl, N87, KK87, S87⟩
set_option maxRecDepth 65536 in
set_option maxHeartbeats 40000000 in
theorem rmW1 (l : Launch) (Z : State) (a0 : Array Value) (hw : ∀ d ∈ tables_1, d.before a0 Z = true) (ws : List Jvm.Cond) (x y z : Int32)  (h0 : Heap) (n0 : Nat) (Z0 : n0 ≤ h0.size) (O : Old Z n0 h0) (SK : StrSta Z) (hx8 : isB x) (hy8 : isB y) (hz8 : isB z)  :
    MetFree l (⟨"com/example/trestle/trestle/ResourceKindIdPinLaw", "withPrefix", "(ICCC)Ljava/lang/String;"⟩ : MethodName) (head1 (Jvm.Cond.code (⟨"com/example/trestle/trestle/ResourceKindIdPinLaw", "withPrefix", "(ICCC)Ljava/lang/String;"⟩ : MethodName) method_5_code 4 (some (.object "java/lang/String")) :: ws) ({ frames := 6, cells := 4, slots := 100, locals := 150 } : Room)) (fun aa_ U_ => aa_ = #[(.int (1 : Int32)), (.int x), (.int y), (.int z)] ∧ Z.Warmed39 U_.vm ∧ U_.heap = h0) (fun _ _ _ _ _ => True) (fun _ U_ o_ V_ => ∃ v_ L_, o_ = .returned v_ ∧ QV Z 16 (Lb (gl [x, y, z, (46 : Int32), (98 : Int32), (117 : Int32), (115 : Int32), (105 : Int32), (110 : Int32), (101 : Int32), (115 : Int32), (115 : Int32), (46 : Int32), (120 : Int32), (109 : Int32), (108 : Int32)])) h0 n0 v_ V_.heap L_ ∧ FrameEnd U_ o_ V_ L_ ({ frames := 6, cells := 4, slots := 100, locals := 150 } : Room).cells ({ frames := 6, cells := 4, slots := 100, locals := 150 } : Room).slots) := by
  refine MetFree.of_bodySF (plainFor_of_name pn_2) hisR ?_
  intro p e s m args below meth c s₁ Bd hml0 hP hK
  obtain ⟨rfl, hZ, hh⟩ := hP
  have hx := Bd.exec
  have hby := Bd.bytes
  have hml : c.maxLocals = 4 := hml0
  have hown : s.vm.findClass "com/example/trestle/trestle/ResourceKindIdPinLaw" = some m.cls := findClass_of_methodNamed Bd.named
  have hnm := (name_of_methodNamed Bd.named Bd.method).1
  have X0 : Stand p l e ({ frames := 6, cells := 4, slots := 100, locals := 150 } : Room) s m #[(.int (1 : Int32)), (.int x), (.int y), (.int z)] below meth c s₁ [] 0 0 := Stand.of_body Bd
  have e0 : s₁.heap = h0 := by rw [← hh, Bd.state]; rfl
  have N0 := Fr.nil n0
  have pre0 : ∀ zz, Steps p.tables e below (s₁.setTop (mkF m 0 #[.val (.int (1 : Int32)), .val (.int x), .val (.int y), .val (.int z)] [])) zz → Steps p.tables e below (s₁.setTop (entryFrame m #[(.int (1 : Int32)), (.int x), (.int y), (.int z)] 4)) zz := fun zz kz_ => castTop (ef_2 m (1 : Int32) x y z) kz_
  obtain ⟨T88, h88, X88, e88, E88, A88, D88, -, st88⟩ := newO X0 hx hZ hown (hw _ (List.mem_of_getElem? (i := 11) rfl)) (hw _ (List.mem_of_getElem? (i := 12) rfl)) (hw _ (List.mem_of_getElem? (i := 13) rfl)) e0 (g := (mkF m 90 #[.val (.int (1 : Int32)), .val (.int x), .val (.int y), .val (.int z)] [])) rfl (hb hby d2_90) (by decide) (by decide)
  obtain ⟨b88, g88⟩ : ∃ z, z = h0.size := ⟨_, rfl⟩
  rw [← g88] at A88 D88 st88
  have E_b88 := A88
  have g_b88 : n0 ≤ b88 := Nat.le_trans Z0 (Nat.le_of_eq g88.symm)
  have sz_b88 : h0.size ≤ b88 := Nat.le_trans (Keep.refl h0 []).1 (Nat.le_of_eq g88.symm)
  have K88 := (Keep.refl h0 []).ext E88
  have Z88 : n0 ≤ h88.size := Nat.le_trans Z0 E88.1
  have F_coder_b88 : Fld Z h88 b88 "java/lang/String" "coder" "B" (.int (0 : Int32)) := D88 (Or.inr (hw _ (List.mem_of_getElem? (i := 38) rfl))) (ty := .byte) (by decide)
  have F_value_b88 : Fld Z h88 b88 "java/lang/String" "value" "[B" .null := D88 (Or.inr (hw _ (List.mem_of_getElem? (i := 40) rfl))) (ty := (.array .byte)) (by decide)
  have O88 := O.ext E88
  obtain ⟨T89, h89, X89, e89, E89, A89, st89⟩ := nwA X88 hx hZ (hw _ (List.mem_of_getElem? (i := 14) rfl)) e88 (g := (mkF m 96 #[.val (.int (1 : Int32)), .val (.int x), .val (.int y), .val (.int z)] [(.int (16 : Int32)), (.ref b88), (.ref b88)])) rfl (hb hby d2_96) (n := 16) rfl (cap := 16) (by decide) (by decide) (by decide) (by decide)
  obtain ⟨b89, q89⟩ : ∃ z, z = h88.size := ⟨_, rfl⟩
  rw [← q89] at A89 st89
  have V89 : AF Z h89 b89 .char 16 (fun _ => (.int (0 : Int32))) := A89
  have g_b89 : n0 ≤ b89 := Nat.le_trans Z88 (Nat.le_of_eq q89.symm)
  have sz_b89 : h0.size ≤ b89 := Nat.le_trans K88.1 (Nat.le_of_eq q89.symm)
  have K89 := K88.ext E89
  have Z89 : n0 ≤ h89.size := Nat.le_trans Z88 E89.1
  have ne_b88_b89 : b88 ≠ b89 := Nat.ne_of_lt (Nat.lt_of_lt_of_le E_b88.lt (Nat.le_of_eq q89.symm))
  have E_b88_e89 := E_b88.ext E89
  have F_coder_b88_e89 := F_coder_b88.ext E89
  have F_value_b88_e89 := F_value_b88.ext E89
  have O89 := O88.ext E89
  obtain ⟨T90, h90, X90, e90, W90, st90⟩ := stCh X89 hx hZ e89 V89 (i := 0) (by decide) (by decide) (x := x) (g := (mkF m 101 #[.val (.int (1 : Int32)), .val (.int x), .val (.int y), .val (.int z)] [(.int x), (.int (0 : Int32)), (.ref b89), (.ref b89), (.ref b88), (.ref b88)])) rfl rfl (hb hby d2_101)
  have A90 := V89.wr W90
  have E_b88_e90 := E_b88_e89.wr W90
  have F_coder_b88_e90 := F_coder_b88_e89.other W90 (Or.inl ne_b88_b89)
  have F_value_b88_e90 := F_value_b88_e89.other W90 (Or.inl ne_b88_b89)
  have N90 := Fr.snoc X90 N0 g_b89
  have K90 := K89.wr W90 (Or.inr sz_b89)
  have Z90 : n0 ≤ h90.size := Nat.le_trans Z89 (Keep.of_wr W90).1
  have O90 := O89.wr W90 g_b89
  obtain ⟨T91, h91, X91, e91, W91, st91⟩ := stCh X90 hx hZ e90 A90 (i := 1) (by decide) (by decide) (x := y) (g := (mkF m 105 #[.val (.int (1 : Int32)), .val (.int x), .val (.int y), .val (.int z)] [(.int y), (.int (1 : Int32)), (.ref b89), (.ref b89), (.ref b88), (.ref b88)])) rfl rfl (hb hby d2_105)
  have A91 := A90.wr W91
  have E_b88_e91 := E_b88_e90.wr W91
  have F_coder_b88_e91 := F_coder_b88_e90.other W91 (Or.inl ne_b88_b89)
  have F_value_b88_e91 := F_value_b88_e90.other W91 (Or.inl ne_b88_b89)
  have N91 := Fr.snoc X91 N90 g_b89
  have K91 := K90.wr W91 (Or.inr sz_b89)
  have Z91 : n0 ≤ h91.size := Nat.le_trans Z90 (Keep.of_wr W91).1
  have O91 := O90.wr W91 g_b89
  obtain ⟨T92, h92, X92, e92, W92, st92⟩ := stCh X91 hx hZ e91 A91 (i := 2) (by decide) (by decide) (x := z) (g := (mkF m 109 #[.val (.int (1 : Int32)), .val (.int x), .val (.int y), .val (.int z)] [(.int z), (.int (2 : Int32)), (.ref b89), (.ref b89), (.ref b88), (.ref b88)])) rfl rfl (hb hby d2_109)
  have A92 := A91.wr W92
  have E_b88_e92 := E_b88_e91.wr W92
  have F_coder_b88_e92 := F_coder_b88_e91.other W92 (Or.inl ne_b88_b89)
  have F_value_b88_e92 := F_value_b88_e91.other W92 (Or.inl ne_b88_b89)
  have N92 := Fr.snoc X92 N91 g_b89
  have K92 := K91.wr W92 (Or.inr sz_b89)
  have Z92 : n0 ≤ h92.size := Nat.le_trans Z91 (Keep.of_wr W92).1
  have O92 := O91.wr W92 g_b89
  obtain ⟨T93, h93, X93, e93, W93, st93⟩ := stCh X92 hx hZ e92 A92 (i := 3) (by decide) (by decide) (x := (46 : Int32)) (g := (mkF m 114 #[.val (.int (1 : Int32)), .val (.int x), .val (.int y), .val (.int z)] [(.int (46 : Int32)), (.int (3 : Int32)), (.ref b89), (.ref b89), (.ref b88), (.ref b88)])) rfl rfl (hb hby d2_114)
  have A93 := A92.wr W93
  have E_b88_e93 := E_b88_e92.wr W93
  have F_coder_b88_e93 := F_coder_b88_e92.other W93 (Or.inl ne_b88_b89)
  have F_value_b88_e93 := F_value_b88_e92.other W93 (Or.inl ne_b88_b89)
  have N93 := Fr.snoc X93 N92 g_b89
  have K93 := K92.wr W93 (Or.inr sz_b89)
  have Z93 : n0 ≤ h93.size := Nat.le_trans Z92 (Keep.of_wr W93).1
  have O93 := O92.wr W93 g_b89
  obtain ⟨T94, h94, X94, e94, W94, st94⟩ := stCh X93 hx hZ e93 A93 (i := 4) (by decide) (by decide) (x := (98 : Int32)) (g := (mkF m 119 #[.val (.int (1 : Int32)), .val (.int x), .val (.int y), .val (.int z)] [(.int (98 : Int32)), (.int (4 : Int32)), (.ref b89), (.ref b89), (.ref b88), (.ref b88)])) rfl rfl (hb hby d2_119)
  have A94 := A93.wr W94
  have E_b88_e94 := E_b88_e93.wr W94
  have F_coder_b88_e94 := F_coder_b88_e93.other W94 (Or.inl ne_b88_b89)
  have F_value_b88_e94 := F_value_b88_e93.other W94 (Or.inl ne_b88_b89)
  have N94 := Fr.snoc X94 N93 g_b89
  have K94 := K93.wr W94 (Or.inr sz_b89)
  have Z94 : n0 ≤ h94.size := Nat.le_trans Z93 (Keep.of_wr W94).1
  have O94 := O93.wr W94 g_b89
  obtain ⟨T95, h95, X95, e95, W95, st95⟩ := stCh X94 hx hZ e94 A94 (i := 5) (by decide) (by decide) (x := (117 : Int32)) (g := (mkF m 124 #[.val (.int (1 : Int32)), .val (.int x), .val (.int y), .val (.int z)] [(.int (117 : Int32)), (.int (5 : Int32)), (.ref b89), (.ref b89), (.ref b88), (.ref b88)])) rfl rfl (hb hby d2_124)
  have A95 := A94.wr W95
  have E_b88_e95 := E_b88_e94.wr W95
  have F_coder_b88_e95 := F_coder_b88_e94.other W95 (Or.inl ne_b88_b89)
  have F_value_b88_e95 := F_value_b88_e94.other W95 (Or.inl ne_b88_b89)
  have N95 := Fr.snoc X95 N94 g_b89
  have K95 := K94.wr W95 (Or.inr sz_b89)
  have Z95 : n0 ≤ h95.size := Nat.le_trans Z94 (Keep.of_wr W95).1
  have O95 := O94.wr W95 g_b89
  obtain ⟨T96, h96, X96, e96, W96, st96⟩ := stCh X95 hx hZ e95 A95 (i := 6) (by decide) (by decide) (x := (115 : Int32)) (g := (mkF m 130 #[.val (.int (1 : Int32)), .val (.int x), .val (.int y), .val (.int z)] [(.int (115 : Int32)), (.int (6 : Int32)), (.ref b89), (.ref b89), (.ref b88), (.ref b88)])) rfl rfl (hb hby d2_130)
  have A96 := A95.wr W96
  have E_b88_e96 := E_b88_e95.wr W96
  have F_coder_b88_e96 := F_coder_b88_e95.other W96 (Or.inl ne_b88_b89)
  have F_value_b88_e96 := F_value_b88_e95.other W96 (Or.inl ne_b88_b89)
  have N96 := Fr.snoc X96 N95 g_b89
  have K96 := K95.wr W96 (Or.inr sz_b89)
  have Z96 : n0 ≤ h96.size := Nat.le_trans Z95 (Keep.of_wr W96).1
  have O96 := O95.wr W96 g_b89
  obtain ⟨T97, h97, X97, e97, W97, st97⟩ := stCh X96 hx hZ e96 A96 (i := 7) (by decide) (by decide) (x := (105 : Int32)) (g := (mkF m 136 #[.val (.int (1 : Int32)), .val (.int x), .val (.int y), .val (.int z)] [(.int (105 : Int32)), (.int (7 : Int32)), (.ref b89), (.ref b89), (.ref b88), (.ref b88)])) rfl rfl (hb hby d2_136)
  have A97 := A96.wr W97
  have E_b88_e97 := E_b88_e96.wr W97
  have F_coder_b88_e97 := F_coder_b88_e96.other W97 (Or.inl ne_b88_b89)
  have F_value_b88_e97 := F_value_b88_e96.other W97 (Or.inl ne_b88_b89)
  have N97 := Fr.snoc X97 N96 g_b89
  have K97 := K96.wr W97 (Or.inr sz_b89)
  have Z97 : n0 ≤ h97.size := Nat.le_trans Z96 (Keep.of_wr W97).1
  have O97 := O96.wr W97 g_b89
  obtain ⟨T98, h98, X98, e98, W98, st98⟩ := stCh X97 hx hZ e97 A97 (i := 8) (by decide) (by decide) (x := (110 : Int32)) (g := (mkF m 142 #[.val (.int (1 : Int32)), .val (.int x), .val (.int y), .val (.int z)] [(.int (110 : Int32)), (.int (8 : Int32)), (.ref b89), (.ref b89), (.ref b88), (.ref b88)])) rfl rfl (hb hby d2_142)
  have A98 := A97.wr W98
  have E_b88_e98 := E_b88_e97.wr W98
  have F_coder_b88_e98 := F_coder_b88_e97.other W98 (Or.inl ne_b88_b89)
  have F_value_b88_e98 := F_value_b88_e97.other W98 (Or.inl ne_b88_b89)
  have N98 := Fr.snoc X98 N97 g_b89
  have K98 := K97.wr W98 (Or.inr sz_b89)
  have Z98 : n0 ≤ h98.size := Nat.le_trans Z97 (Keep.of_wr W98).1
  have O98 := O97.wr W98 g_b89
  obtain ⟨T99, h99, X99, e99, W99, st99⟩ := stCh X98 hx hZ e98 A98 (i := 9) (by decide) (by decide) (x := (101 : Int32)) (g := (mkF m 148 #[.val (.int (1 : Int32)), .val (.int x), .val (.int y), .val (.int z)] [(.int (101 : Int32)), (.int (9 : Int32)), (.ref b89), (.ref b89), (.ref b88), (.ref b88)])) rfl rfl (hb hby d2_148)
  have A99 := A98.wr W99
  have E_b88_e99 := E_b88_e98.wr W99
  have F_coder_b88_e99 := F_coder_b88_e98.other W99 (Or.inl ne_b88_b89)
  have F_value_b88_e99 := F_value_b88_e98.other W99 (Or.inl ne_b88_b89)
  have N99 := Fr.snoc X99 N98 g_b89
  have K99 := K98.wr W99 (Or.inr sz_b89)
  have Z99 : n0 ≤ h99.size := Nat.le_trans Z98 (Keep.of_wr W99).1
  have O99 := O98.wr W99 g_b89
  obtain ⟨T100, h100, X100, e100, W100, st100⟩ := stCh X99 hx hZ e99 A99 (i := 10) (by decide) (by decide) (x := (115 : Int32)) (g := (mkF m 154 #[.val (.int (1 : Int32)), .val (.int x), .val (.int y), .val (.int z)] [(.int (115 : Int32)), (.int (10 : Int32)), (.ref b89), (.ref b89), (.ref b88), (.ref b88)])) rfl rfl (hb hby d2_154)
  have A100 := A99.wr W100
  have E_b88_e100 := E_b88_e99.wr W100
  have F_coder_b88_e100 := F_coder_b88_e99.other W100 (Or.inl ne_b88_b89)
  have F_value_b88_e100 := F_value_b88_e99.other W100 (Or.inl ne_b88_b89)
  have N100 := Fr.snoc X100 N99 g_b89
  have K100 := K99.wr W100 (Or.inr sz_b89)
  have Z100 : n0 ≤ h100.size := Nat.le_trans Z99 (Keep.of_wr W100).1
  have O100 := O99.wr W100 g_b89
  obtain ⟨T101, h101, X101, e101, W101, st101⟩ := stCh X100 hx hZ e100 A100 (i := 11) (by decide) (by decide) (x := (115 : Int32)) (g := (mkF m 160 #[.val (.int (1 : Int32)), .val (.int x), .val (.int y), .val (.int z)] [(.int (115 : Int32)), (.int (11 : Int32)), (.ref b89), (.ref b89), (.ref b88), (.ref b88)])) rfl rfl (hb hby d2_160)
  have A101 := A100.wr W101
  have E_b88_e101 := E_b88_e100.wr W101
  have F_coder_b88_e101 := F_coder_b88_e100.other W101 (Or.inl ne_b88_b89)
  have F_value_b88_e101 := F_value_b88_e100.other W101 (Or.inl ne_b88_b89)
  have N101 := Fr.snoc X101 N100 g_b89
  have K101 := K100.wr W101 (Or.inr sz_b89)
  have Z101 : n0 ≤ h101.size := Nat.le_trans Z100 (Keep.of_wr W101).1
  have O101 := O100.wr W101 g_b89
  obtain ⟨T102, h102, X102, e102, W102, st102⟩ := stCh X101 hx hZ e101 A101 (i := 12) (by decide) (by decide) (x := (46 : Int32)) (g := (mkF m 166 #[.val (.int (1 : Int32)), .val (.int x), .val (.int y), .val (.int z)] [(.int (46 : Int32)), (.int (12 : Int32)), (.ref b89), (.ref b89), (.ref b88), (.ref b88)])) rfl rfl (hb hby d2_166)
  have A102 := A101.wr W102
  have E_b88_e102 := E_b88_e101.wr W102
  have F_coder_b88_e102 := F_coder_b88_e101.other W102 (Or.inl ne_b88_b89)
  have F_value_b88_e102 := F_value_b88_e101.other W102 (Or.inl ne_b88_b89)
  have N102 := Fr.snoc X102 N101 g_b89
  have K102 := K101.wr W102 (Or.inr sz_b89)
  have Z102 : n0 ≤ h102.size := Nat.le_trans Z101 (Keep.of_wr W102).1
  have O102 := O101.wr W102 g_b89
  obtain ⟨T103, h103, X103, e103, W103, st103⟩ := stCh X102 hx hZ e102 A102 (i := 13) (by decide) (by decide) (x := (120 : Int32)) (g := (mkF m 172 #[.val (.int (1 : Int32)), .val (.int x), .val (.int y), .val (.int z)] [(.int (120 : Int32)), (.int (13 : Int32)), (.ref b89), (.ref b89), (.ref b88), (.ref b88)])) rfl rfl (hb hby d2_172)
  have A103 := A102.wr W103
  have E_b88_e103 := E_b88_e102.wr W103
  have F_coder_b88_e103 := F_coder_b88_e102.other W103 (Or.inl ne_b88_b89)
  have F_value_b88_e103 := F_value_b88_e102.other W103 (Or.inl ne_b88_b89)
  have N103 := Fr.snoc X103 N102 g_b89
  have K103 := K102.wr W103 (Or.inr sz_b89)
  have Z103 : n0 ≤ h103.size := Nat.le_trans Z102 (Keep.of_wr W103).1
  have O103 := O102.wr W103 g_b89
  obtain ⟨T104, h104, X104, e104, W104, st104⟩ := stCh X103 hx hZ e103 A103 (i := 14) (by decide) (by decide) (x := (109 : Int32)) (g := (mkF m 178 #[.val (.int (1 : Int32)), .val (.int x), .val (.int y), .val (.int z)] [(.int (109 : Int32)), (.int (14 : Int32)), (.ref b89), (.ref b89), (.ref b88), (.ref b88)])) rfl rfl (hb hby d2_178)
  have A104 := A103.wr W104
  have E_b88_e104 := E_b88_e103.wr W104
  have F_coder_b88_e104 := F_coder_b88_e103.other W104 (Or.inl ne_b88_b89)
  have F_value_b88_e104 := F_value_b88_e103.other W104 (Or.inl ne_b88_b89)
  have N104 := Fr.snoc X104 N103 g_b89
  have K104 := K103.wr W104 (Or.inr sz_b89)
  have Z104 : n0 ≤ h104.size := Nat.le_trans Z103 (Keep.of_wr W104).1
  have O104 := O103.wr W104 g_b89
  obtain ⟨T105, h105, X105, e105, W105, st105⟩ := stCh X104 hx hZ e104 A104 (i := 15) (by decide) (by decide) (x := (108 : Int32)) (g := (mkF m 184 #[.val (.int (1 : Int32)), .val (.int x), .val (.int y), .val (.int z)] [(.int (108 : Int32)), (.int (15 : Int32)), (.ref b89), (.ref b89), (.ref b88), (.ref b88)])) rfl rfl (hb hby d2_184)
  have A105 := A104.wr W105
  have E_b88_e105 := E_b88_e104.wr W105
  have F_coder_b88_e105 := F_coder_b88_e104.other W105 (Or.inl ne_b88_b89)
  have F_value_b88_e105 := F_value_b88_e104.other W105 (Or.inl ne_b88_b89)
  have N105 := Fr.snoc X105 N104 g_b89
  have K105 := K104.wr W105 (Or.inr sz_b89)
  have Z105 : n0 ≤ h105.size := Nat.le_trans Z104 (Keep.of_wr W105).1
  have O105 := O104.wr W105 g_b89
  have hBb88 : ∀ j, isB (gl [x, y, z, (46 : Int32), (98 : Int32), (117 : Int32), (115 : Int32), (105 : Int32), (110 : Int32), (101 : Int32), (115 : Int32), (115 : Int32), (46 : Int32), (120 : Int32), (109 : Int32), (108 : Int32)] j) := glB (List.forall_mem_cons.mpr ⟨hx8, (List.forall_mem_cons.mpr ⟨hy8, (List.forall_mem_cons.mpr ⟨hz8, (List.forall_mem_cons.mpr ⟨⟨by decide, by decide⟩, (List.forall_mem_cons.mpr ⟨⟨by decide, by decide⟩, (List.forall_mem_cons.mpr ⟨⟨by decide, by decide⟩, (List.forall_mem_cons.mpr ⟨⟨by decide, by decide⟩, (List.forall_mem_cons.mpr ⟨⟨by decide, by decide⟩, (List.forall_mem_cons.mpr ⟨⟨by decide, by decide⟩, (List.forall_mem_cons.mpr ⟨⟨by decide, by decide⟩, (List.forall_mem_cons.mpr ⟨⟨by decide, by decide⟩, (List.forall_mem_cons.mpr ⟨⟨by decide, by decide⟩, (List.forall_mem_cons.mpr ⟨⟨by decide, by decide⟩, (List.forall_mem_cons.mpr ⟨⟨by decide, by decide⟩, (List.forall_mem_cons.mpr ⟨⟨by decide, by decide⟩, (List.forall_mem_cons.mpr ⟨⟨by decide, by decide⟩, (fun _ q => absurd q List.not_mem_nil)⟩)⟩)⟩)⟩)⟩)⟩)⟩)⟩)⟩)⟩)⟩)⟩)⟩)⟩)⟩)⟩)
  obtain ⟨_, _, ⟨T106, L106, k106, n106⟩, -, X106, ⟨Lc106, hQ106, l106, y106, z106⟩, st106⟩ := X105.specialBack hx (y := (⟨"java/lang/String", "<init>", "([C)V"⟩ : MethodName)) rfl hown (mvT hZ (hw _ (List.mem_of_getElem? (i := 15) rfl))) (mvT hZ (hw _ (List.mem_of_getElem? (i := 16) rfl))) (mvT hZ (hw _ (List.mem_of_getElem? (i := 17) rfl))) (by decide) (backOf (W := 1) (rmI1 l Z a0 hw [] b88 b89 16 (gl [x, y, z, (46 : Int32), (98 : Int32), (117 : Int32), (115 : Int32), (105 : Int32), (110 : Int32), (101 : Int32), (115 : Int32), (115 : Int32), (46 : Int32), (120 : Int32), (109 : Int32), (108 : Int32)]) h105 n0 Z105 (by decide) (by decide) O105 SK (A105.congr (updS (updS (updS (updS (updS (updS (updS (updS (updS (updS (updS (updS (updS (updS (updS (updS upd0 (congrArg Value.int (nar_id (isCh_of hx8)))) (congrArg Value.int (nar_id (isCh_of hy8)))) (congrArg Value.int (nar_id (isCh_of hz8)))) rfl) rfl) rfl) rfl) rfl) rfl) rfl) rfl) rfl) rfl) rfl) rfl) rfl)) (fun j _ => isCh_of (hBb88 j)) E_b88_e105 F_value_b88_e105 F_coder_b88_e105 g_b88 (Ne.symm ne_b88_b89) (fun j _ => notBig (hBb88 j))) hZ (hw _ (List.mem_of_getElem? (i := 17) rfl)) (hw _ (List.mem_of_getElem? (i := 13) rfl)) (by decide) (by decide)) (g := (mkF m 185 #[.val (.int (1 : Int32)), .val (.int x), .val (.int y), .val (.int z)] [(.ref b89), (.ref b88), (.ref b88)])) rfl (by rw [hml]; rfl) (Steps.refl _) (a := b88) (argsL := [(.ref b89)]) (rest := [(.ref b88)]) (lenOf pd_2 rfl) rfl (by show 2 * 0 + _ ≤ _; exact Nat.le_of_eq rfl) (hb hby d2_185) (fun _ _ => ⟨rfl, e105, (by decide : 2 + 2 ≤ _), (by decide : 20 + 60 ≤ _)⟩)
  dsimp only [Pt.U, Pt.locs, Pt.cells, Pt.slots] at X106 l106 y106 z106 st106 hQ106
  subst l106 y106 z106
  obtain ⟨rfl, N106q, K106, S106⟩ := hQ106
  have N106 := Fr.app N105 N106q
  have KK106 := K105.trans K106 (fun x r => by cases List.mem_singleton.mp r; exact (Or.inr sz_b88))
  have Z106 : n0 ≤ T106.heap.size := Nat.le_trans Z105 K106.1
  have O106 := O105.keep K106 (all1 g_b88)
  obtain ⟨fs, hr, hrun, hended, hW, hsame⟩ := X106.leave (v := some (.ref b88)) (fun h => by rw [Bd.returns] at h; cases h)
  refine ⟨_, _, pre0 _ ?_, hrun, hended, _, _, rfl, ?_, ⟨_, rfl⟩, hW, hsame.mono (by decide) (by decide)⟩
  · show Steps p.tables e below (s₁.setTop (mkF m 0 #[.val (.int (1 : Int32)), .val (.int x), .val (.int y), .val (.int z)] [])) _
    refine XS.iloadN X0.here hx rfl (hb hby d2_0) rfl ?_
    refine XS.ifYes X0.here hx rfl (pc0 := 1) (pc' := 85) rfl (hb hby d2_1) rfl ((if0 _ _).trans (feq (by decide : ¬ ((1 : Int32) = (0 : Int32)))).2) (by decide) (by decide) ?_
    refine XS.iloadN X0.here hx rfl (hb hby d2_85) rfl ?_
    refine XS.iconst X0.here hx rfl (hb hby d2_86) ?_
    refine XS.icmpNo X0.here hx rfl (hb hby d2_87) rfl (teq (rfl : (1 : Int32) = (1 : Int32))).2 ?_
    show Steps p.tables e below (s₁.setTop (mkF m 90 #[.val (.int (1 : Int32)), .val (.int x), .val (.int y), .val (.int z)] [])) _
    refine st88 _ ?_
    refine XS.dup X88.here hx rfl (hb hby d2_93) rfl rfl ?_
    refine XS.bipush X88.here hx rfl (hb hby d2_94) ?_
    show Steps p.tables e below (T88.setTop (mkF m 96 #[.val (.int (1 : Int32)), .val (.int x), .val (.int y), .val (.int z)] [(.int (16 : Int32)), (.ref b88), (.ref b88)])) _
    refine st89 _ ?_
    refine XS.dup X89.here hx rfl (hb hby d2_98) rfl rfl ?_
    refine XS.iconst X89.here hx rfl (hb hby d2_99) ?_
    refine XS.iloadN X89.here hx rfl (hb hby d2_100) rfl ?_
    show Steps p.tables e below (T89.setTop (mkF m 101 #[.val (.int (1 : Int32)), .val (.int x), .val (.int y), .val (.int z)] [(.int x), (.int (0 : Int32)), (.ref b89), (.ref b89), (.ref b88), (.ref b88)])) _
    refine st90 _ ?_
    refine XS.dup X90.here hx rfl (hb hby d2_102) rfl rfl ?_
    refine XS.iconst X90.here hx rfl (hb hby d2_103) ?_
    refine XS.iloadN X90.here hx rfl (hb hby d2_104) rfl ?_
    show Steps p.tables e below (T90.setTop (mkF m 105 #[.val (.int (1 : Int32)), .val (.int x), .val (.int y), .val (.int z)] [(.int y), (.int (1 : Int32)), (.ref b89), (.ref b89), (.ref b88), (.ref b88)])) _
    refine st91 _ ?_
    refine XS.dup X91.here hx rfl (hb hby d2_106) rfl rfl ?_
    refine XS.iconst X91.here hx rfl (hb hby d2_107) ?_
    refine XS.iloadN X91.here hx rfl (hb hby d2_108) rfl ?_
    show Steps p.tables e below (T91.setTop (mkF m 109 #[.val (.int (1 : Int32)), .val (.int x), .val (.int y), .val (.int z)] [(.int z), (.int (2 : Int32)), (.ref b89), (.ref b89), (.ref b88), (.ref b88)])) _
    refine st92 _ ?_
    refine XS.dup X92.here hx rfl (hb hby d2_110) rfl rfl ?_
    refine XS.iconst X92.here hx rfl (hb hby d2_111) ?_
    refine XS.bipush X92.here hx rfl (hb hby d2_112) ?_
    show Steps p.tables e below (T92.setTop (mkF m 114 #[.val (.int (1 : Int32)), .val (.int x), .val (.int y), .val (.int z)] [(.int (46 : Int32)), (.int (3 : Int32)), (.ref b89), (.ref b89), (.ref b88), (.ref b88)])) _
    refine st93 _ ?_
    refine XS.dup X93.here hx rfl (hb hby d2_115) rfl rfl ?_
    refine XS.iconst X93.here hx rfl (hb hby d2_116) ?_
    refine XS.bipush X93.here hx rfl (hb hby d2_117) ?_
    show Steps p.tables e below (T93.setTop (mkF m 119 #[.val (.int (1 : Int32)), .val (.int x), .val (.int y), .val (.int z)] [(.int (98 : Int32)), (.int (4 : Int32)), (.ref b89), (.ref b89), (.ref b88), (.ref b88)])) _
    refine st94 _ ?_
    refine XS.dup X94.here hx rfl (hb hby d2_120) rfl rfl ?_
    refine XS.iconst X94.here hx rfl (hb hby d2_121) ?_
    refine XS.bipush X94.here hx rfl (hb hby d2_122) ?_
    show Steps p.tables e below (T94.setTop (mkF m 124 #[.val (.int (1 : Int32)), .val (.int x), .val (.int y), .val (.int z)] [(.int (117 : Int32)), (.int (5 : Int32)), (.ref b89), (.ref b89), (.ref b88), (.ref b88)])) _
    refine st95 _ ?_
    refine XS.dup X95.here hx rfl (hb hby d2_125) rfl rfl ?_
    refine XS.bipush X95.here hx rfl (hb hby d2_126) ?_
    refine XS.bipush X95.here hx rfl (hb hby d2_128) ?_
    show Steps p.tables e below (T95.setTop (mkF m 130 #[.val (.int (1 : Int32)), .val (.int x), .val (.int y), .val (.int z)] [(.int (115 : Int32)), (.int (6 : Int32)), (.ref b89), (.ref b89), (.ref b88), (.ref b88)])) _
    refine st96 _ ?_
    refine XS.dup X96.here hx rfl (hb hby d2_131) rfl rfl ?_
    refine XS.bipush X96.here hx rfl (hb hby d2_132) ?_
    refine XS.bipush X96.here hx rfl (hb hby d2_134) ?_
    show Steps p.tables e below (T96.setTop (mkF m 136 #[.val (.int (1 : Int32)), .val (.int x), .val (.int y), .val (.int z)] [(.int (105 : Int32)), (.int (7 : Int32)), (.ref b89), (.ref b89), (.ref b88), (.ref b88)])) _
    refine st97 _ ?_
    refine XS.dup X97.here hx rfl (hb hby d2_137) rfl rfl ?_
    refine XS.bipush X97.here hx rfl (hb hby d2_138) ?_
    refine XS.bipush X97.here hx rfl (hb hby d2_140) ?_
    show Steps p.tables e below (T97.setTop (mkF m 142 #[.val (.int (1 : Int32)), .val (.int x), .val (.int y), .val (.int z)] [(.int (110 : Int32)), (.int (8 : Int32)), (.ref b89), (.ref b89), (.ref b88), (.ref b88)])) _
    refine st98 _ ?_
    refine XS.dup X98.here hx rfl (hb hby d2_143) rfl rfl ?_
    refine XS.bipush X98.here hx rfl (hb hby d2_144) ?_
    refine XS.bipush X98.here hx rfl (hb hby d2_146) ?_
    show Steps p.tables e below (T98.setTop (mkF m 148 #[.val (.int (1 : Int32)), .val (.int x), .val (.int y), .val (.int z)] [(.int (101 : Int32)), (.int (9 : Int32)), (.ref b89), (.ref b89), (.ref b88), (.ref b88)])) _
    refine st99 _ ?_
    refine XS.dup X99.here hx rfl (hb hby d2_149) rfl rfl ?_
    refine XS.bipush X99.here hx rfl (hb hby d2_150) ?_
    refine XS.bipush X99.here hx rfl (hb hby d2_152) ?_
    show Steps p.tables e below (T99.setTop (mkF m 154 #[.val (.int (1 : Int32)), .val (.int x), .val (.int y), .val (.int z)] [(.int (115 : Int32)), (.int (10 : Int32)), (.ref b89), (.ref b89), (.ref b88), (.ref b88)])) _
    refine st100 _ ?_
    refine XS.dup X100.here hx rfl (hb hby d2_155) rfl rfl ?_
    refine XS.bipush X100.here hx rfl (hb hby d2_156) ?_
    refine XS.bipush X100.here hx rfl (hb hby d2_158) ?_
    show Steps p.tables e below (T100.setTop (mkF m 160 #[.val (.int (1 : Int32)), .val (.int x), .val (.int y), .val (.int z)] [(.int (115 : Int32)), (.int (11 : Int32)), (.ref b89), (.ref b89), (.ref b88), (.ref b88)])) _
    refine st101 _ ?_
    refine XS.dup X101.here hx rfl (hb hby d2_161) rfl rfl ?_
    refine XS.bipush X101.here hx rfl (hb hby d2_162) ?_
    refine XS.bipush X101.here hx rfl (hb hby d2_164) ?_
    show Steps p.tables e below (T101.setTop (mkF m 166 #[.val (.int (1 : Int32)), .val (.int x), .val (.int y), .val (.int z)] [(.int (46 : Int32)), (.int (12 : Int32)), (.ref b89), (.ref b89), (.ref b88), (.ref b88)])) _
    refine st102 _ ?_
    refine XS.dup X102.here hx rfl (hb hby d2_167) rfl rfl ?_
    refine XS.bipush X102.here hx rfl (hb hby d2_168) ?_
    refine XS.bipush X102.here hx rfl (hb hby d2_170) ?_
    show Steps p.tables e below (T102.setTop (mkF m 172 #[.val (.int (1 : Int32)), .val (.int x), .val (.int y), .val (.int z)] [(.int (120 : Int32)), (.int (13 : Int32)), (.ref b89), (.ref b89), (.ref b88), (.ref b88)])) _
    refine st103 _ ?_
    refine XS.dup X103.here hx rfl (hb hby d2_173) rfl rfl ?_
    refine XS.bipush X103.here hx rfl (hb hby d2_174) ?_
    refine XS.bipush X103.here hx rfl (hb hby d2_176) ?_
    show Steps p.tables e below (T103.setTop (mkF m 178 #[.val (.int (1 : Int32)), .val (.int x), .val (.int y), .val (.int z)] [(.int (109 : Int32)), (.int (14 : Int32)), (.ref b89), (.ref b89), (.ref b88), (.ref b88)])) _
    refine st104 _ ?_
    refine XS.dup X104.here hx rfl (hb hby d2_179) rfl rfl ?_
    refine XS.bipush X104.here hx rfl (hb hby d2_180) ?_
    refine XS.bipush X104.here hx rfl (hb hby d2_182) ?_
    show Steps p.tables e below (T104.setTop (mkF m 184 #[.val (.int (1 : Int32)), .val (.int x), .val (.int y), .val (.int z)] [(.int (108 : Int32)), (.int (15 : Int32)), (.ref b89), (.ref b89), (.ref b88), (.ref b88)])) _
    refine st105 _ ?_
    show Steps p.tables e below (T105.setTop (mkF m 185 #[.val (.int (1 : Int32)), .val (.int x), .val (.int y), .val (.int z)] [(.ref b89), (.ref b88), (.ref b88)])) _
    refine st106.trans ?_
    show Steps p.tables e below (T106.setTop (mkF m 188 #[.val (.int (1 : Int32)), .val (.int x), .val (.int y), .val (.int z)] [(.ref b88)])) _
    jvm_step X106.here [X106.here.top, hx, (hb hby d2_188), X106.method', Bd.returns, Value.isRef, FieldType.isReference]
    first | (intro acts; rw [hr _ acts rfl rfl rfl]) | rw [hr _ _ rfl rfl rfl]
    exact Steps.refl _
  · show QV Z 16 (Lb (gl [x, y, z, (46 : Int32), (98 : Int32), (117 : Int32), (115 : Int32), (105 : Int32), (110 : Int32), (101 : Int32), (115 : Int32), (115 : Int32), (46 : Int32), (120 : Int32), (109 : Int32), (108 : Int32)])) h0 n0 _ T106.heap _
    exact ⟨b88, rfl, N106, KK106, S106⟩
set_option maxRecDepth 65536 in
set_option maxHeartbeats 40000000 in
theorem rmW2 (l : Launch) (Z : State) (a0 : Array Value) (hw : ∀ d ∈ tables_1, d.before a0 Z = true) (ws : List Jvm.Cond) (x y z : Int32)  (h0 : Heap) (n0 : Nat) (Z0 : n0 ≤ h0.size) (O : Old Z n0 h0) (SK : StrSta Z) (hx8 : isB x) (hy8 : isB y) (hz8 : isB z)  :
    MetFree l (⟨"com/example/trestle/trestle/ResourceKindIdPinLaw", "withPrefix", "(ICCC)Ljava/lang/String;"⟩ : MethodName) (head1 (Jvm.Cond.code (⟨"com/example/trestle/trestle/ResourceKindIdPinLaw", "withPrefix", "(ICCC)Ljava/lang/String;"⟩ : MethodName) method_5_code 4 (some (.object "java/lang/String")) :: ws) ({ frames := 6, cells := 4, slots := 100, locals := 150 } : Room)) (fun aa_ U_ => aa_ = #[(.int (2 : Int32)), (.int x), (.int y), (.int z)] ∧ Z.Warmed39 U_.vm ∧ U_.heap = h0) (fun _ _ _ _ _ => True) (fun _ U_ o_ V_ => ∃ v_ L_, o_ = .returned v_ ∧ QV Z 6 (Lb (gl [x, y, z, (46 : Int32), (120 : Int32), (113 : Int32)])) h0 n0 v_ V_.heap L_ ∧ FrameEnd U_ o_ V_ L_ ({ frames := 6, cells := 4, slots := 100, locals := 150 } : Room).cells ({ frames := 6, cells := 4, slots := 100, locals := 150 } : Room).slots) := by
  refine MetFree.of_bodySF (plainFor_of_name pn_2) hisR ?_
  intro p e s m args below meth c s₁ Bd hml0 hP hK
  obtain ⟨rfl, hZ, hh⟩ := hP
  have hx := Bd.exec
  have hby := Bd.bytes
  have hml : c.maxLocals = 4 := hml0
  have hown : s.vm.findClass "com/example/trestle/trestle/ResourceKindIdPinLaw" = some m.cls := findClass_of_methodNamed Bd.named
  have hnm := (name_of_methodNamed Bd.named Bd.method).1
  have X0 : Stand p l e ({ frames := 6, cells := 4, slots := 100, locals := 150 } : Room) s m #[(.int (2 : Int32)), (.int x), (.int y), (.int z)] below meth c s₁ [] 0 0 := Stand.of_body Bd
  have e0 : s₁.heap = h0 := by rw [← hh, Bd.state]; rfl
  have N0 := Fr.nil n0
  have pre0 : ∀ zz, Steps p.tables e below (s₁.setTop (mkF m 0 #[.val (.int (2 : Int32)), .val (.int x), .val (.int y), .val (.int z)] [])) zz → Steps p.tables e below (s₁.setTop (entryFrame m #[(.int (2 : Int32)), (.int x), (.int y), (.int z)] 4)) zz := fun zz kz_ => castTop (ef_2 m (2 : Int32) x y z) kz_
  obtain ⟨T107, h107, X107, e107, E107, A107, D107, -, st107⟩ := newO X0 hx hZ hown (hw _ (List.mem_of_getElem? (i := 11) rfl)) (hw _ (List.mem_of_getElem? (i := 12) rfl)) (hw _ (List.mem_of_getElem? (i := 13) rfl)) e0 (g := (mkF m 194 #[.val (.int (2 : Int32)), .val (.int x), .val (.int y), .val (.int z)] [])) rfl (hb hby d2_194) (by decide) (by decide)
  obtain ⟨b107, g107⟩ : ∃ z, z = h0.size := ⟨_, rfl⟩
  rw [← g107] at A107 D107 st107
  have E_b107 := A107
  have g_b107 : n0 ≤ b107 := Nat.le_trans Z0 (Nat.le_of_eq g107.symm)
  have sz_b107 : h0.size ≤ b107 := Nat.le_trans (Keep.refl h0 []).1 (Nat.le_of_eq g107.symm)
  have K107 := (Keep.refl h0 []).ext E107
  have Z107 : n0 ≤ h107.size := Nat.le_trans Z0 E107.1
  have F_coder_b107 : Fld Z h107 b107 "java/lang/String" "coder" "B" (.int (0 : Int32)) := D107 (Or.inr (hw _ (List.mem_of_getElem? (i := 38) rfl))) (ty := .byte) (by decide)
  have F_value_b107 : Fld Z h107 b107 "java/lang/String" "value" "[B" .null := D107 (Or.inr (hw _ (List.mem_of_getElem? (i := 40) rfl))) (ty := (.array .byte)) (by decide)
  have O107 := O.ext E107
  obtain ⟨T108, h108, X108, e108, E108, A108, st108⟩ := nwA X107 hx hZ (hw _ (List.mem_of_getElem? (i := 14) rfl)) e107 (g := (mkF m 200 #[.val (.int (2 : Int32)), .val (.int x), .val (.int y), .val (.int z)] [(.int (6 : Int32)), (.ref b107), (.ref b107)])) rfl (hb hby d2_200) (n := 6) rfl (cap := 6) (by decide) (by decide) (by decide) (by decide)
  obtain ⟨b108, q108⟩ : ∃ z, z = h107.size := ⟨_, rfl⟩
  rw [← q108] at A108 st108
  have V108 : AF Z h108 b108 .char 6 (fun _ => (.int (0 : Int32))) := A108
  have g_b108 : n0 ≤ b108 := Nat.le_trans Z107 (Nat.le_of_eq q108.symm)
  have sz_b108 : h0.size ≤ b108 := Nat.le_trans K107.1 (Nat.le_of_eq q108.symm)
  have K108 := K107.ext E108
  have Z108 : n0 ≤ h108.size := Nat.le_trans Z107 E108.1
  have ne_b107_b108 : b107 ≠ b108 := Nat.ne_of_lt (Nat.lt_of_lt_of_le E_b107.lt (Nat.le_of_eq q108.symm))
  have E_b107_e108 := E_b107.ext E108
  have F_coder_b107_e108 := F_coder_b107.ext E108
  have F_value_b107_e108 := F_value_b107.ext E108
  have O108 := O107.ext E108
  obtain ⟨T109, h109, X109, e109, W109, st109⟩ := stCh X108 hx hZ e108 V108 (i := 0) (by decide) (by decide) (x := x) (g := (mkF m 205 #[.val (.int (2 : Int32)), .val (.int x), .val (.int y), .val (.int z)] [(.int x), (.int (0 : Int32)), (.ref b108), (.ref b108), (.ref b107), (.ref b107)])) rfl rfl (hb hby d2_205)
  have A109 := V108.wr W109
  have E_b107_e109 := E_b107_e108.wr W109
  have F_coder_b107_e109 := F_coder_b107_e108.other W109 (Or.inl ne_b107_b108)
  have F_value_b107_e109 := F_value_b107_e108.other W109 (Or.inl ne_b107_b108)
  have N109 := Fr.snoc X109 N0 g_b108
  have K109 := K108.wr W109 (Or.inr sz_b108)
  have Z109 : n0 ≤ h109.size := Nat.le_trans Z108 (Keep.of_wr W109).1
  have O109 := O108.wr W109 g_b108
  obtain ⟨T110, h110, X110, e110, W110, st110⟩ := stCh X109 hx hZ e109 A109 (i := 1) (by decide) (by decide) (x := y) (g := (mkF m 209 #[.val (.int (2 : Int32)), .val (.int x), .val (.int y), .val (.int z)] [(.int y), (.int (1 : Int32)), (.ref b108), (.ref b108), (.ref b107), (.ref b107)])) rfl rfl (hb hby d2_209)
  have A110 := A109.wr W110
  have E_b107_e110 := E_b107_e109.wr W110
  have F_coder_b107_e110 := F_coder_b107_e109.other W110 (Or.inl ne_b107_b108)
  have F_value_b107_e110 := F_value_b107_e109.other W110 (Or.inl ne_b107_b108)
  have N110 := Fr.snoc X110 N109 g_b108
  have K110 := K109.wr W110 (Or.inr sz_b108)
  have Z110 : n0 ≤ h110.size := Nat.le_trans Z109 (Keep.of_wr W110).1
  have O110 := O109.wr W110 g_b108
  obtain ⟨T111, h111, X111, e111, W111, st111⟩ := stCh X110 hx hZ e110 A110 (i := 2) (by decide) (by decide) (x := z) (g := (mkF m 213 #[.val (.int (2 : Int32)), .val (.int x), .val (.int y), .val (.int z)] [(.int z), (.int (2 : Int32)), (.ref b108), (.ref b108), (.ref b107), (.ref b107)])) rfl rfl (hb hby d2_213)
  have A111 := A110.wr W111
  have E_b107_e111 := E_b107_e110.wr W111
  have F_coder_b107_e111 := F_coder_b107_e110.other W111 (Or.inl ne_b107_b108)
  have F_value_b107_e111 := F_value_b107_e110.other W111 (Or.inl ne_b107_b108)
  have N111 := Fr.snoc X111 N110 g_b108
  have K111 := K110.wr W111 (Or.inr sz_b108)
  have Z111 : n0 ≤ h111.size := Nat.le_trans Z110 (Keep.of_wr W111).1
  have O111 := O110.wr W111 g_b108
  obtain ⟨T112, h112, X112, e112, W112, st112⟩ := stCh X111 hx hZ e111 A111 (i := 3) (by decide) (by decide) (x := (46 : Int32)) (g := (mkF m 218 #[.val (.int (2 : Int32)), .val (.int x), .val (.int y), .val (.int z)] [(.int (46 : Int32)), (.int (3 : Int32)), (.ref b108), (.ref b108), (.ref b107), (.ref b107)])) rfl rfl (hb hby d2_218)
  have A112 := A111.wr W112
  have E_b107_e112 := E_b107_e111.wr W112
  have F_coder_b107_e112 := F_coder_b107_e111.other W112 (Or.inl ne_b107_b108)
  have F_value_b107_e112 := F_value_b107_e111.other W112 (Or.inl ne_b107_b108)
  have N112 := Fr.snoc X112 N111 g_b108
  have K112 := K111.wr W112 (Or.inr sz_b108)
  have Z112 : n0 ≤ h112.size := Nat.le_trans Z111 (Keep.of_wr W112).1
  have O112 := O111.wr W112 g_b108
  obtain ⟨T113, h113, X113, e113, W113, st113⟩ := stCh X112 hx hZ e112 A112 (i := 4) (by decide) (by decide) (x := (120 : Int32)) (g := (mkF m 223 #[.val (.int (2 : Int32)), .val (.int x), .val (.int y), .val (.int z)] [(.int (120 : Int32)), (.int (4 : Int32)), (.ref b108), (.ref b108), (.ref b107), (.ref b107)])) rfl rfl (hb hby d2_223)
  have A113 := A112.wr W113
  have E_b107_e113 := E_b107_e112.wr W113
  have F_coder_b107_e113 := F_coder_b107_e112.other W113 (Or.inl ne_b107_b108)
  have F_value_b107_e113 := F_value_b107_e112.other W113 (Or.inl ne_b107_b108)
  have N113 := Fr.snoc X113 N112 g_b108
  have K113 := K112.wr W113 (Or.inr sz_b108)
  have Z113 : n0 ≤ h113.size := Nat.le_trans Z112 (Keep.of_wr W113).1
  have O113 := O112.wr W113 g_b108
  obtain ⟨T114, h114, X114, e114, W114, st114⟩ := stCh X113 hx hZ e113 A113 (i := 5) (by decide) (by decide) (x := (113 : Int32)) (g := (mkF m 228 #[.val (.int (2 : Int32)), .val (.int x), .val (.int y), .val (.int z)] [(.int (113 : Int32)), (.int (5 : Int32)), (.ref b108), (.ref b108), (.ref b107), (.ref b107)])) rfl rfl (hb hby d2_228)
  have A114 := A113.wr W114
  have E_b107_e114 := E_b107_e113.wr W114
  have F_coder_b107_e114 := F_coder_b107_e113.other W114 (Or.inl ne_b107_b108)
  have F_value_b107_e114 := F_value_b107_e113.other W114 (Or.inl ne_b107_b108)
  have N114 := Fr.snoc X114 N113 g_b108
  have K114 := K113.wr W114 (Or.inr sz_b108)
  have Z114 : n0 ≤ h114.size := Nat.le_trans Z113 (Keep.of_wr W114).1
  have O114 := O113.wr W114 g_b108
  have hBb107 : ∀ j, isB (gl [x, y, z, (46 : Int32), (120 : Int32), (113 : Int32)] j) := glB (List.forall_mem_cons.mpr ⟨hx8, (List.forall_mem_cons.mpr ⟨hy8, (List.forall_mem_cons.mpr ⟨hz8, (List.forall_mem_cons.mpr ⟨⟨by decide, by decide⟩, (List.forall_mem_cons.mpr ⟨⟨by decide, by decide⟩, (List.forall_mem_cons.mpr ⟨⟨by decide, by decide⟩, (fun _ q => absurd q List.not_mem_nil)⟩)⟩)⟩)⟩)⟩)⟩)
  obtain ⟨_, _, ⟨T115, L115, k115, n115⟩, -, X115, ⟨Lc115, hQ115, l115, y115, z115⟩, st115⟩ := X114.specialBack hx (y := (⟨"java/lang/String", "<init>", "([C)V"⟩ : MethodName)) rfl hown (mvT hZ (hw _ (List.mem_of_getElem? (i := 15) rfl))) (mvT hZ (hw _ (List.mem_of_getElem? (i := 16) rfl))) (mvT hZ (hw _ (List.mem_of_getElem? (i := 17) rfl))) (by decide) (backOf (W := 1) (rmI1 l Z a0 hw [] b107 b108 6 (gl [x, y, z, (46 : Int32), (120 : Int32), (113 : Int32)]) h114 n0 Z114 (by decide) (by decide) O114 SK (A114.congr (updS (updS (updS (updS (updS (updS upd0 (congrArg Value.int (nar_id (isCh_of hx8)))) (congrArg Value.int (nar_id (isCh_of hy8)))) (congrArg Value.int (nar_id (isCh_of hz8)))) rfl) rfl) rfl)) (fun j _ => isCh_of (hBb107 j)) E_b107_e114 F_value_b107_e114 F_coder_b107_e114 g_b107 (Ne.symm ne_b107_b108) (fun j _ => notBig (hBb107 j))) hZ (hw _ (List.mem_of_getElem? (i := 17) rfl)) (hw _ (List.mem_of_getElem? (i := 13) rfl)) (by decide) (by decide)) (g := (mkF m 229 #[.val (.int (2 : Int32)), .val (.int x), .val (.int y), .val (.int z)] [(.ref b108), (.ref b107), (.ref b107)])) rfl (by rw [hml]; rfl) (Steps.refl _) (a := b107) (argsL := [(.ref b108)]) (rest := [(.ref b107)]) (lenOf pd_2 rfl) rfl (by show 2 * 0 + _ ≤ _; exact Nat.le_of_eq rfl) (hb hby d2_229) (fun _ _ => ⟨rfl, e114, (by decide : 2 + 2 ≤ _), (by decide : 10 + 60 ≤ _)⟩)
  dsimp only [Pt.U, Pt.locs, Pt.cells, Pt.slots] at X115 l115 y115 z115 st115 hQ115
  subst l115 y115 z115
  obtain ⟨rfl, N115q, K115, S115⟩ := hQ115
  have N115 := Fr.app N114 N115q
  have KK115 := K114.trans K115 (fun x r => by cases List.mem_singleton.mp r; exact (Or.inr sz_b107))
  have Z115 : n0 ≤ T115.heap.size := Nat.le_trans Z114 K115.1
  have O115 := O114.keep K115 (all1 g_b107)
  obtain ⟨fs, hr, hrun, hended, hW, hsame⟩ := X115.leave (v := some (.ref b107)) (fun h => by rw [Bd.returns] at h; cases h)
  refine ⟨_, _, pre0 _ ?_, hrun, hended, _, _, rfl, ?_, ⟨_, rfl⟩, hW, hsame.mono (by decide) (by decide)⟩
  · show Steps p.tables e below (s₁.setTop (mkF m 0 #[.val (.int (2 : Int32)), .val (.int x), .val (.int y), .val (.int z)] [])) _
    refine XS.iloadN X0.here hx rfl (hb hby d2_0) rfl ?_
    refine XS.ifYes X0.here hx rfl (pc0 := 1) (pc' := 85) rfl (hb hby d2_1) rfl ((if0 _ _).trans (feq (by decide : ¬ ((2 : Int32) = (0 : Int32)))).2) (by decide) (by decide) ?_
    refine XS.iloadN X0.here hx rfl (hb hby d2_85) rfl ?_
    refine XS.iconst X0.here hx rfl (hb hby d2_86) ?_
    refine XS.icmpYes X0.here hx rfl (pc0 := 87) (pc' := 189) rfl (hb hby d2_87) rfl (feq (by decide : ¬ ((2 : Int32) = (1 : Int32)))).2 (by decide) (by decide) ?_
    refine XS.iloadN X0.here hx rfl (hb hby d2_189) rfl ?_
    show Steps p.tables e below (s₁.setTop (mkF m 190 #[.val (.int (2 : Int32)), .val (.int x), .val (.int y), .val (.int z)] [(.int (2 : Int32))])) _
    refine XS.iconst X0.here hx rfl (hb hby d2_190) ?_
    refine XS.icmpNo X0.here hx rfl (hb hby d2_191) rfl (teq (rfl : (2 : Int32) = (2 : Int32))).2 ?_
    show Steps p.tables e below (s₁.setTop (mkF m 194 #[.val (.int (2 : Int32)), .val (.int x), .val (.int y), .val (.int z)] [])) _
    refine st107 _ ?_
    refine XS.dup X107.here hx rfl (hb hby d2_197) rfl rfl ?_
    refine XS.bipush X107.here hx rfl (hb hby d2_198) ?_
    show Steps p.tables e below (T107.setTop (mkF m 200 #[.val (.int (2 : Int32)), .val (.int x), .val (.int y), .val (.int z)] [(.int (6 : Int32)), (.ref b107), (.ref b107)])) _
    refine st108 _ ?_
    refine XS.dup X108.here hx rfl (hb hby d2_202) rfl rfl ?_
    refine XS.iconst X108.here hx rfl (hb hby d2_203) ?_
    refine XS.iloadN X108.here hx rfl (hb hby d2_204) rfl ?_
    show Steps p.tables e below (T108.setTop (mkF m 205 #[.val (.int (2 : Int32)), .val (.int x), .val (.int y), .val (.int z)] [(.int x), (.int (0 : Int32)), (.ref b108), (.ref b108), (.ref b107), (.ref b107)])) _
    refine st109 _ ?_
    refine XS.dup X109.here hx rfl (hb hby d2_206) rfl rfl ?_
    refine XS.iconst X109.here hx rfl (hb hby d2_207) ?_
    refine XS.iloadN X109.here hx rfl (hb hby d2_208) rfl ?_
    show Steps p.tables e below (T109.setTop (mkF m 209 #[.val (.int (2 : Int32)), .val (.int x), .val (.int y), .val (.int z)] [(.int y), (.int (1 : Int32)), (.ref b108), (.ref b108), (.ref b107), (.ref b107)])) _
    refine st110 _ ?_
    refine XS.dup X110.here hx rfl (hb hby d2_210) rfl rfl ?_
    refine XS.iconst X110.here hx rfl (hb hby d2_211) ?_
    refine XS.iloadN X110.here hx rfl (hb hby d2_212) rfl ?_
    show Steps p.tables e below (T110.setTop (mkF m 213 #[.val (.int (2 : Int32)), .val (.int x), .val (.int y), .val (.int z)] [(.int z), (.int (2 : Int32)), (.ref b108), (.ref b108), (.ref b107), (.ref b107)])) _
    refine st111 _ ?_
    refine XS.dup X111.here hx rfl (hb hby d2_214) rfl rfl ?_
    refine XS.iconst X111.here hx rfl (hb hby d2_215) ?_
    refine XS.bipush X111.here hx rfl (hb hby d2_216) ?_
    show Steps p.tables e below (T111.setTop (mkF m 218 #[.val (.int (2 : Int32)), .val (.int x), .val (.int y), .val (.int z)] [(.int (46 : Int32)), (.int (3 : Int32)), (.ref b108), (.ref b108), (.ref b107), (.ref b107)])) _
    refine st112 _ ?_
    refine XS.dup X112.here hx rfl (hb hby d2_219) rfl rfl ?_
    refine XS.iconst X112.here hx rfl (hb hby d2_220) ?_
    refine XS.bipush X112.here hx rfl (hb hby d2_221) ?_
    show Steps p.tables e below (T112.setTop (mkF m 223 #[.val (.int (2 : Int32)), .val (.int x), .val (.int y), .val (.int z)] [(.int (120 : Int32)), (.int (4 : Int32)), (.ref b108), (.ref b108), (.ref b107), (.ref b107)])) _
    refine st113 _ ?_
    refine XS.dup X113.here hx rfl (hb hby d2_224) rfl rfl ?_
    refine XS.iconst X113.here hx rfl (hb hby d2_225) ?_
    refine XS.bipush X113.here hx rfl (hb hby d2_226) ?_
    show Steps p.tables e below (T113.setTop (mkF m 228 #[.val (.int (2 : Int32)), .val (.int x), .val (.int y), .val (.int z)] [(.int (113 : Int32)), (.int (5 : Int32)), (.ref b108), (.ref b108), (.ref b107), (.ref b107)])) _
    refine st114 _ ?_
    show Steps p.tables e below (T114.setTop (mkF m 229 #[.val (.int (2 : Int32)), .val (.int x), .val (.int y), .val (.int z)] [(.ref b108), (.ref b107), (.ref b107)])) _
    refine st115.trans ?_
    show Steps p.tables e below (T115.setTop (mkF m 232 #[.val (.int (2 : Int32)), .val (.int x), .val (.int y), .val (.int z)] [(.ref b107)])) _
    jvm_step X115.here [X115.here.top, hx, (hb hby d2_232), X115.method', Bd.returns, Value.isRef, FieldType.isReference]
    first | (intro acts; rw [hr _ acts rfl rfl rfl]) | rw [hr _ _ rfl rfl rfl]
    exact Steps.refl _
  · show QV Z 6 (Lb (gl [x, y, z, (46 : Int32), (120 : Int32), (113 : Int32)])) h0 n0 _ T115.heap _
    exact ⟨b107, rfl, N115, KK115, S115⟩
set_option maxRecDepth 65536 in
set_option maxHeartbeats 40000000 in
theorem rmW3 (l : Launch) (Z : State) (a0 : Array Value) (hw : ∀ d ∈ tables_1, d.before a0 Z = true) (ws : List Jvm.Cond) (x y z : Int32)  (h0 : Heap) (n0 : Nat) (Z0 : n0 ≤ h0.size) (O : Old Z n0 h0) (SK : StrSta Z) (hx8 : isB x) (hy8 : isB y) (hz8 : isB z)  :
    MetFree l (⟨"com/example/trestle/trestle/ResourceKindIdPinLaw", "withPrefix", "(ICCC)Ljava/lang/String;"⟩ : MethodName) (head1 (Jvm.Cond.code (⟨"com/example/trestle/trestle/ResourceKindIdPinLaw", "withPrefix", "(ICCC)Ljava/lang/String;"⟩ : MethodName) method_5_code 4 (some (.object "java/lang/String")) :: ws) ({ frames := 6, cells := 4, slots := 100, locals := 150 } : Room)) (fun aa_ U_ => aa_ = #[(.int (3 : Int32)), (.int x), (.int y), (.int z)] ∧ Z.Warmed39 U_.vm ∧ U_.heap = h0) (fun _ _ _ _ _ => True) (fun _ U_ o_ V_ => ∃ v_ L_, o_ = .returned v_ ∧ QV Z 7 (Lb (gl [x, y, z, (46 : Int32), (120 : Int32), (115 : Int32), (108 : Int32)])) h0 n0 v_ V_.heap L_ ∧ FrameEnd U_ o_ V_ L_ ({ frames := 6, cells := 4, slots := 100, locals := 150 } : Room).cells ({ frames := 6, cells := 4, slots := 100, locals := 150 } : Room).slots) := by
  refine MetFree.of_bodySF (plainFor_of_name pn_2) hisR ?_
  intro p e s m args below meth c s₁ Bd hml0 hP hK
  obtain ⟨rfl, hZ, hh⟩ := hP
  have hx := Bd.exec
  have hby := Bd.bytes
  have hml : c.maxLocals = 4 := hml0
  have hown : s.vm.findClass "com/example/trestle/trestle/ResourceKindIdPinLaw" = some m.cls := findClass_of_methodNamed Bd.named
  have hnm := (name_of_methodNamed Bd.named Bd.method).1
  have X0 : Stand p l e ({ frames := 6, cells := 4, slots := 100, locals := 150 } : Room) s m #[(.int (3 : Int32)), (.int x), (.int y), (.int z)] below meth c s₁ [] 0 0 := Stand.of_body Bd
  have e0 : s₁.heap = h0 := by rw [← hh, Bd.state]; rfl
  have N0 := Fr.nil n0
  have pre0 : ∀ zz, Steps p.tables e below (s₁.setTop (mkF m 0 #[.val (.int (3 : Int32)), .val (.int x), .val (.int y), .val (.int z)] [])) zz → Steps p.tables e below (s₁.setTop (entryFrame m #[(.int (3 : Int32)), (.int x), (.int y), (.int z)] 4)) zz := fun zz kz_ => castTop (ef_2 m (3 : Int32) x y z) kz_
  obtain ⟨T116, h116, X116, e116, E116, A116, D116, -, st116⟩ := newO X0 hx hZ hown (hw _ (List.mem_of_getElem? (i := 11) rfl)) (hw _ (List.mem_of_getElem? (i := 12) rfl)) (hw _ (List.mem_of_getElem? (i := 13) rfl)) e0 (g := (mkF m 238 #[.val (.int (3 : Int32)), .val (.int x), .val (.int y), .val (.int z)] [])) rfl (hb hby d2_238) (by decide) (by decide)
  obtain ⟨b116, g116⟩ : ∃ z, z = h0.size := ⟨_, rfl⟩
  rw [← g116] at A116 D116 st116
  have E_b116 := A116
  have g_b116 : n0 ≤ b116 := Nat.le_trans Z0 (Nat.le_of_eq g116.symm)
  have sz_b116 : h0.size ≤ b116 := Nat.le_trans (Keep.refl h0 []).1 (Nat.le_of_eq g116.symm)
  have K116 := (Keep.refl h0 []).ext E116
  have Z116 : n0 ≤ h116.size := Nat.le_trans Z0 E116.1
  have F_coder_b116 : Fld Z h116 b116 "java/lang/String" "coder" "B" (.int (0 : Int32)) := D116 (Or.inr (hw _ (List.mem_of_getElem? (i := 38) rfl))) (ty := .byte) (by decide)
  have F_value_b116 : Fld Z h116 b116 "java/lang/String" "value" "[B" .null := D116 (Or.inr (hw _ (List.mem_of_getElem? (i := 40) rfl))) (ty := (.array .byte)) (by decide)
  have O116 := O.ext E116
  obtain ⟨T117, h117, X117, e117, E117, A117, st117⟩ := nwA X116 hx hZ (hw _ (List.mem_of_getElem? (i := 14) rfl)) e116 (g := (mkF m 244 #[.val (.int (3 : Int32)), .val (.int x), .val (.int y), .val (.int z)] [(.int (7 : Int32)), (.ref b116), (.ref b116)])) rfl (hb hby d2_244) (n := 7) rfl (cap := 7) (by decide) (by decide) (by decide) (by decide)
  obtain ⟨b117, q117⟩ : ∃ z, z = h116.size := ⟨_, rfl⟩
  rw [← q117] at A117 st117
  have V117 : AF Z h117 b117 .char 7 (fun _ => (.int (0 : Int32))) := A117
  have g_b117 : n0 ≤ b117 := Nat.le_trans Z116 (Nat.le_of_eq q117.symm)
  have sz_b117 : h0.size ≤ b117 := Nat.le_trans K116.1 (Nat.le_of_eq q117.symm)
  have K117 := K116.ext E117
  have Z117 : n0 ≤ h117.size := Nat.le_trans Z116 E117.1
  have ne_b116_b117 : b116 ≠ b117 := Nat.ne_of_lt (Nat.lt_of_lt_of_le E_b116.lt (Nat.le_of_eq q117.symm))
  have E_b116_e117 := E_b116.ext E117
  have F_coder_b116_e117 := F_coder_b116.ext E117
  have F_value_b116_e117 := F_value_b116.ext E117
  have O117 := O116.ext E117
  obtain ⟨T118, h118, X118, e118, W118, st118⟩ := stCh X117 hx hZ e117 V117 (i := 0) (by decide) (by decide) (x := x) (g := (mkF m 249 #[.val (.int (3 : Int32)), .val (.int x), .val (.int y), .val (.int z)] [(.int x), (.int (0 : Int32)), (.ref b117), (.ref b117), (.ref b116), (.ref b116)])) rfl rfl (hb hby d2_249)
  have A118 := V117.wr W118
  have E_b116_e118 := E_b116_e117.wr W118
  have F_coder_b116_e118 := F_coder_b116_e117.other W118 (Or.inl ne_b116_b117)
  have F_value_b116_e118 := F_value_b116_e117.other W118 (Or.inl ne_b116_b117)
  have N118 := Fr.snoc X118 N0 g_b117
  have K118 := K117.wr W118 (Or.inr sz_b117)
  have Z118 : n0 ≤ h118.size := Nat.le_trans Z117 (Keep.of_wr W118).1
  have O118 := O117.wr W118 g_b117
  obtain ⟨T119, h119, X119, e119, W119, st119⟩ := stCh X118 hx hZ e118 A118 (i := 1) (by decide) (by decide) (x := y) (g := (mkF m 253 #[.val (.int (3 : Int32)), .val (.int x), .val (.int y), .val (.int z)] [(.int y), (.int (1 : Int32)), (.ref b117), (.ref b117), (.ref b116), (.ref b116)])) rfl rfl (hb hby d2_253)
  have A119 := A118.wr W119
  have E_b116_e119 := E_b116_e118.wr W119
  have F_coder_b116_e119 := F_coder_b116_e118.other W119 (Or.inl ne_b116_b117)
  have F_value_b116_e119 := F_value_b116_e118.other W119 (Or.inl ne_b116_b117)
  have N119 := Fr.snoc X119 N118 g_b117
  have K119 := K118.wr W119 (Or.inr sz_b117)
  have Z119 : n0 ≤ h119.size := Nat.le_trans Z118 (Keep.of_wr W119).1
  have O119 := O118.wr W119 g_b117
  obtain ⟨T120, h120, X120, e120, W120, st120⟩ := stCh X119 hx hZ e119 A119 (i := 2) (by decide) (by decide) (x := z) (g := (mkF m 257 #[.val (.int (3 : Int32)), .val (.int x), .val (.int y), .val (.int z)] [(.int z), (.int (2 : Int32)), (.ref b117), (.ref b117), (.ref b116), (.ref b116)])) rfl rfl (hb hby d2_257)
  have A120 := A119.wr W120
  have E_b116_e120 := E_b116_e119.wr W120
  have F_coder_b116_e120 := F_coder_b116_e119.other W120 (Or.inl ne_b116_b117)
  have F_value_b116_e120 := F_value_b116_e119.other W120 (Or.inl ne_b116_b117)
  have N120 := Fr.snoc X120 N119 g_b117
  have K120 := K119.wr W120 (Or.inr sz_b117)
  have Z120 : n0 ≤ h120.size := Nat.le_trans Z119 (Keep.of_wr W120).1
  have O120 := O119.wr W120 g_b117
  obtain ⟨T121, h121, X121, e121, W121, st121⟩ := stCh X120 hx hZ e120 A120 (i := 3) (by decide) (by decide) (x := (46 : Int32)) (g := (mkF m 262 #[.val (.int (3 : Int32)), .val (.int x), .val (.int y), .val (.int z)] [(.int (46 : Int32)), (.int (3 : Int32)), (.ref b117), (.ref b117), (.ref b116), (.ref b116)])) rfl rfl (hb hby d2_262)
  have A121 := A120.wr W121
  have E_b116_e121 := E_b116_e120.wr W121
  have F_coder_b116_e121 := F_coder_b116_e120.other W121 (Or.inl ne_b116_b117)
  have F_value_b116_e121 := F_value_b116_e120.other W121 (Or.inl ne_b116_b117)
  have N121 := Fr.snoc X121 N120 g_b117
  have K121 := K120.wr W121 (Or.inr sz_b117)
  have Z121 : n0 ≤ h121.size := Nat.le_trans Z120 (Keep.of_wr W121).1
  have O121 := O120.wr W121 g_b117
  obtain ⟨T122, h122, X122, e122, W122, st122⟩ := stCh X121 hx hZ e121 A121 (i := 4) (by decide) (by decide) (x := (120 : Int32)) (g := (mkF m 267 #[.val (.int (3 : Int32)), .val (.int x), .val (.int y), .val (.int z)] [(.int (120 : Int32)), (.int (4 : Int32)), (.ref b117), (.ref b117), (.ref b116), (.ref b116)])) rfl rfl (hb hby d2_267)
  have A122 := A121.wr W122
  have E_b116_e122 := E_b116_e121.wr W122
  have F_coder_b116_e122 := F_coder_b116_e121.other W122 (Or.inl ne_b116_b117)
  have F_value_b116_e122 := F_value_b116_e121.other W122 (Or.inl ne_b116_b117)
  have N122 := Fr.snoc X122 N121 g_b117
  have K122 := K121.wr W122 (Or.inr sz_b117)
  have Z122 : n0 ≤ h122.size := Nat.le_trans Z121 (Keep.of_wr W122).1
  have O122 := O121.wr W122 g_b117
  obtain ⟨T123, h123, X123, e123, W123, st123⟩ := stCh X122 hx hZ e122 A122 (i := 5) (by decide) (by decide) (x := (115 : Int32)) (g := (mkF m 272 #[.val (.int (3 : Int32)), .val (.int x), .val (.int y), .val (.int z)] [(.int (115 : Int32)), (.int (5 : Int32)), (.ref b117), (.ref b117), (.ref b116), (.ref b116)])) rfl rfl (hb hby d2_272)
  have A123 := A122.wr W123
  have E_b116_e123 := E_b116_e122.wr W123
  have F_coder_b116_e123 := F_coder_b116_e122.other W123 (Or.inl ne_b116_b117)
  have F_value_b116_e123 := F_value_b116_e122.other W123 (Or.inl ne_b116_b117)
  have N123 := Fr.snoc X123 N122 g_b117
  have K123 := K122.wr W123 (Or.inr sz_b117)
  have Z123 : n0 ≤ h123.size := Nat.le_trans Z122 (Keep.of_wr W123).1
  have O123 := O122.wr W123 g_b117
  obtain ⟨T124, h124, X124, e124, W124, st124⟩ := stCh X123 hx hZ e123 A123 (i := 6) (by decide) (by decide) (x := (108 : Int32)) (g := (mkF m 278 #[.val (.int (3 : Int32)), .val (.int x), .val (.int y), .val (.int z)] [(.int (108 : Int32)), (.int (6 : Int32)), (.ref b117), (.ref b117), (.ref b116), (.ref b116)])) rfl rfl (hb hby d2_278)
  have A124 := A123.wr W124
  have E_b116_e124 := E_b116_e123.wr W124
  have F_coder_b116_e124 := F_coder_b116_e123.other W124 (Or.inl ne_b116_b117)
  have F_value_b116_e124 := F_value_b116_e123.other W124 (Or.inl ne_b116_b117)
  have N124 := Fr.snoc X124 N123 g_b117
  have K124 := K123.wr W124 (Or.inr sz_b117)
  have Z124 : n0 ≤ h124.size := Nat.le_trans Z123 (Keep.of_wr W124).1
  have O124 := O123.wr W124 g_b117
  have hBb116 : ∀ j, isB (gl [x, y, z, (46 : Int32), (120 : Int32), (115 : Int32), (108 : Int32)] j) := glB (List.forall_mem_cons.mpr ⟨hx8, (List.forall_mem_cons.mpr ⟨hy8, (List.forall_mem_cons.mpr ⟨hz8, (List.forall_mem_cons.mpr ⟨⟨by decide, by decide⟩, (List.forall_mem_cons.mpr ⟨⟨by decide, by decide⟩, (List.forall_mem_cons.mpr ⟨⟨by decide, by decide⟩, (List.forall_mem_cons.mpr ⟨⟨by decide, by decide⟩, (fun _ q => absurd q List.not_mem_nil)⟩)⟩)⟩)⟩)⟩)⟩)⟩)
  obtain ⟨_, _, ⟨T125, L125, k125, n125⟩, -, X125, ⟨Lc125, hQ125, l125, y125, z125⟩, st125⟩ := X124.specialBack hx (y := (⟨"java/lang/String", "<init>", "([C)V"⟩ : MethodName)) rfl hown (mvT hZ (hw _ (List.mem_of_getElem? (i := 15) rfl))) (mvT hZ (hw _ (List.mem_of_getElem? (i := 16) rfl))) (mvT hZ (hw _ (List.mem_of_getElem? (i := 17) rfl))) (by decide) (backOf (W := 1) (rmI1 l Z a0 hw [] b116 b117 7 (gl [x, y, z, (46 : Int32), (120 : Int32), (115 : Int32), (108 : Int32)]) h124 n0 Z124 (by decide) (by decide) O124 SK (A124.congr (updS (updS (updS (updS (updS (updS (updS upd0 (congrArg Value.int (nar_id (isCh_of hx8)))) (congrArg Value.int (nar_id (isCh_of hy8)))) (congrArg Value.int (nar_id (isCh_of hz8)))) rfl) rfl) rfl) rfl)) (fun j _ => isCh_of (hBb116 j)) E_b116_e124 F_value_b116_e124 F_coder_b116_e124 g_b116 (Ne.symm ne_b116_b117) (fun j _ => notBig (hBb116 j))) hZ (hw _ (List.mem_of_getElem? (i := 17) rfl)) (hw _ (List.mem_of_getElem? (i := 13) rfl)) (by decide) (by decide)) (g := (mkF m 279 #[.val (.int (3 : Int32)), .val (.int x), .val (.int y), .val (.int z)] [(.ref b117), (.ref b116), (.ref b116)])) rfl (by rw [hml]; rfl) (Steps.refl _) (a := b116) (argsL := [(.ref b117)]) (rest := [(.ref b116)]) (lenOf pd_2 rfl) rfl (by show 2 * 0 + _ ≤ _; exact Nat.le_of_eq rfl) (hb hby d2_279) (fun _ _ => ⟨rfl, e124, (by decide : 2 + 2 ≤ _), (by decide : 11 + 60 ≤ _)⟩)
  dsimp only [Pt.U, Pt.locs, Pt.cells, Pt.slots] at X125 l125 y125 z125 st125 hQ125
  subst l125 y125 z125
  obtain ⟨rfl, N125q, K125, S125⟩ := hQ125
  have N125 := Fr.app N124 N125q
  have KK125 := K124.trans K125 (fun x r => by cases List.mem_singleton.mp r; exact (Or.inr sz_b116))
  have Z125 : n0 ≤ T125.heap.size := Nat.le_trans Z124 K125.1
  have O125 := O124.keep K125 (all1 g_b116)
  obtain ⟨fs, hr, hrun, hended, hW, hsame⟩ := X125.leave (v := some (.ref b116)) (fun h => by rw [Bd.returns] at h; cases h)
  refine ⟨_, _, pre0 _ ?_, hrun, hended, _, _, rfl, ?_, ⟨_, rfl⟩, hW, hsame.mono (by decide) (by decide)⟩
  · show Steps p.tables e below (s₁.setTop (mkF m 0 #[.val (.int (3 : Int32)), .val (.int x), .val (.int y), .val (.int z)] [])) _
    refine XS.iloadN X0.here hx rfl (hb hby d2_0) rfl ?_
    refine XS.ifYes X0.here hx rfl (pc0 := 1) (pc' := 85) rfl (hb hby d2_1) rfl ((if0 _ _).trans (feq (by decide : ¬ ((3 : Int32) = (0 : Int32)))).2) (by decide) (by decide) ?_
    refine XS.iloadN X0.here hx rfl (hb hby d2_85) rfl ?_
    refine XS.iconst X0.here hx rfl (hb hby d2_86) ?_
    refine XS.icmpYes X0.here hx rfl (pc0 := 87) (pc' := 189) rfl (hb hby d2_87) rfl (feq (by decide : ¬ ((3 : Int32) = (1 : Int32)))).2 (by decide) (by decide) ?_
    refine XS.iloadN X0.here hx rfl (hb hby d2_189) rfl ?_
    show Steps p.tables e below (s₁.setTop (mkF m 190 #[.val (.int (3 : Int32)), .val (.int x), .val (.int y), .val (.int z)] [(.int (3 : Int32))])) _
    refine XS.iconst X0.here hx rfl (hb hby d2_190) ?_
    refine XS.icmpYes X0.here hx rfl (pc0 := 191) (pc' := 233) rfl (hb hby d2_191) rfl (feq (by decide : ¬ ((3 : Int32) = (2 : Int32)))).2 (by decide) (by decide) ?_
    refine XS.iloadN X0.here hx rfl (hb hby d2_233) rfl ?_
    refine XS.iconst X0.here hx rfl (hb hby d2_234) ?_
    refine XS.icmpNo X0.here hx rfl (hb hby d2_235) rfl (teq (rfl : (3 : Int32) = (3 : Int32))).2 ?_
    show Steps p.tables e below (s₁.setTop (mkF m 238 #[.val (.int (3 : Int32)), .val (.int x), .val (.int y), .val (.int z)] [])) _
    refine st116 _ ?_
    refine XS.dup X116.here hx rfl (hb hby d2_241) rfl rfl ?_
    refine XS.bipush X116.here hx rfl (hb hby d2_242) ?_
    show Steps p.tables e below (T116.setTop (mkF m 244 #[.val (.int (3 : Int32)), .val (.int x), .val (.int y), .val (.int z)] [(.int (7 : Int32)), (.ref b116), (.ref b116)])) _
    refine st117 _ ?_
    refine XS.dup X117.here hx rfl (hb hby d2_246) rfl rfl ?_
    refine XS.iconst X117.here hx rfl (hb hby d2_247) ?_
    refine XS.iloadN X117.here hx rfl (hb hby d2_248) rfl ?_
    show Steps p.tables e below (T117.setTop (mkF m 249 #[.val (.int (3 : Int32)), .val (.int x), .val (.int y), .val (.int z)] [(.int x), (.int (0 : Int32)), (.ref b117), (.ref b117), (.ref b116), (.ref b116)])) _
    refine st118 _ ?_
    refine XS.dup X118.here hx rfl (hb hby d2_250) rfl rfl ?_
    refine XS.iconst X118.here hx rfl (hb hby d2_251) ?_
    refine XS.iloadN X118.here hx rfl (hb hby d2_252) rfl ?_
    show Steps p.tables e below (T118.setTop (mkF m 253 #[.val (.int (3 : Int32)), .val (.int x), .val (.int y), .val (.int z)] [(.int y), (.int (1 : Int32)), (.ref b117), (.ref b117), (.ref b116), (.ref b116)])) _
    refine st119 _ ?_
    refine XS.dup X119.here hx rfl (hb hby d2_254) rfl rfl ?_
    refine XS.iconst X119.here hx rfl (hb hby d2_255) ?_
    refine XS.iloadN X119.here hx rfl (hb hby d2_256) rfl ?_
    show Steps p.tables e below (T119.setTop (mkF m 257 #[.val (.int (3 : Int32)), .val (.int x), .val (.int y), .val (.int z)] [(.int z), (.int (2 : Int32)), (.ref b117), (.ref b117), (.ref b116), (.ref b116)])) _
    refine st120 _ ?_
    refine XS.dup X120.here hx rfl (hb hby d2_258) rfl rfl ?_
    refine XS.iconst X120.here hx rfl (hb hby d2_259) ?_
    refine XS.bipush X120.here hx rfl (hb hby d2_260) ?_
    show Steps p.tables e below (T120.setTop (mkF m 262 #[.val (.int (3 : Int32)), .val (.int x), .val (.int y), .val (.int z)] [(.int (46 : Int32)), (.int (3 : Int32)), (.ref b117), (.ref b117), (.ref b116), (.ref b116)])) _
    refine st121 _ ?_
    refine XS.dup X121.here hx rfl (hb hby d2_263) rfl rfl ?_
    refine XS.iconst X121.here hx rfl (hb hby d2_264) ?_
    refine XS.bipush X121.here hx rfl (hb hby d2_265) ?_
    show Steps p.tables e below (T121.setTop (mkF m 267 #[.val (.int (3 : Int32)), .val (.int x), .val (.int y), .val (.int z)] [(.int (120 : Int32)), (.int (4 : Int32)), (.ref b117), (.ref b117), (.ref b116), (.ref b116)])) _
    refine st122 _ ?_
    refine XS.dup X122.here hx rfl (hb hby d2_268) rfl rfl ?_
    refine XS.iconst X122.here hx rfl (hb hby d2_269) ?_
    refine XS.bipush X122.here hx rfl (hb hby d2_270) ?_
    show Steps p.tables e below (T122.setTop (mkF m 272 #[.val (.int (3 : Int32)), .val (.int x), .val (.int y), .val (.int z)] [(.int (115 : Int32)), (.int (5 : Int32)), (.ref b117), (.ref b117), (.ref b116), (.ref b116)])) _
    refine st123 _ ?_
    refine XS.dup X123.here hx rfl (hb hby d2_273) rfl rfl ?_
    refine XS.bipush X123.here hx rfl (hb hby d2_274) ?_
    refine XS.bipush X123.here hx rfl (hb hby d2_276) ?_
    show Steps p.tables e below (T123.setTop (mkF m 278 #[.val (.int (3 : Int32)), .val (.int x), .val (.int y), .val (.int z)] [(.int (108 : Int32)), (.int (6 : Int32)), (.ref b117), (.ref b117), (.ref b116), (.ref b116)])) _
    refine st124 _ ?_
    show Steps p.tables e below (T124.setTop (mkF m 279 #[.val (.int (3 : Int32)), .val (.int x), .val (.int y), .val (.int z)] [(.ref b117), (.ref b116), (.ref b116)])) _
    refine st125.trans ?_
    show Steps p.tables e below (T125.setTop (mkF m 282 #[.val (.int (3 : Int32)), .val (.int x), .val (.int y), .val (.int z)] [(.ref b116)])) _
    jvm_step X125.here [X125.here.top, hx, (hb hby d2_282), X125.method', Bd.returns, Value.isRef, FieldType.isReference]
    first | (intro acts; rw [hr _ acts rfl rfl rfl]) | rw [hr _ _ rfl rfl rfl]
    exact Steps.refl _
  · show QV Z 7 (Lb (gl [x, y, z, (46 : Int32), (120 : Int32), (115 : Int32), (108 : Int32)])) h0 n0 _ T125.heap _
    exact ⟨b116, rfl, N125, KK125, S125⟩
set_option maxRecDepth 65536 in
set_option maxHeartbeats 40000000 in
theorem rmW4 (l : Launch) (Z : State) (a0 : Array Value) (hw : ∀ d ∈ tables_1, d.before a0 Z = true) (ws : List Jvm.Cond) (x y z : Int32)  (h0 : Heap) (n0 : Nat) (Z0 : n0 ≤ h0.size) (O : Old Z n0 h0) (SK : StrSta Z) (hx8 : isB x) (hy8 : isB y) (hz8 : isB z)  :
    MetFree l (⟨"com/example/trestle/trestle/ResourceKindIdPinLaw", "withPrefix", "(ICCC)Ljava/lang/String;"⟩ : MethodName) (head1 (Jvm.Cond.code (⟨"com/example/trestle/trestle/ResourceKindIdPinLaw", "withPrefix", "(ICCC)Ljava/lang/String;"⟩ : MethodName) method_5_code 4 (some (.object "java/lang/String")) :: ws) ({ frames := 6, cells := 4, slots := 100, locals := 150 } : Room)) (fun aa_ U_ => aa_ = #[(.int (4 : Int32)), (.int x), (.int y), (.int z)] ∧ Z.Warmed39 U_.vm ∧ U_.heap = h0) (fun _ _ _ _ _ => True) (fun _ U_ o_ V_ => ∃ v_ L_, o_ = .returned v_ ∧ QV Z 8 (Lb (gl [x, y, z, (46 : Int32), (119 : Int32), (115 : Int32), (100 : Int32), (108 : Int32)])) h0 n0 v_ V_.heap L_ ∧ FrameEnd U_ o_ V_ L_ ({ frames := 6, cells := 4, slots := 100, locals := 150 } : Room).cells ({ frames := 6, cells := 4, slots := 100, locals := 150 } : Room).slots) := by
  refine MetFree.of_bodySF (plainFor_of_name pn_2) hisR ?_
  intro p e s m args below meth c s₁ Bd hml0 hP hK
  obtain ⟨rfl, hZ, hh⟩ := hP
  have hx := Bd.exec
  have hby := Bd.bytes
  have hml : c.maxLocals = 4 := hml0
  have hown : s.vm.findClass "com/example/trestle/trestle/ResourceKindIdPinLaw" = some m.cls := findClass_of_methodNamed Bd.named
  have hnm := (name_of_methodNamed Bd.named Bd.method).1
  have X0 : Stand p l e ({ frames := 6, cells := 4, slots := 100, locals := 150 } : Room) s m #[(.int (4 : Int32)), (.int x), (.int y), (.int z)] below meth c s₁ [] 0 0 := Stand.of_body Bd
  have e0 : s₁.heap = h0 := by rw [← hh, Bd.state]; rfl
  have N0 := Fr.nil n0
  have pre0 : ∀ zz, Steps p.tables e below (s₁.setTop (mkF m 0 #[.val (.int (4 : Int32)), .val (.int x), .val (.int y), .val (.int z)] [])) zz → Steps p.tables e below (s₁.setTop (entryFrame m #[(.int (4 : Int32)), (.int x), (.int y), (.int z)] 4)) zz := fun zz kz_ => castTop (ef_2 m (4 : Int32) x y z) kz_
  obtain ⟨T126, h126, X126, e126, E126, A126, D126, -, st126⟩ := newO X0 hx hZ hown (hw _ (List.mem_of_getElem? (i := 11) rfl)) (hw _ (List.mem_of_getElem? (i := 12) rfl)) (hw _ (List.mem_of_getElem? (i := 13) rfl)) e0 (g := (mkF m 288 #[.val (.int (4 : Int32)), .val (.int x), .val (.int y), .val (.int z)] [])) rfl (hb hby d2_288) (by decide) (by decide)
  obtain ⟨b126, g126⟩ : ∃ z, z = h0.size := ⟨_, rfl⟩
  rw [← g126] at A126 D126 st126
  have E_b126 := A126
  have g_b126 : n0 ≤ b126 := Nat.le_trans Z0 (Nat.le_of_eq g126.symm)
  have sz_b126 : h0.size ≤ b126 := Nat.le_trans (Keep.refl h0 []).1 (Nat.le_of_eq g126.symm)
  have K126 := (Keep.refl h0 []).ext E126
  have Z126 : n0 ≤ h126.size := Nat.le_trans Z0 E126.1
  have F_coder_b126 : Fld Z h126 b126 "java/lang/String" "coder" "B" (.int (0 : Int32)) := D126 (Or.inr (hw _ (List.mem_of_getElem? (i := 38) rfl))) (ty := .byte) (by decide)
  have F_value_b126 : Fld Z h126 b126 "java/lang/String" "value" "[B" .null := D126 (Or.inr (hw _ (List.mem_of_getElem? (i := 40) rfl))) (ty := (.array .byte)) (by decide)
  have O126 := O.ext E126
  obtain ⟨T127, h127, X127, e127, E127, A127, st127⟩ := nwA X126 hx hZ (hw _ (List.mem_of_getElem? (i := 14) rfl)) e126 (g := (mkF m 294 #[.val (.int (4 : Int32)), .val (.int x), .val (.int y), .val (.int z)] [(.int (8 : Int32)), (.ref b126), (.ref b126)])) rfl (hb hby d2_294) (n := 8) rfl (cap := 8) (by decide) (by decide) (by decide) (by decide)
  obtain ⟨b127, q127⟩ : ∃ z, z = h126.size := ⟨_, rfl⟩
  rw [← q127] at A127 st127
  have V127 : AF Z h127 b127 .char 8 (fun _ => (.int (0 : Int32))) := A127
  have g_b127 : n0 ≤ b127 := Nat.le_trans Z126 (Nat.le_of_eq q127.symm)
  have sz_b127 : h0.size ≤ b127 := Nat.le_trans K126.1 (Nat.le_of_eq q127.symm)
  have K127 := K126.ext E127
  have Z127 : n0 ≤ h127.size := Nat.le_trans Z126 E127.1
  have ne_b126_b127 : b126 ≠ b127 := Nat.ne_of_lt (Nat.lt_of_lt_of_le E_b126.lt (Nat.le_of_eq q127.symm))
  have E_b126_e127 := E_b126.ext E127
  have F_coder_b126_e127 := F_coder_b126.ext E127
  have F_value_b126_e127 := F_value_b126.ext E127
  have O127 := O126.ext E127
  obtain ⟨T128, h128, X128, e128, W128, st128⟩ := stCh X127 hx hZ e127 V127 (i := 0) (by decide) (by decide) (x := x) (g := (mkF m 299 #[.val (.int (4 : Int32)), .val (.int x), .val (.int y), .val (.int z)] [(.int x), (.int (0 : Int32)), (.ref b127), (.ref b127), (.ref b126), (.ref b126)])) rfl rfl (hb hby d2_299)
  have A128 := V127.wr W128
  have E_b126_e128 := E_b126_e127.wr W128
  have F_coder_b126_e128 := F_coder_b126_e127.other W128 (Or.inl ne_b126_b127)
  have F_value_b126_e128 := F_value_b126_e127.other W128 (Or.inl ne_b126_b127)
  have N128 := Fr.snoc X128 N0 g_b127
  have K128 := K127.wr W128 (Or.inr sz_b127)
  have Z128 : n0 ≤ h128.size := Nat.le_trans Z127 (Keep.of_wr W128).1
  have O128 := O127.wr W128 g_b127
  obtain ⟨T129, h129, X129, e129, W129, st129⟩ := stCh X128 hx hZ e128 A128 (i := 1) (by decide) (by decide) (x := y) (g := (mkF m 303 #[.val (.int (4 : Int32)), .val (.int x), .val (.int y), .val (.int z)] [(.int y), (.int (1 : Int32)), (.ref b127), (.ref b127), (.ref b126), (.ref b126)])) rfl rfl (hb hby d2_303)
  have A129 := A128.wr W129
  have E_b126_e129 := E_b126_e128.wr W129
  have F_coder_b126_e129 := F_coder_b126_e128.other W129 (Or.inl ne_b126_b127)
  have F_value_b126_e129 := F_value_b126_e128.other W129 (Or.inl ne_b126_b127)
  have N129 := Fr.snoc X129 N128 g_b127
  have K129 := K128.wr W129 (Or.inr sz_b127)
  have Z129 : n0 ≤ h129.size := Nat.le_trans Z128 (Keep.of_wr W129).1
  have O129 := O128.wr W129 g_b127
  obtain ⟨T130, h130, X130, e130, W130, st130⟩ := stCh X129 hx hZ e129 A129 (i := 2) (by decide) (by decide) (x := z) (g := (mkF m 307 #[.val (.int (4 : Int32)), .val (.int x), .val (.int y), .val (.int z)] [(.int z), (.int (2 : Int32)), (.ref b127), (.ref b127), (.ref b126), (.ref b126)])) rfl rfl (hb hby d2_307)
  have A130 := A129.wr W130
  have E_b126_e130 := E_b126_e129.wr W130
  have F_coder_b126_e130 := F_coder_b126_e129.other W130 (Or.inl ne_b126_b127)
  have F_value_b126_e130 := F_value_b126_e129.other W130 (Or.inl ne_b126_b127)
  have N130 := Fr.snoc X130 N129 g_b127
  have K130 := K129.wr W130 (Or.inr sz_b127)
  have Z130 : n0 ≤ h130.size := Nat.le_trans Z129 (Keep.of_wr W130).1
  have O130 := O129.wr W130 g_b127
  obtain ⟨T131, h131, X131, e131, W131, st131⟩ := stCh X130 hx hZ e130 A130 (i := 3) (by decide) (by decide) (x := (46 : Int32)) (g := (mkF m 312 #[.val (.int (4 : Int32)), .val (.int x), .val (.int y), .val (.int z)] [(.int (46 : Int32)), (.int (3 : Int32)), (.ref b127), (.ref b127), (.ref b126), (.ref b126)])) rfl rfl (hb hby d2_312)
  have A131 := A130.wr W131
  have E_b126_e131 := E_b126_e130.wr W131
  have F_coder_b126_e131 := F_coder_b126_e130.other W131 (Or.inl ne_b126_b127)
  have F_value_b126_e131 := F_value_b126_e130.other W131 (Or.inl ne_b126_b127)
  have N131 := Fr.snoc X131 N130 g_b127
  have K131 := K130.wr W131 (Or.inr sz_b127)
  have Z131 : n0 ≤ h131.size := Nat.le_trans Z130 (Keep.of_wr W131).1
  have O131 := O130.wr W131 g_b127
  obtain ⟨T132, h132, X132, e132, W132, st132⟩ := stCh X131 hx hZ e131 A131 (i := 4) (by decide) (by decide) (x := (119 : Int32)) (g := (mkF m 317 #[.val (.int (4 : Int32)), .val (.int x), .val (.int y), .val (.int z)] [(.int (119 : Int32)), (.int (4 : Int32)), (.ref b127), (.ref b127), (.ref b126), (.ref b126)])) rfl rfl (hb hby d2_317)
  have A132 := A131.wr W132
  have E_b126_e132 := E_b126_e131.wr W132
  have F_coder_b126_e132 := F_coder_b126_e131.other W132 (Or.inl ne_b126_b127)
  have F_value_b126_e132 := F_value_b126_e131.other W132 (Or.inl ne_b126_b127)
  have N132 := Fr.snoc X132 N131 g_b127
  have K132 := K131.wr W132 (Or.inr sz_b127)
  have Z132 : n0 ≤ h132.size := Nat.le_trans Z131 (Keep.of_wr W132).1
  have O132 := O131.wr W132 g_b127
  obtain ⟨T133, h133, X133, e133, W133, st133⟩ := stCh X132 hx hZ e132 A132 (i := 5) (by decide) (by decide) (x := (115 : Int32)) (g := (mkF m 322 #[.val (.int (4 : Int32)), .val (.int x), .val (.int y), .val (.int z)] [(.int (115 : Int32)), (.int (5 : Int32)), (.ref b127), (.ref b127), (.ref b126), (.ref b126)])) rfl rfl (hb hby d2_322)
  have A133 := A132.wr W133
  have E_b126_e133 := E_b126_e132.wr W133
  have F_coder_b126_e133 := F_coder_b126_e132.other W133 (Or.inl ne_b126_b127)
  have F_value_b126_e133 := F_value_b126_e132.other W133 (Or.inl ne_b126_b127)
  have N133 := Fr.snoc X133 N132 g_b127
  have K133 := K132.wr W133 (Or.inr sz_b127)
  have Z133 : n0 ≤ h133.size := Nat.le_trans Z132 (Keep.of_wr W133).1
  have O133 := O132.wr W133 g_b127
  obtain ⟨T134, h134, X134, e134, W134, st134⟩ := stCh X133 hx hZ e133 A133 (i := 6) (by decide) (by decide) (x := (100 : Int32)) (g := (mkF m 328 #[.val (.int (4 : Int32)), .val (.int x), .val (.int y), .val (.int z)] [(.int (100 : Int32)), (.int (6 : Int32)), (.ref b127), (.ref b127), (.ref b126), (.ref b126)])) rfl rfl (hb hby d2_328)
  have A134 := A133.wr W134
  have E_b126_e134 := E_b126_e133.wr W134
  have F_coder_b126_e134 := F_coder_b126_e133.other W134 (Or.inl ne_b126_b127)
  have F_value_b126_e134 := F_value_b126_e133.other W134 (Or.inl ne_b126_b127)
  have N134 := Fr.snoc X134 N133 g_b127
  have K134 := K133.wr W134 (Or.inr sz_b127)
  have Z134 : n0 ≤ h134.size := Nat.le_trans Z133 (Keep.of_wr W134).1
  have O134 := O133.wr W134 g_b127
  obtain ⟨T135, h135, X135, e135, W135, st135⟩ := stCh X134 hx hZ e134 A134 (i := 7) (by decide) (by decide) (x := (108 : Int32)) (g := (mkF m 334 #[.val (.int (4 : Int32)), .val (.int x), .val (.int y), .val (.int z)] [(.int (108 : Int32)), (.int (7 : Int32)), (.ref b127), (.ref b127), (.ref b126), (.ref b126)])) rfl rfl (hb hby d2_334)
  have A135 := A134.wr W135
  have E_b126_e135 := E_b126_e134.wr W135
  have F_coder_b126_e135 := F_coder_b126_e134.other W135 (Or.inl ne_b126_b127)
  have F_value_b126_e135 := F_value_b126_e134.other W135 (Or.inl ne_b126_b127)
  have N135 := Fr.snoc X135 N134 g_b127
  have K135 := K134.wr W135 (Or.inr sz_b127)
  have Z135 : n0 ≤ h135.size := Nat.le_trans Z134 (Keep.of_wr W135).1
  have O135 := O134.wr W135 g_b127
  have hBb126 : ∀ j, isB (gl [x, y, z, (46 : Int32), (119 : Int32), (115 : Int32), (100 : Int32), (108 : Int32)] j) := glB (List.forall_mem_cons.mpr ⟨hx8, (List.forall_mem_cons.mpr ⟨hy8, (List.forall_mem_cons.mpr ⟨hz8, (List.forall_mem_cons.mpr ⟨⟨by decide, by decide⟩, (List.forall_mem_cons.mpr ⟨⟨by decide, by decide⟩, (List.forall_mem_cons.mpr ⟨⟨by decide, by decide⟩, (List.forall_mem_cons.mpr ⟨⟨by decide, by decide⟩, (List.forall_mem_cons.mpr ⟨⟨by decide, by decide⟩, (fun _ q => absurd q List.not_mem_nil)⟩)⟩)⟩)⟩)⟩)⟩)⟩)⟩)
  obtain ⟨_, _, ⟨T136, L136, k136, n136⟩, -, X136, ⟨Lc136, hQ136, l136, y136, z136⟩, st136⟩ := X135.specialBack hx (y := (⟨"java/lang/String", "<init>", "([C)V"⟩ : MethodName)) rfl hown (mvT hZ (hw _ (List.mem_of_getElem? (i := 15) rfl))) (mvT hZ (hw _ (List.mem_of_getElem? (i := 16) rfl))) (mvT hZ (hw _ (List.mem_of_getElem? (i := 17) rfl))) (by decide) (backOf (W := 1) (rmI1 l Z a0 hw [] b126 b127 8 (gl [x, y, z, (46 : Int32), (119 : Int32), (115 : Int32), (100 : Int32), (108 : Int32)]) h135 n0 Z135 (by decide) (by decide) O135 SK (A135.congr (updS (updS (updS (updS (updS (updS (updS (updS upd0 (congrArg Value.int (nar_id (isCh_of hx8)))) (congrArg Value.int (nar_id (isCh_of hy8)))) (congrArg Value.int (nar_id (isCh_of hz8)))) rfl) rfl) rfl) rfl) rfl)) (fun j _ => isCh_of (hBb126 j)) E_b126_e135 F_value_b126_e135 F_coder_b126_e135 g_b126 (Ne.symm ne_b126_b127) (fun j _ => notBig (hBb126 j))) hZ (hw _ (List.mem_of_getElem? (i := 17) rfl)) (hw _ (List.mem_of_getElem? (i := 13) rfl)) (by decide) (by decide)) (g := (mkF m 335 #[.val (.int (4 : Int32)), .val (.int x), .val (.int y), .val (.int z)] [(.ref b127), (.ref b126), (.ref b126)])) rfl (by rw [hml]; rfl) (Steps.refl _) (a := b126) (argsL := [(.ref b127)]) (rest := [(.ref b126)]) (lenOf pd_2 rfl) rfl (by show 2 * 0 + _ ≤ _; exact Nat.le_of_eq rfl) (hb hby d2_335) (fun _ _ => ⟨rfl, e135, (by decide : 2 + 2 ≤ _), (by decide : 12 + 60 ≤ _)⟩)
  dsimp only [Pt.U, Pt.locs, Pt.cells, Pt.slots] at X136 l136 y136 z136 st136 hQ136
  subst l136 y136 z136
  obtain ⟨rfl, N136q, K136, S136⟩ := hQ136
  have N136 := Fr.app N135 N136q
  have KK136 := K135.trans K136 (fun x r => by cases List.mem_singleton.mp r; exact (Or.inr sz_b126))
  have Z136 : n0 ≤ T136.heap.size := Nat.le_trans Z135 K136.1
  have O136 := O135.keep K136 (all1 g_b126)
  obtain ⟨fs, hr, hrun, hended, hW, hsame⟩ := X136.leave (v := some (.ref b126)) (fun h => by rw [Bd.returns] at h; cases h)
  refine ⟨_, _, pre0 _ ?_, hrun, hended, _, _, rfl, ?_, ⟨_, rfl⟩, hW, hsame.mono (by decide) (by decide)⟩
  · show Steps p.tables e below (s₁.setTop (mkF m 0 #[.val (.int (4 : Int32)), .val (.int x), .val (.int y), .val (.int z)] [])) _
    refine XS.iloadN X0.here hx rfl (hb hby d2_0) rfl ?_
    refine XS.ifYes X0.here hx rfl (pc0 := 1) (pc' := 85) rfl (hb hby d2_1) rfl ((if0 _ _).trans (feq (by decide : ¬ ((4 : Int32) = (0 : Int32)))).2) (by decide) (by decide) ?_
    refine XS.iloadN X0.here hx rfl (hb hby d2_85) rfl ?_
    refine XS.iconst X0.here hx rfl (hb hby d2_86) ?_
    refine XS.icmpYes X0.here hx rfl (pc0 := 87) (pc' := 189) rfl (hb hby d2_87) rfl (feq (by decide : ¬ ((4 : Int32) = (1 : Int32)))).2 (by decide) (by decide) ?_
    refine XS.iloadN X0.here hx rfl (hb hby d2_189) rfl ?_
    show Steps p.tables e below (s₁.setTop (mkF m 190 #[.val (.int (4 : Int32)), .val (.int x), .val (.int y), .val (.int z)] [(.int (4 : Int32))])) _
    refine XS.iconst X0.here hx rfl (hb hby d2_190) ?_
    refine XS.icmpYes X0.here hx rfl (pc0 := 191) (pc' := 233) rfl (hb hby d2_191) rfl (feq (by decide : ¬ ((4 : Int32) = (2 : Int32)))).2 (by decide) (by decide) ?_
    refine XS.iloadN X0.here hx rfl (hb hby d2_233) rfl ?_
    refine XS.iconst X0.here hx rfl (hb hby d2_234) ?_
    refine XS.icmpYes X0.here hx rfl (pc0 := 235) (pc' := 283) rfl (hb hby d2_235) rfl (feq (by decide : ¬ ((4 : Int32) = (3 : Int32)))).2 (by decide) (by decide) ?_
    refine XS.iloadN X0.here hx rfl (hb hby d2_283) rfl ?_
    show Steps p.tables e below (s₁.setTop (mkF m 284 #[.val (.int (4 : Int32)), .val (.int x), .val (.int y), .val (.int z)] [(.int (4 : Int32))])) _
    refine XS.iconst X0.here hx rfl (hb hby d2_284) ?_
    refine XS.icmpNo X0.here hx rfl (hb hby d2_285) rfl (teq (rfl : (4 : Int32) = (4 : Int32))).2 ?_
    show Steps p.tables e below (s₁.setTop (mkF m 288 #[.val (.int (4 : Int32)), .val (.int x), .val (.int y), .val (.int z)] [])) _
    refine st126 _ ?_
    refine XS.dup X126.here hx rfl (hb hby d2_291) rfl rfl ?_
    refine XS.bipush X126.here hx rfl (hb hby d2_292) ?_
    show Steps p.tables e below (T126.setTop (mkF m 294 #[.val (.int (4 : Int32)), .val (.int x), .val (.int y), .val (.int z)] [(.int (8 : Int32)), (.ref b126), (.ref b126)])) _
    refine st127 _ ?_
    refine XS.dup X127.here hx rfl (hb hby d2_296) rfl rfl ?_
    refine XS.iconst X127.here hx rfl (hb hby d2_297) ?_
    refine XS.iloadN X127.here hx rfl (hb hby d2_298) rfl ?_
    show Steps p.tables e below (T127.setTop (mkF m 299 #[.val (.int (4 : Int32)), .val (.int x), .val (.int y), .val (.int z)] [(.int x), (.int (0 : Int32)), (.ref b127), (.ref b127), (.ref b126), (.ref b126)])) _
    refine st128 _ ?_
    refine XS.dup X128.here hx rfl (hb hby d2_300) rfl rfl ?_
    refine XS.iconst X128.here hx rfl (hb hby d2_301) ?_
    refine XS.iloadN X128.here hx rfl (hb hby d2_302) rfl ?_
    show Steps p.tables e below (T128.setTop (mkF m 303 #[.val (.int (4 : Int32)), .val (.int x), .val (.int y), .val (.int z)] [(.int y), (.int (1 : Int32)), (.ref b127), (.ref b127), (.ref b126), (.ref b126)])) _
    refine st129 _ ?_
    refine XS.dup X129.here hx rfl (hb hby d2_304) rfl rfl ?_
    refine XS.iconst X129.here hx rfl (hb hby d2_305) ?_
    refine XS.iloadN X129.here hx rfl (hb hby d2_306) rfl ?_
    show Steps p.tables e below (T129.setTop (mkF m 307 #[.val (.int (4 : Int32)), .val (.int x), .val (.int y), .val (.int z)] [(.int z), (.int (2 : Int32)), (.ref b127), (.ref b127), (.ref b126), (.ref b126)])) _
    refine st130 _ ?_
    refine XS.dup X130.here hx rfl (hb hby d2_308) rfl rfl ?_
    refine XS.iconst X130.here hx rfl (hb hby d2_309) ?_
    refine XS.bipush X130.here hx rfl (hb hby d2_310) ?_
    show Steps p.tables e below (T130.setTop (mkF m 312 #[.val (.int (4 : Int32)), .val (.int x), .val (.int y), .val (.int z)] [(.int (46 : Int32)), (.int (3 : Int32)), (.ref b127), (.ref b127), (.ref b126), (.ref b126)])) _
    refine st131 _ ?_
    refine XS.dup X131.here hx rfl (hb hby d2_313) rfl rfl ?_
    refine XS.iconst X131.here hx rfl (hb hby d2_314) ?_
    refine XS.bipush X131.here hx rfl (hb hby d2_315) ?_
    show Steps p.tables e below (T131.setTop (mkF m 317 #[.val (.int (4 : Int32)), .val (.int x), .val (.int y), .val (.int z)] [(.int (119 : Int32)), (.int (4 : Int32)), (.ref b127), (.ref b127), (.ref b126), (.ref b126)])) _
    refine st132 _ ?_
    refine XS.dup X132.here hx rfl (hb hby d2_318) rfl rfl ?_
    refine XS.iconst X132.here hx rfl (hb hby d2_319) ?_
    refine XS.bipush X132.here hx rfl (hb hby d2_320) ?_
    show Steps p.tables e below (T132.setTop (mkF m 322 #[.val (.int (4 : Int32)), .val (.int x), .val (.int y), .val (.int z)] [(.int (115 : Int32)), (.int (5 : Int32)), (.ref b127), (.ref b127), (.ref b126), (.ref b126)])) _
    refine st133 _ ?_
    refine XS.dup X133.here hx rfl (hb hby d2_323) rfl rfl ?_
    refine XS.bipush X133.here hx rfl (hb hby d2_324) ?_
    refine XS.bipush X133.here hx rfl (hb hby d2_326) ?_
    show Steps p.tables e below (T133.setTop (mkF m 328 #[.val (.int (4 : Int32)), .val (.int x), .val (.int y), .val (.int z)] [(.int (100 : Int32)), (.int (6 : Int32)), (.ref b127), (.ref b127), (.ref b126), (.ref b126)])) _
    refine st134 _ ?_
    refine XS.dup X134.here hx rfl (hb hby d2_329) rfl rfl ?_
    refine XS.bipush X134.here hx rfl (hb hby d2_330) ?_
    refine XS.bipush X134.here hx rfl (hb hby d2_332) ?_
    show Steps p.tables e below (T134.setTop (mkF m 334 #[.val (.int (4 : Int32)), .val (.int x), .val (.int y), .val (.int z)] [(.int (108 : Int32)), (.int (7 : Int32)), (.ref b127), (.ref b127), (.ref b126), (.ref b126)])) _
    refine st135 _ ?_
    show Steps p.tables e below (T135.setTop (mkF m 335 #[.val (.int (4 : Int32)), .val (.int x), .val (.int y), .val (.int z)] [(.ref b127), (.ref b126), (.ref b126)])) _
    refine st136.trans ?_
    show Steps p.tables e below (T136.setTop (mkF m 338 #[.val (.int (4 : Int32)), .val (.int x), .val (.int y), .val (.int z)] [(.ref b126)])) _
    jvm_step X136.here [X136.here.top, hx, (hb hby d2_338), X136.method', Bd.returns, Value.isRef, FieldType.isReference]
    first | (intro acts; rw [hr _ acts rfl rfl rfl]) | rw [hr _ _ rfl rfl rfl]
    exact Steps.refl _
  · show QV Z 8 (Lb (gl [x, y, z, (46 : Int32), (119 : Int32), (115 : Int32), (100 : Int32), (108 : Int32)])) h0 n0 _ T136.heap _
    exact ⟨b126, rfl, N136, KK136, S136⟩
set_option maxRecDepth 65536 in
set_option maxHeartbeats 40000000 in
theorem rmW5 (l : Launch) (Z : State) (a0 : Array Value) (hw : ∀ d ∈ tables_1, d.before a0 Z = true) (ws : List Jvm.Cond) (x y z : Int32)  (h0 : Heap) (n0 : Nat) (Z0 : n0 ≤ h0.size) (O : Old Z n0 h0) (SK : StrSta Z) (hx8 : isB x) (hy8 : isB y) (hz8 : isB z)  :
    MetFree l (⟨"com/example/trestle/trestle/ResourceKindIdPinLaw", "withPrefix", "(ICCC)Ljava/lang/String;"⟩ : MethodName) (head1 (Jvm.Cond.code (⟨"com/example/trestle/trestle/ResourceKindIdPinLaw", "withPrefix", "(ICCC)Ljava/lang/String;"⟩ : MethodName) method_5_code 4 (some (.object "java/lang/String")) :: ws) ({ frames := 6, cells := 4, slots := 100, locals := 150 } : Room)) (fun aa_ U_ => aa_ = #[(.int (5 : Int32)), (.int x), (.int y), (.int z)] ∧ Z.Warmed39 U_.vm ∧ U_.heap = h0) (fun _ _ _ _ _ => True) (fun _ U_ o_ V_ => ∃ v_ L_, o_ = .returned v_ ∧ QV Z 7 (Lb (gl [x, y, z, (46 : Int32), (120 : Int32), (115 : Int32), (100 : Int32)])) h0 n0 v_ V_.heap L_ ∧ FrameEnd U_ o_ V_ L_ ({ frames := 6, cells := 4, slots := 100, locals := 150 } : Room).cells ({ frames := 6, cells := 4, slots := 100, locals := 150 } : Room).slots) := by
  refine MetFree.of_bodySF (plainFor_of_name pn_2) hisR ?_
  intro p e s m args below meth c s₁ Bd hml0 hP hK
  obtain ⟨rfl, hZ, hh⟩ := hP
  have hx := Bd.exec
  have hby := Bd.bytes
  have hml : c.maxLocals = 4 := hml0
  have hown : s.vm.findClass "com/example/trestle/trestle/ResourceKindIdPinLaw" = some m.cls := findClass_of_methodNamed Bd.named
  have hnm := (name_of_methodNamed Bd.named Bd.method).1
  have X0 : Stand p l e ({ frames := 6, cells := 4, slots := 100, locals := 150 } : Room) s m #[(.int (5 : Int32)), (.int x), (.int y), (.int z)] below meth c s₁ [] 0 0 := Stand.of_body Bd
  have e0 : s₁.heap = h0 := by rw [← hh, Bd.state]; rfl
  have N0 := Fr.nil n0
  have pre0 : ∀ zz, Steps p.tables e below (s₁.setTop (mkF m 0 #[.val (.int (5 : Int32)), .val (.int x), .val (.int y), .val (.int z)] [])) zz → Steps p.tables e below (s₁.setTop (entryFrame m #[(.int (5 : Int32)), (.int x), (.int y), (.int z)] 4)) zz := fun zz kz_ => castTop (ef_2 m (5 : Int32) x y z) kz_
  obtain ⟨T137, h137, X137, e137, E137, A137, D137, -, st137⟩ := newO X0 hx hZ hown (hw _ (List.mem_of_getElem? (i := 11) rfl)) (hw _ (List.mem_of_getElem? (i := 12) rfl)) (hw _ (List.mem_of_getElem? (i := 13) rfl)) e0 (g := (mkF m 339 #[.val (.int (5 : Int32)), .val (.int x), .val (.int y), .val (.int z)] [])) rfl (hb hby d2_339) (by decide) (by decide)
  obtain ⟨b137, g137⟩ : ∃ z, z = h0.size := ⟨_, rfl⟩
  rw [← g137] at A137 D137 st137
  have E_b137 := A137
  have g_b137 : n0 ≤ b137 := Nat.le_trans Z0 (Nat.le_of_eq g137.symm)
  have sz_b137 : h0.size ≤ b137 := Nat.le_trans (Keep.refl h0 []).1 (Nat.le_of_eq g137.symm)
  have K137 := (Keep.refl h0 []).ext E137
  have Z137 : n0 ≤ h137.size := Nat.le_trans Z0 E137.1
  have F_coder_b137 : Fld Z h137 b137 "java/lang/String" "coder" "B" (.int (0 : Int32)) := D137 (Or.inr (hw _ (List.mem_of_getElem? (i := 38) rfl))) (ty := .byte) (by decide)
  have F_value_b137 : Fld Z h137 b137 "java/lang/String" "value" "[B" .null := D137 (Or.inr (hw _ (List.mem_of_getElem? (i := 40) rfl))) (ty := (.array .byte)) (by decide)
  have O137 := O.ext E137
  obtain ⟨T138, h138, X138, e138, E138, A138, st138⟩ := nwA X137 hx hZ (hw _ (List.mem_of_getElem? (i := 14) rfl)) e137 (g := (mkF m 345 #[.val (.int (5 : Int32)), .val (.int x), .val (.int y), .val (.int z)] [(.int (7 : Int32)), (.ref b137), (.ref b137)])) rfl (hb hby d2_345) (n := 7) rfl (cap := 7) (by decide) (by decide) (by decide) (by decide)
  obtain ⟨b138, q138⟩ : ∃ z, z = h137.size := ⟨_, rfl⟩
  rw [← q138] at A138 st138
  have V138 : AF Z h138 b138 .char 7 (fun _ => (.int (0 : Int32))) := A138
  have g_b138 : n0 ≤ b138 := Nat.le_trans Z137 (Nat.le_of_eq q138.symm)
  have sz_b138 : h0.size ≤ b138 := Nat.le_trans K137.1 (Nat.le_of_eq q138.symm)
  have K138 := K137.ext E138
  have Z138 : n0 ≤ h138.size := Nat.le_trans Z137 E138.1
  have ne_b137_b138 : b137 ≠ b138 := Nat.ne_of_lt (Nat.lt_of_lt_of_le E_b137.lt (Nat.le_of_eq q138.symm))
  have E_b137_e138 := E_b137.ext E138
  have F_coder_b137_e138 := F_coder_b137.ext E138
  have F_value_b137_e138 := F_value_b137.ext E138
  have O138 := O137.ext E138
  obtain ⟨T139, h139, X139, e139, W139, st139⟩ := stCh X138 hx hZ e138 V138 (i := 0) (by decide) (by decide) (x := x) (g := (mkF m 350 #[.val (.int (5 : Int32)), .val (.int x), .val (.int y), .val (.int z)] [(.int x), (.int (0 : Int32)), (.ref b138), (.ref b138), (.ref b137), (.ref b137)])) rfl rfl (hb hby d2_350)
  have A139 := V138.wr W139
  have E_b137_e139 := E_b137_e138.wr W139
  have F_coder_b137_e139 := F_coder_b137_e138.other W139 (Or.inl ne_b137_b138)
  have F_value_b137_e139 := F_value_b137_e138.other W139 (Or.inl ne_b137_b138)
  have N139 := Fr.snoc X139 N0 g_b138
  have K139 := K138.wr W139 (Or.inr sz_b138)
  have Z139 : n0 ≤ h139.size := Nat.le_trans Z138 (Keep.of_wr W139).1
  have O139 := O138.wr W139 g_b138
  obtain ⟨T140, h140, X140, e140, W140, st140⟩ := stCh X139 hx hZ e139 A139 (i := 1) (by decide) (by decide) (x := y) (g := (mkF m 354 #[.val (.int (5 : Int32)), .val (.int x), .val (.int y), .val (.int z)] [(.int y), (.int (1 : Int32)), (.ref b138), (.ref b138), (.ref b137), (.ref b137)])) rfl rfl (hb hby d2_354)
  have A140 := A139.wr W140
  have E_b137_e140 := E_b137_e139.wr W140
  have F_coder_b137_e140 := F_coder_b137_e139.other W140 (Or.inl ne_b137_b138)
  have F_value_b137_e140 := F_value_b137_e139.other W140 (Or.inl ne_b137_b138)
  have N140 := Fr.snoc X140 N139 g_b138
  have K140 := K139.wr W140 (Or.inr sz_b138)
  have Z140 : n0 ≤ h140.size := Nat.le_trans Z139 (Keep.of_wr W140).1
  have O140 := O139.wr W140 g_b138
  obtain ⟨T141, h141, X141, e141, W141, st141⟩ := stCh X140 hx hZ e140 A140 (i := 2) (by decide) (by decide) (x := z) (g := (mkF m 358 #[.val (.int (5 : Int32)), .val (.int x), .val (.int y), .val (.int z)] [(.int z), (.int (2 : Int32)), (.ref b138), (.ref b138), (.ref b137), (.ref b137)])) rfl rfl (hb hby d2_358)
  have A141 := A140.wr W141
  have E_b137_e141 := E_b137_e140.wr W141
  have F_coder_b137_e141 := F_coder_b137_e140.other W141 (Or.inl ne_b137_b138)
  have F_value_b137_e141 := F_value_b137_e140.other W141 (Or.inl ne_b137_b138)
  have N141 := Fr.snoc X141 N140 g_b138
  have K141 := K140.wr W141 (Or.inr sz_b138)
  have Z141 : n0 ≤ h141.size := Nat.le_trans Z140 (Keep.of_wr W141).1
  have O141 := O140.wr W141 g_b138
  obtain ⟨T142, h142, X142, e142, W142, st142⟩ := stCh X141 hx hZ e141 A141 (i := 3) (by decide) (by decide) (x := (46 : Int32)) (g := (mkF m 363 #[.val (.int (5 : Int32)), .val (.int x), .val (.int y), .val (.int z)] [(.int (46 : Int32)), (.int (3 : Int32)), (.ref b138), (.ref b138), (.ref b137), (.ref b137)])) rfl rfl (hb hby d2_363)
  have A142 := A141.wr W142
  have E_b137_e142 := E_b137_e141.wr W142
  have F_coder_b137_e142 := F_coder_b137_e141.other W142 (Or.inl ne_b137_b138)
  have F_value_b137_e142 := F_value_b137_e141.other W142 (Or.inl ne_b137_b138)
  have N142 := Fr.snoc X142 N141 g_b138
  have K142 := K141.wr W142 (Or.inr sz_b138)
  have Z142 : n0 ≤ h142.size := Nat.le_trans Z141 (Keep.of_wr W142).1
  have O142 := O141.wr W142 g_b138
  obtain ⟨T143, h143, X143, e143, W143, st143⟩ := stCh X142 hx hZ e142 A142 (i := 4) (by decide) (by decide) (x := (120 : Int32)) (g := (mkF m 368 #[.val (.int (5 : Int32)), .val (.int x), .val (.int y), .val (.int z)] [(.int (120 : Int32)), (.int (4 : Int32)), (.ref b138), (.ref b138), (.ref b137), (.ref b137)])) rfl rfl (hb hby d2_368)
  have A143 := A142.wr W143
  have E_b137_e143 := E_b137_e142.wr W143
  have F_coder_b137_e143 := F_coder_b137_e142.other W143 (Or.inl ne_b137_b138)
  have F_value_b137_e143 := F_value_b137_e142.other W143 (Or.inl ne_b137_b138)
  have N143 := Fr.snoc X143 N142 g_b138
  have K143 := K142.wr W143 (Or.inr sz_b138)
  have Z143 : n0 ≤ h143.size := Nat.le_trans Z142 (Keep.of_wr W143).1
  have O143 := O142.wr W143 g_b138
  obtain ⟨T144, h144, X144, e144, W144, st144⟩ := stCh X143 hx hZ e143 A143 (i := 5) (by decide) (by decide) (x := (115 : Int32)) (g := (mkF m 373 #[.val (.int (5 : Int32)), .val (.int x), .val (.int y), .val (.int z)] [(.int (115 : Int32)), (.int (5 : Int32)), (.ref b138), (.ref b138), (.ref b137), (.ref b137)])) rfl rfl (hb hby d2_373)
  have A144 := A143.wr W144
  have E_b137_e144 := E_b137_e143.wr W144
  have F_coder_b137_e144 := F_coder_b137_e143.other W144 (Or.inl ne_b137_b138)
  have F_value_b137_e144 := F_value_b137_e143.other W144 (Or.inl ne_b137_b138)
  have N144 := Fr.snoc X144 N143 g_b138
  have K144 := K143.wr W144 (Or.inr sz_b138)
  have Z144 : n0 ≤ h144.size := Nat.le_trans Z143 (Keep.of_wr W144).1
  have O144 := O143.wr W144 g_b138
  obtain ⟨T145, h145, X145, e145, W145, st145⟩ := stCh X144 hx hZ e144 A144 (i := 6) (by decide) (by decide) (x := (100 : Int32)) (g := (mkF m 379 #[.val (.int (5 : Int32)), .val (.int x), .val (.int y), .val (.int z)] [(.int (100 : Int32)), (.int (6 : Int32)), (.ref b138), (.ref b138), (.ref b137), (.ref b137)])) rfl rfl (hb hby d2_379)
  have A145 := A144.wr W145
  have E_b137_e145 := E_b137_e144.wr W145
  have F_coder_b137_e145 := F_coder_b137_e144.other W145 (Or.inl ne_b137_b138)
  have F_value_b137_e145 := F_value_b137_e144.other W145 (Or.inl ne_b137_b138)
  have N145 := Fr.snoc X145 N144 g_b138
  have K145 := K144.wr W145 (Or.inr sz_b138)
  have Z145 : n0 ≤ h145.size := Nat.le_trans Z144 (Keep.of_wr W145).1
  have O145 := O144.wr W145 g_b138
  have hBb137 : ∀ j, isB (gl [x, y, z, (46 : Int32), (120 : Int32), (115 : Int32), (100 : Int32)] j) := glB (List.forall_mem_cons.mpr ⟨hx8, (List.forall_mem_cons.mpr ⟨hy8, (List.forall_mem_cons.mpr ⟨hz8, (List.forall_mem_cons.mpr ⟨⟨by decide, by decide⟩, (List.forall_mem_cons.mpr ⟨⟨by decide, by decide⟩, (List.forall_mem_cons.mpr ⟨⟨by decide, by decide⟩, (List.forall_mem_cons.mpr ⟨⟨by decide, by decide⟩, (fun _ q => absurd q List.not_mem_nil)⟩)⟩)⟩)⟩)⟩)⟩)⟩)
  obtain ⟨_, _, ⟨T146, L146, k146, n146⟩, -, X146, ⟨Lc146, hQ146, l146, y146, z146⟩, st146⟩ := X145.specialBack hx (y := (⟨"java/lang/String", "<init>", "([C)V"⟩ : MethodName)) rfl hown (mvT hZ (hw _ (List.mem_of_getElem? (i := 15) rfl))) (mvT hZ (hw _ (List.mem_of_getElem? (i := 16) rfl))) (mvT hZ (hw _ (List.mem_of_getElem? (i := 17) rfl))) (by decide) (backOf (W := 1) (rmI1 l Z a0 hw [] b137 b138 7 (gl [x, y, z, (46 : Int32), (120 : Int32), (115 : Int32), (100 : Int32)]) h145 n0 Z145 (by decide) (by decide) O145 SK (A145.congr (updS (updS (updS (updS (updS (updS (updS upd0 (congrArg Value.int (nar_id (isCh_of hx8)))) (congrArg Value.int (nar_id (isCh_of hy8)))) (congrArg Value.int (nar_id (isCh_of hz8)))) rfl) rfl) rfl) rfl)) (fun j _ => isCh_of (hBb137 j)) E_b137_e145 F_value_b137_e145 F_coder_b137_e145 g_b137 (Ne.symm ne_b137_b138) (fun j _ => notBig (hBb137 j))) hZ (hw _ (List.mem_of_getElem? (i := 17) rfl)) (hw _ (List.mem_of_getElem? (i := 13) rfl)) (by decide) (by decide)) (g := (mkF m 380 #[.val (.int (5 : Int32)), .val (.int x), .val (.int y), .val (.int z)] [(.ref b138), (.ref b137), (.ref b137)])) rfl (by rw [hml]; rfl) (Steps.refl _) (a := b137) (argsL := [(.ref b138)]) (rest := [(.ref b137)]) (lenOf pd_2 rfl) rfl (by show 2 * 0 + _ ≤ _; exact Nat.le_of_eq rfl) (hb hby d2_380) (fun _ _ => ⟨rfl, e145, (by decide : 2 + 2 ≤ _), (by decide : 11 + 60 ≤ _)⟩)
  dsimp only [Pt.U, Pt.locs, Pt.cells, Pt.slots] at X146 l146 y146 z146 st146 hQ146
  subst l146 y146 z146
  obtain ⟨rfl, N146q, K146, S146⟩ := hQ146
  have N146 := Fr.app N145 N146q
  have KK146 := K145.trans K146 (fun x r => by cases List.mem_singleton.mp r; exact (Or.inr sz_b137))
  have Z146 : n0 ≤ T146.heap.size := Nat.le_trans Z145 K146.1
  have O146 := O145.keep K146 (all1 g_b137)
  obtain ⟨fs, hr, hrun, hended, hW, hsame⟩ := X146.leave (v := some (.ref b137)) (fun h => by rw [Bd.returns] at h; cases h)
  refine ⟨_, _, pre0 _ ?_, hrun, hended, _, _, rfl, ?_, ⟨_, rfl⟩, hW, hsame.mono (by decide) (by decide)⟩
  · show Steps p.tables e below (s₁.setTop (mkF m 0 #[.val (.int (5 : Int32)), .val (.int x), .val (.int y), .val (.int z)] [])) _
    refine XS.iloadN X0.here hx rfl (hb hby d2_0) rfl ?_
    refine XS.ifYes X0.here hx rfl (pc0 := 1) (pc' := 85) rfl (hb hby d2_1) rfl ((if0 _ _).trans (feq (by decide : ¬ ((5 : Int32) = (0 : Int32)))).2) (by decide) (by decide) ?_
    refine XS.iloadN X0.here hx rfl (hb hby d2_85) rfl ?_
    refine XS.iconst X0.here hx rfl (hb hby d2_86) ?_
    refine XS.icmpYes X0.here hx rfl (pc0 := 87) (pc' := 189) rfl (hb hby d2_87) rfl (feq (by decide : ¬ ((5 : Int32) = (1 : Int32)))).2 (by decide) (by decide) ?_
    refine XS.iloadN X0.here hx rfl (hb hby d2_189) rfl ?_
    show Steps p.tables e below (s₁.setTop (mkF m 190 #[.val (.int (5 : Int32)), .val (.int x), .val (.int y), .val (.int z)] [(.int (5 : Int32))])) _
    refine XS.iconst X0.here hx rfl (hb hby d2_190) ?_
    refine XS.icmpYes X0.here hx rfl (pc0 := 191) (pc' := 233) rfl (hb hby d2_191) rfl (feq (by decide : ¬ ((5 : Int32) = (2 : Int32)))).2 (by decide) (by decide) ?_
    refine XS.iloadN X0.here hx rfl (hb hby d2_233) rfl ?_
    refine XS.iconst X0.here hx rfl (hb hby d2_234) ?_
    refine XS.icmpYes X0.here hx rfl (pc0 := 235) (pc' := 283) rfl (hb hby d2_235) rfl (feq (by decide : ¬ ((5 : Int32) = (3 : Int32)))).2 (by decide) (by decide) ?_
    refine XS.iloadN X0.here hx rfl (hb hby d2_283) rfl ?_
    show Steps p.tables e below (s₁.setTop (mkF m 284 #[.val (.int (5 : Int32)), .val (.int x), .val (.int y), .val (.int z)] [(.int (5 : Int32))])) _
    refine XS.iconst X0.here hx rfl (hb hby d2_284) ?_
    refine XS.icmpYes X0.here hx rfl (pc0 := 285) (pc' := 339) rfl (hb hby d2_285) rfl (feq (by decide : ¬ ((5 : Int32) = (4 : Int32)))).2 (by decide) (by decide) ?_
    show Steps p.tables e below (s₁.setTop (mkF m 339 #[.val (.int (5 : Int32)), .val (.int x), .val (.int y), .val (.int z)] [])) _
    refine st137 _ ?_
    refine XS.dup X137.here hx rfl (hb hby d2_342) rfl rfl ?_
    refine XS.bipush X137.here hx rfl (hb hby d2_343) ?_
    show Steps p.tables e below (T137.setTop (mkF m 345 #[.val (.int (5 : Int32)), .val (.int x), .val (.int y), .val (.int z)] [(.int (7 : Int32)), (.ref b137), (.ref b137)])) _
    refine st138 _ ?_
    refine XS.dup X138.here hx rfl (hb hby d2_347) rfl rfl ?_
    refine XS.iconst X138.here hx rfl (hb hby d2_348) ?_
    refine XS.iloadN X138.here hx rfl (hb hby d2_349) rfl ?_
    show Steps p.tables e below (T138.setTop (mkF m 350 #[.val (.int (5 : Int32)), .val (.int x), .val (.int y), .val (.int z)] [(.int x), (.int (0 : Int32)), (.ref b138), (.ref b138), (.ref b137), (.ref b137)])) _
    refine st139 _ ?_
    refine XS.dup X139.here hx rfl (hb hby d2_351) rfl rfl ?_
    refine XS.iconst X139.here hx rfl (hb hby d2_352) ?_
    refine XS.iloadN X139.here hx rfl (hb hby d2_353) rfl ?_
    show Steps p.tables e below (T139.setTop (mkF m 354 #[.val (.int (5 : Int32)), .val (.int x), .val (.int y), .val (.int z)] [(.int y), (.int (1 : Int32)), (.ref b138), (.ref b138), (.ref b137), (.ref b137)])) _
    refine st140 _ ?_
    refine XS.dup X140.here hx rfl (hb hby d2_355) rfl rfl ?_
    refine XS.iconst X140.here hx rfl (hb hby d2_356) ?_
    refine XS.iloadN X140.here hx rfl (hb hby d2_357) rfl ?_
    show Steps p.tables e below (T140.setTop (mkF m 358 #[.val (.int (5 : Int32)), .val (.int x), .val (.int y), .val (.int z)] [(.int z), (.int (2 : Int32)), (.ref b138), (.ref b138), (.ref b137), (.ref b137)])) _
    refine st141 _ ?_
    refine XS.dup X141.here hx rfl (hb hby d2_359) rfl rfl ?_
    refine XS.iconst X141.here hx rfl (hb hby d2_360) ?_
    refine XS.bipush X141.here hx rfl (hb hby d2_361) ?_
    show Steps p.tables e below (T141.setTop (mkF m 363 #[.val (.int (5 : Int32)), .val (.int x), .val (.int y), .val (.int z)] [(.int (46 : Int32)), (.int (3 : Int32)), (.ref b138), (.ref b138), (.ref b137), (.ref b137)])) _
    refine st142 _ ?_
    refine XS.dup X142.here hx rfl (hb hby d2_364) rfl rfl ?_
    refine XS.iconst X142.here hx rfl (hb hby d2_365) ?_
    refine XS.bipush X142.here hx rfl (hb hby d2_366) ?_
    show Steps p.tables e below (T142.setTop (mkF m 368 #[.val (.int (5 : Int32)), .val (.int x), .val (.int y), .val (.int z)] [(.int (120 : Int32)), (.int (4 : Int32)), (.ref b138), (.ref b138), (.ref b137), (.ref b137)])) _
    refine st143 _ ?_
    refine XS.dup X143.here hx rfl (hb hby d2_369) rfl rfl ?_
    refine XS.iconst X143.here hx rfl (hb hby d2_370) ?_
    refine XS.bipush X143.here hx rfl (hb hby d2_371) ?_
    show Steps p.tables e below (T143.setTop (mkF m 373 #[.val (.int (5 : Int32)), .val (.int x), .val (.int y), .val (.int z)] [(.int (115 : Int32)), (.int (5 : Int32)), (.ref b138), (.ref b138), (.ref b137), (.ref b137)])) _
    refine st144 _ ?_
    refine XS.dup X144.here hx rfl (hb hby d2_374) rfl rfl ?_
    refine XS.bipush X144.here hx rfl (hb hby d2_375) ?_
    refine XS.bipush X144.here hx rfl (hb hby d2_377) ?_
    show Steps p.tables e below (T144.setTop (mkF m 379 #[.val (.int (5 : Int32)), .val (.int x), .val (.int y), .val (.int z)] [(.int (100 : Int32)), (.int (6 : Int32)), (.ref b138), (.ref b138), (.ref b137), (.ref b137)])) _
    refine st145 _ ?_
    show Steps p.tables e below (T145.setTop (mkF m 380 #[.val (.int (5 : Int32)), .val (.int x), .val (.int y), .val (.int z)] [(.ref b138), (.ref b137), (.ref b137)])) _
    refine st146.trans ?_
    show Steps p.tables e below (T146.setTop (mkF m 383 #[.val (.int (5 : Int32)), .val (.int x), .val (.int y), .val (.int z)] [(.ref b137)])) _
    jvm_step X146.here [X146.here.top, hx, (hb hby d2_383), X146.method', Bd.returns, Value.isRef, FieldType.isReference]
    first | (intro acts; rw [hr _ acts rfl rfl rfl]) | rw [hr _ _ rfl rfl rfl]
    exact Steps.refl _
  · show QV Z 7 (Lb (gl [x, y, z, (46 : Int32), (120 : Int32), (115 : Int32), (100 : Int32)])) h0 n0 _ T146.heap _
    exact ⟨b137, rfl, N146, KK146, S146⟩
theorem pn_0 : plainName "com/example/trestle/trestle/ResourceKindIdPinLaw" = true := by first | (simp [plainName, overriddenIn]; done) | decide +kernel
theorem ef_0 (m : MethodId) (x0 : Int32) (x1 : Int32) (x2 : Int32) (x3 : Int32) (x4 : Int32) : entryFrame m #[(.int x0), (.int x1), (.int x2), (.int x3), (.int x4)] maxLocals = mkF m 0 #[.val (.int x0), .val (.int x1), .val (.int x2), .val (.int x3), .val (.int x4), .unset, .unset, .unset, .unset, .unset, .unset, .unset, .unset] [] := by first | (simp [entryFrame, mkF, argsToLocals, Value.category, maxLocals]; done) | rfl
def Q0 (h0 : Heap) (n0 : Nat) (v : Option Value) (h : Heap) (L : List Loc) : Prop := v = some (.int 1) ∧ Fr n0 L
theorem c3 {x y z : Int32} {r : List Int32} : ∀ j, j < 3 → Lb (gl (x :: y :: z :: r)) j = Value.int (b8 (gl [x, y, z] j)) := fun j hj => match j, hj with
  | 0, _ => rfl
  | 1, _ => rfl
  | 2, _ => rfl
  | j + 3, hj => absurd hj (by omega)
set_option maxRecDepth 65536 in
set_option maxHeartbeats 40000000 in
theorem rm0_00 (l : Launch) (Z : State) (a0 : Array Value) (hw : ∀ d ∈ tables_1, d.before a0 Z = true) (ws : List Jvm.Cond) (sel : Int32) (ra : Int32) (rb : Int32) (rc : Int32) (fl : Int32) (kd : Addr) (h0 : Heap) (n0 : Nat) (Z0 : n0 ≤ h0.size) (hk : kF sel = (0 : Int32)) (hst : Sta Z Z.heap "com/example/trestle/trestle/ResourceKind" "PROXY_SERVICE" "Lcom/example/trestle/trestle/ResourceKind;" (.ref kd)) (KDm : KD Z kd 10) (O : Old Z n0 h0) (SK : StrSta Z) (hEL : EW Z a0 EL1) (hc44 : (fl &&& (1 : Int32)) = (0 : Int32)) :
    MetFree l x (head1 (Jvm.Cond.code x code maxLocals ret :: ws) room_1) (fun aa_ U_ => aa_ = #[(.int sel), (.int ra), (.int rb), (.int rc), (.int fl)] ∧ Z.Warmed39 U_.vm ∧ U_.heap = h0 ∧ CHv Z EL1 U_.vm h0) (fun _ _ _ _ _ => True) (fun _ U_ o_ V_ => ∃ v_ L_, o_ = .returned v_ ∧ Q0  h0 n0 v_ V_.heap L_ ∧ ReturnedEndW U_ o_ V_ L_ room_1.cells room_1.slots) := by
  refine MetFree.of_bodySF (plainFor_of_name pn_0) hisR ?_
  intro p e s m args below meth c s₁ Bd hml0 hP hK
  obtain ⟨rfl, hZ, hh, CH0⟩ := hP
  have hx := Bd.exec
  have hby := Bd.bytes
  have hml : c.maxLocals = 13 := hml0
  have hown : s.vm.findClass "com/example/trestle/trestle/ResourceKindIdPinLaw" = some m.cls := findClass_of_methodNamed Bd.named
  have hnm := (name_of_methodNamed Bd.named Bd.method).1
  have X0 : Stand p l e room_1 s m #[(.int sel), (.int ra), (.int rb), (.int rc), (.int fl)] below meth c s₁ [] 0 0 := Stand.of_body Bd
  have e0 : s₁.heap = h0 := by rw [← hh, Bd.state]; rfl
  have N0 := Fr.nil n0
  have pre0 : ∀ zz, Steps p.tables e below (s₁.setTop (mkF m 0 #[.val (.int sel), .val (.int ra), .val (.int rb), .val (.int rc), .val (.int fl), .unset, .unset, .unset, .unset, .unset, .unset, .unset, .unset] [])) zz → Steps p.tables e below (s₁.setTop (entryFrame m #[(.int sel), (.int ra), (.int rb), (.int rc), (.int fl)] maxLocals)) zz := fun zz kz_ => castTop (ef_0 m sel ra rb rc fl) kz_
  have hwS : ∀ a ∈ Bundle.stringAtoms, a.before a0 Z = true := fun d hd => hw d (by simpa using (List.all_eq_true.mp (by decide +kernel : (Bundle.stringAtoms.all fun c => tables_1.contains c) = true)) d hd)
  obtain ⟨_, _, ⟨T147, L147, k147, n147⟩, -, X147, ⟨Lc147, hQ147, l147, y147, z147⟩, st147⟩ := Jvm.LawKit.callS X0 hx (y := (⟨"com/example/trestle/trestle/ResourceKindIdPinLaw", "kindOf", "(I)Lcom/example/trestle/trestle/ResourceKind;"⟩ : MethodName)) hown (mvT hZ (hw _ (List.mem_of_getElem? (i := 1) rfl))) (mvT hZ (hw _ (List.mem_of_getElem? (i := 2) rfl))) (mvT hZ (hw _ (List.mem_of_getElem? (i := 3) rfl))) (mvT hZ (hw _ (List.mem_of_getElem? (i := 4) rfl))) (by decide) (backOf (W := 0) (rmK0 l Z a0 hw [] kd h0 n0 Z0 O hst) hZ (hw _ (List.mem_of_getElem? (i := 4) rfl)) (hw _ (List.mem_of_getElem? (i := 3) rfl)) (by decide) (by decide)) (g := (mkF m 35 #[.val (.int sel), .val (.int ra), .val (.int rb), .val (.int rc), .val (.int fl), .val (.int (0 : Int32)), .val (.int (c8 ra)), .val (.int (c8 rb)), .val (.int (c8 rc)), .unset, .unset, .unset, .unset] [(.int (0 : Int32))])) rfl (by rw [hml]; rfl) (argsL := [(.int (0 : Int32))]) (rest := []) (lenOf pd_0 rfl) rfl (by show 2 * 0 + _ ≤ _; exact Nat.le_of_eq rfl) (hb hby at_35) (fun _ _ => ⟨rfl, e0, (by decide : 0 + 0 ≤ _), (by decide : 0 + 0 ≤ _)⟩)
  dsimp only [Pt.U, Pt.locs, Pt.cells, Pt.slots] at X147 l147 y147 z147 st147 hQ147
  subst l147 y147 z147
  obtain ⟨rfl, N147q, e147⟩ := hQ147
  have N147 := Fr.app N0 N147q
  obtain ⟨_, _, ⟨T148, L148, k148, n148⟩, -, X148, ⟨Lc148, hQ148, l148, y148, z148⟩, st148⟩ := Jvm.LawKit.callS X147 hx (y := (⟨"com/example/trestle/trestle/ResourceKindIdPinLaw", "withPrefix", "(ICCC)Ljava/lang/String;"⟩ : MethodName)) hown (mvT hZ (hw _ (List.mem_of_getElem? (i := 8) rfl))) (mvT hZ (hw _ (List.mem_of_getElem? (i := 9) rfl))) (mvT hZ (hw _ (List.mem_of_getElem? (i := 3) rfl))) (mvT hZ (hw _ (List.mem_of_getElem? (i := 10) rfl))) (by decide) (backOf (W := 0) (rmW0 l Z a0 hw [] (c8 ra) (c8 rb) (c8 rc) h0 n0 Z0 O SK (c8_B _) (c8_B _) (c8_B _)) hZ (hw _ (List.mem_of_getElem? (i := 10) rfl)) (hw _ (List.mem_of_getElem? (i := 3) rfl)) (by decide) (by decide)) (g := (mkF m 75 #[.val (.int sel), .val (.int ra), .val (.int rb), .val (.int rc), .val (.int fl), .val (.int (0 : Int32)), .val (.int (c8 ra)), .val (.int (c8 rb)), .val (.int (c8 rc)), .val (.ref kd), .unset, .unset, .unset] [(.int (c8 rc)), (.int (c8 rb)), (.int (c8 ra)), (.int (0 : Int32))])) rfl (by rw [hml]; rfl) (argsL := [(.int (0 : Int32)), (.int (c8 ra)), (.int (c8 rb)), (.int (c8 rc))]) (rest := []) (lenOf pd_1 rfl) rfl (by show 2 * 0 + _ ≤ _; exact Nat.le_of_eq rfl) (hb hby at_75) (fun _ _ => ⟨rfl, e147, (by decide : 0 + 4 ≤ _), (by decide : 0 + 100 ≤ _)⟩)
  dsimp only [Pt.U, Pt.locs, Pt.cells, Pt.slots] at X148 l148 y148 z148 st148 hQ148
  subst l148 y148 z148
  obtain ⟨o148, rfl, N148q, K148, S148⟩ := hQ148
  have N148 := Fr.app N147 N148q
  have KK148 := (Keep.refl h0 []).trans K148 (fun x r => absurd r List.not_mem_nil)
  have Z148 : n0 ≤ T148.heap.size := Nat.le_trans Z0 K148.1
  have O148 := O.keep K148 all0'
  obtain ⟨EO148, d148, FV148, FC148, FB148⟩ := S148
  obtain ⟨T149, h149, X149, e149, E149, A149, D149, -, st149⟩ := newO X148 hx hZ hown (hw _ (List.mem_of_getElem? (i := 11) rfl)) (hw _ (List.mem_of_getElem? (i := 12) rfl)) (hw _ (List.mem_of_getElem? (i := 13) rfl)) rfl (g := (mkF m 80 #[.val (.int sel), .val (.int ra), .val (.int rb), .val (.int rc), .val (.int fl), .val (.int (0 : Int32)), .val (.int (c8 ra)), .val (.int (c8 rb)), .val (.int (c8 rc)), .val (.ref kd), .val (.ref o148), .unset, .unset] [])) rfl (hb hby at_80) (by decide) (by decide)
  obtain ⟨b149, g149⟩ : ∃ z, z = T148.heap.size := ⟨_, rfl⟩
  rw [← g149] at A149 D149 st149
  have ne_o148_b149 : o148 ≠ b149 := Nat.ne_of_lt (Nat.lt_of_lt_of_le EO148.lt (Nat.le_of_eq g149.symm))
  have ne_d148_b149 : d148 ≠ b149 := Nat.ne_of_lt (Nat.lt_of_lt_of_le FB148.lt (Nat.le_of_eq g149.symm))
  have EO148_e149 := EO148.ext E149
  have FV148_e149 := FV148.ext E149
  have FC148_e149 := FC148.ext E149
  have FB148_e149 := FB148.ext E149
  have E_b149 := A149
  have g_b149 : n0 ≤ b149 := Nat.le_trans Z148 (Nat.le_of_eq g149.symm)
  have sz_b149 : h0.size ≤ b149 := Nat.le_trans KK148.1 (Nat.le_of_eq g149.symm)
  have K149 := KK148.ext E149
  have Z149 : n0 ≤ h149.size := Nat.le_trans Z148 E149.1
  have F_coder_b149 : Fld Z h149 b149 "java/lang/String" "coder" "B" (.int (0 : Int32)) := D149 (Or.inr (hw _ (List.mem_of_getElem? (i := 38) rfl))) (ty := .byte) (by decide)
  have F_value_b149 : Fld Z h149 b149 "java/lang/String" "value" "[B" .null := D149 (Or.inr (hw _ (List.mem_of_getElem? (i := 40) rfl))) (ty := (.array .byte)) (by decide)
  have O149 := O148.ext E149
  obtain ⟨T150, h150, X150, e150, E150, A150, st150⟩ := nwA X149 hx hZ (hw _ (List.mem_of_getElem? (i := 14) rfl)) e149 (g := (mkF m 85 #[.val (.int sel), .val (.int ra), .val (.int rb), .val (.int rc), .val (.int fl), .val (.int (0 : Int32)), .val (.int (c8 ra)), .val (.int (c8 rb)), .val (.int (c8 rc)), .val (.ref kd), .val (.ref o148), .unset, .unset] [(.int (3 : Int32)), (.ref b149), (.ref b149)])) rfl (hb hby at_85) (n := 3) rfl (cap := 3) (by decide) (by decide) (by decide) (by decide)
  obtain ⟨b150, q150⟩ : ∃ z, z = h149.size := ⟨_, rfl⟩
  rw [← q150] at A150 st150
  have V150 : AF Z h150 b150 .char 3 (fun _ => (.int (0 : Int32))) := A150
  have g_b150 : n0 ≤ b150 := Nat.le_trans Z149 (Nat.le_of_eq q150.symm)
  have sz_b150 : h0.size ≤ b150 := Nat.le_trans K149.1 (Nat.le_of_eq q150.symm)
  have K150 := K149.ext E150
  have Z150 : n0 ≤ h150.size := Nat.le_trans Z149 E150.1
  have ne_b149_b150 : b149 ≠ b150 := Nat.ne_of_lt (Nat.lt_of_lt_of_le E_b149.lt (Nat.le_of_eq q150.symm))
  have ne_d148_b150 : d148 ≠ b150 := Nat.ne_of_lt (Nat.lt_of_lt_of_le FB148_e149.lt (Nat.le_of_eq q150.symm))
  have ne_o148_b150 : o148 ≠ b150 := Nat.ne_of_lt (Nat.lt_of_lt_of_le EO148_e149.lt (Nat.le_of_eq q150.symm))
  have EO148_e150 := EO148_e149.ext E150
  have FV148_e150 := FV148_e149.ext E150
  have FC148_e150 := FC148_e149.ext E150
  have FB148_e150 := FB148_e149.ext E150
  have E_b149_e150 := E_b149.ext E150
  have F_coder_b149_e150 := F_coder_b149.ext E150
  have F_value_b149_e150 := F_value_b149.ext E150
  have O150 := O149.ext E150
  obtain ⟨T151, h151, X151, e151, W151, st151⟩ := stCh X150 hx hZ e150 V150 (i := 0) (by decide) (by decide) (x := (c8 ra)) (g := (mkF m 91 #[.val (.int sel), .val (.int ra), .val (.int rb), .val (.int rc), .val (.int fl), .val (.int (0 : Int32)), .val (.int (c8 ra)), .val (.int (c8 rb)), .val (.int (c8 rc)), .val (.ref kd), .val (.ref o148), .unset, .unset] [(.int (c8 ra)), (.int (0 : Int32)), (.ref b150), (.ref b150), (.ref b149), (.ref b149)])) rfl rfl (hb hby at_91)
  have A151 := V150.wr W151
  have EO148_e151 := EO148_e150.wr W151
  have FV148_e151 := FV148_e150.other W151 (Or.inl ne_o148_b150)
  have FC148_e151 := FC148_e150.other W151 (Or.inl ne_o148_b150)
  have FB148_e151 := FB148_e150.other W151 ne_d148_b150
  have E_b149_e151 := E_b149_e150.wr W151
  have F_coder_b149_e151 := F_coder_b149_e150.other W151 (Or.inl ne_b149_b150)
  have F_value_b149_e151 := F_value_b149_e150.other W151 (Or.inl ne_b149_b150)
  have N151 := Fr.snoc X151 N148 g_b150
  have K151 := K150.wr W151 (Or.inr sz_b150)
  have Z151 : n0 ≤ h151.size := Nat.le_trans Z150 (Keep.of_wr W151).1
  have O151 := O150.wr W151 g_b150
  obtain ⟨T152, h152, X152, e152, W152, st152⟩ := stCh X151 hx hZ e151 A151 (i := 1) (by decide) (by decide) (x := (c8 rb)) (g := (mkF m 96 #[.val (.int sel), .val (.int ra), .val (.int rb), .val (.int rc), .val (.int fl), .val (.int (0 : Int32)), .val (.int (c8 ra)), .val (.int (c8 rb)), .val (.int (c8 rc)), .val (.ref kd), .val (.ref o148), .unset, .unset] [(.int (c8 rb)), (.int (1 : Int32)), (.ref b150), (.ref b150), (.ref b149), (.ref b149)])) rfl rfl (hb hby at_96)
  have A152 := A151.wr W152
  have EO148_e152 := EO148_e151.wr W152
  have FV148_e152 := FV148_e151.other W152 (Or.inl ne_o148_b150)
  have FC148_e152 := FC148_e151.other W152 (Or.inl ne_o148_b150)
  have FB148_e152 := FB148_e151.other W152 ne_d148_b150
  have E_b149_e152 := E_b149_e151.wr W152
  have F_coder_b149_e152 := F_coder_b149_e151.other W152 (Or.inl ne_b149_b150)
  have F_value_b149_e152 := F_value_b149_e151.other W152 (Or.inl ne_b149_b150)
  have N152 := Fr.snoc X152 N151 g_b150
  have K152 := K151.wr W152 (Or.inr sz_b150)
  have Z152 : n0 ≤ h152.size := Nat.le_trans Z151 (Keep.of_wr W152).1
  have O152 := O151.wr W152 g_b150
  obtain ⟨T153, h153, X153, e153, W153, st153⟩ := stCh X152 hx hZ e152 A152 (i := 2) (by decide) (by decide) (x := (c8 rc)) (g := (mkF m 101 #[.val (.int sel), .val (.int ra), .val (.int rb), .val (.int rc), .val (.int fl), .val (.int (0 : Int32)), .val (.int (c8 ra)), .val (.int (c8 rb)), .val (.int (c8 rc)), .val (.ref kd), .val (.ref o148), .unset, .unset] [(.int (c8 rc)), (.int (2 : Int32)), (.ref b150), (.ref b150), (.ref b149), (.ref b149)])) rfl rfl (hb hby at_101)
  have A153 := A152.wr W153
  have EO148_e153 := EO148_e152.wr W153
  have FV148_e153 := FV148_e152.other W153 (Or.inl ne_o148_b150)
  have FC148_e153 := FC148_e152.other W153 (Or.inl ne_o148_b150)
  have FB148_e153 := FB148_e152.other W153 ne_d148_b150
  have E_b149_e153 := E_b149_e152.wr W153
  have F_coder_b149_e153 := F_coder_b149_e152.other W153 (Or.inl ne_b149_b150)
  have F_value_b149_e153 := F_value_b149_e152.other W153 (Or.inl ne_b149_b150)
  have N153 := Fr.snoc X153 N152 g_b150
  have K153 := K152.wr W153 (Or.inr sz_b150)
  have Z153 : n0 ≤ h153.size := Nat.le_trans Z152 (Keep.of_wr W153).1
  have O153 := O152.wr W153 g_b150
  have hBb149 : ∀ j, isB (gl [(c8 ra), (c8 rb), (c8 rc)] j) := glB (List.forall_mem_cons.mpr ⟨(c8_B _), (List.forall_mem_cons.mpr ⟨(c8_B _), (List.forall_mem_cons.mpr ⟨(c8_B _), (fun _ q => absurd q List.not_mem_nil)⟩)⟩)⟩)
  obtain ⟨_, _, ⟨T154, L154, k154, n154⟩, -, X154, ⟨Lc154, hQ154, l154, y154, z154⟩, st154⟩ := X153.specialBack hx (y := (⟨"java/lang/String", "<init>", "([C)V"⟩ : MethodName)) rfl hown (mvT hZ (hw _ (List.mem_of_getElem? (i := 15) rfl))) (mvT hZ (hw _ (List.mem_of_getElem? (i := 16) rfl))) (mvT hZ (hw _ (List.mem_of_getElem? (i := 17) rfl))) (by decide) (backOf (W := 1) (rmI1 l Z a0 hw [] b149 b150 3 (gl [(c8 ra), (c8 rb), (c8 rc)]) h153 n0 Z153 (by decide) (by decide) O153 SK (A153.congr (updS (updS (updS upd0 (congrArg Value.int (nar_id (isCh_of (c8_B _))))) (congrArg Value.int (nar_id (isCh_of (c8_B _))))) (congrArg Value.int (nar_id (isCh_of (c8_B _)))))) (fun j _ => isCh_of (hBb149 j)) E_b149_e153 F_value_b149_e153 F_coder_b149_e153 g_b149 (Ne.symm ne_b149_b150) (fun j _ => notBig (hBb149 j))) hZ (hw _ (List.mem_of_getElem? (i := 17) rfl)) (hw _ (List.mem_of_getElem? (i := 13) rfl)) (by decide) (by decide)) (g := (mkF m 102 #[.val (.int sel), .val (.int ra), .val (.int rb), .val (.int rc), .val (.int fl), .val (.int (0 : Int32)), .val (.int (c8 ra)), .val (.int (c8 rb)), .val (.int (c8 rc)), .val (.ref kd), .val (.ref o148), .unset, .unset] [(.ref b150), (.ref b149), (.ref b149)])) rfl (by rw [hml]; rfl) (Steps.refl _) (a := b149) (argsL := [(.ref b150)]) (rest := [(.ref b149)]) (lenOf pd_2 rfl) rfl (by show 2 * 0 + _ ≤ _; exact Nat.le_of_eq rfl) (hb hby at_102) (fun _ _ => ⟨rfl, e153, (by decide : 6 + 2 ≤ _), (by decide : 107 + 60 ≤ _)⟩)
  dsimp only [Pt.U, Pt.locs, Pt.cells, Pt.slots] at X154 l154 y154 z154 st154 hQ154
  subst l154 y154 z154
  obtain ⟨rfl, N154q, K154, S154⟩ := hQ154
  have N154 := Fr.app N153 N154q
  have EO148_e154 := EO148_e153.keep K154
  have FV148_e154 := FV148_e153.keep K154 (notin1 ne_o148_b149)
  have FC148_e154 := FC148_e153.keep K154 (notin1 ne_o148_b149)
  have FB148_e154 := FB148_e153.keep K154 (notin1 ne_d148_b149)
  have E_b149_e154 := E_b149_e153.keep K154
  have KK154 := K153.trans K154 (fun x r => by cases List.mem_singleton.mp r; exact (Or.inr sz_b149))
  have Z154 : n0 ≤ T154.heap.size := Nat.le_trans Z153 K154.1
  have O154 := O153.keep K154 (all1 g_b149)
  have SW154 : StrV Z _ o148 13 (Lb (gl [(c8 ra), (c8 rb), (c8 rc), (46 : Int32), (112 : Int32), (114 : Int32), (111 : Int32), (120 : Int32), (121 : Int32), (46 : Int32), (120 : Int32), (109 : Int32), (108 : Int32)])) := ⟨EO148_e154, d148, FV148_e154, FC148_e154, FB148_e154⟩
  have EKo148 := KDm.1.ext O154.2
  obtain ⟨cq155, kq155, q155a, q155b, q155c⟩ := isOf hZ rfl EKo148
  obtain ⟨_, _, ⟨T155, L155, k155, n155⟩, -, X155, ⟨Lc155, hQ155, l155, y155, z155⟩, st155⟩ := X154.virtualBack hx (y := (⟨"com/example/trestle/trestle/ResourceKind", "id", "(Ljava/lang/String;)Ljava/lang/String;"⟩ : MethodName)) (z := (⟨"com/example/trestle/trestle/ResourceKind", "id", "(Ljava/lang/String;)Ljava/lang/String;"⟩ : MethodName)) hown (mvT hZ (hw _ (List.mem_of_getElem? (i := 41) rfl))) (mvT hZ (hw _ (List.mem_of_getElem? (i := 42) rfl))) (notFace_of_selects (args := #[]) (mvT hZ (hw _ (List.mem_of_getElem? (i := 44) rfl)))) (mvT hZ (hw _ (List.mem_of_getElem? (i := 44) rfl))) (mvT hZ (hw _ (List.mem_of_getElem? (i := 43) rfl))) (by decide) (backOf (W := 0) (rmID l Z a0 hw [] kd o148 13 10 (Lb (gl [(c8 ra), (c8 rb), (c8 rc), (46 : Int32), (112 : Int32), (114 : Int32), (111 : Int32), (120 : Int32), (121 : Int32), (46 : Int32), (120 : Int32), (109 : Int32), (108 : Int32)])) T154.heap n0 Z154 (by decide) O154 SK SW154 (by decide) (by decide) KDm (fitsLb _ _)) hZ (hw _ (List.mem_of_getElem? (i := 45) rfl)) (hw _ (List.mem_of_getElem? (i := 6) rfl)) (by decide) (by decide)) q155a q155c (g := (mkF m 111 #[.val (.int sel), .val (.int ra), .val (.int rb), .val (.int rc), .val (.int fl), .val (.int (0 : Int32)), .val (.int (c8 ra)), .val (.int (c8 rb)), .val (.int (c8 rc)), .val (.ref kd), .val (.ref o148), .val (.ref b149), .unset] [(.ref o148), (.ref kd)])) rfl (by rw [hml]; rfl) (Steps.refl _) (argsL := [(.ref o148)]) (rest := []) (lenOf pd_8 rfl) rfl (by show 2 * 0 + _ ≤ _; exact Nat.le_of_eq rfl) (hb hby at_111) (fun _ _ => ⟨rfl, rfl, (by decide : 8 + 2 ≤ _), (by decide : 167 + 24 ≤ _)⟩)
  dsimp only [Pt.U, Pt.locs, Pt.cells, Pt.slots] at X155 l155 y155 z155 st155 hQ155
  subst l155 y155 z155
  obtain ⟨o155, rfl, N155q, K155, S155⟩ := hQ155
  have N155 := Fr.app N154 N155q
  have KK155 := KK154.trans K155 (fun x r => absurd r List.not_mem_nil)
  have Z155 : n0 ≤ T155.heap.size := Nat.le_trans Z154 K155.1
  have O155 := O154.keep K155 all0'
  have SB155 := S154.keep K155
  obtain ⟨cq156, kq156, q156a, q156b, q156c⟩ := isOf hZ rfl SB155.1
  obtain ⟨_, _, ⟨T156, L156, k156, n156⟩, -, X156, ⟨Lc156, hQ156, l156, y156, z156⟩, st156⟩ := X155.virtualBack hx (y := (⟨"java/lang/String", "equals", "(Ljava/lang/Object;)Z"⟩ : MethodName)) (z := (⟨"java/lang/String", "equals", "(Ljava/lang/Object;)Z"⟩ : MethodName)) hown (mvT hZ (hw _ (List.mem_of_getElem? (i := 103) rfl))) (mvT hZ (hw _ (List.mem_of_getElem? (i := 104) rfl))) (notFace_of_selects (args := #[]) (mvT hZ (hw _ (List.mem_of_getElem? (i := 106) rfl)))) (mvT hZ (hw _ (List.mem_of_getElem? (i := 106) rfl))) (mvT hZ (hw _ (List.mem_of_getElem? (i := 105) rfl))) (by decide) (backOf (W := 0) (rmEQ l Z a0 hw [] b149 o155 3 (fun j => b8 (gl [(c8 ra), (c8 rb), (c8 rc)] j)) T155.heap n0 Z155 (by decide) O155 SK SB155 (S155.congr c3)) hZ (hw _ (List.mem_of_getElem? (i := 107) rfl)) (hw _ (List.mem_of_getElem? (i := 13) rfl)) (by decide) (by decide)) q156a q156c (g := (mkF m 120 #[.val (.int sel), .val (.int ra), .val (.int rb), .val (.int rc), .val (.int fl), .val (.int (0 : Int32)), .val (.int (c8 ra)), .val (.int (c8 rb)), .val (.int (c8 rc)), .val (.ref kd), .val (.ref o148), .val (.ref b149), .val (.ref o155)] [(.ref o155), (.ref b149)])) rfl (by rw [hml]; rfl) (Steps.refl _) (argsL := [(.ref o155)]) (rest := []) (lenOf pd_21 rfl) rfl (by show 2 * 0 + _ ≤ _; exact Nat.le_of_eq rfl) (hb hby at_120) (fun _ _ => ⟨rfl, rfl, (by decide : 10 + 0 ≤ _), (by decide : 191 + 0 ≤ _)⟩)
  dsimp only [Pt.U, Pt.locs, Pt.cells, Pt.slots] at X156 l156 y156 z156 st156 hQ156
  subst l156 y156 z156
  obtain ⟨rfl, N156q, e156⟩ := hQ156
  have N156 := Fr.app N155 N156q
  obtain ⟨fs, hr, hrun, hended, -, hWW, hBB, hSS⟩ := Stand.leaveW (s := s) (vm₁ := s.vm) X156 ((State.WarmedH.refl s).since 0) (by rw [e156]; exact (Nat.zero_le _)) (v := some (.int (1 : Int32))) (fun h => by rw [Bd.returns] at h; cases h)
  refine ⟨_, _, pre0 _ ?_, hrun, hended, _, _, rfl, ?_, ⟨_, rfl⟩, hWW, hBB, hSS.mono (by decide) (by decide)⟩
  · show Steps p.tables e below (s₁.setTop (mkF m 0 #[.val (.int sel), .val (.int ra), .val (.int rb), .val (.int rc), .val (.int fl), .unset, .unset, .unset, .unset, .unset, .unset, .unset, .unset] [])) _
    refine XS.iloadN X0.here hx rfl (hb hby at_0) rfl ?_
    refine X0.ldcInt hx hown (mvT hZ (hw _ (List.mem_of_getElem? (i := 0) rfl))) (g := (mkF m 1 #[.val (.int sel), .val (.int ra), .val (.int rb), .val (.int rc), .val (.int fl), .unset, .unset, .unset, .unset, .unset, .unset, .unset, .unset] [(.int sel)])) rfl (hb hby at_1) _ ?_
    refine XS.iand X0.here hx rfl (hb hby at_3) rfl ?_
    refine XS.bipush X0.here hx rfl (hb hby at_4) ?_
    refine gwIrem X0.here hx rfl (hb hby at_6) rfl (by decide) ?_
    show Steps p.tables e below (s₁.setTop (mkF m 7 #[.val (.int sel), .val (.int ra), .val (.int rb), .val (.int rc), .val (.int fl), .unset, .unset, .unset, .unset, .unset, .unset, .unset, .unset] [(.int (kF sel))])) _
    refine XS.istore X0.here hx rfl (hb hby at_7) rfl (l' := #[.val (.int sel), .val (.int ra), .val (.int rb), .val (.int rc), .val (.int fl), .val (.int (kF sel)), .unset, .unset, .unset, .unset, .unset, .unset, .unset]) rfl ?_
    refine XS.iloadN X0.here hx rfl (hb hby at_9) rfl ?_
    refine XS.sipush X0.here hx rfl (hb hby at_10) ?_
    refine XS.iand X0.here hx rfl (hb hby at_13) rfl ?_
    refine XS.i2c X0.here hx rfl (hb hby at_14) rfl ?_
    show Steps p.tables e below (s₁.setTop (mkF m 15 #[.val (.int sel), .val (.int ra), .val (.int rb), .val (.int rc), .val (.int fl), .val (.int (kF sel)), .unset, .unset, .unset, .unset, .unset, .unset, .unset] [(.int (c8 ra))])) _
    refine XS.istore X0.here hx rfl (hb hby at_15) rfl (l' := #[.val (.int sel), .val (.int ra), .val (.int rb), .val (.int rc), .val (.int fl), .val (.int (kF sel)), .val (.int (c8 ra)), .unset, .unset, .unset, .unset, .unset, .unset]) rfl ?_
    refine XS.iloadN X0.here hx rfl (hb hby at_17) rfl ?_
    refine XS.sipush X0.here hx rfl (hb hby at_18) ?_
    refine XS.iand X0.here hx rfl (hb hby at_21) rfl ?_
    refine XS.i2c X0.here hx rfl (hb hby at_22) rfl ?_
    show Steps p.tables e below (s₁.setTop (mkF m 23 #[.val (.int sel), .val (.int ra), .val (.int rb), .val (.int rc), .val (.int fl), .val (.int (kF sel)), .val (.int (c8 ra)), .unset, .unset, .unset, .unset, .unset, .unset] [(.int (c8 rb))])) _
    refine XS.istore X0.here hx rfl (hb hby at_23) rfl (l' := #[.val (.int sel), .val (.int ra), .val (.int rb), .val (.int rc), .val (.int fl), .val (.int (kF sel)), .val (.int (c8 ra)), .val (.int (c8 rb)), .unset, .unset, .unset, .unset, .unset]) rfl ?_
    refine XS.iloadN X0.here hx rfl (hb hby at_25) rfl ?_
    refine XS.sipush X0.here hx rfl (hb hby at_26) ?_
    refine XS.iand X0.here hx rfl (hb hby at_29) rfl ?_
    refine XS.i2c X0.here hx rfl (hb hby at_30) rfl ?_
    show Steps p.tables e below (s₁.setTop (mkF m 31 #[.val (.int sel), .val (.int ra), .val (.int rb), .val (.int rc), .val (.int fl), .val (.int (kF sel)), .val (.int (c8 ra)), .val (.int (c8 rb)), .unset, .unset, .unset, .unset, .unset] [(.int (c8 rc))])) _
    refine XS.istore X0.here hx rfl (hb hby at_31) rfl (l' := #[.val (.int sel), .val (.int ra), .val (.int rb), .val (.int rc), .val (.int fl), .val (.int (kF sel)), .val (.int (c8 ra)), .val (.int (c8 rb)), .val (.int (c8 rc)), .unset, .unset, .unset, .unset]) rfl ?_
    refine XS.iload X0.here hx rfl (hb hby at_33) rfl ?_
    show Steps p.tables e below (s₁.setTop (mkF m 35 #[.val (.int sel), .val (.int ra), .val (.int rb), .val (.int rc), .val (.int fl), .val (.int (kF sel)), .val (.int (c8 ra)), .val (.int (c8 rb)), .val (.int (c8 rc)), .unset, .unset, .unset, .unset] [(.int (kF sel))])) _
    rw [show (kF sel) = (0 : Int32) from hk]
    show Steps p.tables e below (s₁.setTop (mkF m 35 #[.val (.int sel), .val (.int ra), .val (.int rb), .val (.int rc), .val (.int fl), .val (.int (0 : Int32)), .val (.int (c8 ra)), .val (.int (c8 rb)), .val (.int (c8 rc)), .unset, .unset, .unset, .unset] [(.int (0 : Int32))])) _
    refine st147 _ ?_
    refine XS.astore X147.here hx rfl (hb hby at_38) rfl rfl (l' := #[.val (.int sel), .val (.int ra), .val (.int rb), .val (.int rc), .val (.int fl), .val (.int (0 : Int32)), .val (.int (c8 ra)), .val (.int (c8 rb)), .val (.int (c8 rc)), .val (.ref kd), .unset, .unset, .unset]) rfl ?_
    refine XS.iload X147.here hx rfl (hb hby at_40) rfl ?_
    refine XS.iconst X147.here hx rfl (hb hby at_42) ?_
    refine XS.iand X147.here hx rfl (hb hby at_43) rfl ?_
    refine XS.ifYes X147.here hx rfl (pc0 := 44) (pc' := 67) rfl (hb hby at_44) rfl ((if0 _ _).trans (teq hc44).1) (by decide) (by decide) ?_
    show Steps p.tables e below (T147.setTop (mkF m 67 #[.val (.int sel), .val (.int ra), .val (.int rb), .val (.int rc), .val (.int fl), .val (.int (0 : Int32)), .val (.int (c8 ra)), .val (.int (c8 rb)), .val (.int (c8 rc)), .val (.ref kd), .unset, .unset, .unset] [])) _
    refine XS.iload X147.here hx rfl (hb hby at_67) rfl ?_
    refine XS.iload X147.here hx rfl (hb hby at_69) rfl ?_
    refine XS.iload X147.here hx rfl (hb hby at_71) rfl ?_
    refine XS.iload X147.here hx rfl (hb hby at_73) rfl ?_
    show Steps p.tables e below (T147.setTop (mkF m 75 #[.val (.int sel), .val (.int ra), .val (.int rb), .val (.int rc), .val (.int fl), .val (.int (0 : Int32)), .val (.int (c8 ra)), .val (.int (c8 rb)), .val (.int (c8 rc)), .val (.ref kd), .unset, .unset, .unset] [(.int (c8 rc)), (.int (c8 rb)), (.int (c8 ra)), (.int (0 : Int32))])) _
    refine st148 _ ?_
    refine XS.astore X148.here hx rfl (hb hby at_78) rfl rfl (l' := #[.val (.int sel), .val (.int ra), .val (.int rb), .val (.int rc), .val (.int fl), .val (.int (0 : Int32)), .val (.int (c8 ra)), .val (.int (c8 rb)), .val (.int (c8 rc)), .val (.ref kd), .val (.ref o148), .unset, .unset]) rfl ?_
    show Steps p.tables e below (T148.setTop (mkF m 80 #[.val (.int sel), .val (.int ra), .val (.int rb), .val (.int rc), .val (.int fl), .val (.int (0 : Int32)), .val (.int (c8 ra)), .val (.int (c8 rb)), .val (.int (c8 rc)), .val (.ref kd), .val (.ref o148), .unset, .unset] [])) _
    refine st149 _ ?_
    refine XS.dup X149.here hx rfl (hb hby at_83) rfl rfl ?_
    refine XS.iconst X149.here hx rfl (hb hby at_84) ?_
    show Steps p.tables e below (T149.setTop (mkF m 85 #[.val (.int sel), .val (.int ra), .val (.int rb), .val (.int rc), .val (.int fl), .val (.int (0 : Int32)), .val (.int (c8 ra)), .val (.int (c8 rb)), .val (.int (c8 rc)), .val (.ref kd), .val (.ref o148), .unset, .unset] [(.int (3 : Int32)), (.ref b149), (.ref b149)])) _
    refine st150 _ ?_
    refine XS.dup X150.here hx rfl (hb hby at_87) rfl rfl ?_
    refine XS.iconst X150.here hx rfl (hb hby at_88) ?_
    refine XS.iload X150.here hx rfl (hb hby at_89) rfl ?_
    show Steps p.tables e below (T150.setTop (mkF m 91 #[.val (.int sel), .val (.int ra), .val (.int rb), .val (.int rc), .val (.int fl), .val (.int (0 : Int32)), .val (.int (c8 ra)), .val (.int (c8 rb)), .val (.int (c8 rc)), .val (.ref kd), .val (.ref o148), .unset, .unset] [(.int (c8 ra)), (.int (0 : Int32)), (.ref b150), (.ref b150), (.ref b149), (.ref b149)])) _
    refine st151 _ ?_
    refine XS.dup X151.here hx rfl (hb hby at_92) rfl rfl ?_
    refine XS.iconst X151.here hx rfl (hb hby at_93) ?_
    refine XS.iload X151.here hx rfl (hb hby at_94) rfl ?_
    show Steps p.tables e below (T151.setTop (mkF m 96 #[.val (.int sel), .val (.int ra), .val (.int rb), .val (.int rc), .val (.int fl), .val (.int (0 : Int32)), .val (.int (c8 ra)), .val (.int (c8 rb)), .val (.int (c8 rc)), .val (.ref kd), .val (.ref o148), .unset, .unset] [(.int (c8 rb)), (.int (1 : Int32)), (.ref b150), (.ref b150), (.ref b149), (.ref b149)])) _
    refine st152 _ ?_
    refine XS.dup X152.here hx rfl (hb hby at_97) rfl rfl ?_
    refine XS.iconst X152.here hx rfl (hb hby at_98) ?_
    refine XS.iload X152.here hx rfl (hb hby at_99) rfl ?_
    show Steps p.tables e below (T152.setTop (mkF m 101 #[.val (.int sel), .val (.int ra), .val (.int rb), .val (.int rc), .val (.int fl), .val (.int (0 : Int32)), .val (.int (c8 ra)), .val (.int (c8 rb)), .val (.int (c8 rc)), .val (.ref kd), .val (.ref o148), .unset, .unset] [(.int (c8 rc)), (.int (2 : Int32)), (.ref b150), (.ref b150), (.ref b149), (.ref b149)])) _
    refine st153 _ ?_
    show Steps p.tables e below (T153.setTop (mkF m 102 #[.val (.int sel), .val (.int ra), .val (.int rb), .val (.int rc), .val (.int fl), .val (.int (0 : Int32)), .val (.int (c8 ra)), .val (.int (c8 rb)), .val (.int (c8 rc)), .val (.ref kd), .val (.ref o148), .unset, .unset] [(.ref b150), (.ref b149), (.ref b149)])) _
    refine st154.trans ?_
    refine XS.astore X154.here hx rfl (hb hby at_105) rfl rfl (l' := #[.val (.int sel), .val (.int ra), .val (.int rb), .val (.int rc), .val (.int fl), .val (.int (0 : Int32)), .val (.int (c8 ra)), .val (.int (c8 rb)), .val (.int (c8 rc)), .val (.ref kd), .val (.ref o148), .val (.ref b149), .unset]) rfl ?_
    refine XS.aload X154.here hx rfl (hb hby at_107) rfl rfl ?_
    refine XS.aload X154.here hx rfl (hb hby at_109) rfl rfl ?_
    show Steps p.tables e below (T154.setTop (mkF m 111 #[.val (.int sel), .val (.int ra), .val (.int rb), .val (.int rc), .val (.int fl), .val (.int (0 : Int32)), .val (.int (c8 ra)), .val (.int (c8 rb)), .val (.int (c8 rc)), .val (.ref kd), .val (.ref o148), .val (.ref b149), .unset] [(.ref o148), (.ref kd)])) _
    refine st155.trans ?_
    refine XS.astore X155.here hx rfl (hb hby at_114) rfl rfl (l' := #[.val (.int sel), .val (.int ra), .val (.int rb), .val (.int rc), .val (.int fl), .val (.int (0 : Int32)), .val (.int (c8 ra)), .val (.int (c8 rb)), .val (.int (c8 rc)), .val (.ref kd), .val (.ref o148), .val (.ref b149), .val (.ref o155)]) rfl ?_
    refine XS.aload X155.here hx rfl (hb hby at_116) rfl rfl ?_
    refine XS.aload X155.here hx rfl (hb hby at_118) rfl rfl ?_
    show Steps p.tables e below (T155.setTop (mkF m 120 #[.val (.int sel), .val (.int ra), .val (.int rb), .val (.int rc), .val (.int fl), .val (.int (0 : Int32)), .val (.int (c8 ra)), .val (.int (c8 rb)), .val (.int (c8 rc)), .val (.ref kd), .val (.ref o148), .val (.ref b149), .val (.ref o155)] [(.ref o155), (.ref b149)])) _
    refine st156.trans ?_
    show Steps p.tables e below (T156.setTop (mkF m 123 #[.val (.int sel), .val (.int ra), .val (.int rb), .val (.int rc), .val (.int fl), .val (.int (0 : Int32)), .val (.int (c8 ra)), .val (.int (c8 rb)), .val (.int (c8 rc)), .val (.ref kd), .val (.ref o148), .val (.ref b149), .val (.ref o155)] [(.int (1 : Int32))])) _
    exact retN X156 hx (t := .boolean) Bd.returns (by simp) (hb hby at_123) hr
  · show Q0  h0 n0 _ T156.heap _
    exact ⟨rfl, N156⟩
set_option maxRecDepth 65536 in
set_option maxHeartbeats 40000000 in
theorem rm0_01 (l : Launch) (Z : State) (a0 : Array Value) (hw : ∀ d ∈ tables_1, d.before a0 Z = true) (ws : List Jvm.Cond) (sel : Int32) (ra : Int32) (rb : Int32) (rc : Int32) (fl : Int32) (kd : Addr) (h0 : Heap) (n0 : Nat) (Z0 : n0 ≤ h0.size) (hk : kF sel = (0 : Int32)) (hst : Sta Z Z.heap "com/example/trestle/trestle/ResourceKind" "PROXY_SERVICE" "Lcom/example/trestle/trestle/ResourceKind;" (.ref kd)) (KDm : KD Z kd 10) (O : Old Z n0 h0) (SK : StrSta Z) (hEL : EW Z a0 EL1) (hc44 : ¬ ((fl &&& (1 : Int32)) = (0 : Int32))) :
    MetFree l x (head1 (Jvm.Cond.code x code maxLocals ret :: ws) room_1) (fun aa_ U_ => aa_ = #[(.int sel), (.int ra), (.int rb), (.int rc), (.int fl)] ∧ Z.Warmed39 U_.vm ∧ U_.heap = h0 ∧ CHv Z EL1 U_.vm h0) (fun _ _ _ _ _ => True) (fun _ U_ o_ V_ => ∃ v_ L_, o_ = .returned v_ ∧ Q0  h0 n0 v_ V_.heap L_ ∧ ReturnedEndW U_ o_ V_ L_ room_1.cells room_1.slots) := by
  refine MetFree.of_bodySF (plainFor_of_name pn_0) hisR ?_
  intro p e s m args below meth c s₁ Bd hml0 hP hK
  obtain ⟨rfl, hZ, hh, CH0⟩ := hP
  have hx := Bd.exec
  have hby := Bd.bytes
  have hml : c.maxLocals = 13 := hml0
  have hown : s.vm.findClass "com/example/trestle/trestle/ResourceKindIdPinLaw" = some m.cls := findClass_of_methodNamed Bd.named
  have hnm := (name_of_methodNamed Bd.named Bd.method).1
  have X0 : Stand p l e room_1 s m #[(.int sel), (.int ra), (.int rb), (.int rc), (.int fl)] below meth c s₁ [] 0 0 := Stand.of_body Bd
  have e0 : s₁.heap = h0 := by rw [← hh, Bd.state]; rfl
  have N0 := Fr.nil n0
  have pre0 : ∀ zz, Steps p.tables e below (s₁.setTop (mkF m 0 #[.val (.int sel), .val (.int ra), .val (.int rb), .val (.int rc), .val (.int fl), .unset, .unset, .unset, .unset, .unset, .unset, .unset, .unset] [])) zz → Steps p.tables e below (s₁.setTop (entryFrame m #[(.int sel), (.int ra), (.int rb), (.int rc), (.int fl)] maxLocals)) zz := fun zz kz_ => castTop (ef_0 m sel ra rb rc fl) kz_
  have hwS : ∀ a ∈ Bundle.stringAtoms, a.before a0 Z = true := fun d hd => hw d (by simpa using (List.all_eq_true.mp (by decide +kernel : (Bundle.stringAtoms.all fun c => tables_1.contains c) = true)) d hd)
  obtain ⟨_, _, ⟨T157, L157, k157, n157⟩, -, X157, ⟨Lc157, hQ157, l157, y157, z157⟩, st157⟩ := Jvm.LawKit.callS X0 hx (y := (⟨"com/example/trestle/trestle/ResourceKindIdPinLaw", "kindOf", "(I)Lcom/example/trestle/trestle/ResourceKind;"⟩ : MethodName)) hown (mvT hZ (hw _ (List.mem_of_getElem? (i := 1) rfl))) (mvT hZ (hw _ (List.mem_of_getElem? (i := 2) rfl))) (mvT hZ (hw _ (List.mem_of_getElem? (i := 3) rfl))) (mvT hZ (hw _ (List.mem_of_getElem? (i := 4) rfl))) (by decide) (backOf (W := 0) (rmK0 l Z a0 hw [] kd h0 n0 Z0 O hst) hZ (hw _ (List.mem_of_getElem? (i := 4) rfl)) (hw _ (List.mem_of_getElem? (i := 3) rfl)) (by decide) (by decide)) (g := (mkF m 35 #[.val (.int sel), .val (.int ra), .val (.int rb), .val (.int rc), .val (.int fl), .val (.int (0 : Int32)), .val (.int (c8 ra)), .val (.int (c8 rb)), .val (.int (c8 rc)), .unset, .unset, .unset, .unset] [(.int (0 : Int32))])) rfl (by rw [hml]; rfl) (argsL := [(.int (0 : Int32))]) (rest := []) (lenOf pd_0 rfl) rfl (by show 2 * 0 + _ ≤ _; exact Nat.le_of_eq rfl) (hb hby at_35) (fun _ _ => ⟨rfl, e0, (by decide : 0 + 0 ≤ _), (by decide : 0 + 0 ≤ _)⟩)
  dsimp only [Pt.U, Pt.locs, Pt.cells, Pt.slots] at X157 l157 y157 z157 st157 hQ157
  subst l157 y157 z157
  obtain ⟨rfl, N157q, e157⟩ := hQ157
  have N157 := Fr.app N0 N157q
  obtain ⟨_, _, ⟨T158, L158, k158, n158⟩, -, X158, hS2158, hg158, ⟨Lc158, hQ158, l158, y158, z158, C158⟩, st158⟩ := callSS X157 hx (y := (⟨"com/example/trestle/trestle/ResourceKindIdPinLaw", "suffixOf", "(I)Ljava/lang/String;"⟩ : MethodName)) hown (mvT hZ (hw _ (List.mem_of_getElem? (i := 114) rfl))) (mvT hZ (hw _ (List.mem_of_getElem? (i := 115) rfl))) (mvT hZ (hw _ (List.mem_of_getElem? (i := 3) rfl))) (mvT hZ (hw _ (List.mem_of_getElem? (i := 116) rfl))) (by decide) (backOfSH (s := s) (vm0 := s.vm) (EL := EL1) (W := 1) (rmSX0 l Z a0 hw []  h0 n0 Z0 hEL) hZ (hw _ (List.mem_of_getElem? (i := 116) rfl)) (hw _ (List.mem_of_getElem? (i := 3) rfl)) (by decide) (by decide) hEL CH0) (g := (mkF m 51 #[.val (.int sel), .val (.int ra), .val (.int rb), .val (.int rc), .val (.int fl), .val (.int (0 : Int32)), .val (.int (c8 ra)), .val (.int (c8 rb)), .val (.int (c8 rc)), .val (.ref kd), .unset, .unset, .unset] [(.int (0 : Int32)), (.ref kd)])) rfl (by rw [hml]; rfl) (argsL := [(.int (0 : Int32))]) (rest := [(.ref kd)]) (lenOf pd_23 rfl) rfl (by show 2 * 0 + _ ≤ _; exact Nat.le_of_eq rfl) (hb hby at_51) (fun _ _ => ⟨rfl, e157, (by decide : 0 + 2 ≤ _), (by decide : 0 + 60 ≤ _)⟩)
  dsimp only [Pt.U, Pt.locs, Pt.cells, Pt.slots] at X158 l158 y158 z158 st158 hQ158 hS2158 hg158
  subst l158 y158 z158
  obtain ⟨o158, rfl, N158q, K158, S158⟩ := hQ158
  have N158 := Fr.app N157 N158q
  dsimp only [Pt.U, Pt.locs, Pt.cells, Pt.slots] at C158
  have CR158 := (CHr.refl CH0).trans C158
  have hS158 := foldS ((State.WarmedH.refl s).since 0) (by rw [e157]; exact (Nat.zero_le _)) hS2158 hg158
  have hZ158 : Z.Warmed39 (s.setVm T158.vm).vm := State.Warmed39.trans hZ hS2158.1
  have hown158 : (s.setVm T158.vm).vm.findClass "com/example/trestle/trestle/ResourceKindIdPinLaw" = some m.cls := by rw [show (s.setVm T158.vm).vm = T158.vm from rfl, hS2158.1.alike.findClass]; exact hown
  have KK158 := (Keep.refl h0 []).trans K158 (fun x r => absurd r List.not_mem_nil)
  have Z158 : n0 ≤ T158.heap.size := Nat.le_trans Z0 K158.1
  have O158 := O.keep K158 all0'
  have EKo158 := KDm.1.ext O158.2
  obtain ⟨cq159, kq159, q159a, q159b, q159c⟩ := isOf hZ158 rfl EKo158
  obtain ⟨_, _, ⟨T159, L159, k159, n159⟩, -, X159, hS2159, hg159, ⟨Lc159, hQ159, l159, y159, z159, C159⟩, st159⟩ := X158.virtualBackS hx (y := (⟨"com/example/trestle/trestle/ResourceKind", "id", "(Ljava/lang/String;)Ljava/lang/String;"⟩ : MethodName)) (z := (⟨"com/example/trestle/trestle/ResourceKind", "id", "(Ljava/lang/String;)Ljava/lang/String;"⟩ : MethodName)) hown158 (mvT hZ158 (hw _ (List.mem_of_getElem? (i := 41) rfl))) (mvT hZ158 (hw _ (List.mem_of_getElem? (i := 42) rfl))) (notFace_of_selects (args := #[]) (mvT hZ158 (hw _ (List.mem_of_getElem? (i := 44) rfl)))) (mvT hZ158 (hw _ (List.mem_of_getElem? (i := 44) rfl))) (mvT hZ158 (hw _ (List.mem_of_getElem? (i := 43) rfl))) (by decide) (backOfSH (s := s) (vm0 := T158.vm) (EL := EL1) (W := 0) (rmID0 l Z a0 hw [] kd o158 10 sw0 T158.heap n0 Z158 (by decide) O158 SK S158 (by decide) KDm hEL) hZ158 (hw _ (List.mem_of_getElem? (i := 45) rfl)) (hw _ (List.mem_of_getElem? (i := 6) rfl)) (by decide) (by decide) hEL C158.1) q159a q159c (g := (mkF m 54 #[.val (.int sel), .val (.int ra), .val (.int rb), .val (.int rc), .val (.int fl), .val (.int (0 : Int32)), .val (.int (c8 ra)), .val (.int (c8 rb)), .val (.int (c8 rc)), .val (.ref kd), .unset, .unset, .unset] [(.ref o158), (.ref kd)])) rfl (by rw [hml]; rfl) (Steps.refl _) (argsL := [(.ref o158)]) (rest := []) (lenOf pd_8 rfl) rfl (by show 2 * 0 + _ ≤ _; exact Nat.le_of_eq rfl) (hb hby at_54) (fun _ _ => ⟨rfl, rfl, (by decide : 2 + 2 ≤ _), (by decide : 60 + 4 ≤ _)⟩)
  dsimp only [Pt.U, Pt.locs, Pt.cells, Pt.slots] at X159 l159 y159 z159 st159 hQ159 hS2159 hg159 C159
  subst l159 y159 z159
  obtain ⟨o159, rfl, N159q, K159, S159⟩ := hQ159
  have N159 := Fr.app N158 N159q
  have CR159 := CR158.trans C159
  have hS159 := foldS hS158 (by exact (Nat.le_refl _)) hS2159 hg159
  have hZ159 : Z.Warmed39 (s.setVm T159.vm).vm := State.Warmed39.trans hZ158 hS2159.1
  have hown159 : (s.setVm T159.vm).vm.findClass "com/example/trestle/trestle/ResourceKindIdPinLaw" = some m.cls := by rw [show (s.setVm T159.vm).vm = T159.vm from rfl, hS2159.1.alike.findClass]; exact hown158
  have KK159 := KK158.trans K159 (fun x r => absurd r List.not_mem_nil)
  have Z159 : n0 ≤ T159.heap.size := Nat.le_trans Z158 K159.1
  have O159 := O158.keep K159 all0'
  obtain ⟨a160, T160, h160, k160, v160, kk160, X160, e160, E160, hS160, hk160, hZ160, hown160, Ex160, Fc160, Fv160, Av160, la160, lb160, C160, Lt160, Sn160, st160⟩ := ldcCH (s := s) (vm0 := T159.vm) (EL := EL1) X159 hx hZ159 hown159 (hw _ (List.mem_of_getElem? (i := 121) rfl)) hwS rfl hS159 (Nat.le_refl _) hEL (by decide) C159.1 (vs := []) (z := (0 : Int32)) (by decide) (by decide) (by decide) (g := (mkF m 59 #[.val (.int sel), .val (.int ra), .val (.int rb), .val (.int rc), .val (.int fl), .val (.int (0 : Int32)), .val (.int (c8 ra)), .val (.int (c8 rb)), .val (.int (c8 rc)), .val (.ref kd), .val (.ref o159), .unset, .unset] [])) rfl (hb hby at_59) (n := 0) (by decide) (by decide) (by decide) (by decide)
  have O160 := O159.ext E160
  have K160 := KK159.ext E160
  have Z160 : n0 ≤ h160.size := Nat.le_trans Z159 E160.1
  have CR160 := CR159.trans C160
  have SB160 := S159.ext E160
  obtain ⟨cq161, kq161, q161a, q161b, q161c⟩ := isOf hZ160 e160 Ex160
  obtain ⟨_, _, ⟨T161, L161, k161, n161⟩, -, X161, ⟨Lc161, hQ161, l161, y161, z161⟩, st161⟩ := X160.virtualBack hx (y := (⟨"java/lang/String", "equals", "(Ljava/lang/Object;)Z"⟩ : MethodName)) (z := (⟨"java/lang/String", "equals", "(Ljava/lang/Object;)Z"⟩ : MethodName)) hown160 (mvT hZ160 (hw _ (List.mem_of_getElem? (i := 103) rfl))) (mvT hZ160 (hw _ (List.mem_of_getElem? (i := 104) rfl))) (notFace_of_selects (args := #[]) (mvT hZ160 (hw _ (List.mem_of_getElem? (i := 106) rfl)))) (mvT hZ160 (hw _ (List.mem_of_getElem? (i := 106) rfl))) (mvT hZ160 (hw _ (List.mem_of_getElem? (i := 105) rfl))) (by decide) (backOf (W := 0) (rmEQ l Z a0 hw [] a160 o159 0 (fun _ => 0) h160 n0 Z160 (by decide) O160 SK ⟨Ex160, v160, Fv160, Fc160, AF.empty Av160 rfl _⟩ (SB160.congr fun j hj => absurd hj (Nat.not_lt_zero _))) hZ160 (hw _ (List.mem_of_getElem? (i := 107) rfl)) (hw _ (List.mem_of_getElem? (i := 13) rfl)) (by decide) (by decide)) q161a q161c (g := (mkF m 63 #[.val (.int sel), .val (.int ra), .val (.int rb), .val (.int rc), .val (.int fl), .val (.int (0 : Int32)), .val (.int (c8 ra)), .val (.int (c8 rb)), .val (.int (c8 rc)), .val (.ref kd), .val (.ref o159), .unset, .unset] [(.ref o159), (.ref a160)])) rfl (by rw [hml]; rfl) (Steps.refl _) (argsL := [(.ref o159)]) (rest := []) (lenOf pd_21 rfl) rfl (by show 2 * 0 + _ ≤ _; exact Nat.le_of_eq rfl) (hb hby at_63) (fun _ _ => ⟨rfl, e160, (by decide : 6 + 0 ≤ _), (by decide : 68 + 0 ≤ _)⟩)
  dsimp only [Pt.U, Pt.locs, Pt.cells, Pt.slots] at X161 l161 y161 z161 st161 hQ161
  subst l161 y161 z161
  obtain ⟨rfl, N161q, e161⟩ := hQ161
  have N161 := Fr.app N159 N161q
  obtain ⟨fs, hr, hrun, hended, -, hWW, hBB, hSS⟩ := Stand.leaveW (s := s) (vm₁ := T160.vm) X161 hS160 (by rw [e161]; exact hk160) (v := some (.int (1 : Int32))) (fun h => by rw [Bd.returns] at h; cases h)
  refine ⟨_, _, pre0 _ ?_, hrun, hended, _, _, rfl, ?_, ⟨_, rfl⟩, hWW, hBB, hSS.mono (by decide) (by decide)⟩
  · show Steps p.tables e below (s₁.setTop (mkF m 0 #[.val (.int sel), .val (.int ra), .val (.int rb), .val (.int rc), .val (.int fl), .unset, .unset, .unset, .unset, .unset, .unset, .unset, .unset] [])) _
    refine XS.iloadN X0.here hx rfl (hb hby at_0) rfl ?_
    refine X0.ldcInt hx hown (mvT hZ (hw _ (List.mem_of_getElem? (i := 0) rfl))) (g := (mkF m 1 #[.val (.int sel), .val (.int ra), .val (.int rb), .val (.int rc), .val (.int fl), .unset, .unset, .unset, .unset, .unset, .unset, .unset, .unset] [(.int sel)])) rfl (hb hby at_1) _ ?_
    refine XS.iand X0.here hx rfl (hb hby at_3) rfl ?_
    refine XS.bipush X0.here hx rfl (hb hby at_4) ?_
    refine gwIrem X0.here hx rfl (hb hby at_6) rfl (by decide) ?_
    show Steps p.tables e below (s₁.setTop (mkF m 7 #[.val (.int sel), .val (.int ra), .val (.int rb), .val (.int rc), .val (.int fl), .unset, .unset, .unset, .unset, .unset, .unset, .unset, .unset] [(.int (kF sel))])) _
    refine XS.istore X0.here hx rfl (hb hby at_7) rfl (l' := #[.val (.int sel), .val (.int ra), .val (.int rb), .val (.int rc), .val (.int fl), .val (.int (kF sel)), .unset, .unset, .unset, .unset, .unset, .unset, .unset]) rfl ?_
    refine XS.iloadN X0.here hx rfl (hb hby at_9) rfl ?_
    refine XS.sipush X0.here hx rfl (hb hby at_10) ?_
    refine XS.iand X0.here hx rfl (hb hby at_13) rfl ?_
    refine XS.i2c X0.here hx rfl (hb hby at_14) rfl ?_
    show Steps p.tables e below (s₁.setTop (mkF m 15 #[.val (.int sel), .val (.int ra), .val (.int rb), .val (.int rc), .val (.int fl), .val (.int (kF sel)), .unset, .unset, .unset, .unset, .unset, .unset, .unset] [(.int (c8 ra))])) _
    refine XS.istore X0.here hx rfl (hb hby at_15) rfl (l' := #[.val (.int sel), .val (.int ra), .val (.int rb), .val (.int rc), .val (.int fl), .val (.int (kF sel)), .val (.int (c8 ra)), .unset, .unset, .unset, .unset, .unset, .unset]) rfl ?_
    refine XS.iloadN X0.here hx rfl (hb hby at_17) rfl ?_
    refine XS.sipush X0.here hx rfl (hb hby at_18) ?_
    refine XS.iand X0.here hx rfl (hb hby at_21) rfl ?_
    refine XS.i2c X0.here hx rfl (hb hby at_22) rfl ?_
    show Steps p.tables e below (s₁.setTop (mkF m 23 #[.val (.int sel), .val (.int ra), .val (.int rb), .val (.int rc), .val (.int fl), .val (.int (kF sel)), .val (.int (c8 ra)), .unset, .unset, .unset, .unset, .unset, .unset] [(.int (c8 rb))])) _
    refine XS.istore X0.here hx rfl (hb hby at_23) rfl (l' := #[.val (.int sel), .val (.int ra), .val (.int rb), .val (.int rc), .val (.int fl), .val (.int (kF sel)), .val (.int (c8 ra)), .val (.int (c8 rb)), .unset, .unset, .unset, .unset, .unset]) rfl ?_
    refine XS.iloadN X0.here hx rfl (hb hby at_25) rfl ?_
    refine XS.sipush X0.here hx rfl (hb hby at_26) ?_
    refine XS.iand X0.here hx rfl (hb hby at_29) rfl ?_
    refine XS.i2c X0.here hx rfl (hb hby at_30) rfl ?_
    show Steps p.tables e below (s₁.setTop (mkF m 31 #[.val (.int sel), .val (.int ra), .val (.int rb), .val (.int rc), .val (.int fl), .val (.int (kF sel)), .val (.int (c8 ra)), .val (.int (c8 rb)), .unset, .unset, .unset, .unset, .unset] [(.int (c8 rc))])) _
    refine XS.istore X0.here hx rfl (hb hby at_31) rfl (l' := #[.val (.int sel), .val (.int ra), .val (.int rb), .val (.int rc), .val (.int fl), .val (.int (kF sel)), .val (.int (c8 ra)), .val (.int (c8 rb)), .val (.int (c8 rc)), .unset, .unset, .unset, .unset]) rfl ?_
    refine XS.iload X0.here hx rfl (hb hby at_33) rfl ?_
    show Steps p.tables e below (s₁.setTop (mkF m 35 #[.val (.int sel), .val (.int ra), .val (.int rb), .val (.int rc), .val (.int fl), .val (.int (kF sel)), .val (.int (c8 ra)), .val (.int (c8 rb)), .val (.int (c8 rc)), .unset, .unset, .unset, .unset] [(.int (kF sel))])) _
    rw [show (kF sel) = (0 : Int32) from hk]
    show Steps p.tables e below (s₁.setTop (mkF m 35 #[.val (.int sel), .val (.int ra), .val (.int rb), .val (.int rc), .val (.int fl), .val (.int (0 : Int32)), .val (.int (c8 ra)), .val (.int (c8 rb)), .val (.int (c8 rc)), .unset, .unset, .unset, .unset] [(.int (0 : Int32))])) _
    refine st157 _ ?_
    refine XS.astore X157.here hx rfl (hb hby at_38) rfl rfl (l' := #[.val (.int sel), .val (.int ra), .val (.int rb), .val (.int rc), .val (.int fl), .val (.int (0 : Int32)), .val (.int (c8 ra)), .val (.int (c8 rb)), .val (.int (c8 rc)), .val (.ref kd), .unset, .unset, .unset]) rfl ?_
    refine XS.iload X157.here hx rfl (hb hby at_40) rfl ?_
    refine XS.iconst X157.here hx rfl (hb hby at_42) ?_
    refine XS.iand X157.here hx rfl (hb hby at_43) rfl ?_
    refine XS.ifNo X157.here hx rfl (hb hby at_44) rfl ((if0 _ _).trans (feq hc44).1) ?_
    show Steps p.tables e below (T157.setTop (mkF m 47 #[.val (.int sel), .val (.int ra), .val (.int rb), .val (.int rc), .val (.int fl), .val (.int (0 : Int32)), .val (.int (c8 ra)), .val (.int (c8 rb)), .val (.int (c8 rc)), .val (.ref kd), .unset, .unset, .unset] [])) _
    refine XS.aload X157.here hx rfl (hb hby at_47) rfl rfl ?_
    refine XS.iload X157.here hx rfl (hb hby at_49) rfl ?_
    show Steps p.tables e below (T157.setTop (mkF m 51 #[.val (.int sel), .val (.int ra), .val (.int rb), .val (.int rc), .val (.int fl), .val (.int (0 : Int32)), .val (.int (c8 ra)), .val (.int (c8 rb)), .val (.int (c8 rc)), .val (.ref kd), .unset, .unset, .unset] [(.int (0 : Int32)), (.ref kd)])) _
    refine st158.trans ?_
    show Steps p.tables e below (T158.setTop (mkF m 54 #[.val (.int sel), .val (.int ra), .val (.int rb), .val (.int rc), .val (.int fl), .val (.int (0 : Int32)), .val (.int (c8 ra)), .val (.int (c8 rb)), .val (.int (c8 rc)), .val (.ref kd), .unset, .unset, .unset] [(.ref o158), (.ref kd)])) _
    refine st159.trans ?_
    refine XS.astore X159.here hx rfl (hb hby at_57) rfl rfl (l' := #[.val (.int sel), .val (.int ra), .val (.int rb), .val (.int rc), .val (.int fl), .val (.int (0 : Int32)), .val (.int (c8 ra)), .val (.int (c8 rb)), .val (.int (c8 rc)), .val (.ref kd), .val (.ref o159), .unset, .unset]) rfl ?_
    show Steps p.tables e below (T159.setTop (mkF m 59 #[.val (.int sel), .val (.int ra), .val (.int rb), .val (.int rc), .val (.int fl), .val (.int (0 : Int32)), .val (.int (c8 ra)), .val (.int (c8 rb)), .val (.int (c8 rc)), .val (.ref kd), .val (.ref o159), .unset, .unset] [])) _
    refine st160 _ ?_
    refine XS.aload X160.here hx rfl (hb hby at_61) rfl rfl ?_
    show Steps p.tables e below (T160.setTop (mkF m 63 #[.val (.int sel), .val (.int ra), .val (.int rb), .val (.int rc), .val (.int fl), .val (.int (0 : Int32)), .val (.int (c8 ra)), .val (.int (c8 rb)), .val (.int (c8 rc)), .val (.ref kd), .val (.ref o159), .unset, .unset] [(.ref o159), (.ref a160)])) _
    refine st161.trans ?_
    show Steps p.tables e below (T161.setTop (mkF m 66 #[.val (.int sel), .val (.int ra), .val (.int rb), .val (.int rc), .val (.int fl), .val (.int (0 : Int32)), .val (.int (c8 ra)), .val (.int (c8 rb)), .val (.int (c8 rc)), .val (.ref kd), .val (.ref o159), .unset, .unset] [(.int (1 : Int32))])) _
    exact retN X161 hx (t := .boolean) Bd.returns (by simp) (hb hby at_66) hr
  · show Q0  h0 n0 _ T161.heap _
    exact ⟨rfl, N161⟩
set_option maxRecDepth 65536 in
set_option maxHeartbeats 40000000 in
theorem rm0_10 (l : Launch) (Z : State) (a0 : Array Value) (hw : ∀ d ∈ tables_1, d.before a0 Z = true) (ws : List Jvm.Cond) (sel : Int32) (ra : Int32) (rb : Int32) (rc : Int32) (fl : Int32) (kd : Addr) (h0 : Heap) (n0 : Nat) (Z0 : n0 ≤ h0.size) (hk : kF sel = (1 : Int32)) (hst : Sta Z Z.heap "com/example/trestle/trestle/ResourceKind" "BUSINESS_SERVICE" "Lcom/example/trestle/trestle/ResourceKind;" (.ref kd)) (KDm : KD Z kd 13) (O : Old Z n0 h0) (SK : StrSta Z) (hEL : EW Z a0 EL1) (hc44 : (fl &&& (1 : Int32)) = (0 : Int32)) :
    MetFree l x (head1 (Jvm.Cond.code x code maxLocals ret :: ws) room_1) (fun aa_ U_ => aa_ = #[(.int sel), (.int ra), (.int rb), (.int rc), (.int fl)] ∧ Z.Warmed39 U_.vm ∧ U_.heap = h0 ∧ CHv Z EL1 U_.vm h0) (fun _ _ _ _ _ => True) (fun _ U_ o_ V_ => ∃ v_ L_, o_ = .returned v_ ∧ Q0  h0 n0 v_ V_.heap L_ ∧ ReturnedEndW U_ o_ V_ L_ room_1.cells room_1.slots) := by
  refine MetFree.of_bodySF (plainFor_of_name pn_0) hisR ?_
  intro p e s m args below meth c s₁ Bd hml0 hP hK
  obtain ⟨rfl, hZ, hh, CH0⟩ := hP
  have hx := Bd.exec
  have hby := Bd.bytes
  have hml : c.maxLocals = 13 := hml0
  have hown : s.vm.findClass "com/example/trestle/trestle/ResourceKindIdPinLaw" = some m.cls := findClass_of_methodNamed Bd.named
  have hnm := (name_of_methodNamed Bd.named Bd.method).1
  have X0 : Stand p l e room_1 s m #[(.int sel), (.int ra), (.int rb), (.int rc), (.int fl)] below meth c s₁ [] 0 0 := Stand.of_body Bd
  have e0 : s₁.heap = h0 := by rw [← hh, Bd.state]; rfl
  have N0 := Fr.nil n0
  have pre0 : ∀ zz, Steps p.tables e below (s₁.setTop (mkF m 0 #[.val (.int sel), .val (.int ra), .val (.int rb), .val (.int rc), .val (.int fl), .unset, .unset, .unset, .unset, .unset, .unset, .unset, .unset] [])) zz → Steps p.tables e below (s₁.setTop (entryFrame m #[(.int sel), (.int ra), (.int rb), (.int rc), (.int fl)] maxLocals)) zz := fun zz kz_ => castTop (ef_0 m sel ra rb rc fl) kz_
  have hwS : ∀ a ∈ Bundle.stringAtoms, a.before a0 Z = true := fun d hd => hw d (by simpa using (List.all_eq_true.mp (by decide +kernel : (Bundle.stringAtoms.all fun c => tables_1.contains c) = true)) d hd)
  obtain ⟨_, _, ⟨T162, L162, k162, n162⟩, -, X162, ⟨Lc162, hQ162, l162, y162, z162⟩, st162⟩ := Jvm.LawKit.callS X0 hx (y := (⟨"com/example/trestle/trestle/ResourceKindIdPinLaw", "kindOf", "(I)Lcom/example/trestle/trestle/ResourceKind;"⟩ : MethodName)) hown (mvT hZ (hw _ (List.mem_of_getElem? (i := 1) rfl))) (mvT hZ (hw _ (List.mem_of_getElem? (i := 2) rfl))) (mvT hZ (hw _ (List.mem_of_getElem? (i := 3) rfl))) (mvT hZ (hw _ (List.mem_of_getElem? (i := 4) rfl))) (by decide) (backOf (W := 0) (rmK1 l Z a0 hw [] kd h0 n0 Z0 O hst) hZ (hw _ (List.mem_of_getElem? (i := 4) rfl)) (hw _ (List.mem_of_getElem? (i := 3) rfl)) (by decide) (by decide)) (g := (mkF m 35 #[.val (.int sel), .val (.int ra), .val (.int rb), .val (.int rc), .val (.int fl), .val (.int (1 : Int32)), .val (.int (c8 ra)), .val (.int (c8 rb)), .val (.int (c8 rc)), .unset, .unset, .unset, .unset] [(.int (1 : Int32))])) rfl (by rw [hml]; rfl) (argsL := [(.int (1 : Int32))]) (rest := []) (lenOf pd_0 rfl) rfl (by show 2 * 0 + _ ≤ _; exact Nat.le_of_eq rfl) (hb hby at_35) (fun _ _ => ⟨rfl, e0, (by decide : 0 + 0 ≤ _), (by decide : 0 + 0 ≤ _)⟩)
  dsimp only [Pt.U, Pt.locs, Pt.cells, Pt.slots] at X162 l162 y162 z162 st162 hQ162
  subst l162 y162 z162
  obtain ⟨rfl, N162q, e162⟩ := hQ162
  have N162 := Fr.app N0 N162q
  obtain ⟨_, _, ⟨T163, L163, k163, n163⟩, -, X163, ⟨Lc163, hQ163, l163, y163, z163⟩, st163⟩ := Jvm.LawKit.callS X162 hx (y := (⟨"com/example/trestle/trestle/ResourceKindIdPinLaw", "withPrefix", "(ICCC)Ljava/lang/String;"⟩ : MethodName)) hown (mvT hZ (hw _ (List.mem_of_getElem? (i := 8) rfl))) (mvT hZ (hw _ (List.mem_of_getElem? (i := 9) rfl))) (mvT hZ (hw _ (List.mem_of_getElem? (i := 3) rfl))) (mvT hZ (hw _ (List.mem_of_getElem? (i := 10) rfl))) (by decide) (backOf (W := 0) (rmW1 l Z a0 hw [] (c8 ra) (c8 rb) (c8 rc) h0 n0 Z0 O SK (c8_B _) (c8_B _) (c8_B _)) hZ (hw _ (List.mem_of_getElem? (i := 10) rfl)) (hw _ (List.mem_of_getElem? (i := 3) rfl)) (by decide) (by decide)) (g := (mkF m 75 #[.val (.int sel), .val (.int ra), .val (.int rb), .val (.int rc), .val (.int fl), .val (.int (1 : Int32)), .val (.int (c8 ra)), .val (.int (c8 rb)), .val (.int (c8 rc)), .val (.ref kd), .unset, .unset, .unset] [(.int (c8 rc)), (.int (c8 rb)), (.int (c8 ra)), (.int (1 : Int32))])) rfl (by rw [hml]; rfl) (argsL := [(.int (1 : Int32)), (.int (c8 ra)), (.int (c8 rb)), (.int (c8 rc))]) (rest := []) (lenOf pd_1 rfl) rfl (by show 2 * 0 + _ ≤ _; exact Nat.le_of_eq rfl) (hb hby at_75) (fun _ _ => ⟨rfl, e162, (by decide : 0 + 4 ≤ _), (by decide : 0 + 100 ≤ _)⟩)
  dsimp only [Pt.U, Pt.locs, Pt.cells, Pt.slots] at X163 l163 y163 z163 st163 hQ163
  subst l163 y163 z163
  obtain ⟨o163, rfl, N163q, K163, S163⟩ := hQ163
  have N163 := Fr.app N162 N163q
  have KK163 := (Keep.refl h0 []).trans K163 (fun x r => absurd r List.not_mem_nil)
  have Z163 : n0 ≤ T163.heap.size := Nat.le_trans Z0 K163.1
  have O163 := O.keep K163 all0'
  obtain ⟨EO163, d163, FV163, FC163, FB163⟩ := S163
  obtain ⟨T164, h164, X164, e164, E164, A164, D164, -, st164⟩ := newO X163 hx hZ hown (hw _ (List.mem_of_getElem? (i := 11) rfl)) (hw _ (List.mem_of_getElem? (i := 12) rfl)) (hw _ (List.mem_of_getElem? (i := 13) rfl)) rfl (g := (mkF m 80 #[.val (.int sel), .val (.int ra), .val (.int rb), .val (.int rc), .val (.int fl), .val (.int (1 : Int32)), .val (.int (c8 ra)), .val (.int (c8 rb)), .val (.int (c8 rc)), .val (.ref kd), .val (.ref o163), .unset, .unset] [])) rfl (hb hby at_80) (by decide) (by decide)
  obtain ⟨b164, g164⟩ : ∃ z, z = T163.heap.size := ⟨_, rfl⟩
  rw [← g164] at A164 D164 st164
  have ne_o163_b164 : o163 ≠ b164 := Nat.ne_of_lt (Nat.lt_of_lt_of_le EO163.lt (Nat.le_of_eq g164.symm))
  have ne_d163_b164 : d163 ≠ b164 := Nat.ne_of_lt (Nat.lt_of_lt_of_le FB163.lt (Nat.le_of_eq g164.symm))
  have EO163_e164 := EO163.ext E164
  have FV163_e164 := FV163.ext E164
  have FC163_e164 := FC163.ext E164
  have FB163_e164 := FB163.ext E164
  have E_b164 := A164
  have g_b164 : n0 ≤ b164 := Nat.le_trans Z163 (Nat.le_of_eq g164.symm)
  have sz_b164 : h0.size ≤ b164 := Nat.le_trans KK163.1 (Nat.le_of_eq g164.symm)
  have K164 := KK163.ext E164
  have Z164 : n0 ≤ h164.size := Nat.le_trans Z163 E164.1
  have F_coder_b164 : Fld Z h164 b164 "java/lang/String" "coder" "B" (.int (0 : Int32)) := D164 (Or.inr (hw _ (List.mem_of_getElem? (i := 38) rfl))) (ty := .byte) (by decide)
  have F_value_b164 : Fld Z h164 b164 "java/lang/String" "value" "[B" .null := D164 (Or.inr (hw _ (List.mem_of_getElem? (i := 40) rfl))) (ty := (.array .byte)) (by decide)
  have O164 := O163.ext E164
  obtain ⟨T165, h165, X165, e165, E165, A165, st165⟩ := nwA X164 hx hZ (hw _ (List.mem_of_getElem? (i := 14) rfl)) e164 (g := (mkF m 85 #[.val (.int sel), .val (.int ra), .val (.int rb), .val (.int rc), .val (.int fl), .val (.int (1 : Int32)), .val (.int (c8 ra)), .val (.int (c8 rb)), .val (.int (c8 rc)), .val (.ref kd), .val (.ref o163), .unset, .unset] [(.int (3 : Int32)), (.ref b164), (.ref b164)])) rfl (hb hby at_85) (n := 3) rfl (cap := 3) (by decide) (by decide) (by decide) (by decide)
  obtain ⟨b165, q165⟩ : ∃ z, z = h164.size := ⟨_, rfl⟩
  rw [← q165] at A165 st165
  have V165 : AF Z h165 b165 .char 3 (fun _ => (.int (0 : Int32))) := A165
  have g_b165 : n0 ≤ b165 := Nat.le_trans Z164 (Nat.le_of_eq q165.symm)
  have sz_b165 : h0.size ≤ b165 := Nat.le_trans K164.1 (Nat.le_of_eq q165.symm)
  have K165 := K164.ext E165
  have Z165 : n0 ≤ h165.size := Nat.le_trans Z164 E165.1
  have ne_b164_b165 : b164 ≠ b165 := Nat.ne_of_lt (Nat.lt_of_lt_of_le E_b164.lt (Nat.le_of_eq q165.symm))
  have ne_d163_b165 : d163 ≠ b165 := Nat.ne_of_lt (Nat.lt_of_lt_of_le FB163_e164.lt (Nat.le_of_eq q165.symm))
  have ne_o163_b165 : o163 ≠ b165 := Nat.ne_of_lt (Nat.lt_of_lt_of_le EO163_e164.lt (Nat.le_of_eq q165.symm))
  have EO163_e165 := EO163_e164.ext E165
  have FV163_e165 := FV163_e164.ext E165
  have FC163_e165 := FC163_e164.ext E165
  have FB163_e165 := FB163_e164.ext E165
  have E_b164_e165 := E_b164.ext E165
  have F_coder_b164_e165 := F_coder_b164.ext E165
  have F_value_b164_e165 := F_value_b164.ext E165
  have O165 := O164.ext E165
  obtain ⟨T166, h166, X166, e166, W166, st166⟩ := stCh X165 hx hZ e165 V165 (i := 0) (by decide) (by decide) (x := (c8 ra)) (g := (mkF m 91 #[.val (.int sel), .val (.int ra), .val (.int rb), .val (.int rc), .val (.int fl), .val (.int (1 : Int32)), .val (.int (c8 ra)), .val (.int (c8 rb)), .val (.int (c8 rc)), .val (.ref kd), .val (.ref o163), .unset, .unset] [(.int (c8 ra)), (.int (0 : Int32)), (.ref b165), (.ref b165), (.ref b164), (.ref b164)])) rfl rfl (hb hby at_91)
  have A166 := V165.wr W166
  have EO163_e166 := EO163_e165.wr W166
  have FV163_e166 := FV163_e165.other W166 (Or.inl ne_o163_b165)
  have FC163_e166 := FC163_e165.other W166 (Or.inl ne_o163_b165)
  have FB163_e166 := FB163_e165.other W166 ne_d163_b165
  have E_b164_e166 := E_b164_e165.wr W166
  have F_coder_b164_e166 := F_coder_b164_e165.other W166 (Or.inl ne_b164_b165)
  have F_value_b164_e166 := F_value_b164_e165.other W166 (Or.inl ne_b164_b165)
  have N166 := Fr.snoc X166 N163 g_b165
  have K166 := K165.wr W166 (Or.inr sz_b165)
  have Z166 : n0 ≤ h166.size := Nat.le_trans Z165 (Keep.of_wr W166).1
  have O166 := O165.wr W166 g_b165
  obtain ⟨T167, h167, X167, e167, W167, st167⟩ := stCh X166 hx hZ e166 A166 (i := 1) (by decide) (by decide) (x := (c8 rb)) (g := (mkF m 96 #[.val (.int sel), .val (.int ra), .val (.int rb), .val (.int rc), .val (.int fl), .val (.int (1 : Int32)), .val (.int (c8 ra)), .val (.int (c8 rb)), .val (.int (c8 rc)), .val (.ref kd), .val (.ref o163), .unset, .unset] [(.int (c8 rb)), (.int (1 : Int32)), (.ref b165), (.ref b165), (.ref b164), (.ref b164)])) rfl rfl (hb hby at_96)
  have A167 := A166.wr W167
  have EO163_e167 := EO163_e166.wr W167
  have FV163_e167 := FV163_e166.other W167 (Or.inl ne_o163_b165)
  have FC163_e167 := FC163_e166.other W167 (Or.inl ne_o163_b165)
  have FB163_e167 := FB163_e166.other W167 ne_d163_b165
  have E_b164_e167 := E_b164_e166.wr W167
  have F_coder_b164_e167 := F_coder_b164_e166.other W167 (Or.inl ne_b164_b165)
  have F_value_b164_e167 := F_value_b164_e166.other W167 (Or.inl ne_b164_b165)
  have N167 := Fr.snoc X167 N166 g_b165
  have K167 := K166.wr W167 (Or.inr sz_b165)
  have Z167 : n0 ≤ h167.size := Nat.le_trans Z166 (Keep.of_wr W167).1
  have O167 := O166.wr W167 g_b165
  obtain ⟨T168, h168, X168, e168, W168, st168⟩ := stCh X167 hx hZ e167 A167 (i := 2) (by decide) (by decide) (x := (c8 rc)) (g := (mkF m 101 #[.val (.int sel), .val (.int ra), .val (.int rb), .val (.int rc), .val (.int fl), .val (.int (1 : Int32)), .val (.int (c8 ra)), .val (.int (c8 rb)), .val (.int (c8 rc)), .val (.ref kd), .val (.ref o163), .unset, .unset] [(.int (c8 rc)), (.int (2 : Int32)), (.ref b165), (.ref b165), (.ref b164), (.ref b164)])) rfl rfl (hb hby at_101)
  have A168 := A167.wr W168
  have EO163_e168 := EO163_e167.wr W168
  have FV163_e168 := FV163_e167.other W168 (Or.inl ne_o163_b165)
  have FC163_e168 := FC163_e167.other W168 (Or.inl ne_o163_b165)
  have FB163_e168 := FB163_e167.other W168 ne_d163_b165
  have E_b164_e168 := E_b164_e167.wr W168
  have F_coder_b164_e168 := F_coder_b164_e167.other W168 (Or.inl ne_b164_b165)
  have F_value_b164_e168 := F_value_b164_e167.other W168 (Or.inl ne_b164_b165)
  have N168 := Fr.snoc X168 N167 g_b165
  have K168 := K167.wr W168 (Or.inr sz_b165)
  have Z168 : n0 ≤ h168.size := Nat.le_trans Z167 (Keep.of_wr W168).1
  have O168 := O167.wr W168 g_b165
  have hBb164 : ∀ j, isB (gl [(c8 ra), (c8 rb), (c8 rc)] j) := glB (List.forall_mem_cons.mpr ⟨(c8_B _), (List.forall_mem_cons.mpr ⟨(c8_B _), (List.forall_mem_cons.mpr ⟨(c8_B _), (fun _ q => absurd q List.not_mem_nil)⟩)⟩)⟩)
  obtain ⟨_, _, ⟨T169, L169, k169, n169⟩, -, X169, ⟨Lc169, hQ169, l169, y169, z169⟩, st169⟩ := X168.specialBack hx (y := (⟨"java/lang/String", "<init>", "([C)V"⟩ : MethodName)) rfl hown (mvT hZ (hw _ (List.mem_of_getElem? (i := 15) rfl))) (mvT hZ (hw _ (List.mem_of_getElem? (i := 16) rfl))) (mvT hZ (hw _ (List.mem_of_getElem? (i := 17) rfl))) (by decide) (backOf (W := 1) (rmI1 l Z a0 hw [] b164 b165 3 (gl [(c8 ra), (c8 rb), (c8 rc)]) h168 n0 Z168 (by decide) (by decide) O168 SK (A168.congr (updS (updS (updS upd0 (congrArg Value.int (nar_id (isCh_of (c8_B _))))) (congrArg Value.int (nar_id (isCh_of (c8_B _))))) (congrArg Value.int (nar_id (isCh_of (c8_B _)))))) (fun j _ => isCh_of (hBb164 j)) E_b164_e168 F_value_b164_e168 F_coder_b164_e168 g_b164 (Ne.symm ne_b164_b165) (fun j _ => notBig (hBb164 j))) hZ (hw _ (List.mem_of_getElem? (i := 17) rfl)) (hw _ (List.mem_of_getElem? (i := 13) rfl)) (by decide) (by decide)) (g := (mkF m 102 #[.val (.int sel), .val (.int ra), .val (.int rb), .val (.int rc), .val (.int fl), .val (.int (1 : Int32)), .val (.int (c8 ra)), .val (.int (c8 rb)), .val (.int (c8 rc)), .val (.ref kd), .val (.ref o163), .unset, .unset] [(.ref b165), (.ref b164), (.ref b164)])) rfl (by rw [hml]; rfl) (Steps.refl _) (a := b164) (argsL := [(.ref b165)]) (rest := [(.ref b164)]) (lenOf pd_2 rfl) rfl (by show 2 * 0 + _ ≤ _; exact Nat.le_of_eq rfl) (hb hby at_102) (fun _ _ => ⟨rfl, e168, (by decide : 6 + 2 ≤ _), (by decide : 107 + 60 ≤ _)⟩)
  dsimp only [Pt.U, Pt.locs, Pt.cells, Pt.slots] at X169 l169 y169 z169 st169 hQ169
  subst l169 y169 z169
  obtain ⟨rfl, N169q, K169, S169⟩ := hQ169
  have N169 := Fr.app N168 N169q
  have EO163_e169 := EO163_e168.keep K169
  have FV163_e169 := FV163_e168.keep K169 (notin1 ne_o163_b164)
  have FC163_e169 := FC163_e168.keep K169 (notin1 ne_o163_b164)
  have FB163_e169 := FB163_e168.keep K169 (notin1 ne_d163_b164)
  have E_b164_e169 := E_b164_e168.keep K169
  have KK169 := K168.trans K169 (fun x r => by cases List.mem_singleton.mp r; exact (Or.inr sz_b164))
  have Z169 : n0 ≤ T169.heap.size := Nat.le_trans Z168 K169.1
  have O169 := O168.keep K169 (all1 g_b164)
  have SW169 : StrV Z _ o163 16 (Lb (gl [(c8 ra), (c8 rb), (c8 rc), (46 : Int32), (98 : Int32), (117 : Int32), (115 : Int32), (105 : Int32), (110 : Int32), (101 : Int32), (115 : Int32), (115 : Int32), (46 : Int32), (120 : Int32), (109 : Int32), (108 : Int32)])) := ⟨EO163_e169, d163, FV163_e169, FC163_e169, FB163_e169⟩
  have EKo163 := KDm.1.ext O169.2
  obtain ⟨cq170, kq170, q170a, q170b, q170c⟩ := isOf hZ rfl EKo163
  obtain ⟨_, _, ⟨T170, L170, k170, n170⟩, -, X170, ⟨Lc170, hQ170, l170, y170, z170⟩, st170⟩ := X169.virtualBack hx (y := (⟨"com/example/trestle/trestle/ResourceKind", "id", "(Ljava/lang/String;)Ljava/lang/String;"⟩ : MethodName)) (z := (⟨"com/example/trestle/trestle/ResourceKind", "id", "(Ljava/lang/String;)Ljava/lang/String;"⟩ : MethodName)) hown (mvT hZ (hw _ (List.mem_of_getElem? (i := 41) rfl))) (mvT hZ (hw _ (List.mem_of_getElem? (i := 42) rfl))) (notFace_of_selects (args := #[]) (mvT hZ (hw _ (List.mem_of_getElem? (i := 44) rfl)))) (mvT hZ (hw _ (List.mem_of_getElem? (i := 44) rfl))) (mvT hZ (hw _ (List.mem_of_getElem? (i := 43) rfl))) (by decide) (backOf (W := 0) (rmID l Z a0 hw [] kd o163 16 13 (Lb (gl [(c8 ra), (c8 rb), (c8 rc), (46 : Int32), (98 : Int32), (117 : Int32), (115 : Int32), (105 : Int32), (110 : Int32), (101 : Int32), (115 : Int32), (115 : Int32), (46 : Int32), (120 : Int32), (109 : Int32), (108 : Int32)])) T169.heap n0 Z169 (by decide) O169 SK SW169 (by decide) (by decide) KDm (fitsLb _ _)) hZ (hw _ (List.mem_of_getElem? (i := 45) rfl)) (hw _ (List.mem_of_getElem? (i := 6) rfl)) (by decide) (by decide)) q170a q170c (g := (mkF m 111 #[.val (.int sel), .val (.int ra), .val (.int rb), .val (.int rc), .val (.int fl), .val (.int (1 : Int32)), .val (.int (c8 ra)), .val (.int (c8 rb)), .val (.int (c8 rc)), .val (.ref kd), .val (.ref o163), .val (.ref b164), .unset] [(.ref o163), (.ref kd)])) rfl (by rw [hml]; rfl) (Steps.refl _) (argsL := [(.ref o163)]) (rest := []) (lenOf pd_8 rfl) rfl (by show 2 * 0 + _ ≤ _; exact Nat.le_of_eq rfl) (hb hby at_111) (fun _ _ => ⟨rfl, rfl, (by decide : 8 + 2 ≤ _), (by decide : 167 + 24 ≤ _)⟩)
  dsimp only [Pt.U, Pt.locs, Pt.cells, Pt.slots] at X170 l170 y170 z170 st170 hQ170
  subst l170 y170 z170
  obtain ⟨o170, rfl, N170q, K170, S170⟩ := hQ170
  have N170 := Fr.app N169 N170q
  have KK170 := KK169.trans K170 (fun x r => absurd r List.not_mem_nil)
  have Z170 : n0 ≤ T170.heap.size := Nat.le_trans Z169 K170.1
  have O170 := O169.keep K170 all0'
  have SB170 := S169.keep K170
  obtain ⟨cq171, kq171, q171a, q171b, q171c⟩ := isOf hZ rfl SB170.1
  obtain ⟨_, _, ⟨T171, L171, k171, n171⟩, -, X171, ⟨Lc171, hQ171, l171, y171, z171⟩, st171⟩ := X170.virtualBack hx (y := (⟨"java/lang/String", "equals", "(Ljava/lang/Object;)Z"⟩ : MethodName)) (z := (⟨"java/lang/String", "equals", "(Ljava/lang/Object;)Z"⟩ : MethodName)) hown (mvT hZ (hw _ (List.mem_of_getElem? (i := 103) rfl))) (mvT hZ (hw _ (List.mem_of_getElem? (i := 104) rfl))) (notFace_of_selects (args := #[]) (mvT hZ (hw _ (List.mem_of_getElem? (i := 106) rfl)))) (mvT hZ (hw _ (List.mem_of_getElem? (i := 106) rfl))) (mvT hZ (hw _ (List.mem_of_getElem? (i := 105) rfl))) (by decide) (backOf (W := 0) (rmEQ l Z a0 hw [] b164 o170 3 (fun j => b8 (gl [(c8 ra), (c8 rb), (c8 rc)] j)) T170.heap n0 Z170 (by decide) O170 SK SB170 (S170.congr c3)) hZ (hw _ (List.mem_of_getElem? (i := 107) rfl)) (hw _ (List.mem_of_getElem? (i := 13) rfl)) (by decide) (by decide)) q171a q171c (g := (mkF m 120 #[.val (.int sel), .val (.int ra), .val (.int rb), .val (.int rc), .val (.int fl), .val (.int (1 : Int32)), .val (.int (c8 ra)), .val (.int (c8 rb)), .val (.int (c8 rc)), .val (.ref kd), .val (.ref o163), .val (.ref b164), .val (.ref o170)] [(.ref o170), (.ref b164)])) rfl (by rw [hml]; rfl) (Steps.refl _) (argsL := [(.ref o170)]) (rest := []) (lenOf pd_21 rfl) rfl (by show 2 * 0 + _ ≤ _; exact Nat.le_of_eq rfl) (hb hby at_120) (fun _ _ => ⟨rfl, rfl, (by decide : 10 + 0 ≤ _), (by decide : 191 + 0 ≤ _)⟩)
  dsimp only [Pt.U, Pt.locs, Pt.cells, Pt.slots] at X171 l171 y171 z171 st171 hQ171
  subst l171 y171 z171
  obtain ⟨rfl, N171q, e171⟩ := hQ171
  have N171 := Fr.app N170 N171q
  obtain ⟨fs, hr, hrun, hended, -, hWW, hBB, hSS⟩ := Stand.leaveW (s := s) (vm₁ := s.vm) X171 ((State.WarmedH.refl s).since 0) (by rw [e171]; exact (Nat.zero_le _)) (v := some (.int (1 : Int32))) (fun h => by rw [Bd.returns] at h; cases h)
  refine ⟨_, _, pre0 _ ?_, hrun, hended, _, _, rfl, ?_, ⟨_, rfl⟩, hWW, hBB, hSS.mono (by decide) (by decide)⟩
  · show Steps p.tables e below (s₁.setTop (mkF m 0 #[.val (.int sel), .val (.int ra), .val (.int rb), .val (.int rc), .val (.int fl), .unset, .unset, .unset, .unset, .unset, .unset, .unset, .unset] [])) _
    refine XS.iloadN X0.here hx rfl (hb hby at_0) rfl ?_
    refine X0.ldcInt hx hown (mvT hZ (hw _ (List.mem_of_getElem? (i := 0) rfl))) (g := (mkF m 1 #[.val (.int sel), .val (.int ra), .val (.int rb), .val (.int rc), .val (.int fl), .unset, .unset, .unset, .unset, .unset, .unset, .unset, .unset] [(.int sel)])) rfl (hb hby at_1) _ ?_
    refine XS.iand X0.here hx rfl (hb hby at_3) rfl ?_
    refine XS.bipush X0.here hx rfl (hb hby at_4) ?_
    refine gwIrem X0.here hx rfl (hb hby at_6) rfl (by decide) ?_
    show Steps p.tables e below (s₁.setTop (mkF m 7 #[.val (.int sel), .val (.int ra), .val (.int rb), .val (.int rc), .val (.int fl), .unset, .unset, .unset, .unset, .unset, .unset, .unset, .unset] [(.int (kF sel))])) _
    refine XS.istore X0.here hx rfl (hb hby at_7) rfl (l' := #[.val (.int sel), .val (.int ra), .val (.int rb), .val (.int rc), .val (.int fl), .val (.int (kF sel)), .unset, .unset, .unset, .unset, .unset, .unset, .unset]) rfl ?_
    refine XS.iloadN X0.here hx rfl (hb hby at_9) rfl ?_
    refine XS.sipush X0.here hx rfl (hb hby at_10) ?_
    refine XS.iand X0.here hx rfl (hb hby at_13) rfl ?_
    refine XS.i2c X0.here hx rfl (hb hby at_14) rfl ?_
    show Steps p.tables e below (s₁.setTop (mkF m 15 #[.val (.int sel), .val (.int ra), .val (.int rb), .val (.int rc), .val (.int fl), .val (.int (kF sel)), .unset, .unset, .unset, .unset, .unset, .unset, .unset] [(.int (c8 ra))])) _
    refine XS.istore X0.here hx rfl (hb hby at_15) rfl (l' := #[.val (.int sel), .val (.int ra), .val (.int rb), .val (.int rc), .val (.int fl), .val (.int (kF sel)), .val (.int (c8 ra)), .unset, .unset, .unset, .unset, .unset, .unset]) rfl ?_
    refine XS.iloadN X0.here hx rfl (hb hby at_17) rfl ?_
    refine XS.sipush X0.here hx rfl (hb hby at_18) ?_
    refine XS.iand X0.here hx rfl (hb hby at_21) rfl ?_
    refine XS.i2c X0.here hx rfl (hb hby at_22) rfl ?_
    show Steps p.tables e below (s₁.setTop (mkF m 23 #[.val (.int sel), .val (.int ra), .val (.int rb), .val (.int rc), .val (.int fl), .val (.int (kF sel)), .val (.int (c8 ra)), .unset, .unset, .unset, .unset, .unset, .unset] [(.int (c8 rb))])) _
    refine XS.istore X0.here hx rfl (hb hby at_23) rfl (l' := #[.val (.int sel), .val (.int ra), .val (.int rb), .val (.int rc), .val (.int fl), .val (.int (kF sel)), .val (.int (c8 ra)), .val (.int (c8 rb)), .unset, .unset, .unset, .unset, .unset]) rfl ?_
    refine XS.iloadN X0.here hx rfl (hb hby at_25) rfl ?_
    refine XS.sipush X0.here hx rfl (hb hby at_26) ?_
    refine XS.iand X0.here hx rfl (hb hby at_29) rfl ?_
    refine XS.i2c X0.here hx rfl (hb hby at_30) rfl ?_
    show Steps p.tables e below (s₁.setTop (mkF m 31 #[.val (.int sel), .val (.int ra), .val (.int rb), .val (.int rc), .val (.int fl), .val (.int (kF sel)), .val (.int (c8 ra)), .val (.int (c8 rb)), .unset, .unset, .unset, .unset, .unset] [(.int (c8 rc))])) _
    refine XS.istore X0.here hx rfl (hb hby at_31) rfl (l' := #[.val (.int sel), .val (.int ra), .val (.int rb), .val (.int rc), .val (.int fl), .val (.int (kF sel)), .val (.int (c8 ra)), .val (.int (c8 rb)), .val (.int (c8 rc)), .unset, .unset, .unset, .unset]) rfl ?_
    refine XS.iload X0.here hx rfl (hb hby at_33) rfl ?_
    show Steps p.tables e below (s₁.setTop (mkF m 35 #[.val (.int sel), .val (.int ra), .val (.int rb), .val (.int rc), .val (.int fl), .val (.int (kF sel)), .val (.int (c8 ra)), .val (.int (c8 rb)), .val (.int (c8 rc)), .unset, .unset, .unset, .unset] [(.int (kF sel))])) _
    rw [show (kF sel) = (1 : Int32) from hk]
    show Steps p.tables e below (s₁.setTop (mkF m 35 #[.val (.int sel), .val (.int ra), .val (.int rb), .val (.int rc), .val (.int fl), .val (.int (1 : Int32)), .val (.int (c8 ra)), .val (.int (c8 rb)), .val (.int (c8 rc)), .unset, .unset, .unset, .unset] [(.int (1 : Int32))])) _
    refine st162 _ ?_
    refine XS.astore X162.here hx rfl (hb hby at_38) rfl rfl (l' := #[.val (.int sel), .val (.int ra), .val (.int rb), .val (.int rc), .val (.int fl), .val (.int (1 : Int32)), .val (.int (c8 ra)), .val (.int (c8 rb)), .val (.int (c8 rc)), .val (.ref kd), .unset, .unset, .unset]) rfl ?_
    refine XS.iload X162.here hx rfl (hb hby at_40) rfl ?_
    refine XS.iconst X162.here hx rfl (hb hby at_42) ?_
    refine XS.iand X162.here hx rfl (hb hby at_43) rfl ?_
    refine XS.ifYes X162.here hx rfl (pc0 := 44) (pc' := 67) rfl (hb hby at_44) rfl ((if0 _ _).trans (teq hc44).1) (by decide) (by decide) ?_
    show Steps p.tables e below (T162.setTop (mkF m 67 #[.val (.int sel), .val (.int ra), .val (.int rb), .val (.int rc), .val (.int fl), .val (.int (1 : Int32)), .val (.int (c8 ra)), .val (.int (c8 rb)), .val (.int (c8 rc)), .val (.ref kd), .unset, .unset, .unset] [])) _
    refine XS.iload X162.here hx rfl (hb hby at_67) rfl ?_
    refine XS.iload X162.here hx rfl (hb hby at_69) rfl ?_
    refine XS.iload X162.here hx rfl (hb hby at_71) rfl ?_
    refine XS.iload X162.here hx rfl (hb hby at_73) rfl ?_
    show Steps p.tables e below (T162.setTop (mkF m 75 #[.val (.int sel), .val (.int ra), .val (.int rb), .val (.int rc), .val (.int fl), .val (.int (1 : Int32)), .val (.int (c8 ra)), .val (.int (c8 rb)), .val (.int (c8 rc)), .val (.ref kd), .unset, .unset, .unset] [(.int (c8 rc)), (.int (c8 rb)), (.int (c8 ra)), (.int (1 : Int32))])) _
    refine st163 _ ?_
    refine XS.astore X163.here hx rfl (hb hby at_78) rfl rfl (l' := #[.val (.int sel), .val (.int ra), .val (.int rb), .val (.int rc), .val (.int fl), .val (.int (1 : Int32)), .val (.int (c8 ra)), .val (.int (c8 rb)), .val (.int (c8 rc)), .val (.ref kd), .val (.ref o163), .unset, .unset]) rfl ?_
    show Steps p.tables e below (T163.setTop (mkF m 80 #[.val (.int sel), .val (.int ra), .val (.int rb), .val (.int rc), .val (.int fl), .val (.int (1 : Int32)), .val (.int (c8 ra)), .val (.int (c8 rb)), .val (.int (c8 rc)), .val (.ref kd), .val (.ref o163), .unset, .unset] [])) _
    refine st164 _ ?_
    refine XS.dup X164.here hx rfl (hb hby at_83) rfl rfl ?_
    refine XS.iconst X164.here hx rfl (hb hby at_84) ?_
    show Steps p.tables e below (T164.setTop (mkF m 85 #[.val (.int sel), .val (.int ra), .val (.int rb), .val (.int rc), .val (.int fl), .val (.int (1 : Int32)), .val (.int (c8 ra)), .val (.int (c8 rb)), .val (.int (c8 rc)), .val (.ref kd), .val (.ref o163), .unset, .unset] [(.int (3 : Int32)), (.ref b164), (.ref b164)])) _
    refine st165 _ ?_
    refine XS.dup X165.here hx rfl (hb hby at_87) rfl rfl ?_
    refine XS.iconst X165.here hx rfl (hb hby at_88) ?_
    refine XS.iload X165.here hx rfl (hb hby at_89) rfl ?_
    show Steps p.tables e below (T165.setTop (mkF m 91 #[.val (.int sel), .val (.int ra), .val (.int rb), .val (.int rc), .val (.int fl), .val (.int (1 : Int32)), .val (.int (c8 ra)), .val (.int (c8 rb)), .val (.int (c8 rc)), .val (.ref kd), .val (.ref o163), .unset, .unset] [(.int (c8 ra)), (.int (0 : Int32)), (.ref b165), (.ref b165), (.ref b164), (.ref b164)])) _
    refine st166 _ ?_
    refine XS.dup X166.here hx rfl (hb hby at_92) rfl rfl ?_
    refine XS.iconst X166.here hx rfl (hb hby at_93) ?_
    refine XS.iload X166.here hx rfl (hb hby at_94) rfl ?_
    show Steps p.tables e below (T166.setTop (mkF m 96 #[.val (.int sel), .val (.int ra), .val (.int rb), .val (.int rc), .val (.int fl), .val (.int (1 : Int32)), .val (.int (c8 ra)), .val (.int (c8 rb)), .val (.int (c8 rc)), .val (.ref kd), .val (.ref o163), .unset, .unset] [(.int (c8 rb)), (.int (1 : Int32)), (.ref b165), (.ref b165), (.ref b164), (.ref b164)])) _
    refine st167 _ ?_
    refine XS.dup X167.here hx rfl (hb hby at_97) rfl rfl ?_
    refine XS.iconst X167.here hx rfl (hb hby at_98) ?_
    refine XS.iload X167.here hx rfl (hb hby at_99) rfl ?_
    show Steps p.tables e below (T167.setTop (mkF m 101 #[.val (.int sel), .val (.int ra), .val (.int rb), .val (.int rc), .val (.int fl), .val (.int (1 : Int32)), .val (.int (c8 ra)), .val (.int (c8 rb)), .val (.int (c8 rc)), .val (.ref kd), .val (.ref o163), .unset, .unset] [(.int (c8 rc)), (.int (2 : Int32)), (.ref b165), (.ref b165), (.ref b164), (.ref b164)])) _
    refine st168 _ ?_
    show Steps p.tables e below (T168.setTop (mkF m 102 #[.val (.int sel), .val (.int ra), .val (.int rb), .val (.int rc), .val (.int fl), .val (.int (1 : Int32)), .val (.int (c8 ra)), .val (.int (c8 rb)), .val (.int (c8 rc)), .val (.ref kd), .val (.ref o163), .unset, .unset] [(.ref b165), (.ref b164), (.ref b164)])) _
    refine st169.trans ?_
    refine XS.astore X169.here hx rfl (hb hby at_105) rfl rfl (l' := #[.val (.int sel), .val (.int ra), .val (.int rb), .val (.int rc), .val (.int fl), .val (.int (1 : Int32)), .val (.int (c8 ra)), .val (.int (c8 rb)), .val (.int (c8 rc)), .val (.ref kd), .val (.ref o163), .val (.ref b164), .unset]) rfl ?_
    refine XS.aload X169.here hx rfl (hb hby at_107) rfl rfl ?_
    refine XS.aload X169.here hx rfl (hb hby at_109) rfl rfl ?_
    show Steps p.tables e below (T169.setTop (mkF m 111 #[.val (.int sel), .val (.int ra), .val (.int rb), .val (.int rc), .val (.int fl), .val (.int (1 : Int32)), .val (.int (c8 ra)), .val (.int (c8 rb)), .val (.int (c8 rc)), .val (.ref kd), .val (.ref o163), .val (.ref b164), .unset] [(.ref o163), (.ref kd)])) _
    refine st170.trans ?_
    refine XS.astore X170.here hx rfl (hb hby at_114) rfl rfl (l' := #[.val (.int sel), .val (.int ra), .val (.int rb), .val (.int rc), .val (.int fl), .val (.int (1 : Int32)), .val (.int (c8 ra)), .val (.int (c8 rb)), .val (.int (c8 rc)), .val (.ref kd), .val (.ref o163), .val (.ref b164), .val (.ref o170)]) rfl ?_
    refine XS.aload X170.here hx rfl (hb hby at_116) rfl rfl ?_
    refine XS.aload X170.here hx rfl (hb hby at_118) rfl rfl ?_
    show Steps p.tables e below (T170.setTop (mkF m 120 #[.val (.int sel), .val (.int ra), .val (.int rb), .val (.int rc), .val (.int fl), .val (.int (1 : Int32)), .val (.int (c8 ra)), .val (.int (c8 rb)), .val (.int (c8 rc)), .val (.ref kd), .val (.ref o163), .val (.ref b164), .val (.ref o170)] [(.ref o170), (.ref b164)])) _
    refine st171.trans ?_
    show Steps p.tables e below (T171.setTop (mkF m 123 #[.val (.int sel), .val (.int ra), .val (.int rb), .val (.int rc), .val (.int fl), .val (.int (1 : Int32)), .val (.int (c8 ra)), .val (.int (c8 rb)), .val (.int (c8 rc)), .val (.ref kd), .val (.ref o163), .val (.ref b164), .val (.ref o170)] [(.int (1 : Int32))])) _
    exact retN X171 hx (t := .boolean) Bd.returns (by simp) (hb hby at_123) hr
  · show Q0  h0 n0 _ T171.heap _
    exact ⟨rfl, N171⟩
set_option maxRecDepth 65536 in
set_option maxHeartbeats 40000000 in
theorem rm0_11 (l : Launch) (Z : State) (a0 : Array Value) (hw : ∀ d ∈ tables_1, d.before a0 Z = true) (ws : List Jvm.Cond) (sel : Int32) (ra : Int32) (rb : Int32) (rc : Int32) (fl : Int32) (kd : Addr) (h0 : Heap) (n0 : Nat) (Z0 : n0 ≤ h0.size) (hk : kF sel = (1 : Int32)) (hst : Sta Z Z.heap "com/example/trestle/trestle/ResourceKind" "BUSINESS_SERVICE" "Lcom/example/trestle/trestle/ResourceKind;" (.ref kd)) (KDm : KD Z kd 13) (O : Old Z n0 h0) (SK : StrSta Z) (hEL : EW Z a0 EL1) (hc44 : ¬ ((fl &&& (1 : Int32)) = (0 : Int32))) :
    MetFree l x (head1 (Jvm.Cond.code x code maxLocals ret :: ws) room_1) (fun aa_ U_ => aa_ = #[(.int sel), (.int ra), (.int rb), (.int rc), (.int fl)] ∧ Z.Warmed39 U_.vm ∧ U_.heap = h0 ∧ CHv Z EL1 U_.vm h0) (fun _ _ _ _ _ => True) (fun _ U_ o_ V_ => ∃ v_ L_, o_ = .returned v_ ∧ Q0  h0 n0 v_ V_.heap L_ ∧ ReturnedEndW U_ o_ V_ L_ room_1.cells room_1.slots) := by
  refine MetFree.of_bodySF (plainFor_of_name pn_0) hisR ?_
  intro p e s m args below meth c s₁ Bd hml0 hP hK
  obtain ⟨rfl, hZ, hh, CH0⟩ := hP
  have hx := Bd.exec
  have hby := Bd.bytes
  have hml : c.maxLocals = 13 := hml0
  have hown : s.vm.findClass "com/example/trestle/trestle/ResourceKindIdPinLaw" = some m.cls := findClass_of_methodNamed Bd.named
  have hnm := (name_of_methodNamed Bd.named Bd.method).1
  have X0 : Stand p l e room_1 s m #[(.int sel), (.int ra), (.int rb), (.int rc), (.int fl)] below meth c s₁ [] 0 0 := Stand.of_body Bd
  have e0 : s₁.heap = h0 := by rw [← hh, Bd.state]; rfl
  have N0 := Fr.nil n0
  have pre0 : ∀ zz, Steps p.tables e below (s₁.setTop (mkF m 0 #[.val (.int sel), .val (.int ra), .val (.int rb), .val (.int rc), .val (.int fl), .unset, .unset, .unset, .unset, .unset, .unset, .unset, .unset] [])) zz → Steps p.tables e below (s₁.setTop (entryFrame m #[(.int sel), (.int ra), (.int rb), (.int rc), (.int fl)] maxLocals)) zz := fun zz kz_ => castTop (ef_0 m sel ra rb rc fl) kz_
  have hwS : ∀ a ∈ Bundle.stringAtoms, a.before a0 Z = true := fun d hd => hw d (by simpa using (List.all_eq_true.mp (by decide +kernel : (Bundle.stringAtoms.all fun c => tables_1.contains c) = true)) d hd)
  obtain ⟨_, _, ⟨T172, L172, k172, n172⟩, -, X172, ⟨Lc172, hQ172, l172, y172, z172⟩, st172⟩ := Jvm.LawKit.callS X0 hx (y := (⟨"com/example/trestle/trestle/ResourceKindIdPinLaw", "kindOf", "(I)Lcom/example/trestle/trestle/ResourceKind;"⟩ : MethodName)) hown (mvT hZ (hw _ (List.mem_of_getElem? (i := 1) rfl))) (mvT hZ (hw _ (List.mem_of_getElem? (i := 2) rfl))) (mvT hZ (hw _ (List.mem_of_getElem? (i := 3) rfl))) (mvT hZ (hw _ (List.mem_of_getElem? (i := 4) rfl))) (by decide) (backOf (W := 0) (rmK1 l Z a0 hw [] kd h0 n0 Z0 O hst) hZ (hw _ (List.mem_of_getElem? (i := 4) rfl)) (hw _ (List.mem_of_getElem? (i := 3) rfl)) (by decide) (by decide)) (g := (mkF m 35 #[.val (.int sel), .val (.int ra), .val (.int rb), .val (.int rc), .val (.int fl), .val (.int (1 : Int32)), .val (.int (c8 ra)), .val (.int (c8 rb)), .val (.int (c8 rc)), .unset, .unset, .unset, .unset] [(.int (1 : Int32))])) rfl (by rw [hml]; rfl) (argsL := [(.int (1 : Int32))]) (rest := []) (lenOf pd_0 rfl) rfl (by show 2 * 0 + _ ≤ _; exact Nat.le_of_eq rfl) (hb hby at_35) (fun _ _ => ⟨rfl, e0, (by decide : 0 + 0 ≤ _), (by decide : 0 + 0 ≤ _)⟩)
  dsimp only [Pt.U, Pt.locs, Pt.cells, Pt.slots] at X172 l172 y172 z172 st172 hQ172
  subst l172 y172 z172
  obtain ⟨rfl, N172q, e172⟩ := hQ172
  have N172 := Fr.app N0 N172q
  obtain ⟨_, _, ⟨T173, L173, k173, n173⟩, -, X173, hS2173, hg173, ⟨Lc173, hQ173, l173, y173, z173, C173⟩, st173⟩ := callSS X172 hx (y := (⟨"com/example/trestle/trestle/ResourceKindIdPinLaw", "suffixOf", "(I)Ljava/lang/String;"⟩ : MethodName)) hown (mvT hZ (hw _ (List.mem_of_getElem? (i := 114) rfl))) (mvT hZ (hw _ (List.mem_of_getElem? (i := 115) rfl))) (mvT hZ (hw _ (List.mem_of_getElem? (i := 3) rfl))) (mvT hZ (hw _ (List.mem_of_getElem? (i := 116) rfl))) (by decide) (backOfSH (s := s) (vm0 := s.vm) (EL := EL1) (W := 1) (rmSX1 l Z a0 hw []  h0 n0 Z0 hEL) hZ (hw _ (List.mem_of_getElem? (i := 116) rfl)) (hw _ (List.mem_of_getElem? (i := 3) rfl)) (by decide) (by decide) hEL CH0) (g := (mkF m 51 #[.val (.int sel), .val (.int ra), .val (.int rb), .val (.int rc), .val (.int fl), .val (.int (1 : Int32)), .val (.int (c8 ra)), .val (.int (c8 rb)), .val (.int (c8 rc)), .val (.ref kd), .unset, .unset, .unset] [(.int (1 : Int32)), (.ref kd)])) rfl (by rw [hml]; rfl) (argsL := [(.int (1 : Int32))]) (rest := [(.ref kd)]) (lenOf pd_23 rfl) rfl (by show 2 * 0 + _ ≤ _; exact Nat.le_of_eq rfl) (hb hby at_51) (fun _ _ => ⟨rfl, e172, (by decide : 0 + 2 ≤ _), (by decide : 0 + 60 ≤ _)⟩)
  dsimp only [Pt.U, Pt.locs, Pt.cells, Pt.slots] at X173 l173 y173 z173 st173 hQ173 hS2173 hg173
  subst l173 y173 z173
  obtain ⟨o173, rfl, N173q, K173, S173⟩ := hQ173
  have N173 := Fr.app N172 N173q
  dsimp only [Pt.U, Pt.locs, Pt.cells, Pt.slots] at C173
  have CR173 := (CHr.refl CH0).trans C173
  have hS173 := foldS ((State.WarmedH.refl s).since 0) (by rw [e172]; exact (Nat.zero_le _)) hS2173 hg173
  have hZ173 : Z.Warmed39 (s.setVm T173.vm).vm := State.Warmed39.trans hZ hS2173.1
  have hown173 : (s.setVm T173.vm).vm.findClass "com/example/trestle/trestle/ResourceKindIdPinLaw" = some m.cls := by rw [show (s.setVm T173.vm).vm = T173.vm from rfl, hS2173.1.alike.findClass]; exact hown
  have KK173 := (Keep.refl h0 []).trans K173 (fun x r => absurd r List.not_mem_nil)
  have Z173 : n0 ≤ T173.heap.size := Nat.le_trans Z0 K173.1
  have O173 := O.keep K173 all0'
  have EKo173 := KDm.1.ext O173.2
  obtain ⟨cq174, kq174, q174a, q174b, q174c⟩ := isOf hZ173 rfl EKo173
  obtain ⟨_, _, ⟨T174, L174, k174, n174⟩, -, X174, hS2174, hg174, ⟨Lc174, hQ174, l174, y174, z174, C174⟩, st174⟩ := X173.virtualBackS hx (y := (⟨"com/example/trestle/trestle/ResourceKind", "id", "(Ljava/lang/String;)Ljava/lang/String;"⟩ : MethodName)) (z := (⟨"com/example/trestle/trestle/ResourceKind", "id", "(Ljava/lang/String;)Ljava/lang/String;"⟩ : MethodName)) hown173 (mvT hZ173 (hw _ (List.mem_of_getElem? (i := 41) rfl))) (mvT hZ173 (hw _ (List.mem_of_getElem? (i := 42) rfl))) (notFace_of_selects (args := #[]) (mvT hZ173 (hw _ (List.mem_of_getElem? (i := 44) rfl)))) (mvT hZ173 (hw _ (List.mem_of_getElem? (i := 44) rfl))) (mvT hZ173 (hw _ (List.mem_of_getElem? (i := 43) rfl))) (by decide) (backOfSH (s := s) (vm0 := T173.vm) (EL := EL1) (W := 0) (rmID0 l Z a0 hw [] kd o173 13 sw1 T173.heap n0 Z173 (by decide) O173 SK S173 (by decide) KDm hEL) hZ173 (hw _ (List.mem_of_getElem? (i := 45) rfl)) (hw _ (List.mem_of_getElem? (i := 6) rfl)) (by decide) (by decide) hEL C173.1) q174a q174c (g := (mkF m 54 #[.val (.int sel), .val (.int ra), .val (.int rb), .val (.int rc), .val (.int fl), .val (.int (1 : Int32)), .val (.int (c8 ra)), .val (.int (c8 rb)), .val (.int (c8 rc)), .val (.ref kd), .unset, .unset, .unset] [(.ref o173), (.ref kd)])) rfl (by rw [hml]; rfl) (Steps.refl _) (argsL := [(.ref o173)]) (rest := []) (lenOf pd_8 rfl) rfl (by show 2 * 0 + _ ≤ _; exact Nat.le_of_eq rfl) (hb hby at_54) (fun _ _ => ⟨rfl, rfl, (by decide : 2 + 2 ≤ _), (by decide : 60 + 4 ≤ _)⟩)
  dsimp only [Pt.U, Pt.locs, Pt.cells, Pt.slots] at X174 l174 y174 z174 st174 hQ174 hS2174 hg174 C174
  subst l174 y174 z174
  obtain ⟨o174, rfl, N174q, K174, S174⟩ := hQ174
  have N174 := Fr.app N173 N174q
  have CR174 := CR173.trans C174
  have hS174 := foldS hS173 (by exact (Nat.le_refl _)) hS2174 hg174
  have hZ174 : Z.Warmed39 (s.setVm T174.vm).vm := State.Warmed39.trans hZ173 hS2174.1
  have hown174 : (s.setVm T174.vm).vm.findClass "com/example/trestle/trestle/ResourceKindIdPinLaw" = some m.cls := by rw [show (s.setVm T174.vm).vm = T174.vm from rfl, hS2174.1.alike.findClass]; exact hown173
  have KK174 := KK173.trans K174 (fun x r => absurd r List.not_mem_nil)
  have Z174 : n0 ≤ T174.heap.size := Nat.le_trans Z173 K174.1
  have O174 := O173.keep K174 all0'
  obtain ⟨a175, T175, h175, k175, v175, kk175, X175, e175, E175, hS175, hk175, hZ175, hown175, Ex175, Fc175, Fv175, Av175, la175, lb175, C175, Lt175, Sn175, st175⟩ := ldcCH (s := s) (vm0 := T174.vm) (EL := EL1) X174 hx hZ174 hown174 (hw _ (List.mem_of_getElem? (i := 121) rfl)) hwS rfl hS174 (Nat.le_refl _) hEL (by decide) C174.1 (vs := []) (z := (0 : Int32)) (by decide) (by decide) (by decide) (g := (mkF m 59 #[.val (.int sel), .val (.int ra), .val (.int rb), .val (.int rc), .val (.int fl), .val (.int (1 : Int32)), .val (.int (c8 ra)), .val (.int (c8 rb)), .val (.int (c8 rc)), .val (.ref kd), .val (.ref o174), .unset, .unset] [])) rfl (hb hby at_59) (n := 0) (by decide) (by decide) (by decide) (by decide)
  have O175 := O174.ext E175
  have K175 := KK174.ext E175
  have Z175 : n0 ≤ h175.size := Nat.le_trans Z174 E175.1
  have CR175 := CR174.trans C175
  have SB175 := S174.ext E175
  obtain ⟨cq176, kq176, q176a, q176b, q176c⟩ := isOf hZ175 e175 Ex175
  obtain ⟨_, _, ⟨T176, L176, k176, n176⟩, -, X176, ⟨Lc176, hQ176, l176, y176, z176⟩, st176⟩ := X175.virtualBack hx (y := (⟨"java/lang/String", "equals", "(Ljava/lang/Object;)Z"⟩ : MethodName)) (z := (⟨"java/lang/String", "equals", "(Ljava/lang/Object;)Z"⟩ : MethodName)) hown175 (mvT hZ175 (hw _ (List.mem_of_getElem? (i := 103) rfl))) (mvT hZ175 (hw _ (List.mem_of_getElem? (i := 104) rfl))) (notFace_of_selects (args := #[]) (mvT hZ175 (hw _ (List.mem_of_getElem? (i := 106) rfl)))) (mvT hZ175 (hw _ (List.mem_of_getElem? (i := 106) rfl))) (mvT hZ175 (hw _ (List.mem_of_getElem? (i := 105) rfl))) (by decide) (backOf (W := 0) (rmEQ l Z a0 hw [] a175 o174 0 (fun _ => 0) h175 n0 Z175 (by decide) O175 SK ⟨Ex175, v175, Fv175, Fc175, AF.empty Av175 rfl _⟩ (SB175.congr fun j hj => absurd hj (Nat.not_lt_zero _))) hZ175 (hw _ (List.mem_of_getElem? (i := 107) rfl)) (hw _ (List.mem_of_getElem? (i := 13) rfl)) (by decide) (by decide)) q176a q176c (g := (mkF m 63 #[.val (.int sel), .val (.int ra), .val (.int rb), .val (.int rc), .val (.int fl), .val (.int (1 : Int32)), .val (.int (c8 ra)), .val (.int (c8 rb)), .val (.int (c8 rc)), .val (.ref kd), .val (.ref o174), .unset, .unset] [(.ref o174), (.ref a175)])) rfl (by rw [hml]; rfl) (Steps.refl _) (argsL := [(.ref o174)]) (rest := []) (lenOf pd_21 rfl) rfl (by show 2 * 0 + _ ≤ _; exact Nat.le_of_eq rfl) (hb hby at_63) (fun _ _ => ⟨rfl, e175, (by decide : 6 + 0 ≤ _), (by decide : 68 + 0 ≤ _)⟩)
  dsimp only [Pt.U, Pt.locs, Pt.cells, Pt.slots] at X176 l176 y176 z176 st176 hQ176
  subst l176 y176 z176
  obtain ⟨rfl, N176q, e176⟩ := hQ176
  have N176 := Fr.app N174 N176q
  obtain ⟨fs, hr, hrun, hended, -, hWW, hBB, hSS⟩ := Stand.leaveW (s := s) (vm₁ := T175.vm) X176 hS175 (by rw [e176]; exact hk175) (v := some (.int (1 : Int32))) (fun h => by rw [Bd.returns] at h; cases h)
  refine ⟨_, _, pre0 _ ?_, hrun, hended, _, _, rfl, ?_, ⟨_, rfl⟩, hWW, hBB, hSS.mono (by decide) (by decide)⟩
  · show Steps p.tables e below (s₁.setTop (mkF m 0 #[.val (.int sel), .val (.int ra), .val (.int rb), .val (.int rc), .val (.int fl), .unset, .unset, .unset, .unset, .unset, .unset, .unset, .unset] [])) _
    refine XS.iloadN X0.here hx rfl (hb hby at_0) rfl ?_
    refine X0.ldcInt hx hown (mvT hZ (hw _ (List.mem_of_getElem? (i := 0) rfl))) (g := (mkF m 1 #[.val (.int sel), .val (.int ra), .val (.int rb), .val (.int rc), .val (.int fl), .unset, .unset, .unset, .unset, .unset, .unset, .unset, .unset] [(.int sel)])) rfl (hb hby at_1) _ ?_
    refine XS.iand X0.here hx rfl (hb hby at_3) rfl ?_
    refine XS.bipush X0.here hx rfl (hb hby at_4) ?_
    refine gwIrem X0.here hx rfl (hb hby at_6) rfl (by decide) ?_
    show Steps p.tables e below (s₁.setTop (mkF m 7 #[.val (.int sel), .val (.int ra), .val (.int rb), .val (.int rc), .val (.int fl), .unset, .unset, .unset, .unset, .unset, .unset, .unset, .unset] [(.int (kF sel))])) _
    refine XS.istore X0.here hx rfl (hb hby at_7) rfl (l' := #[.val (.int sel), .val (.int ra), .val (.int rb), .val (.int rc), .val (.int fl), .val (.int (kF sel)), .unset, .unset, .unset, .unset, .unset, .unset, .unset]) rfl ?_
    refine XS.iloadN X0.here hx rfl (hb hby at_9) rfl ?_
    refine XS.sipush X0.here hx rfl (hb hby at_10) ?_
    refine XS.iand X0.here hx rfl (hb hby at_13) rfl ?_
    refine XS.i2c X0.here hx rfl (hb hby at_14) rfl ?_
    show Steps p.tables e below (s₁.setTop (mkF m 15 #[.val (.int sel), .val (.int ra), .val (.int rb), .val (.int rc), .val (.int fl), .val (.int (kF sel)), .unset, .unset, .unset, .unset, .unset, .unset, .unset] [(.int (c8 ra))])) _
    refine XS.istore X0.here hx rfl (hb hby at_15) rfl (l' := #[.val (.int sel), .val (.int ra), .val (.int rb), .val (.int rc), .val (.int fl), .val (.int (kF sel)), .val (.int (c8 ra)), .unset, .unset, .unset, .unset, .unset, .unset]) rfl ?_
    refine XS.iloadN X0.here hx rfl (hb hby at_17) rfl ?_
    refine XS.sipush X0.here hx rfl (hb hby at_18) ?_
    refine XS.iand X0.here hx rfl (hb hby at_21) rfl ?_
    refine XS.i2c X0.here hx rfl (hb hby at_22) rfl ?_
    show Steps p.tables e below (s₁.setTop (mkF m 23 #[.val (.int sel), .val (.int ra), .val (.int rb), .val (.int rc), .val (.int fl), .val (.int (kF sel)), .val (.int (c8 ra)), .unset, .unset, .unset, .unset, .unset, .unset] [(.int (c8 rb))])) _
    refine XS.istore X0.here hx rfl (hb hby at_23) rfl (l' := #[.val (.int sel), .val (.int ra), .val (.int rb), .val (.int rc), .val (.int fl), .val (.int (kF sel)), .val (.int (c8 ra)), .val (.int (c8 rb)), .unset, .unset, .unset, .unset, .unset]) rfl ?_
    refine XS.iloadN X0.here hx rfl (hb hby at_25) rfl ?_
    refine XS.sipush X0.here hx rfl (hb hby at_26) ?_
    refine XS.iand X0.here hx rfl (hb hby at_29) rfl ?_
    refine XS.i2c X0.here hx rfl (hb hby at_30) rfl ?_
    show Steps p.tables e below (s₁.setTop (mkF m 31 #[.val (.int sel), .val (.int ra), .val (.int rb), .val (.int rc), .val (.int fl), .val (.int (kF sel)), .val (.int (c8 ra)), .val (.int (c8 rb)), .unset, .unset, .unset, .unset, .unset] [(.int (c8 rc))])) _
    refine XS.istore X0.here hx rfl (hb hby at_31) rfl (l' := #[.val (.int sel), .val (.int ra), .val (.int rb), .val (.int rc), .val (.int fl), .val (.int (kF sel)), .val (.int (c8 ra)), .val (.int (c8 rb)), .val (.int (c8 rc)), .unset, .unset, .unset, .unset]) rfl ?_
    refine XS.iload X0.here hx rfl (hb hby at_33) rfl ?_
    show Steps p.tables e below (s₁.setTop (mkF m 35 #[.val (.int sel), .val (.int ra), .val (.int rb), .val (.int rc), .val (.int fl), .val (.int (kF sel)), .val (.int (c8 ra)), .val (.int (c8 rb)), .val (.int (c8 rc)), .unset, .unset, .unset, .unset] [(.int (kF sel))])) _
    rw [show (kF sel) = (1 : Int32) from hk]
    show Steps p.tables e below (s₁.setTop (mkF m 35 #[.val (.int sel), .val (.int ra), .val (.int rb), .val (.int rc), .val (.int fl), .val (.int (1 : Int32)), .val (.int (c8 ra)), .val (.int (c8 rb)), .val (.int (c8 rc)), .unset, .unset, .unset, .unset] [(.int (1 : Int32))])) _
    refine st172 _ ?_
    refine XS.astore X172.here hx rfl (hb hby at_38) rfl rfl (l' := #[.val (.int sel), .val (.int ra), .val (.int rb), .val (.int rc), .val (.int fl), .val (.int (1 : Int32)), .val (.int (c8 ra)), .val (.int (c8 rb)), .val (.int (c8 rc)), .val (.ref kd), .unset, .unset, .unset]) rfl ?_
    refine XS.iload X172.here hx rfl (hb hby at_40) rfl ?_
    refine XS.iconst X172.here hx rfl (hb hby at_42) ?_
    refine XS.iand X172.here hx rfl (hb hby at_43) rfl ?_
    refine XS.ifNo X172.here hx rfl (hb hby at_44) rfl ((if0 _ _).trans (feq hc44).1) ?_
    show Steps p.tables e below (T172.setTop (mkF m 47 #[.val (.int sel), .val (.int ra), .val (.int rb), .val (.int rc), .val (.int fl), .val (.int (1 : Int32)), .val (.int (c8 ra)), .val (.int (c8 rb)), .val (.int (c8 rc)), .val (.ref kd), .unset, .unset, .unset] [])) _
    refine XS.aload X172.here hx rfl (hb hby at_47) rfl rfl ?_
    refine XS.iload X172.here hx rfl (hb hby at_49) rfl ?_
    show Steps p.tables e below (T172.setTop (mkF m 51 #[.val (.int sel), .val (.int ra), .val (.int rb), .val (.int rc), .val (.int fl), .val (.int (1 : Int32)), .val (.int (c8 ra)), .val (.int (c8 rb)), .val (.int (c8 rc)), .val (.ref kd), .unset, .unset, .unset] [(.int (1 : Int32)), (.ref kd)])) _
    refine st173.trans ?_
    show Steps p.tables e below (T173.setTop (mkF m 54 #[.val (.int sel), .val (.int ra), .val (.int rb), .val (.int rc), .val (.int fl), .val (.int (1 : Int32)), .val (.int (c8 ra)), .val (.int (c8 rb)), .val (.int (c8 rc)), .val (.ref kd), .unset, .unset, .unset] [(.ref o173), (.ref kd)])) _
    refine st174.trans ?_
    refine XS.astore X174.here hx rfl (hb hby at_57) rfl rfl (l' := #[.val (.int sel), .val (.int ra), .val (.int rb), .val (.int rc), .val (.int fl), .val (.int (1 : Int32)), .val (.int (c8 ra)), .val (.int (c8 rb)), .val (.int (c8 rc)), .val (.ref kd), .val (.ref o174), .unset, .unset]) rfl ?_
    show Steps p.tables e below (T174.setTop (mkF m 59 #[.val (.int sel), .val (.int ra), .val (.int rb), .val (.int rc), .val (.int fl), .val (.int (1 : Int32)), .val (.int (c8 ra)), .val (.int (c8 rb)), .val (.int (c8 rc)), .val (.ref kd), .val (.ref o174), .unset, .unset] [])) _
    refine st175 _ ?_
    refine XS.aload X175.here hx rfl (hb hby at_61) rfl rfl ?_
    show Steps p.tables e below (T175.setTop (mkF m 63 #[.val (.int sel), .val (.int ra), .val (.int rb), .val (.int rc), .val (.int fl), .val (.int (1 : Int32)), .val (.int (c8 ra)), .val (.int (c8 rb)), .val (.int (c8 rc)), .val (.ref kd), .val (.ref o174), .unset, .unset] [(.ref o174), (.ref a175)])) _
    refine st176.trans ?_
    show Steps p.tables e below (T176.setTop (mkF m 66 #[.val (.int sel), .val (.int ra), .val (.int rb), .val (.int rc), .val (.int fl), .val (.int (1 : Int32)), .val (.int (c8 ra)), .val (.int (c8 rb)), .val (.int (c8 rc)), .val (.ref kd), .val (.ref o174), .unset, .unset] [(.int (1 : Int32))])) _
    exact retN X176 hx (t := .boolean) Bd.returns (by simp) (hb hby at_66) hr
  · show Q0  h0 n0 _ T176.heap _
    exact ⟨rfl, N176⟩
set_option maxRecDepth 65536 in
set_option maxHeartbeats 40000000 in
theorem rm0_20 (l : Launch) (Z : State) (a0 : Array Value) (hw : ∀ d ∈ tables_1, d.before a0 Z = true) (ws : List Jvm.Cond) (sel : Int32) (ra : Int32) (rb : Int32) (rc : Int32) (fl : Int32) (kd : Addr) (h0 : Heap) (n0 : Nat) (Z0 : n0 ≤ h0.size) (hk : kF sel = (2 : Int32)) (hst : Sta Z Z.heap "com/example/trestle/trestle/ResourceKind" "XQUERY" "Lcom/example/trestle/trestle/ResourceKind;" (.ref kd)) (KDm : KD Z kd 3) (O : Old Z n0 h0) (SK : StrSta Z) (hEL : EW Z a0 EL1) (hc44 : (fl &&& (1 : Int32)) = (0 : Int32)) :
    MetFree l x (head1 (Jvm.Cond.code x code maxLocals ret :: ws) room_1) (fun aa_ U_ => aa_ = #[(.int sel), (.int ra), (.int rb), (.int rc), (.int fl)] ∧ Z.Warmed39 U_.vm ∧ U_.heap = h0 ∧ CHv Z EL1 U_.vm h0) (fun _ _ _ _ _ => True) (fun _ U_ o_ V_ => ∃ v_ L_, o_ = .returned v_ ∧ Q0  h0 n0 v_ V_.heap L_ ∧ ReturnedEndW U_ o_ V_ L_ room_1.cells room_1.slots) := by
  refine MetFree.of_bodySF (plainFor_of_name pn_0) hisR ?_
  intro p e s m args below meth c s₁ Bd hml0 hP hK
  obtain ⟨rfl, hZ, hh, CH0⟩ := hP
  have hx := Bd.exec
  have hby := Bd.bytes
  have hml : c.maxLocals = 13 := hml0
  have hown : s.vm.findClass "com/example/trestle/trestle/ResourceKindIdPinLaw" = some m.cls := findClass_of_methodNamed Bd.named
  have hnm := (name_of_methodNamed Bd.named Bd.method).1
  have X0 : Stand p l e room_1 s m #[(.int sel), (.int ra), (.int rb), (.int rc), (.int fl)] below meth c s₁ [] 0 0 := Stand.of_body Bd
  have e0 : s₁.heap = h0 := by rw [← hh, Bd.state]; rfl
  have N0 := Fr.nil n0
  have pre0 : ∀ zz, Steps p.tables e below (s₁.setTop (mkF m 0 #[.val (.int sel), .val (.int ra), .val (.int rb), .val (.int rc), .val (.int fl), .unset, .unset, .unset, .unset, .unset, .unset, .unset, .unset] [])) zz → Steps p.tables e below (s₁.setTop (entryFrame m #[(.int sel), (.int ra), (.int rb), (.int rc), (.int fl)] maxLocals)) zz := fun zz kz_ => castTop (ef_0 m sel ra rb rc fl) kz_
  have hwS : ∀ a ∈ Bundle.stringAtoms, a.before a0 Z = true := fun d hd => hw d (by simpa using (List.all_eq_true.mp (by decide +kernel : (Bundle.stringAtoms.all fun c => tables_1.contains c) = true)) d hd)
  obtain ⟨_, _, ⟨T177, L177, k177, n177⟩, -, X177, ⟨Lc177, hQ177, l177, y177, z177⟩, st177⟩ := Jvm.LawKit.callS X0 hx (y := (⟨"com/example/trestle/trestle/ResourceKindIdPinLaw", "kindOf", "(I)Lcom/example/trestle/trestle/ResourceKind;"⟩ : MethodName)) hown (mvT hZ (hw _ (List.mem_of_getElem? (i := 1) rfl))) (mvT hZ (hw _ (List.mem_of_getElem? (i := 2) rfl))) (mvT hZ (hw _ (List.mem_of_getElem? (i := 3) rfl))) (mvT hZ (hw _ (List.mem_of_getElem? (i := 4) rfl))) (by decide) (backOf (W := 0) (rmK2 l Z a0 hw [] kd h0 n0 Z0 O hst) hZ (hw _ (List.mem_of_getElem? (i := 4) rfl)) (hw _ (List.mem_of_getElem? (i := 3) rfl)) (by decide) (by decide)) (g := (mkF m 35 #[.val (.int sel), .val (.int ra), .val (.int rb), .val (.int rc), .val (.int fl), .val (.int (2 : Int32)), .val (.int (c8 ra)), .val (.int (c8 rb)), .val (.int (c8 rc)), .unset, .unset, .unset, .unset] [(.int (2 : Int32))])) rfl (by rw [hml]; rfl) (argsL := [(.int (2 : Int32))]) (rest := []) (lenOf pd_0 rfl) rfl (by show 2 * 0 + _ ≤ _; exact Nat.le_of_eq rfl) (hb hby at_35) (fun _ _ => ⟨rfl, e0, (by decide : 0 + 0 ≤ _), (by decide : 0 + 0 ≤ _)⟩)
  dsimp only [Pt.U, Pt.locs, Pt.cells, Pt.slots] at X177 l177 y177 z177 st177 hQ177
  subst l177 y177 z177
  obtain ⟨rfl, N177q, e177⟩ := hQ177
  have N177 := Fr.app N0 N177q
  obtain ⟨_, _, ⟨T178, L178, k178, n178⟩, -, X178, ⟨Lc178, hQ178, l178, y178, z178⟩, st178⟩ := Jvm.LawKit.callS X177 hx (y := (⟨"com/example/trestle/trestle/ResourceKindIdPinLaw", "withPrefix", "(ICCC)Ljava/lang/String;"⟩ : MethodName)) hown (mvT hZ (hw _ (List.mem_of_getElem? (i := 8) rfl))) (mvT hZ (hw _ (List.mem_of_getElem? (i := 9) rfl))) (mvT hZ (hw _ (List.mem_of_getElem? (i := 3) rfl))) (mvT hZ (hw _ (List.mem_of_getElem? (i := 10) rfl))) (by decide) (backOf (W := 0) (rmW2 l Z a0 hw [] (c8 ra) (c8 rb) (c8 rc) h0 n0 Z0 O SK (c8_B _) (c8_B _) (c8_B _)) hZ (hw _ (List.mem_of_getElem? (i := 10) rfl)) (hw _ (List.mem_of_getElem? (i := 3) rfl)) (by decide) (by decide)) (g := (mkF m 75 #[.val (.int sel), .val (.int ra), .val (.int rb), .val (.int rc), .val (.int fl), .val (.int (2 : Int32)), .val (.int (c8 ra)), .val (.int (c8 rb)), .val (.int (c8 rc)), .val (.ref kd), .unset, .unset, .unset] [(.int (c8 rc)), (.int (c8 rb)), (.int (c8 ra)), (.int (2 : Int32))])) rfl (by rw [hml]; rfl) (argsL := [(.int (2 : Int32)), (.int (c8 ra)), (.int (c8 rb)), (.int (c8 rc))]) (rest := []) (lenOf pd_1 rfl) rfl (by show 2 * 0 + _ ≤ _; exact Nat.le_of_eq rfl) (hb hby at_75) (fun _ _ => ⟨rfl, e177, (by decide : 0 + 4 ≤ _), (by decide : 0 + 100 ≤ _)⟩)
  dsimp only [Pt.U, Pt.locs, Pt.cells, Pt.slots] at X178 l178 y178 z178 st178 hQ178
  subst l178 y178 z178
  obtain ⟨o178, rfl, N178q, K178, S178⟩ := hQ178
  have N178 := Fr.app N177 N178q
  have KK178 := (Keep.refl h0 []).trans K178 (fun x r => absurd r List.not_mem_nil)
  have Z178 : n0 ≤ T178.heap.size := Nat.le_trans Z0 K178.1
  have O178 := O.keep K178 all0'
  obtain ⟨EO178, d178, FV178, FC178, FB178⟩ := S178
  obtain ⟨T179, h179, X179, e179, E179, A179, D179, -, st179⟩ := newO X178 hx hZ hown (hw _ (List.mem_of_getElem? (i := 11) rfl)) (hw _ (List.mem_of_getElem? (i := 12) rfl)) (hw _ (List.mem_of_getElem? (i := 13) rfl)) rfl (g := (mkF m 80 #[.val (.int sel), .val (.int ra), .val (.int rb), .val (.int rc), .val (.int fl), .val (.int (2 : Int32)), .val (.int (c8 ra)), .val (.int (c8 rb)), .val (.int (c8 rc)), .val (.ref kd), .val (.ref o178), .unset, .unset] [])) rfl (hb hby at_80) (by decide) (by decide)
  obtain ⟨b179, g179⟩ : ∃ z, z = T178.heap.size := ⟨_, rfl⟩
  rw [← g179] at A179 D179 st179
  have ne_d178_b179 : d178 ≠ b179 := Nat.ne_of_lt (Nat.lt_of_lt_of_le FB178.lt (Nat.le_of_eq g179.symm))
  have ne_o178_b179 : o178 ≠ b179 := Nat.ne_of_lt (Nat.lt_of_lt_of_le EO178.lt (Nat.le_of_eq g179.symm))
  have EO178_e179 := EO178.ext E179
  have FV178_e179 := FV178.ext E179
  have FC178_e179 := FC178.ext E179
  have FB178_e179 := FB178.ext E179
  have E_b179 := A179
  have g_b179 : n0 ≤ b179 := Nat.le_trans Z178 (Nat.le_of_eq g179.symm)
  have sz_b179 : h0.size ≤ b179 := Nat.le_trans KK178.1 (Nat.le_of_eq g179.symm)
  have K179 := KK178.ext E179
  have Z179 : n0 ≤ h179.size := Nat.le_trans Z178 E179.1
  have F_coder_b179 : Fld Z h179 b179 "java/lang/String" "coder" "B" (.int (0 : Int32)) := D179 (Or.inr (hw _ (List.mem_of_getElem? (i := 38) rfl))) (ty := .byte) (by decide)
  have F_value_b179 : Fld Z h179 b179 "java/lang/String" "value" "[B" .null := D179 (Or.inr (hw _ (List.mem_of_getElem? (i := 40) rfl))) (ty := (.array .byte)) (by decide)
  have O179 := O178.ext E179
  obtain ⟨T180, h180, X180, e180, E180, A180, st180⟩ := nwA X179 hx hZ (hw _ (List.mem_of_getElem? (i := 14) rfl)) e179 (g := (mkF m 85 #[.val (.int sel), .val (.int ra), .val (.int rb), .val (.int rc), .val (.int fl), .val (.int (2 : Int32)), .val (.int (c8 ra)), .val (.int (c8 rb)), .val (.int (c8 rc)), .val (.ref kd), .val (.ref o178), .unset, .unset] [(.int (3 : Int32)), (.ref b179), (.ref b179)])) rfl (hb hby at_85) (n := 3) rfl (cap := 3) (by decide) (by decide) (by decide) (by decide)
  obtain ⟨b180, q180⟩ : ∃ z, z = h179.size := ⟨_, rfl⟩
  rw [← q180] at A180 st180
  have V180 : AF Z h180 b180 .char 3 (fun _ => (.int (0 : Int32))) := A180
  have g_b180 : n0 ≤ b180 := Nat.le_trans Z179 (Nat.le_of_eq q180.symm)
  have sz_b180 : h0.size ≤ b180 := Nat.le_trans K179.1 (Nat.le_of_eq q180.symm)
  have K180 := K179.ext E180
  have Z180 : n0 ≤ h180.size := Nat.le_trans Z179 E180.1
  have ne_b179_b180 : b179 ≠ b180 := Nat.ne_of_lt (Nat.lt_of_lt_of_le E_b179.lt (Nat.le_of_eq q180.symm))
  have ne_d178_b180 : d178 ≠ b180 := Nat.ne_of_lt (Nat.lt_of_lt_of_le FB178_e179.lt (Nat.le_of_eq q180.symm))
  have ne_o178_b180 : o178 ≠ b180 := Nat.ne_of_lt (Nat.lt_of_lt_of_le EO178_e179.lt (Nat.le_of_eq q180.symm))
  have EO178_e180 := EO178_e179.ext E180
  have FV178_e180 := FV178_e179.ext E180
  have FC178_e180 := FC178_e179.ext E180
  have FB178_e180 := FB178_e179.ext E180
  have E_b179_e180 := E_b179.ext E180
  have F_coder_b179_e180 := F_coder_b179.ext E180
  have F_value_b179_e180 := F_value_b179.ext E180
  have O180 := O179.ext E180
  obtain ⟨T181, h181, X181, e181, W181, st181⟩ := stCh X180 hx hZ e180 V180 (i := 0) (by decide) (by decide) (x := (c8 ra)) (g := (mkF m 91 #[.val (.int sel), .val (.int ra), .val (.int rb), .val (.int rc), .val (.int fl), .val (.int (2 : Int32)), .val (.int (c8 ra)), .val (.int (c8 rb)), .val (.int (c8 rc)), .val (.ref kd), .val (.ref o178), .unset, .unset] [(.int (c8 ra)), (.int (0 : Int32)), (.ref b180), (.ref b180), (.ref b179), (.ref b179)])) rfl rfl (hb hby at_91)
  have A181 := V180.wr W181
  have EO178_e181 := EO178_e180.wr W181
  have FV178_e181 := FV178_e180.other W181 (Or.inl ne_o178_b180)
  have FC178_e181 := FC178_e180.other W181 (Or.inl ne_o178_b180)
  have FB178_e181 := FB178_e180.other W181 ne_d178_b180
  have E_b179_e181 := E_b179_e180.wr W181
  have F_coder_b179_e181 := F_coder_b179_e180.other W181 (Or.inl ne_b179_b180)
  have F_value_b179_e181 := F_value_b179_e180.other W181 (Or.inl ne_b179_b180)
  have N181 := Fr.snoc X181 N178 g_b180
  have K181 := K180.wr W181 (Or.inr sz_b180)
  have Z181 : n0 ≤ h181.size := Nat.le_trans Z180 (Keep.of_wr W181).1
  have O181 := O180.wr W181 g_b180
  obtain ⟨T182, h182, X182, e182, W182, st182⟩ := stCh X181 hx hZ e181 A181 (i := 1) (by decide) (by decide) (x := (c8 rb)) (g := (mkF m 96 #[.val (.int sel), .val (.int ra), .val (.int rb), .val (.int rc), .val (.int fl), .val (.int (2 : Int32)), .val (.int (c8 ra)), .val (.int (c8 rb)), .val (.int (c8 rc)), .val (.ref kd), .val (.ref o178), .unset, .unset] [(.int (c8 rb)), (.int (1 : Int32)), (.ref b180), (.ref b180), (.ref b179), (.ref b179)])) rfl rfl (hb hby at_96)
  have A182 := A181.wr W182
  have EO178_e182 := EO178_e181.wr W182
  have FV178_e182 := FV178_e181.other W182 (Or.inl ne_o178_b180)
  have FC178_e182 := FC178_e181.other W182 (Or.inl ne_o178_b180)
  have FB178_e182 := FB178_e181.other W182 ne_d178_b180
  have E_b179_e182 := E_b179_e181.wr W182
  have F_coder_b179_e182 := F_coder_b179_e181.other W182 (Or.inl ne_b179_b180)
  have F_value_b179_e182 := F_value_b179_e181.other W182 (Or.inl ne_b179_b180)
  have N182 := Fr.snoc X182 N181 g_b180
  have K182 := K181.wr W182 (Or.inr sz_b180)
  have Z182 : n0 ≤ h182.size := Nat.le_trans Z181 (Keep.of_wr W182).1
  have O182 := O181.wr W182 g_b180
  obtain ⟨T183, h183, X183, e183, W183, st183⟩ := stCh X182 hx hZ e182 A182 (i := 2) (by decide) (by decide) (x := (c8 rc)) (g := (mkF m 101 #[.val (.int sel), .val (.int ra), .val (.int rb), .val (.int rc), .val (.int fl), .val (.int (2 : Int32)), .val (.int (c8 ra)), .val (.int (c8 rb)), .val (.int (c8 rc)), .val (.ref kd), .val (.ref o178), .unset, .unset] [(.int (c8 rc)), (.int (2 : Int32)), (.ref b180), (.ref b180), (.ref b179), (.ref b179)])) rfl rfl (hb hby at_101)
  have A183 := A182.wr W183
  have EO178_e183 := EO178_e182.wr W183
  have FV178_e183 := FV178_e182.other W183 (Or.inl ne_o178_b180)
  have FC178_e183 := FC178_e182.other W183 (Or.inl ne_o178_b180)
  have FB178_e183 := FB178_e182.other W183 ne_d178_b180
  have E_b179_e183 := E_b179_e182.wr W183
  have F_coder_b179_e183 := F_coder_b179_e182.other W183 (Or.inl ne_b179_b180)
  have F_value_b179_e183 := F_value_b179_e182.other W183 (Or.inl ne_b179_b180)
  have N183 := Fr.snoc X183 N182 g_b180
  have K183 := K182.wr W183 (Or.inr sz_b180)
  have Z183 : n0 ≤ h183.size := Nat.le_trans Z182 (Keep.of_wr W183).1
  have O183 := O182.wr W183 g_b180
  have hBb179 : ∀ j, isB (gl [(c8 ra), (c8 rb), (c8 rc)] j) := glB (List.forall_mem_cons.mpr ⟨(c8_B _), (List.forall_mem_cons.mpr ⟨(c8_B _), (List.forall_mem_cons.mpr ⟨(c8_B _), (fun _ q => absurd q List.not_mem_nil)⟩)⟩)⟩)
  obtain ⟨_, _, ⟨T184, L184, k184, n184⟩, -, X184, ⟨Lc184, hQ184, l184, y184, z184⟩, st184⟩ := X183.specialBack hx (y := (⟨"java/lang/String", "<init>", "([C)V"⟩ : MethodName)) rfl hown (mvT hZ (hw _ (List.mem_of_getElem? (i := 15) rfl))) (mvT hZ (hw _ (List.mem_of_getElem? (i := 16) rfl))) (mvT hZ (hw _ (List.mem_of_getElem? (i := 17) rfl))) (by decide) (backOf (W := 1) (rmI1 l Z a0 hw [] b179 b180 3 (gl [(c8 ra), (c8 rb), (c8 rc)]) h183 n0 Z183 (by decide) (by decide) O183 SK (A183.congr (updS (updS (updS upd0 (congrArg Value.int (nar_id (isCh_of (c8_B _))))) (congrArg Value.int (nar_id (isCh_of (c8_B _))))) (congrArg Value.int (nar_id (isCh_of (c8_B _)))))) (fun j _ => isCh_of (hBb179 j)) E_b179_e183 F_value_b179_e183 F_coder_b179_e183 g_b179 (Ne.symm ne_b179_b180) (fun j _ => notBig (hBb179 j))) hZ (hw _ (List.mem_of_getElem? (i := 17) rfl)) (hw _ (List.mem_of_getElem? (i := 13) rfl)) (by decide) (by decide)) (g := (mkF m 102 #[.val (.int sel), .val (.int ra), .val (.int rb), .val (.int rc), .val (.int fl), .val (.int (2 : Int32)), .val (.int (c8 ra)), .val (.int (c8 rb)), .val (.int (c8 rc)), .val (.ref kd), .val (.ref o178), .unset, .unset] [(.ref b180), (.ref b179), (.ref b179)])) rfl (by rw [hml]; rfl) (Steps.refl _) (a := b179) (argsL := [(.ref b180)]) (rest := [(.ref b179)]) (lenOf pd_2 rfl) rfl (by show 2 * 0 + _ ≤ _; exact Nat.le_of_eq rfl) (hb hby at_102) (fun _ _ => ⟨rfl, e183, (by decide : 6 + 2 ≤ _), (by decide : 107 + 60 ≤ _)⟩)
  dsimp only [Pt.U, Pt.locs, Pt.cells, Pt.slots] at X184 l184 y184 z184 st184 hQ184
  subst l184 y184 z184
  obtain ⟨rfl, N184q, K184, S184⟩ := hQ184
  have N184 := Fr.app N183 N184q
  have EO178_e184 := EO178_e183.keep K184
  have FV178_e184 := FV178_e183.keep K184 (notin1 ne_o178_b179)
  have FC178_e184 := FC178_e183.keep K184 (notin1 ne_o178_b179)
  have FB178_e184 := FB178_e183.keep K184 (notin1 ne_d178_b179)
  have E_b179_e184 := E_b179_e183.keep K184
  have KK184 := K183.trans K184 (fun x r => by cases List.mem_singleton.mp r; exact (Or.inr sz_b179))
  have Z184 : n0 ≤ T184.heap.size := Nat.le_trans Z183 K184.1
  have O184 := O183.keep K184 (all1 g_b179)
  have SW184 : StrV Z _ o178 6 (Lb (gl [(c8 ra), (c8 rb), (c8 rc), (46 : Int32), (120 : Int32), (113 : Int32)])) := ⟨EO178_e184, d178, FV178_e184, FC178_e184, FB178_e184⟩
  have EKo178 := KDm.1.ext O184.2
  obtain ⟨cq185, kq185, q185a, q185b, q185c⟩ := isOf hZ rfl EKo178
  obtain ⟨_, _, ⟨T185, L185, k185, n185⟩, -, X185, ⟨Lc185, hQ185, l185, y185, z185⟩, st185⟩ := X184.virtualBack hx (y := (⟨"com/example/trestle/trestle/ResourceKind", "id", "(Ljava/lang/String;)Ljava/lang/String;"⟩ : MethodName)) (z := (⟨"com/example/trestle/trestle/ResourceKind", "id", "(Ljava/lang/String;)Ljava/lang/String;"⟩ : MethodName)) hown (mvT hZ (hw _ (List.mem_of_getElem? (i := 41) rfl))) (mvT hZ (hw _ (List.mem_of_getElem? (i := 42) rfl))) (notFace_of_selects (args := #[]) (mvT hZ (hw _ (List.mem_of_getElem? (i := 44) rfl)))) (mvT hZ (hw _ (List.mem_of_getElem? (i := 44) rfl))) (mvT hZ (hw _ (List.mem_of_getElem? (i := 43) rfl))) (by decide) (backOf (W := 0) (rmID l Z a0 hw [] kd o178 6 3 (Lb (gl [(c8 ra), (c8 rb), (c8 rc), (46 : Int32), (120 : Int32), (113 : Int32)])) T184.heap n0 Z184 (by decide) O184 SK SW184 (by decide) (by decide) KDm (fitsLb _ _)) hZ (hw _ (List.mem_of_getElem? (i := 45) rfl)) (hw _ (List.mem_of_getElem? (i := 6) rfl)) (by decide) (by decide)) q185a q185c (g := (mkF m 111 #[.val (.int sel), .val (.int ra), .val (.int rb), .val (.int rc), .val (.int fl), .val (.int (2 : Int32)), .val (.int (c8 ra)), .val (.int (c8 rb)), .val (.int (c8 rc)), .val (.ref kd), .val (.ref o178), .val (.ref b179), .unset] [(.ref o178), (.ref kd)])) rfl (by rw [hml]; rfl) (Steps.refl _) (argsL := [(.ref o178)]) (rest := []) (lenOf pd_8 rfl) rfl (by show 2 * 0 + _ ≤ _; exact Nat.le_of_eq rfl) (hb hby at_111) (fun _ _ => ⟨rfl, rfl, (by decide : 8 + 2 ≤ _), (by decide : 167 + 24 ≤ _)⟩)
  dsimp only [Pt.U, Pt.locs, Pt.cells, Pt.slots] at X185 l185 y185 z185 st185 hQ185
  subst l185 y185 z185
  obtain ⟨o185, rfl, N185q, K185, S185⟩ := hQ185
  have N185 := Fr.app N184 N185q
  have KK185 := KK184.trans K185 (fun x r => absurd r List.not_mem_nil)
  have Z185 : n0 ≤ T185.heap.size := Nat.le_trans Z184 K185.1
  have O185 := O184.keep K185 all0'
  have SB185 := S184.keep K185
  obtain ⟨cq186, kq186, q186a, q186b, q186c⟩ := isOf hZ rfl SB185.1
  obtain ⟨_, _, ⟨T186, L186, k186, n186⟩, -, X186, ⟨Lc186, hQ186, l186, y186, z186⟩, st186⟩ := X185.virtualBack hx (y := (⟨"java/lang/String", "equals", "(Ljava/lang/Object;)Z"⟩ : MethodName)) (z := (⟨"java/lang/String", "equals", "(Ljava/lang/Object;)Z"⟩ : MethodName)) hown (mvT hZ (hw _ (List.mem_of_getElem? (i := 103) rfl))) (mvT hZ (hw _ (List.mem_of_getElem? (i := 104) rfl))) (notFace_of_selects (args := #[]) (mvT hZ (hw _ (List.mem_of_getElem? (i := 106) rfl)))) (mvT hZ (hw _ (List.mem_of_getElem? (i := 106) rfl))) (mvT hZ (hw _ (List.mem_of_getElem? (i := 105) rfl))) (by decide) (backOf (W := 0) (rmEQ l Z a0 hw [] b179 o185 3 (fun j => b8 (gl [(c8 ra), (c8 rb), (c8 rc)] j)) T185.heap n0 Z185 (by decide) O185 SK SB185 (S185.congr c3)) hZ (hw _ (List.mem_of_getElem? (i := 107) rfl)) (hw _ (List.mem_of_getElem? (i := 13) rfl)) (by decide) (by decide)) q186a q186c (g := (mkF m 120 #[.val (.int sel), .val (.int ra), .val (.int rb), .val (.int rc), .val (.int fl), .val (.int (2 : Int32)), .val (.int (c8 ra)), .val (.int (c8 rb)), .val (.int (c8 rc)), .val (.ref kd), .val (.ref o178), .val (.ref b179), .val (.ref o185)] [(.ref o185), (.ref b179)])) rfl (by rw [hml]; rfl) (Steps.refl _) (argsL := [(.ref o185)]) (rest := []) (lenOf pd_21 rfl) rfl (by show 2 * 0 + _ ≤ _; exact Nat.le_of_eq rfl) (hb hby at_120) (fun _ _ => ⟨rfl, rfl, (by decide : 10 + 0 ≤ _), (by decide : 191 + 0 ≤ _)⟩)
  dsimp only [Pt.U, Pt.locs, Pt.cells, Pt.slots] at X186 l186 y186 z186 st186 hQ186
  subst l186 y186 z186
  obtain ⟨rfl, N186q, e186⟩ := hQ186
  have N186 := Fr.app N185 N186q
  obtain ⟨fs, hr, hrun, hended, -, hWW, hBB, hSS⟩ := Stand.leaveW (s := s) (vm₁ := s.vm) X186 ((State.WarmedH.refl s).since 0) (by rw [e186]; exact (Nat.zero_le _)) (v := some (.int (1 : Int32))) (fun h => by rw [Bd.returns] at h; cases h)
  refine ⟨_, _, pre0 _ ?_, hrun, hended, _, _, rfl, ?_, ⟨_, rfl⟩, hWW, hBB, hSS.mono (by decide) (by decide)⟩
  · show Steps p.tables e below (s₁.setTop (mkF m 0 #[.val (.int sel), .val (.int ra), .val (.int rb), .val (.int rc), .val (.int fl), .unset, .unset, .unset, .unset, .unset, .unset, .unset, .unset] [])) _
    refine XS.iloadN X0.here hx rfl (hb hby at_0) rfl ?_
    refine X0.ldcInt hx hown (mvT hZ (hw _ (List.mem_of_getElem? (i := 0) rfl))) (g := (mkF m 1 #[.val (.int sel), .val (.int ra), .val (.int rb), .val (.int rc), .val (.int fl), .unset, .unset, .unset, .unset, .unset, .unset, .unset, .unset] [(.int sel)])) rfl (hb hby at_1) _ ?_
    refine XS.iand X0.here hx rfl (hb hby at_3) rfl ?_
    refine XS.bipush X0.here hx rfl (hb hby at_4) ?_
    refine gwIrem X0.here hx rfl (hb hby at_6) rfl (by decide) ?_
    show Steps p.tables e below (s₁.setTop (mkF m 7 #[.val (.int sel), .val (.int ra), .val (.int rb), .val (.int rc), .val (.int fl), .unset, .unset, .unset, .unset, .unset, .unset, .unset, .unset] [(.int (kF sel))])) _
    refine XS.istore X0.here hx rfl (hb hby at_7) rfl (l' := #[.val (.int sel), .val (.int ra), .val (.int rb), .val (.int rc), .val (.int fl), .val (.int (kF sel)), .unset, .unset, .unset, .unset, .unset, .unset, .unset]) rfl ?_
    refine XS.iloadN X0.here hx rfl (hb hby at_9) rfl ?_
    refine XS.sipush X0.here hx rfl (hb hby at_10) ?_
    refine XS.iand X0.here hx rfl (hb hby at_13) rfl ?_
    refine XS.i2c X0.here hx rfl (hb hby at_14) rfl ?_
    show Steps p.tables e below (s₁.setTop (mkF m 15 #[.val (.int sel), .val (.int ra), .val (.int rb), .val (.int rc), .val (.int fl), .val (.int (kF sel)), .unset, .unset, .unset, .unset, .unset, .unset, .unset] [(.int (c8 ra))])) _
    refine XS.istore X0.here hx rfl (hb hby at_15) rfl (l' := #[.val (.int sel), .val (.int ra), .val (.int rb), .val (.int rc), .val (.int fl), .val (.int (kF sel)), .val (.int (c8 ra)), .unset, .unset, .unset, .unset, .unset, .unset]) rfl ?_
    refine XS.iloadN X0.here hx rfl (hb hby at_17) rfl ?_
    refine XS.sipush X0.here hx rfl (hb hby at_18) ?_
    refine XS.iand X0.here hx rfl (hb hby at_21) rfl ?_
    refine XS.i2c X0.here hx rfl (hb hby at_22) rfl ?_
    show Steps p.tables e below (s₁.setTop (mkF m 23 #[.val (.int sel), .val (.int ra), .val (.int rb), .val (.int rc), .val (.int fl), .val (.int (kF sel)), .val (.int (c8 ra)), .unset, .unset, .unset, .unset, .unset, .unset] [(.int (c8 rb))])) _
    refine XS.istore X0.here hx rfl (hb hby at_23) rfl (l' := #[.val (.int sel), .val (.int ra), .val (.int rb), .val (.int rc), .val (.int fl), .val (.int (kF sel)), .val (.int (c8 ra)), .val (.int (c8 rb)), .unset, .unset, .unset, .unset, .unset]) rfl ?_
    refine XS.iloadN X0.here hx rfl (hb hby at_25) rfl ?_
    refine XS.sipush X0.here hx rfl (hb hby at_26) ?_
    refine XS.iand X0.here hx rfl (hb hby at_29) rfl ?_
    refine XS.i2c X0.here hx rfl (hb hby at_30) rfl ?_
    show Steps p.tables e below (s₁.setTop (mkF m 31 #[.val (.int sel), .val (.int ra), .val (.int rb), .val (.int rc), .val (.int fl), .val (.int (kF sel)), .val (.int (c8 ra)), .val (.int (c8 rb)), .unset, .unset, .unset, .unset, .unset] [(.int (c8 rc))])) _
    refine XS.istore X0.here hx rfl (hb hby at_31) rfl (l' := #[.val (.int sel), .val (.int ra), .val (.int rb), .val (.int rc), .val (.int fl), .val (.int (kF sel)), .val (.int (c8 ra)), .val (.int (c8 rb)), .val (.int (c8 rc)), .unset, .unset, .unset, .unset]) rfl ?_
    refine XS.iload X0.here hx rfl (hb hby at_33) rfl ?_
    show Steps p.tables e below (s₁.setTop (mkF m 35 #[.val (.int sel), .val (.int ra), .val (.int rb), .val (.int rc), .val (.int fl), .val (.int (kF sel)), .val (.int (c8 ra)), .val (.int (c8 rb)), .val (.int (c8 rc)), .unset, .unset, .unset, .unset] [(.int (kF sel))])) _
    rw [show (kF sel) = (2 : Int32) from hk]
    show Steps p.tables e below (s₁.setTop (mkF m 35 #[.val (.int sel), .val (.int ra), .val (.int rb), .val (.int rc), .val (.int fl), .val (.int (2 : Int32)), .val (.int (c8 ra)), .val (.int (c8 rb)), .val (.int (c8 rc)), .unset, .unset, .unset, .unset] [(.int (2 : Int32))])) _
    refine st177 _ ?_
    refine XS.astore X177.here hx rfl (hb hby at_38) rfl rfl (l' := #[.val (.int sel), .val (.int ra), .val (.int rb), .val (.int rc), .val (.int fl), .val (.int (2 : Int32)), .val (.int (c8 ra)), .val (.int (c8 rb)), .val (.int (c8 rc)), .val (.ref kd), .unset, .unset, .unset]) rfl ?_
    refine XS.iload X177.here hx rfl (hb hby at_40) rfl ?_
    refine XS.iconst X177.here hx rfl (hb hby at_42) ?_
    refine XS.iand X177.here hx rfl (hb hby at_43) rfl ?_
    refine XS.ifYes X177.here hx rfl (pc0 := 44) (pc' := 67) rfl (hb hby at_44) rfl ((if0 _ _).trans (teq hc44).1) (by decide) (by decide) ?_
    show Steps p.tables e below (T177.setTop (mkF m 67 #[.val (.int sel), .val (.int ra), .val (.int rb), .val (.int rc), .val (.int fl), .val (.int (2 : Int32)), .val (.int (c8 ra)), .val (.int (c8 rb)), .val (.int (c8 rc)), .val (.ref kd), .unset, .unset, .unset] [])) _
    refine XS.iload X177.here hx rfl (hb hby at_67) rfl ?_
    refine XS.iload X177.here hx rfl (hb hby at_69) rfl ?_
    refine XS.iload X177.here hx rfl (hb hby at_71) rfl ?_
    refine XS.iload X177.here hx rfl (hb hby at_73) rfl ?_
    show Steps p.tables e below (T177.setTop (mkF m 75 #[.val (.int sel), .val (.int ra), .val (.int rb), .val (.int rc), .val (.int fl), .val (.int (2 : Int32)), .val (.int (c8 ra)), .val (.int (c8 rb)), .val (.int (c8 rc)), .val (.ref kd), .unset, .unset, .unset] [(.int (c8 rc)), (.int (c8 rb)), (.int (c8 ra)), (.int (2 : Int32))])) _
    refine st178 _ ?_
    refine XS.astore X178.here hx rfl (hb hby at_78) rfl rfl (l' := #[.val (.int sel), .val (.int ra), .val (.int rb), .val (.int rc), .val (.int fl), .val (.int (2 : Int32)), .val (.int (c8 ra)), .val (.int (c8 rb)), .val (.int (c8 rc)), .val (.ref kd), .val (.ref o178), .unset, .unset]) rfl ?_
    show Steps p.tables e below (T178.setTop (mkF m 80 #[.val (.int sel), .val (.int ra), .val (.int rb), .val (.int rc), .val (.int fl), .val (.int (2 : Int32)), .val (.int (c8 ra)), .val (.int (c8 rb)), .val (.int (c8 rc)), .val (.ref kd), .val (.ref o178), .unset, .unset] [])) _
    refine st179 _ ?_
    refine XS.dup X179.here hx rfl (hb hby at_83) rfl rfl ?_
    refine XS.iconst X179.here hx rfl (hb hby at_84) ?_
    show Steps p.tables e below (T179.setTop (mkF m 85 #[.val (.int sel), .val (.int ra), .val (.int rb), .val (.int rc), .val (.int fl), .val (.int (2 : Int32)), .val (.int (c8 ra)), .val (.int (c8 rb)), .val (.int (c8 rc)), .val (.ref kd), .val (.ref o178), .unset, .unset] [(.int (3 : Int32)), (.ref b179), (.ref b179)])) _
    refine st180 _ ?_
    refine XS.dup X180.here hx rfl (hb hby at_87) rfl rfl ?_
    refine XS.iconst X180.here hx rfl (hb hby at_88) ?_
    refine XS.iload X180.here hx rfl (hb hby at_89) rfl ?_
    show Steps p.tables e below (T180.setTop (mkF m 91 #[.val (.int sel), .val (.int ra), .val (.int rb), .val (.int rc), .val (.int fl), .val (.int (2 : Int32)), .val (.int (c8 ra)), .val (.int (c8 rb)), .val (.int (c8 rc)), .val (.ref kd), .val (.ref o178), .unset, .unset] [(.int (c8 ra)), (.int (0 : Int32)), (.ref b180), (.ref b180), (.ref b179), (.ref b179)])) _
    refine st181 _ ?_
    refine XS.dup X181.here hx rfl (hb hby at_92) rfl rfl ?_
    refine XS.iconst X181.here hx rfl (hb hby at_93) ?_
    refine XS.iload X181.here hx rfl (hb hby at_94) rfl ?_
    show Steps p.tables e below (T181.setTop (mkF m 96 #[.val (.int sel), .val (.int ra), .val (.int rb), .val (.int rc), .val (.int fl), .val (.int (2 : Int32)), .val (.int (c8 ra)), .val (.int (c8 rb)), .val (.int (c8 rc)), .val (.ref kd), .val (.ref o178), .unset, .unset] [(.int (c8 rb)), (.int (1 : Int32)), (.ref b180), (.ref b180), (.ref b179), (.ref b179)])) _
    refine st182 _ ?_
    refine XS.dup X182.here hx rfl (hb hby at_97) rfl rfl ?_
    refine XS.iconst X182.here hx rfl (hb hby at_98) ?_
    refine XS.iload X182.here hx rfl (hb hby at_99) rfl ?_
    show Steps p.tables e below (T182.setTop (mkF m 101 #[.val (.int sel), .val (.int ra), .val (.int rb), .val (.int rc), .val (.int fl), .val (.int (2 : Int32)), .val (.int (c8 ra)), .val (.int (c8 rb)), .val (.int (c8 rc)), .val (.ref kd), .val (.ref o178), .unset, .unset] [(.int (c8 rc)), (.int (2 : Int32)), (.ref b180), (.ref b180), (.ref b179), (.ref b179)])) _
    refine st183 _ ?_
    show Steps p.tables e below (T183.setTop (mkF m 102 #[.val (.int sel), .val (.int ra), .val (.int rb), .val (.int rc), .val (.int fl), .val (.int (2 : Int32)), .val (.int (c8 ra)), .val (.int (c8 rb)), .val (.int (c8 rc)), .val (.ref kd), .val (.ref o178), .unset, .unset] [(.ref b180), (.ref b179), (.ref b179)])) _
    refine st184.trans ?_
    refine XS.astore X184.here hx rfl (hb hby at_105) rfl rfl (l' := #[.val (.int sel), .val (.int ra), .val (.int rb), .val (.int rc), .val (.int fl), .val (.int (2 : Int32)), .val (.int (c8 ra)), .val (.int (c8 rb)), .val (.int (c8 rc)), .val (.ref kd), .val (.ref o178), .val (.ref b179), .unset]) rfl ?_
    refine XS.aload X184.here hx rfl (hb hby at_107) rfl rfl ?_
    refine XS.aload X184.here hx rfl (hb hby at_109) rfl rfl ?_
    show Steps p.tables e below (T184.setTop (mkF m 111 #[.val (.int sel), .val (.int ra), .val (.int rb), .val (.int rc), .val (.int fl), .val (.int (2 : Int32)), .val (.int (c8 ra)), .val (.int (c8 rb)), .val (.int (c8 rc)), .val (.ref kd), .val (.ref o178), .val (.ref b179), .unset] [(.ref o178), (.ref kd)])) _
    refine st185.trans ?_
    refine XS.astore X185.here hx rfl (hb hby at_114) rfl rfl (l' := #[.val (.int sel), .val (.int ra), .val (.int rb), .val (.int rc), .val (.int fl), .val (.int (2 : Int32)), .val (.int (c8 ra)), .val (.int (c8 rb)), .val (.int (c8 rc)), .val (.ref kd), .val (.ref o178), .val (.ref b179), .val (.ref o185)]) rfl ?_
    refine XS.aload X185.here hx rfl (hb hby at_116) rfl rfl ?_
    refine XS.aload X185.here hx rfl (hb hby at_118) rfl rfl ?_
    show Steps p.tables e below (T185.setTop (mkF m 120 #[.val (.int sel), .val (.int ra), .val (.int rb), .val (.int rc), .val (.int fl), .val (.int (2 : Int32)), .val (.int (c8 ra)), .val (.int (c8 rb)), .val (.int (c8 rc)), .val (.ref kd), .val (.ref o178), .val (.ref b179), .val (.ref o185)] [(.ref o185), (.ref b179)])) _
    refine st186.trans ?_
    show Steps p.tables e below (T186.setTop (mkF m 123 #[.val (.int sel), .val (.int ra), .val (.int rb), .val (.int rc), .val (.int fl), .val (.int (2 : Int32)), .val (.int (c8 ra)), .val (.int (c8 rb)), .val (.int (c8 rc)), .val (.ref kd), .val (.ref o178), .val (.ref b179), .val (.ref o185)] [(.int (1 : Int32))])) _
    exact retN X186 hx (t := .boolean) Bd.returns (by simp) (hb hby at_123) hr
  · show Q0  h0 n0 _ T186.heap _
    exact ⟨rfl, N186⟩
set_option maxRecDepth 65536 in
set_option maxHeartbeats 40000000 in
theorem rm0_21 (l : Launch) (Z : State) (a0 : Array Value) (hw : ∀ d ∈ tables_1, d.before a0 Z = true) (ws : List Jvm.Cond) (sel : Int32) (ra : Int32) (rb : Int32) (rc : Int32) (fl : Int32) (kd : Addr) (h0 : Heap) (n0 : Nat) (Z0 : n0 ≤ h0.size) (hk : kF sel = (2 : Int32)) (hst : Sta Z Z.heap "com/example/trestle/trestle/ResourceKind" "XQUERY" "Lcom/example/trestle/trestle/ResourceKind;" (.ref kd)) (KDm : KD Z kd 3) (O : Old Z n0 h0) (SK : StrSta Z) (hEL : EW Z a0 EL1) (hc44 : ¬ ((fl &&& (1 : Int32)) = (0 : Int32))) :
    MetFree l x (head1 (Jvm.Cond.code x code maxLocals ret :: ws) room_1) (fun aa_ U_ => aa_ = #[(.int sel), (.int ra), (.int rb), (.int rc), (.int fl)] ∧ Z.Warmed39 U_.vm ∧ U_.heap = h0 ∧ CHv Z EL1 U_.vm h0) (fun _ _ _ _ _ => True) (fun _ U_ o_ V_ => ∃ v_ L_, o_ = .returned v_ ∧ Q0  h0 n0 v_ V_.heap L_ ∧ ReturnedEndW U_ o_ V_ L_ room_1.cells room_1.slots) := by
  refine MetFree.of_bodySF (plainFor_of_name pn_0) hisR ?_
  intro p e s m args below meth c s₁ Bd hml0 hP hK
  obtain ⟨rfl, hZ, hh, CH0⟩ := hP
  have hx := Bd.exec
  have hby := Bd.bytes
  have hml : c.maxLocals = 13 := hml0
  have hown : s.vm.findClass "com/example/trestle/trestle/ResourceKindIdPinLaw" = some m.cls := findClass_of_methodNamed Bd.named
  have hnm := (name_of_methodNamed Bd.named Bd.method).1
  have X0 : Stand p l e room_1 s m #[(.int sel), (.int ra), (.int rb), (.int rc), (.int fl)] below meth c s₁ [] 0 0 := Stand.of_body Bd
  have e0 : s₁.heap = h0 := by rw [← hh, Bd.state]; rfl
  have N0 := Fr.nil n0
  have pre0 : ∀ zz, Steps p.tables e below (s₁.setTop (mkF m 0 #[.val (.int sel), .val (.int ra), .val (.int rb), .val (.int rc), .val (.int fl), .unset, .unset, .unset, .unset, .unset, .unset, .unset, .unset] [])) zz → Steps p.tables e below (s₁.setTop (entryFrame m #[(.int sel), (.int ra), (.int rb), (.int rc), (.int fl)] maxLocals)) zz := fun zz kz_ => castTop (ef_0 m sel ra rb rc fl) kz_
  have hwS : ∀ a ∈ Bundle.stringAtoms, a.before a0 Z = true := fun d hd => hw d (by simpa using (List.all_eq_true.mp (by decide +kernel : (Bundle.stringAtoms.all fun c => tables_1.contains c) = true)) d hd)
  obtain ⟨_, _, ⟨T187, L187, k187, n187⟩, -, X187, ⟨Lc187, hQ187, l187, y187, z187⟩, st187⟩ := Jvm.LawKit.callS X0 hx (y := (⟨"com/example/trestle/trestle/ResourceKindIdPinLaw", "kindOf", "(I)Lcom/example/trestle/trestle/ResourceKind;"⟩ : MethodName)) hown (mvT hZ (hw _ (List.mem_of_getElem? (i := 1) rfl))) (mvT hZ (hw _ (List.mem_of_getElem? (i := 2) rfl))) (mvT hZ (hw _ (List.mem_of_getElem? (i := 3) rfl))) (mvT hZ (hw _ (List.mem_of_getElem? (i := 4) rfl))) (by decide) (backOf (W := 0) (rmK2 l Z a0 hw [] kd h0 n0 Z0 O hst) hZ (hw _ (List.mem_of_getElem? (i := 4) rfl)) (hw _ (List.mem_of_getElem? (i := 3) rfl)) (by decide) (by decide)) (g := (mkF m 35 #[.val (.int sel), .val (.int ra), .val (.int rb), .val (.int rc), .val (.int fl), .val (.int (2 : Int32)), .val (.int (c8 ra)), .val (.int (c8 rb)), .val (.int (c8 rc)), .unset, .unset, .unset, .unset] [(.int (2 : Int32))])) rfl (by rw [hml]; rfl) (argsL := [(.int (2 : Int32))]) (rest := []) (lenOf pd_0 rfl) rfl (by show 2 * 0 + _ ≤ _; exact Nat.le_of_eq rfl) (hb hby at_35) (fun _ _ => ⟨rfl, e0, (by decide : 0 + 0 ≤ _), (by decide : 0 + 0 ≤ _)⟩)
  dsimp only [Pt.U, Pt.locs, Pt.cells, Pt.slots] at X187 l187 y187 z187 st187 hQ187
  subst l187 y187 z187
  obtain ⟨rfl, N187q, e187⟩ := hQ187
  have N187 := Fr.app N0 N187q
  obtain ⟨_, _, ⟨T188, L188, k188, n188⟩, -, X188, hS2188, hg188, ⟨Lc188, hQ188, l188, y188, z188, C188⟩, st188⟩ := callSS X187 hx (y := (⟨"com/example/trestle/trestle/ResourceKindIdPinLaw", "suffixOf", "(I)Ljava/lang/String;"⟩ : MethodName)) hown (mvT hZ (hw _ (List.mem_of_getElem? (i := 114) rfl))) (mvT hZ (hw _ (List.mem_of_getElem? (i := 115) rfl))) (mvT hZ (hw _ (List.mem_of_getElem? (i := 3) rfl))) (mvT hZ (hw _ (List.mem_of_getElem? (i := 116) rfl))) (by decide) (backOfSH (s := s) (vm0 := s.vm) (EL := EL1) (W := 1) (rmSX2 l Z a0 hw []  h0 n0 Z0 hEL) hZ (hw _ (List.mem_of_getElem? (i := 116) rfl)) (hw _ (List.mem_of_getElem? (i := 3) rfl)) (by decide) (by decide) hEL CH0) (g := (mkF m 51 #[.val (.int sel), .val (.int ra), .val (.int rb), .val (.int rc), .val (.int fl), .val (.int (2 : Int32)), .val (.int (c8 ra)), .val (.int (c8 rb)), .val (.int (c8 rc)), .val (.ref kd), .unset, .unset, .unset] [(.int (2 : Int32)), (.ref kd)])) rfl (by rw [hml]; rfl) (argsL := [(.int (2 : Int32))]) (rest := [(.ref kd)]) (lenOf pd_23 rfl) rfl (by show 2 * 0 + _ ≤ _; exact Nat.le_of_eq rfl) (hb hby at_51) (fun _ _ => ⟨rfl, e187, (by decide : 0 + 2 ≤ _), (by decide : 0 + 60 ≤ _)⟩)
  dsimp only [Pt.U, Pt.locs, Pt.cells, Pt.slots] at X188 l188 y188 z188 st188 hQ188 hS2188 hg188
  subst l188 y188 z188
  obtain ⟨o188, rfl, N188q, K188, S188⟩ := hQ188
  have N188 := Fr.app N187 N188q
  dsimp only [Pt.U, Pt.locs, Pt.cells, Pt.slots] at C188
  have CR188 := (CHr.refl CH0).trans C188
  have hS188 := foldS ((State.WarmedH.refl s).since 0) (by rw [e187]; exact (Nat.zero_le _)) hS2188 hg188
  have hZ188 : Z.Warmed39 (s.setVm T188.vm).vm := State.Warmed39.trans hZ hS2188.1
  have hown188 : (s.setVm T188.vm).vm.findClass "com/example/trestle/trestle/ResourceKindIdPinLaw" = some m.cls := by rw [show (s.setVm T188.vm).vm = T188.vm from rfl, hS2188.1.alike.findClass]; exact hown
  have KK188 := (Keep.refl h0 []).trans K188 (fun x r => absurd r List.not_mem_nil)
  have Z188 : n0 ≤ T188.heap.size := Nat.le_trans Z0 K188.1
  have O188 := O.keep K188 all0'
  have EKo188 := KDm.1.ext O188.2
  obtain ⟨cq189, kq189, q189a, q189b, q189c⟩ := isOf hZ188 rfl EKo188
  obtain ⟨_, _, ⟨T189, L189, k189, n189⟩, -, X189, hS2189, hg189, ⟨Lc189, hQ189, l189, y189, z189, C189⟩, st189⟩ := X188.virtualBackS hx (y := (⟨"com/example/trestle/trestle/ResourceKind", "id", "(Ljava/lang/String;)Ljava/lang/String;"⟩ : MethodName)) (z := (⟨"com/example/trestle/trestle/ResourceKind", "id", "(Ljava/lang/String;)Ljava/lang/String;"⟩ : MethodName)) hown188 (mvT hZ188 (hw _ (List.mem_of_getElem? (i := 41) rfl))) (mvT hZ188 (hw _ (List.mem_of_getElem? (i := 42) rfl))) (notFace_of_selects (args := #[]) (mvT hZ188 (hw _ (List.mem_of_getElem? (i := 44) rfl)))) (mvT hZ188 (hw _ (List.mem_of_getElem? (i := 44) rfl))) (mvT hZ188 (hw _ (List.mem_of_getElem? (i := 43) rfl))) (by decide) (backOfSH (s := s) (vm0 := T188.vm) (EL := EL1) (W := 0) (rmID0 l Z a0 hw [] kd o188 3 sw2 T188.heap n0 Z188 (by decide) O188 SK S188 (by decide) KDm hEL) hZ188 (hw _ (List.mem_of_getElem? (i := 45) rfl)) (hw _ (List.mem_of_getElem? (i := 6) rfl)) (by decide) (by decide) hEL C188.1) q189a q189c (g := (mkF m 54 #[.val (.int sel), .val (.int ra), .val (.int rb), .val (.int rc), .val (.int fl), .val (.int (2 : Int32)), .val (.int (c8 ra)), .val (.int (c8 rb)), .val (.int (c8 rc)), .val (.ref kd), .unset, .unset, .unset] [(.ref o188), (.ref kd)])) rfl (by rw [hml]; rfl) (Steps.refl _) (argsL := [(.ref o188)]) (rest := []) (lenOf pd_8 rfl) rfl (by show 2 * 0 + _ ≤ _; exact Nat.le_of_eq rfl) (hb hby at_54) (fun _ _ => ⟨rfl, rfl, (by decide : 2 + 2 ≤ _), (by decide : 60 + 4 ≤ _)⟩)
  dsimp only [Pt.U, Pt.locs, Pt.cells, Pt.slots] at X189 l189 y189 z189 st189 hQ189 hS2189 hg189 C189
  subst l189 y189 z189
  obtain ⟨o189, rfl, N189q, K189, S189⟩ := hQ189
  have N189 := Fr.app N188 N189q
  have CR189 := CR188.trans C189
  have hS189 := foldS hS188 (by exact (Nat.le_refl _)) hS2189 hg189
  have hZ189 : Z.Warmed39 (s.setVm T189.vm).vm := State.Warmed39.trans hZ188 hS2189.1
  have hown189 : (s.setVm T189.vm).vm.findClass "com/example/trestle/trestle/ResourceKindIdPinLaw" = some m.cls := by rw [show (s.setVm T189.vm).vm = T189.vm from rfl, hS2189.1.alike.findClass]; exact hown188
  have KK189 := KK188.trans K189 (fun x r => absurd r List.not_mem_nil)
  have Z189 : n0 ≤ T189.heap.size := Nat.le_trans Z188 K189.1
  have O189 := O188.keep K189 all0'
  obtain ⟨a190, T190, h190, k190, v190, kk190, X190, e190, E190, hS190, hk190, hZ190, hown190, Ex190, Fc190, Fv190, Av190, la190, lb190, C190, Lt190, Sn190, st190⟩ := ldcCH (s := s) (vm0 := T189.vm) (EL := EL1) X189 hx hZ189 hown189 (hw _ (List.mem_of_getElem? (i := 121) rfl)) hwS rfl hS189 (Nat.le_refl _) hEL (by decide) C189.1 (vs := []) (z := (0 : Int32)) (by decide) (by decide) (by decide) (g := (mkF m 59 #[.val (.int sel), .val (.int ra), .val (.int rb), .val (.int rc), .val (.int fl), .val (.int (2 : Int32)), .val (.int (c8 ra)), .val (.int (c8 rb)), .val (.int (c8 rc)), .val (.ref kd), .val (.ref o189), .unset, .unset] [])) rfl (hb hby at_59) (n := 0) (by decide) (by decide) (by decide) (by decide)
  have O190 := O189.ext E190
  have K190 := KK189.ext E190
  have Z190 : n0 ≤ h190.size := Nat.le_trans Z189 E190.1
  have CR190 := CR189.trans C190
  have SB190 := S189.ext E190
  obtain ⟨cq191, kq191, q191a, q191b, q191c⟩ := isOf hZ190 e190 Ex190
  obtain ⟨_, _, ⟨T191, L191, k191, n191⟩, -, X191, ⟨Lc191, hQ191, l191, y191, z191⟩, st191⟩ := X190.virtualBack hx (y := (⟨"java/lang/String", "equals", "(Ljava/lang/Object;)Z"⟩ : MethodName)) (z := (⟨"java/lang/String", "equals", "(Ljava/lang/Object;)Z"⟩ : MethodName)) hown190 (mvT hZ190 (hw _ (List.mem_of_getElem? (i := 103) rfl))) (mvT hZ190 (hw _ (List.mem_of_getElem? (i := 104) rfl))) (notFace_of_selects (args := #[]) (mvT hZ190 (hw _ (List.mem_of_getElem? (i := 106) rfl)))) (mvT hZ190 (hw _ (List.mem_of_getElem? (i := 106) rfl))) (mvT hZ190 (hw _ (List.mem_of_getElem? (i := 105) rfl))) (by decide) (backOf (W := 0) (rmEQ l Z a0 hw [] a190 o189 0 (fun _ => 0) h190 n0 Z190 (by decide) O190 SK ⟨Ex190, v190, Fv190, Fc190, AF.empty Av190 rfl _⟩ (SB190.congr fun j hj => absurd hj (Nat.not_lt_zero _))) hZ190 (hw _ (List.mem_of_getElem? (i := 107) rfl)) (hw _ (List.mem_of_getElem? (i := 13) rfl)) (by decide) (by decide)) q191a q191c (g := (mkF m 63 #[.val (.int sel), .val (.int ra), .val (.int rb), .val (.int rc), .val (.int fl), .val (.int (2 : Int32)), .val (.int (c8 ra)), .val (.int (c8 rb)), .val (.int (c8 rc)), .val (.ref kd), .val (.ref o189), .unset, .unset] [(.ref o189), (.ref a190)])) rfl (by rw [hml]; rfl) (Steps.refl _) (argsL := [(.ref o189)]) (rest := []) (lenOf pd_21 rfl) rfl (by show 2 * 0 + _ ≤ _; exact Nat.le_of_eq rfl) (hb hby at_63) (fun _ _ => ⟨rfl, e190, (by decide : 6 + 0 ≤ _), (by decide : 68 + 0 ≤ _)⟩)
  dsimp only [Pt.U, Pt.locs, Pt.cells, Pt.slots] at X191 l191 y191 z191 st191 hQ191
  subst l191 y191 z191
  obtain ⟨rfl, N191q, e191⟩ := hQ191
  have N191 := Fr.app N189 N191q
  obtain ⟨fs, hr, hrun, hended, -, hWW, hBB, hSS⟩ := Stand.leaveW (s := s) (vm₁ := T190.vm) X191 hS190 (by rw [e191]; exact hk190) (v := some (.int (1 : Int32))) (fun h => by rw [Bd.returns] at h; cases h)
  refine ⟨_, _, pre0 _ ?_, hrun, hended, _, _, rfl, ?_, ⟨_, rfl⟩, hWW, hBB, hSS.mono (by decide) (by decide)⟩
  · show Steps p.tables e below (s₁.setTop (mkF m 0 #[.val (.int sel), .val (.int ra), .val (.int rb), .val (.int rc), .val (.int fl), .unset, .unset, .unset, .unset, .unset, .unset, .unset, .unset] [])) _
    refine XS.iloadN X0.here hx rfl (hb hby at_0) rfl ?_
    refine X0.ldcInt hx hown (mvT hZ (hw _ (List.mem_of_getElem? (i := 0) rfl))) (g := (mkF m 1 #[.val (.int sel), .val (.int ra), .val (.int rb), .val (.int rc), .val (.int fl), .unset, .unset, .unset, .unset, .unset, .unset, .unset, .unset] [(.int sel)])) rfl (hb hby at_1) _ ?_
    refine XS.iand X0.here hx rfl (hb hby at_3) rfl ?_
    refine XS.bipush X0.here hx rfl (hb hby at_4) ?_
    refine gwIrem X0.here hx rfl (hb hby at_6) rfl (by decide) ?_
    show Steps p.tables e below (s₁.setTop (mkF m 7 #[.val (.int sel), .val (.int ra), .val (.int rb), .val (.int rc), .val (.int fl), .unset, .unset, .unset, .unset, .unset, .unset, .unset, .unset] [(.int (kF sel))])) _
    refine XS.istore X0.here hx rfl (hb hby at_7) rfl (l' := #[.val (.int sel), .val (.int ra), .val (.int rb), .val (.int rc), .val (.int fl), .val (.int (kF sel)), .unset, .unset, .unset, .unset, .unset, .unset, .unset]) rfl ?_
    refine XS.iloadN X0.here hx rfl (hb hby at_9) rfl ?_
    refine XS.sipush X0.here hx rfl (hb hby at_10) ?_
    refine XS.iand X0.here hx rfl (hb hby at_13) rfl ?_
    refine XS.i2c X0.here hx rfl (hb hby at_14) rfl ?_
    show Steps p.tables e below (s₁.setTop (mkF m 15 #[.val (.int sel), .val (.int ra), .val (.int rb), .val (.int rc), .val (.int fl), .val (.int (kF sel)), .unset, .unset, .unset, .unset, .unset, .unset, .unset] [(.int (c8 ra))])) _
    refine XS.istore X0.here hx rfl (hb hby at_15) rfl (l' := #[.val (.int sel), .val (.int ra), .val (.int rb), .val (.int rc), .val (.int fl), .val (.int (kF sel)), .val (.int (c8 ra)), .unset, .unset, .unset, .unset, .unset, .unset]) rfl ?_
    refine XS.iloadN X0.here hx rfl (hb hby at_17) rfl ?_
    refine XS.sipush X0.here hx rfl (hb hby at_18) ?_
    refine XS.iand X0.here hx rfl (hb hby at_21) rfl ?_
    refine XS.i2c X0.here hx rfl (hb hby at_22) rfl ?_
    show Steps p.tables e below (s₁.setTop (mkF m 23 #[.val (.int sel), .val (.int ra), .val (.int rb), .val (.int rc), .val (.int fl), .val (.int (kF sel)), .val (.int (c8 ra)), .unset, .unset, .unset, .unset, .unset, .unset] [(.int (c8 rb))])) _
    refine XS.istore X0.here hx rfl (hb hby at_23) rfl (l' := #[.val (.int sel), .val (.int ra), .val (.int rb), .val (.int rc), .val (.int fl), .val (.int (kF sel)), .val (.int (c8 ra)), .val (.int (c8 rb)), .unset, .unset, .unset, .unset, .unset]) rfl ?_
    refine XS.iloadN X0.here hx rfl (hb hby at_25) rfl ?_
    refine XS.sipush X0.here hx rfl (hb hby at_26) ?_
    refine XS.iand X0.here hx rfl (hb hby at_29) rfl ?_
    refine XS.i2c X0.here hx rfl (hb hby at_30) rfl ?_
    show Steps p.tables e below (s₁.setTop (mkF m 31 #[.val (.int sel), .val (.int ra), .val (.int rb), .val (.int rc), .val (.int fl), .val (.int (kF sel)), .val (.int (c8 ra)), .val (.int (c8 rb)), .unset, .unset, .unset, .unset, .unset] [(.int (c8 rc))])) _
    refine XS.istore X0.here hx rfl (hb hby at_31) rfl (l' := #[.val (.int sel), .val (.int ra), .val (.int rb), .val (.int rc), .val (.int fl), .val (.int (kF sel)), .val (.int (c8 ra)), .val (.int (c8 rb)), .val (.int (c8 rc)), .unset, .unset, .unset, .unset]) rfl ?_
    refine XS.iload X0.here hx rfl (hb hby at_33) rfl ?_
    show Steps p.tables e below (s₁.setTop (mkF m 35 #[.val (.int sel), .val (.int ra), .val (.int rb), .val (.int rc), .val (.int fl), .val (.int (kF sel)), .val (.int (c8 ra)), .val (.int (c8 rb)), .val (.int (c8 rc)), .unset, .unset, .unset, .unset] [(.int (kF sel))])) _
    rw [show (kF sel) = (2 : Int32) from hk]
    show Steps p.tables e below (s₁.setTop (mkF m 35 #[.val (.int sel), .val (.int ra), .val (.int rb), .val (.int rc), .val (.int fl), .val (.int (2 : Int32)), .val (.int (c8 ra)), .val (.int (c8 rb)), .val (.int (c8 rc)), .unset, .unset, .unset, .unset] [(.int (2 : Int32))])) _
    refine st187 _ ?_
    refine XS.astore X187.here hx rfl (hb hby at_38) rfl rfl (l' := #[.val (.int sel), .val (.int ra), .val (.int rb), .val (.int rc), .val (.int fl), .val (.int (2 : Int32)), .val (.int (c8 ra)), .val (.int (c8 rb)), .val (.int (c8 rc)), .val (.ref kd), .unset, .unset, .unset]) rfl ?_
    refine XS.iload X187.here hx rfl (hb hby at_40) rfl ?_
    refine XS.iconst X187.here hx rfl (hb hby at_42) ?_
    refine XS.iand X187.here hx rfl (hb hby at_43) rfl ?_
    refine XS.ifNo X187.here hx rfl (hb hby at_44) rfl ((if0 _ _).trans (feq hc44).1) ?_
    show Steps p.tables e below (T187.setTop (mkF m 47 #[.val (.int sel), .val (.int ra), .val (.int rb), .val (.int rc), .val (.int fl), .val (.int (2 : Int32)), .val (.int (c8 ra)), .val (.int (c8 rb)), .val (.int (c8 rc)), .val (.ref kd), .unset, .unset, .unset] [])) _
    refine XS.aload X187.here hx rfl (hb hby at_47) rfl rfl ?_
    refine XS.iload X187.here hx rfl (hb hby at_49) rfl ?_
    show Steps p.tables e below (T187.setTop (mkF m 51 #[.val (.int sel), .val (.int ra), .val (.int rb), .val (.int rc), .val (.int fl), .val (.int (2 : Int32)), .val (.int (c8 ra)), .val (.int (c8 rb)), .val (.int (c8 rc)), .val (.ref kd), .unset, .unset, .unset] [(.int (2 : Int32)), (.ref kd)])) _
    refine st188.trans ?_
    show Steps p.tables e below (T188.setTop (mkF m 54 #[.val (.int sel), .val (.int ra), .val (.int rb), .val (.int rc), .val (.int fl), .val (.int (2 : Int32)), .val (.int (c8 ra)), .val (.int (c8 rb)), .val (.int (c8 rc)), .val (.ref kd), .unset, .unset, .unset] [(.ref o188), (.ref kd)])) _
    refine st189.trans ?_
    refine XS.astore X189.here hx rfl (hb hby at_57) rfl rfl (l' := #[.val (.int sel), .val (.int ra), .val (.int rb), .val (.int rc), .val (.int fl), .val (.int (2 : Int32)), .val (.int (c8 ra)), .val (.int (c8 rb)), .val (.int (c8 rc)), .val (.ref kd), .val (.ref o189), .unset, .unset]) rfl ?_
    show Steps p.tables e below (T189.setTop (mkF m 59 #[.val (.int sel), .val (.int ra), .val (.int rb), .val (.int rc), .val (.int fl), .val (.int (2 : Int32)), .val (.int (c8 ra)), .val (.int (c8 rb)), .val (.int (c8 rc)), .val (.ref kd), .val (.ref o189), .unset, .unset] [])) _
    refine st190 _ ?_
    refine XS.aload X190.here hx rfl (hb hby at_61) rfl rfl ?_
    show Steps p.tables e below (T190.setTop (mkF m 63 #[.val (.int sel), .val (.int ra), .val (.int rb), .val (.int rc), .val (.int fl), .val (.int (2 : Int32)), .val (.int (c8 ra)), .val (.int (c8 rb)), .val (.int (c8 rc)), .val (.ref kd), .val (.ref o189), .unset, .unset] [(.ref o189), (.ref a190)])) _
    refine st191.trans ?_
    show Steps p.tables e below (T191.setTop (mkF m 66 #[.val (.int sel), .val (.int ra), .val (.int rb), .val (.int rc), .val (.int fl), .val (.int (2 : Int32)), .val (.int (c8 ra)), .val (.int (c8 rb)), .val (.int (c8 rc)), .val (.ref kd), .val (.ref o189), .unset, .unset] [(.int (1 : Int32))])) _
    exact retN X191 hx (t := .boolean) Bd.returns (by simp) (hb hby at_66) hr
  · show Q0  h0 n0 _ T191.heap _
    exact ⟨rfl, N191⟩
set_option maxRecDepth 65536 in
set_option maxHeartbeats 40000000 in
theorem rm0_30 (l : Launch) (Z : State) (a0 : Array Value) (hw : ∀ d ∈ tables_1, d.before a0 Z = true) (ws : List Jvm.Cond) (sel : Int32) (ra : Int32) (rb : Int32) (rc : Int32) (fl : Int32) (kd : Addr) (h0 : Heap) (n0 : Nat) (Z0 : n0 ≤ h0.size) (hk : kF sel = (3 : Int32)) (hst : Sta Z Z.heap "com/example/trestle/trestle/ResourceKind" "XSLT" "Lcom/example/trestle/trestle/ResourceKind;" (.ref kd)) (KDm : KD Z kd 4) (O : Old Z n0 h0) (SK : StrSta Z) (hEL : EW Z a0 EL1) (hc44 : (fl &&& (1 : Int32)) = (0 : Int32)) :
    MetFree l x (head1 (Jvm.Cond.code x code maxLocals ret :: ws) room_1) (fun aa_ U_ => aa_ = #[(.int sel), (.int ra), (.int rb), (.int rc), (.int fl)] ∧ Z.Warmed39 U_.vm ∧ U_.heap = h0 ∧ CHv Z EL1 U_.vm h0) (fun _ _ _ _ _ => True) (fun _ U_ o_ V_ => ∃ v_ L_, o_ = .returned v_ ∧ Q0  h0 n0 v_ V_.heap L_ ∧ ReturnedEndW U_ o_ V_ L_ room_1.cells room_1.slots) := by
  refine MetFree.of_bodySF (plainFor_of_name pn_0) hisR ?_
  intro p e s m args below meth c s₁ Bd hml0 hP hK
  obtain ⟨rfl, hZ, hh, CH0⟩ := hP
  have hx := Bd.exec
  have hby := Bd.bytes
  have hml : c.maxLocals = 13 := hml0
  have hown : s.vm.findClass "com/example/trestle/trestle/ResourceKindIdPinLaw" = some m.cls := findClass_of_methodNamed Bd.named
  have hnm := (name_of_methodNamed Bd.named Bd.method).1
  have X0 : Stand p l e room_1 s m #[(.int sel), (.int ra), (.int rb), (.int rc), (.int fl)] below meth c s₁ [] 0 0 := Stand.of_body Bd
  have e0 : s₁.heap = h0 := by rw [← hh, Bd.state]; rfl
  have N0 := Fr.nil n0
  have pre0 : ∀ zz, Steps p.tables e below (s₁.setTop (mkF m 0 #[.val (.int sel), .val (.int ra), .val (.int rb), .val (.int rc), .val (.int fl), .unset, .unset, .unset, .unset, .unset, .unset, .unset, .unset] [])) zz → Steps p.tables e below (s₁.setTop (entryFrame m #[(.int sel), (.int ra), (.int rb), (.int rc), (.int fl)] maxLocals)) zz := fun zz kz_ => castTop (ef_0 m sel ra rb rc fl) kz_
  have hwS : ∀ a ∈ Bundle.stringAtoms, a.before a0 Z = true := fun d hd => hw d (by simpa using (List.all_eq_true.mp (by decide +kernel : (Bundle.stringAtoms.all fun c => tables_1.contains c) = true)) d hd)
  obtain ⟨_, _, ⟨T192, L192, k192, n192⟩, -, X192, ⟨Lc192, hQ192, l192, y192, z192⟩, st192⟩ := Jvm.LawKit.callS X0 hx (y := (⟨"com/example/trestle/trestle/ResourceKindIdPinLaw", "kindOf", "(I)Lcom/example/trestle/trestle/ResourceKind;"⟩ : MethodName)) hown (mvT hZ (hw _ (List.mem_of_getElem? (i := 1) rfl))) (mvT hZ (hw _ (List.mem_of_getElem? (i := 2) rfl))) (mvT hZ (hw _ (List.mem_of_getElem? (i := 3) rfl))) (mvT hZ (hw _ (List.mem_of_getElem? (i := 4) rfl))) (by decide) (backOf (W := 0) (rmK3 l Z a0 hw [] kd h0 n0 Z0 O hst) hZ (hw _ (List.mem_of_getElem? (i := 4) rfl)) (hw _ (List.mem_of_getElem? (i := 3) rfl)) (by decide) (by decide)) (g := (mkF m 35 #[.val (.int sel), .val (.int ra), .val (.int rb), .val (.int rc), .val (.int fl), .val (.int (3 : Int32)), .val (.int (c8 ra)), .val (.int (c8 rb)), .val (.int (c8 rc)), .unset, .unset, .unset, .unset] [(.int (3 : Int32))])) rfl (by rw [hml]; rfl) (argsL := [(.int (3 : Int32))]) (rest := []) (lenOf pd_0 rfl) rfl (by show 2 * 0 + _ ≤ _; exact Nat.le_of_eq rfl) (hb hby at_35) (fun _ _ => ⟨rfl, e0, (by decide : 0 + 0 ≤ _), (by decide : 0 + 0 ≤ _)⟩)
  dsimp only [Pt.U, Pt.locs, Pt.cells, Pt.slots] at X192 l192 y192 z192 st192 hQ192
  subst l192 y192 z192
  obtain ⟨rfl, N192q, e192⟩ := hQ192
  have N192 := Fr.app N0 N192q
  obtain ⟨_, _, ⟨T193, L193, k193, n193⟩, -, X193, ⟨Lc193, hQ193, l193, y193, z193⟩, st193⟩ := Jvm.LawKit.callS X192 hx (y := (⟨"com/example/trestle/trestle/ResourceKindIdPinLaw", "withPrefix", "(ICCC)Ljava/lang/String;"⟩ : MethodName)) hown (mvT hZ (hw _ (List.mem_of_getElem? (i := 8) rfl))) (mvT hZ (hw _ (List.mem_of_getElem? (i := 9) rfl))) (mvT hZ (hw _ (List.mem_of_getElem? (i := 3) rfl))) (mvT hZ (hw _ (List.mem_of_getElem? (i := 10) rfl))) (by decide) (backOf (W := 0) (rmW3 l Z a0 hw [] (c8 ra) (c8 rb) (c8 rc) h0 n0 Z0 O SK (c8_B _) (c8_B _) (c8_B _)) hZ (hw _ (List.mem_of_getElem? (i := 10) rfl)) (hw _ (List.mem_of_getElem? (i := 3) rfl)) (by decide) (by decide)) (g := (mkF m 75 #[.val (.int sel), .val (.int ra), .val (.int rb), .val (.int rc), .val (.int fl), .val (.int (3 : Int32)), .val (.int (c8 ra)), .val (.int (c8 rb)), .val (.int (c8 rc)), .val (.ref kd), .unset, .unset, .unset] [(.int (c8 rc)), (.int (c8 rb)), (.int (c8 ra)), (.int (3 : Int32))])) rfl (by rw [hml]; rfl) (argsL := [(.int (3 : Int32)), (.int (c8 ra)), (.int (c8 rb)), (.int (c8 rc))]) (rest := []) (lenOf pd_1 rfl) rfl (by show 2 * 0 + _ ≤ _; exact Nat.le_of_eq rfl) (hb hby at_75) (fun _ _ => ⟨rfl, e192, (by decide : 0 + 4 ≤ _), (by decide : 0 + 100 ≤ _)⟩)
  dsimp only [Pt.U, Pt.locs, Pt.cells, Pt.slots] at X193 l193 y193 z193 st193 hQ193
  subst l193 y193 z193
  obtain ⟨o193, rfl, N193q, K193, S193⟩ := hQ193
  have N193 := Fr.app N192 N193q
  have KK193 := (Keep.refl h0 []).trans K193 (fun x r => absurd r List.not_mem_nil)
  have Z193 : n0 ≤ T193.heap.size := Nat.le_trans Z0 K193.1
  have O193 := O.keep K193 all0'
  obtain ⟨EO193, d193, FV193, FC193, FB193⟩ := S193
  obtain ⟨T194, h194, X194, e194, E194, A194, D194, -, st194⟩ := newO X193 hx hZ hown (hw _ (List.mem_of_getElem? (i := 11) rfl)) (hw _ (List.mem_of_getElem? (i := 12) rfl)) (hw _ (List.mem_of_getElem? (i := 13) rfl)) rfl (g := (mkF m 80 #[.val (.int sel), .val (.int ra), .val (.int rb), .val (.int rc), .val (.int fl), .val (.int (3 : Int32)), .val (.int (c8 ra)), .val (.int (c8 rb)), .val (.int (c8 rc)), .val (.ref kd), .val (.ref o193), .unset, .unset] [])) rfl (hb hby at_80) (by decide) (by decide)
  obtain ⟨b194, g194⟩ : ∃ z, z = T193.heap.size := ⟨_, rfl⟩
  rw [← g194] at A194 D194 st194
  have ne_o193_b194 : o193 ≠ b194 := Nat.ne_of_lt (Nat.lt_of_lt_of_le EO193.lt (Nat.le_of_eq g194.symm))
  have ne_d193_b194 : d193 ≠ b194 := Nat.ne_of_lt (Nat.lt_of_lt_of_le FB193.lt (Nat.le_of_eq g194.symm))
  have EO193_e194 := EO193.ext E194
  have FV193_e194 := FV193.ext E194
  have FC193_e194 := FC193.ext E194
  have FB193_e194 := FB193.ext E194
  have E_b194 := A194
  have g_b194 : n0 ≤ b194 := Nat.le_trans Z193 (Nat.le_of_eq g194.symm)
  have sz_b194 : h0.size ≤ b194 := Nat.le_trans KK193.1 (Nat.le_of_eq g194.symm)
  have K194 := KK193.ext E194
  have Z194 : n0 ≤ h194.size := Nat.le_trans Z193 E194.1
  have F_coder_b194 : Fld Z h194 b194 "java/lang/String" "coder" "B" (.int (0 : Int32)) := D194 (Or.inr (hw _ (List.mem_of_getElem? (i := 38) rfl))) (ty := .byte) (by decide)
  have F_value_b194 : Fld Z h194 b194 "java/lang/String" "value" "[B" .null := D194 (Or.inr (hw _ (List.mem_of_getElem? (i := 40) rfl))) (ty := (.array .byte)) (by decide)
  have O194 := O193.ext E194
  obtain ⟨T195, h195, X195, e195, E195, A195, st195⟩ := nwA X194 hx hZ (hw _ (List.mem_of_getElem? (i := 14) rfl)) e194 (g := (mkF m 85 #[.val (.int sel), .val (.int ra), .val (.int rb), .val (.int rc), .val (.int fl), .val (.int (3 : Int32)), .val (.int (c8 ra)), .val (.int (c8 rb)), .val (.int (c8 rc)), .val (.ref kd), .val (.ref o193), .unset, .unset] [(.int (3 : Int32)), (.ref b194), (.ref b194)])) rfl (hb hby at_85) (n := 3) rfl (cap := 3) (by decide) (by decide) (by decide) (by decide)
  obtain ⟨b195, q195⟩ : ∃ z, z = h194.size := ⟨_, rfl⟩
  rw [← q195] at A195 st195
  have V195 : AF Z h195 b195 .char 3 (fun _ => (.int (0 : Int32))) := A195
  have g_b195 : n0 ≤ b195 := Nat.le_trans Z194 (Nat.le_of_eq q195.symm)
  have sz_b195 : h0.size ≤ b195 := Nat.le_trans K194.1 (Nat.le_of_eq q195.symm)
  have K195 := K194.ext E195
  have Z195 : n0 ≤ h195.size := Nat.le_trans Z194 E195.1
  have ne_b194_b195 : b194 ≠ b195 := Nat.ne_of_lt (Nat.lt_of_lt_of_le E_b194.lt (Nat.le_of_eq q195.symm))
  have ne_d193_b195 : d193 ≠ b195 := Nat.ne_of_lt (Nat.lt_of_lt_of_le FB193_e194.lt (Nat.le_of_eq q195.symm))
  have ne_o193_b195 : o193 ≠ b195 := Nat.ne_of_lt (Nat.lt_of_lt_of_le EO193_e194.lt (Nat.le_of_eq q195.symm))
  have EO193_e195 := EO193_e194.ext E195
  have FV193_e195 := FV193_e194.ext E195
  have FC193_e195 := FC193_e194.ext E195
  have FB193_e195 := FB193_e194.ext E195
  have E_b194_e195 := E_b194.ext E195
  have F_coder_b194_e195 := F_coder_b194.ext E195
  have F_value_b194_e195 := F_value_b194.ext E195
  have O195 := O194.ext E195
  obtain ⟨T196, h196, X196, e196, W196, st196⟩ := stCh X195 hx hZ e195 V195 (i := 0) (by decide) (by decide) (x := (c8 ra)) (g := (mkF m 91 #[.val (.int sel), .val (.int ra), .val (.int rb), .val (.int rc), .val (.int fl), .val (.int (3 : Int32)), .val (.int (c8 ra)), .val (.int (c8 rb)), .val (.int (c8 rc)), .val (.ref kd), .val (.ref o193), .unset, .unset] [(.int (c8 ra)), (.int (0 : Int32)), (.ref b195), (.ref b195), (.ref b194), (.ref b194)])) rfl rfl (hb hby at_91)
  have A196 := V195.wr W196
  have EO193_e196 := EO193_e195.wr W196
  have FV193_e196 := FV193_e195.other W196 (Or.inl ne_o193_b195)
  have FC193_e196 := FC193_e195.other W196 (Or.inl ne_o193_b195)
  have FB193_e196 := FB193_e195.other W196 ne_d193_b195
  have E_b194_e196 := E_b194_e195.wr W196
  have F_coder_b194_e196 := F_coder_b194_e195.other W196 (Or.inl ne_b194_b195)
  have F_value_b194_e196 := F_value_b194_e195.other W196 (Or.inl ne_b194_b195)
  have N196 := Fr.snoc X196 N193 g_b195
  have K196 := K195.wr W196 (Or.inr sz_b195)
  have Z196 : n0 ≤ h196.size := Nat.le_trans Z195 (Keep.of_wr W196).1
  have O196 := O195.wr W196 g_b195
  obtain ⟨T197, h197, X197, e197, W197, st197⟩ := stCh X196 hx hZ e196 A196 (i := 1) (by decide) (by decide) (x := (c8 rb)) (g := (mkF m 96 #[.val (.int sel), .val (.int ra), .val (.int rb), .val (.int rc), .val (.int fl), .val (.int (3 : Int32)), .val (.int (c8 ra)), .val (.int (c8 rb)), .val (.int (c8 rc)), .val (.ref kd), .val (.ref o193), .unset, .unset] [(.int (c8 rb)), (.int (1 : Int32)), (.ref b195), (.ref b195), (.ref b194), (.ref b194)])) rfl rfl (hb hby at_96)
  have A197 := A196.wr W197
  have EO193_e197 := EO193_e196.wr W197
  have FV193_e197 := FV193_e196.other W197 (Or.inl ne_o193_b195)
  have FC193_e197 := FC193_e196.other W197 (Or.inl ne_o193_b195)
  have FB193_e197 := FB193_e196.other W197 ne_d193_b195
  have E_b194_e197 := E_b194_e196.wr W197
  have F_coder_b194_e197 := F_coder_b194_e196.other W197 (Or.inl ne_b194_b195)
  have F_value_b194_e197 := F_value_b194_e196.other W197 (Or.inl ne_b194_b195)
  have N197 := Fr.snoc X197 N196 g_b195
  have K197 := K196.wr W197 (Or.inr sz_b195)
  have Z197 : n0 ≤ h197.size := Nat.le_trans Z196 (Keep.of_wr W197).1
  have O197 := O196.wr W197 g_b195
  obtain ⟨T198, h198, X198, e198, W198, st198⟩ := stCh X197 hx hZ e197 A197 (i := 2) (by decide) (by decide) (x := (c8 rc)) (g := (mkF m 101 #[.val (.int sel), .val (.int ra), .val (.int rb), .val (.int rc), .val (.int fl), .val (.int (3 : Int32)), .val (.int (c8 ra)), .val (.int (c8 rb)), .val (.int (c8 rc)), .val (.ref kd), .val (.ref o193), .unset, .unset] [(.int (c8 rc)), (.int (2 : Int32)), (.ref b195), (.ref b195), (.ref b194), (.ref b194)])) rfl rfl (hb hby at_101)
  have A198 := A197.wr W198
  have EO193_e198 := EO193_e197.wr W198
  have FV193_e198 := FV193_e197.other W198 (Or.inl ne_o193_b195)
  have FC193_e198 := FC193_e197.other W198 (Or.inl ne_o193_b195)
  have FB193_e198 := FB193_e197.other W198 ne_d193_b195
  have E_b194_e198 := E_b194_e197.wr W198
  have F_coder_b194_e198 := F_coder_b194_e197.other W198 (Or.inl ne_b194_b195)
  have F_value_b194_e198 := F_value_b194_e197.other W198 (Or.inl ne_b194_b195)
  have N198 := Fr.snoc X198 N197 g_b195
  have K198 := K197.wr W198 (Or.inr sz_b195)
  have Z198 : n0 ≤ h198.size := Nat.le_trans Z197 (Keep.of_wr W198).1
  have O198 := O197.wr W198 g_b195
  have hBb194 : ∀ j, isB (gl [(c8 ra), (c8 rb), (c8 rc)] j) := glB (List.forall_mem_cons.mpr ⟨(c8_B _), (List.forall_mem_cons.mpr ⟨(c8_B _), (List.forall_mem_cons.mpr ⟨(c8_B _), (fun _ q => absurd q List.not_mem_nil)⟩)⟩)⟩)
  obtain ⟨_, _, ⟨T199, L199, k199, n199⟩, -, X199, ⟨Lc199, hQ199, l199, y199, z199⟩, st199⟩ := X198.specialBack hx (y := (⟨"java/lang/String", "<init>", "([C)V"⟩ : MethodName)) rfl hown (mvT hZ (hw _ (List.mem_of_getElem? (i := 15) rfl))) (mvT hZ (hw _ (List.mem_of_getElem? (i := 16) rfl))) (mvT hZ (hw _ (List.mem_of_getElem? (i := 17) rfl))) (by decide) (backOf (W := 1) (rmI1 l Z a0 hw [] b194 b195 3 (gl [(c8 ra), (c8 rb), (c8 rc)]) h198 n0 Z198 (by decide) (by decide) O198 SK (A198.congr (updS (updS (updS upd0 (congrArg Value.int (nar_id (isCh_of (c8_B _))))) (congrArg Value.int (nar_id (isCh_of (c8_B _))))) (congrArg Value.int (nar_id (isCh_of (c8_B _)))))) (fun j _ => isCh_of (hBb194 j)) E_b194_e198 F_value_b194_e198 F_coder_b194_e198 g_b194 (Ne.symm ne_b194_b195) (fun j _ => notBig (hBb194 j))) hZ (hw _ (List.mem_of_getElem? (i := 17) rfl)) (hw _ (List.mem_of_getElem? (i := 13) rfl)) (by decide) (by decide)) (g := (mkF m 102 #[.val (.int sel), .val (.int ra), .val (.int rb), .val (.int rc), .val (.int fl), .val (.int (3 : Int32)), .val (.int (c8 ra)), .val (.int (c8 rb)), .val (.int (c8 rc)), .val (.ref kd), .val (.ref o193), .unset, .unset] [(.ref b195), (.ref b194), (.ref b194)])) rfl (by rw [hml]; rfl) (Steps.refl _) (a := b194) (argsL := [(.ref b195)]) (rest := [(.ref b194)]) (lenOf pd_2 rfl) rfl (by show 2 * 0 + _ ≤ _; exact Nat.le_of_eq rfl) (hb hby at_102) (fun _ _ => ⟨rfl, e198, (by decide : 6 + 2 ≤ _), (by decide : 107 + 60 ≤ _)⟩)
  dsimp only [Pt.U, Pt.locs, Pt.cells, Pt.slots] at X199 l199 y199 z199 st199 hQ199
  subst l199 y199 z199
  obtain ⟨rfl, N199q, K199, S199⟩ := hQ199
  have N199 := Fr.app N198 N199q
  have EO193_e199 := EO193_e198.keep K199
  have FV193_e199 := FV193_e198.keep K199 (notin1 ne_o193_b194)
  have FC193_e199 := FC193_e198.keep K199 (notin1 ne_o193_b194)
  have FB193_e199 := FB193_e198.keep K199 (notin1 ne_d193_b194)
  have E_b194_e199 := E_b194_e198.keep K199
  have KK199 := K198.trans K199 (fun x r => by cases List.mem_singleton.mp r; exact (Or.inr sz_b194))
  have Z199 : n0 ≤ T199.heap.size := Nat.le_trans Z198 K199.1
  have O199 := O198.keep K199 (all1 g_b194)
  have SW199 : StrV Z _ o193 7 (Lb (gl [(c8 ra), (c8 rb), (c8 rc), (46 : Int32), (120 : Int32), (115 : Int32), (108 : Int32)])) := ⟨EO193_e199, d193, FV193_e199, FC193_e199, FB193_e199⟩
  have EKo193 := KDm.1.ext O199.2
  obtain ⟨cq200, kq200, q200a, q200b, q200c⟩ := isOf hZ rfl EKo193
  obtain ⟨_, _, ⟨T200, L200, k200, n200⟩, -, X200, ⟨Lc200, hQ200, l200, y200, z200⟩, st200⟩ := X199.virtualBack hx (y := (⟨"com/example/trestle/trestle/ResourceKind", "id", "(Ljava/lang/String;)Ljava/lang/String;"⟩ : MethodName)) (z := (⟨"com/example/trestle/trestle/ResourceKind", "id", "(Ljava/lang/String;)Ljava/lang/String;"⟩ : MethodName)) hown (mvT hZ (hw _ (List.mem_of_getElem? (i := 41) rfl))) (mvT hZ (hw _ (List.mem_of_getElem? (i := 42) rfl))) (notFace_of_selects (args := #[]) (mvT hZ (hw _ (List.mem_of_getElem? (i := 44) rfl)))) (mvT hZ (hw _ (List.mem_of_getElem? (i := 44) rfl))) (mvT hZ (hw _ (List.mem_of_getElem? (i := 43) rfl))) (by decide) (backOf (W := 0) (rmID l Z a0 hw [] kd o193 7 4 (Lb (gl [(c8 ra), (c8 rb), (c8 rc), (46 : Int32), (120 : Int32), (115 : Int32), (108 : Int32)])) T199.heap n0 Z199 (by decide) O199 SK SW199 (by decide) (by decide) KDm (fitsLb _ _)) hZ (hw _ (List.mem_of_getElem? (i := 45) rfl)) (hw _ (List.mem_of_getElem? (i := 6) rfl)) (by decide) (by decide)) q200a q200c (g := (mkF m 111 #[.val (.int sel), .val (.int ra), .val (.int rb), .val (.int rc), .val (.int fl), .val (.int (3 : Int32)), .val (.int (c8 ra)), .val (.int (c8 rb)), .val (.int (c8 rc)), .val (.ref kd), .val (.ref o193), .val (.ref b194), .unset] [(.ref o193), (.ref kd)])) rfl (by rw [hml]; rfl) (Steps.refl _) (argsL := [(.ref o193)]) (rest := []) (lenOf pd_8 rfl) rfl (by show 2 * 0 + _ ≤ _; exact Nat.le_of_eq rfl) (hb hby at_111) (fun _ _ => ⟨rfl, rfl, (by decide : 8 + 2 ≤ _), (by decide : 167 + 24 ≤ _)⟩)
  dsimp only [Pt.U, Pt.locs, Pt.cells, Pt.slots] at X200 l200 y200 z200 st200 hQ200
  subst l200 y200 z200
  obtain ⟨o200, rfl, N200q, K200, S200⟩ := hQ200
  have N200 := Fr.app N199 N200q
  have KK200 := KK199.trans K200 (fun x r => absurd r List.not_mem_nil)
  have Z200 : n0 ≤ T200.heap.size := Nat.le_trans Z199 K200.1
  have O200 := O199.keep K200 all0'
  have SB200 := S199.keep K200
  obtain ⟨cq201, kq201, q201a, q201b, q201c⟩ := isOf hZ rfl SB200.1
  obtain ⟨_, _, ⟨T201, L201, k201, n201⟩, -, X201, ⟨Lc201, hQ201, l201, y201, z201⟩, st201⟩ := X200.virtualBack hx (y := (⟨"java/lang/String", "equals", "(Ljava/lang/Object;)Z"⟩ : MethodName)) (z := (⟨"java/lang/String", "equals", "(Ljava/lang/Object;)Z"⟩ : MethodName)) hown (mvT hZ (hw _ (List.mem_of_getElem? (i := 103) rfl))) (mvT hZ (hw _ (List.mem_of_getElem? (i := 104) rfl))) (notFace_of_selects (args := #[]) (mvT hZ (hw _ (List.mem_of_getElem? (i := 106) rfl)))) (mvT hZ (hw _ (List.mem_of_getElem? (i := 106) rfl))) (mvT hZ (hw _ (List.mem_of_getElem? (i := 105) rfl))) (by decide) (backOf (W := 0) (rmEQ l Z a0 hw [] b194 o200 3 (fun j => b8 (gl [(c8 ra), (c8 rb), (c8 rc)] j)) T200.heap n0 Z200 (by decide) O200 SK SB200 (S200.congr c3)) hZ (hw _ (List.mem_of_getElem? (i := 107) rfl)) (hw _ (List.mem_of_getElem? (i := 13) rfl)) (by decide) (by decide)) q201a q201c (g := (mkF m 120 #[.val (.int sel), .val (.int ra), .val (.int rb), .val (.int rc), .val (.int fl), .val (.int (3 : Int32)), .val (.int (c8 ra)), .val (.int (c8 rb)), .val (.int (c8 rc)), .val (.ref kd), .val (.ref o193), .val (.ref b194), .val (.ref o200)] [(.ref o200), (.ref b194)])) rfl (by rw [hml]; rfl) (Steps.refl _) (argsL := [(.ref o200)]) (rest := []) (lenOf pd_21 rfl) rfl (by show 2 * 0 + _ ≤ _; exact Nat.le_of_eq rfl) (hb hby at_120) (fun _ _ => ⟨rfl, rfl, (by decide : 10 + 0 ≤ _), (by decide : 191 + 0 ≤ _)⟩)
  dsimp only [Pt.U, Pt.locs, Pt.cells, Pt.slots] at X201 l201 y201 z201 st201 hQ201
  subst l201 y201 z201
  obtain ⟨rfl, N201q, e201⟩ := hQ201
  have N201 := Fr.app N200 N201q
  obtain ⟨fs, hr, hrun, hended, -, hWW, hBB, hSS⟩ := Stand.leaveW (s := s) (vm₁ := s.vm) X201 ((State.WarmedH.refl s).since 0) (by rw [e201]; exact (Nat.zero_le _)) (v := some (.int (1 : Int32))) (fun h => by rw [Bd.returns] at h; cases h)
  refine ⟨_, _, pre0 _ ?_, hrun, hended, _, _, rfl, ?_, ⟨_, rfl⟩, hWW, hBB, hSS.mono (by decide) (by decide)⟩
  · show Steps p.tables e below (s₁.setTop (mkF m 0 #[.val (.int sel), .val (.int ra), .val (.int rb), .val (.int rc), .val (.int fl), .unset, .unset, .unset, .unset, .unset, .unset, .unset, .unset] [])) _
    refine XS.iloadN X0.here hx rfl (hb hby at_0) rfl ?_
    refine X0.ldcInt hx hown (mvT hZ (hw _ (List.mem_of_getElem? (i := 0) rfl))) (g := (mkF m 1 #[.val (.int sel), .val (.int ra), .val (.int rb), .val (.int rc), .val (.int fl), .unset, .unset, .unset, .unset, .unset, .unset, .unset, .unset] [(.int sel)])) rfl (hb hby at_1) _ ?_
    refine XS.iand X0.here hx rfl (hb hby at_3) rfl ?_
    refine XS.bipush X0.here hx rfl (hb hby at_4) ?_
    refine gwIrem X0.here hx rfl (hb hby at_6) rfl (by decide) ?_
    show Steps p.tables e below (s₁.setTop (mkF m 7 #[.val (.int sel), .val (.int ra), .val (.int rb), .val (.int rc), .val (.int fl), .unset, .unset, .unset, .unset, .unset, .unset, .unset, .unset] [(.int (kF sel))])) _
    refine XS.istore X0.here hx rfl (hb hby at_7) rfl (l' := #[.val (.int sel), .val (.int ra), .val (.int rb), .val (.int rc), .val (.int fl), .val (.int (kF sel)), .unset, .unset, .unset, .unset, .unset, .unset, .unset]) rfl ?_
    refine XS.iloadN X0.here hx rfl (hb hby at_9) rfl ?_
    refine XS.sipush X0.here hx rfl (hb hby at_10) ?_
    refine XS.iand X0.here hx rfl (hb hby at_13) rfl ?_
    refine XS.i2c X0.here hx rfl (hb hby at_14) rfl ?_
    show Steps p.tables e below (s₁.setTop (mkF m 15 #[.val (.int sel), .val (.int ra), .val (.int rb), .val (.int rc), .val (.int fl), .val (.int (kF sel)), .unset, .unset, .unset, .unset, .unset, .unset, .unset] [(.int (c8 ra))])) _
    refine XS.istore X0.here hx rfl (hb hby at_15) rfl (l' := #[.val (.int sel), .val (.int ra), .val (.int rb), .val (.int rc), .val (.int fl), .val (.int (kF sel)), .val (.int (c8 ra)), .unset, .unset, .unset, .unset, .unset, .unset]) rfl ?_
    refine XS.iloadN X0.here hx rfl (hb hby at_17) rfl ?_
    refine XS.sipush X0.here hx rfl (hb hby at_18) ?_
    refine XS.iand X0.here hx rfl (hb hby at_21) rfl ?_
    refine XS.i2c X0.here hx rfl (hb hby at_22) rfl ?_
    show Steps p.tables e below (s₁.setTop (mkF m 23 #[.val (.int sel), .val (.int ra), .val (.int rb), .val (.int rc), .val (.int fl), .val (.int (kF sel)), .val (.int (c8 ra)), .unset, .unset, .unset, .unset, .unset, .unset] [(.int (c8 rb))])) _
    refine XS.istore X0.here hx rfl (hb hby at_23) rfl (l' := #[.val (.int sel), .val (.int ra), .val (.int rb), .val (.int rc), .val (.int fl), .val (.int (kF sel)), .val (.int (c8 ra)), .val (.int (c8 rb)), .unset, .unset, .unset, .unset, .unset]) rfl ?_
    refine XS.iloadN X0.here hx rfl (hb hby at_25) rfl ?_
    refine XS.sipush X0.here hx rfl (hb hby at_26) ?_
    refine XS.iand X0.here hx rfl (hb hby at_29) rfl ?_
    refine XS.i2c X0.here hx rfl (hb hby at_30) rfl ?_
    show Steps p.tables e below (s₁.setTop (mkF m 31 #[.val (.int sel), .val (.int ra), .val (.int rb), .val (.int rc), .val (.int fl), .val (.int (kF sel)), .val (.int (c8 ra)), .val (.int (c8 rb)), .unset, .unset, .unset, .unset, .unset] [(.int (c8 rc))])) _
    refine XS.istore X0.here hx rfl (hb hby at_31) rfl (l' := #[.val (.int sel), .val (.int ra), .val (.int rb), .val (.int rc), .val (.int fl), .val (.int (kF sel)), .val (.int (c8 ra)), .val (.int (c8 rb)), .val (.int (c8 rc)), .unset, .unset, .unset, .unset]) rfl ?_
    refine XS.iload X0.here hx rfl (hb hby at_33) rfl ?_
    show Steps p.tables e below (s₁.setTop (mkF m 35 #[.val (.int sel), .val (.int ra), .val (.int rb), .val (.int rc), .val (.int fl), .val (.int (kF sel)), .val (.int (c8 ra)), .val (.int (c8 rb)), .val (.int (c8 rc)), .unset, .unset, .unset, .unset] [(.int (kF sel))])) _
    rw [show (kF sel) = (3 : Int32) from hk]
    show Steps p.tables e below (s₁.setTop (mkF m 35 #[.val (.int sel), .val (.int ra), .val (.int rb), .val (.int rc), .val (.int fl), .val (.int (3 : Int32)), .val (.int (c8 ra)), .val (.int (c8 rb)), .val (.int (c8 rc)), .unset, .unset, .unset, .unset] [(.int (3 : Int32))])) _
    refine st192 _ ?_
    refine XS.astore X192.here hx rfl (hb hby at_38) rfl rfl (l' := #[.val (.int sel), .val (.int ra), .val (.int rb), .val (.int rc), .val (.int fl), .val (.int (3 : Int32)), .val (.int (c8 ra)), .val (.int (c8 rb)), .val (.int (c8 rc)), .val (.ref kd), .unset, .unset, .unset]) rfl ?_
    refine XS.iload X192.here hx rfl (hb hby at_40) rfl ?_
    refine XS.iconst X192.here hx rfl (hb hby at_42) ?_
    refine XS.iand X192.here hx rfl (hb hby at_43) rfl ?_
    refine XS.ifYes X192.here hx rfl (pc0 := 44) (pc' := 67) rfl (hb hby at_44) rfl ((if0 _ _).trans (teq hc44).1) (by decide) (by decide) ?_
    show Steps p.tables e below (T192.setTop (mkF m 67 #[.val (.int sel), .val (.int ra), .val (.int rb), .val (.int rc), .val (.int fl), .val (.int (3 : Int32)), .val (.int (c8 ra)), .val (.int (c8 rb)), .val (.int (c8 rc)), .val (.ref kd), .unset, .unset, .unset] [])) _
    refine XS.iload X192.here hx rfl (hb hby at_67) rfl ?_
    refine XS.iload X192.here hx rfl (hb hby at_69) rfl ?_
    refine XS.iload X192.here hx rfl (hb hby at_71) rfl ?_
    refine XS.iload X192.here hx rfl (hb hby at_73) rfl ?_
    show Steps p.tables e below (T192.setTop (mkF m 75 #[.val (.int sel), .val (.int ra), .val (.int rb), .val (.int rc), .val (.int fl), .val (.int (3 : Int32)), .val (.int (c8 ra)), .val (.int (c8 rb)), .val (.int (c8 rc)), .val (.ref kd), .unset, .unset, .unset] [(.int (c8 rc)), (.int (c8 rb)), (.int (c8 ra)), (.int (3 : Int32))])) _
    refine st193 _ ?_
    refine XS.astore X193.here hx rfl (hb hby at_78) rfl rfl (l' := #[.val (.int sel), .val (.int ra), .val (.int rb), .val (.int rc), .val (.int fl), .val (.int (3 : Int32)), .val (.int (c8 ra)), .val (.int (c8 rb)), .val (.int (c8 rc)), .val (.ref kd), .val (.ref o193), .unset, .unset]) rfl ?_
    show Steps p.tables e below (T193.setTop (mkF m 80 #[.val (.int sel), .val (.int ra), .val (.int rb), .val (.int rc), .val (.int fl), .val (.int (3 : Int32)), .val (.int (c8 ra)), .val (.int (c8 rb)), .val (.int (c8 rc)), .val (.ref kd), .val (.ref o193), .unset, .unset] [])) _
    refine st194 _ ?_
    refine XS.dup X194.here hx rfl (hb hby at_83) rfl rfl ?_
    refine XS.iconst X194.here hx rfl (hb hby at_84) ?_
    show Steps p.tables e below (T194.setTop (mkF m 85 #[.val (.int sel), .val (.int ra), .val (.int rb), .val (.int rc), .val (.int fl), .val (.int (3 : Int32)), .val (.int (c8 ra)), .val (.int (c8 rb)), .val (.int (c8 rc)), .val (.ref kd), .val (.ref o193), .unset, .unset] [(.int (3 : Int32)), (.ref b194), (.ref b194)])) _
    refine st195 _ ?_
    refine XS.dup X195.here hx rfl (hb hby at_87) rfl rfl ?_
    refine XS.iconst X195.here hx rfl (hb hby at_88) ?_
    refine XS.iload X195.here hx rfl (hb hby at_89) rfl ?_
    show Steps p.tables e below (T195.setTop (mkF m 91 #[.val (.int sel), .val (.int ra), .val (.int rb), .val (.int rc), .val (.int fl), .val (.int (3 : Int32)), .val (.int (c8 ra)), .val (.int (c8 rb)), .val (.int (c8 rc)), .val (.ref kd), .val (.ref o193), .unset, .unset] [(.int (c8 ra)), (.int (0 : Int32)), (.ref b195), (.ref b195), (.ref b194), (.ref b194)])) _
    refine st196 _ ?_
    refine XS.dup X196.here hx rfl (hb hby at_92) rfl rfl ?_
    refine XS.iconst X196.here hx rfl (hb hby at_93) ?_
    refine XS.iload X196.here hx rfl (hb hby at_94) rfl ?_
    show Steps p.tables e below (T196.setTop (mkF m 96 #[.val (.int sel), .val (.int ra), .val (.int rb), .val (.int rc), .val (.int fl), .val (.int (3 : Int32)), .val (.int (c8 ra)), .val (.int (c8 rb)), .val (.int (c8 rc)), .val (.ref kd), .val (.ref o193), .unset, .unset] [(.int (c8 rb)), (.int (1 : Int32)), (.ref b195), (.ref b195), (.ref b194), (.ref b194)])) _
    refine st197 _ ?_
    refine XS.dup X197.here hx rfl (hb hby at_97) rfl rfl ?_
    refine XS.iconst X197.here hx rfl (hb hby at_98) ?_
    refine XS.iload X197.here hx rfl (hb hby at_99) rfl ?_
    show Steps p.tables e below (T197.setTop (mkF m 101 #[.val (.int sel), .val (.int ra), .val (.int rb), .val (.int rc), .val (.int fl), .val (.int (3 : Int32)), .val (.int (c8 ra)), .val (.int (c8 rb)), .val (.int (c8 rc)), .val (.ref kd), .val (.ref o193), .unset, .unset] [(.int (c8 rc)), (.int (2 : Int32)), (.ref b195), (.ref b195), (.ref b194), (.ref b194)])) _
    refine st198 _ ?_
    show Steps p.tables e below (T198.setTop (mkF m 102 #[.val (.int sel), .val (.int ra), .val (.int rb), .val (.int rc), .val (.int fl), .val (.int (3 : Int32)), .val (.int (c8 ra)), .val (.int (c8 rb)), .val (.int (c8 rc)), .val (.ref kd), .val (.ref o193), .unset, .unset] [(.ref b195), (.ref b194), (.ref b194)])) _
    refine st199.trans ?_
    refine XS.astore X199.here hx rfl (hb hby at_105) rfl rfl (l' := #[.val (.int sel), .val (.int ra), .val (.int rb), .val (.int rc), .val (.int fl), .val (.int (3 : Int32)), .val (.int (c8 ra)), .val (.int (c8 rb)), .val (.int (c8 rc)), .val (.ref kd), .val (.ref o193), .val (.ref b194), .unset]) rfl ?_
    refine XS.aload X199.here hx rfl (hb hby at_107) rfl rfl ?_
    refine XS.aload X199.here hx rfl (hb hby at_109) rfl rfl ?_
    show Steps p.tables e below (T199.setTop (mkF m 111 #[.val (.int sel), .val (.int ra), .val (.int rb), .val (.int rc), .val (.int fl), .val (.int (3 : Int32)), .val (.int (c8 ra)), .val (.int (c8 rb)), .val (.int (c8 rc)), .val (.ref kd), .val (.ref o193), .val (.ref b194), .unset] [(.ref o193), (.ref kd)])) _
    refine st200.trans ?_
    refine XS.astore X200.here hx rfl (hb hby at_114) rfl rfl (l' := #[.val (.int sel), .val (.int ra), .val (.int rb), .val (.int rc), .val (.int fl), .val (.int (3 : Int32)), .val (.int (c8 ra)), .val (.int (c8 rb)), .val (.int (c8 rc)), .val (.ref kd), .val (.ref o193), .val (.ref b194), .val (.ref o200)]) rfl ?_
    refine XS.aload X200.here hx rfl (hb hby at_116) rfl rfl ?_
    refine XS.aload X200.here hx rfl (hb hby at_118) rfl rfl ?_
    show Steps p.tables e below (T200.setTop (mkF m 120 #[.val (.int sel), .val (.int ra), .val (.int rb), .val (.int rc), .val (.int fl), .val (.int (3 : Int32)), .val (.int (c8 ra)), .val (.int (c8 rb)), .val (.int (c8 rc)), .val (.ref kd), .val (.ref o193), .val (.ref b194), .val (.ref o200)] [(.ref o200), (.ref b194)])) _
    refine st201.trans ?_
    show Steps p.tables e below (T201.setTop (mkF m 123 #[.val (.int sel), .val (.int ra), .val (.int rb), .val (.int rc), .val (.int fl), .val (.int (3 : Int32)), .val (.int (c8 ra)), .val (.int (c8 rb)), .val (.int (c8 rc)), .val (.ref kd), .val (.ref o193), .val (.ref b194), .val (.ref o200)] [(.int (1 : Int32))])) _
    exact retN X201 hx (t := .boolean) Bd.returns (by simp) (hb hby at_123) hr
  · show Q0  h0 n0 _ T201.heap _
    exact ⟨rfl, N201⟩
set_option maxRecDepth 65536 in
set_option maxHeartbeats 40000000 in
theorem rm0_31 (l : Launch) (Z : State) (a0 : Array Value) (hw : ∀ d ∈ tables_1, d.before a0 Z = true) (ws : List Jvm.Cond) (sel : Int32) (ra : Int32) (rb : Int32) (rc : Int32) (fl : Int32) (kd : Addr) (h0 : Heap) (n0 : Nat) (Z0 : n0 ≤ h0.size) (hk : kF sel = (3 : Int32)) (hst : Sta Z Z.heap "com/example/trestle/trestle/ResourceKind" "XSLT" "Lcom/example/trestle/trestle/ResourceKind;" (.ref kd)) (KDm : KD Z kd 4) (O : Old Z n0 h0) (SK : StrSta Z) (hEL : EW Z a0 EL1) (hc44 : ¬ ((fl &&& (1 : Int32)) = (0 : Int32))) :
    MetFree l x (head1 (Jvm.Cond.code x code maxLocals ret :: ws) room_1) (fun aa_ U_ => aa_ = #[(.int sel), (.int ra), (.int rb), (.int rc), (.int fl)] ∧ Z.Warmed39 U_.vm ∧ U_.heap = h0 ∧ CHv Z EL1 U_.vm h0) (fun _ _ _ _ _ => True) (fun _ U_ o_ V_ => ∃ v_ L_, o_ = .returned v_ ∧ Q0  h0 n0 v_ V_.heap L_ ∧ ReturnedEndW U_ o_ V_ L_ room_1.cells room_1.slots) := by
  refine MetFree.of_bodySF (plainFor_of_name pn_0) hisR ?_
  intro p e s m args below meth c s₁ Bd hml0 hP hK
  obtain ⟨rfl, hZ, hh, CH0⟩ := hP
  have hx := Bd.exec
  have hby := Bd.bytes
  have hml : c.maxLocals = 13 := hml0
  have hown : s.vm.findClass "com/example/trestle/trestle/ResourceKindIdPinLaw" = some m.cls := findClass_of_methodNamed Bd.named
  have hnm := (name_of_methodNamed Bd.named Bd.method).1
  have X0 : Stand p l e room_1 s m #[(.int sel), (.int ra), (.int rb), (.int rc), (.int fl)] below meth c s₁ [] 0 0 := Stand.of_body Bd
  have e0 : s₁.heap = h0 := by rw [← hh, Bd.state]; rfl
  have N0 := Fr.nil n0
  have pre0 : ∀ zz, Steps p.tables e below (s₁.setTop (mkF m 0 #[.val (.int sel), .val (.int ra), .val (.int rb), .val (.int rc), .val (.int fl), .unset, .unset, .unset, .unset, .unset, .unset, .unset, .unset] [])) zz → Steps p.tables e below (s₁.setTop (entryFrame m #[(.int sel), (.int ra), (.int rb), (.int rc), (.int fl)] maxLocals)) zz := fun zz kz_ => castTop (ef_0 m sel ra rb rc fl) kz_
  have hwS : ∀ a ∈ Bundle.stringAtoms, a.before a0 Z = true := fun d hd => hw d (by simpa using (List.all_eq_true.mp (by decide +kernel : (Bundle.stringAtoms.all fun c => tables_1.contains c) = true)) d hd)
  obtain ⟨_, _, ⟨T202, L202, k202, n202⟩, -, X202, ⟨Lc202, hQ202, l202, y202, z202⟩, st202⟩ := Jvm.LawKit.callS X0 hx (y := (⟨"com/example/trestle/trestle/ResourceKindIdPinLaw", "kindOf", "(I)Lcom/example/trestle/trestle/ResourceKind;"⟩ : MethodName)) hown (mvT hZ (hw _ (List.mem_of_getElem? (i := 1) rfl))) (mvT hZ (hw _ (List.mem_of_getElem? (i := 2) rfl))) (mvT hZ (hw _ (List.mem_of_getElem? (i := 3) rfl))) (mvT hZ (hw _ (List.mem_of_getElem? (i := 4) rfl))) (by decide) (backOf (W := 0) (rmK3 l Z a0 hw [] kd h0 n0 Z0 O hst) hZ (hw _ (List.mem_of_getElem? (i := 4) rfl)) (hw _ (List.mem_of_getElem? (i := 3) rfl)) (by decide) (by decide)) (g := (mkF m 35 #[.val (.int sel), .val (.int ra), .val (.int rb), .val (.int rc), .val (.int fl), .val (.int (3 : Int32)), .val (.int (c8 ra)), .val (.int (c8 rb)), .val (.int (c8 rc)), .unset, .unset, .unset, .unset] [(.int (3 : Int32))])) rfl (by rw [hml]; rfl) (argsL := [(.int (3 : Int32))]) (rest := []) (lenOf pd_0 rfl) rfl (by show 2 * 0 + _ ≤ _; exact Nat.le_of_eq rfl) (hb hby at_35) (fun _ _ => ⟨rfl, e0, (by decide : 0 + 0 ≤ _), (by decide : 0 + 0 ≤ _)⟩)
  dsimp only [Pt.U, Pt.locs, Pt.cells, Pt.slots] at X202 l202 y202 z202 st202 hQ202
  subst l202 y202 z202
  obtain ⟨rfl, N202q, e202⟩ := hQ202
  have N202 := Fr.app N0 N202q
  obtain ⟨_, _, ⟨T203, L203, k203, n203⟩, -, X203, hS2203, hg203, ⟨Lc203, hQ203, l203, y203, z203, C203⟩, st203⟩ := callSS X202 hx (y := (⟨"com/example/trestle/trestle/ResourceKindIdPinLaw", "suffixOf", "(I)Ljava/lang/String;"⟩ : MethodName)) hown (mvT hZ (hw _ (List.mem_of_getElem? (i := 114) rfl))) (mvT hZ (hw _ (List.mem_of_getElem? (i := 115) rfl))) (mvT hZ (hw _ (List.mem_of_getElem? (i := 3) rfl))) (mvT hZ (hw _ (List.mem_of_getElem? (i := 116) rfl))) (by decide) (backOfSH (s := s) (vm0 := s.vm) (EL := EL1) (W := 1) (rmSX3 l Z a0 hw []  h0 n0 Z0 hEL) hZ (hw _ (List.mem_of_getElem? (i := 116) rfl)) (hw _ (List.mem_of_getElem? (i := 3) rfl)) (by decide) (by decide) hEL CH0) (g := (mkF m 51 #[.val (.int sel), .val (.int ra), .val (.int rb), .val (.int rc), .val (.int fl), .val (.int (3 : Int32)), .val (.int (c8 ra)), .val (.int (c8 rb)), .val (.int (c8 rc)), .val (.ref kd), .unset, .unset, .unset] [(.int (3 : Int32)), (.ref kd)])) rfl (by rw [hml]; rfl) (argsL := [(.int (3 : Int32))]) (rest := [(.ref kd)]) (lenOf pd_23 rfl) rfl (by show 2 * 0 + _ ≤ _; exact Nat.le_of_eq rfl) (hb hby at_51) (fun _ _ => ⟨rfl, e202, (by decide : 0 + 2 ≤ _), (by decide : 0 + 60 ≤ _)⟩)
  dsimp only [Pt.U, Pt.locs, Pt.cells, Pt.slots] at X203 l203 y203 z203 st203 hQ203 hS2203 hg203
  subst l203 y203 z203
  obtain ⟨o203, rfl, N203q, K203, S203⟩ := hQ203
  have N203 := Fr.app N202 N203q
  dsimp only [Pt.U, Pt.locs, Pt.cells, Pt.slots] at C203
  have CR203 := (CHr.refl CH0).trans C203
  have hS203 := foldS ((State.WarmedH.refl s).since 0) (by rw [e202]; exact (Nat.zero_le _)) hS2203 hg203
  have hZ203 : Z.Warmed39 (s.setVm T203.vm).vm := State.Warmed39.trans hZ hS2203.1
  have hown203 : (s.setVm T203.vm).vm.findClass "com/example/trestle/trestle/ResourceKindIdPinLaw" = some m.cls := by rw [show (s.setVm T203.vm).vm = T203.vm from rfl, hS2203.1.alike.findClass]; exact hown
  have KK203 := (Keep.refl h0 []).trans K203 (fun x r => absurd r List.not_mem_nil)
  have Z203 : n0 ≤ T203.heap.size := Nat.le_trans Z0 K203.1
  have O203 := O.keep K203 all0'
  have EKo203 := KDm.1.ext O203.2
  obtain ⟨cq204, kq204, q204a, q204b, q204c⟩ := isOf hZ203 rfl EKo203
  obtain ⟨_, _, ⟨T204, L204, k204, n204⟩, -, X204, hS2204, hg204, ⟨Lc204, hQ204, l204, y204, z204, C204⟩, st204⟩ := X203.virtualBackS hx (y := (⟨"com/example/trestle/trestle/ResourceKind", "id", "(Ljava/lang/String;)Ljava/lang/String;"⟩ : MethodName)) (z := (⟨"com/example/trestle/trestle/ResourceKind", "id", "(Ljava/lang/String;)Ljava/lang/String;"⟩ : MethodName)) hown203 (mvT hZ203 (hw _ (List.mem_of_getElem? (i := 41) rfl))) (mvT hZ203 (hw _ (List.mem_of_getElem? (i := 42) rfl))) (notFace_of_selects (args := #[]) (mvT hZ203 (hw _ (List.mem_of_getElem? (i := 44) rfl)))) (mvT hZ203 (hw _ (List.mem_of_getElem? (i := 44) rfl))) (mvT hZ203 (hw _ (List.mem_of_getElem? (i := 43) rfl))) (by decide) (backOfSH (s := s) (vm0 := T203.vm) (EL := EL1) (W := 0) (rmID0 l Z a0 hw [] kd o203 4 sw3 T203.heap n0 Z203 (by decide) O203 SK S203 (by decide) KDm hEL) hZ203 (hw _ (List.mem_of_getElem? (i := 45) rfl)) (hw _ (List.mem_of_getElem? (i := 6) rfl)) (by decide) (by decide) hEL C203.1) q204a q204c (g := (mkF m 54 #[.val (.int sel), .val (.int ra), .val (.int rb), .val (.int rc), .val (.int fl), .val (.int (3 : Int32)), .val (.int (c8 ra)), .val (.int (c8 rb)), .val (.int (c8 rc)), .val (.ref kd), .unset, .unset, .unset] [(.ref o203), (.ref kd)])) rfl (by rw [hml]; rfl) (Steps.refl _) (argsL := [(.ref o203)]) (rest := []) (lenOf pd_8 rfl) rfl (by show 2 * 0 + _ ≤ _; exact Nat.le_of_eq rfl) (hb hby at_54) (fun _ _ => ⟨rfl, rfl, (by decide : 2 + 2 ≤ _), (by decide : 60 + 4 ≤ _)⟩)
  dsimp only [Pt.U, Pt.locs, Pt.cells, Pt.slots] at X204 l204 y204 z204 st204 hQ204 hS2204 hg204 C204
  subst l204 y204 z204
  obtain ⟨o204, rfl, N204q, K204, S204⟩ := hQ204
  have N204 := Fr.app N203 N204q
  have CR204 := CR203.trans C204
  have hS204 := foldS hS203 (by exact (Nat.le_refl _)) hS2204 hg204
  have hZ204 : Z.Warmed39 (s.setVm T204.vm).vm := State.Warmed39.trans hZ203 hS2204.1
  have hown204 : (s.setVm T204.vm).vm.findClass "com/example/trestle/trestle/ResourceKindIdPinLaw" = some m.cls := by rw [show (s.setVm T204.vm).vm = T204.vm from rfl, hS2204.1.alike.findClass]; exact hown203
  have KK204 := KK203.trans K204 (fun x r => absurd r List.not_mem_nil)
  have Z204 : n0 ≤ T204.heap.size := Nat.le_trans Z203 K204.1
  have O204 := O203.keep K204 all0'
  obtain ⟨a205, T205, h205, k205, v205, kk205, X205, e205, E205, hS205, hk205, hZ205, hown205, Ex205, Fc205, Fv205, Av205, la205, lb205, C205, Lt205, Sn205, st205⟩ := ldcCH (s := s) (vm0 := T204.vm) (EL := EL1) X204 hx hZ204 hown204 (hw _ (List.mem_of_getElem? (i := 121) rfl)) hwS rfl hS204 (Nat.le_refl _) hEL (by decide) C204.1 (vs := []) (z := (0 : Int32)) (by decide) (by decide) (by decide) (g := (mkF m 59 #[.val (.int sel), .val (.int ra), .val (.int rb), .val (.int rc), .val (.int fl), .val (.int (3 : Int32)), .val (.int (c8 ra)), .val (.int (c8 rb)), .val (.int (c8 rc)), .val (.ref kd), .val (.ref o204), .unset, .unset] [])) rfl (hb hby at_59) (n := 0) (by decide) (by decide) (by decide) (by decide)
  have O205 := O204.ext E205
  have K205 := KK204.ext E205
  have Z205 : n0 ≤ h205.size := Nat.le_trans Z204 E205.1
  have CR205 := CR204.trans C205
  have SB205 := S204.ext E205
  obtain ⟨cq206, kq206, q206a, q206b, q206c⟩ := isOf hZ205 e205 Ex205
  obtain ⟨_, _, ⟨T206, L206, k206, n206⟩, -, X206, ⟨Lc206, hQ206, l206, y206, z206⟩, st206⟩ := X205.virtualBack hx (y := (⟨"java/lang/String", "equals", "(Ljava/lang/Object;)Z"⟩ : MethodName)) (z := (⟨"java/lang/String", "equals", "(Ljava/lang/Object;)Z"⟩ : MethodName)) hown205 (mvT hZ205 (hw _ (List.mem_of_getElem? (i := 103) rfl))) (mvT hZ205 (hw _ (List.mem_of_getElem? (i := 104) rfl))) (notFace_of_selects (args := #[]) (mvT hZ205 (hw _ (List.mem_of_getElem? (i := 106) rfl)))) (mvT hZ205 (hw _ (List.mem_of_getElem? (i := 106) rfl))) (mvT hZ205 (hw _ (List.mem_of_getElem? (i := 105) rfl))) (by decide) (backOf (W := 0) (rmEQ l Z a0 hw [] a205 o204 0 (fun _ => 0) h205 n0 Z205 (by decide) O205 SK ⟨Ex205, v205, Fv205, Fc205, AF.empty Av205 rfl _⟩ (SB205.congr fun j hj => absurd hj (Nat.not_lt_zero _))) hZ205 (hw _ (List.mem_of_getElem? (i := 107) rfl)) (hw _ (List.mem_of_getElem? (i := 13) rfl)) (by decide) (by decide)) q206a q206c (g := (mkF m 63 #[.val (.int sel), .val (.int ra), .val (.int rb), .val (.int rc), .val (.int fl), .val (.int (3 : Int32)), .val (.int (c8 ra)), .val (.int (c8 rb)), .val (.int (c8 rc)), .val (.ref kd), .val (.ref o204), .unset, .unset] [(.ref o204), (.ref a205)])) rfl (by rw [hml]; rfl) (Steps.refl _) (argsL := [(.ref o204)]) (rest := []) (lenOf pd_21 rfl) rfl (by show 2 * 0 + _ ≤ _; exact Nat.le_of_eq rfl) (hb hby at_63) (fun _ _ => ⟨rfl, e205, (by decide : 6 + 0 ≤ _), (by decide : 68 + 0 ≤ _)⟩)
  dsimp only [Pt.U, Pt.locs, Pt.cells, Pt.slots] at X206 l206 y206 z206 st206 hQ206
  subst l206 y206 z206
  obtain ⟨rfl, N206q, e206⟩ := hQ206
  have N206 := Fr.app N204 N206q
  obtain ⟨fs, hr, hrun, hended, -, hWW, hBB, hSS⟩ := Stand.leaveW (s := s) (vm₁ := T205.vm) X206 hS205 (by rw [e206]; exact hk205) (v := some (.int (1 : Int32))) (fun h => by rw [Bd.returns] at h; cases h)
  refine ⟨_, _, pre0 _ ?_, hrun, hended, _, _, rfl, ?_, ⟨_, rfl⟩, hWW, hBB, hSS.mono (by decide) (by decide)⟩
  · show Steps p.tables e below (s₁.setTop (mkF m 0 #[.val (.int sel), .val (.int ra), .val (.int rb), .val (.int rc), .val (.int fl), .unset, .unset, .unset, .unset, .unset, .unset, .unset, .unset] [])) _
    refine XS.iloadN X0.here hx rfl (hb hby at_0) rfl ?_
    refine X0.ldcInt hx hown (mvT hZ (hw _ (List.mem_of_getElem? (i := 0) rfl))) (g := (mkF m 1 #[.val (.int sel), .val (.int ra), .val (.int rb), .val (.int rc), .val (.int fl), .unset, .unset, .unset, .unset, .unset, .unset, .unset, .unset] [(.int sel)])) rfl (hb hby at_1) _ ?_
    refine XS.iand X0.here hx rfl (hb hby at_3) rfl ?_
    refine XS.bipush X0.here hx rfl (hb hby at_4) ?_
    refine gwIrem X0.here hx rfl (hb hby at_6) rfl (by decide) ?_
    show Steps p.tables e below (s₁.setTop (mkF m 7 #[.val (.int sel), .val (.int ra), .val (.int rb), .val (.int rc), .val (.int fl), .unset, .unset, .unset, .unset, .unset, .unset, .unset, .unset] [(.int (kF sel))])) _
    refine XS.istore X0.here hx rfl (hb hby at_7) rfl (l' := #[.val (.int sel), .val (.int ra), .val (.int rb), .val (.int rc), .val (.int fl), .val (.int (kF sel)), .unset, .unset, .unset, .unset, .unset, .unset, .unset]) rfl ?_
    refine XS.iloadN X0.here hx rfl (hb hby at_9) rfl ?_
    refine XS.sipush X0.here hx rfl (hb hby at_10) ?_
    refine XS.iand X0.here hx rfl (hb hby at_13) rfl ?_
    refine XS.i2c X0.here hx rfl (hb hby at_14) rfl ?_
    show Steps p.tables e below (s₁.setTop (mkF m 15 #[.val (.int sel), .val (.int ra), .val (.int rb), .val (.int rc), .val (.int fl), .val (.int (kF sel)), .unset, .unset, .unset, .unset, .unset, .unset, .unset] [(.int (c8 ra))])) _
    refine XS.istore X0.here hx rfl (hb hby at_15) rfl (l' := #[.val (.int sel), .val (.int ra), .val (.int rb), .val (.int rc), .val (.int fl), .val (.int (kF sel)), .val (.int (c8 ra)), .unset, .unset, .unset, .unset, .unset, .unset]) rfl ?_
    refine XS.iloadN X0.here hx rfl (hb hby at_17) rfl ?_
    refine XS.sipush X0.here hx rfl (hb hby at_18) ?_
    refine XS.iand X0.here hx rfl (hb hby at_21) rfl ?_
    refine XS.i2c X0.here hx rfl (hb hby at_22) rfl ?_
    show Steps p.tables e below (s₁.setTop (mkF m 23 #[.val (.int sel), .val (.int ra), .val (.int rb), .val (.int rc), .val (.int fl), .val (.int (kF sel)), .val (.int (c8 ra)), .unset, .unset, .unset, .unset, .unset, .unset] [(.int (c8 rb))])) _
    refine XS.istore X0.here hx rfl (hb hby at_23) rfl (l' := #[.val (.int sel), .val (.int ra), .val (.int rb), .val (.int rc), .val (.int fl), .val (.int (kF sel)), .val (.int (c8 ra)), .val (.int (c8 rb)), .unset, .unset, .unset, .unset, .unset]) rfl ?_
    refine XS.iloadN X0.here hx rfl (hb hby at_25) rfl ?_
    refine XS.sipush X0.here hx rfl (hb hby at_26) ?_
    refine XS.iand X0.here hx rfl (hb hby at_29) rfl ?_
    refine XS.i2c X0.here hx rfl (hb hby at_30) rfl ?_
    show Steps p.tables e below (s₁.setTop (mkF m 31 #[.val (.int sel), .val (.int ra), .val (.int rb), .val (.int rc), .val (.int fl), .val (.int (kF sel)), .val (.int (c8 ra)), .val (.int (c8 rb)), .unset, .unset, .unset, .unset, .unset] [(.int (c8 rc))])) _
    refine XS.istore X0.here hx rfl (hb hby at_31) rfl (l' := #[.val (.int sel), .val (.int ra), .val (.int rb), .val (.int rc), .val (.int fl), .val (.int (kF sel)), .val (.int (c8 ra)), .val (.int (c8 rb)), .val (.int (c8 rc)), .unset, .unset, .unset, .unset]) rfl ?_
    refine XS.iload X0.here hx rfl (hb hby at_33) rfl ?_
    show Steps p.tables e below (s₁.setTop (mkF m 35 #[.val (.int sel), .val (.int ra), .val (.int rb), .val (.int rc), .val (.int fl), .val (.int (kF sel)), .val (.int (c8 ra)), .val (.int (c8 rb)), .val (.int (c8 rc)), .unset, .unset, .unset, .unset] [(.int (kF sel))])) _
    rw [show (kF sel) = (3 : Int32) from hk]
    show Steps p.tables e below (s₁.setTop (mkF m 35 #[.val (.int sel), .val (.int ra), .val (.int rb), .val (.int rc), .val (.int fl), .val (.int (3 : Int32)), .val (.int (c8 ra)), .val (.int (c8 rb)), .val (.int (c8 rc)), .unset, .unset, .unset, .unset] [(.int (3 : Int32))])) _
    refine st202 _ ?_
    refine XS.astore X202.here hx rfl (hb hby at_38) rfl rfl (l' := #[.val (.int sel), .val (.int ra), .val (.int rb), .val (.int rc), .val (.int fl), .val (.int (3 : Int32)), .val (.int (c8 ra)), .val (.int (c8 rb)), .val (.int (c8 rc)), .val (.ref kd), .unset, .unset, .unset]) rfl ?_
    refine XS.iload X202.here hx rfl (hb hby at_40) rfl ?_
    refine XS.iconst X202.here hx rfl (hb hby at_42) ?_
    refine XS.iand X202.here hx rfl (hb hby at_43) rfl ?_
    refine XS.ifNo X202.here hx rfl (hb hby at_44) rfl ((if0 _ _).trans (feq hc44).1) ?_
    show Steps p.tables e below (T202.setTop (mkF m 47 #[.val (.int sel), .val (.int ra), .val (.int rb), .val (.int rc), .val (.int fl), .val (.int (3 : Int32)), .val (.int (c8 ra)), .val (.int (c8 rb)), .val (.int (c8 rc)), .val (.ref kd), .unset, .unset, .unset] [])) _
    refine XS.aload X202.here hx rfl (hb hby at_47) rfl rfl ?_
    refine XS.iload X202.here hx rfl (hb hby at_49) rfl ?_
    show Steps p.tables e below (T202.setTop (mkF m 51 #[.val (.int sel), .val (.int ra), .val (.int rb), .val (.int rc), .val (.int fl), .val (.int (3 : Int32)), .val (.int (c8 ra)), .val (.int (c8 rb)), .val (.int (c8 rc)), .val (.ref kd), .unset, .unset, .unset] [(.int (3 : Int32)), (.ref kd)])) _
    refine st203.trans ?_
    show Steps p.tables e below (T203.setTop (mkF m 54 #[.val (.int sel), .val (.int ra), .val (.int rb), .val (.int rc), .val (.int fl), .val (.int (3 : Int32)), .val (.int (c8 ra)), .val (.int (c8 rb)), .val (.int (c8 rc)), .val (.ref kd), .unset, .unset, .unset] [(.ref o203), (.ref kd)])) _
    refine st204.trans ?_
    refine XS.astore X204.here hx rfl (hb hby at_57) rfl rfl (l' := #[.val (.int sel), .val (.int ra), .val (.int rb), .val (.int rc), .val (.int fl), .val (.int (3 : Int32)), .val (.int (c8 ra)), .val (.int (c8 rb)), .val (.int (c8 rc)), .val (.ref kd), .val (.ref o204), .unset, .unset]) rfl ?_
    show Steps p.tables e below (T204.setTop (mkF m 59 #[.val (.int sel), .val (.int ra), .val (.int rb), .val (.int rc), .val (.int fl), .val (.int (3 : Int32)), .val (.int (c8 ra)), .val (.int (c8 rb)), .val (.int (c8 rc)), .val (.ref kd), .val (.ref o204), .unset, .unset] [])) _
    refine st205 _ ?_
    refine XS.aload X205.here hx rfl (hb hby at_61) rfl rfl ?_
    show Steps p.tables e below (T205.setTop (mkF m 63 #[.val (.int sel), .val (.int ra), .val (.int rb), .val (.int rc), .val (.int fl), .val (.int (3 : Int32)), .val (.int (c8 ra)), .val (.int (c8 rb)), .val (.int (c8 rc)), .val (.ref kd), .val (.ref o204), .unset, .unset] [(.ref o204), (.ref a205)])) _
    refine st206.trans ?_
    show Steps p.tables e below (T206.setTop (mkF m 66 #[.val (.int sel), .val (.int ra), .val (.int rb), .val (.int rc), .val (.int fl), .val (.int (3 : Int32)), .val (.int (c8 ra)), .val (.int (c8 rb)), .val (.int (c8 rc)), .val (.ref kd), .val (.ref o204), .unset, .unset] [(.int (1 : Int32))])) _
    exact retN X206 hx (t := .boolean) Bd.returns (by simp) (hb hby at_66) hr
  · show Q0  h0 n0 _ T206.heap _
    exact ⟨rfl, N206⟩
set_option maxRecDepth 65536 in
set_option maxHeartbeats 40000000 in
theorem rm0_40 (l : Launch) (Z : State) (a0 : Array Value) (hw : ∀ d ∈ tables_1, d.before a0 Z = true) (ws : List Jvm.Cond) (sel : Int32) (ra : Int32) (rb : Int32) (rc : Int32) (fl : Int32) (kd : Addr) (h0 : Heap) (n0 : Nat) (Z0 : n0 ≤ h0.size) (hk : kF sel = (4 : Int32)) (hst : Sta Z Z.heap "com/example/trestle/trestle/ResourceKind" "WSDL" "Lcom/example/trestle/trestle/ResourceKind;" (.ref kd)) (KDm : KD Z kd 5) (O : Old Z n0 h0) (SK : StrSta Z) (hEL : EW Z a0 EL1) (hc44 : (fl &&& (1 : Int32)) = (0 : Int32)) :
    MetFree l x (head1 (Jvm.Cond.code x code maxLocals ret :: ws) room_1) (fun aa_ U_ => aa_ = #[(.int sel), (.int ra), (.int rb), (.int rc), (.int fl)] ∧ Z.Warmed39 U_.vm ∧ U_.heap = h0 ∧ CHv Z EL1 U_.vm h0) (fun _ _ _ _ _ => True) (fun _ U_ o_ V_ => ∃ v_ L_, o_ = .returned v_ ∧ Q0  h0 n0 v_ V_.heap L_ ∧ ReturnedEndW U_ o_ V_ L_ room_1.cells room_1.slots) := by
  refine MetFree.of_bodySF (plainFor_of_name pn_0) hisR ?_
  intro p e s m args below meth c s₁ Bd hml0 hP hK
  obtain ⟨rfl, hZ, hh, CH0⟩ := hP
  have hx := Bd.exec
  have hby := Bd.bytes
  have hml : c.maxLocals = 13 := hml0
  have hown : s.vm.findClass "com/example/trestle/trestle/ResourceKindIdPinLaw" = some m.cls := findClass_of_methodNamed Bd.named
  have hnm := (name_of_methodNamed Bd.named Bd.method).1
  have X0 : Stand p l e room_1 s m #[(.int sel), (.int ra), (.int rb), (.int rc), (.int fl)] below meth c s₁ [] 0 0 := Stand.of_body Bd
  have e0 : s₁.heap = h0 := by rw [← hh, Bd.state]; rfl
  have N0 := Fr.nil n0
  have pre0 : ∀ zz, Steps p.tables e below (s₁.setTop (mkF m 0 #[.val (.int sel), .val (.int ra), .val (.int rb), .val (.int rc), .val (.int fl), .unset, .unset, .unset, .unset, .unset, .unset, .unset, .unset] [])) zz → Steps p.tables e below (s₁.setTop (entryFrame m #[(.int sel), (.int ra), (.int rb), (.int rc), (.int fl)] maxLocals)) zz := fun zz kz_ => castTop (ef_0 m sel ra rb rc fl) kz_
  have hwS : ∀ a ∈ Bundle.stringAtoms, a.before a0 Z = true := fun d hd => hw d (by simpa using (List.all_eq_true.mp (by decide +kernel : (Bundle.stringAtoms.all fun c => tables_1.contains c) = true)) d hd)
  obtain ⟨_, _, ⟨T207, L207, k207, n207⟩, -, X207, ⟨Lc207, hQ207, l207, y207, z207⟩, st207⟩ := Jvm.LawKit.callS X0 hx (y := (⟨"com/example/trestle/trestle/ResourceKindIdPinLaw", "kindOf", "(I)Lcom/example/trestle/trestle/ResourceKind;"⟩ : MethodName)) hown (mvT hZ (hw _ (List.mem_of_getElem? (i := 1) rfl))) (mvT hZ (hw _ (List.mem_of_getElem? (i := 2) rfl))) (mvT hZ (hw _ (List.mem_of_getElem? (i := 3) rfl))) (mvT hZ (hw _ (List.mem_of_getElem? (i := 4) rfl))) (by decide) (backOf (W := 0) (rmK4 l Z a0 hw [] kd h0 n0 Z0 O hst) hZ (hw _ (List.mem_of_getElem? (i := 4) rfl)) (hw _ (List.mem_of_getElem? (i := 3) rfl)) (by decide) (by decide)) (g := (mkF m 35 #[.val (.int sel), .val (.int ra), .val (.int rb), .val (.int rc), .val (.int fl), .val (.int (4 : Int32)), .val (.int (c8 ra)), .val (.int (c8 rb)), .val (.int (c8 rc)), .unset, .unset, .unset, .unset] [(.int (4 : Int32))])) rfl (by rw [hml]; rfl) (argsL := [(.int (4 : Int32))]) (rest := []) (lenOf pd_0 rfl) rfl (by show 2 * 0 + _ ≤ _; exact Nat.le_of_eq rfl) (hb hby at_35) (fun _ _ => ⟨rfl, e0, (by decide : 0 + 0 ≤ _), (by decide : 0 + 0 ≤ _)⟩)
  dsimp only [Pt.U, Pt.locs, Pt.cells, Pt.slots] at X207 l207 y207 z207 st207 hQ207
  subst l207 y207 z207
  obtain ⟨rfl, N207q, e207⟩ := hQ207
  have N207 := Fr.app N0 N207q
  obtain ⟨_, _, ⟨T208, L208, k208, n208⟩, -, X208, ⟨Lc208, hQ208, l208, y208, z208⟩, st208⟩ := Jvm.LawKit.callS X207 hx (y := (⟨"com/example/trestle/trestle/ResourceKindIdPinLaw", "withPrefix", "(ICCC)Ljava/lang/String;"⟩ : MethodName)) hown (mvT hZ (hw _ (List.mem_of_getElem? (i := 8) rfl))) (mvT hZ (hw _ (List.mem_of_getElem? (i := 9) rfl))) (mvT hZ (hw _ (List.mem_of_getElem? (i := 3) rfl))) (mvT hZ (hw _ (List.mem_of_getElem? (i := 10) rfl))) (by decide) (backOf (W := 0) (rmW4 l Z a0 hw [] (c8 ra) (c8 rb) (c8 rc) h0 n0 Z0 O SK (c8_B _) (c8_B _) (c8_B _)) hZ (hw _ (List.mem_of_getElem? (i := 10) rfl)) (hw _ (List.mem_of_getElem? (i := 3) rfl)) (by decide) (by decide)) (g := (mkF m 75 #[.val (.int sel), .val (.int ra), .val (.int rb), .val (.int rc), .val (.int fl), .val (.int (4 : Int32)), .val (.int (c8 ra)), .val (.int (c8 rb)), .val (.int (c8 rc)), .val (.ref kd), .unset, .unset, .unset] [(.int (c8 rc)), (.int (c8 rb)), (.int (c8 ra)), (.int (4 : Int32))])) rfl (by rw [hml]; rfl) (argsL := [(.int (4 : Int32)), (.int (c8 ra)), (.int (c8 rb)), (.int (c8 rc))]) (rest := []) (lenOf pd_1 rfl) rfl (by show 2 * 0 + _ ≤ _; exact Nat.le_of_eq rfl) (hb hby at_75) (fun _ _ => ⟨rfl, e207, (by decide : 0 + 4 ≤ _), (by decide : 0 + 100 ≤ _)⟩)
  dsimp only [Pt.U, Pt.locs, Pt.cells, Pt.slots] at X208 l208 y208 z208 st208 hQ208
  subst l208 y208 z208
  obtain ⟨o208, rfl, N208q, K208, S208⟩ := hQ208
  have N208 := Fr.app N207 N208q
  have KK208 := (Keep.refl h0 []).trans K208 (fun x r => absurd r List.not_mem_nil)
  have Z208 : n0 ≤ T208.heap.size := Nat.le_trans Z0 K208.1
  have O208 := O.keep K208 all0'
  obtain ⟨EO208, d208, FV208, FC208, FB208⟩ := S208
  obtain ⟨T209, h209, X209, e209, E209, A209, D209, -, st209⟩ := newO X208 hx hZ hown (hw _ (List.mem_of_getElem? (i := 11) rfl)) (hw _ (List.mem_of_getElem? (i := 12) rfl)) (hw _ (List.mem_of_getElem? (i := 13) rfl)) rfl (g := (mkF m 80 #[.val (.int sel), .val (.int ra), .val (.int rb), .val (.int rc), .val (.int fl), .val (.int (4 : Int32)), .val (.int (c8 ra)), .val (.int (c8 rb)), .val (.int (c8 rc)), .val (.ref kd), .val (.ref o208), .unset, .unset] [])) rfl (hb hby at_80) (by decide) (by decide)
  obtain ⟨b209, g209⟩ : ∃ z, z = T208.heap.size := ⟨_, rfl⟩
  rw [← g209] at A209 D209 st209
  have ne_d208_b209 : d208 ≠ b209 := Nat.ne_of_lt (Nat.lt_of_lt_of_le FB208.lt (Nat.le_of_eq g209.symm))
  have ne_o208_b209 : o208 ≠ b209 := Nat.ne_of_lt (Nat.lt_of_lt_of_le EO208.lt (Nat.le_of_eq g209.symm))
  have EO208_e209 := EO208.ext E209
  have FV208_e209 := FV208.ext E209
  have FC208_e209 := FC208.ext E209
  have FB208_e209 := FB208.ext E209
  have E_b209 := A209
  have g_b209 : n0 ≤ b209 := Nat.le_trans Z208 (Nat.le_of_eq g209.symm)
  have sz_b209 : h0.size ≤ b209 := Nat.le_trans KK208.1 (Nat.le_of_eq g209.symm)
  have K209 := KK208.ext E209
  have Z209 : n0 ≤ h209.size := Nat.le_trans Z208 E209.1
  have F_coder_b209 : Fld Z h209 b209 "java/lang/String" "coder" "B" (.int (0 : Int32)) := D209 (Or.inr (hw _ (List.mem_of_getElem? (i := 38) rfl))) (ty := .byte) (by decide)
  have F_value_b209 : Fld Z h209 b209 "java/lang/String" "value" "[B" .null := D209 (Or.inr (hw _ (List.mem_of_getElem? (i := 40) rfl))) (ty := (.array .byte)) (by decide)
  have O209 := O208.ext E209
  obtain ⟨T210, h210, X210, e210, E210, A210, st210⟩ := nwA X209 hx hZ (hw _ (List.mem_of_getElem? (i := 14) rfl)) e209 (g := (mkF m 85 #[.val (.int sel), .val (.int ra), .val (.int rb), .val (.int rc), .val (.int fl), .val (.int (4 : Int32)), .val (.int (c8 ra)), .val (.int (c8 rb)), .val (.int (c8 rc)), .val (.ref kd), .val (.ref o208), .unset, .unset] [(.int (3 : Int32)), (.ref b209), (.ref b209)])) rfl (hb hby at_85) (n := 3) rfl (cap := 3) (by decide) (by decide) (by decide) (by decide)
  obtain ⟨b210, q210⟩ : ∃ z, z = h209.size := ⟨_, rfl⟩
  rw [← q210] at A210 st210
  have V210 : AF Z h210 b210 .char 3 (fun _ => (.int (0 : Int32))) := A210
  have g_b210 : n0 ≤ b210 := Nat.le_trans Z209 (Nat.le_of_eq q210.symm)
  have sz_b210 : h0.size ≤ b210 := Nat.le_trans K209.1 (Nat.le_of_eq q210.symm)
  have K210 := K209.ext E210
  have Z210 : n0 ≤ h210.size := Nat.le_trans Z209 E210.1
  have ne_b209_b210 : b209 ≠ b210 := Nat.ne_of_lt (Nat.lt_of_lt_of_le E_b209.lt (Nat.le_of_eq q210.symm))
  have ne_d208_b210 : d208 ≠ b210 := Nat.ne_of_lt (Nat.lt_of_lt_of_le FB208_e209.lt (Nat.le_of_eq q210.symm))
  have ne_o208_b210 : o208 ≠ b210 := Nat.ne_of_lt (Nat.lt_of_lt_of_le EO208_e209.lt (Nat.le_of_eq q210.symm))
  have EO208_e210 := EO208_e209.ext E210
  have FV208_e210 := FV208_e209.ext E210
  have FC208_e210 := FC208_e209.ext E210
  have FB208_e210 := FB208_e209.ext E210
  have E_b209_e210 := E_b209.ext E210
  have F_coder_b209_e210 := F_coder_b209.ext E210
  have F_value_b209_e210 := F_value_b209.ext E210
  have O210 := O209.ext E210
  obtain ⟨T211, h211, X211, e211, W211, st211⟩ := stCh X210 hx hZ e210 V210 (i := 0) (by decide) (by decide) (x := (c8 ra)) (g := (mkF m 91 #[.val (.int sel), .val (.int ra), .val (.int rb), .val (.int rc), .val (.int fl), .val (.int (4 : Int32)), .val (.int (c8 ra)), .val (.int (c8 rb)), .val (.int (c8 rc)), .val (.ref kd), .val (.ref o208), .unset, .unset] [(.int (c8 ra)), (.int (0 : Int32)), (.ref b210), (.ref b210), (.ref b209), (.ref b209)])) rfl rfl (hb hby at_91)
  have A211 := V210.wr W211
  have EO208_e211 := EO208_e210.wr W211
  have FV208_e211 := FV208_e210.other W211 (Or.inl ne_o208_b210)
  have FC208_e211 := FC208_e210.other W211 (Or.inl ne_o208_b210)
  have FB208_e211 := FB208_e210.other W211 ne_d208_b210
  have E_b209_e211 := E_b209_e210.wr W211
  have F_coder_b209_e211 := F_coder_b209_e210.other W211 (Or.inl ne_b209_b210)
  have F_value_b209_e211 := F_value_b209_e210.other W211 (Or.inl ne_b209_b210)
  have N211 := Fr.snoc X211 N208 g_b210
  have K211 := K210.wr W211 (Or.inr sz_b210)
  have Z211 : n0 ≤ h211.size := Nat.le_trans Z210 (Keep.of_wr W211).1
  have O211 := O210.wr W211 g_b210
  obtain ⟨T212, h212, X212, e212, W212, st212⟩ := stCh X211 hx hZ e211 A211 (i := 1) (by decide) (by decide) (x := (c8 rb)) (g := (mkF m 96 #[.val (.int sel), .val (.int ra), .val (.int rb), .val (.int rc), .val (.int fl), .val (.int (4 : Int32)), .val (.int (c8 ra)), .val (.int (c8 rb)), .val (.int (c8 rc)), .val (.ref kd), .val (.ref o208), .unset, .unset] [(.int (c8 rb)), (.int (1 : Int32)), (.ref b210), (.ref b210), (.ref b209), (.ref b209)])) rfl rfl (hb hby at_96)
  have A212 := A211.wr W212
  have EO208_e212 := EO208_e211.wr W212
  have FV208_e212 := FV208_e211.other W212 (Or.inl ne_o208_b210)
  have FC208_e212 := FC208_e211.other W212 (Or.inl ne_o208_b210)
  have FB208_e212 := FB208_e211.other W212 ne_d208_b210
  have E_b209_e212 := E_b209_e211.wr W212
  have F_coder_b209_e212 := F_coder_b209_e211.other W212 (Or.inl ne_b209_b210)
  have F_value_b209_e212 := F_value_b209_e211.other W212 (Or.inl ne_b209_b210)
  have N212 := Fr.snoc X212 N211 g_b210
  have K212 := K211.wr W212 (Or.inr sz_b210)
  have Z212 : n0 ≤ h212.size := Nat.le_trans Z211 (Keep.of_wr W212).1
  have O212 := O211.wr W212 g_b210
  obtain ⟨T213, h213, X213, e213, W213, st213⟩ := stCh X212 hx hZ e212 A212 (i := 2) (by decide) (by decide) (x := (c8 rc)) (g := (mkF m 101 #[.val (.int sel), .val (.int ra), .val (.int rb), .val (.int rc), .val (.int fl), .val (.int (4 : Int32)), .val (.int (c8 ra)), .val (.int (c8 rb)), .val (.int (c8 rc)), .val (.ref kd), .val (.ref o208), .unset, .unset] [(.int (c8 rc)), (.int (2 : Int32)), (.ref b210), (.ref b210), (.ref b209), (.ref b209)])) rfl rfl (hb hby at_101)
  have A213 := A212.wr W213
  have EO208_e213 := EO208_e212.wr W213
  have FV208_e213 := FV208_e212.other W213 (Or.inl ne_o208_b210)
  have FC208_e213 := FC208_e212.other W213 (Or.inl ne_o208_b210)
  have FB208_e213 := FB208_e212.other W213 ne_d208_b210
  have E_b209_e213 := E_b209_e212.wr W213
  have F_coder_b209_e213 := F_coder_b209_e212.other W213 (Or.inl ne_b209_b210)
  have F_value_b209_e213 := F_value_b209_e212.other W213 (Or.inl ne_b209_b210)
  have N213 := Fr.snoc X213 N212 g_b210
  have K213 := K212.wr W213 (Or.inr sz_b210)
  have Z213 : n0 ≤ h213.size := Nat.le_trans Z212 (Keep.of_wr W213).1
  have O213 := O212.wr W213 g_b210
  have hBb209 : ∀ j, isB (gl [(c8 ra), (c8 rb), (c8 rc)] j) := glB (List.forall_mem_cons.mpr ⟨(c8_B _), (List.forall_mem_cons.mpr ⟨(c8_B _), (List.forall_mem_cons.mpr ⟨(c8_B _), (fun _ q => absurd q List.not_mem_nil)⟩)⟩)⟩)
  obtain ⟨_, _, ⟨T214, L214, k214, n214⟩, -, X214, ⟨Lc214, hQ214, l214, y214, z214⟩, st214⟩ := X213.specialBack hx (y := (⟨"java/lang/String", "<init>", "([C)V"⟩ : MethodName)) rfl hown (mvT hZ (hw _ (List.mem_of_getElem? (i := 15) rfl))) (mvT hZ (hw _ (List.mem_of_getElem? (i := 16) rfl))) (mvT hZ (hw _ (List.mem_of_getElem? (i := 17) rfl))) (by decide) (backOf (W := 1) (rmI1 l Z a0 hw [] b209 b210 3 (gl [(c8 ra), (c8 rb), (c8 rc)]) h213 n0 Z213 (by decide) (by decide) O213 SK (A213.congr (updS (updS (updS upd0 (congrArg Value.int (nar_id (isCh_of (c8_B _))))) (congrArg Value.int (nar_id (isCh_of (c8_B _))))) (congrArg Value.int (nar_id (isCh_of (c8_B _)))))) (fun j _ => isCh_of (hBb209 j)) E_b209_e213 F_value_b209_e213 F_coder_b209_e213 g_b209 (Ne.symm ne_b209_b210) (fun j _ => notBig (hBb209 j))) hZ (hw _ (List.mem_of_getElem? (i := 17) rfl)) (hw _ (List.mem_of_getElem? (i := 13) rfl)) (by decide) (by decide)) (g := (mkF m 102 #[.val (.int sel), .val (.int ra), .val (.int rb), .val (.int rc), .val (.int fl), .val (.int (4 : Int32)), .val (.int (c8 ra)), .val (.int (c8 rb)), .val (.int (c8 rc)), .val (.ref kd), .val (.ref o208), .unset, .unset] [(.ref b210), (.ref b209), (.ref b209)])) rfl (by rw [hml]; rfl) (Steps.refl _) (a := b209) (argsL := [(.ref b210)]) (rest := [(.ref b209)]) (lenOf pd_2 rfl) rfl (by show 2 * 0 + _ ≤ _; exact Nat.le_of_eq rfl) (hb hby at_102) (fun _ _ => ⟨rfl, e213, (by decide : 6 + 2 ≤ _), (by decide : 107 + 60 ≤ _)⟩)
  dsimp only [Pt.U, Pt.locs, Pt.cells, Pt.slots] at X214 l214 y214 z214 st214 hQ214
  subst l214 y214 z214
  obtain ⟨rfl, N214q, K214, S214⟩ := hQ214
  have N214 := Fr.app N213 N214q
  have EO208_e214 := EO208_e213.keep K214
  have FV208_e214 := FV208_e213.keep K214 (notin1 ne_o208_b209)
  have FC208_e214 := FC208_e213.keep K214 (notin1 ne_o208_b209)
  have FB208_e214 := FB208_e213.keep K214 (notin1 ne_d208_b209)
  have E_b209_e214 := E_b209_e213.keep K214
  have KK214 := K213.trans K214 (fun x r => by cases List.mem_singleton.mp r; exact (Or.inr sz_b209))
  have Z214 : n0 ≤ T214.heap.size := Nat.le_trans Z213 K214.1
  have O214 := O213.keep K214 (all1 g_b209)
  have SW214 : StrV Z _ o208 8 (Lb (gl [(c8 ra), (c8 rb), (c8 rc), (46 : Int32), (119 : Int32), (115 : Int32), (100 : Int32), (108 : Int32)])) := ⟨EO208_e214, d208, FV208_e214, FC208_e214, FB208_e214⟩
  have EKo208 := KDm.1.ext O214.2
  obtain ⟨cq215, kq215, q215a, q215b, q215c⟩ := isOf hZ rfl EKo208
  obtain ⟨_, _, ⟨T215, L215, k215, n215⟩, -, X215, ⟨Lc215, hQ215, l215, y215, z215⟩, st215⟩ := X214.virtualBack hx (y := (⟨"com/example/trestle/trestle/ResourceKind", "id", "(Ljava/lang/String;)Ljava/lang/String;"⟩ : MethodName)) (z := (⟨"com/example/trestle/trestle/ResourceKind", "id", "(Ljava/lang/String;)Ljava/lang/String;"⟩ : MethodName)) hown (mvT hZ (hw _ (List.mem_of_getElem? (i := 41) rfl))) (mvT hZ (hw _ (List.mem_of_getElem? (i := 42) rfl))) (notFace_of_selects (args := #[]) (mvT hZ (hw _ (List.mem_of_getElem? (i := 44) rfl)))) (mvT hZ (hw _ (List.mem_of_getElem? (i := 44) rfl))) (mvT hZ (hw _ (List.mem_of_getElem? (i := 43) rfl))) (by decide) (backOf (W := 0) (rmID l Z a0 hw [] kd o208 8 5 (Lb (gl [(c8 ra), (c8 rb), (c8 rc), (46 : Int32), (119 : Int32), (115 : Int32), (100 : Int32), (108 : Int32)])) T214.heap n0 Z214 (by decide) O214 SK SW214 (by decide) (by decide) KDm (fitsLb _ _)) hZ (hw _ (List.mem_of_getElem? (i := 45) rfl)) (hw _ (List.mem_of_getElem? (i := 6) rfl)) (by decide) (by decide)) q215a q215c (g := (mkF m 111 #[.val (.int sel), .val (.int ra), .val (.int rb), .val (.int rc), .val (.int fl), .val (.int (4 : Int32)), .val (.int (c8 ra)), .val (.int (c8 rb)), .val (.int (c8 rc)), .val (.ref kd), .val (.ref o208), .val (.ref b209), .unset] [(.ref o208), (.ref kd)])) rfl (by rw [hml]; rfl) (Steps.refl _) (argsL := [(.ref o208)]) (rest := []) (lenOf pd_8 rfl) rfl (by show 2 * 0 + _ ≤ _; exact Nat.le_of_eq rfl) (hb hby at_111) (fun _ _ => ⟨rfl, rfl, (by decide : 8 + 2 ≤ _), (by decide : 167 + 24 ≤ _)⟩)
  dsimp only [Pt.U, Pt.locs, Pt.cells, Pt.slots] at X215 l215 y215 z215 st215 hQ215
  subst l215 y215 z215
  obtain ⟨o215, rfl, N215q, K215, S215⟩ := hQ215
  have N215 := Fr.app N214 N215q
  have KK215 := KK214.trans K215 (fun x r => absurd r List.not_mem_nil)
  have Z215 : n0 ≤ T215.heap.size := Nat.le_trans Z214 K215.1
  have O215 := O214.keep K215 all0'
  have SB215 := S214.keep K215
  obtain ⟨cq216, kq216, q216a, q216b, q216c⟩ := isOf hZ rfl SB215.1
  obtain ⟨_, _, ⟨T216, L216, k216, n216⟩, -, X216, ⟨Lc216, hQ216, l216, y216, z216⟩, st216⟩ := X215.virtualBack hx (y := (⟨"java/lang/String", "equals", "(Ljava/lang/Object;)Z"⟩ : MethodName)) (z := (⟨"java/lang/String", "equals", "(Ljava/lang/Object;)Z"⟩ : MethodName)) hown (mvT hZ (hw _ (List.mem_of_getElem? (i := 103) rfl))) (mvT hZ (hw _ (List.mem_of_getElem? (i := 104) rfl))) (notFace_of_selects (args := #[]) (mvT hZ (hw _ (List.mem_of_getElem? (i := 106) rfl)))) (mvT hZ (hw _ (List.mem_of_getElem? (i := 106) rfl))) (mvT hZ (hw _ (List.mem_of_getElem? (i := 105) rfl))) (by decide) (backOf (W := 0) (rmEQ l Z a0 hw [] b209 o215 3 (fun j => b8 (gl [(c8 ra), (c8 rb), (c8 rc)] j)) T215.heap n0 Z215 (by decide) O215 SK SB215 (S215.congr c3)) hZ (hw _ (List.mem_of_getElem? (i := 107) rfl)) (hw _ (List.mem_of_getElem? (i := 13) rfl)) (by decide) (by decide)) q216a q216c (g := (mkF m 120 #[.val (.int sel), .val (.int ra), .val (.int rb), .val (.int rc), .val (.int fl), .val (.int (4 : Int32)), .val (.int (c8 ra)), .val (.int (c8 rb)), .val (.int (c8 rc)), .val (.ref kd), .val (.ref o208), .val (.ref b209), .val (.ref o215)] [(.ref o215), (.ref b209)])) rfl (by rw [hml]; rfl) (Steps.refl _) (argsL := [(.ref o215)]) (rest := []) (lenOf pd_21 rfl) rfl (by show 2 * 0 + _ ≤ _; exact Nat.le_of_eq rfl) (hb hby at_120) (fun _ _ => ⟨rfl, rfl, (by decide : 10 + 0 ≤ _), (by decide : 191 + 0 ≤ _)⟩)
  dsimp only [Pt.U, Pt.locs, Pt.cells, Pt.slots] at X216 l216 y216 z216 st216 hQ216
  subst l216 y216 z216
  obtain ⟨rfl, N216q, e216⟩ := hQ216
  have N216 := Fr.app N215 N216q
  obtain ⟨fs, hr, hrun, hended, -, hWW, hBB, hSS⟩ := Stand.leaveW (s := s) (vm₁ := s.vm) X216 ((State.WarmedH.refl s).since 0) (by rw [e216]; exact (Nat.zero_le _)) (v := some (.int (1 : Int32))) (fun h => by rw [Bd.returns] at h; cases h)
  refine ⟨_, _, pre0 _ ?_, hrun, hended, _, _, rfl, ?_, ⟨_, rfl⟩, hWW, hBB, hSS.mono (by decide) (by decide)⟩
  · show Steps p.tables e below (s₁.setTop (mkF m 0 #[.val (.int sel), .val (.int ra), .val (.int rb), .val (.int rc), .val (.int fl), .unset, .unset, .unset, .unset, .unset, .unset, .unset, .unset] [])) _
    refine XS.iloadN X0.here hx rfl (hb hby at_0) rfl ?_
    refine X0.ldcInt hx hown (mvT hZ (hw _ (List.mem_of_getElem? (i := 0) rfl))) (g := (mkF m 1 #[.val (.int sel), .val (.int ra), .val (.int rb), .val (.int rc), .val (.int fl), .unset, .unset, .unset, .unset, .unset, .unset, .unset, .unset] [(.int sel)])) rfl (hb hby at_1) _ ?_
    refine XS.iand X0.here hx rfl (hb hby at_3) rfl ?_
    refine XS.bipush X0.here hx rfl (hb hby at_4) ?_
    refine gwIrem X0.here hx rfl (hb hby at_6) rfl (by decide) ?_
    show Steps p.tables e below (s₁.setTop (mkF m 7 #[.val (.int sel), .val (.int ra), .val (.int rb), .val (.int rc), .val (.int fl), .unset, .unset, .unset, .unset, .unset, .unset, .unset, .unset] [(.int (kF sel))])) _
    refine XS.istore X0.here hx rfl (hb hby at_7) rfl (l' := #[.val (.int sel), .val (.int ra), .val (.int rb), .val (.int rc), .val (.int fl), .val (.int (kF sel)), .unset, .unset, .unset, .unset, .unset, .unset, .unset]) rfl ?_
    refine XS.iloadN X0.here hx rfl (hb hby at_9) rfl ?_
    refine XS.sipush X0.here hx rfl (hb hby at_10) ?_
    refine XS.iand X0.here hx rfl (hb hby at_13) rfl ?_
    refine XS.i2c X0.here hx rfl (hb hby at_14) rfl ?_
    show Steps p.tables e below (s₁.setTop (mkF m 15 #[.val (.int sel), .val (.int ra), .val (.int rb), .val (.int rc), .val (.int fl), .val (.int (kF sel)), .unset, .unset, .unset, .unset, .unset, .unset, .unset] [(.int (c8 ra))])) _
    refine XS.istore X0.here hx rfl (hb hby at_15) rfl (l' := #[.val (.int sel), .val (.int ra), .val (.int rb), .val (.int rc), .val (.int fl), .val (.int (kF sel)), .val (.int (c8 ra)), .unset, .unset, .unset, .unset, .unset, .unset]) rfl ?_
    refine XS.iloadN X0.here hx rfl (hb hby at_17) rfl ?_
    refine XS.sipush X0.here hx rfl (hb hby at_18) ?_
    refine XS.iand X0.here hx rfl (hb hby at_21) rfl ?_
    refine XS.i2c X0.here hx rfl (hb hby at_22) rfl ?_
    show Steps p.tables e below (s₁.setTop (mkF m 23 #[.val (.int sel), .val (.int ra), .val (.int rb), .val (.int rc), .val (.int fl), .val (.int (kF sel)), .val (.int (c8 ra)), .unset, .unset, .unset, .unset, .unset, .unset] [(.int (c8 rb))])) _
    refine XS.istore X0.here hx rfl (hb hby at_23) rfl (l' := #[.val (.int sel), .val (.int ra), .val (.int rb), .val (.int rc), .val (.int fl), .val (.int (kF sel)), .val (.int (c8 ra)), .val (.int (c8 rb)), .unset, .unset, .unset, .unset, .unset]) rfl ?_
    refine XS.iloadN X0.here hx rfl (hb hby at_25) rfl ?_
    refine XS.sipush X0.here hx rfl (hb hby at_26) ?_
    refine XS.iand X0.here hx rfl (hb hby at_29) rfl ?_
    refine XS.i2c X0.here hx rfl (hb hby at_30) rfl ?_
    show Steps p.tables e below (s₁.setTop (mkF m 31 #[.val (.int sel), .val (.int ra), .val (.int rb), .val (.int rc), .val (.int fl), .val (.int (kF sel)), .val (.int (c8 ra)), .val (.int (c8 rb)), .unset, .unset, .unset, .unset, .unset] [(.int (c8 rc))])) _
    refine XS.istore X0.here hx rfl (hb hby at_31) rfl (l' := #[.val (.int sel), .val (.int ra), .val (.int rb), .val (.int rc), .val (.int fl), .val (.int (kF sel)), .val (.int (c8 ra)), .val (.int (c8 rb)), .val (.int (c8 rc)), .unset, .unset, .unset, .unset]) rfl ?_
    refine XS.iload X0.here hx rfl (hb hby at_33) rfl ?_
    show Steps p.tables e below (s₁.setTop (mkF m 35 #[.val (.int sel), .val (.int ra), .val (.int rb), .val (.int rc), .val (.int fl), .val (.int (kF sel)), .val (.int (c8 ra)), .val (.int (c8 rb)), .val (.int (c8 rc)), .unset, .unset, .unset, .unset] [(.int (kF sel))])) _
    rw [show (kF sel) = (4 : Int32) from hk]
    show Steps p.tables e below (s₁.setTop (mkF m 35 #[.val (.int sel), .val (.int ra), .val (.int rb), .val (.int rc), .val (.int fl), .val (.int (4 : Int32)), .val (.int (c8 ra)), .val (.int (c8 rb)), .val (.int (c8 rc)), .unset, .unset, .unset, .unset] [(.int (4 : Int32))])) _
    refine st207 _ ?_
    refine XS.astore X207.here hx rfl (hb hby at_38) rfl rfl (l' := #[.val (.int sel), .val (.int ra), .val (.int rb), .val (.int rc), .val (.int fl), .val (.int (4 : Int32)), .val (.int (c8 ra)), .val (.int (c8 rb)), .val (.int (c8 rc)), .val (.ref kd), .unset, .unset, .unset]) rfl ?_
    refine XS.iload X207.here hx rfl (hb hby at_40) rfl ?_
    refine XS.iconst X207.here hx rfl (hb hby at_42) ?_
    refine XS.iand X207.here hx rfl (hb hby at_43) rfl ?_
    refine XS.ifYes X207.here hx rfl (pc0 := 44) (pc' := 67) rfl (hb hby at_44) rfl ((if0 _ _).trans (teq hc44).1) (by decide) (by decide) ?_
    show Steps p.tables e below (T207.setTop (mkF m 67 #[.val (.int sel), .val (.int ra), .val (.int rb), .val (.int rc), .val (.int fl), .val (.int (4 : Int32)), .val (.int (c8 ra)), .val (.int (c8 rb)), .val (.int (c8 rc)), .val (.ref kd), .unset, .unset, .unset] [])) _
    refine XS.iload X207.here hx rfl (hb hby at_67) rfl ?_
    refine XS.iload X207.here hx rfl (hb hby at_69) rfl ?_
    refine XS.iload X207.here hx rfl (hb hby at_71) rfl ?_
    refine XS.iload X207.here hx rfl (hb hby at_73) rfl ?_
    show Steps p.tables e below (T207.setTop (mkF m 75 #[.val (.int sel), .val (.int ra), .val (.int rb), .val (.int rc), .val (.int fl), .val (.int (4 : Int32)), .val (.int (c8 ra)), .val (.int (c8 rb)), .val (.int (c8 rc)), .val (.ref kd), .unset, .unset, .unset] [(.int (c8 rc)), (.int (c8 rb)), (.int (c8 ra)), (.int (4 : Int32))])) _
    refine st208 _ ?_
    refine XS.astore X208.here hx rfl (hb hby at_78) rfl rfl (l' := #[.val (.int sel), .val (.int ra), .val (.int rb), .val (.int rc), .val (.int fl), .val (.int (4 : Int32)), .val (.int (c8 ra)), .val (.int (c8 rb)), .val (.int (c8 rc)), .val (.ref kd), .val (.ref o208), .unset, .unset]) rfl ?_
    show Steps p.tables e below (T208.setTop (mkF m 80 #[.val (.int sel), .val (.int ra), .val (.int rb), .val (.int rc), .val (.int fl), .val (.int (4 : Int32)), .val (.int (c8 ra)), .val (.int (c8 rb)), .val (.int (c8 rc)), .val (.ref kd), .val (.ref o208), .unset, .unset] [])) _
    refine st209 _ ?_
    refine XS.dup X209.here hx rfl (hb hby at_83) rfl rfl ?_
    refine XS.iconst X209.here hx rfl (hb hby at_84) ?_
    show Steps p.tables e below (T209.setTop (mkF m 85 #[.val (.int sel), .val (.int ra), .val (.int rb), .val (.int rc), .val (.int fl), .val (.int (4 : Int32)), .val (.int (c8 ra)), .val (.int (c8 rb)), .val (.int (c8 rc)), .val (.ref kd), .val (.ref o208), .unset, .unset] [(.int (3 : Int32)), (.ref b209), (.ref b209)])) _
    refine st210 _ ?_
    refine XS.dup X210.here hx rfl (hb hby at_87) rfl rfl ?_
    refine XS.iconst X210.here hx rfl (hb hby at_88) ?_
    refine XS.iload X210.here hx rfl (hb hby at_89) rfl ?_
    show Steps p.tables e below (T210.setTop (mkF m 91 #[.val (.int sel), .val (.int ra), .val (.int rb), .val (.int rc), .val (.int fl), .val (.int (4 : Int32)), .val (.int (c8 ra)), .val (.int (c8 rb)), .val (.int (c8 rc)), .val (.ref kd), .val (.ref o208), .unset, .unset] [(.int (c8 ra)), (.int (0 : Int32)), (.ref b210), (.ref b210), (.ref b209), (.ref b209)])) _
    refine st211 _ ?_
    refine XS.dup X211.here hx rfl (hb hby at_92) rfl rfl ?_
    refine XS.iconst X211.here hx rfl (hb hby at_93) ?_
    refine XS.iload X211.here hx rfl (hb hby at_94) rfl ?_
    show Steps p.tables e below (T211.setTop (mkF m 96 #[.val (.int sel), .val (.int ra), .val (.int rb), .val (.int rc), .val (.int fl), .val (.int (4 : Int32)), .val (.int (c8 ra)), .val (.int (c8 rb)), .val (.int (c8 rc)), .val (.ref kd), .val (.ref o208), .unset, .unset] [(.int (c8 rb)), (.int (1 : Int32)), (.ref b210), (.ref b210), (.ref b209), (.ref b209)])) _
    refine st212 _ ?_
    refine XS.dup X212.here hx rfl (hb hby at_97) rfl rfl ?_
    refine XS.iconst X212.here hx rfl (hb hby at_98) ?_
    refine XS.iload X212.here hx rfl (hb hby at_99) rfl ?_
    show Steps p.tables e below (T212.setTop (mkF m 101 #[.val (.int sel), .val (.int ra), .val (.int rb), .val (.int rc), .val (.int fl), .val (.int (4 : Int32)), .val (.int (c8 ra)), .val (.int (c8 rb)), .val (.int (c8 rc)), .val (.ref kd), .val (.ref o208), .unset, .unset] [(.int (c8 rc)), (.int (2 : Int32)), (.ref b210), (.ref b210), (.ref b209), (.ref b209)])) _
    refine st213 _ ?_
    show Steps p.tables e below (T213.setTop (mkF m 102 #[.val (.int sel), .val (.int ra), .val (.int rb), .val (.int rc), .val (.int fl), .val (.int (4 : Int32)), .val (.int (c8 ra)), .val (.int (c8 rb)), .val (.int (c8 rc)), .val (.ref kd), .val (.ref o208), .unset, .unset] [(.ref b210), (.ref b209), (.ref b209)])) _
    refine st214.trans ?_
    refine XS.astore X214.here hx rfl (hb hby at_105) rfl rfl (l' := #[.val (.int sel), .val (.int ra), .val (.int rb), .val (.int rc), .val (.int fl), .val (.int (4 : Int32)), .val (.int (c8 ra)), .val (.int (c8 rb)), .val (.int (c8 rc)), .val (.ref kd), .val (.ref o208), .val (.ref b209), .unset]) rfl ?_
    refine XS.aload X214.here hx rfl (hb hby at_107) rfl rfl ?_
    refine XS.aload X214.here hx rfl (hb hby at_109) rfl rfl ?_
    show Steps p.tables e below (T214.setTop (mkF m 111 #[.val (.int sel), .val (.int ra), .val (.int rb), .val (.int rc), .val (.int fl), .val (.int (4 : Int32)), .val (.int (c8 ra)), .val (.int (c8 rb)), .val (.int (c8 rc)), .val (.ref kd), .val (.ref o208), .val (.ref b209), .unset] [(.ref o208), (.ref kd)])) _
    refine st215.trans ?_
    refine XS.astore X215.here hx rfl (hb hby at_114) rfl rfl (l' := #[.val (.int sel), .val (.int ra), .val (.int rb), .val (.int rc), .val (.int fl), .val (.int (4 : Int32)), .val (.int (c8 ra)), .val (.int (c8 rb)), .val (.int (c8 rc)), .val (.ref kd), .val (.ref o208), .val (.ref b209), .val (.ref o215)]) rfl ?_
    refine XS.aload X215.here hx rfl (hb hby at_116) rfl rfl ?_
    refine XS.aload X215.here hx rfl (hb hby at_118) rfl rfl ?_
    show Steps p.tables e below (T215.setTop (mkF m 120 #[.val (.int sel), .val (.int ra), .val (.int rb), .val (.int rc), .val (.int fl), .val (.int (4 : Int32)), .val (.int (c8 ra)), .val (.int (c8 rb)), .val (.int (c8 rc)), .val (.ref kd), .val (.ref o208), .val (.ref b209), .val (.ref o215)] [(.ref o215), (.ref b209)])) _
    refine st216.trans ?_
    show Steps p.tables e below (T216.setTop (mkF m 123 #[.val (.int sel), .val (.int ra), .val (.int rb), .val (.int rc), .val (.int fl), .val (.int (4 : Int32)), .val (.int (c8 ra)), .val (.int (c8 rb)), .val (.int (c8 rc)), .val (.ref kd), .val (.ref o208), .val (.ref b209), .val (.ref o215)] [(.int (1 : Int32))])) _
    exact retN X216 hx (t := .boolean) Bd.returns (by simp) (hb hby at_123) hr
  · show Q0  h0 n0 _ T216.heap _
    exact ⟨rfl, N216⟩
set_option maxRecDepth 65536 in
set_option maxHeartbeats 40000000 in
theorem rm0_41 (l : Launch) (Z : State) (a0 : Array Value) (hw : ∀ d ∈ tables_1, d.before a0 Z = true) (ws : List Jvm.Cond) (sel : Int32) (ra : Int32) (rb : Int32) (rc : Int32) (fl : Int32) (kd : Addr) (h0 : Heap) (n0 : Nat) (Z0 : n0 ≤ h0.size) (hk : kF sel = (4 : Int32)) (hst : Sta Z Z.heap "com/example/trestle/trestle/ResourceKind" "WSDL" "Lcom/example/trestle/trestle/ResourceKind;" (.ref kd)) (KDm : KD Z kd 5) (O : Old Z n0 h0) (SK : StrSta Z) (hEL : EW Z a0 EL1) (hc44 : ¬ ((fl &&& (1 : Int32)) = (0 : Int32))) :
    MetFree l x (head1 (Jvm.Cond.code x code maxLocals ret :: ws) room_1) (fun aa_ U_ => aa_ = #[(.int sel), (.int ra), (.int rb), (.int rc), (.int fl)] ∧ Z.Warmed39 U_.vm ∧ U_.heap = h0 ∧ CHv Z EL1 U_.vm h0) (fun _ _ _ _ _ => True) (fun _ U_ o_ V_ => ∃ v_ L_, o_ = .returned v_ ∧ Q0  h0 n0 v_ V_.heap L_ ∧ ReturnedEndW U_ o_ V_ L_ room_1.cells room_1.slots) := by
  refine MetFree.of_bodySF (plainFor_of_name pn_0) hisR ?_
  intro p e s m args below meth c s₁ Bd hml0 hP hK
  obtain ⟨rfl, hZ, hh, CH0⟩ := hP
  have hx := Bd.exec
  have hby := Bd.bytes
  have hml : c.maxLocals = 13 := hml0
  have hown : s.vm.findClass "com/example/trestle/trestle/ResourceKindIdPinLaw" = some m.cls := findClass_of_methodNamed Bd.named
  have hnm := (name_of_methodNamed Bd.named Bd.method).1
  have X0 : Stand p l e room_1 s m #[(.int sel), (.int ra), (.int rb), (.int rc), (.int fl)] below meth c s₁ [] 0 0 := Stand.of_body Bd
  have e0 : s₁.heap = h0 := by rw [← hh, Bd.state]; rfl
  have N0 := Fr.nil n0
  have pre0 : ∀ zz, Steps p.tables e below (s₁.setTop (mkF m 0 #[.val (.int sel), .val (.int ra), .val (.int rb), .val (.int rc), .val (.int fl), .unset, .unset, .unset, .unset, .unset, .unset, .unset, .unset] [])) zz → Steps p.tables e below (s₁.setTop (entryFrame m #[(.int sel), (.int ra), (.int rb), (.int rc), (.int fl)] maxLocals)) zz := fun zz kz_ => castTop (ef_0 m sel ra rb rc fl) kz_
  have hwS : ∀ a ∈ Bundle.stringAtoms, a.before a0 Z = true := fun d hd => hw d (by simpa using (List.all_eq_true.mp (by decide +kernel : (Bundle.stringAtoms.all fun c => tables_1.contains c) = true)) d hd)
  obtain ⟨_, _, ⟨T217, L217, k217, n217⟩, -, X217, ⟨Lc217, hQ217, l217, y217, z217⟩, st217⟩ := Jvm.LawKit.callS X0 hx (y := (⟨"com/example/trestle/trestle/ResourceKindIdPinLaw", "kindOf", "(I)Lcom/example/trestle/trestle/ResourceKind;"⟩ : MethodName)) hown (mvT hZ (hw _ (List.mem_of_getElem? (i := 1) rfl))) (mvT hZ (hw _ (List.mem_of_getElem? (i := 2) rfl))) (mvT hZ (hw _ (List.mem_of_getElem? (i := 3) rfl))) (mvT hZ (hw _ (List.mem_of_getElem? (i := 4) rfl))) (by decide) (backOf (W := 0) (rmK4 l Z a0 hw [] kd h0 n0 Z0 O hst) hZ (hw _ (List.mem_of_getElem? (i := 4) rfl)) (hw _ (List.mem_of_getElem? (i := 3) rfl)) (by decide) (by decide)) (g := (mkF m 35 #[.val (.int sel), .val (.int ra), .val (.int rb), .val (.int rc), .val (.int fl), .val (.int (4 : Int32)), .val (.int (c8 ra)), .val (.int (c8 rb)), .val (.int (c8 rc)), .unset, .unset, .unset, .unset] [(.int (4 : Int32))])) rfl (by rw [hml]; rfl) (argsL := [(.int (4 : Int32))]) (rest := []) (lenOf pd_0 rfl) rfl (by show 2 * 0 + _ ≤ _; exact Nat.le_of_eq rfl) (hb hby at_35) (fun _ _ => ⟨rfl, e0, (by decide : 0 + 0 ≤ _), (by decide : 0 + 0 ≤ _)⟩)
  dsimp only [Pt.U, Pt.locs, Pt.cells, Pt.slots] at X217 l217 y217 z217 st217 hQ217
  subst l217 y217 z217
  obtain ⟨rfl, N217q, e217⟩ := hQ217
  have N217 := Fr.app N0 N217q
  obtain ⟨_, _, ⟨T218, L218, k218, n218⟩, -, X218, hS2218, hg218, ⟨Lc218, hQ218, l218, y218, z218, C218⟩, st218⟩ := callSS X217 hx (y := (⟨"com/example/trestle/trestle/ResourceKindIdPinLaw", "suffixOf", "(I)Ljava/lang/String;"⟩ : MethodName)) hown (mvT hZ (hw _ (List.mem_of_getElem? (i := 114) rfl))) (mvT hZ (hw _ (List.mem_of_getElem? (i := 115) rfl))) (mvT hZ (hw _ (List.mem_of_getElem? (i := 3) rfl))) (mvT hZ (hw _ (List.mem_of_getElem? (i := 116) rfl))) (by decide) (backOfSH (s := s) (vm0 := s.vm) (EL := EL1) (W := 1) (rmSX4 l Z a0 hw []  h0 n0 Z0 hEL) hZ (hw _ (List.mem_of_getElem? (i := 116) rfl)) (hw _ (List.mem_of_getElem? (i := 3) rfl)) (by decide) (by decide) hEL CH0) (g := (mkF m 51 #[.val (.int sel), .val (.int ra), .val (.int rb), .val (.int rc), .val (.int fl), .val (.int (4 : Int32)), .val (.int (c8 ra)), .val (.int (c8 rb)), .val (.int (c8 rc)), .val (.ref kd), .unset, .unset, .unset] [(.int (4 : Int32)), (.ref kd)])) rfl (by rw [hml]; rfl) (argsL := [(.int (4 : Int32))]) (rest := [(.ref kd)]) (lenOf pd_23 rfl) rfl (by show 2 * 0 + _ ≤ _; exact Nat.le_of_eq rfl) (hb hby at_51) (fun _ _ => ⟨rfl, e217, (by decide : 0 + 2 ≤ _), (by decide : 0 + 60 ≤ _)⟩)
  dsimp only [Pt.U, Pt.locs, Pt.cells, Pt.slots] at X218 l218 y218 z218 st218 hQ218 hS2218 hg218
  subst l218 y218 z218
  obtain ⟨o218, rfl, N218q, K218, S218⟩ := hQ218
  have N218 := Fr.app N217 N218q
  dsimp only [Pt.U, Pt.locs, Pt.cells, Pt.slots] at C218
  have CR218 := (CHr.refl CH0).trans C218
  have hS218 := foldS ((State.WarmedH.refl s).since 0) (by rw [e217]; exact (Nat.zero_le _)) hS2218 hg218
  have hZ218 : Z.Warmed39 (s.setVm T218.vm).vm := State.Warmed39.trans hZ hS2218.1
  have hown218 : (s.setVm T218.vm).vm.findClass "com/example/trestle/trestle/ResourceKindIdPinLaw" = some m.cls := by rw [show (s.setVm T218.vm).vm = T218.vm from rfl, hS2218.1.alike.findClass]; exact hown
  have KK218 := (Keep.refl h0 []).trans K218 (fun x r => absurd r List.not_mem_nil)
  have Z218 : n0 ≤ T218.heap.size := Nat.le_trans Z0 K218.1
  have O218 := O.keep K218 all0'
  have EKo218 := KDm.1.ext O218.2
  obtain ⟨cq219, kq219, q219a, q219b, q219c⟩ := isOf hZ218 rfl EKo218
  obtain ⟨_, _, ⟨T219, L219, k219, n219⟩, -, X219, hS2219, hg219, ⟨Lc219, hQ219, l219, y219, z219, C219⟩, st219⟩ := X218.virtualBackS hx (y := (⟨"com/example/trestle/trestle/ResourceKind", "id", "(Ljava/lang/String;)Ljava/lang/String;"⟩ : MethodName)) (z := (⟨"com/example/trestle/trestle/ResourceKind", "id", "(Ljava/lang/String;)Ljava/lang/String;"⟩ : MethodName)) hown218 (mvT hZ218 (hw _ (List.mem_of_getElem? (i := 41) rfl))) (mvT hZ218 (hw _ (List.mem_of_getElem? (i := 42) rfl))) (notFace_of_selects (args := #[]) (mvT hZ218 (hw _ (List.mem_of_getElem? (i := 44) rfl)))) (mvT hZ218 (hw _ (List.mem_of_getElem? (i := 44) rfl))) (mvT hZ218 (hw _ (List.mem_of_getElem? (i := 43) rfl))) (by decide) (backOfSH (s := s) (vm0 := T218.vm) (EL := EL1) (W := 0) (rmID0 l Z a0 hw [] kd o218 5 sw4 T218.heap n0 Z218 (by decide) O218 SK S218 (by decide) KDm hEL) hZ218 (hw _ (List.mem_of_getElem? (i := 45) rfl)) (hw _ (List.mem_of_getElem? (i := 6) rfl)) (by decide) (by decide) hEL C218.1) q219a q219c (g := (mkF m 54 #[.val (.int sel), .val (.int ra), .val (.int rb), .val (.int rc), .val (.int fl), .val (.int (4 : Int32)), .val (.int (c8 ra)), .val (.int (c8 rb)), .val (.int (c8 rc)), .val (.ref kd), .unset, .unset, .unset] [(.ref o218), (.ref kd)])) rfl (by rw [hml]; rfl) (Steps.refl _) (argsL := [(.ref o218)]) (rest := []) (lenOf pd_8 rfl) rfl (by show 2 * 0 + _ ≤ _; exact Nat.le_of_eq rfl) (hb hby at_54) (fun _ _ => ⟨rfl, rfl, (by decide : 2 + 2 ≤ _), (by decide : 60 + 4 ≤ _)⟩)
  dsimp only [Pt.U, Pt.locs, Pt.cells, Pt.slots] at X219 l219 y219 z219 st219 hQ219 hS2219 hg219 C219
  subst l219 y219 z219
  obtain ⟨o219, rfl, N219q, K219, S219⟩ := hQ219
  have N219 := Fr.app N218 N219q
  have CR219 := CR218.trans C219
  have hS219 := foldS hS218 (by exact (Nat.le_refl _)) hS2219 hg219
  have hZ219 : Z.Warmed39 (s.setVm T219.vm).vm := State.Warmed39.trans hZ218 hS2219.1
  have hown219 : (s.setVm T219.vm).vm.findClass "com/example/trestle/trestle/ResourceKindIdPinLaw" = some m.cls := by rw [show (s.setVm T219.vm).vm = T219.vm from rfl, hS2219.1.alike.findClass]; exact hown218
  have KK219 := KK218.trans K219 (fun x r => absurd r List.not_mem_nil)
  have Z219 : n0 ≤ T219.heap.size := Nat.le_trans Z218 K219.1
  have O219 := O218.keep K219 all0'
  obtain ⟨a220, T220, h220, k220, v220, kk220, X220, e220, E220, hS220, hk220, hZ220, hown220, Ex220, Fc220, Fv220, Av220, la220, lb220, C220, Lt220, Sn220, st220⟩ := ldcCH (s := s) (vm0 := T219.vm) (EL := EL1) X219 hx hZ219 hown219 (hw _ (List.mem_of_getElem? (i := 121) rfl)) hwS rfl hS219 (Nat.le_refl _) hEL (by decide) C219.1 (vs := []) (z := (0 : Int32)) (by decide) (by decide) (by decide) (g := (mkF m 59 #[.val (.int sel), .val (.int ra), .val (.int rb), .val (.int rc), .val (.int fl), .val (.int (4 : Int32)), .val (.int (c8 ra)), .val (.int (c8 rb)), .val (.int (c8 rc)), .val (.ref kd), .val (.ref o219), .unset, .unset] [])) rfl (hb hby at_59) (n := 0) (by decide) (by decide) (by decide) (by decide)
  have O220 := O219.ext E220
  have K220 := KK219.ext E220
  have Z220 : n0 ≤ h220.size := Nat.le_trans Z219 E220.1
  have CR220 := CR219.trans C220
  have SB220 := S219.ext E220
  obtain ⟨cq221, kq221, q221a, q221b, q221c⟩ := isOf hZ220 e220 Ex220
  obtain ⟨_, _, ⟨T221, L221, k221, n221⟩, -, X221, ⟨Lc221, hQ221, l221, y221, z221⟩, st221⟩ := X220.virtualBack hx (y := (⟨"java/lang/String", "equals", "(Ljava/lang/Object;)Z"⟩ : MethodName)) (z := (⟨"java/lang/String", "equals", "(Ljava/lang/Object;)Z"⟩ : MethodName)) hown220 (mvT hZ220 (hw _ (List.mem_of_getElem? (i := 103) rfl))) (mvT hZ220 (hw _ (List.mem_of_getElem? (i := 104) rfl))) (notFace_of_selects (args := #[]) (mvT hZ220 (hw _ (List.mem_of_getElem? (i := 106) rfl)))) (mvT hZ220 (hw _ (List.mem_of_getElem? (i := 106) rfl))) (mvT hZ220 (hw _ (List.mem_of_getElem? (i := 105) rfl))) (by decide) (backOf (W := 0) (rmEQ l Z a0 hw [] a220 o219 0 (fun _ => 0) h220 n0 Z220 (by decide) O220 SK ⟨Ex220, v220, Fv220, Fc220, AF.empty Av220 rfl _⟩ (SB220.congr fun j hj => absurd hj (Nat.not_lt_zero _))) hZ220 (hw _ (List.mem_of_getElem? (i := 107) rfl)) (hw _ (List.mem_of_getElem? (i := 13) rfl)) (by decide) (by decide)) q221a q221c (g := (mkF m 63 #[.val (.int sel), .val (.int ra), .val (.int rb), .val (.int rc), .val (.int fl), .val (.int (4 : Int32)), .val (.int (c8 ra)), .val (.int (c8 rb)), .val (.int (c8 rc)), .val (.ref kd), .val (.ref o219), .unset, .unset] [(.ref o219), (.ref a220)])) rfl (by rw [hml]; rfl) (Steps.refl _) (argsL := [(.ref o219)]) (rest := []) (lenOf pd_21 rfl) rfl (by show 2 * 0 + _ ≤ _; exact Nat.le_of_eq rfl) (hb hby at_63) (fun _ _ => ⟨rfl, e220, (by decide : 6 + 0 ≤ _), (by decide : 68 + 0 ≤ _)⟩)
  dsimp only [Pt.U, Pt.locs, Pt.cells, Pt.slots] at X221 l221 y221 z221 st221 hQ221
  subst l221 y221 z221
  obtain ⟨rfl, N221q, e221⟩ := hQ221
  have N221 := Fr.app N219 N221q
  obtain ⟨fs, hr, hrun, hended, -, hWW, hBB, hSS⟩ := Stand.leaveW (s := s) (vm₁ := T220.vm) X221 hS220 (by rw [e221]; exact hk220) (v := some (.int (1 : Int32))) (fun h => by rw [Bd.returns] at h; cases h)
  refine ⟨_, _, pre0 _ ?_, hrun, hended, _, _, rfl, ?_, ⟨_, rfl⟩, hWW, hBB, hSS.mono (by decide) (by decide)⟩
  · show Steps p.tables e below (s₁.setTop (mkF m 0 #[.val (.int sel), .val (.int ra), .val (.int rb), .val (.int rc), .val (.int fl), .unset, .unset, .unset, .unset, .unset, .unset, .unset, .unset] [])) _
    refine XS.iloadN X0.here hx rfl (hb hby at_0) rfl ?_
    refine X0.ldcInt hx hown (mvT hZ (hw _ (List.mem_of_getElem? (i := 0) rfl))) (g := (mkF m 1 #[.val (.int sel), .val (.int ra), .val (.int rb), .val (.int rc), .val (.int fl), .unset, .unset, .unset, .unset, .unset, .unset, .unset, .unset] [(.int sel)])) rfl (hb hby at_1) _ ?_
    refine XS.iand X0.here hx rfl (hb hby at_3) rfl ?_
    refine XS.bipush X0.here hx rfl (hb hby at_4) ?_
    refine gwIrem X0.here hx rfl (hb hby at_6) rfl (by decide) ?_
    show Steps p.tables e below (s₁.setTop (mkF m 7 #[.val (.int sel), .val (.int ra), .val (.int rb), .val (.int rc), .val (.int fl), .unset, .unset, .unset, .unset, .unset, .unset, .unset, .unset] [(.int (kF sel))])) _
    refine XS.istore X0.here hx rfl (hb hby at_7) rfl (l' := #[.val (.int sel), .val (.int ra), .val (.int rb), .val (.int rc), .val (.int fl), .val (.int (kF sel)), .unset, .unset, .unset, .unset, .unset, .unset, .unset]) rfl ?_
    refine XS.iloadN X0.here hx rfl (hb hby at_9) rfl ?_
    refine XS.sipush X0.here hx rfl (hb hby at_10) ?_
    refine XS.iand X0.here hx rfl (hb hby at_13) rfl ?_
    refine XS.i2c X0.here hx rfl (hb hby at_14) rfl ?_
    show Steps p.tables e below (s₁.setTop (mkF m 15 #[.val (.int sel), .val (.int ra), .val (.int rb), .val (.int rc), .val (.int fl), .val (.int (kF sel)), .unset, .unset, .unset, .unset, .unset, .unset, .unset] [(.int (c8 ra))])) _
    refine XS.istore X0.here hx rfl (hb hby at_15) rfl (l' := #[.val (.int sel), .val (.int ra), .val (.int rb), .val (.int rc), .val (.int fl), .val (.int (kF sel)), .val (.int (c8 ra)), .unset, .unset, .unset, .unset, .unset, .unset]) rfl ?_
    refine XS.iloadN X0.here hx rfl (hb hby at_17) rfl ?_
    refine XS.sipush X0.here hx rfl (hb hby at_18) ?_
    refine XS.iand X0.here hx rfl (hb hby at_21) rfl ?_
    refine XS.i2c X0.here hx rfl (hb hby at_22) rfl ?_
    show Steps p.tables e below (s₁.setTop (mkF m 23 #[.val (.int sel), .val (.int ra), .val (.int rb), .val (.int rc), .val (.int fl), .val (.int (kF sel)), .val (.int (c8 ra)), .unset, .unset, .unset, .unset, .unset, .unset] [(.int (c8 rb))])) _
    refine XS.istore X0.here hx rfl (hb hby at_23) rfl (l' := #[.val (.int sel), .val (.int ra), .val (.int rb), .val (.int rc), .val (.int fl), .val (.int (kF sel)), .val (.int (c8 ra)), .val (.int (c8 rb)), .unset, .unset, .unset, .unset, .unset]) rfl ?_
    refine XS.iloadN X0.here hx rfl (hb hby at_25) rfl ?_
    refine XS.sipush X0.here hx rfl (hb hby at_26) ?_
    refine XS.iand X0.here hx rfl (hb hby at_29) rfl ?_
    refine XS.i2c X0.here hx rfl (hb hby at_30) rfl ?_
    show Steps p.tables e below (s₁.setTop (mkF m 31 #[.val (.int sel), .val (.int ra), .val (.int rb), .val (.int rc), .val (.int fl), .val (.int (kF sel)), .val (.int (c8 ra)), .val (.int (c8 rb)), .unset, .unset, .unset, .unset, .unset] [(.int (c8 rc))])) _
    refine XS.istore X0.here hx rfl (hb hby at_31) rfl (l' := #[.val (.int sel), .val (.int ra), .val (.int rb), .val (.int rc), .val (.int fl), .val (.int (kF sel)), .val (.int (c8 ra)), .val (.int (c8 rb)), .val (.int (c8 rc)), .unset, .unset, .unset, .unset]) rfl ?_
    refine XS.iload X0.here hx rfl (hb hby at_33) rfl ?_
    show Steps p.tables e below (s₁.setTop (mkF m 35 #[.val (.int sel), .val (.int ra), .val (.int rb), .val (.int rc), .val (.int fl), .val (.int (kF sel)), .val (.int (c8 ra)), .val (.int (c8 rb)), .val (.int (c8 rc)), .unset, .unset, .unset, .unset] [(.int (kF sel))])) _
    rw [show (kF sel) = (4 : Int32) from hk]
    show Steps p.tables e below (s₁.setTop (mkF m 35 #[.val (.int sel), .val (.int ra), .val (.int rb), .val (.int rc), .val (.int fl), .val (.int (4 : Int32)), .val (.int (c8 ra)), .val (.int (c8 rb)), .val (.int (c8 rc)), .unset, .unset, .unset, .unset] [(.int (4 : Int32))])) _
    refine st217 _ ?_
    refine XS.astore X217.here hx rfl (hb hby at_38) rfl rfl (l' := #[.val (.int sel), .val (.int ra), .val (.int rb), .val (.int rc), .val (.int fl), .val (.int (4 : Int32)), .val (.int (c8 ra)), .val (.int (c8 rb)), .val (.int (c8 rc)), .val (.ref kd), .unset, .unset, .unset]) rfl ?_
    refine XS.iload X217.here hx rfl (hb hby at_40) rfl ?_
    refine XS.iconst X217.here hx rfl (hb hby at_42) ?_
    refine XS.iand X217.here hx rfl (hb hby at_43) rfl ?_
    refine XS.ifNo X217.here hx rfl (hb hby at_44) rfl ((if0 _ _).trans (feq hc44).1) ?_
    show Steps p.tables e below (T217.setTop (mkF m 47 #[.val (.int sel), .val (.int ra), .val (.int rb), .val (.int rc), .val (.int fl), .val (.int (4 : Int32)), .val (.int (c8 ra)), .val (.int (c8 rb)), .val (.int (c8 rc)), .val (.ref kd), .unset, .unset, .unset] [])) _
    refine XS.aload X217.here hx rfl (hb hby at_47) rfl rfl ?_
    refine XS.iload X217.here hx rfl (hb hby at_49) rfl ?_
    show Steps p.tables e below (T217.setTop (mkF m 51 #[.val (.int sel), .val (.int ra), .val (.int rb), .val (.int rc), .val (.int fl), .val (.int (4 : Int32)), .val (.int (c8 ra)), .val (.int (c8 rb)), .val (.int (c8 rc)), .val (.ref kd), .unset, .unset, .unset] [(.int (4 : Int32)), (.ref kd)])) _
    refine st218.trans ?_
    show Steps p.tables e below (T218.setTop (mkF m 54 #[.val (.int sel), .val (.int ra), .val (.int rb), .val (.int rc), .val (.int fl), .val (.int (4 : Int32)), .val (.int (c8 ra)), .val (.int (c8 rb)), .val (.int (c8 rc)), .val (.ref kd), .unset, .unset, .unset] [(.ref o218), (.ref kd)])) _
    refine st219.trans ?_
    refine XS.astore X219.here hx rfl (hb hby at_57) rfl rfl (l' := #[.val (.int sel), .val (.int ra), .val (.int rb), .val (.int rc), .val (.int fl), .val (.int (4 : Int32)), .val (.int (c8 ra)), .val (.int (c8 rb)), .val (.int (c8 rc)), .val (.ref kd), .val (.ref o219), .unset, .unset]) rfl ?_
    show Steps p.tables e below (T219.setTop (mkF m 59 #[.val (.int sel), .val (.int ra), .val (.int rb), .val (.int rc), .val (.int fl), .val (.int (4 : Int32)), .val (.int (c8 ra)), .val (.int (c8 rb)), .val (.int (c8 rc)), .val (.ref kd), .val (.ref o219), .unset, .unset] [])) _
    refine st220 _ ?_
    refine XS.aload X220.here hx rfl (hb hby at_61) rfl rfl ?_
    show Steps p.tables e below (T220.setTop (mkF m 63 #[.val (.int sel), .val (.int ra), .val (.int rb), .val (.int rc), .val (.int fl), .val (.int (4 : Int32)), .val (.int (c8 ra)), .val (.int (c8 rb)), .val (.int (c8 rc)), .val (.ref kd), .val (.ref o219), .unset, .unset] [(.ref o219), (.ref a220)])) _
    refine st221.trans ?_
    show Steps p.tables e below (T221.setTop (mkF m 66 #[.val (.int sel), .val (.int ra), .val (.int rb), .val (.int rc), .val (.int fl), .val (.int (4 : Int32)), .val (.int (c8 ra)), .val (.int (c8 rb)), .val (.int (c8 rc)), .val (.ref kd), .val (.ref o219), .unset, .unset] [(.int (1 : Int32))])) _
    exact retN X221 hx (t := .boolean) Bd.returns (by simp) (hb hby at_66) hr
  · show Q0  h0 n0 _ T221.heap _
    exact ⟨rfl, N221⟩
set_option maxRecDepth 65536 in
set_option maxHeartbeats 40000000 in
theorem rm0_50 (l : Launch) (Z : State) (a0 : Array Value) (hw : ∀ d ∈ tables_1, d.before a0 Z = true) (ws : List Jvm.Cond) (sel : Int32) (ra : Int32) (rb : Int32) (rc : Int32) (fl : Int32) (kd : Addr) (h0 : Heap) (n0 : Nat) (Z0 : n0 ≤ h0.size) (hk : kF sel = (5 : Int32)) (hst : Sta Z Z.heap "com/example/trestle/trestle/ResourceKind" "XML_SCHEMA" "Lcom/example/trestle/trestle/ResourceKind;" (.ref kd)) (KDm : KD Z kd 4) (O : Old Z n0 h0) (SK : StrSta Z) (hEL : EW Z a0 EL1) (hc44 : (fl &&& (1 : Int32)) = (0 : Int32)) :
    MetFree l x (head1 (Jvm.Cond.code x code maxLocals ret :: ws) room_1) (fun aa_ U_ => aa_ = #[(.int sel), (.int ra), (.int rb), (.int rc), (.int fl)] ∧ Z.Warmed39 U_.vm ∧ U_.heap = h0 ∧ CHv Z EL1 U_.vm h0) (fun _ _ _ _ _ => True) (fun _ U_ o_ V_ => ∃ v_ L_, o_ = .returned v_ ∧ Q0  h0 n0 v_ V_.heap L_ ∧ ReturnedEndW U_ o_ V_ L_ room_1.cells room_1.slots) := by
  refine MetFree.of_bodySF (plainFor_of_name pn_0) hisR ?_
  intro p e s m args below meth c s₁ Bd hml0 hP hK
  obtain ⟨rfl, hZ, hh, CH0⟩ := hP
  have hx := Bd.exec
  have hby := Bd.bytes
  have hml : c.maxLocals = 13 := hml0
  have hown : s.vm.findClass "com/example/trestle/trestle/ResourceKindIdPinLaw" = some m.cls := findClass_of_methodNamed Bd.named
  have hnm := (name_of_methodNamed Bd.named Bd.method).1
  have X0 : Stand p l e room_1 s m #[(.int sel), (.int ra), (.int rb), (.int rc), (.int fl)] below meth c s₁ [] 0 0 := Stand.of_body Bd
  have e0 : s₁.heap = h0 := by rw [← hh, Bd.state]; rfl
  have N0 := Fr.nil n0
  have pre0 : ∀ zz, Steps p.tables e below (s₁.setTop (mkF m 0 #[.val (.int sel), .val (.int ra), .val (.int rb), .val (.int rc), .val (.int fl), .unset, .unset, .unset, .unset, .unset, .unset, .unset, .unset] [])) zz → Steps p.tables e below (s₁.setTop (entryFrame m #[(.int sel), (.int ra), (.int rb), (.int rc), (.int fl)] maxLocals)) zz := fun zz kz_ => castTop (ef_0 m sel ra rb rc fl) kz_
  have hwS : ∀ a ∈ Bundle.stringAtoms, a.before a0 Z = true := fun d hd => hw d (by simpa using (List.all_eq_true.mp (by decide +kernel : (Bundle.stringAtoms.all fun c => tables_1.contains c) = true)) d hd)
  obtain ⟨_, _, ⟨T222, L222, k222, n222⟩, -, X222, ⟨Lc222, hQ222, l222, y222, z222⟩, st222⟩ := Jvm.LawKit.callS X0 hx (y := (⟨"com/example/trestle/trestle/ResourceKindIdPinLaw", "kindOf", "(I)Lcom/example/trestle/trestle/ResourceKind;"⟩ : MethodName)) hown (mvT hZ (hw _ (List.mem_of_getElem? (i := 1) rfl))) (mvT hZ (hw _ (List.mem_of_getElem? (i := 2) rfl))) (mvT hZ (hw _ (List.mem_of_getElem? (i := 3) rfl))) (mvT hZ (hw _ (List.mem_of_getElem? (i := 4) rfl))) (by decide) (backOf (W := 0) (rmK5 l Z a0 hw [] kd h0 n0 Z0 O hst) hZ (hw _ (List.mem_of_getElem? (i := 4) rfl)) (hw _ (List.mem_of_getElem? (i := 3) rfl)) (by decide) (by decide)) (g := (mkF m 35 #[.val (.int sel), .val (.int ra), .val (.int rb), .val (.int rc), .val (.int fl), .val (.int (5 : Int32)), .val (.int (c8 ra)), .val (.int (c8 rb)), .val (.int (c8 rc)), .unset, .unset, .unset, .unset] [(.int (5 : Int32))])) rfl (by rw [hml]; rfl) (argsL := [(.int (5 : Int32))]) (rest := []) (lenOf pd_0 rfl) rfl (by show 2 * 0 + _ ≤ _; exact Nat.le_of_eq rfl) (hb hby at_35) (fun _ _ => ⟨rfl, e0, (by decide : 0 + 0 ≤ _), (by decide : 0 + 0 ≤ _)⟩)
  dsimp only [Pt.U, Pt.locs, Pt.cells, Pt.slots] at X222 l222 y222 z222 st222 hQ222
  subst l222 y222 z222
  obtain ⟨rfl, N222q, e222⟩ := hQ222
  have N222 := Fr.app N0 N222q
  obtain ⟨_, _, ⟨T223, L223, k223, n223⟩, -, X223, ⟨Lc223, hQ223, l223, y223, z223⟩, st223⟩ := Jvm.LawKit.callS X222 hx (y := (⟨"com/example/trestle/trestle/ResourceKindIdPinLaw", "withPrefix", "(ICCC)Ljava/lang/String;"⟩ : MethodName)) hown (mvT hZ (hw _ (List.mem_of_getElem? (i := 8) rfl))) (mvT hZ (hw _ (List.mem_of_getElem? (i := 9) rfl))) (mvT hZ (hw _ (List.mem_of_getElem? (i := 3) rfl))) (mvT hZ (hw _ (List.mem_of_getElem? (i := 10) rfl))) (by decide) (backOf (W := 0) (rmW5 l Z a0 hw [] (c8 ra) (c8 rb) (c8 rc) h0 n0 Z0 O SK (c8_B _) (c8_B _) (c8_B _)) hZ (hw _ (List.mem_of_getElem? (i := 10) rfl)) (hw _ (List.mem_of_getElem? (i := 3) rfl)) (by decide) (by decide)) (g := (mkF m 75 #[.val (.int sel), .val (.int ra), .val (.int rb), .val (.int rc), .val (.int fl), .val (.int (5 : Int32)), .val (.int (c8 ra)), .val (.int (c8 rb)), .val (.int (c8 rc)), .val (.ref kd), .unset, .unset, .unset] [(.int (c8 rc)), (.int (c8 rb)), (.int (c8 ra)), (.int (5 : Int32))])) rfl (by rw [hml]; rfl) (argsL := [(.int (5 : Int32)), (.int (c8 ra)), (.int (c8 rb)), (.int (c8 rc))]) (rest := []) (lenOf pd_1 rfl) rfl (by show 2 * 0 + _ ≤ _; exact Nat.le_of_eq rfl) (hb hby at_75) (fun _ _ => ⟨rfl, e222, (by decide : 0 + 4 ≤ _), (by decide : 0 + 100 ≤ _)⟩)
  dsimp only [Pt.U, Pt.locs, Pt.cells, Pt.slots] at X223 l223 y223 z223 st223 hQ223
  subst l223 y223 z223
  obtain ⟨o223, rfl, N223q, K223, S223⟩ := hQ223
  have N223 := Fr.app N222 N223q
  have KK223 := (Keep.refl h0 []).trans K223 (fun x r => absurd r List.not_mem_nil)
  have Z223 : n0 ≤ T223.heap.size := Nat.le_trans Z0 K223.1
  have O223 := O.keep K223 all0'
  obtain ⟨EO223, d223, FV223, FC223, FB223⟩ := S223
  obtain ⟨T224, h224, X224, e224, E224, A224, D224, -, st224⟩ := newO X223 hx hZ hown (hw _ (List.mem_of_getElem? (i := 11) rfl)) (hw _ (List.mem_of_getElem? (i := 12) rfl)) (hw _ (List.mem_of_getElem? (i := 13) rfl)) rfl (g := (mkF m 80 #[.val (.int sel), .val (.int ra), .val (.int rb), .val (.int rc), .val (.int fl), .val (.int (5 : Int32)), .val (.int (c8 ra)), .val (.int (c8 rb)), .val (.int (c8 rc)), .val (.ref kd), .val (.ref o223), .unset, .unset] [])) rfl (hb hby at_80) (by decide) (by decide)
  obtain ⟨b224, g224⟩ : ∃ z, z = T223.heap.size := ⟨_, rfl⟩
  rw [← g224] at A224 D224 st224
  have ne_o223_b224 : o223 ≠ b224 := Nat.ne_of_lt (Nat.lt_of_lt_of_le EO223.lt (Nat.le_of_eq g224.symm))
  have ne_d223_b224 : d223 ≠ b224 := Nat.ne_of_lt (Nat.lt_of_lt_of_le FB223.lt (Nat.le_of_eq g224.symm))
  have EO223_e224 := EO223.ext E224
  have FV223_e224 := FV223.ext E224
  have FC223_e224 := FC223.ext E224
  have FB223_e224 := FB223.ext E224
  have E_b224 := A224
  have g_b224 : n0 ≤ b224 := Nat.le_trans Z223 (Nat.le_of_eq g224.symm)
  have sz_b224 : h0.size ≤ b224 := Nat.le_trans KK223.1 (Nat.le_of_eq g224.symm)
  have K224 := KK223.ext E224
  have Z224 : n0 ≤ h224.size := Nat.le_trans Z223 E224.1
  have F_coder_b224 : Fld Z h224 b224 "java/lang/String" "coder" "B" (.int (0 : Int32)) := D224 (Or.inr (hw _ (List.mem_of_getElem? (i := 38) rfl))) (ty := .byte) (by decide)
  have F_value_b224 : Fld Z h224 b224 "java/lang/String" "value" "[B" .null := D224 (Or.inr (hw _ (List.mem_of_getElem? (i := 40) rfl))) (ty := (.array .byte)) (by decide)
  have O224 := O223.ext E224
  obtain ⟨T225, h225, X225, e225, E225, A225, st225⟩ := nwA X224 hx hZ (hw _ (List.mem_of_getElem? (i := 14) rfl)) e224 (g := (mkF m 85 #[.val (.int sel), .val (.int ra), .val (.int rb), .val (.int rc), .val (.int fl), .val (.int (5 : Int32)), .val (.int (c8 ra)), .val (.int (c8 rb)), .val (.int (c8 rc)), .val (.ref kd), .val (.ref o223), .unset, .unset] [(.int (3 : Int32)), (.ref b224), (.ref b224)])) rfl (hb hby at_85) (n := 3) rfl (cap := 3) (by decide) (by decide) (by decide) (by decide)
  obtain ⟨b225, q225⟩ : ∃ z, z = h224.size := ⟨_, rfl⟩
  rw [← q225] at A225 st225
  have V225 : AF Z h225 b225 .char 3 (fun _ => (.int (0 : Int32))) := A225
  have g_b225 : n0 ≤ b225 := Nat.le_trans Z224 (Nat.le_of_eq q225.symm)
  have sz_b225 : h0.size ≤ b225 := Nat.le_trans K224.1 (Nat.le_of_eq q225.symm)
  have K225 := K224.ext E225
  have Z225 : n0 ≤ h225.size := Nat.le_trans Z224 E225.1
  have ne_b224_b225 : b224 ≠ b225 := Nat.ne_of_lt (Nat.lt_of_lt_of_le E_b224.lt (Nat.le_of_eq q225.symm))
  have ne_d223_b225 : d223 ≠ b225 := Nat.ne_of_lt (Nat.lt_of_lt_of_le FB223_e224.lt (Nat.le_of_eq q225.symm))
  have ne_o223_b225 : o223 ≠ b225 := Nat.ne_of_lt (Nat.lt_of_lt_of_le EO223_e224.lt (Nat.le_of_eq q225.symm))
  have EO223_e225 := EO223_e224.ext E225
  have FV223_e225 := FV223_e224.ext E225
  have FC223_e225 := FC223_e224.ext E225
  have FB223_e225 := FB223_e224.ext E225
  have E_b224_e225 := E_b224.ext E225
  have F_coder_b224_e225 := F_coder_b224.ext E225
  have F_value_b224_e225 := F_value_b224.ext E225
  have O225 := O224.ext E225
  obtain ⟨T226, h226, X226, e226, W226, st226⟩ := stCh X225 hx hZ e225 V225 (i := 0) (by decide) (by decide) (x := (c8 ra)) (g := (mkF m 91 #[.val (.int sel), .val (.int ra), .val (.int rb), .val (.int rc), .val (.int fl), .val (.int (5 : Int32)), .val (.int (c8 ra)), .val (.int (c8 rb)), .val (.int (c8 rc)), .val (.ref kd), .val (.ref o223), .unset, .unset] [(.int (c8 ra)), (.int (0 : Int32)), (.ref b225), (.ref b225), (.ref b224), (.ref b224)])) rfl rfl (hb hby at_91)
  have A226 := V225.wr W226
  have EO223_e226 := EO223_e225.wr W226
  have FV223_e226 := FV223_e225.other W226 (Or.inl ne_o223_b225)
  have FC223_e226 := FC223_e225.other W226 (Or.inl ne_o223_b225)
  have FB223_e226 := FB223_e225.other W226 ne_d223_b225
  have E_b224_e226 := E_b224_e225.wr W226
  have F_coder_b224_e226 := F_coder_b224_e225.other W226 (Or.inl ne_b224_b225)
  have F_value_b224_e226 := F_value_b224_e225.other W226 (Or.inl ne_b224_b225)
  have N226 := Fr.snoc X226 N223 g_b225
  have K226 := K225.wr W226 (Or.inr sz_b225)
  have Z226 : n0 ≤ h226.size := Nat.le_trans Z225 (Keep.of_wr W226).1
  have O226 := O225.wr W226 g_b225
  obtain ⟨T227, h227, X227, e227, W227, st227⟩ := stCh X226 hx hZ e226 A226 (i := 1) (by decide) (by decide) (x := (c8 rb)) (g := (mkF m 96 #[.val (.int sel), .val (.int ra), .val (.int rb), .val (.int rc), .val (.int fl), .val (.int (5 : Int32)), .val (.int (c8 ra)), .val (.int (c8 rb)), .val (.int (c8 rc)), .val (.ref kd), .val (.ref o223), .unset, .unset] [(.int (c8 rb)), (.int (1 : Int32)), (.ref b225), (.ref b225), (.ref b224), (.ref b224)])) rfl rfl (hb hby at_96)
  have A227 := A226.wr W227
  have EO223_e227 := EO223_e226.wr W227
  have FV223_e227 := FV223_e226.other W227 (Or.inl ne_o223_b225)
  have FC223_e227 := FC223_e226.other W227 (Or.inl ne_o223_b225)
  have FB223_e227 := FB223_e226.other W227 ne_d223_b225
  have E_b224_e227 := E_b224_e226.wr W227
  have F_coder_b224_e227 := F_coder_b224_e226.other W227 (Or.inl ne_b224_b225)
  have F_value_b224_e227 := F_value_b224_e226.other W227 (Or.inl ne_b224_b225)
  have N227 := Fr.snoc X227 N226 g_b225
  have K227 := K226.wr W227 (Or.inr sz_b225)
  have Z227 : n0 ≤ h227.size := Nat.le_trans Z226 (Keep.of_wr W227).1
  have O227 := O226.wr W227 g_b225
  obtain ⟨T228, h228, X228, e228, W228, st228⟩ := stCh X227 hx hZ e227 A227 (i := 2) (by decide) (by decide) (x := (c8 rc)) (g := (mkF m 101 #[.val (.int sel), .val (.int ra), .val (.int rb), .val (.int rc), .val (.int fl), .val (.int (5 : Int32)), .val (.int (c8 ra)), .val (.int (c8 rb)), .val (.int (c8 rc)), .val (.ref kd), .val (.ref o223), .unset, .unset] [(.int (c8 rc)), (.int (2 : Int32)), (.ref b225), (.ref b225), (.ref b224), (.ref b224)])) rfl rfl (hb hby at_101)
  have A228 := A227.wr W228
  have EO223_e228 := EO223_e227.wr W228
  have FV223_e228 := FV223_e227.other W228 (Or.inl ne_o223_b225)
  have FC223_e228 := FC223_e227.other W228 (Or.inl ne_o223_b225)
  have FB223_e228 := FB223_e227.other W228 ne_d223_b225
  have E_b224_e228 := E_b224_e227.wr W228
  have F_coder_b224_e228 := F_coder_b224_e227.other W228 (Or.inl ne_b224_b225)
  have F_value_b224_e228 := F_value_b224_e227.other W228 (Or.inl ne_b224_b225)
  have N228 := Fr.snoc X228 N227 g_b225
  have K228 := K227.wr W228 (Or.inr sz_b225)
  have Z228 : n0 ≤ h228.size := Nat.le_trans Z227 (Keep.of_wr W228).1
  have O228 := O227.wr W228 g_b225
  have hBb224 : ∀ j, isB (gl [(c8 ra), (c8 rb), (c8 rc)] j) := glB (List.forall_mem_cons.mpr ⟨(c8_B _), (List.forall_mem_cons.mpr ⟨(c8_B _), (List.forall_mem_cons.mpr ⟨(c8_B _), (fun _ q => absurd q List.not_mem_nil)⟩)⟩)⟩)
  obtain ⟨_, _, ⟨T229, L229, k229, n229⟩, -, X229, ⟨Lc229, hQ229, l229, y229, z229⟩, st229⟩ := X228.specialBack hx (y := (⟨"java/lang/String", "<init>", "([C)V"⟩ : MethodName)) rfl hown (mvT hZ (hw _ (List.mem_of_getElem? (i := 15) rfl))) (mvT hZ (hw _ (List.mem_of_getElem? (i := 16) rfl))) (mvT hZ (hw _ (List.mem_of_getElem? (i := 17) rfl))) (by decide) (backOf (W := 1) (rmI1 l Z a0 hw [] b224 b225 3 (gl [(c8 ra), (c8 rb), (c8 rc)]) h228 n0 Z228 (by decide) (by decide) O228 SK (A228.congr (updS (updS (updS upd0 (congrArg Value.int (nar_id (isCh_of (c8_B _))))) (congrArg Value.int (nar_id (isCh_of (c8_B _))))) (congrArg Value.int (nar_id (isCh_of (c8_B _)))))) (fun j _ => isCh_of (hBb224 j)) E_b224_e228 F_value_b224_e228 F_coder_b224_e228 g_b224 (Ne.symm ne_b224_b225) (fun j _ => notBig (hBb224 j))) hZ (hw _ (List.mem_of_getElem? (i := 17) rfl)) (hw _ (List.mem_of_getElem? (i := 13) rfl)) (by decide) (by decide)) (g := (mkF m 102 #[.val (.int sel), .val (.int ra), .val (.int rb), .val (.int rc), .val (.int fl), .val (.int (5 : Int32)), .val (.int (c8 ra)), .val (.int (c8 rb)), .val (.int (c8 rc)), .val (.ref kd), .val (.ref o223), .unset, .unset] [(.ref b225), (.ref b224), (.ref b224)])) rfl (by rw [hml]; rfl) (Steps.refl _) (a := b224) (argsL := [(.ref b225)]) (rest := [(.ref b224)]) (lenOf pd_2 rfl) rfl (by show 2 * 0 + _ ≤ _; exact Nat.le_of_eq rfl) (hb hby at_102) (fun _ _ => ⟨rfl, e228, (by decide : 6 + 2 ≤ _), (by decide : 107 + 60 ≤ _)⟩)
  dsimp only [Pt.U, Pt.locs, Pt.cells, Pt.slots] at X229 l229 y229 z229 st229 hQ229
  subst l229 y229 z229
  obtain ⟨rfl, N229q, K229, S229⟩ := hQ229
  have N229 := Fr.app N228 N229q
  have EO223_e229 := EO223_e228.keep K229
  have FV223_e229 := FV223_e228.keep K229 (notin1 ne_o223_b224)
  have FC223_e229 := FC223_e228.keep K229 (notin1 ne_o223_b224)
  have FB223_e229 := FB223_e228.keep K229 (notin1 ne_d223_b224)
  have E_b224_e229 := E_b224_e228.keep K229
  have KK229 := K228.trans K229 (fun x r => by cases List.mem_singleton.mp r; exact (Or.inr sz_b224))
  have Z229 : n0 ≤ T229.heap.size := Nat.le_trans Z228 K229.1
  have O229 := O228.keep K229 (all1 g_b224)
  have SW229 : StrV Z _ o223 7 (Lb (gl [(c8 ra), (c8 rb), (c8 rc), (46 : Int32), (120 : Int32), (115 : Int32), (100 : Int32)])) := ⟨EO223_e229, d223, FV223_e229, FC223_e229, FB223_e229⟩
  have EKo223 := KDm.1.ext O229.2
  obtain ⟨cq230, kq230, q230a, q230b, q230c⟩ := isOf hZ rfl EKo223
  obtain ⟨_, _, ⟨T230, L230, k230, n230⟩, -, X230, ⟨Lc230, hQ230, l230, y230, z230⟩, st230⟩ := X229.virtualBack hx (y := (⟨"com/example/trestle/trestle/ResourceKind", "id", "(Ljava/lang/String;)Ljava/lang/String;"⟩ : MethodName)) (z := (⟨"com/example/trestle/trestle/ResourceKind", "id", "(Ljava/lang/String;)Ljava/lang/String;"⟩ : MethodName)) hown (mvT hZ (hw _ (List.mem_of_getElem? (i := 41) rfl))) (mvT hZ (hw _ (List.mem_of_getElem? (i := 42) rfl))) (notFace_of_selects (args := #[]) (mvT hZ (hw _ (List.mem_of_getElem? (i := 44) rfl)))) (mvT hZ (hw _ (List.mem_of_getElem? (i := 44) rfl))) (mvT hZ (hw _ (List.mem_of_getElem? (i := 43) rfl))) (by decide) (backOf (W := 0) (rmID l Z a0 hw [] kd o223 7 4 (Lb (gl [(c8 ra), (c8 rb), (c8 rc), (46 : Int32), (120 : Int32), (115 : Int32), (100 : Int32)])) T229.heap n0 Z229 (by decide) O229 SK SW229 (by decide) (by decide) KDm (fitsLb _ _)) hZ (hw _ (List.mem_of_getElem? (i := 45) rfl)) (hw _ (List.mem_of_getElem? (i := 6) rfl)) (by decide) (by decide)) q230a q230c (g := (mkF m 111 #[.val (.int sel), .val (.int ra), .val (.int rb), .val (.int rc), .val (.int fl), .val (.int (5 : Int32)), .val (.int (c8 ra)), .val (.int (c8 rb)), .val (.int (c8 rc)), .val (.ref kd), .val (.ref o223), .val (.ref b224), .unset] [(.ref o223), (.ref kd)])) rfl (by rw [hml]; rfl) (Steps.refl _) (argsL := [(.ref o223)]) (rest := []) (lenOf pd_8 rfl) rfl (by show 2 * 0 + _ ≤ _; exact Nat.le_of_eq rfl) (hb hby at_111) (fun _ _ => ⟨rfl, rfl, (by decide : 8 + 2 ≤ _), (by decide : 167 + 24 ≤ _)⟩)
  dsimp only [Pt.U, Pt.locs, Pt.cells, Pt.slots] at X230 l230 y230 z230 st230 hQ230
  subst l230 y230 z230
  obtain ⟨o230, rfl, N230q, K230, S230⟩ := hQ230
  have N230 := Fr.app N229 N230q
  have KK230 := KK229.trans K230 (fun x r => absurd r List.not_mem_nil)
  have Z230 : n0 ≤ T230.heap.size := Nat.le_trans Z229 K230.1
  have O230 := O229.keep K230 all0'
  have SB230 := S229.keep K230
  obtain ⟨cq231, kq231, q231a, q231b, q231c⟩ := isOf hZ rfl SB230.1
  obtain ⟨_, _, ⟨T231, L231, k231, n231⟩, -, X231, ⟨Lc231, hQ231, l231, y231, z231⟩, st231⟩ := X230.virtualBack hx (y := (⟨"java/lang/String", "equals", "(Ljava/lang/Object;)Z"⟩ : MethodName)) (z := (⟨"java/lang/String", "equals", "(Ljava/lang/Object;)Z"⟩ : MethodName)) hown (mvT hZ (hw _ (List.mem_of_getElem? (i := 103) rfl))) (mvT hZ (hw _ (List.mem_of_getElem? (i := 104) rfl))) (notFace_of_selects (args := #[]) (mvT hZ (hw _ (List.mem_of_getElem? (i := 106) rfl)))) (mvT hZ (hw _ (List.mem_of_getElem? (i := 106) rfl))) (mvT hZ (hw _ (List.mem_of_getElem? (i := 105) rfl))) (by decide) (backOf (W := 0) (rmEQ l Z a0 hw [] b224 o230 3 (fun j => b8 (gl [(c8 ra), (c8 rb), (c8 rc)] j)) T230.heap n0 Z230 (by decide) O230 SK SB230 (S230.congr c3)) hZ (hw _ (List.mem_of_getElem? (i := 107) rfl)) (hw _ (List.mem_of_getElem? (i := 13) rfl)) (by decide) (by decide)) q231a q231c (g := (mkF m 120 #[.val (.int sel), .val (.int ra), .val (.int rb), .val (.int rc), .val (.int fl), .val (.int (5 : Int32)), .val (.int (c8 ra)), .val (.int (c8 rb)), .val (.int (c8 rc)), .val (.ref kd), .val (.ref o223), .val (.ref b224), .val (.ref o230)] [(.ref o230), (.ref b224)])) rfl (by rw [hml]; rfl) (Steps.refl _) (argsL := [(.ref o230)]) (rest := []) (lenOf pd_21 rfl) rfl (by show 2 * 0 + _ ≤ _; exact Nat.le_of_eq rfl) (hb hby at_120) (fun _ _ => ⟨rfl, rfl, (by decide : 10 + 0 ≤ _), (by decide : 191 + 0 ≤ _)⟩)
  dsimp only [Pt.U, Pt.locs, Pt.cells, Pt.slots] at X231 l231 y231 z231 st231 hQ231
  subst l231 y231 z231
  obtain ⟨rfl, N231q, e231⟩ := hQ231
  have N231 := Fr.app N230 N231q
  obtain ⟨fs, hr, hrun, hended, -, hWW, hBB, hSS⟩ := Stand.leaveW (s := s) (vm₁ := s.vm) X231 ((State.WarmedH.refl s).since 0) (by rw [e231]; exact (Nat.zero_le _)) (v := some (.int (1 : Int32))) (fun h => by rw [Bd.returns] at h; cases h)
  refine ⟨_, _, pre0 _ ?_, hrun, hended, _, _, rfl, ?_, ⟨_, rfl⟩, hWW, hBB, hSS.mono (by decide) (by decide)⟩
  · show Steps p.tables e below (s₁.setTop (mkF m 0 #[.val (.int sel), .val (.int ra), .val (.int rb), .val (.int rc), .val (.int fl), .unset, .unset, .unset, .unset, .unset, .unset, .unset, .unset] [])) _
    refine XS.iloadN X0.here hx rfl (hb hby at_0) rfl ?_
    refine X0.ldcInt hx hown (mvT hZ (hw _ (List.mem_of_getElem? (i := 0) rfl))) (g := (mkF m 1 #[.val (.int sel), .val (.int ra), .val (.int rb), .val (.int rc), .val (.int fl), .unset, .unset, .unset, .unset, .unset, .unset, .unset, .unset] [(.int sel)])) rfl (hb hby at_1) _ ?_
    refine XS.iand X0.here hx rfl (hb hby at_3) rfl ?_
    refine XS.bipush X0.here hx rfl (hb hby at_4) ?_
    refine gwIrem X0.here hx rfl (hb hby at_6) rfl (by decide) ?_
    show Steps p.tables e below (s₁.setTop (mkF m 7 #[.val (.int sel), .val (.int ra), .val (.int rb), .val (.int rc), .val (.int fl), .unset, .unset, .unset, .unset, .unset, .unset, .unset, .unset] [(.int (kF sel))])) _
    refine XS.istore X0.here hx rfl (hb hby at_7) rfl (l' := #[.val (.int sel), .val (.int ra), .val (.int rb), .val (.int rc), .val (.int fl), .val (.int (kF sel)), .unset, .unset, .unset, .unset, .unset, .unset, .unset]) rfl ?_
    refine XS.iloadN X0.here hx rfl (hb hby at_9) rfl ?_
    refine XS.sipush X0.here hx rfl (hb hby at_10) ?_
    refine XS.iand X0.here hx rfl (hb hby at_13) rfl ?_
    refine XS.i2c X0.here hx rfl (hb hby at_14) rfl ?_
    show Steps p.tables e below (s₁.setTop (mkF m 15 #[.val (.int sel), .val (.int ra), .val (.int rb), .val (.int rc), .val (.int fl), .val (.int (kF sel)), .unset, .unset, .unset, .unset, .unset, .unset, .unset] [(.int (c8 ra))])) _
    refine XS.istore X0.here hx rfl (hb hby at_15) rfl (l' := #[.val (.int sel), .val (.int ra), .val (.int rb), .val (.int rc), .val (.int fl), .val (.int (kF sel)), .val (.int (c8 ra)), .unset, .unset, .unset, .unset, .unset, .unset]) rfl ?_
    refine XS.iloadN X0.here hx rfl (hb hby at_17) rfl ?_
    refine XS.sipush X0.here hx rfl (hb hby at_18) ?_
    refine XS.iand X0.here hx rfl (hb hby at_21) rfl ?_
    refine XS.i2c X0.here hx rfl (hb hby at_22) rfl ?_
    show Steps p.tables e below (s₁.setTop (mkF m 23 #[.val (.int sel), .val (.int ra), .val (.int rb), .val (.int rc), .val (.int fl), .val (.int (kF sel)), .val (.int (c8 ra)), .unset, .unset, .unset, .unset, .unset, .unset] [(.int (c8 rb))])) _
    refine XS.istore X0.here hx rfl (hb hby at_23) rfl (l' := #[.val (.int sel), .val (.int ra), .val (.int rb), .val (.int rc), .val (.int fl), .val (.int (kF sel)), .val (.int (c8 ra)), .val (.int (c8 rb)), .unset, .unset, .unset, .unset, .unset]) rfl ?_
    refine XS.iloadN X0.here hx rfl (hb hby at_25) rfl ?_
    refine XS.sipush X0.here hx rfl (hb hby at_26) ?_
    refine XS.iand X0.here hx rfl (hb hby at_29) rfl ?_
    refine XS.i2c X0.here hx rfl (hb hby at_30) rfl ?_
    show Steps p.tables e below (s₁.setTop (mkF m 31 #[.val (.int sel), .val (.int ra), .val (.int rb), .val (.int rc), .val (.int fl), .val (.int (kF sel)), .val (.int (c8 ra)), .val (.int (c8 rb)), .unset, .unset, .unset, .unset, .unset] [(.int (c8 rc))])) _
    refine XS.istore X0.here hx rfl (hb hby at_31) rfl (l' := #[.val (.int sel), .val (.int ra), .val (.int rb), .val (.int rc), .val (.int fl), .val (.int (kF sel)), .val (.int (c8 ra)), .val (.int (c8 rb)), .val (.int (c8 rc)), .unset, .unset, .unset, .unset]) rfl ?_
    refine XS.iload X0.here hx rfl (hb hby at_33) rfl ?_
    show Steps p.tables e below (s₁.setTop (mkF m 35 #[.val (.int sel), .val (.int ra), .val (.int rb), .val (.int rc), .val (.int fl), .val (.int (kF sel)), .val (.int (c8 ra)), .val (.int (c8 rb)), .val (.int (c8 rc)), .unset, .unset, .unset, .unset] [(.int (kF sel))])) _
    rw [show (kF sel) = (5 : Int32) from hk]
    show Steps p.tables e below (s₁.setTop (mkF m 35 #[.val (.int sel), .val (.int ra), .val (.int rb), .val (.int rc), .val (.int fl), .val (.int (5 : Int32)), .val (.int (c8 ra)), .val (.int (c8 rb)), .val (.int (c8 rc)), .unset, .unset, .unset, .unset] [(.int (5 : Int32))])) _
    refine st222 _ ?_
    refine XS.astore X222.here hx rfl (hb hby at_38) rfl rfl (l' := #[.val (.int sel), .val (.int ra), .val (.int rb), .val (.int rc), .val (.int fl), .val (.int (5 : Int32)), .val (.int (c8 ra)), .val (.int (c8 rb)), .val (.int (c8 rc)), .val (.ref kd), .unset, .unset, .unset]) rfl ?_
    refine XS.iload X222.here hx rfl (hb hby at_40) rfl ?_
    refine XS.iconst X222.here hx rfl (hb hby at_42) ?_
    refine XS.iand X222.here hx rfl (hb hby at_43) rfl ?_
    refine XS.ifYes X222.here hx rfl (pc0 := 44) (pc' := 67) rfl (hb hby at_44) rfl ((if0 _ _).trans (teq hc44).1) (by decide) (by decide) ?_
    show Steps p.tables e below (T222.setTop (mkF m 67 #[.val (.int sel), .val (.int ra), .val (.int rb), .val (.int rc), .val (.int fl), .val (.int (5 : Int32)), .val (.int (c8 ra)), .val (.int (c8 rb)), .val (.int (c8 rc)), .val (.ref kd), .unset, .unset, .unset] [])) _
    refine XS.iload X222.here hx rfl (hb hby at_67) rfl ?_
    refine XS.iload X222.here hx rfl (hb hby at_69) rfl ?_
    refine XS.iload X222.here hx rfl (hb hby at_71) rfl ?_
    refine XS.iload X222.here hx rfl (hb hby at_73) rfl ?_
    show Steps p.tables e below (T222.setTop (mkF m 75 #[.val (.int sel), .val (.int ra), .val (.int rb), .val (.int rc), .val (.int fl), .val (.int (5 : Int32)), .val (.int (c8 ra)), .val (.int (c8 rb)), .val (.int (c8 rc)), .val (.ref kd), .unset, .unset, .unset] [(.int (c8 rc)), (.int (c8 rb)), (.int (c8 ra)), (.int (5 : Int32))])) _
    refine st223 _ ?_
    refine XS.astore X223.here hx rfl (hb hby at_78) rfl rfl (l' := #[.val (.int sel), .val (.int ra), .val (.int rb), .val (.int rc), .val (.int fl), .val (.int (5 : Int32)), .val (.int (c8 ra)), .val (.int (c8 rb)), .val (.int (c8 rc)), .val (.ref kd), .val (.ref o223), .unset, .unset]) rfl ?_
    show Steps p.tables e below (T223.setTop (mkF m 80 #[.val (.int sel), .val (.int ra), .val (.int rb), .val (.int rc), .val (.int fl), .val (.int (5 : Int32)), .val (.int (c8 ra)), .val (.int (c8 rb)), .val (.int (c8 rc)), .val (.ref kd), .val (.ref o223), .unset, .unset] [])) _
    refine st224 _ ?_
    refine XS.dup X224.here hx rfl (hb hby at_83) rfl rfl ?_
    refine XS.iconst X224.here hx rfl (hb hby at_84) ?_
    show Steps p.tables e below (T224.setTop (mkF m 85 #[.val (.int sel), .val (.int ra), .val (.int rb), .val (.int rc), .val (.int fl), .val (.int (5 : Int32)), .val (.int (c8 ra)), .val (.int (c8 rb)), .val (.int (c8 rc)), .val (.ref kd), .val (.ref o223), .unset, .unset] [(.int (3 : Int32)), (.ref b224), (.ref b224)])) _
    refine st225 _ ?_
    refine XS.dup X225.here hx rfl (hb hby at_87) rfl rfl ?_
    refine XS.iconst X225.here hx rfl (hb hby at_88) ?_
    refine XS.iload X225.here hx rfl (hb hby at_89) rfl ?_
    show Steps p.tables e below (T225.setTop (mkF m 91 #[.val (.int sel), .val (.int ra), .val (.int rb), .val (.int rc), .val (.int fl), .val (.int (5 : Int32)), .val (.int (c8 ra)), .val (.int (c8 rb)), .val (.int (c8 rc)), .val (.ref kd), .val (.ref o223), .unset, .unset] [(.int (c8 ra)), (.int (0 : Int32)), (.ref b225), (.ref b225), (.ref b224), (.ref b224)])) _
    refine st226 _ ?_
    refine XS.dup X226.here hx rfl (hb hby at_92) rfl rfl ?_
    refine XS.iconst X226.here hx rfl (hb hby at_93) ?_
    refine XS.iload X226.here hx rfl (hb hby at_94) rfl ?_
    show Steps p.tables e below (T226.setTop (mkF m 96 #[.val (.int sel), .val (.int ra), .val (.int rb), .val (.int rc), .val (.int fl), .val (.int (5 : Int32)), .val (.int (c8 ra)), .val (.int (c8 rb)), .val (.int (c8 rc)), .val (.ref kd), .val (.ref o223), .unset, .unset] [(.int (c8 rb)), (.int (1 : Int32)), (.ref b225), (.ref b225), (.ref b224), (.ref b224)])) _
    refine st227 _ ?_
    refine XS.dup X227.here hx rfl (hb hby at_97) rfl rfl ?_
    refine XS.iconst X227.here hx rfl (hb hby at_98) ?_
    refine XS.iload X227.here hx rfl (hb hby at_99) rfl ?_
    show Steps p.tables e below (T227.setTop (mkF m 101 #[.val (.int sel), .val (.int ra), .val (.int rb), .val (.int rc), .val (.int fl), .val (.int (5 : Int32)), .val (.int (c8 ra)), .val (.int (c8 rb)), .val (.int (c8 rc)), .val (.ref kd), .val (.ref o223), .unset, .unset] [(.int (c8 rc)), (.int (2 : Int32)), (.ref b225), (.ref b225), (.ref b224), (.ref b224)])) _
    refine st228 _ ?_
    show Steps p.tables e below (T228.setTop (mkF m 102 #[.val (.int sel), .val (.int ra), .val (.int rb), .val (.int rc), .val (.int fl), .val (.int (5 : Int32)), .val (.int (c8 ra)), .val (.int (c8 rb)), .val (.int (c8 rc)), .val (.ref kd), .val (.ref o223), .unset, .unset] [(.ref b225), (.ref b224), (.ref b224)])) _
    refine st229.trans ?_
    refine XS.astore X229.here hx rfl (hb hby at_105) rfl rfl (l' := #[.val (.int sel), .val (.int ra), .val (.int rb), .val (.int rc), .val (.int fl), .val (.int (5 : Int32)), .val (.int (c8 ra)), .val (.int (c8 rb)), .val (.int (c8 rc)), .val (.ref kd), .val (.ref o223), .val (.ref b224), .unset]) rfl ?_
    refine XS.aload X229.here hx rfl (hb hby at_107) rfl rfl ?_
    refine XS.aload X229.here hx rfl (hb hby at_109) rfl rfl ?_
    show Steps p.tables e below (T229.setTop (mkF m 111 #[.val (.int sel), .val (.int ra), .val (.int rb), .val (.int rc), .val (.int fl), .val (.int (5 : Int32)), .val (.int (c8 ra)), .val (.int (c8 rb)), .val (.int (c8 rc)), .val (.ref kd), .val (.ref o223), .val (.ref b224), .unset] [(.ref o223), (.ref kd)])) _
    refine st230.trans ?_
    refine XS.astore X230.here hx rfl (hb hby at_114) rfl rfl (l' := #[.val (.int sel), .val (.int ra), .val (.int rb), .val (.int rc), .val (.int fl), .val (.int (5 : Int32)), .val (.int (c8 ra)), .val (.int (c8 rb)), .val (.int (c8 rc)), .val (.ref kd), .val (.ref o223), .val (.ref b224), .val (.ref o230)]) rfl ?_
    refine XS.aload X230.here hx rfl (hb hby at_116) rfl rfl ?_
    refine XS.aload X230.here hx rfl (hb hby at_118) rfl rfl ?_
    show Steps p.tables e below (T230.setTop (mkF m 120 #[.val (.int sel), .val (.int ra), .val (.int rb), .val (.int rc), .val (.int fl), .val (.int (5 : Int32)), .val (.int (c8 ra)), .val (.int (c8 rb)), .val (.int (c8 rc)), .val (.ref kd), .val (.ref o223), .val (.ref b224), .val (.ref o230)] [(.ref o230), (.ref b224)])) _
    refine st231.trans ?_
    show Steps p.tables e below (T231.setTop (mkF m 123 #[.val (.int sel), .val (.int ra), .val (.int rb), .val (.int rc), .val (.int fl), .val (.int (5 : Int32)), .val (.int (c8 ra)), .val (.int (c8 rb)), .val (.int (c8 rc)), .val (.ref kd), .val (.ref o223), .val (.ref b224), .val (.ref o230)] [(.int (1 : Int32))])) _
    exact retN X231 hx (t := .boolean) Bd.returns (by simp) (hb hby at_123) hr
  · show Q0  h0 n0 _ T231.heap _
    exact ⟨rfl, N231⟩
set_option maxRecDepth 65536 in
set_option maxHeartbeats 40000000 in
theorem rm0_51 (l : Launch) (Z : State) (a0 : Array Value) (hw : ∀ d ∈ tables_1, d.before a0 Z = true) (ws : List Jvm.Cond) (sel : Int32) (ra : Int32) (rb : Int32) (rc : Int32) (fl : Int32) (kd : Addr) (h0 : Heap) (n0 : Nat) (Z0 : n0 ≤ h0.size) (hk : kF sel = (5 : Int32)) (hst : Sta Z Z.heap "com/example/trestle/trestle/ResourceKind" "XML_SCHEMA" "Lcom/example/trestle/trestle/ResourceKind;" (.ref kd)) (KDm : KD Z kd 4) (O : Old Z n0 h0) (SK : StrSta Z) (hEL : EW Z a0 EL1) (hc44 : ¬ ((fl &&& (1 : Int32)) = (0 : Int32))) :
    MetFree l x (head1 (Jvm.Cond.code x code maxLocals ret :: ws) room_1) (fun aa_ U_ => aa_ = #[(.int sel), (.int ra), (.int rb), (.int rc), (.int fl)] ∧ Z.Warmed39 U_.vm ∧ U_.heap = h0 ∧ CHv Z EL1 U_.vm h0) (fun _ _ _ _ _ => True) (fun _ U_ o_ V_ => ∃ v_ L_, o_ = .returned v_ ∧ Q0  h0 n0 v_ V_.heap L_ ∧ ReturnedEndW U_ o_ V_ L_ room_1.cells room_1.slots) := by
  refine MetFree.of_bodySF (plainFor_of_name pn_0) hisR ?_
  intro p e s m args below meth c s₁ Bd hml0 hP hK
  obtain ⟨rfl, hZ, hh, CH0⟩ := hP
  have hx := Bd.exec
  have hby := Bd.bytes
  have hml : c.maxLocals = 13 := hml0
  have hown : s.vm.findClass "com/example/trestle/trestle/ResourceKindIdPinLaw" = some m.cls := findClass_of_methodNamed Bd.named
  have hnm := (name_of_methodNamed Bd.named Bd.method).1
  have X0 : Stand p l e room_1 s m #[(.int sel), (.int ra), (.int rb), (.int rc), (.int fl)] below meth c s₁ [] 0 0 := Stand.of_body Bd
  have e0 : s₁.heap = h0 := by rw [← hh, Bd.state]; rfl
  have N0 := Fr.nil n0
  have pre0 : ∀ zz, Steps p.tables e below (s₁.setTop (mkF m 0 #[.val (.int sel), .val (.int ra), .val (.int rb), .val (.int rc), .val (.int fl), .unset, .unset, .unset, .unset, .unset, .unset, .unset, .unset] [])) zz → Steps p.tables e below (s₁.setTop (entryFrame m #[(.int sel), (.int ra), (.int rb), (.int rc), (.int fl)] maxLocals)) zz := fun zz kz_ => castTop (ef_0 m sel ra rb rc fl) kz_
  have hwS : ∀ a ∈ Bundle.stringAtoms, a.before a0 Z = true := fun d hd => hw d (by simpa using (List.all_eq_true.mp (by decide +kernel : (Bundle.stringAtoms.all fun c => tables_1.contains c) = true)) d hd)
  obtain ⟨_, _, ⟨T232, L232, k232, n232⟩, -, X232, ⟨Lc232, hQ232, l232, y232, z232⟩, st232⟩ := Jvm.LawKit.callS X0 hx (y := (⟨"com/example/trestle/trestle/ResourceKindIdPinLaw", "kindOf", "(I)Lcom/example/trestle/trestle/ResourceKind;"⟩ : MethodName)) hown (mvT hZ (hw _ (List.mem_of_getElem? (i := 1) rfl))) (mvT hZ (hw _ (List.mem_of_getElem? (i := 2) rfl))) (mvT hZ (hw _ (List.mem_of_getElem? (i := 3) rfl))) (mvT hZ (hw _ (List.mem_of_getElem? (i := 4) rfl))) (by decide) (backOf (W := 0) (rmK5 l Z a0 hw [] kd h0 n0 Z0 O hst) hZ (hw _ (List.mem_of_getElem? (i := 4) rfl)) (hw _ (List.mem_of_getElem? (i := 3) rfl)) (by decide) (by decide)) (g := (mkF m 35 #[.val (.int sel), .val (.int ra), .val (.int rb), .val (.int rc), .val (.int fl), .val (.int (5 : Int32)), .val (.int (c8 ra)), .val (.int (c8 rb)), .val (.int (c8 rc)), .unset, .unset, .unset, .unset] [(.int (5 : Int32))])) rfl (by rw [hml]; rfl) (argsL := [(.int (5 : Int32))]) (rest := []) (lenOf pd_0 rfl) rfl (by show 2 * 0 + _ ≤ _; exact Nat.le_of_eq rfl) (hb hby at_35) (fun _ _ => ⟨rfl, e0, (by decide : 0 + 0 ≤ _), (by decide : 0 + 0 ≤ _)⟩)
  dsimp only [Pt.U, Pt.locs, Pt.cells, Pt.slots] at X232 l232 y232 z232 st232 hQ232
  subst l232 y232 z232
  obtain ⟨rfl, N232q, e232⟩ := hQ232
  have N232 := Fr.app N0 N232q
  obtain ⟨_, _, ⟨T233, L233, k233, n233⟩, -, X233, hS2233, hg233, ⟨Lc233, hQ233, l233, y233, z233, C233⟩, st233⟩ := callSS X232 hx (y := (⟨"com/example/trestle/trestle/ResourceKindIdPinLaw", "suffixOf", "(I)Ljava/lang/String;"⟩ : MethodName)) hown (mvT hZ (hw _ (List.mem_of_getElem? (i := 114) rfl))) (mvT hZ (hw _ (List.mem_of_getElem? (i := 115) rfl))) (mvT hZ (hw _ (List.mem_of_getElem? (i := 3) rfl))) (mvT hZ (hw _ (List.mem_of_getElem? (i := 116) rfl))) (by decide) (backOfSH (s := s) (vm0 := s.vm) (EL := EL1) (W := 1) (rmSX5 l Z a0 hw []  h0 n0 Z0 hEL) hZ (hw _ (List.mem_of_getElem? (i := 116) rfl)) (hw _ (List.mem_of_getElem? (i := 3) rfl)) (by decide) (by decide) hEL CH0) (g := (mkF m 51 #[.val (.int sel), .val (.int ra), .val (.int rb), .val (.int rc), .val (.int fl), .val (.int (5 : Int32)), .val (.int (c8 ra)), .val (.int (c8 rb)), .val (.int (c8 rc)), .val (.ref kd), .unset, .unset, .unset] [(.int (5 : Int32)), (.ref kd)])) rfl (by rw [hml]; rfl) (argsL := [(.int (5 : Int32))]) (rest := [(.ref kd)]) (lenOf pd_23 rfl) rfl (by show 2 * 0 + _ ≤ _; exact Nat.le_of_eq rfl) (hb hby at_51) (fun _ _ => ⟨rfl, e232, (by decide : 0 + 2 ≤ _), (by decide : 0 + 60 ≤ _)⟩)
  dsimp only [Pt.U, Pt.locs, Pt.cells, Pt.slots] at X233 l233 y233 z233 st233 hQ233 hS2233 hg233
  subst l233 y233 z233
  obtain ⟨o233, rfl, N233q, K233, S233⟩ := hQ233
  have N233 := Fr.app N232 N233q
  dsimp only [Pt.U, Pt.locs, Pt.cells, Pt.slots] at C233
  have CR233 := (CHr.refl CH0).trans C233
  have hS233 := foldS ((State.WarmedH.refl s).since 0) (by rw [e232]; exact (Nat.zero_le _)) hS2233 hg233
  have hZ233 : Z.Warmed39 (s.setVm T233.vm).vm := State.Warmed39.trans hZ hS2233.1
  have hown233 : (s.setVm T233.vm).vm.findClass "com/example/trestle/trestle/ResourceKindIdPinLaw" = some m.cls := by rw [show (s.setVm T233.vm).vm = T233.vm from rfl, hS2233.1.alike.findClass]; exact hown
  have KK233 := (Keep.refl h0 []).trans K233 (fun x r => absurd r List.not_mem_nil)
  have Z233 : n0 ≤ T233.heap.size := Nat.le_trans Z0 K233.1
  have O233 := O.keep K233 all0'
  have EKo233 := KDm.1.ext O233.2
  obtain ⟨cq234, kq234, q234a, q234b, q234c⟩ := isOf hZ233 rfl EKo233
  obtain ⟨_, _, ⟨T234, L234, k234, n234⟩, -, X234, hS2234, hg234, ⟨Lc234, hQ234, l234, y234, z234, C234⟩, st234⟩ := X233.virtualBackS hx (y := (⟨"com/example/trestle/trestle/ResourceKind", "id", "(Ljava/lang/String;)Ljava/lang/String;"⟩ : MethodName)) (z := (⟨"com/example/trestle/trestle/ResourceKind", "id", "(Ljava/lang/String;)Ljava/lang/String;"⟩ : MethodName)) hown233 (mvT hZ233 (hw _ (List.mem_of_getElem? (i := 41) rfl))) (mvT hZ233 (hw _ (List.mem_of_getElem? (i := 42) rfl))) (notFace_of_selects (args := #[]) (mvT hZ233 (hw _ (List.mem_of_getElem? (i := 44) rfl)))) (mvT hZ233 (hw _ (List.mem_of_getElem? (i := 44) rfl))) (mvT hZ233 (hw _ (List.mem_of_getElem? (i := 43) rfl))) (by decide) (backOfSH (s := s) (vm0 := T233.vm) (EL := EL1) (W := 0) (rmID0 l Z a0 hw [] kd o233 4 sw5 T233.heap n0 Z233 (by decide) O233 SK S233 (by decide) KDm hEL) hZ233 (hw _ (List.mem_of_getElem? (i := 45) rfl)) (hw _ (List.mem_of_getElem? (i := 6) rfl)) (by decide) (by decide) hEL C233.1) q234a q234c (g := (mkF m 54 #[.val (.int sel), .val (.int ra), .val (.int rb), .val (.int rc), .val (.int fl), .val (.int (5 : Int32)), .val (.int (c8 ra)), .val (.int (c8 rb)), .val (.int (c8 rc)), .val (.ref kd), .unset, .unset, .unset] [(.ref o233), (.ref kd)])) rfl (by rw [hml]; rfl) (Steps.refl _) (argsL := [(.ref o233)]) (rest := []) (lenOf pd_8 rfl) rfl (by show 2 * 0 + _ ≤ _; exact Nat.le_of_eq rfl) (hb hby at_54) (fun _ _ => ⟨rfl, rfl, (by decide : 2 + 2 ≤ _), (by decide : 60 + 4 ≤ _)⟩)
  dsimp only [Pt.U, Pt.locs, Pt.cells, Pt.slots] at X234 l234 y234 z234 st234 hQ234 hS2234 hg234 C234
  subst l234 y234 z234
  obtain ⟨o234, rfl, N234q, K234, S234⟩ := hQ234
  have N234 := Fr.app N233 N234q
  have CR234 := CR233.trans C234
  have hS234 := foldS hS233 (by exact (Nat.le_refl _)) hS2234 hg234
  have hZ234 : Z.Warmed39 (s.setVm T234.vm).vm := State.Warmed39.trans hZ233 hS2234.1
  have hown234 : (s.setVm T234.vm).vm.findClass "com/example/trestle/trestle/ResourceKindIdPinLaw" = some m.cls := by rw [show (s.setVm T234.vm).vm = T234.vm from rfl, hS2234.1.alike.findClass]; exact hown233
  have KK234 := KK233.trans K234 (fun x r => absurd r List.not_mem_nil)
  have Z234 : n0 ≤ T234.heap.size := Nat.le_trans Z233 K234.1
  have O234 := O233.keep K234 all0'
  obtain ⟨a235, T235, h235, k235, v235, kk235, X235, e235, E235, hS235, hk235, hZ235, hown235, Ex235, Fc235, Fv235, Av235, la235, lb235, C235, Lt235, Sn235, st235⟩ := ldcCH (s := s) (vm0 := T234.vm) (EL := EL1) X234 hx hZ234 hown234 (hw _ (List.mem_of_getElem? (i := 121) rfl)) hwS rfl hS234 (Nat.le_refl _) hEL (by decide) C234.1 (vs := []) (z := (0 : Int32)) (by decide) (by decide) (by decide) (g := (mkF m 59 #[.val (.int sel), .val (.int ra), .val (.int rb), .val (.int rc), .val (.int fl), .val (.int (5 : Int32)), .val (.int (c8 ra)), .val (.int (c8 rb)), .val (.int (c8 rc)), .val (.ref kd), .val (.ref o234), .unset, .unset] [])) rfl (hb hby at_59) (n := 0) (by decide) (by decide) (by decide) (by decide)
  have O235 := O234.ext E235
  have K235 := KK234.ext E235
  have Z235 : n0 ≤ h235.size := Nat.le_trans Z234 E235.1
  have CR235 := CR234.trans C235
  have SB235 := S234.ext E235
  obtain ⟨cq236, kq236, q236a, q236b, q236c⟩ := isOf hZ235 e235 Ex235
  obtain ⟨_, _, ⟨T236, L236, k236, n236⟩, -, X236, ⟨Lc236, hQ236, l236, y236, z236⟩, st236⟩ := X235.virtualBack hx (y := (⟨"java/lang/String", "equals", "(Ljava/lang/Object;)Z"⟩ : MethodName)) (z := (⟨"java/lang/String", "equals", "(Ljava/lang/Object;)Z"⟩ : MethodName)) hown235 (mvT hZ235 (hw _ (List.mem_of_getElem? (i := 103) rfl))) (mvT hZ235 (hw _ (List.mem_of_getElem? (i := 104) rfl))) (notFace_of_selects (args := #[]) (mvT hZ235 (hw _ (List.mem_of_getElem? (i := 106) rfl)))) (mvT hZ235 (hw _ (List.mem_of_getElem? (i := 106) rfl))) (mvT hZ235 (hw _ (List.mem_of_getElem? (i := 105) rfl))) (by decide) (backOf (W := 0) (rmEQ l Z a0 hw [] a235 o234 0 (fun _ => 0) h235 n0 Z235 (by decide) O235 SK ⟨Ex235, v235, Fv235, Fc235, AF.empty Av235 rfl _⟩ (SB235.congr fun j hj => absurd hj (Nat.not_lt_zero _))) hZ235 (hw _ (List.mem_of_getElem? (i := 107) rfl)) (hw _ (List.mem_of_getElem? (i := 13) rfl)) (by decide) (by decide)) q236a q236c (g := (mkF m 63 #[.val (.int sel), .val (.int ra), .val (.int rb), .val (.int rc), .val (.int fl), .val (.int (5 : Int32)), .val (.int (c8 ra)), .val (.int (c8 rb)), .val (.int (c8 rc)), .val (.ref kd), .val (.ref o234), .unset, .unset] [(.ref o234), (.ref a235)])) rfl (by rw [hml]; rfl) (Steps.refl _) (argsL := [(.ref o234)]) (rest := []) (lenOf pd_21 rfl) rfl (by show 2 * 0 + _ ≤ _; exact Nat.le_of_eq rfl) (hb hby at_63) (fun _ _ => ⟨rfl, e235, (by decide : 6 + 0 ≤ _), (by decide : 68 + 0 ≤ _)⟩)
  dsimp only [Pt.U, Pt.locs, Pt.cells, Pt.slots] at X236 l236 y236 z236 st236 hQ236
  subst l236 y236 z236
  obtain ⟨rfl, N236q, e236⟩ := hQ236
  have N236 := Fr.app N234 N236q
  obtain ⟨fs, hr, hrun, hended, -, hWW, hBB, hSS⟩ := Stand.leaveW (s := s) (vm₁ := T235.vm) X236 hS235 (by rw [e236]; exact hk235) (v := some (.int (1 : Int32))) (fun h => by rw [Bd.returns] at h; cases h)
  refine ⟨_, _, pre0 _ ?_, hrun, hended, _, _, rfl, ?_, ⟨_, rfl⟩, hWW, hBB, hSS.mono (by decide) (by decide)⟩
  · show Steps p.tables e below (s₁.setTop (mkF m 0 #[.val (.int sel), .val (.int ra), .val (.int rb), .val (.int rc), .val (.int fl), .unset, .unset, .unset, .unset, .unset, .unset, .unset, .unset] [])) _
    refine XS.iloadN X0.here hx rfl (hb hby at_0) rfl ?_
    refine X0.ldcInt hx hown (mvT hZ (hw _ (List.mem_of_getElem? (i := 0) rfl))) (g := (mkF m 1 #[.val (.int sel), .val (.int ra), .val (.int rb), .val (.int rc), .val (.int fl), .unset, .unset, .unset, .unset, .unset, .unset, .unset, .unset] [(.int sel)])) rfl (hb hby at_1) _ ?_
    refine XS.iand X0.here hx rfl (hb hby at_3) rfl ?_
    refine XS.bipush X0.here hx rfl (hb hby at_4) ?_
    refine gwIrem X0.here hx rfl (hb hby at_6) rfl (by decide) ?_
    show Steps p.tables e below (s₁.setTop (mkF m 7 #[.val (.int sel), .val (.int ra), .val (.int rb), .val (.int rc), .val (.int fl), .unset, .unset, .unset, .unset, .unset, .unset, .unset, .unset] [(.int (kF sel))])) _
    refine XS.istore X0.here hx rfl (hb hby at_7) rfl (l' := #[.val (.int sel), .val (.int ra), .val (.int rb), .val (.int rc), .val (.int fl), .val (.int (kF sel)), .unset, .unset, .unset, .unset, .unset, .unset, .unset]) rfl ?_
    refine XS.iloadN X0.here hx rfl (hb hby at_9) rfl ?_
    refine XS.sipush X0.here hx rfl (hb hby at_10) ?_
    refine XS.iand X0.here hx rfl (hb hby at_13) rfl ?_
    refine XS.i2c X0.here hx rfl (hb hby at_14) rfl ?_
    show Steps p.tables e below (s₁.setTop (mkF m 15 #[.val (.int sel), .val (.int ra), .val (.int rb), .val (.int rc), .val (.int fl), .val (.int (kF sel)), .unset, .unset, .unset, .unset, .unset, .unset, .unset] [(.int (c8 ra))])) _
    refine XS.istore X0.here hx rfl (hb hby at_15) rfl (l' := #[.val (.int sel), .val (.int ra), .val (.int rb), .val (.int rc), .val (.int fl), .val (.int (kF sel)), .val (.int (c8 ra)), .unset, .unset, .unset, .unset, .unset, .unset]) rfl ?_
    refine XS.iloadN X0.here hx rfl (hb hby at_17) rfl ?_
    refine XS.sipush X0.here hx rfl (hb hby at_18) ?_
    refine XS.iand X0.here hx rfl (hb hby at_21) rfl ?_
    refine XS.i2c X0.here hx rfl (hb hby at_22) rfl ?_
    show Steps p.tables e below (s₁.setTop (mkF m 23 #[.val (.int sel), .val (.int ra), .val (.int rb), .val (.int rc), .val (.int fl), .val (.int (kF sel)), .val (.int (c8 ra)), .unset, .unset, .unset, .unset, .unset, .unset] [(.int (c8 rb))])) _
    refine XS.istore X0.here hx rfl (hb hby at_23) rfl (l' := #[.val (.int sel), .val (.int ra), .val (.int rb), .val (.int rc), .val (.int fl), .val (.int (kF sel)), .val (.int (c8 ra)), .val (.int (c8 rb)), .unset, .unset, .unset, .unset, .unset]) rfl ?_
    refine XS.iloadN X0.here hx rfl (hb hby at_25) rfl ?_
    refine XS.sipush X0.here hx rfl (hb hby at_26) ?_
    refine XS.iand X0.here hx rfl (hb hby at_29) rfl ?_
    refine XS.i2c X0.here hx rfl (hb hby at_30) rfl ?_
    show Steps p.tables e below (s₁.setTop (mkF m 31 #[.val (.int sel), .val (.int ra), .val (.int rb), .val (.int rc), .val (.int fl), .val (.int (kF sel)), .val (.int (c8 ra)), .val (.int (c8 rb)), .unset, .unset, .unset, .unset, .unset] [(.int (c8 rc))])) _
    refine XS.istore X0.here hx rfl (hb hby at_31) rfl (l' := #[.val (.int sel), .val (.int ra), .val (.int rb), .val (.int rc), .val (.int fl), .val (.int (kF sel)), .val (.int (c8 ra)), .val (.int (c8 rb)), .val (.int (c8 rc)), .unset, .unset, .unset, .unset]) rfl ?_
    refine XS.iload X0.here hx rfl (hb hby at_33) rfl ?_
    show Steps p.tables e below (s₁.setTop (mkF m 35 #[.val (.int sel), .val (.int ra), .val (.int rb), .val (.int rc), .val (.int fl), .val (.int (kF sel)), .val (.int (c8 ra)), .val (.int (c8 rb)), .val (.int (c8 rc)), .unset, .unset, .unset, .unset] [(.int (kF sel))])) _
    rw [show (kF sel) = (5 : Int32) from hk]
    show Steps p.tables e below (s₁.setTop (mkF m 35 #[.val (.int sel), .val (.int ra), .val (.int rb), .val (.int rc), .val (.int fl), .val (.int (5 : Int32)), .val (.int (c8 ra)), .val (.int (c8 rb)), .val (.int (c8 rc)), .unset, .unset, .unset, .unset] [(.int (5 : Int32))])) _
    refine st232 _ ?_
    refine XS.astore X232.here hx rfl (hb hby at_38) rfl rfl (l' := #[.val (.int sel), .val (.int ra), .val (.int rb), .val (.int rc), .val (.int fl), .val (.int (5 : Int32)), .val (.int (c8 ra)), .val (.int (c8 rb)), .val (.int (c8 rc)), .val (.ref kd), .unset, .unset, .unset]) rfl ?_
    refine XS.iload X232.here hx rfl (hb hby at_40) rfl ?_
    refine XS.iconst X232.here hx rfl (hb hby at_42) ?_
    refine XS.iand X232.here hx rfl (hb hby at_43) rfl ?_
    refine XS.ifNo X232.here hx rfl (hb hby at_44) rfl ((if0 _ _).trans (feq hc44).1) ?_
    show Steps p.tables e below (T232.setTop (mkF m 47 #[.val (.int sel), .val (.int ra), .val (.int rb), .val (.int rc), .val (.int fl), .val (.int (5 : Int32)), .val (.int (c8 ra)), .val (.int (c8 rb)), .val (.int (c8 rc)), .val (.ref kd), .unset, .unset, .unset] [])) _
    refine XS.aload X232.here hx rfl (hb hby at_47) rfl rfl ?_
    refine XS.iload X232.here hx rfl (hb hby at_49) rfl ?_
    show Steps p.tables e below (T232.setTop (mkF m 51 #[.val (.int sel), .val (.int ra), .val (.int rb), .val (.int rc), .val (.int fl), .val (.int (5 : Int32)), .val (.int (c8 ra)), .val (.int (c8 rb)), .val (.int (c8 rc)), .val (.ref kd), .unset, .unset, .unset] [(.int (5 : Int32)), (.ref kd)])) _
    refine st233.trans ?_
    show Steps p.tables e below (T233.setTop (mkF m 54 #[.val (.int sel), .val (.int ra), .val (.int rb), .val (.int rc), .val (.int fl), .val (.int (5 : Int32)), .val (.int (c8 ra)), .val (.int (c8 rb)), .val (.int (c8 rc)), .val (.ref kd), .unset, .unset, .unset] [(.ref o233), (.ref kd)])) _
    refine st234.trans ?_
    refine XS.astore X234.here hx rfl (hb hby at_57) rfl rfl (l' := #[.val (.int sel), .val (.int ra), .val (.int rb), .val (.int rc), .val (.int fl), .val (.int (5 : Int32)), .val (.int (c8 ra)), .val (.int (c8 rb)), .val (.int (c8 rc)), .val (.ref kd), .val (.ref o234), .unset, .unset]) rfl ?_
    show Steps p.tables e below (T234.setTop (mkF m 59 #[.val (.int sel), .val (.int ra), .val (.int rb), .val (.int rc), .val (.int fl), .val (.int (5 : Int32)), .val (.int (c8 ra)), .val (.int (c8 rb)), .val (.int (c8 rc)), .val (.ref kd), .val (.ref o234), .unset, .unset] [])) _
    refine st235 _ ?_
    refine XS.aload X235.here hx rfl (hb hby at_61) rfl rfl ?_
    show Steps p.tables e below (T235.setTop (mkF m 63 #[.val (.int sel), .val (.int ra), .val (.int rb), .val (.int rc), .val (.int fl), .val (.int (5 : Int32)), .val (.int (c8 ra)), .val (.int (c8 rb)), .val (.int (c8 rc)), .val (.ref kd), .val (.ref o234), .unset, .unset] [(.ref o234), (.ref a235)])) _
    refine st236.trans ?_
    show Steps p.tables e below (T236.setTop (mkF m 66 #[.val (.int sel), .val (.int ra), .val (.int rb), .val (.int rc), .val (.int fl), .val (.int (5 : Int32)), .val (.int (c8 ra)), .val (.int (c8 rb)), .val (.int (c8 rc)), .val (.ref kd), .val (.ref o234), .unset, .unset] [(.int (1 : Int32))])) _
    exact retN X236 hx (t := .boolean) Bd.returns (by simp) (hb hby at_66) hr
  · show Q0  h0 n0 _ T236.heap _
    exact ⟨rfl, N236⟩
set_option maxRecDepth 65536 in
set_option maxHeartbeats 40000000 in
theorem rm0 (l : Launch) (Z : State) (a0 : Array Value) (hw : ∀ d ∈ tables_1, d.before a0 Z = true) (ws : List Jvm.Cond) (sel : Int32) (ra : Int32) (rb : Int32) (rc : Int32) (fl : Int32) (kd0 kd1 kd2 kd3 kd4 kd5 : Addr) (h0 : Heap) (n0 : Nat) (Z0 : n0 ≤ h0.size) (st0 : Sta Z Z.heap "com/example/trestle/trestle/ResourceKind" "PROXY_SERVICE" "Lcom/example/trestle/trestle/ResourceKind;" (.ref kd0)) (KD0 : KD Z kd0 10) (st1 : Sta Z Z.heap "com/example/trestle/trestle/ResourceKind" "BUSINESS_SERVICE" "Lcom/example/trestle/trestle/ResourceKind;" (.ref kd1)) (KD1 : KD Z kd1 13) (st2 : Sta Z Z.heap "com/example/trestle/trestle/ResourceKind" "XQUERY" "Lcom/example/trestle/trestle/ResourceKind;" (.ref kd2)) (KD2 : KD Z kd2 3) (st3 : Sta Z Z.heap "com/example/trestle/trestle/ResourceKind" "XSLT" "Lcom/example/trestle/trestle/ResourceKind;" (.ref kd3)) (KD3 : KD Z kd3 4) (st4 : Sta Z Z.heap "com/example/trestle/trestle/ResourceKind" "WSDL" "Lcom/example/trestle/trestle/ResourceKind;" (.ref kd4)) (KD4 : KD Z kd4 5) (st5 : Sta Z Z.heap "com/example/trestle/trestle/ResourceKind" "XML_SCHEMA" "Lcom/example/trestle/trestle/ResourceKind;" (.ref kd5)) (KD5 : KD Z kd5 4) (O : Old Z n0 h0) (SK : StrSta Z) (hEL : EW Z a0 EL1)  :
    MetFree l x (head1 (Jvm.Cond.code x code maxLocals ret :: ws) room_1) (fun aa_ U_ => aa_ = #[(.int sel), (.int ra), (.int rb), (.int rc), (.int fl)] ∧ Z.Warmed39 U_.vm ∧ U_.heap = h0 ∧ CHv Z EL1 U_.vm h0) (fun _ _ _ _ _ => True) (fun _ U_ o_ V_ => ∃ v_ L_, o_ = .returned v_ ∧ Q0  h0 n0 v_ V_.heap L_ ∧ ReturnedEndW U_ o_ V_ L_ room_1.cells room_1.slots) := by
  by_cases hf : (fl &&& (1 : Int32)) = (0 : Int32)
  · rcases kF_is sel with hk | hk | hk | hk | hk | hk
    · exact rm0_00 l Z a0 hw ws sel ra rb rc fl kd0 h0 n0 Z0 hk st0 KD0 O SK hEL hf
    · exact rm0_10 l Z a0 hw ws sel ra rb rc fl kd1 h0 n0 Z0 hk st1 KD1 O SK hEL hf
    · exact rm0_20 l Z a0 hw ws sel ra rb rc fl kd2 h0 n0 Z0 hk st2 KD2 O SK hEL hf
    · exact rm0_30 l Z a0 hw ws sel ra rb rc fl kd3 h0 n0 Z0 hk st3 KD3 O SK hEL hf
    · exact rm0_40 l Z a0 hw ws sel ra rb rc fl kd4 h0 n0 Z0 hk st4 KD4 O SK hEL hf
    · exact rm0_50 l Z a0 hw ws sel ra rb rc fl kd5 h0 n0 Z0 hk st5 KD5 O SK hEL hf
  · rcases kF_is sel with hk | hk | hk | hk | hk | hk
    · exact rm0_01 l Z a0 hw ws sel ra rb rc fl kd0 h0 n0 Z0 hk st0 KD0 O SK hEL hf
    · exact rm0_11 l Z a0 hw ws sel ra rb rc fl kd1 h0 n0 Z0 hk st1 KD1 O SK hEL hf
    · exact rm0_21 l Z a0 hw ws sel ra rb rc fl kd2 h0 n0 Z0 hk st2 KD2 O SK hEL hf
    · exact rm0_31 l Z a0 hw ws sel ra rb rc fl kd3 h0 n0 Z0 hk st3 KD3 O SK hEL hf
    · exact rm0_41 l Z a0 hw ws sel ra rb rc fl kd4 h0 n0 Z0 hk st4 KD4 O SK hEL hf
    · exact rm0_51 l Z a0 hw ws sel ra rb rc fl kd5 h0 n0 Z0 hk st5 KD5 O SK hEL hf
theorem eqI_v {args : Array Value} {first s : State} {o : Option Outcome} {idx : List Nat} {t : Term} {k : Int32} (h : (Cond.eq t (.int k)).value args first o s idx = some true) : t.eval args first o idx s = some (.int k) := by
  simp only [Cond.value, Term.eval] at h
  cases ht : t.eval args first o idx s with
  | none => simp [ht] at h
  | some x => cases x <;> simp [ht] at h ⊢; exact h
theorem strOf {args : Array Value} {Z : State} {t : Term} {m : Nat} {a : Addr} (hm : m < 2147483648) (ev : t.eval args Z none [] Z = some (.ref a)) (h2 : (Cond.exactly t "java/lang/String").value args Z none Z [] = some true)
    (h3 : (Cond.arrayOf (Term.field t "java/lang/String" "value" "[B") .byte).value args Z none Z [] = some true) (h4 : (Cond.eq (Term.length (Term.field t "java/lang/String" "value" "[B")) (Term.int (Int32.ofNat m))).value args Z none Z [] = some true) (h5 : (Cond.eq (Term.field t "java/lang/String" "coder" "B") (Term.int 0)).value args Z none Z [] = some true) : ∃ w, StrV Z Z.heap a m w := by
  obtain ⟨d, ed⟩ := arr_v h3
  obtain ⟨cl, A⟩ := Arr.start ed h3
  obtain ⟨d', cl', e1, e2, e3, e4⟩ := Jvm.Free.SB.Term.length_small (eqI_v h4)
  cases ed.symm.trans e1
  have e5 := Arr.fin (U := Z) (Vm.Alike.refl _) A
  cases e2.symm.trans e5
  have sz : cl.slots.size = m := by
    have q : Int32.ofNat m = cl.slots.size.toInt32 := Value.int.inj e3
    have q := congrArg Int32.toInt q
    rw [Int32.toInt_ofNat_small hm, len_toInt e4] at q
    exact (Int.ofNat.inj q).symm
  exact ⟨fun j => (cl.slots[j]?).getD .null, Exa.start ev h2, d, Fld.start ((fld_at ev).symm.trans ed), Fld.start ((fld_at ev).symm.trans (eqI_v h5)), cl, A, sz, fun j hj => by
    show _ = some ((cl.slots[j]?).getD .null)
    rw [Array.getElem?_eq_getElem (by omega)]; rfl⟩
theorem kdOf {args : Array Value} {Z : State} {t : Term} {m : Nat} (hm : m < 2147483648) (h1 : (Cond.exactly t "com/example/trestle/trestle/ResourceKind").value args Z none Z [] = some true) (h2 : (Cond.exactly (Term.field t "com/example/trestle/trestle/ResourceKind" "suffix" "Ljava/lang/String;") "java/lang/String").value args Z none Z [] = some true)
    (h3 : (Cond.arrayOf (Term.field (Term.field t "com/example/trestle/trestle/ResourceKind" "suffix" "Ljava/lang/String;") "java/lang/String" "value" "[B") .byte).value args Z none Z [] = some true) (h4 : (Cond.eq (Term.length (Term.field (Term.field t "com/example/trestle/trestle/ResourceKind" "suffix" "Ljava/lang/String;") "java/lang/String" "value" "[B")) (Term.int (Int32.ofNat m))).value args Z none Z [] = some true) (h5 : (Cond.eq (Term.field (Term.field t "com/example/trestle/trestle/ResourceKind" "suffix" "Ljava/lang/String;") "java/lang/String" "coder" "B") (Term.int 0)).value args Z none Z [] = some true) : ∃ kd, t.eval args Z none [] Z = some (.ref kd) ∧ KD Z kd m := by
  obtain ⟨kd, ev⟩ := exa_v h1
  obtain ⟨su, es⟩ := exa_v h2
  exact ⟨kd, ev, Exa.start ev h1, su, Fld.start ((fld_at ev).symm.trans es), strOf hm es h2 h3 h4 h5⟩

set_option maxRecDepth 65536 in
set_option maxHeartbeats 40000000 in
theorem comes_1 {Post : Tables → Env → Array Value → State → Outcome → State → Prop} (hpost : ∀ tb e args s v u, (limb_1_1.after args s (.returned v) u = true ∧ limb_1_2.after args s (.returned v) u = true ∧ True) → FramedW s (.returned v) u (Jvm.fieldLocs frame_1_writes args s ++ Jvm.arrayLocs frame_1_arrays args s ++ Jvm.staticLocs frame_1_statics s) 40 8448 → Post tb e args s (.returned v) u) :
    ArmFor flags0 classFile x code maxLocals ret World_1 tables_1 room_1 Calls_1 rest_1 Pre_1 Post := by
  intro l hfl _ _ p e ha hc hk s m args below hf hA hF happ hP
  obtain ⟨hcalls, hrest, hpre⟩ := hP
  obtain ⟨-, -, -, hnamed, -, -, -, hat⟩ := (Spec.applies_iff hf).mp happ
  obtain ⟨hg, hn⟩ := and_e (Cond.before_iff.mp (show (Jvm.Cond.and given_1 narrow_1).before args s = true from hpre))
  obtain ⟨hcount, hg0⟩ := and_e hg
  obtain ⟨ha0, hg1⟩ := and_e hg0
  obtain ⟨ha1, hg2⟩ := and_e hg1
  obtain ⟨ha2, hg3⟩ := and_e hg2
  obtain ⟨ha3, hg4⟩ := and_e hg3
  have ha4 := hg4
  obtain ⟨w0, w1, w2, w3, w4, rfl⟩ : ∃ w0 w1 w2 w3 w4 : Value, args = #[w0, w1, w2, w3, w4] := by
    have hs : args.size = 5 := by simpa [Cond.value, given_1] using hcount
    obtain ⟨L⟩ := args
    match L, hs with
    | [w0, w1, w2, w3, w4], _ => exact ⟨w0, w1, w2, w3, w4, rfl⟩
  have hw := fun d (hd : d ∈ tables_1) => atoms_spec (ws := Jvm.Cond.code x code maxLocals ret :: tables_1) hat d (List.mem_cons_of_mem _ hd)
  have hfit : Fit s := fun {y c} hc i hi => by
    obtain ⟨ha, rfl⟩ := Array.getElem?_eq_some_iff.mp hc
    have q := List.all_eq_true.mp ((Array.all_eq_true_iff_forall_mem.mp hF) _ (Array.getElem_mem ha)) i (List.mem_range.mpr hi)
    simpa [Array.getElem?_eq_getElem hi] using q
  obtain ⟨hsets, hown0⟩ := atoms_of _ (rest_1_c_eq ▸ (show rest_1_c.before _ s = true from hrest))
  obtain ⟨i0, ei0⟩ := is_v ha0
  obtain rfl : w0 = (.int i0) := Option.some.inj ei0
  obtain ⟨i1, ei1⟩ := is_v ha1
  obtain rfl : w1 = (.int i1) := Option.some.inj ei1
  obtain ⟨i2, ei2⟩ := is_v ha2
  obtain rfl : w2 = (.int i2) := Option.some.inj ei2
  obtain ⟨i3, ei3⟩ := is_v ha3
  obtain rfl : w3 = (.int i3) := Option.some.inj ei3
  obtain ⟨i4, ei4⟩ := is_v ha4
  obtain rfl : w4 = (.int i4) := Option.some.inj ei4
  have hnn := hn
  obtain ⟨x00, r00⟩ := and_e hnn
  obtain ⟨x01, r01⟩ := and_e r00
  obtain ⟨x02, r02⟩ := and_e r01
  obtain ⟨x03, r03⟩ := and_e r02
  obtain ⟨x04, r04⟩ := and_e r03
  obtain ⟨kd0, ev0, KD0⟩ := kdOf (m := 10) (by decide) x00 x01 x02 x03 x04
  have st0 := Sta.start ev0 (Or.inr ⟨(hw _ (List.mem_of_getElem? (i := 6) rfl)), (hw _ (List.mem_of_getElem? (i := 7) rfl))⟩)
  obtain ⟨x30, r10⟩ := and_e r04
  obtain ⟨x31, r11⟩ := and_e r10
  obtain ⟨x32, r12⟩ := and_e r11
  obtain ⟨x33, r13⟩ := and_e r12
  obtain ⟨x34, r14⟩ := and_e r13
  obtain ⟨kd3, ev3, KD3⟩ := kdOf (m := 4) (by decide) x30 x31 x32 x33 x34
  have st3 := Sta.start ev3 (Or.inr ⟨(hw _ (List.mem_of_getElem? (i := 6) rfl)), (hw _ (List.mem_of_getElem? (i := 113) rfl))⟩)
  obtain ⟨x20, r20⟩ := and_e r14
  obtain ⟨x21, r21⟩ := and_e r20
  obtain ⟨x22, r22⟩ := and_e r21
  obtain ⟨x23, r23⟩ := and_e r22
  obtain ⟨x24, r24⟩ := and_e r23
  obtain ⟨kd2, ev2, KD2⟩ := kdOf (m := 3) (by decide) x20 x21 x22 x23 x24
  have st2 := Sta.start ev2 (Or.inr ⟨(hw _ (List.mem_of_getElem? (i := 6) rfl)), (hw _ (List.mem_of_getElem? (i := 123) rfl))⟩)
  obtain ⟨x40, r30⟩ := and_e r24
  obtain ⟨x41, r31⟩ := and_e r30
  obtain ⟨x42, r32⟩ := and_e r31
  obtain ⟨x43, r33⟩ := and_e r32
  obtain ⟨x44, r34⟩ := and_e r33
  obtain ⟨kd4, ev4, KD4⟩ := kdOf (m := 5) (by decide) x40 x41 x42 x43 x44
  have st4 := Sta.start ev4 (Or.inr ⟨(hw _ (List.mem_of_getElem? (i := 6) rfl)), (hw _ (List.mem_of_getElem? (i := 126) rfl))⟩)
  obtain ⟨x10, r40⟩ := and_e r34
  obtain ⟨x11, r41⟩ := and_e r40
  obtain ⟨x12, r42⟩ := and_e r41
  obtain ⟨x13, r43⟩ := and_e r42
  obtain ⟨x14, r44⟩ := and_e r43
  obtain ⟨kd1, ev1, KD1⟩ := kdOf (m := 13) (by decide) x10 x11 x12 x13 x14
  have st1 := Sta.start ev1 (Or.inr ⟨(hw _ (List.mem_of_getElem? (i := 6) rfl)), (hw _ (List.mem_of_getElem? (i := 129) rfl))⟩)
  obtain ⟨x50, r50⟩ := and_e r44
  obtain ⟨x51, r51⟩ := and_e r50
  obtain ⟨x52, r52⟩ := and_e r51
  obtain ⟨x53, r53⟩ := and_e r52
  have x54 := r53
  obtain ⟨kd5, ev5, KD5⟩ := kdOf (m := 4) (by decide) x50 x51 x52 x53 x54
  have st5 := Sta.start ev5 (Or.inr ⟨(hw _ (List.mem_of_getElem? (i := 6) rfl)), (hw _ (List.mem_of_getElem? (i := 133) rfl))⟩)
  have n3 := not_v (Cond.before_iff.mp (hsets _ (List.mem_of_getElem? (i := 2) rfl)))
  obtain ⟨i7, e6⟩ := is_v (Cond.before_iff.mp (hsets _ (List.mem_of_getElem? (i := 1) rfl)))
  have S8 : Sta s s.heap "java/lang/String" "COMPACT_STRINGS" "Z" (.int i7) := Sta.start e6 (Or.inl (hsets _ (List.mem_of_getElem? (i := 0) rfl)))
  obtain ⟨v9, e10, r11⟩ := isR_v (Cond.before_iff.mp (hsets _ (List.mem_of_getElem? (i := 8) rfl)))
  have S12 : Sta s s.heap "jdk/internal/util/Preconditions" "SIOOBE_FORMATTER" "Ljava/util/function/BiFunction;" v9 := Sta.start e10 (Or.inl (hsets _ (List.mem_of_getElem? (i := 7) rfl)))
  have c13 : ¬ (i7 = (0 : Int32)) := gotF (Cond.eq_ints e6 (Term.int_eval (0))) n3
  have SK : StrSta s := ⟨⟨i7, c13, S8⟩, by cases v9 <;> first | exact Or.inl S12 | exact Or.inr ⟨_, S12⟩ | (simp [Value.isRef] at r11)⟩
  have hcw : Jvm.Lit.compactW.before #[] s = true := hsets _ (List.mem_of_getElem? (i := 2) rfl)
  have hEL : EW s #[] EL1 := (EW.cons (hw _ (List.mem_of_getElem? (i := 121) rfl)) (by decide) (EW.cons (hw _ (List.mem_of_getElem? (i := 131) rfl)) (by decide) (EW.cons (hw _ (List.mem_of_getElem? (i := 130) rfl)) (by decide) (EW.cons (hw _ (List.mem_of_getElem? (i := 124) rfl)) (by decide) (EW.cons (hw _ (List.mem_of_getElem? (i := 117) rfl)) (by decide) (EW.cons (hw _ (List.mem_of_getElem? (i := 127) rfl)) (by decide) (EW.cons (hw _ (List.mem_of_getElem? (i := 134) rfl)) (by decide) (EW.cons (hw _ (List.mem_of_getElem? (i := 120) rfl)) (by decide) EW.nil))))))))
  have CH0 : CHv s EL1 s.vm s.heap := CHv.start hEL (fun p hp => hcalls.1 p hp) hcw (hw _ (List.mem_of_getElem? (i := 30) rfl)) (hw _ (List.mem_of_getElem? (i := 12) rfl))
  obtain ⟨n, o, h1, h2, h3, _, L, rfl, ⟨rfl, N⟩, hq⟩ := rm0 l s _ hw tables_1 i0 i1 i2 i3 i4 kd0 kd1 kd2 kd3 kd4 kd5 s.heap s.heap.size (Nat.le_refl _) st0 KD0 st1 KD1 st2 KD2 st3 KD3 st4 KD4 st5 KD5 (Old.start s) SK hEL p e ha hc hk s m _ below hf ((Spec.applies_iff_loose hf).mp happ).1 ⟨rfl, State.Warmed39.refl s, rfl, CH0⟩ trivial
  refine ⟨n, _, h1, h2, h3, hpost _ _ _ _ _ _ ⟨Cond.after_iff.mpr rfl, Cond.after_iff.mpr (eq_i res_at (Term.int_eval (1)) rfl), trivial⟩ ⟨hq.1, hq.2.1, hq.2.2.1, (hq.2.2.2.sift fun y hy => Or.inr (N y hy)).mono (by decide) (by decide)⟩⟩
theorem main_1_1 : Claimed_1_1 := comes_1 fun _ _ _ _ _ _ h hF => ⟨h.1, hF⟩
theorem main_1_2 : Claimed_1_2 := comes_1 fun _ _ _ _ _ _ h hF => ⟨h.2.1, hF⟩
end Jvm.Pilot.@@N@@
namespace Jvm.Pilot.@@N@@
open Jvm Jvm.ClassFile Sem Op Lib Jvm.Free Jvm.Stand Jvm.Pilot.@@N@@.Jvm.D
/-! MADE BY PROGRAM (witnessworld.py) out of the Statement's table words and the real class files: 24 classes; the members and pool entries that the words name. The judged class is class 1, her method 1. -/
namespace start1
open Jvm.ClassFile
def u (s : String) : CpInfo := .utf8 (stringToUtf16 s)
/-- a pool by its gaps: so many unusable entries, then the entry; so many at the end -/
def gap : Nat → List CpInfo → List CpInfo
  | 0, r => r
  | n + 1, r => .unusable :: gap n r
def poolList (es : List (Nat × CpInfo)) (last : Nat) : List CpInfo := es.foldr (fun e r => gap e.1 (e.2 :: r)) (gap last [])
def pool (es : List (Nat × CpInfo)) (last : Nat) : Array CpInfo := ⟨poolList es last⟩
def fileOf (pool : Array CpInfo) (this : Nat) (attrs : Array Attribute := #[]) (ms : Array MethodInfo := #[]) (fl : Nat := 33) (sup : Nat := 0) (ifs : Array Nat := #[]) (fds : Array FieldInfo := #[]) : ClassFile where
  minorVersion := 0
  majorVersion := 65
  constantPool := pool
  accessFlags := fl
  thisClass := this
  superClass := sup
  interfaces := ifs
  fields := fds
  methods := ms
  attributes := attrs
def plain (name : String) (sup : Option ClassId) : Class where
  name := name
  kind := .ordinary
  loader := none
  accessFlags := 33
  super := sup
  interfaces := #[]
  cf := none
  fields := #[]
  methods := #[]
  instanceTypes := #[]
  staticTypes := #[]
  resolved := #[]
  callSites := []
  init := .initialized
  statics := none
  mirror := none

def pool0 : Array CpInfo := pool [(5, u "<init>"), (0, u "()V"), (1, .class_ 10), (1, u "java/lang/Object")] 113

def k0c0 : Code := { maxStack := 0, maxLocals := 1, code := object_method_1_code, exceptionTable := #[], attributes := #[] }
def k0m0 : Method := { name := "<init>", desc := "()V", sig := { parameters := [], returnType := none }, accessFlags := 1, code := some k0c0 }
/-- java/lang/Object -/
def k0 : Class := { plain "java/lang/Object" none with
  accessFlags := 33
  interfaces := #[]
  cf := some (fileOf pool0 8 #[] #[{ accessFlags := 1, nameIndex := 5, descriptorIndex := 6, attributes := #[] }] 33 0 #[] #[])
  fields := #[]
  methods := #[k0m0]
  instanceTypes := #[]
  staticTypes := #[]
  resolved := Array.replicate 124 none
  statics := none }

def pool1 : Array CpInfo := pool [(2, .class_ 4), (1, u "java/lang/Object"), (0, u "<init>"), (0, u "()V"), (0, .integer 2147483647), (0, .methodref 9 10), (0, .class_ 11), (0, .nameAndType 12 13), (0, u "com/example/trestle/trestle/ResourceKindIdPinLaw"), (0, u "kindOf"), (0, u "(I)Lcom/example/trestle/trestle/ResourceKind;"), (0, .methodref 9 15), (0, .nameAndType 16 17), (0, u "suffixOf"), (0, u "(I)Ljava/lang/String;"), (0, .methodref 19 20), (0, .class_ 21), (0, .nameAndType 22 23), (0, u "com/example/trestle/trestle/ResourceKind"), (0, u "id"), (0, u "(Ljava/lang/String;)Ljava/lang/String;"), (0, .string 25), (0, u ""), (0, .methodref 27 28), (0, .class_ 29), (0, .nameAndType 30 31), (0, u "java/lang/String"), (0, u "equals"), (0, u "(Ljava/lang/Object;)Z"), (0, .methodref 9 33), (0, .nameAndType 34 35), (0, u "withPrefix"), (0, u "(ICCC)Ljava/lang/String;"), (0, .methodref 27 37), (0, .nameAndType 5 38), (0, u "([C)V"), (0, .fieldref 19 40), (0, .nameAndType 41 42), (0, u "PROXY_SERVICE"), (0, u "Lcom/example/trestle/trestle/ResourceKind;"), (0, .fieldref 19 44), (0, .nameAndType 45 42), (0, u "BUSINESS_SERVICE"), (0, .fieldref 19 47), (0, .nameAndType 48 42), (0, u "XQUERY"), (0, .fieldref 19 50), (0, .nameAndType 51 42), (0, u "XSLT"), (0, .fieldref 19 53), (0, .nameAndType 54 42), (0, u "WSDL"), (0, .fieldref 19 56), (0, .nameAndType 57 42), (0, u "XML_SCHEMA"), (0, .string 59), (0, u ".proxy.xml"), (0, .string 61), (0, u ".business.xml"), (0, .string 63), (0, u ".xq"), (0, .string 65), (0, u ".xsl"), (0, .string 67), (0, u ".wsdl"), (0, .string 69), (0, u ".xsd"), (2, u "law"), (0, u "(IIIII)Z")] 3

def k1m0 : Method := { name := "<init>", desc := "()V", sig := { parameters := [], returnType := none }, accessFlags := 1, code := none }
def k1c1 : Code := { maxStack := 6, maxLocals := 13, code := code, exceptionTable := #[], attributes := #[] }
def k1m1 : Method := { name := "law", desc := "(IIIII)Z", sig := { parameters := [.int, .int, .int, .int, .int], returnType := some .boolean }, accessFlags := 9, code := some k1c1 }
def k1c2 : Code := { maxStack := 2, maxLocals := 1, code := method_3_code, exceptionTable := #[], attributes := #[] }
def k1m2 : Method := { name := "kindOf", desc := "(I)Lcom/example/trestle/trestle/ResourceKind;", sig := { parameters := [.int], returnType := some (.object "com/example/trestle/trestle/ResourceKind") }, accessFlags := 10, code := some k1c2 }
def k1c3 : Code := { maxStack := 2, maxLocals := 1, code := method_4_code, exceptionTable := #[], attributes := #[] }
def k1m3 : Method := { name := "suffixOf", desc := "(I)Ljava/lang/String;", sig := { parameters := [.int], returnType := some (.object "java/lang/String") }, accessFlags := 10, code := some k1c3 }
def k1c4 : Code := { maxStack := 6, maxLocals := 4, code := method_5_code, exceptionTable := #[], attributes := #[] }
def k1m4 : Method := { name := "withPrefix", desc := "(ICCC)Ljava/lang/String;", sig := { parameters := [.int, .char, .char, .char], returnType := some (.object "java/lang/String") }, accessFlags := 10, code := some k1c4 }
/-- com/example/trestle/trestle/ResourceKindIdPinLaw -/
def k1 : Class := { plain "com/example/trestle/trestle/ResourceKindIdPinLaw" (some 0) with
  accessFlags := 49
  interfaces := #[]
  cf := some (fileOf pool1 9 #[] #[{ accessFlags := 1, nameIndex := 5, descriptorIndex := 6, attributes := #[] }, { accessFlags := 9, nameIndex := 72, descriptorIndex := 73, attributes := #[] }, { accessFlags := 10, nameIndex := 12, descriptorIndex := 13, attributes := #[] }, { accessFlags := 10, nameIndex := 16, descriptorIndex := 17, attributes := #[] }, { accessFlags := 10, nameIndex := 34, descriptorIndex := 35, attributes := #[] }] 49 2 #[] #[])
  fields := #[]
  methods := #[k1m0, k1m1, k1m2, k1m3, k1m4]
  instanceTypes := #[]
  staticTypes := #[]
  resolved := Array.replicate 77 none
  statics := none }

def pool2 : Array CpInfo := pool [(1, .class_ 2), (0, u "java/lang/constant/Constable"), (0, .class_ 4), (0, u "java/lang/Object")] 6

/-- java/lang/constant/Constable -/
def k2 : Class := { plain "java/lang/constant/Constable" (some 0) with
  accessFlags := 1537
  interfaces := #[]
  cf := some (fileOf pool2 1 #[] #[] 1537 3 #[] #[])
  fields := #[]
  methods := #[]
  instanceTypes := #[]
  staticTypes := #[]
  resolved := Array.replicate 11 none
  statics := none }

def pool3 : Array CpInfo := pool [(1, .class_ 2), (0, u "java/lang/Comparable"), (0, .class_ 4), (0, u "java/lang/Object")] 7

/-- java/lang/Comparable -/
def k3 : Class := { plain "java/lang/Comparable" (some 0) with
  accessFlags := 1537
  interfaces := #[]
  cf := some (fileOf pool3 1 #[] #[] 1537 3 #[] #[])
  fields := #[]
  methods := #[]
  instanceTypes := #[]
  staticTypes := #[]
  resolved := Array.replicate 12 none
  statics := none }

def pool4 : Array CpInfo := pool [(1, .class_ 2), (0, u "java/io/Serializable"), (0, .class_ 4), (0, u "java/lang/Object")] 2

/-- java/io/Serializable -/
def k4 : Class := { plain "java/io/Serializable" (some 0) with
  accessFlags := 1537
  interfaces := #[]
  cf := some (fileOf pool4 1 #[] #[] 1537 3 #[] #[])
  fields := #[]
  methods := #[]
  instanceTypes := #[]
  staticTypes := #[]
  resolved := Array.replicate 7 none
  statics := none }

def pool5 : Array CpInfo := pool [(2, .class_ 4), (1, u "java/lang/Enum"), (0, u "name"), (0, u "Ljava/lang/String;"), (2, u "ordinal"), (0, u "I"), (1, .class_ 14), (1, u "java/lang/Object"), (4, u "hash"), (86, .class_ 108), (1, u "java/lang/Enum$EnumDesc"), (2, .class_ 112), (0, u "java/lang/constant/Constable"), (0, .class_ 114), (0, u "java/lang/Comparable"), (0, .class_ 116), (0, u "java/io/Serializable")] 87

/-- java/lang/Enum -/
def k5 : Class := { plain "java/lang/Enum" (some 0) with
  accessFlags := 1057
  interfaces := #[2, 3, 4]
  cf := some (fileOf pool5 2 #[.nestMembers #[106]] #[] 1057 12 #[111, 113, 115] #[{ accessFlags := 18, nameIndex := 5, descriptorIndex := 6, attributes := #[] }, { accessFlags := 18, nameIndex := 9, descriptorIndex := 10, attributes := #[] }, { accessFlags := 2, nameIndex := 19, descriptorIndex := 10, attributes := #[] }])
  fields := #[{ name := "name", type := (.object "java/lang/String"), accessFlags := 18, slot := 0, constantValue := 0 }, { name := "ordinal", type := .int, accessFlags := 18, slot := 1, constantValue := 0 }, { name := "hash", type := .int, accessFlags := 2, slot := 2, constantValue := 0 }]
  methods := #[]
  instanceTypes := #[(.object "java/lang/String"), .int, .int]
  staticTypes := #[]
  resolved := Array.replicate 204 none
  statics := none }

def pool6 : Array CpInfo := pool [(1, .class_ 2), (0, u "com/example/trestle/trestle/ResourceKind"), (2, u "PROXY_SERVICE"), (0, u "Lcom/example/trestle/trestle/ResourceKind;"), (2, u "BUSINESS_SERVICE"), (2, u "XQUERY"), (2, u "XSLT"), (2, u "WSDL"), (2, u "XML_SCHEMA"), (2, u "$VALUES"), (0, u "[Lcom/example/trestle/trestle/ResourceKind;"), (6, .class_ 34), (1, u "java/lang/Enum"), (6, .fieldref 1 42), (0, .nameAndType 43 44), (0, u "suffix"), (0, u "Ljava/lang/String;"), (5, .class_ 52), (1, u "java/lang/String"), (23, .methodref 50 77), (0, .nameAndType 78 79), (0, u "length"), (0, u "()I"), (0, .methodref 50 81), (0, .nameAndType 82 83), (0, u "substring"), (0, u "(II)Ljava/lang/String;"), (37, u "id"), (0, u "(Ljava/lang/String;)Ljava/lang/String;")] 4

def k6c0 : Code := { maxStack := 4, maxLocals := 2, code := prog_20_method_7_code, exceptionTable := #[], attributes := #[] }
def k6m0 : Method := { name := "id", desc := "(Ljava/lang/String;)Ljava/lang/String;", sig := { parameters := [(.object "java/lang/String")], returnType := some (.object "java/lang/String") }, accessFlags := 0, code := some k6c0 }
/-- com/example/trestle/trestle/ResourceKind -/
def k6 : Class := { plain "com/example/trestle/trestle/ResourceKind" (some 5) with
  accessFlags := 16432
  interfaces := #[]
  cf := some (fileOf pool6 1 #[] #[{ accessFlags := 0, nameIndex := 121, descriptorIndex := 122, attributes := #[] }] 16432 32 #[] #[{ accessFlags := 16409, nameIndex := 5, descriptorIndex := 6, attributes := #[] }, { accessFlags := 16409, nameIndex := 9, descriptorIndex := 6, attributes := #[] }, { accessFlags := 16409, nameIndex := 12, descriptorIndex := 6, attributes := #[] }, { accessFlags := 16409, nameIndex := 15, descriptorIndex := 6, attributes := #[] }, { accessFlags := 16409, nameIndex := 18, descriptorIndex := 6, attributes := #[] }, { accessFlags := 16409, nameIndex := 21, descriptorIndex := 6, attributes := #[] }, { accessFlags := 18, nameIndex := 43, descriptorIndex := 44, attributes := #[] }, { accessFlags := 4122, nameIndex := 24, descriptorIndex := 25, attributes := #[] }])
  fields := #[{ name := "PROXY_SERVICE", type := (.object "com/example/trestle/trestle/ResourceKind"), accessFlags := 16409, slot := 0, constantValue := 0 }, { name := "BUSINESS_SERVICE", type := (.object "com/example/trestle/trestle/ResourceKind"), accessFlags := 16409, slot := 1, constantValue := 0 }, { name := "XQUERY", type := (.object "com/example/trestle/trestle/ResourceKind"), accessFlags := 16409, slot := 2, constantValue := 0 }, { name := "XSLT", type := (.object "com/example/trestle/trestle/ResourceKind"), accessFlags := 16409, slot := 3, constantValue := 0 }, { name := "WSDL", type := (.object "com/example/trestle/trestle/ResourceKind"), accessFlags := 16409, slot := 4, constantValue := 0 }, { name := "XML_SCHEMA", type := (.object "com/example/trestle/trestle/ResourceKind"), accessFlags := 16409, slot := 5, constantValue := 0 }, { name := "suffix", type := (.object "java/lang/String"), accessFlags := 18, slot := 3, constantValue := 0 }, { name := "$VALUES", type := (.array (.object "com/example/trestle/trestle/ResourceKind")), accessFlags := 4122, slot := 6, constantValue := 0 }]
  methods := #[k6m0]
  instanceTypes := #[(.object "java/lang/String"), .int, .int, (.object "java/lang/String")]
  staticTypes := #[(.object "com/example/trestle/trestle/ResourceKind"), (.object "com/example/trestle/trestle/ResourceKind"), (.object "com/example/trestle/trestle/ResourceKind"), (.object "com/example/trestle/trestle/ResourceKind"), (.object "com/example/trestle/trestle/ResourceKind"), (.object "com/example/trestle/trestle/ResourceKind"), (.array (.object "com/example/trestle/trestle/ResourceKind"))]
  resolved := Array.replicate 127 none
  statics := some 0 }

def pool7 : Array CpInfo := pool [(2, .class_ 4), (1, u "java/lang/CharSequence"), (42, .class_ 48), (0, u "java/lang/CharSequence$1CodePointIterator"), (10, .class_ 60), (0, u "java/lang/CharSequence$1CharIterator"), (5, .class_ 67), (0, u "java/lang/Object")] 63

/-- java/lang/CharSequence -/
def k7 : Class := { plain "java/lang/CharSequence" (some 0) with
  accessFlags := 1537
  interfaces := #[]
  cf := some (fileOf pool7 2 #[.nestMembers #[47, 59]] #[] 1537 66 #[] #[])
  fields := #[]
  methods := #[]
  instanceTypes := #[]
  staticTypes := #[]
  resolved := Array.replicate 131 none
  statics := none }

def pool8 : Array CpInfo := pool [(1, .class_ 2), (0, u "java/lang/constant/ConstantDesc"), (0, .class_ 4), (0, u "java/lang/Object")] 32

/-- java/lang/constant/ConstantDesc -/
def k8 : Class := { plain "java/lang/constant/ConstantDesc" (some 0) with
  accessFlags := 1537
  interfaces := #[]
  cf := some (fileOf pool8 1 #[] #[] 1537 3 #[] #[])
  fields := #[]
  methods := #[]
  instanceTypes := #[]
  staticTypes := #[]
  resolved := Array.replicate 37 none
  statics := none }

def pool9 : Array CpInfo := pool [(1, .methodref 2 3), (0, .class_ 4), (0, .nameAndType 5 6), (0, u "java/lang/Object"), (0, u "<init>"), (0, u "()V"), (2, .fieldref 10 11), (0, .class_ 12), (0, .nameAndType 13 14), (0, u "java/lang/String"), (0, u "value"), (0, u "[B"), (0, .fieldref 10 16), (0, .nameAndType 17 18), (0, u "coder"), (0, u "B"), (2, u "hash"), (0, u "I"), (2, u "hashIsZero"), (0, u "Z"), (0, .methodref 10 28), (0, .nameAndType 5 29), (0, u "([CIILjava/lang/Void;)V"), (8, .fieldref 10 39), (0, .nameAndType 40 26), (0, u "COMPACT_STRINGS"), (1, .class_ 44), (1, u "java/lang/StringUTF16"), (0, u "compress"), (1, .methodref 42 48), (0, .nameAndType 49 50), (0, u "coderFromArrayLen"), (0, u "([BI)B"), (56, .class_ 109), (1, u "java/lang/StringLatin1"), (32, u "()Z"), (34, .methodref 42 178), (0, .nameAndType 45 179), (0, u "([CII)[B"), (31, u "([BB)V"), (122, u "()I"), (0, .methodref 10 336), (0, .nameAndType 17 337), (0, u "()B"), (154, .methodref 10 493), (0, .nameAndType 494 142), (0, u "isLatin1"), (10, .methodref 10 506), (0, .nameAndType 507 334), (0, u "length"), (5, u "checkFromToIndex"), (7, .methodref 10 522), (0, .nameAndType 523 524), (0, u "checkBoundsBeginEnd"), (0, u "(III)V"), (16, .methodref 107 542), (0, .nameAndType 543 544), (0, u "equals"), (0, u "([B[B)Z"), (28, u "(Ljava/lang/Object;)Z"), (1, .class_ 576), (0, u "java/lang/CharSequence"), (22, u "CASE_INSENSITIVE_ORDER"), (0, u "Ljava/util/Comparator;"), (82, u "substring"), (0, u "(II)Ljava/lang/String;"), (0, .methodref 107 686), (0, .nameAndType 687 688), (0, u "newString"), (0, u "([BII)Ljava/lang/String;"), (321, u "([C)V"), (42, .fieldref 1054 1055), (0, .class_ 1056), (0, .nameAndType 1057 1058), (0, u "jdk/internal/util/Preconditions"), (0, u "SIOOBE_FORMATTER"), (0, u "Ljava/util/function/BiFunction;"), (3, .methodref 1054 1063), (0, .nameAndType 513 1064), (0, u "(IIILjava/util/function/BiFunction;)I"), (36, u "serialPersistentFields"), (0, u "[Ljava/io/ObjectStreamField;"), (0, .class_ 1104), (0, u "java/lang/String$CaseInsensitiveComparator"), (1, .class_ 1107), (0, u "java/io/Serializable"), (0, .class_ 1109), (0, u "java/lang/Comparable"), (0, .class_ 1111), (0, u "java/lang/constant/Constable"), (0, .class_ 1113), (0, u "java/lang/constant/ConstantDesc"), (2, u "serialVersionUID"), (0, u "J"), (3, u "REPL"), (0, u "C"), (2, u "LATIN1"), (1, u "UTF16")] 323

def k9m0 : Method := { name := "<init>", desc := "()V", sig := { parameters := [], returnType := none }, accessFlags := 1, code := none }
def k9c1 : Code := { maxStack := 5, maxLocals := 2, code := jdk_42_method_3_code, exceptionTable := #[], attributes := #[] }
def k9m1 : Method := { name := "<init>", desc := "([C)V", sig := { parameters := [(.array .char)], returnType := none }, accessFlags := 1, code := some k9c1 }
def k9c2 : Code := { maxStack := 2, maxLocals := 1, code := jdk_42_method_54_code, exceptionTable := #[], attributes := #[] }
def k9m2 : Method := { name := "length", desc := "()I", sig := { parameters := [], returnType := some .int }, accessFlags := 1, code := some k9c2 }
def k9c3 : Code := { maxStack := 2, maxLocals := 3, code := jdk_42_method_66_code, exceptionTable := #[], attributes := #[] }
def k9m3 : Method := { name := "equals", desc := "(Ljava/lang/Object;)Z", sig := { parameters := [(.object "java/lang/Object")], returnType := some .boolean }, accessFlags := 1, code := some k9c3 }
def k9c4 : Code := { maxStack := 3, maxLocals := 5, code := jdk_42_method_92_code, exceptionTable := #[], attributes := #[] }
def k9m4 : Method := { name := "substring", desc := "(II)Ljava/lang/String;", sig := { parameters := [.int, .int], returnType := some (.object "java/lang/String") }, accessFlags := 1, code := some k9c4 }
def k9c5 : Code := { maxStack := 4, maxLocals := 6, code := jdk_42_method_149_code, exceptionTable := #[], attributes := #[] }
def k9m5 : Method := { name := "<init>", desc := "([CIILjava/lang/Void;)V", sig := { parameters := [(.array .char), .int, .int, (.object "java/lang/Void")], returnType := none }, accessFlags := 2, code := some k9c5 }
def k9c6 : Code := { maxStack := 2, maxLocals := 3, code := jdk_42_method_151_code, exceptionTable := #[], attributes := #[] }
def k9m6 : Method := { name := "<init>", desc := "([BB)V", sig := { parameters := [(.array .byte), .byte], returnType := none }, accessFlags := 0, code := some k9c6 }
def k9c7 : Code := { maxStack := 1, maxLocals := 1, code := jdk_42_method_152_code, exceptionTable := #[], attributes := #[] }
def k9m7 : Method := { name := "coder", desc := "()B", sig := { parameters := [], returnType := some .byte }, accessFlags := 0, code := some k9c7 }
def k9c8 : Code := { maxStack := 1, maxLocals := 1, code := jdk_42_method_154_code, exceptionTable := #[], attributes := #[] }
def k9m8 : Method := { name := "isLatin1", desc := "()Z", sig := { parameters := [], returnType := some .boolean }, accessFlags := 0, code := some k9c8 }
def k9c9 : Code := { maxStack := 4, maxLocals := 3, code := jdk_42_method_158_code, exceptionTable := #[], attributes := #[] }
def k9m9 : Method := { name := "checkBoundsBeginEnd", desc := "(III)V", sig := { parameters := [.int, .int, .int], returnType := none }, accessFlags := 8, code := some k9c9 }
/-- java/lang/String -/
def k9 : Class := { plain "java/lang/String" (some 0) with
  accessFlags := 49
  interfaces := #[4, 3, 7, 2, 8]
  cf := some (fileOf pool9 10 #[.nestMembers #[1103]] #[{ accessFlags := 1, nameIndex := 5, descriptorIndex := 6, attributes := #[] }, { accessFlags := 1, nameIndex := 5, descriptorIndex := 1010, attributes := #[] }, { accessFlags := 1, nameIndex := 507, descriptorIndex := 334, attributes := #[] }, { accessFlags := 1, nameIndex := 543, descriptorIndex := 573, attributes := #[] }, { accessFlags := 1, nameIndex := 683, descriptorIndex := 684, attributes := #[] }, { accessFlags := 2, nameIndex := 5, descriptorIndex := 29, attributes := #[] }, { accessFlags := 0, nameIndex := 5, descriptorIndex := 211, attributes := #[] }, { accessFlags := 0, nameIndex := 17, descriptorIndex := 337, attributes := #[] }, { accessFlags := 0, nameIndex := 494, descriptorIndex := 142, attributes := #[] }, { accessFlags := 8, nameIndex := 523, descriptorIndex := 524, attributes := #[] }] 49 2 #[1106, 1108, 575, 1110, 1112] #[{ accessFlags := 18, nameIndex := 13, descriptorIndex := 14, attributes := #[] }, { accessFlags := 18, nameIndex := 17, descriptorIndex := 18, attributes := #[] }, { accessFlags := 2, nameIndex := 21, descriptorIndex := 22, attributes := #[] }, { accessFlags := 2, nameIndex := 25, descriptorIndex := 26, attributes := #[] }, { accessFlags := 26, nameIndex := 1116, descriptorIndex := 1117, attributes := #[] }, { accessFlags := 24, nameIndex := 40, descriptorIndex := 26, attributes := #[] }, { accessFlags := 26, nameIndex := 1101, descriptorIndex := 1102, attributes := #[] }, { accessFlags := 26, nameIndex := 1121, descriptorIndex := 1122, attributes := #[] }, { accessFlags := 25, nameIndex := 599, descriptorIndex := 600, attributes := #[] }, { accessFlags := 24, nameIndex := 1125, descriptorIndex := 18, attributes := #[] }, { accessFlags := 24, nameIndex := 1127, descriptorIndex := 18, attributes := #[] }])
  fields := #[{ name := "value", type := (.array .byte), accessFlags := 18, slot := 0, constantValue := 0 }, { name := "coder", type := .byte, accessFlags := 18, slot := 1, constantValue := 0 }, { name := "hash", type := .int, accessFlags := 2, slot := 2, constantValue := 0 }, { name := "hashIsZero", type := .boolean, accessFlags := 2, slot := 3, constantValue := 0 }, { name := "serialVersionUID", type := .long, accessFlags := 26, slot := 0, constantValue := 0 }, { name := "COMPACT_STRINGS", type := .boolean, accessFlags := 24, slot := 1, constantValue := 0 }, { name := "serialPersistentFields", type := (.array (.object "java/io/ObjectStreamField")), accessFlags := 26, slot := 2, constantValue := 0 }, { name := "REPL", type := .char, accessFlags := 26, slot := 3, constantValue := 0 }, { name := "CASE_INSENSITIVE_ORDER", type := (.object "java/util/Comparator"), accessFlags := 25, slot := 4, constantValue := 0 }, { name := "LATIN1", type := .byte, accessFlags := 24, slot := 5, constantValue := 0 }, { name := "UTF16", type := .byte, accessFlags := 24, slot := 6, constantValue := 0 }]
  methods := #[k9m0, k9m1, k9m2, k9m3, k9m4, k9m5, k9m6, k9m7, k9m8, k9m9]
  instanceTypes := #[(.array .byte), .byte, .int, .boolean]
  staticTypes := #[.long, .boolean, (.array (.object "java/io/ObjectStreamField")), .char, (.object "java/util/Comparator"), .byte, .byte]
  resolved := Array.replicate 1451 none
  statics := some 1 }

def pool10 : Array CpInfo := pool [(6, .class_ 8), (1, u "java/lang/Object"), (0, u "<init>"), (0, u "()V"), (1, .class_ 14), (1, u "java/lang/StringUTF16"), (31, u "$assertionsDisabled"), (0, u "Z"), (13, u "HI_BYTE_SHIFT"), (0, u "I"), (2, u "LO_BYTE_SHIFT"), (49, .methodref 12 116), (0, .nameAndType 117 118), (0, u "compress"), (0, u "([CI[BII)I"), (3, u "([CII)[B"), (138, u "coderFromArrayLen"), (0, u "([BI)B"), (106, .class_ 371), (1, u "java/lang/StringUTF16$LinesSpliterator"), (58, u "MAX_LENGTH"), (196, .class_ 628), (0, u "java/lang/StringUTF16$CodePointsSpliterator"), (0, .class_ 630), (0, u "java/lang/StringUTF16$CharsSpliterator")] 4

def k10m0 : Method := { name := "<init>", desc := "()V", sig := { parameters := [], returnType := none }, accessFlags := 0, code := none }
def k10c1 : Code := { maxStack := 2, maxLocals := 2, code := jdk_52_method_15_code, exceptionTable := #[], attributes := #[] }
def k10m1 : Method := { name := "coderFromArrayLen", desc := "([BI)B", sig := { parameters := [(.array .byte), .int], returnType := some .byte }, accessFlags := 8, code := some k10c1 }
def k10c2 : Code := { maxStack := 5, maxLocals := 6, code := jdk_52_method_16_code, exceptionTable := #[], attributes := #[] }
def k10m2 : Method := { name := "compress", desc := "([CII)[B", sig := { parameters := [(.array .char), .int, .int], returnType := some (.array .byte) }, accessFlags := 9, code := some k10c2 }
def k10c3 : Code := { maxStack := 3, maxLocals := 7, code := jdk_52_method_21_code, exceptionTable := #[], attributes := #[] }
def k10m3 : Method := { name := "compress", desc := "([CI[BII)I", sig := { parameters := [(.array .char), .int, (.array .byte), .int, .int], returnType := some .int }, accessFlags := 9, code := some k10c3 }
/-- java/lang/StringUTF16 -/
def k10 : Class := { plain "java/lang/StringUTF16" (some 0) with
  accessFlags := 48
  interfaces := #[]
  cf := some (fileOf pool10 12 #[.nestMembers #[627, 629, 369]] #[{ accessFlags := 0, nameIndex := 9, descriptorIndex := 10, attributes := #[] }, { accessFlags := 8, nameIndex := 261, descriptorIndex := 262, attributes := #[] }, { accessFlags := 9, nameIndex := 117, descriptorIndex := 122, attributes := #[] }, { accessFlags := 9, nameIndex := 117, descriptorIndex := 118, attributes := #[] }] 48 6 #[] #[{ accessFlags := 26, nameIndex := 61, descriptorIndex := 62, attributes := #[] }, { accessFlags := 26, nameIndex := 65, descriptorIndex := 62, attributes := #[] }, { accessFlags := 24, nameIndex := 430, descriptorIndex := 62, attributes := #[] }, { accessFlags := 4120, nameIndex := 46, descriptorIndex := 47, attributes := #[] }])
  fields := #[{ name := "HI_BYTE_SHIFT", type := .int, accessFlags := 26, slot := 0, constantValue := 0 }, { name := "LO_BYTE_SHIFT", type := .int, accessFlags := 26, slot := 1, constantValue := 0 }, { name := "MAX_LENGTH", type := .int, accessFlags := 24, slot := 2, constantValue := 0 }, { name := "$assertionsDisabled", type := .boolean, accessFlags := 4120, slot := 3, constantValue := 0 }]
  methods := #[k10m0, k10m1, k10m2, k10m3]
  instanceTypes := #[]
  staticTypes := #[.int, .int, .int, .boolean]
  resolved := Array.replicate 635 none
  statics := none }

def pool11 : Array CpInfo := pool [(2, .class_ 4), (1, u "java/lang/Object"), (0, u "<init>"), (0, u "()V"), (17, .class_ 26), (1, u "jdk/internal/util/Preconditions"), (20, u "checkFromToIndex"), (7, .class_ 56), (0, u "jdk/internal/util/Preconditions$4"), (57, .class_ 115), (0, u "jdk/internal/util/Preconditions$1"), (7, u "SIOOBE_FORMATTER"), (0, u "Ljava/util/function/BiFunction;"), (0, .class_ 126), (0, u "jdk/internal/util/Preconditions$2"), (3, u "AIOOBE_FORMATTER"), (0, .class_ 132), (0, u "jdk/internal/util/Preconditions$3"), (3, u "IOOBE_FORMATTER"), (46, u "(IIILjava/util/function/BiFunction;)I")] 10

def k11m0 : Method := { name := "<init>", desc := "()V", sig := { parameters := [], returnType := none }, accessFlags := 1, code := none }
def k11c1 : Code := { maxStack := 4, maxLocals := 4, code := jdk_41_method_12_code, exceptionTable := #[], attributes := #[] }
def k11m1 : Method := { name := "checkFromToIndex", desc := "(IIILjava/util/function/BiFunction;)I", sig := { parameters := [.int, .int, .int, (.object "java/util/function/BiFunction")], returnType := some .int }, accessFlags := 9, code := some k11c1 }
/-- jdk/internal/util/Preconditions -/
def k11 : Class := { plain "jdk/internal/util/Preconditions" (some 0) with
  accessFlags := 33
  interfaces := #[]
  cf := some (fileOf pool11 24 #[.nestMembers #[55, 131, 125, 114]] #[{ accessFlags := 1, nameIndex := 5, descriptorIndex := 6, attributes := #[] }, { accessFlags := 9, nameIndex := 47, descriptorIndex := 183, attributes := #[] }] 33 2 #[] #[{ accessFlags := 25, nameIndex := 123, descriptorIndex := 124, attributes := #[] }, { accessFlags := 25, nameIndex := 130, descriptorIndex := 124, attributes := #[] }, { accessFlags := 25, nameIndex := 136, descriptorIndex := 124, attributes := #[] }])
  fields := #[{ name := "SIOOBE_FORMATTER", type := (.object "java/util/function/BiFunction"), accessFlags := 25, slot := 0, constantValue := 0 }, { name := "AIOOBE_FORMATTER", type := (.object "java/util/function/BiFunction"), accessFlags := 25, slot := 1, constantValue := 0 }, { name := "IOOBE_FORMATTER", type := (.object "java/util/function/BiFunction"), accessFlags := 25, slot := 2, constantValue := 0 }]
  methods := #[k11m0, k11m1]
  instanceTypes := #[]
  staticTypes := #[(.object "java/util/function/BiFunction"), (.object "java/util/function/BiFunction"), (.object "java/util/function/BiFunction")]
  resolved := Array.replicate 194 none
  statics := some 2 }

def pool12 : Array CpInfo := pool [(1, .class_ 2), (0, u "java/lang/String"), (1, .class_ 6), (1, u "java/lang/Object"), (0, u "<init>"), (0, u "()V"), (5, .class_ 16), (1, u "java/lang/StringLatin1"), (95, .methodref 1 113), (0, .nameAndType 7 114), (0, u "([BB)V"), (6, u "$assertionsDisabled"), (0, u "Z"), (8, .class_ 133), (1, u "java/util/Arrays"), (17, .string 152), (0, u ""), (43, u "newString"), (0, u "([BII)Ljava/lang/String;"), (23, .class_ 223), (1, u "java/lang/StringLatin1$LinesSpliterator"), (8, .methodref 131 233), (0, .nameAndType 234 235), (0, u "copyOfRange"), (0, u "([BII)[B"), (45, u "equals"), (0, u "([B[B)Z"), (107, .class_ 391), (0, u "java/lang/StringLatin1$CharsSpliterator")] 3

def k12m0 : Method := { name := "<init>", desc := "()V", sig := { parameters := [], returnType := none }, accessFlags := 0, code := none }
def k12c1 : Code := { maxStack := 3, maxLocals := 3, code := jdk_43_method_13_code, exceptionTable := #[], attributes := #[] }
def k12m1 : Method := { name := "equals", desc := "([B[B)Z", sig := { parameters := [(.array .byte), (.array .byte)], returnType := some .boolean }, accessFlags := 9, code := some k12c1 }
def k12c2 : Code := { maxStack := 6, maxLocals := 3, code := jdk_43_method_47_code, exceptionTable := #[], attributes := #[] }
def k12m2 : Method := { name := "newString", desc := "([BII)Ljava/lang/String;", sig := { parameters := [(.array .byte), .int, .int], returnType := some (.object "java/lang/String") }, accessFlags := 9, code := some k12c2 }
/-- java/lang/StringLatin1 -/
def k12 : Class := { plain "java/lang/StringLatin1" (some 0) with
  accessFlags := 48
  interfaces := #[]
  cf := some (fileOf pool12 14 #[.nestMembers #[390, 221]] #[{ accessFlags := 0, nameIndex := 7, descriptorIndex := 8, attributes := #[] }, { accessFlags := 9, nameIndex := 281, descriptorIndex := 282, attributes := #[] }, { accessFlags := 9, nameIndex := 196, descriptorIndex := 197, attributes := #[] }] 48 4 #[] #[{ accessFlags := 4120, nameIndex := 121, descriptorIndex := 122, attributes := #[] }])
  fields := #[{ name := "$assertionsDisabled", type := .boolean, accessFlags := 4120, slot := 0, constantValue := 0 }]
  methods := #[k12m0, k12m1, k12m2]
  instanceTypes := #[]
  staticTypes := #[.boolean]
  resolved := Array.replicate 395 none
  statics := none }

def pool13 : Array CpInfo := pool [(2, .class_ 4), (1, u "java/lang/Object"), (0, u "<init>"), (0, u "()V"), (7, .class_ 16), (1, u "java/util/Arrays"), (57, .class_ 76), (1, u "java/util/Arrays$NaturalOrder"), (36, .class_ 115), (1, u "java/util/Arrays$LegacyMergeSort"), (1, u "Z"), (21, u "copyOfRange"), (10, .methodref 151 152), (0, .class_ 153), (0, .nameAndType 154 155), (0, u "java/lang/System"), (0, u "arraycopy"), (0, u "(Ljava/lang/Object;ILjava/lang/Object;II)V"), (148, .methodref 305 306), (0, .class_ 307), (0, .nameAndType 308 309), (0, u "java/lang/Math"), (0, u "min"), (0, u "(II)I"), (29, .methodref 14 340), (0, .nameAndType 341 342), (0, u "copyOfRangeByte"), (0, u "([BII)[B"), (0, .methodref 14 344), (0, .nameAndType 345 346), (0, u "checkLength"), (0, u "(II)V"), (28, .class_ 376), (0, u "java/util/Arrays$ArrayList"), (68, u "$assertionsDisabled"), (269, u "MIN_ARRAY_SORT_GRAN"), (0, u "I"), (2, u "INSERTIONSORT_THRESHOLD"), (255, .class_ 976), (0, u "java/util/Arrays$ArrayItr")] 52

def k13m0 : Method := { name := "<init>", desc := "()V", sig := { parameters := [], returnType := none }, accessFlags := 2, code := none }
def k13c1 : Code := { maxStack := 4, maxLocals := 2, code := jdk_65_method_131_code, exceptionTable := #[], attributes := #[] }
def k13m1 : Method := { name := "checkLength", desc := "(II)V", sig := { parameters := [.int, .int], returnType := none }, accessFlags := 10, code := some k13c1 }
def k13c2 : Code := { maxStack := 3, maxLocals := 3, code := jdk_65_method_132_code, exceptionTable := #[], attributes := #[] }
def k13m2 : Method := { name := "copyOfRange", desc := "([BII)[B", sig := { parameters := [(.array .byte), .int, .int], returnType := some (.array .byte) }, accessFlags := 9, code := some k13c2 }
def k13c3 : Code := { maxStack := 6, maxLocals := 5, code := jdk_65_method_133_code, exceptionTable := #[], attributes := #[] }
def k13m3 : Method := { name := "copyOfRangeByte", desc := "([BII)[B", sig := { parameters := [(.array .byte), .int, .int], returnType := some (.array .byte) }, accessFlags := 10, code := some k13c3 }
/-- java/util/Arrays -/
def k13 : Class := { plain "java/util/Arrays" (some 0) with
  accessFlags := 49
  interfaces := #[]
  cf := some (fileOf pool13 14 #[.nestMembers #[975, 375, 113, 74]] #[{ accessFlags := 2, nameIndex := 5, descriptorIndex := 6, attributes := #[] }, { accessFlags := 10, nameIndex := 345, descriptorIndex := 346, attributes := #[] }, { accessFlags := 9, nameIndex := 139, descriptorIndex := 342, attributes := #[] }, { accessFlags := 10, nameIndex := 341, descriptorIndex := 342, attributes := #[] }] 49 2 #[] #[{ accessFlags := 26, nameIndex := 715, descriptorIndex := 716, attributes := #[] }, { accessFlags := 26, nameIndex := 719, descriptorIndex := 716, attributes := #[] }, { accessFlags := 4120, nameIndex := 445, descriptorIndex := 117, attributes := #[] }])
  fields := #[{ name := "MIN_ARRAY_SORT_GRAN", type := .int, accessFlags := 26, slot := 0, constantValue := 0 }, { name := "INSERTIONSORT_THRESHOLD", type := .int, accessFlags := 26, slot := 1, constantValue := 0 }, { name := "$assertionsDisabled", type := .boolean, accessFlags := 4120, slot := 2, constantValue := 0 }]
  methods := #[k13m0, k13m1, k13m2, k13m3]
  instanceTypes := #[]
  staticTypes := #[.int, .int, .boolean]
  resolved := Array.replicate 1029 none
  statics := none }

def pool14 : Array CpInfo := pool [(1, .class_ 2), (0, u "java/lang/Math"), (1, .class_ 6), (1, u "java/lang/Object"), (0, u "<init>"), (0, u "()V"), (89, .class_ 100), (1, u "java/lang/Math$RandomNumberGeneratorHolder"), (71, u "negativeZeroFloatBits"), (0, u "J"), (2, u "negativeZeroDoubleBits"), (24, u "min"), (43, u "$assertionsDisabled"), (0, u "Z"), (88, u "(II)I"), (2, u "twoToTheDoubleScaleDown"), (0, u "D"), (4, u "twoToTheDoubleScaleUp"), (9, u "E"), (3, u "PI"), (2, u "TAU"), (2, u "DEGREES_TO_RADIANS"), (0, u "RADIANS_TO_DEGREES")] 94

def k14m0 : Method := { name := "<init>", desc := "()V", sig := { parameters := [], returnType := none }, accessFlags := 2, code := none }
def k14c1 : Code := { maxStack := 2, maxLocals := 2, code := jdk_29_method_69_code, exceptionTable := #[], attributes := #[] }
def k14m1 : Method := { name := "min", desc := "(II)I", sig := { parameters := [.int, .int], returnType := some .int }, accessFlags := 9, code := some k14c1 }
/-- java/lang/Math -/
def k14 : Class := { plain "java/lang/Math" (some 0) with
  accessFlags := 49
  interfaces := #[]
  cf := some (fileOf pool14 1 #[.nestMembers #[98]] #[{ accessFlags := 2, nameIndex := 7, descriptorIndex := 8, attributes := #[] }, { accessFlags := 9, nameIndex := 201, descriptorIndex := 335, attributes := #[] }] 49 4 #[] #[{ accessFlags := 25, nameIndex := 354, descriptorIndex := 339, attributes := #[] }, { accessFlags := 25, nameIndex := 358, descriptorIndex := 339, attributes := #[] }, { accessFlags := 25, nameIndex := 361, descriptorIndex := 339, attributes := #[] }, { accessFlags := 26, nameIndex := 364, descriptorIndex := 339, attributes := #[] }, { accessFlags := 26, nameIndex := 365, descriptorIndex := 339, attributes := #[] }, { accessFlags := 26, nameIndex := 172, descriptorIndex := 173, attributes := #[] }, { accessFlags := 26, nameIndex := 176, descriptorIndex := 173, attributes := #[] }, { accessFlags := 8, nameIndex := 344, descriptorIndex := 339, attributes := #[] }, { accessFlags := 8, nameIndex := 338, descriptorIndex := 339, attributes := #[] }, { accessFlags := 4120, nameIndex := 245, descriptorIndex := 246, attributes := #[] }])
  fields := #[{ name := "E", type := .double, accessFlags := 25, slot := 0, constantValue := 0 }, { name := "PI", type := .double, accessFlags := 25, slot := 1, constantValue := 0 }, { name := "TAU", type := .double, accessFlags := 25, slot := 2, constantValue := 0 }, { name := "DEGREES_TO_RADIANS", type := .double, accessFlags := 26, slot := 3, constantValue := 0 }, { name := "RADIANS_TO_DEGREES", type := .double, accessFlags := 26, slot := 4, constantValue := 0 }, { name := "negativeZeroFloatBits", type := .long, accessFlags := 26, slot := 5, constantValue := 0 }, { name := "negativeZeroDoubleBits", type := .long, accessFlags := 26, slot := 6, constantValue := 0 }, { name := "twoToTheDoubleScaleUp", type := .double, accessFlags := 8, slot := 7, constantValue := 0 }, { name := "twoToTheDoubleScaleDown", type := .double, accessFlags := 8, slot := 8, constantValue := 0 }, { name := "$assertionsDisabled", type := .boolean, accessFlags := 4120, slot := 9, constantValue := 0 }]
  methods := #[k14m0, k14m1]
  instanceTypes := #[]
  staticTypes := #[.double, .double, .double, .double, .double, .long, .long, .double, .double, .boolean]
  resolved := Array.replicate 460 none
  statics := none }

def pool15 : Array CpInfo := pool [(2, .class_ 4), (1, u "java/lang/Object"), (0, u "<init>"), (0, u "()V"), (1, .class_ 10), (1, u "java/lang/System"), (0, u "allowSecurityManager"), (0, u "I"), (16, u "cons"), (0, u "Ljava/io/Console;"), (77, .class_ 110), (1, u "java/lang/System$CallersHolder"), (43, u "initialErrStream"), (0, u "Ljava/io/PrintStream;"), (19, u "security"), (0, u "Ljava/lang/SecurityManager;"), (31, .class_ 209), (0, u "java/lang/System$1"), (7, u "props"), (0, u "Ljava/util/Properties;"), (2, u "lineSeparator"), (0, u "Ljava/lang/String;"), (96, .class_ 321), (1, u "java/lang/System$LoggerFinder"), (5, .class_ 328), (0, u "java/lang/System$Logger"), (67, u "err"), (2, u "out"), (91, u "notSupportedJnuEncoding"), (15, u "in"), (17, u "initialIn"), (0, u "Ljava/io/InputStream;"), (35, u "bootLayer"), (0, u "Ljava/lang/ModuleLayer;"), (99, .class_ 664), (0, u "java/lang/System$2"), (9, u "NEVER"), (2, u "MAYBE"), (49, u "arraycopy"), (0, u "(Ljava/lang/Object;ILjava/lang/Object;II)V"), (72, .class_ 802), (0, u "java/lang/System$Logger$Level")] 31

def k15m0 : Method := { name := "<init>", desc := "()V", sig := { parameters := [], returnType := none }, accessFlags := 2, code := none }
def k15m1 : Method := { name := "arraycopy", desc := "(Ljava/lang/Object;ILjava/lang/Object;II)V", sig := { parameters := [(.object "java/lang/Object"), .int, (.object "java/lang/Object"), .int, .int], returnType := none }, accessFlags := 265, code := none }
/-- java/lang/System -/
def k15 : Class := { plain "java/lang/System" (some 0) with
  accessFlags := 49
  interfaces := #[]
  cf := some (fileOf pool15 8 #[.nestMembers #[319, 327, 801, 108, 663, 208]] #[{ accessFlags := 2, nameIndex := 5, descriptorIndex := 6, attributes := #[] }, { accessFlags := 265, nameIndex := 727, descriptorIndex := 728, attributes := #[] }] 49 2 #[] #[{ accessFlags := 25, nameIndex := 507, descriptorIndex := 526, attributes := #[] }, { accessFlags := 25, nameIndex := 399, descriptorIndex := 155, attributes := #[] }, { accessFlags := 25, nameIndex := 396, descriptorIndex := 155, attributes := #[] }, { accessFlags := 10, nameIndex := 525, descriptorIndex := 526, attributes := #[] }, { accessFlags := 26, nameIndex := 674, descriptorIndex := 12, attributes := #[] }, { accessFlags := 26, nameIndex := 677, descriptorIndex := 12, attributes := #[] }, { accessFlags := 10, nameIndex := 11, descriptorIndex := 12, attributes := #[] }, { accessFlags := 74, nameIndex := 175, descriptorIndex := 176, attributes := #[] }, { accessFlags := 10, nameIndex := 491, descriptorIndex := 222, attributes := #[] }, { accessFlags := 74, nameIndex := 29, descriptorIndex := 30, attributes := #[] }, { accessFlags := 74, nameIndex := 154, descriptorIndex := 155, attributes := #[] }, { accessFlags := 10, nameIndex := 217, descriptorIndex := 218, attributes := #[] }, { accessFlags := 10, nameIndex := 221, descriptorIndex := 222, attributes := #[] }, { accessFlags := 8, nameIndex := 562, descriptorIndex := 563, attributes := #[] }])
  fields := #[{ name := "in", type := (.object "java/io/InputStream"), accessFlags := 25, slot := 0, constantValue := 0 }, { name := "out", type := (.object "java/io/PrintStream"), accessFlags := 25, slot := 1, constantValue := 0 }, { name := "err", type := (.object "java/io/PrintStream"), accessFlags := 25, slot := 2, constantValue := 0 }, { name := "initialIn", type := (.object "java/io/InputStream"), accessFlags := 10, slot := 3, constantValue := 0 }, { name := "NEVER", type := .int, accessFlags := 26, slot := 4, constantValue := 0 }, { name := "MAYBE", type := .int, accessFlags := 26, slot := 5, constantValue := 0 }, { name := "allowSecurityManager", type := .int, accessFlags := 10, slot := 6, constantValue := 0 }, { name := "security", type := (.object "java/lang/SecurityManager"), accessFlags := 74, slot := 7, constantValue := 0 }, { name := "notSupportedJnuEncoding", type := (.object "java/lang/String"), accessFlags := 10, slot := 8, constantValue := 0 }, { name := "cons", type := (.object "java/io/Console"), accessFlags := 74, slot := 9, constantValue := 0 }, { name := "initialErrStream", type := (.object "java/io/PrintStream"), accessFlags := 74, slot := 10, constantValue := 0 }, { name := "props", type := (.object "java/util/Properties"), accessFlags := 10, slot := 11, constantValue := 0 }, { name := "lineSeparator", type := (.object "java/lang/String"), accessFlags := 10, slot := 12, constantValue := 0 }, { name := "bootLayer", type := (.object "java/lang/ModuleLayer"), accessFlags := 8, slot := 13, constantValue := 0 }]
  methods := #[k15m0, k15m1]
  instanceTypes := #[]
  staticTypes := #[(.object "java/io/InputStream"), (.object "java/io/PrintStream"), (.object "java/io/PrintStream"), (.object "java/io/InputStream"), .int, .int, .int, (.object "java/lang/SecurityManager"), (.object "java/lang/String"), (.object "java/io/Console"), (.object "java/io/PrintStream"), (.object "java/util/Properties"), (.object "java/lang/String"), (.object "java/lang/ModuleLayer")]
  resolved := Array.replicate 834 none
  statics := none }

def pool16 : Array CpInfo := pool [(9, u "<init>"), (6, .class_ 18), (1, u "java/lang/Object"), (0, u "()V"), (1, .class_ 23), (1, u "jdk/internal/util/ArraysSupport"), (0, u "LOG2_ARRAY_LONG_INDEX_SCALE"), (0, u "I"), (2, u "U"), (0, u "Ljdk/internal/misc/Unsafe;"), (8, u "BIG_ENDIAN"), (0, u "Z"), (8, u "LOG2_BYTE_BIT_SIZE"), (4, u "LOG2_ARRAY_INT_INDEX_SCALE"), (54, u "JLA"), (0, u "Ljdk/internal/access/JavaLangAccess;"), (11, u "LOG2_ARRAY_BOOLEAN_INDEX_SCALE"), (9, u "LOG2_ARRAY_BYTE_INDEX_SCALE"), (5, u "LOG2_ARRAY_CHAR_INDEX_SCALE"), (5, u "LOG2_ARRAY_SHORT_INDEX_SCALE"), (18, u "LOG2_ARRAY_FLOAT_INDEX_SCALE"), (24, u "LOG2_ARRAY_DOUBLE_INDEX_SCALE"), (89, u "T_BOOLEAN"), (2, u "T_CHAR"), (1, u "T_FLOAT"), (1, u "T_DOUBLE"), (1, u "T_BYTE"), (1, u "T_SHORT"), (1, u "T_INT"), (1, u "T_LONG"), (1, u "SOFT_MAX_ARRAY_LENGTH")] 83

def k16m0 : Method := { name := "<init>", desc := "()V", sig := { parameters := [], returnType := none }, accessFlags := 2, code := none }
/-- jdk/internal/util/ArraysSupport -/
def k16 : Class := { plain "jdk/internal/util/ArraysSupport" (some 0) with
  accessFlags := 33
  interfaces := #[]
  cf := some (fileOf pool16 21 #[] #[{ accessFlags := 2, nameIndex := 9, descriptorIndex := 19, attributes := #[] }] 33 16 #[] #[{ accessFlags := 24, nameIndex := 28, descriptorIndex := 29, attributes := #[] }, { accessFlags := 26, nameIndex := 38, descriptorIndex := 39, attributes := #[] }, { accessFlags := 25, nameIndex := 121, descriptorIndex := 25, attributes := #[] }, { accessFlags := 25, nameIndex := 131, descriptorIndex := 25, attributes := #[] }, { accessFlags := 25, nameIndex := 137, descriptorIndex := 25, attributes := #[] }, { accessFlags := 25, nameIndex := 143, descriptorIndex := 25, attributes := #[] }, { accessFlags := 25, nameIndex := 53, descriptorIndex := 25, attributes := #[] }, { accessFlags := 25, nameIndex := 24, descriptorIndex := 25, attributes := #[] }, { accessFlags := 25, nameIndex := 162, descriptorIndex := 25, attributes := #[] }, { accessFlags := 25, nameIndex := 187, descriptorIndex := 25, attributes := #[] }, { accessFlags := 26, nameIndex := 48, descriptorIndex := 25, attributes := #[] }, { accessFlags := 25, nameIndex := 277, descriptorIndex := 25, attributes := #[] }, { accessFlags := 25, nameIndex := 280, descriptorIndex := 25, attributes := #[] }, { accessFlags := 25, nameIndex := 282, descriptorIndex := 25, attributes := #[] }, { accessFlags := 25, nameIndex := 284, descriptorIndex := 25, attributes := #[] }, { accessFlags := 25, nameIndex := 286, descriptorIndex := 25, attributes := #[] }, { accessFlags := 25, nameIndex := 288, descriptorIndex := 25, attributes := #[] }, { accessFlags := 25, nameIndex := 290, descriptorIndex := 25, attributes := #[] }, { accessFlags := 25, nameIndex := 292, descriptorIndex := 25, attributes := #[] }, { accessFlags := 26, nameIndex := 108, descriptorIndex := 109, attributes := #[] }, { accessFlags := 25, nameIndex := 294, descriptorIndex := 25, attributes := #[] }])
  fields := #[{ name := "U", type := (.object "jdk/internal/misc/Unsafe"), accessFlags := 24, slot := 0, constantValue := 0 }, { name := "BIG_ENDIAN", type := .boolean, accessFlags := 26, slot := 1, constantValue := 0 }, { name := "LOG2_ARRAY_BOOLEAN_INDEX_SCALE", type := .int, accessFlags := 25, slot := 2, constantValue := 0 }, { name := "LOG2_ARRAY_BYTE_INDEX_SCALE", type := .int, accessFlags := 25, slot := 3, constantValue := 0 }, { name := "LOG2_ARRAY_CHAR_INDEX_SCALE", type := .int, accessFlags := 25, slot := 4, constantValue := 0 }, { name := "LOG2_ARRAY_SHORT_INDEX_SCALE", type := .int, accessFlags := 25, slot := 5, constantValue := 0 }, { name := "LOG2_ARRAY_INT_INDEX_SCALE", type := .int, accessFlags := 25, slot := 6, constantValue := 0 }, { name := "LOG2_ARRAY_LONG_INDEX_SCALE", type := .int, accessFlags := 25, slot := 7, constantValue := 0 }, { name := "LOG2_ARRAY_FLOAT_INDEX_SCALE", type := .int, accessFlags := 25, slot := 8, constantValue := 0 }, { name := "LOG2_ARRAY_DOUBLE_INDEX_SCALE", type := .int, accessFlags := 25, slot := 9, constantValue := 0 }, { name := "LOG2_BYTE_BIT_SIZE", type := .int, accessFlags := 26, slot := 10, constantValue := 0 }, { name := "T_BOOLEAN", type := .int, accessFlags := 25, slot := 11, constantValue := 0 }, { name := "T_CHAR", type := .int, accessFlags := 25, slot := 12, constantValue := 0 }, { name := "T_FLOAT", type := .int, accessFlags := 25, slot := 13, constantValue := 0 }, { name := "T_DOUBLE", type := .int, accessFlags := 25, slot := 14, constantValue := 0 }, { name := "T_BYTE", type := .int, accessFlags := 25, slot := 15, constantValue := 0 }, { name := "T_SHORT", type := .int, accessFlags := 25, slot := 16, constantValue := 0 }, { name := "T_INT", type := .int, accessFlags := 25, slot := 17, constantValue := 0 }, { name := "T_LONG", type := .int, accessFlags := 25, slot := 18, constantValue := 0 }, { name := "JLA", type := (.object "jdk/internal/access/JavaLangAccess"), accessFlags := 26, slot := 19, constantValue := 0 }, { name := "SOFT_MAX_ARRAY_LENGTH", type := .int, accessFlags := 25, slot := 20, constantValue := 0 }]
  methods := #[k16m0]
  instanceTypes := #[]
  staticTypes := #[(.object "jdk/internal/misc/Unsafe"), .boolean, .int, .int, .int, .int, .int, .int, .int, .int, .int, .int, .int, .int, .int, .int, .int, .int, .int, (.object "jdk/internal/access/JavaLangAccess"), .int]
  resolved := Array.replicate 378 none
  statics := none }

def pool17 : Array CpInfo := pool [(1, u "java/lang/Cloneable"), (0, .class_ 1), (0, u "java/lang/Object"), (0, .class_ 3)] 3

/-- java/lang/Cloneable -/
def k17 : Class := { plain "java/lang/Cloneable" (some 0) with
  accessFlags := 1537
  interfaces := #[]
  cf := some (fileOf pool17 2 #[] #[] 1537 4 #[] #[])
  fields := #[]
  methods := #[]
  instanceTypes := #[]
  staticTypes := #[]
  resolved := Array.replicate 8 none
  statics := none }

/-- the primitive byte -/
def k18 : Class := { plain "byte" none with kind := .primitive 'B', accessFlags := 0x411 }
/-- [B -/
def k19 : Class := { plain "[B" (some 0) with kind := .array 18 .byte, interfaces := #[17, 4], accessFlags := 1041 }

/-- the primitive char -/
def k20 : Class := { plain "char" none with kind := .primitive 'C', accessFlags := 0x411 }
/-- [C -/
def k21 : Class := { plain "[C" (some 0) with kind := .array 20 .char, interfaces := #[17, 4], accessFlags := 1041 }

/-- the primitive int -/
def k22 : Class := { plain "int" none with kind := .primitive 'I', accessFlags := 0x411 }
/-- [I -/
def k23 : Class := { plain "[I" (some 0) with kind := .array 22 .int, interfaces := #[17, 4], accessFlags := 1041 }

def heap : Heap := #[{ cls := 6, slots := #[.ref 3, .ref 6, .ref 9, .ref 12, .ref 15, .ref 18, .null], vm := .statics 6 },
  { cls := 9, slots := #[.long 0, .int 1, .null, .int 0, .null, .int 0, .int 0], vm := .statics 9 },
  { cls := 11, slots := #[.null, .null, .null], vm := .statics 11 },
  { cls := 6, slots := #[.null, .int 0, .int 0, .ref 4], vm := .none },
  { cls := 9, slots := #[.ref 5, .int 0, .int 0, .int 0], vm := .none },
  { cls := 19, slots := #[.int 46, .int 112, .int 114, .int 111, .int 120, .int 121, .int 46, .int 120, .int 109, .int 108], vm := .none },
  { cls := 6, slots := #[.null, .int 1, .int 0, .ref 7], vm := .none },
  { cls := 9, slots := #[.ref 8, .int 0, .int 0, .int 0], vm := .none },
  { cls := 19, slots := #[.int 46, .int 98, .int 117, .int 115, .int 105, .int 110, .int 101, .int 115, .int 115, .int 46, .int 120, .int 109, .int 108], vm := .none },
  { cls := 6, slots := #[.null, .int 2, .int 0, .ref 10], vm := .none },
  { cls := 9, slots := #[.ref 11, .int 0, .int 0, .int 0], vm := .none },
  { cls := 19, slots := #[.int 46, .int 120, .int 113], vm := .none },
  { cls := 6, slots := #[.null, .int 3, .int 0, .ref 13], vm := .none },
  { cls := 9, slots := #[.ref 14, .int 0, .int 0, .int 0], vm := .none },
  { cls := 19, slots := #[.int 46, .int 120, .int 115, .int 108], vm := .none },
  { cls := 6, slots := #[.null, .int 4, .int 0, .ref 16], vm := .none },
  { cls := 9, slots := #[.ref 17, .int 0, .int 0, .int 0], vm := .none },
  { cls := 19, slots := #[.int 46, .int 119, .int 115, .int 100, .int 108], vm := .none },
  { cls := 6, slots := #[.null, .int 5, .int 0, .ref 19], vm := .none },
  { cls := 9, slots := #[.ref 20, .int 0, .int 0, .int 0], vm := .none },
  { cls := 19, slots := #[.int 46, .int 120, .int 115, .int 100], vm := .none }]
def classes : Array Class := #[k0, k1, k2, k3, k4, k5, k6, k7, k8, k9, k10, k11, k12, k13, k14, k15, k16, k17, k18, k19, k20, k21, k22, k23]
def interned : List (Array UInt16 × Addr) := []
def slotsUsed : Nat := 104
def theMethod : MethodId := ⟨1, 1⟩
def args0 : Array Value := #[.int 0, .int 65, .int 66, .int 67, .int 0]
def aboutOver (below : List Frame) : State where
  vm := { classes := classes, interned := interned.toArray }
  heap := heap
  slotsUsed := slotsUsed
  threads := #[{ frames := .invoking theMethod args0 :: below }]
def below0 : List Frame := [.native { method := ⟨0, 0⟩, args := #[] }]
def about1 : State := aboutOver below0
def p0 : Program := .bare "" "" ""
def e0 : Env := launch0.env 0 0 0
theorem w_frames : about1.frames = Frame.invoking theMethod args0 :: below0 := rfl
set_option maxRecDepth 65536 in
theorem w_args : argsFit about1.vm theMethod args0 = true := by decide +kernel
set_option maxRecDepth 65536 in
theorem w_heap : heapFits about1 = true := by decide +kernel
set_option maxRecDepth 65536 in
theorem w_runnable : about1.curStatus? = some .runnable := by decide +kernel
set_option maxRecDepth 65536 in
theorem w_alone : about1.alone = true := by decide +kernel
set_option maxRecDepth 65536 in
theorem w_named : about1.methodNamed? x = some theMethod := by decide +kernel
set_option maxRecDepth 65536 in
theorem w_hears : about1.hears theMethod below0 = true := by decide +kernel
set_option maxRecDepth 65536 in
theorem w_ripe : about1.ripe theMethod args0 below0 = true := by decide +kernel
theorem w_running : about1.status = .running := rfl
set_option maxRecDepth 65536 in
theorem w_room : about1.hasRoom e0.platform room_1 = true :=
  launch0.hasRoom_least _ room_1 (by decide +kernel) (by decide +kernel) (by decide +kernel) (by decide +kernel) (by decide +kernel) (by decide +kernel)
theorem allAtoms_all (ts : List Jvm.Cond) (a : Array Jvm.Value) (st : Jvm.State) : (allAtoms ts).before a st = ts.all (fun c => c.before a st) := by
  induction ts with
  | nil => rfl
  | cons c t ih =>
    show (Jvm.Cond.and c (allAtoms t)).before a st = _
    rw [Jvm.Cond.before_and, ih, List.all_cons]
def words1 : List Jvm.Cond := Jvm.Cond.code x code maxLocals ret :: tables_1
/-- a 'code' word, met by the world's own term for the bytes: nothing is compared byte by byte -/
theorem code_word {y : MethodName} {bytes : ByteArray} {mx : Nat} {rt : Option FieldType} {a : Array Value} {s : State} {m : MethodId} {meth : Method} {c : Code} (h1 : s.methodNamed? y = some m) (h2 : s.vm.method? m = some meth) (h3 : meth.code = some c) (h4 : c.code = bytes)
    (h5 : (c.maxLocals == mx && c.exceptionTable.isEmpty && decide (c.maxStack ≤ mostOperands) && decide (meth.sig.returnType = rt) && !meth.locks && decide (parseMethodDescriptor y.desc = some meth.sig)) = true) : (Jvm.Cond.code y bytes mx rt).before a s = true := by
  simp only [Bool.and_eq_true, beq_iff_eq, Bool.not_eq_true', decide_eq_true_eq] at h5
  obtain ⟨⟨⟨⟨⟨g1, g2⟩, g3⟩, g4⟩, g5⟩, g6⟩ := h5
  simp [Cond.before, Cond.holds, Cond.value, h1, h2, h3, h4, g1, g2, g3, g4, g5, g6]
def isCode : Jvm.Cond → Bool
  | .code _ _ _ _ => true
  | _ => false
theorem all_split {L : List Jvm.Cond} {P : Jvm.Cond → Bool} (h1 : L.all (fun c => isCode c || P c) = true) (h2 : ∀ c ∈ L.filter isCode, P c = true) : L.all P = true := by
  refine List.all_eq_true.mpr fun c hc => ?_
  have h := List.all_eq_true.mp h1 c hc
  rcases Bool.eq_false_or_eq_true (isCode c) with hi | hi
  · exact h2 c (List.mem_filter.mpr ⟨hc, hi⟩)
  · simpa [hi] using h
set_option maxRecDepth 65536 in
theorem w_c0 : (Jvm.Cond.code x code maxLocals ret).before args0 about1 = true := code_word (m := ⟨1, 1⟩) (meth := k1m1) (c := k1c1) (by decide +kernel) rfl rfl rfl (by decide +kernel)
set_option maxRecDepth 65536 in
theorem w_c1 : (Jvm.Cond.code ({ cls := "com/example/trestle/trestle/ResourceKindIdPinLaw", name := "kindOf", desc := "(I)Lcom/example/trestle/trestle/ResourceKind;" } : Jvm.MethodName) method_3_code (1 : Nat) (Option.some (Jvm.ClassFile.FieldType.object "com/example/trestle/trestle/ResourceKind"))).before args0 about1 = true := code_word (m := ⟨1, 2⟩) (meth := k1m2) (c := k1c2) (by decide +kernel) rfl rfl rfl (by decide +kernel)
set_option maxRecDepth 65536 in
theorem w_c2 : (Jvm.Cond.code ({ cls := "com/example/trestle/trestle/ResourceKindIdPinLaw", name := "withPrefix", desc := "(ICCC)Ljava/lang/String;" } : Jvm.MethodName) method_5_code (4 : Nat) (Option.some (Jvm.ClassFile.FieldType.object "java/lang/String"))).before args0 about1 = true := code_word (m := ⟨1, 4⟩) (meth := k1m4) (c := k1c4) (by decide +kernel) rfl rfl rfl (by decide +kernel)
set_option maxRecDepth 65536 in
theorem w_c3 : (Jvm.Cond.code ({ cls := "java/lang/String", name := "<init>", desc := "([C)V" } : Jvm.MethodName) jdk_42_method_3_code (2 : Nat) (Option.none : Option Jvm.ClassFile.FieldType)).before args0 about1 = true := code_word (m := ⟨9, 1⟩) (meth := k9m1) (c := k9c1) (by decide +kernel) rfl rfl rfl (by decide +kernel)
set_option maxRecDepth 65536 in
theorem w_c4 : (Jvm.Cond.code ({ cls := "java/lang/String", name := "<init>", desc := "([CIILjava/lang/Void;)V" } : Jvm.MethodName) jdk_42_method_149_code (6 : Nat) (Option.none : Option Jvm.ClassFile.FieldType)).before args0 about1 = true := code_word (m := ⟨9, 5⟩) (meth := k9m5) (c := k9c5) (by decide +kernel) rfl rfl rfl (by decide +kernel)
set_option maxRecDepth 65536 in
theorem w_c5 : (Jvm.Cond.code ({ cls := "java/lang/Object", name := "<init>", desc := "()V" } : Jvm.MethodName) object_method_1_code (1 : Nat) (Option.none : Option Jvm.ClassFile.FieldType)).before args0 about1 = true := code_word (m := ⟨0, 0⟩) (meth := k0m0) (c := k0c0) (by decide +kernel) rfl rfl rfl (by decide +kernel)
set_option maxRecDepth 65536 in
theorem w_c6 : (Jvm.Cond.code ({ cls := "java/lang/StringUTF16", name := "compress", desc := "([CII)[B" } : Jvm.MethodName) jdk_52_method_16_code (6 : Nat) (Option.some (Jvm.ClassFile.FieldType.array Jvm.ClassFile.FieldType.byte))).before args0 about1 = true := code_word (m := ⟨10, 2⟩) (meth := k10m2) (c := k10c2) (by decide +kernel) rfl rfl rfl (by decide +kernel)
set_option maxRecDepth 65536 in
theorem w_c7 : (Jvm.Cond.code ({ cls := "java/lang/StringUTF16", name := "compress", desc := "([CI[BII)I" } : Jvm.MethodName) jdk_52_method_21_code (7 : Nat) (Option.some Jvm.ClassFile.FieldType.int)).before args0 about1 = true := code_word (m := ⟨10, 3⟩) (meth := k10m3) (c := k10c3) (by decide +kernel) rfl rfl rfl (by decide +kernel)
set_option maxRecDepth 65536 in
theorem w_c8 : (Jvm.Cond.code ({ cls := "java/lang/StringUTF16", name := "coderFromArrayLen", desc := "([BI)B" } : Jvm.MethodName) jdk_52_method_15_code (2 : Nat) (Option.some Jvm.ClassFile.FieldType.byte)).before args0 about1 = true := code_word (m := ⟨10, 1⟩) (meth := k10m1) (c := k10c1) (by decide +kernel) rfl rfl rfl (by decide +kernel)
set_option maxRecDepth 65536 in
theorem w_c9 : (Jvm.Cond.code ({ cls := "com/example/trestle/trestle/ResourceKind", name := "id", desc := "(Ljava/lang/String;)Ljava/lang/String;" } : Jvm.MethodName) prog_20_method_7_code (2 : Nat) (Option.some (Jvm.ClassFile.FieldType.object "java/lang/String"))).before args0 about1 = true := code_word (m := ⟨6, 0⟩) (meth := k6m0) (c := k6c0) (by decide +kernel) rfl rfl rfl (by decide +kernel)
set_option maxRecDepth 65536 in
theorem w_c10 : (Jvm.Cond.code ({ cls := "java/lang/String", name := "length", desc := "()I" } : Jvm.MethodName) jdk_42_method_54_code (1 : Nat) (Option.some Jvm.ClassFile.FieldType.int)).before args0 about1 = true := code_word (m := ⟨9, 2⟩) (meth := k9m2) (c := k9c2) (by decide +kernel) rfl rfl rfl (by decide +kernel)
set_option maxRecDepth 65536 in
theorem w_c11 : (Jvm.Cond.code ({ cls := "java/lang/String", name := "coder", desc := "()B" } : Jvm.MethodName) jdk_42_method_152_code (1 : Nat) (Option.some Jvm.ClassFile.FieldType.byte)).before args0 about1 = true := code_word (m := ⟨9, 7⟩) (meth := k9m7) (c := k9c7) (by decide +kernel) rfl rfl rfl (by decide +kernel)
set_option maxRecDepth 65536 in
theorem w_c12 : (Jvm.Cond.code ({ cls := "java/lang/String", name := "substring", desc := "(II)Ljava/lang/String;" } : Jvm.MethodName) jdk_42_method_92_code (5 : Nat) (Option.some (Jvm.ClassFile.FieldType.object "java/lang/String"))).before args0 about1 = true := code_word (m := ⟨9, 4⟩) (meth := k9m4) (c := k9c4) (by decide +kernel) rfl rfl rfl (by decide +kernel)
set_option maxRecDepth 65536 in
theorem w_c13 : (Jvm.Cond.code ({ cls := "java/lang/String", name := "checkBoundsBeginEnd", desc := "(III)V" } : Jvm.MethodName) jdk_42_method_158_code (3 : Nat) (Option.none : Option Jvm.ClassFile.FieldType)).before args0 about1 = true := code_word (m := ⟨9, 9⟩) (meth := k9m9) (c := k9c9) (by decide +kernel) rfl rfl rfl (by decide +kernel)
set_option maxRecDepth 65536 in
theorem w_c14 : (Jvm.Cond.code ({ cls := "jdk/internal/util/Preconditions", name := "checkFromToIndex", desc := "(IIILjava/util/function/BiFunction;)I" } : Jvm.MethodName) jdk_41_method_12_code (4 : Nat) (Option.some Jvm.ClassFile.FieldType.int)).before args0 about1 = true := code_word (m := ⟨11, 1⟩) (meth := k11m1) (c := k11c1) (by decide +kernel) rfl rfl rfl (by decide +kernel)
set_option maxRecDepth 65536 in
theorem w_c15 : (Jvm.Cond.code ({ cls := "java/lang/String", name := "isLatin1", desc := "()Z" } : Jvm.MethodName) jdk_42_method_154_code (1 : Nat) (Option.some Jvm.ClassFile.FieldType.boolean)).before args0 about1 = true := code_word (m := ⟨9, 8⟩) (meth := k9m8) (c := k9c8) (by decide +kernel) rfl rfl rfl (by decide +kernel)
set_option maxRecDepth 65536 in
theorem w_c16 : (Jvm.Cond.code ({ cls := "java/lang/StringLatin1", name := "newString", desc := "([BII)Ljava/lang/String;" } : Jvm.MethodName) jdk_43_method_47_code (3 : Nat) (Option.some (Jvm.ClassFile.FieldType.object "java/lang/String"))).before args0 about1 = true := code_word (m := ⟨12, 2⟩) (meth := k12m2) (c := k12c2) (by decide +kernel) rfl rfl rfl (by decide +kernel)
set_option maxRecDepth 65536 in
theorem w_c17 : (Jvm.Cond.code ({ cls := "java/util/Arrays", name := "copyOfRange", desc := "([BII)[B" } : Jvm.MethodName) jdk_65_method_132_code (3 : Nat) (Option.some (Jvm.ClassFile.FieldType.array Jvm.ClassFile.FieldType.byte))).before args0 about1 = true := code_word (m := ⟨13, 2⟩) (meth := k13m2) (c := k13c2) (by decide +kernel) rfl rfl rfl (by decide +kernel)
set_option maxRecDepth 65536 in
theorem w_c18 : (Jvm.Cond.code ({ cls := "java/util/Arrays", name := "copyOfRangeByte", desc := "([BII)[B" } : Jvm.MethodName) jdk_65_method_133_code (5 : Nat) (Option.some (Jvm.ClassFile.FieldType.array Jvm.ClassFile.FieldType.byte))).before args0 about1 = true := code_word (m := ⟨13, 3⟩) (meth := k13m3) (c := k13c3) (by decide +kernel) rfl rfl rfl (by decide +kernel)
set_option maxRecDepth 65536 in
theorem w_c19 : (Jvm.Cond.code ({ cls := "java/util/Arrays", name := "checkLength", desc := "(II)V" } : Jvm.MethodName) jdk_65_method_131_code (2 : Nat) (Option.none : Option Jvm.ClassFile.FieldType)).before args0 about1 = true := code_word (m := ⟨13, 1⟩) (meth := k13m1) (c := k13c1) (by decide +kernel) rfl rfl rfl (by decide +kernel)
set_option maxRecDepth 65536 in
theorem w_c20 : (Jvm.Cond.code ({ cls := "java/lang/Math", name := "min", desc := "(II)I" } : Jvm.MethodName) jdk_29_method_69_code (2 : Nat) (Option.some Jvm.ClassFile.FieldType.int)).before args0 about1 = true := code_word (m := ⟨14, 1⟩) (meth := k14m1) (c := k14c1) (by decide +kernel) rfl rfl rfl (by decide +kernel)
set_option maxRecDepth 65536 in
theorem w_c21 : (Jvm.Cond.code ({ cls := "java/lang/String", name := "<init>", desc := "([BB)V" } : Jvm.MethodName) jdk_42_method_151_code (3 : Nat) (Option.none : Option Jvm.ClassFile.FieldType)).before args0 about1 = true := code_word (m := ⟨9, 6⟩) (meth := k9m6) (c := k9c6) (by decide +kernel) rfl rfl rfl (by decide +kernel)
set_option maxRecDepth 65536 in
theorem w_c22 : (Jvm.Cond.code ({ cls := "java/lang/String", name := "equals", desc := "(Ljava/lang/Object;)Z" } : Jvm.MethodName) jdk_42_method_66_code (3 : Nat) (Option.some Jvm.ClassFile.FieldType.boolean)).before args0 about1 = true := code_word (m := ⟨9, 3⟩) (meth := k9m3) (c := k9c3) (by decide +kernel) rfl rfl rfl (by decide +kernel)
set_option maxRecDepth 65536 in
theorem w_c23 : (Jvm.Cond.code ({ cls := "java/lang/StringLatin1", name := "equals", desc := "([B[B)Z" } : Jvm.MethodName) jdk_43_method_13_code (3 : Nat) (Option.some Jvm.ClassFile.FieldType.boolean)).before args0 about1 = true := code_word (m := ⟨12, 1⟩) (meth := k12m1) (c := k12c1) (by decide +kernel) rfl rfl rfl (by decide +kernel)
set_option maxRecDepth 65536 in
theorem w_c24 : (Jvm.Cond.code ({ cls := "com/example/trestle/trestle/ResourceKindIdPinLaw", name := "suffixOf", desc := "(I)Ljava/lang/String;" } : Jvm.MethodName) method_4_code (1 : Nat) (Option.some (Jvm.ClassFile.FieldType.object "java/lang/String"))).before args0 about1 = true := code_word (m := ⟨1, 3⟩) (meth := k1m3) (c := k1c3) (by decide +kernel) rfl rfl rfl (by decide +kernel)
def codes1 : List Jvm.Cond := [Jvm.Cond.code x code maxLocals ret, Jvm.Cond.code ({ cls := "com/example/trestle/trestle/ResourceKindIdPinLaw", name := "kindOf", desc := "(I)Lcom/example/trestle/trestle/ResourceKind;" } : Jvm.MethodName) method_3_code (1 : Nat) (Option.some (Jvm.ClassFile.FieldType.object "com/example/trestle/trestle/ResourceKind")), Jvm.Cond.code ({ cls := "com/example/trestle/trestle/ResourceKindIdPinLaw", name := "withPrefix", desc := "(ICCC)Ljava/lang/String;" } : Jvm.MethodName) method_5_code (4 : Nat) (Option.some (Jvm.ClassFile.FieldType.object "java/lang/String")), Jvm.Cond.code ({ cls := "java/lang/String", name := "<init>", desc := "([C)V" } : Jvm.MethodName) jdk_42_method_3_code (2 : Nat) (Option.none : Option Jvm.ClassFile.FieldType), Jvm.Cond.code ({ cls := "java/lang/String", name := "<init>", desc := "([CIILjava/lang/Void;)V" } : Jvm.MethodName) jdk_42_method_149_code (6 : Nat) (Option.none : Option Jvm.ClassFile.FieldType), Jvm.Cond.code ({ cls := "java/lang/Object", name := "<init>", desc := "()V" } : Jvm.MethodName) object_method_1_code (1 : Nat) (Option.none : Option Jvm.ClassFile.FieldType), Jvm.Cond.code ({ cls := "java/lang/StringUTF16", name := "compress", desc := "([CII)[B" } : Jvm.MethodName) jdk_52_method_16_code (6 : Nat) (Option.some (Jvm.ClassFile.FieldType.array Jvm.ClassFile.FieldType.byte)), Jvm.Cond.code ({ cls := "java/lang/StringUTF16", name := "compress", desc := "([CI[BII)I" } : Jvm.MethodName) jdk_52_method_21_code (7 : Nat) (Option.some Jvm.ClassFile.FieldType.int), Jvm.Cond.code ({ cls := "java/lang/StringUTF16", name := "coderFromArrayLen", desc := "([BI)B" } : Jvm.MethodName) jdk_52_method_15_code (2 : Nat) (Option.some Jvm.ClassFile.FieldType.byte), Jvm.Cond.code ({ cls := "com/example/trestle/trestle/ResourceKind", name := "id", desc := "(Ljava/lang/String;)Ljava/lang/String;" } : Jvm.MethodName) prog_20_method_7_code (2 : Nat) (Option.some (Jvm.ClassFile.FieldType.object "java/lang/String")), Jvm.Cond.code ({ cls := "java/lang/String", name := "length", desc := "()I" } : Jvm.MethodName) jdk_42_method_54_code (1 : Nat) (Option.some Jvm.ClassFile.FieldType.int), Jvm.Cond.code ({ cls := "java/lang/String", name := "coder", desc := "()B" } : Jvm.MethodName) jdk_42_method_152_code (1 : Nat) (Option.some Jvm.ClassFile.FieldType.byte), Jvm.Cond.code ({ cls := "java/lang/String", name := "substring", desc := "(II)Ljava/lang/String;" } : Jvm.MethodName) jdk_42_method_92_code (5 : Nat) (Option.some (Jvm.ClassFile.FieldType.object "java/lang/String")), Jvm.Cond.code ({ cls := "java/lang/String", name := "checkBoundsBeginEnd", desc := "(III)V" } : Jvm.MethodName) jdk_42_method_158_code (3 : Nat) (Option.none : Option Jvm.ClassFile.FieldType), Jvm.Cond.code ({ cls := "jdk/internal/util/Preconditions", name := "checkFromToIndex", desc := "(IIILjava/util/function/BiFunction;)I" } : Jvm.MethodName) jdk_41_method_12_code (4 : Nat) (Option.some Jvm.ClassFile.FieldType.int), Jvm.Cond.code ({ cls := "java/lang/String", name := "isLatin1", desc := "()Z" } : Jvm.MethodName) jdk_42_method_154_code (1 : Nat) (Option.some Jvm.ClassFile.FieldType.boolean), Jvm.Cond.code ({ cls := "java/lang/StringLatin1", name := "newString", desc := "([BII)Ljava/lang/String;" } : Jvm.MethodName) jdk_43_method_47_code (3 : Nat) (Option.some (Jvm.ClassFile.FieldType.object "java/lang/String")), Jvm.Cond.code ({ cls := "java/util/Arrays", name := "copyOfRange", desc := "([BII)[B" } : Jvm.MethodName) jdk_65_method_132_code (3 : Nat) (Option.some (Jvm.ClassFile.FieldType.array Jvm.ClassFile.FieldType.byte)), Jvm.Cond.code ({ cls := "java/util/Arrays", name := "copyOfRangeByte", desc := "([BII)[B" } : Jvm.MethodName) jdk_65_method_133_code (5 : Nat) (Option.some (Jvm.ClassFile.FieldType.array Jvm.ClassFile.FieldType.byte)), Jvm.Cond.code ({ cls := "java/util/Arrays", name := "checkLength", desc := "(II)V" } : Jvm.MethodName) jdk_65_method_131_code (2 : Nat) (Option.none : Option Jvm.ClassFile.FieldType), Jvm.Cond.code ({ cls := "java/lang/Math", name := "min", desc := "(II)I" } : Jvm.MethodName) jdk_29_method_69_code (2 : Nat) (Option.some Jvm.ClassFile.FieldType.int), Jvm.Cond.code ({ cls := "java/lang/String", name := "<init>", desc := "([BB)V" } : Jvm.MethodName) jdk_42_method_151_code (3 : Nat) (Option.none : Option Jvm.ClassFile.FieldType), Jvm.Cond.code ({ cls := "java/lang/String", name := "equals", desc := "(Ljava/lang/Object;)Z" } : Jvm.MethodName) jdk_42_method_66_code (3 : Nat) (Option.some Jvm.ClassFile.FieldType.boolean), Jvm.Cond.code ({ cls := "java/lang/StringLatin1", name := "equals", desc := "([B[B)Z" } : Jvm.MethodName) jdk_43_method_13_code (3 : Nat) (Option.some Jvm.ClassFile.FieldType.boolean), Jvm.Cond.code ({ cls := "com/example/trestle/trestle/ResourceKindIdPinLaw", name := "suffixOf", desc := "(I)Ljava/lang/String;" } : Jvm.MethodName) method_4_code (1 : Nat) (Option.some (Jvm.ClassFile.FieldType.object "java/lang/String"))]
set_option maxRecDepth 65536 in
theorem codes_eq : words1.filter isCode = codes1 := rfl
theorem w_codes : ∀ c ∈ words1.filter isCode, c.before args0 about1 = true := by
  rw [codes_eq]
  intro c hc
  simp only [codes1, List.mem_cons, List.not_mem_nil, or_false] at hc
  rcases hc with rfl | rfl | rfl | rfl | rfl | rfl | rfl | rfl | rfl | rfl | rfl | rfl | rfl | rfl | rfl | rfl | rfl | rfl | rfl | rfl | rfl | rfl | rfl | rfl | rfl
  · exact w_c0
  · exact w_c1
  · exact w_c2
  · exact w_c3
  · exact w_c4
  · exact w_c5
  · exact w_c6
  · exact w_c7
  · exact w_c8
  · exact w_c9
  · exact w_c10
  · exact w_c11
  · exact w_c12
  · exact w_c13
  · exact w_c14
  · exact w_c15
  · exact w_c16
  · exact w_c17
  · exact w_c18
  · exact w_c19
  · exact w_c20
  · exact w_c21
  · exact w_c22
  · exact w_c23
  · exact w_c24
set_option maxRecDepth 65536 in
theorem w_t1 : (words1.take 24).all (fun c => isCode c || c.before args0 about1) = true := by decide +kernel
set_option maxRecDepth 65536 in
theorem w_t2 : ((words1.drop 24).take 24).all (fun c => isCode c || c.before args0 about1) = true := by decide +kernel
set_option maxRecDepth 65536 in
theorem w_t3 : (((words1.drop 24).drop 24).take 24).all (fun c => isCode c || c.before args0 about1) = true := by decide +kernel
set_option maxRecDepth 65536 in
theorem w_t4 : ((((words1.drop 24).drop 24).drop 24).take 24).all (fun c => isCode c || c.before args0 about1) = true := by decide +kernel
set_option maxRecDepth 65536 in
theorem w_t5 : (((((words1.drop 24).drop 24).drop 24).drop 24).take 24).all (fun c => isCode c || c.before args0 about1) = true := by decide +kernel
set_option maxRecDepth 65536 in
theorem w_t6 : (((((words1.drop 24).drop 24).drop 24).drop 24).drop 24).all (fun c => isCode c || c.before args0 about1) = true := by decide +kernel
theorem w_tables : (allAtoms (Jvm.Cond.code x code maxLocals ret :: tables_1)).before args0 about1 = true := by
  rw [allAtoms_all]
  show words1.all (fun c => c.before args0 about1) = true
  refine all_split ?_ w_codes
  rw [← List.take_append_drop 24 words1, List.all_append, w_t1, ← List.take_append_drop 24 (words1.drop 24), List.all_append, w_t2, ← List.take_append_drop 24 ((words1.drop 24).drop 24), List.all_append, w_t3, ← List.take_append_drop 24 (((words1.drop 24).drop 24).drop 24), List.all_append, w_t4, ← List.take_append_drop 24 ((((words1.drop 24).drop 24).drop 24).drop 24), List.all_append, w_t5, w_t6]
  rfl
set_option maxRecDepth 65536 in
theorem w_rest : rest_1_c.before args0 about1 = true := by decide +kernel
set_option maxRecDepth 65536 in
theorem w_case : (Jvm.Cond.and given_1 narrow_1).before args0 about1 = true := by decide +kernel
set_option maxRecDepth 65536 in
theorem w_consts : constsHeld consts_1 about1 := Jvm.Lit.constsHeldB_iff.mp (by decide +kernel)
theorem w_applies : (headSpec (Jvm.Cond.code x code maxLocals ret :: tables_1) room_1).applies x e0.platform about1 = true :=
  (Spec.applies_iff w_frames).mpr ⟨w_running, w_runnable, w_alone, w_named, w_hears, w_ripe, w_room, w_tables⟩
theorem atStart : AtStart classFile x code maxLocals ret World_1 tables_1 room_1 Calls_1 rest_1 Pre_1 launch0 p0 e0 about1 theMethod args0 below0 :=
  ⟨lists_1, trivial, launch0.admits_env _ _ _, launch0.least_env, fairChoices_fair.cas, fairChoices_fair.clock, w_frames, w_args, w_heap, w_applies, ⟨w_consts, trivial⟩, w_rest, w_case⟩
end start1
theorem witness_1 : WitnessClaimed_1 := ⟨start1.p0, start1.e0, start1.about1, start1.theMethod, start1.args0, start1.below0, start1.atStart⟩
end Jvm.Pilot.@@N@@
