import JvmDerived
import JvmDerived.Pilot.@@N@@Statement
import JvmDerived.Pilot.@@N@@Code
set_option linter.unusedVariables false
set_option linter.unusedSimpArgs false
namespace Jvm.RoadKit
open Sem ClassFile Op Lib Jvm.Stand Jvm.Free Jvm.LawKit
section New
variable {p : Program} {l : Launch} {e : Env} {R : Room} {s : State} {m : MethodId} {args : Array Value} {below : List Frame} {meth : Method} {c : Code} {T : State} {locs : List Loc} {cells slots : Nat}
theorem retI (X : Stand p l e R s m args below meth c T locs cells slots) (hx : p.tables.exec = Jvm.exec) {pc : Nat} {Ls : Array Slot} {z : Int32} {rest : List Value} (hret : meth.sig.returnType = some .int) (hd : decode c.code pc = .ok (.ireturn, 1)) {fs : List Frame}
    (hl : ∀ (f : JFrame) (acts : List Action), f.method = m → f.locked = none → f.entered = [] → (doReturn e (T.setTop f) acts (some (.int z))).1 = T.setFrames fs) : Steps p.tables e below (T.setTop (mkF m pc Ls (.int z :: rest))) (T.setFrames fs) := by
  have hm' : T.vm.method? m = some meth := X.method'
  have hn : narrow .int (.int z) = .int z := rfl
  show Steps p.tables e below (T.setTop { method := m, pc := pc, locals := Ls, stack := _ :: rest, locked := none }) _
  jvm_step X.here [X.here.top, hx, hd, hm', hret, hn]
  first | (intro acts; rw [hl _ acts rfl rfl rfl]) | rw [hl _ _ rfl rfl rfl]
  exact Steps.refl _
theorem gwLrem {tb : Tables} [Ours tb] {e : Env} {below : List Frame} {T target : State} {m : MethodId} {c : Code} {g : JFrame} (h : At T m c below) (hx : tb.exec = Jvm.exec) (hg : g.method = m) {x y : Int64} {rest : List Value} (hd : decode c.code g.pc = .ok (.lrem, 1)) (hs : g.stack = .long y :: .long x :: rest) (hy : y ≠ 0)
    (hr : Steps tb e below (T.setTop { g with pc := g.pc + 1, stack := .long (x % y) :: rest }) target) : Steps tb e below (T.setTop g) target :=
  XS.lrem h hx hg hd hs hy (by rw [lrem_mod]; exact hr)
theorem gwIrem {tb : Tables} [Ours tb] {e : Env} {below : List Frame} {T target : State} {m : MethodId} {c : Code} {g : JFrame} (h : At T m c below) (hx : tb.exec = Jvm.exec) (hg : g.method = m) {x y : Int32} {rest : List Value} (hd : decode c.code g.pc = .ok (.irem, 1)) (hs : g.stack = .int y :: .int x :: rest) (hy : y ≠ 0)
    (hr : Steps tb e below (T.setTop { g with pc := g.pc + 1, stack := .int (x % y) :: rest }) target) : Steps tb e below (T.setTop g) target :=
  XS.irem h hx hg hd hs hy (by rw [Jvm.irem_eq_mod]; exact hr)
end New
end Jvm.RoadKit
@@BLOCK:NumsL.lean.txt@@
namespace Jvm.Pilot.@@N@@
open Jvm Jvm.ClassFile Sem Op Lib Jvm.Free Jvm.Stand Jvm.LawKit Jvm.RoadKit Bundle Jvm.Pilot.@@N@@.Jvm.D

section StrKit
variable {p : Program} {l : Launch} {e : Env} {R : Room} {s : State} {m : MethodId} {args : Array Value} {below : List Frame} {meth : Method} {c : Code} {T : State} {locs : List Loc} {cells slots : Nat} {Z : State} {a0 : Array Value} {h h' : Heap} {a b : Addr} {ty : FieldType} {n i sl : Nat} {f f' : Nat → Value} {v : Value} {ws : List Addr}
/-- an array of n components, the i-th holds f i -/
def AF (Z : State) (h : Heap) (a : Addr) (ty : FieldType) (n : Nat) (f : Nat → Value) : Prop := ∃ cl : Cell, Arr Z h a cl ty ∧ cl.slots.size = n ∧ ∀ i, i < n → cl.slots[i]? = some (f i)
theorem AF.lt (F : AF Z h a ty n f) : a < h.size := by obtain ⟨cl, A, -⟩ := F; exact A.lt
theorem AF.ext (F : AF Z h a ty n f) (E : Ext h h') : AF Z h' a ty n f := by obtain ⟨cl, A, r⟩ := F; exact ⟨cl, A.ext E, r⟩
theorem AF.other (F : AF Z h a ty n f) (W : Wr h h' b sl v) (q : a ≠ b) : AF Z h' a ty n f := by obtain ⟨cl, A, r⟩ := F; exact ⟨cl, A.other W q, r⟩
theorem AF.keep (F : AF Z h a ty n f) (K : Keep h h' ws) (q : a ∉ ws) : AF Z h' a ty n f := by obtain ⟨cl, A, r⟩ := F; exact ⟨cl, ⟨K.2.1 a cl A.1 q, A.2⟩, r⟩
theorem AF.congr (F : AF Z h a ty n f) (q : ∀ i, i < n → f i = f' i) : AF Z h a ty n f' := by obtain ⟨cl, A, r, g⟩ := F; exact ⟨cl, A, r, fun i hi => by rw [g i hi, q i hi]⟩
/-- f, but v at i -/
def upd (f : Nat → Value) (i : Nat) (v : Value) : Nat → Value := fun j => if j = i then v else f j
theorem AF.wr (F : AF Z h a ty n f) (W : Wr h h' a i v) : AF Z h' a ty n (upd f i v) := by
  obtain ⟨cl, A, r, g⟩ := F
  refine ⟨_, A.same W, by simp [Cell.setSlot, r], fun j hj => ?_⟩
  by_cases q : j = i
  · subst q; simp [Cell.setSlot, upd, r, hj]
  · show _ = some (if j = i then v else f j)
    rw [if_neg q, ← g j hj]
    simp [Cell.setSlot, Array.getElem?_setIfInBounds, Ne.symm q]
theorem AF.new {k : ClassId} {z : Int32} (A : Arr Z h a (newA k ty z) ty) (q : z.toNatClampNeg = n) : AF Z h a ty n (fun _ => defaultValue ty) := ⟨_, A, by rw [sz_new]; exact q, fun i hi => by simp [newA, q, hi]⟩
theorem clampN (h : n < 2147483648) : (Int32.ofNat n).toNatClampNeg = n := by
  show (Int32.ofNat n).toInt.toNat = n
  rw [Int32.toInt_ofNat_small h]; rfl
theorem nnN (h : n < 2147483648) : ¬ Int32.ofNat n < 0 := by rw [Int32.lt_iff_toInt_lt, Int32.toInt_ofNat_small h, Int32.toInt_zero]; omega
theorem inN {cl : Cell} (hs : cl.slots.size = n) (hi : i < n) (hn : n < 2147483648) : ¬ (Int32.ofNat i < 0 ∨ cl.slots.size ≤ (Int32.ofNat i).toNatClampNeg) := by
  rw [clampN (by omega), hs]
  exact fun q => q.elim (nnN (by omega)) (fun q => absurd q (by omega))
theorem ldCh (X : Stand p l e R s m args below meth c T locs cells slots) (hx : p.tables.exec = Jvm.exec) (hZ : Z.Warmed39 s.vm) (eT : T.heap = h) (F : AF Z h a .char n f) (hi : i < n) (hn : n < 2147483648) (hv : f i = v) {g : JFrame} (hg : g.method = m) {rest : List Value} (hs : g.stack = .int (Int32.ofNat i) :: .ref a :: rest) (hd : decode c.code g.pc = .ok (.caload, 1)) {target : State}
    (hr : Steps p.tables e below (T.setTop { g with pc := g.pc + 1, stack := v :: rest }) target) : Steps p.tables e below (T.setTop g) target := by
  subst hv
  obtain ⟨cl, A, r, q⟩ := F
  exact X.caload hx (by rw [eT]; exact A.1) (State.isArrayOf_alike hZ.alike A.2.1) A.2.2 (inN r hi hn) (by rw [clampN (by omega)]; exact q i hi) hg hs hd _ hr
theorem ldBy (X : Stand p l e R s m args below meth c T locs cells slots) (hx : p.tables.exec = Jvm.exec) (hZ : Z.Warmed39 s.vm) (eT : T.heap = h) (F : AF Z h a .byte n f) (hi : i < n) (hn : n < 2147483648) (hv : f i = v) {g : JFrame} (hg : g.method = m) {rest : List Value} (hs : g.stack = .int (Int32.ofNat i) :: .ref a :: rest) (hd : decode c.code g.pc = .ok (.baload, 1)) {target : State}
    (hr : Steps p.tables e below (T.setTop { g with pc := g.pc + 1, stack := v :: rest }) target) : Steps p.tables e below (T.setTop g) target := by
  subst hv
  obtain ⟨cl, A, r, q⟩ := F
  exact X.baloadBytes hx (by rw [eT]; exact A.1) (State.isArrayOf_alike hZ.alike A.2.1) A.2.2 (inN r hi hn) (by rw [clampN (by omega)]; exact q i hi) hg hs hd _ hr
theorem lenA (X : Stand p l e R s m args below meth c T locs cells slots) (hx : p.tables.exec = Jvm.exec) (hZ : Z.Warmed39 s.vm) (eT : T.heap = h) (F : AF Z h a ty n f) {g : JFrame} (hg : g.method = m) {rest : List Value} (hs : g.stack = .ref a :: rest) (hd : decode c.code g.pc = .ok (.arraylength, 1)) {target : State}
    (hr : Steps p.tables e below (T.setTop { g with pc := g.pc + 1, stack := .int (Int32.ofNat n) :: rest }) target) : Steps p.tables e below (T.setTop g) target := by
  obtain ⟨cl, A, r, q⟩ := F
  refine X.arraylength hx (by rw [eT]; exact A.1) (State.isArrayOf_alike hZ.alike A.2.1) hg hs hd _ ?_
  rw [r]
  exact hr
theorem stBy (X : Stand p l e R s m args below meth c T locs cells slots) (hx : p.tables.exec = Jvm.exec) (hZ : Z.Warmed39 s.vm) (eT : T.heap = h) (F : AF Z h a .byte n f) (hi : i < n) (hn : n < 2147483648) {x : Int32} {g : JFrame} (hg : g.method = m) {rest : List Value} (hs : g.stack = .int x :: .int (Int32.ofNat i) :: .ref a :: rest) (hd : decode c.code g.pc = .ok (.bastore, 1)) :
    ∃ T' h', Stand p l e R s m args below meth c T' (locs ++ [⟨a, i⟩]) cells slots ∧ T'.heap = h' ∧ Wr h h' a i (.int (nar .byte x)) ∧ ∀ target, Steps p.tables e below (T'.setTop { g with pc := g.pc + 1, stack := rest }) target → Steps p.tables e below (T.setTop g) target := by
  obtain ⟨cl, A, r, q⟩ := F
  obtain ⟨T', h', X', e', W', st⟩ := stB X hx hZ eT A (inN r hi hn) hg hs hd
  rw [clampN (by omega)] at X' W'
  exact ⟨T', h', X', e', W', st⟩
theorem stCh (X : Stand p l e R s m args below meth c T locs cells slots) (hx : p.tables.exec = Jvm.exec) (hZ : Z.Warmed39 s.vm) (eT : T.heap = h) (F : AF Z h a .char n f) (hi : i < n) (hn : n < 2147483648) {x : Int32} {g : JFrame} (hg : g.method = m) {rest : List Value} (hs : g.stack = .int x :: .int (Int32.ofNat i) :: .ref a :: rest) (hd : decode c.code g.pc = .ok (.castore, 1)) :
    ∃ T' h', Stand p l e R s m args below meth c T' (locs ++ [⟨a, i⟩]) cells slots ∧ T'.heap = h' ∧ Wr h h' a i (.int (nar .char x)) ∧ ∀ target, Steps p.tables e below (T'.setTop { g with pc := g.pc + 1, stack := rest }) target → Steps p.tables e below (T.setTop g) target := by
  obtain ⟨cl, A, r, q⟩ := F
  obtain ⟨T', h', X', e', W', st⟩ := stC X hx hZ eT A (inN r hi hn) hg hs hd
  rw [clampN (by omega)] at X' W'
  exact ⟨T', h', X', e', W', st⟩
theorem nwA (X : Stand p l e R s m args below meth c T locs cells slots) (hx : p.tables.exec = Jvm.exec) (hZ : Z.Warmed39 s.vm) {aty : ArrayType} (w : (Cond.arrayClass (newarray.typeOf aty)).before a0 Z = true) (eT : T.heap = h) {g : JFrame} (hg : g.method = m) (hd : decode c.code g.pc = .ok (.newarray aty, 2)) {rest : List Value} (hs : g.stack = .int (Int32.ofNat n) :: rest)
    {cap : Nat} (hcap : n ≤ cap) (hb : cap * 8 ≤ 536870912) (hc : cells + 1 ≤ R.cells) (hl : slots + cap ≤ R.slots) :
    ∃ T' h', Stand p l e R s m args below meth c T' locs (cells + 1) (slots + cap) ∧ T'.heap = h' ∧ Ext h h' ∧ AF Z h' h.size (newarray.typeOf aty) n (fun _ => defaultValue (newarray.typeOf aty)) ∧
      ∀ target, Steps p.tables e below (T'.setTop { g with pc := g.pc + 2, stack := .ref h.size :: rest }) target → Steps p.tables e below (T.setTop g) target := by
  obtain ⟨T', h', cA, X', e', E', A', st⟩ := newP X hx hZ w eT hg hd hs (nnN (by omega)) (cap := cap) (by rw [clampN (by omega)]; exact hcap) hb hc hl
  exact ⟨T', h', X', e', E', AF.new A' (clampN (by omega)), st⟩
theorem shl1N (h : i < 1073741824) : (Int32.ofNat i) <<< ((1 : Int32) &&& 31) = Int32.ofNat (2 * i) := by
  refine Int32.toInt_inj.mp ?_
  rw [Jvm.Kit.i32_shl _ _ (k := 1) (by decide) (by rw [Int32.toInt_ofNat_small (by omega)]; omega) (by rw [Int32.toInt_ofNat_small (by omega)]; omega), Int32.toInt_ofNat_small (by omega), Int32.toInt_ofNat_small (by omega)]
  omega
theorem shr1N (h : i < 1073741824) : (Int32.ofNat (2 * i)) >>> ((1 : Int32) &&& 31) = Int32.ofNat i := by
  refine Int32.toInt_inj.mp ?_
  rw [Jvm.Kit.i32_shr _ _ (k := 1) (by decide), Int32.toInt_ofNat_small (by omega), Int32.toInt_ofNat_small (by omega)]
  omega
theorem succN (i : Nat) : Int32.ofNat i + (1 : Int32) = Int32.ofNat (i + 1) := Int32.ofNat_succ i
theorem ltN (h1 : i < 2147483648) (h2 : n < 2147483648) : Int32.ofNat i < Int32.ofNat n ↔ i < n := by rw [Int32.lt_iff_toInt_lt, Int32.toInt_ofNat_small h1, Int32.toInt_ofNat_small h2]; omega
end StrKit

/-- a Java char as an int -/
def isCh (x : Int32) : Prop := 0 ≤ x.toInt ∧ x.toInt < 65536
def isB (x : Int32) : Prop := 0 ≤ x.toInt ∧ x.toInt < 256
def b8 (x : Int32) : Int32 := nar .byte (x.toInt8.toInt32)
def lo8 (x : Int32) : Int32 := b8 (x >>> ((0 : Int32) &&& 31))
def hi8 (x : Int32) : Int32 := b8 (x >>> ((8 : Int32) &&& 31))
def l16 (x : Int32) : Int32 := (x &&& (255 : Int32)).toUInt32.toUInt16.toUInt32.toInt32
def u16 (x y : Int32) : Int32 := (((x &&& (255 : Int32)) <<< ((0 : Int32) &&& 31)) ||| ((y &&& (255 : Int32)) <<< ((8 : Int32) &&& 31))).toUInt32.toUInt16.toUInt32.toInt32
theorem b8_mod (x : Int32) : ((b8 x).toInt - x.toInt) % 256 = 0 := by
  have h1 := (c_i2b x).1
  have h2 := (c_i2b (x.toInt8.toInt32)).1
  show ((x.toInt8.toInt32).toInt8.toInt32.toInt - x.toInt) % 256 = 0
  omega
theorem m255 (x : Int32) : (x &&& (255 : Int32)).toInt = x.toInt % 256 := by rw [c_mask x 255 8 (by decide) (by decide)]; rfl
theorem nar_ch (x : Int32) : isCh (nar .char x) := (c_i2c x).2
theorem i2c_eq {x : Int32} (h : isCh x) : x.toUInt32.toUInt16.toUInt32.toInt32 = x := by
  have q := c_i2c x
  refine Int32.toInt_inj.mp ?_
  have := h.1; have := h.2
  omega
theorem nar_id {x : Int32} (h : isCh x) : nar .char x = x := i2c_eq h
theorem l16_eq {x : Int32} (h : isB x) : l16 (b8 x) = x := by
  have q := b8_mod x
  have r := m255 (b8 x)
  have := h.1; have := h.2
  have e : (b8 x &&& (255 : Int32)) = x := Int32.toInt_inj.mp (by omega)
  unfold l16
  rw [e]
  exact i2c_eq ⟨by omega, by omega⟩
theorem l16_ch (x : Int32) : isCh (l16 x) := (c_i2c _).2
theorem u16_ch (x y : Int32) : isCh (u16 x y) := (c_i2c _).2
theorem u16_eq {x : Int32} (h : isCh x) : u16 (lo8 x) (hi8 x) = x := by
  have := h.1; have := h.2
  have q0 := b8_mod (x >>> ((0 : Int32) &&& 31))
  have q8 := b8_mod (x >>> ((8 : Int32) &&& 31))
  rw [c_ishr x 0 0 (by decide)] at q0
  rw [c_ishr x 8 8 (by decide)] at q8
  have r0 := m255 (lo8 x)
  have r8 := m255 (hi8 x)
  have s0 := c_ishl (lo8 x &&& (255 : Int32)) 0 0 (by decide)
  have s8 := c_ishl (hi8 x &&& (255 : Int32)) 8 8 (by decide)
  have b1 := (lo8 x &&& (255 : Int32)) <<< ((0 : Int32) &&& 31) |>.toInt_lt
  have b2 := (lo8 x &&& (255 : Int32)) <<< ((0 : Int32) &&& 31) |>.le_toInt
  have b3 := (hi8 x &&& (255 : Int32)) <<< ((8 : Int32) &&& 31) |>.toInt_lt
  have b4 := (hi8 x &&& (255 : Int32)) <<< ((8 : Int32) &&& 31) |>.le_toInt
  have t := c_or' ((lo8 x &&& (255 : Int32)) <<< ((0 : Int32) &&& 31)) ((hi8 x &&& (255 : Int32)) <<< ((8 : Int32) &&& 31)) 8 (by decide) 256 (by decide)
  have b5 := (((lo8 x &&& (255 : Int32)) <<< ((0 : Int32) &&& 31)) ||| ((hi8 x &&& (255 : Int32)) <<< ((8 : Int32) &&& 31))).toInt_lt
  have b6 := (((lo8 x &&& (255 : Int32)) <<< ((0 : Int32) &&& 31)) ||| ((hi8 x &&& (255 : Int32)) <<< ((8 : Int32) &&& 31))).le_toInt
  change ((lo8 x).toInt - _) % 256 = 0 at q0
  change ((hi8 x).toInt - _) % 256 = 0 at q8
  have e : (((lo8 x &&& (255 : Int32)) <<< ((0 : Int32) &&& 31)) ||| ((hi8 x &&& (255 : Int32)) <<< ((8 : Int32) &&& 31))) = x := by
    refine Int32.toInt_inj.mp ?_
    generalize (lo8 x &&& (255 : Int32)) <<< ((0 : Int32) &&& 31) = A at *
    generalize (hi8 x &&& (255 : Int32)) <<< ((8 : Int32) &&& 31) = B at *
    simp only [Nat.pow_zero, Int.natCast_one, Int.mul_one, Int.ediv_one] at *
    have e8 : ((2 ^ 8 : Nat) : Int) = 256 := by decide
    rw [e8] at *
    have tt := t (by omega) (by omega) (by omega)
    omega
  unfold u16
  rw [e]
  exact i2c_eq h
theorem codA (n : Nat) : (((Int32.ofNat n) - (Int32.ofNat n)).toUInt32 >>> ((31 : Int32) &&& 31).toUInt32).toInt32.toInt8.toInt32 = (0 : Int32) := by
  rw [show Int32.ofNat n - Int32.ofNat n = 0 from Int32.sub_self _]
  decide
theorem codB {n : Nat} (hp : 0 < n) (h : 2 * n < 2147483648) : (((Int32.ofNat n) - (Int32.ofNat (2 * n))).toUInt32 >>> ((31 : Int32) &&& 31).toUInt32).toInt32.toInt8.toInt32 = (1 : Int32) := by
  have e : ((((Int32.ofNat n) - (Int32.ofNat (2 * n))).toUInt32 >>> ((31 : Int32) &&& 31).toUInt32).toInt32) = (1 : Int32) := by
    refine Int32.toInt_inj.mp ?_
    rw [c_iushr _ 31 31 (by decide) (by decide)]
    have q := c_isub (Int32.ofNat n) (Int32.ofNat (2 * n))
    rw [Int32.toInt_ofNat_small (by omega), Int32.toInt_ofNat_small (by omega)] at q
    have h1 := ((Int32.ofNat n) - (Int32.ofNat (2 * n))).toInt_lt
    have h2 := ((Int32.ofNat n) - (Int32.ofNat (2 * n))).le_toInt
    have e31 : ((2 ^ 31 : Nat) : Int) = 2147483648 := by decide
    rw [e31, show (1 : Int32).toInt = 1 from rfl]
    omega
  rw [e]
  decide
theorem smB {x : Int32} (h : isCh x) (q : ¬ ((255 : Int32) < x)) : isB x := by
  rw [Int32.lt_iff_toInt_lt, show (255 : Int32).toInt = 255 from rfl] at q
  exact ⟨h.1, by omega⟩
theorem isCh_of {x : Int32} (h : isB x) : isCh x := ⟨h.1, by have := h.2; omega⟩
theorem firstBig (g : Nat → Int32) : ∀ n : Nat, (∀ j, j < n → ¬ ((255 : Int32) < g j)) ∨ ∃ k, k < n ∧ (255 : Int32) < g k ∧ ∀ j, j < k → ¬ ((255 : Int32) < g j)
  | 0 => Or.inl fun j hj => absurd hj (Nat.not_lt_zero _)
  | n + 1 => by
    rcases firstBig g n with h | ⟨k, h1, h2, h3⟩
    · by_cases q : (255 : Int32) < g n
      · exact Or.inr ⟨n, Nat.lt_succ_self _, q, h⟩
      · exact Or.inl fun j hj => by
          by_cases r : j = n
          · rw [r]; exact q
          · exact h j (by omega)
    · exact Or.inr ⟨k, by omega, h2, h3⟩
theorem shr0 (x : Int32) : x >>> ((0 : Int32) &&& 31) = x := by
  refine Int32.toInt_inj.mp ?_
  rw [c_ishr x 0 0 (by decide)]
  exact Int.ediv_one _

/-- the statics that the String bodies read, as they stood when the law began -/
def StrSta (Z : State) : Prop := (∃ k : Int32, ¬ (k = (0 : Int32)) ∧ Sta Z Z.heap "java/lang/String" "COMPACT_STRINGS" "Z" (.int k)) ∧ Sta Z Z.heap "java/lang/StringUTF16" "$assertionsDisabled" "Z" (.int (1 : Int32)) ∧
  Sta Z Z.heap "java/lang/StringUTF16" "HI_BYTE_SHIFT" "I" (.int (0 : Int32)) ∧ Sta Z Z.heap "java/lang/StringUTF16" "LO_BYTE_SHIFT" "I" (.int (8 : Int32)) ∧
  (Sta Z Z.heap "jdk/internal/util/Preconditions" "SIOOBE_FORMATTER" "Ljava/util/function/BiFunction;" .null ∨ ∃ a : Addr, Sta Z Z.heap "jdk/internal/util/Preconditions" "SIOOBE_FORMATTER" "Ljava/util/function/BiFunction;" (.ref a))
def Ca (g : Nat → Int32) : Nat → Value := fun j => .int (g j)
def Lb (g : Nat → Int32) : Nat → Value := fun j => .int (b8 (g j))
def Ub (g : Nat → Int32) : Nat → Value := fun j => .int (if j % 2 = 0 then lo8 (g (j / 2)) else hi8 (g (j / 2)))
theorem Ub_lo (g : Nat → Int32) (i : Nat) : Ub g (2 * i) = .int (lo8 (g i)) := by unfold Ub; rw [if_pos (by omega), show 2 * i / 2 = i by omega]
theorem Ub_hi (g : Nat → Int32) (i : Nat) : Ub g (2 * i + 1) = .int (hi8 (g i)) := by unfold Ub; rw [if_neg (by omega), show (2 * i + 1) / 2 = i by omega]
def QI (r : Int32) (h0 : Heap) (n0 : Nat) (v : Option Value) (h : Heap) (L : List Loc) : Prop := v = some (.int r) ∧ Fr n0 L ∧ h = h0
def QN (h0 : Heap) (n0 : Nat) (v : Option Value) (h : Heap) (L : List Loc) : Prop := v = none ∧ Fr n0 L ∧ h = h0
def QA (Z : State) (ty : FieldType) (n : Nat) (f : Nat → Value) (h0 : Heap) (n0 : Nat) (v : Option Value) (h : Heap) (L : List Loc) : Prop := ∃ b : Addr, v = some (.ref b) ∧ Fr n0 L ∧ Keep h0 h [] ∧ h0.size ≤ b ∧ AF Z h b ty n f
def QK (Z : State) (b : Addr) (ty : FieldType) (n : Nat) (f : Nat → Value) (h0 : Heap) (n0 : Nat) (v : Option Value) (h : Heap) (L : List Loc) : Prop := v = none ∧ Fr n0 L ∧ Keep h0 h [b] ∧ AF Z h b ty n f
def QR (Z : State) (r : Int32) (b : Addr) (ty : FieldType) (n : Nat) (P : (Nat → Value) → Prop) (h0 : Heap) (n0 : Nat) (v : Option Value) (h : Heap) (L : List Loc) : Prop := v = some (.int r) ∧ Fr n0 L ∧ Keep h0 h [b] ∧ ∃ f, AF Z h b ty n f ∧ P f
/-- a String of n chars, the j-th is g j -/
def Str (Z : State) (h : Heap) (a : Addr) (n : Nat) (g : Nat → Int32) : Prop := Exa Z h a "java/lang/String" ∧ ∃ b : Addr, Fld Z h a "java/lang/String" "value" "[B" (.ref b) ∧
  ((Fld Z h a "java/lang/String" "coder" "B" (.int (0 : Int32)) ∧ AF Z h b .byte n (Lb g) ∧ ∀ j, j < n → isB (g j)) ∨
   (Fld Z h a "java/lang/String" "coder" "B" (.int (1 : Int32)) ∧ AF Z h b .byte (2 * n) (Ub g) ∧ ∀ j, j < n → isCh (g j)))
theorem Str.lt {Z : State} {h : Heap} {a : Addr} {n : Nat} {g : Nat → Int32} (S : Str Z h a n g) : a < h.size := S.1.lt
theorem Str.ext {Z : State} {h h' : Heap} {a : Addr} {n : Nat} {g : Nat → Int32} (S : Str Z h a n g) (E : Ext h h') : Str Z h' a n g := by
  obtain ⟨X, b, V, S⟩ := S
  exact ⟨X.ext E, b, V.ext E, S.imp (fun q => ⟨q.1.ext E, q.2.1.ext E, q.2.2⟩) (fun q => ⟨q.1.ext E, q.2.1.ext E, q.2.2⟩)⟩
theorem Str.keep {Z : State} {h h' : Heap} {a : Addr} {n : Nat} {g : Nat → Int32} (S : Str Z h a n g) (K : Keep h h' []) : Str Z h' a n g := by
  obtain ⟨X, b, V, S⟩ := S
  exact ⟨X.keep K, b, V.keep K (List.not_mem_nil), S.imp (fun q => ⟨q.1.keep K (List.not_mem_nil), q.2.1.keep K (List.not_mem_nil), q.2.2⟩) (fun q => ⟨q.1.keep K (List.not_mem_nil), q.2.1.keep K (List.not_mem_nil), q.2.2⟩)⟩
def QS (Z : State) (o : Addr) (n : Nat) (g : Nat → Int32) (h0 : Heap) (n0 : Nat) (v : Option Value) (h : Heap) (L : List Loc) : Prop := v = none ∧ Fr n0 L ∧ Keep h0 h [o] ∧ Str Z h o n g
theorem notin1 {a b : Addr} (q : a ≠ b) : a ∉ [b] := fun r => q (List.mem_singleton.mp r)
theorem all1 {n0 : Nat} {b : Addr} (q : n0 ≤ b) : ∀ x ∈ [b], n0 ≤ x := fun x r => by cases List.mem_singleton.mp r; exact q
theorem all0' {n0 : Nat} : ∀ x ∈ ([] : List Addr), n0 ≤ x := fun x r => absurd r List.not_mem_nil

/-- a String that is being made (its value is null yet) is no booked one -/
theorem safeNull {Z : State} {EL : List (String × Nat)} {vm : Vm} {h : Heap} {x : Addr} (hal : Z.vm.Alike vm) (E : Exa Z h x "java/lang/String") (G : Fld Z h x "java/lang/String" "value" "[B" .null) : Safe Z EL vm h x := fun B => by
  obtain ⟨cell, k, e1, e2, e3, -, -⟩ := E
  obtain ⟨p, -, u, a, -, q, -, F, rfl | rfl⟩ := B
  · cases (show h[q.sa]? = some q.sC from F.ha).symm.trans e1
    obtain ⟨cS, ⟨⟨s1, s2, s3, ⟨cv, kv, iv, s4, s4'⟩, s5, s6, s7, s8, sr⟩, f, e⟩, -⟩ := F
    obtain ⟨kv', z4⟩ := ff_back (U := Wst Z vm h) hal s4
    obtain ⟨c1, cf, k1, i1, f1, g1, g2, -, -, -, -, g7⟩ := G
    cases g1.symm.trans e1
    have e5 := z4.symm.trans g2
    simp only [Option.some.injEq, Prod.mk.injEq] at e5
    rw [e5.2.2.2] at s8
    cases s8.symm.trans g7
  · cases (show h[q.sd]? = some q.SA from F.hd).symm.trans e1
    obtain ⟨cS, -, -, f, -⟩ := F
    have f : vm.findClass "[B" = some q.SA.cls := f
    rw [hal.findClass] at f
    obtain ⟨k1, q1, q2⟩ := Vm.findClass_spec f
    obtain ⟨k2, q3, q4⟩ := Vm.findClass_spec e2
    cases q1.symm.trans q3
    exact absurd (q2.symm.trans q4) (by decide)
theorem AF.empty {Z : State} {h : Heap} {a : Addr} {k : ClassId} {ty : FieldType} {z : Int32} {dv : Value} (A : Arv Z h a k ty z [] dv) (hz : z.toNatClampNeg = 0) (f : Nat → Value) : AF Z h a ty 0 f := by
  obtain ⟨cl, Ar, -, S, -⟩ := A
  exact ⟨cl, Ar, by rw [S, hz], fun i hi => absurd hi (Nat.not_lt_zero _)⟩

theorem pd_0 : parseMethodDescriptor "(ICCCC)Ljava/lang/String;" = some ⟨[.int, .char, .char, .char, .char], some (.object "java/lang/String")⟩ := by decide +kernel
theorem pd_1 : parseMethodDescriptor "([C)V" = some ⟨[(.array .char)], none⟩ := by decide +kernel
theorem pd_2 : parseMethodDescriptor "([CIILjava/lang/Void;)V" = some ⟨[(.array .char), .int, .int, (.object "java/lang/Void")], none⟩ := by decide +kernel
theorem pd_3 : parseMethodDescriptor "()V" = some ⟨[], none⟩ := by decide +kernel
theorem pd_4 : parseMethodDescriptor "([CII)[B" = some ⟨[(.array .char), .int, .int], some (.array .byte)⟩ := by decide +kernel
theorem pd_5 : parseMethodDescriptor "([CI[BII)I" = some ⟨[(.array .char), .int, (.array .byte), .int, .int], some .int⟩ := by decide +kernel
theorem pd_6 : parseMethodDescriptor "([BI)B" = some ⟨[(.array .byte), .int], some .byte⟩ := by decide +kernel
theorem pd_7 : parseMethodDescriptor "(Ljava/lang/String;IC)Z" = some ⟨[(.object "java/lang/String"), .int, .char], some .boolean⟩ := by decide +kernel
theorem pd_8 : parseMethodDescriptor "()I" = some ⟨[], some .int⟩ := by decide +kernel
theorem pd_9 : parseMethodDescriptor "()B" = some ⟨[], some .byte⟩ := by decide +kernel
theorem pd_10 : parseMethodDescriptor "(I)C" = some ⟨[.int], some .char⟩ := by decide +kernel
theorem pd_11 : parseMethodDescriptor "()Z" = some ⟨[], some .boolean⟩ := by decide +kernel
theorem pd_12 : parseMethodDescriptor "([BI)C" = some ⟨[(.array .byte), .int], some .char⟩ := by decide +kernel
theorem pd_13 : parseMethodDescriptor "(II)V" = some ⟨[.int, .int], none⟩ := by decide +kernel
theorem pd_14 : parseMethodDescriptor "(IILjava/util/function/BiFunction;)I" = some ⟨[.int, .int, (.object "java/util/function/BiFunction")], some .int⟩ := by decide +kernel
theorem pd_15 : parseMethodDescriptor "(I)[B" = some ⟨[.int], some (.array .byte)⟩ := by decide +kernel
theorem pd_16 : parseMethodDescriptor "(I)I" = some ⟨[.int], some .int⟩ := by decide +kernel
theorem pd_17 : parseMethodDescriptor "([BII)V" = some ⟨[(.array .byte), .int, .int], none⟩ := by decide +kernel
theorem pd_18 : parseMethodDescriptor "(I[B)V" = some ⟨[.int, (.array .byte)], none⟩ := by decide +kernel
theorem pd_19 : parseMethodDescriptor "([B)I" = some ⟨[(.array .byte)], some .int⟩ := by decide +kernel
theorem d18_0 : decode jdk_52_method_3_code 0 = .ok (.iload_n 0, 1) := by decide +kernel
theorem d18_1 : decode jdk_52_method_3_code 1 = .ok (.ifCond .ge 11, 3) := by decide +kernel
theorem d18_4 : decode jdk_52_method_3_code 4 = .ok (.new 17, 3) := by decide +kernel
theorem d18_7 : decode jdk_52_method_3_code 7 = .ok (.dup, 1) := by decide +kernel
theorem d18_8 : decode jdk_52_method_3_code 8 = .ok (.invokespecial 19, 3) := by decide +kernel
theorem d18_11 : decode jdk_52_method_3_code 11 = .ok (.athrow, 1) := by decide +kernel
theorem d18_12 : decode jdk_52_method_3_code 12 = .ok (.iload_n 0, 1) := by decide +kernel
theorem d18_13 : decode jdk_52_method_3_code 13 = .ok (.ldc 20, 2) := by decide +kernel
theorem d18_15 : decode jdk_52_method_3_code 15 = .ok (.if_icmp .lt 40, 3) := by decide +kernel
theorem d18_18 : decode jdk_52_method_3_code 18 = .ok (.new 21, 3) := by decide +kernel
theorem d18_21 : decode jdk_52_method_3_code 21 = .ok (.dup, 1) := by decide +kernel
theorem d18_22 : decode jdk_52_method_3_code 22 = .ok (.new 23, 3) := by decide +kernel
theorem d18_25 : decode jdk_52_method_3_code 25 = .ok (.dup, 1) := by decide +kernel
theorem d18_26 : decode jdk_52_method_3_code 26 = .ok (.invokespecial 25, 3) := by decide +kernel
theorem d18_29 : decode jdk_52_method_3_code 29 = .ok (.ldc 26, 2) := by decide +kernel
theorem d18_31 : decode jdk_52_method_3_code 31 = .ok (.invokevirtual 28, 3) := by decide +kernel
theorem d18_34 : decode jdk_52_method_3_code 34 = .ok (.iload_n 0, 1) := by decide +kernel
theorem d18_35 : decode jdk_52_method_3_code 35 = .ok (.invokevirtual 32, 3) := by decide +kernel
theorem d18_38 : decode jdk_52_method_3_code 38 = .ok (.ldc 35, 2) := by decide +kernel
theorem d18_40 : decode jdk_52_method_3_code 40 = .ok (.invokevirtual 28, 3) := by decide +kernel
theorem d18_43 : decode jdk_52_method_3_code 43 = .ok (.ldc 20, 2) := by decide +kernel
theorem d18_45 : decode jdk_52_method_3_code 45 = .ok (.invokevirtual 32, 3) := by decide +kernel
theorem d18_48 : decode jdk_52_method_3_code 48 = .ok (.invokevirtual 37, 3) := by decide +kernel
theorem d18_51 : decode jdk_52_method_3_code 51 = .ok (.invokespecial 41, 3) := by decide +kernel
theorem d18_54 : decode jdk_52_method_3_code 54 = .ok (.athrow, 1) := by decide +kernel
theorem d18_55 : decode jdk_52_method_3_code 55 = .ok (.iload_n 0, 1) := by decide +kernel
theorem d18_56 : decode jdk_52_method_3_code 56 = .ok (.iconst 1, 1) := by decide +kernel
theorem d18_57 : decode jdk_52_method_3_code 57 = .ok (.ishl, 1) := by decide +kernel
theorem d18_58 : decode jdk_52_method_3_code 58 = .ok (.ireturn, 1) := by decide +kernel
theorem pn_18 : plainName "java/lang/StringUTF16" = true := by first | (simp [plainName, overriddenIn]; done) | decide +kernel
theorem ef_18 (m : MethodId) (x0 : Int32) : entryFrame m #[(.int x0)] 1 = mkF m 0 #[.val (.int x0)] [] := by first | (simp [entryFrame, mkF, argsToLocals, Value.category]; done) | rfl
set_option maxRecDepth 65536 in
set_option maxHeartbeats 40000000 in
theorem rmNBL (l : Launch) (Z : State) (a0 : Array Value) (hw : ∀ d ∈ tables_1, d.before a0 Z = true) (ws : List Jvm.Cond) (n : Nat)  (h0 : Heap) (n0 : Nat) (Z0 : n0 ≤ h0.size) (hn : n ≤ 4)  :
    MetFree l (⟨"java/lang/StringUTF16", "newBytesLength", "(I)I"⟩ : MethodName) (head1 (Jvm.Cond.code (⟨"java/lang/StringUTF16", "newBytesLength", "(I)I"⟩ : MethodName) jdk_52_method_3_code 1 (some .int) :: ws) ({ frames := 0, cells := 0, slots := 0, locals := 0 } : Room)) (fun aa_ U_ => aa_ = #[(.int (Int32.ofNat n))] ∧ Z.Warmed39 U_.vm ∧ U_.heap = h0) (fun _ _ _ _ _ => True) (fun _ U_ o_ V_ => ∃ v_ L_, o_ = .returned v_ ∧ QI (Int32.ofNat (2 * n)) h0 n0 v_ V_.heap L_ ∧ FrameEnd U_ o_ V_ L_ ({ frames := 0, cells := 0, slots := 0, locals := 0 } : Room).cells ({ frames := 0, cells := 0, slots := 0, locals := 0 } : Room).slots) := by
  refine MetFree.of_bodySF (plainFor_of_name pn_18) hisR ?_
  intro p e s m args below meth c s₁ Bd hml0 hP hK
  obtain ⟨rfl, hZ, hh⟩ := hP
  have hx := Bd.exec
  have hby := Bd.bytes
  have hml : c.maxLocals = 1 := hml0
  have hown : s.vm.findClass "java/lang/StringUTF16" = some m.cls := findClass_of_methodNamed Bd.named
  have hnm := (name_of_methodNamed Bd.named Bd.method).1
  have X0 : Stand p l e ({ frames := 0, cells := 0, slots := 0, locals := 0 } : Room) s m #[(.int (Int32.ofNat n))] below meth c s₁ [] 0 0 := Stand.of_body Bd
  have e0 : s₁.heap = h0 := by rw [← hh, Bd.state]; rfl
  have N0 := Fr.nil n0
  have pre0 : ∀ zz, Steps p.tables e below (s₁.setTop (mkF m 0 #[.val (.int (Int32.ofNat n))] [])) zz → Steps p.tables e below (s₁.setTop (entryFrame m #[(.int (Int32.ofNat n))] 1)) zz := fun zz k => castTop (ef_18 m (Int32.ofNat n)) k
  obtain ⟨fs, hr, hrun, hended, hW, hsame⟩ := X0.leave (v := some (.int (Int32.ofNat (2 * n)))) (fun h => by rw [Bd.returns] at h; cases h)
  refine ⟨_, _, pre0 _ ?_, hrun, hended, _, _, rfl, ?_, ⟨_, rfl⟩, hW, hsame.mono (by decide) (by decide)⟩
  · show Steps p.tables e below (s₁.setTop (mkF m 0 #[.val (.int (Int32.ofNat n))] [])) _
    refine XS.iloadN X0.here hx rfl (hb hby d18_0) rfl ?_
    refine XS.ifYes X0.here hx rfl (pc0 := 1) (pc' := 12) rfl (hb hby d18_1) rfl ((if0 _ _).trans (flt (nnN (by omega))).2.1) (by decide) (by decide) ?_
    refine XS.iloadN X0.here hx rfl (hb hby d18_12) rfl ?_
    refine X0.ldcInt hx hown (mvT hZ (hw _ (List.mem_of_getElem? (i := 83) rfl))) (g := (mkF m 13 #[.val (.int (Int32.ofNat n))] [(.int (Int32.ofNat n))])) rfl (hb hby d18_13) _ ?_
    refine XS.icmpYes X0.here hx rfl (pc0 := 15) (pc' := 55) rfl (hb hby d18_15) rfl (tlt ((ltN (n := 1073741823) (by omega) (by decide)).mpr (by omega))).1 (by decide) (by decide) ?_
    refine XS.iloadN X0.here hx rfl (hb hby d18_55) rfl ?_
    show Steps p.tables e below (s₁.setTop (mkF m 56 #[.val (.int (Int32.ofNat n))] [(.int (Int32.ofNat n))])) _
    refine XS.iconst X0.here hx rfl (hb hby d18_56) ?_
    refine XS.ishl X0.here hx rfl (hb hby d18_57) rfl ?_
    show Steps p.tables e below (s₁.setTop (mkF m 58 #[.val (.int (Int32.ofNat n))] [(.int ((Int32.ofNat n) <<< ((1 : Int32) &&& 31)))])) _
    rw [show ((Int32.ofNat n) <<< ((1 : Int32) &&& 31)) = (Int32.ofNat (2 * n)) from shl1N (by omega)]
    show Steps p.tables e below (s₁.setTop (mkF m 58 #[.val (.int (Int32.ofNat n))] [(.int (Int32.ofNat (2 * n)))])) _
    exact retI X0 hx Bd.returns (hb hby d18_58) hr
  · show QI (Int32.ofNat (2 * n)) h0 n0 _ s₁.heap _
    rw [e0]
    exact ⟨rfl, N0, rfl⟩
theorem d17_0 : decode jdk_52_method_2_code 0 = .ok (.iload_n 0, 1) := by decide +kernel
theorem d17_1 : decode jdk_52_method_2_code 1 = .ok (.invokestatic 11, 3) := by decide +kernel
theorem d17_4 : decode jdk_52_method_2_code 4 = .ok (.newarray .byte, 2) := by decide +kernel
theorem d17_6 : decode jdk_52_method_2_code 6 = .ok (.areturn, 1) := by decide +kernel
theorem pn_17 : plainName "java/lang/StringUTF16" = true := by first | (simp [plainName, overriddenIn]; done) | decide +kernel
theorem ef_17 (m : MethodId) (x0 : Int32) : entryFrame m #[(.int x0)] 1 = mkF m 0 #[.val (.int x0)] [] := by first | (simp [entryFrame, mkF, argsToLocals, Value.category]; done) | rfl
set_option maxRecDepth 65536 in
set_option maxHeartbeats 40000000 in
theorem rmNBF (l : Launch) (Z : State) (a0 : Array Value) (hw : ∀ d ∈ tables_1, d.before a0 Z = true) (ws : List Jvm.Cond) (n : Nat)  (h0 : Heap) (n0 : Nat) (Z0 : n0 ≤ h0.size) (hn : n ≤ 4)  :
    MetFree l (⟨"java/lang/StringUTF16", "newBytesFor", "(I)[B"⟩ : MethodName) (head1 (Jvm.Cond.code (⟨"java/lang/StringUTF16", "newBytesFor", "(I)[B"⟩ : MethodName) jdk_52_method_2_code 1 (some (.array .byte)) :: ws) ({ frames := 1, cells := 1, slots := 8, locals := 20 } : Room)) (fun aa_ U_ => aa_ = #[(.int (Int32.ofNat n))] ∧ Z.Warmed39 U_.vm ∧ U_.heap = h0) (fun _ _ _ _ _ => True) (fun _ U_ o_ V_ => ∃ v_ L_, o_ = .returned v_ ∧ QA Z .byte (2 * n) (fun _ => (.int (0 : Int32))) h0 n0 v_ V_.heap L_ ∧ FrameEnd U_ o_ V_ L_ ({ frames := 1, cells := 1, slots := 8, locals := 20 } : Room).cells ({ frames := 1, cells := 1, slots := 8, locals := 20 } : Room).slots) := by
  refine MetFree.of_bodySF (plainFor_of_name pn_17) hisR ?_
  intro p e s m args below meth c s₁ Bd hml0 hP hK
  obtain ⟨rfl, hZ, hh⟩ := hP
  have hx := Bd.exec
  have hby := Bd.bytes
  have hml : c.maxLocals = 1 := hml0
  have hown : s.vm.findClass "java/lang/StringUTF16" = some m.cls := findClass_of_methodNamed Bd.named
  have hnm := (name_of_methodNamed Bd.named Bd.method).1
  have X0 : Stand p l e ({ frames := 1, cells := 1, slots := 8, locals := 20 } : Room) s m #[(.int (Int32.ofNat n))] below meth c s₁ [] 0 0 := Stand.of_body Bd
  have e0 : s₁.heap = h0 := by rw [← hh, Bd.state]; rfl
  have N0 := Fr.nil n0
  have pre0 : ∀ zz, Steps p.tables e below (s₁.setTop (mkF m 0 #[.val (.int (Int32.ofNat n))] [])) zz → Steps p.tables e below (s₁.setTop (entryFrame m #[(.int (Int32.ofNat n))] 1)) zz := fun zz k => castTop (ef_17 m (Int32.ofNat n)) k
  obtain ⟨_, _, ⟨T1, L1, k1, n1⟩, -, X1, ⟨Lc1, hQ1, l1, y1, z1⟩, st1⟩ := Jvm.LawKit.callS X0 hx (y := (⟨"java/lang/StringUTF16", "newBytesLength", "(I)I"⟩ : MethodName)) hown (mvT hZ (hw _ (List.mem_of_getElem? (i := 80) rfl))) (mvT hZ (hw _ (List.mem_of_getElem? (i := 81) rfl))) (mvT hZ (hw _ (List.mem_of_getElem? (i := 22) rfl))) (mvT hZ (hw _ (List.mem_of_getElem? (i := 82) rfl))) (by decide) (backOf (W := 0) (rmNBL l Z a0 hw [] n h0 n0 Z0 hn) hZ (hw _ (List.mem_of_getElem? (i := 82) rfl)) (hw _ (List.mem_of_getElem? (i := 22) rfl)) (by decide) (by decide)) (g := (mkF m 1 #[.val (.int (Int32.ofNat n))] [(.int (Int32.ofNat n))])) rfl (by rw [hml]; rfl) (argsL := [(.int (Int32.ofNat n))]) (rest := []) (lenOf pd_16 rfl) rfl (by show 2 * 0 + _ ≤ _; exact Nat.le_of_eq rfl) (hb hby d17_1) (fun _ _ => ⟨rfl, e0, (by decide : 0 + 0 ≤ _), (by decide : 0 + 0 ≤ _)⟩)
  dsimp only [Pt.U, Pt.locs, Pt.cells, Pt.slots] at X1 l1 y1 z1 st1 hQ1
  subst l1 y1 z1
  obtain ⟨rfl, N1q, e1⟩ := hQ1
  have N1 := Fr.app N0 N1q
  obtain ⟨T2, h2, X2, e2, E2, A2, st2⟩ := nwA X1 hx hZ (hw _ (List.mem_of_getElem? (i := 24) rfl)) e1 (g := (mkF m 4 #[.val (.int (Int32.ofNat n))] [(.int (Int32.ofNat (2 * n)))])) rfl (hb hby d17_4) (n := (2 * n)) rfl (cap := 8) (by omega) (by decide) (by decide) (by decide)
  obtain ⟨b2, q2⟩ : ∃ z, z = h0.size := ⟨_, rfl⟩
  rw [← q2] at A2 st2
  have V2 : AF Z h2 b2 .byte (2 * n) (fun _ => (.int (0 : Int32))) := A2
  have g_b2 : n0 ≤ b2 := Nat.le_trans Z0 (Nat.le_of_eq q2.symm)
  have sz_b2 : h0.size ≤ b2 := Nat.le_trans (Keep.refl h0 []).1 (Nat.le_of_eq q2.symm)
  have K2 := (Keep.refl h0 []).ext E2
  have Z2 : n0 ≤ h2.size := Nat.le_trans Z0 E2.1
  obtain ⟨fs, hr, hrun, hended, hW, hsame⟩ := X2.leave (v := some (.ref b2)) (fun h => by rw [Bd.returns] at h; cases h)
  refine ⟨_, _, pre0 _ ?_, hrun, hended, _, _, rfl, ?_, ⟨_, rfl⟩, hW, hsame.mono (by decide) (by decide)⟩
  · show Steps p.tables e below (s₁.setTop (mkF m 0 #[.val (.int (Int32.ofNat n))] [])) _
    refine XS.iloadN X0.here hx rfl (hb hby d17_0) rfl ?_
    show Steps p.tables e below (s₁.setTop (mkF m 1 #[.val (.int (Int32.ofNat n))] [(.int (Int32.ofNat n))])) _
    refine st1 _ ?_
    show Steps p.tables e below (T1.setTop (mkF m 4 #[.val (.int (Int32.ofNat n))] [(.int (Int32.ofNat (2 * n)))])) _
    refine st2 _ ?_
    show Steps p.tables e below (T2.setTop (mkF m 6 #[.val (.int (Int32.ofNat n))] [(.ref b2)])) _
    jvm_step X2.here [X2.here.top, hx, (hb hby d17_6), X2.method', Bd.returns, Value.isRef, FieldType.isReference]
    first | (intro acts; rw [hr _ acts rfl rfl rfl]) | rw [hr _ _ rfl rfl rfl]
    exact Steps.refl _
  · show QA Z .byte (2 * n) (fun _ => (.int (0 : Int32))) h0 n0 _ T2.heap _
    exact ⟨b2, rfl, N1, by rw [e2]; exact K2, sz_b2, by rw [e2]; exact V2⟩
theorem d19_0 : decode jdk_52_method_4_code 0 = .ok (.getstatic 44, 3) := by decide +kernel
theorem d19_3 : decode jdk_52_method_4_code 3 = .ok (.ifCond .ne 25, 3) := by decide +kernel
theorem d19_6 : decode jdk_52_method_4_code 6 = .ok (.iload_n 1, 1) := by decide +kernel
theorem d19_7 : decode jdk_52_method_4_code 7 = .ok (.ifCond .lt 11, 3) := by decide +kernel
theorem d19_10 : decode jdk_52_method_4_code 10 = .ok (.iload_n 1, 1) := by decide +kernel
theorem d19_11 : decode jdk_52_method_4_code 11 = .ok (.aload_n 0, 1) := by decide +kernel
theorem d19_12 : decode jdk_52_method_4_code 12 = .ok (.invokestatic 48, 3) := by decide +kernel
theorem d19_15 : decode jdk_52_method_4_code 15 = .ok (.if_icmp .lt 13, 3) := by decide +kernel
theorem d19_18 : decode jdk_52_method_4_code 18 = .ok (.new 52, 3) := by decide +kernel
theorem d19_21 : decode jdk_52_method_4_code 21 = .ok (.dup, 1) := by decide +kernel
theorem d19_22 : decode jdk_52_method_4_code 22 = .ok (.ldc 54, 2) := by decide +kernel
theorem d19_24 : decode jdk_52_method_4_code 24 = .ok (.invokespecial 56, 3) := by decide +kernel
theorem d19_27 : decode jdk_52_method_4_code 27 = .ok (.athrow, 1) := by decide +kernel
theorem d19_28 : decode jdk_52_method_4_code 28 = .ok (.iload_n 1, 1) := by decide +kernel
theorem d19_29 : decode jdk_52_method_4_code 29 = .ok (.iconst 1, 1) := by decide +kernel
theorem d19_30 : decode jdk_52_method_4_code 30 = .ok (.ishl, 1) := by decide +kernel
theorem d19_31 : decode jdk_52_method_4_code 31 = .ok (.istore_n 1, 1) := by decide +kernel
theorem d19_32 : decode jdk_52_method_4_code 32 = .ok (.aload_n 0, 1) := by decide +kernel
theorem d19_33 : decode jdk_52_method_4_code 33 = .ok (.iload_n 1, 1) := by decide +kernel
theorem d19_34 : decode jdk_52_method_4_code 34 = .ok (.iinc 1 1, 3) := by decide +kernel
theorem d19_37 : decode jdk_52_method_4_code 37 = .ok (.iload_n 2, 1) := by decide +kernel
theorem d19_38 : decode jdk_52_method_4_code 38 = .ok (.getstatic 59, 3) := by decide +kernel
theorem d19_41 : decode jdk_52_method_4_code 41 = .ok (.ishr, 1) := by decide +kernel
theorem d19_42 : decode jdk_52_method_4_code 42 = .ok (.i2b, 1) := by decide +kernel
theorem d19_43 : decode jdk_52_method_4_code 43 = .ok (.bastore, 1) := by decide +kernel
theorem d19_44 : decode jdk_52_method_4_code 44 = .ok (.aload_n 0, 1) := by decide +kernel
theorem d19_45 : decode jdk_52_method_4_code 45 = .ok (.iload_n 1, 1) := by decide +kernel
theorem d19_46 : decode jdk_52_method_4_code 46 = .ok (.iload_n 2, 1) := by decide +kernel
theorem d19_47 : decode jdk_52_method_4_code 47 = .ok (.getstatic 63, 3) := by decide +kernel
theorem d19_50 : decode jdk_52_method_4_code 50 = .ok (.ishr, 1) := by decide +kernel
theorem d19_51 : decode jdk_52_method_4_code 51 = .ok (.i2b, 1) := by decide +kernel
theorem d19_52 : decode jdk_52_method_4_code 52 = .ok (.bastore, 1) := by decide +kernel
theorem d19_53 : decode jdk_52_method_4_code 53 = .ok (.return_, 1) := by decide +kernel
theorem pn_19 : plainName "java/lang/StringUTF16" = true := by first | (simp [plainName, overriddenIn]; done) | decide +kernel
theorem ef_19 (m : MethodId) (x0 : Addr) (x1 : Int32) (x2 : Int32) : entryFrame m #[(.ref x0), (.int x1), (.int x2)] 3 = mkF m 0 #[.val (.ref x0), .val (.int x1), .val (.int x2)] [] := by first | (simp [entryFrame, mkF, argsToLocals, Value.category]; done) | rfl
set_option maxRecDepth 65536 in
set_option maxHeartbeats 40000000 in
theorem rmPC (l : Launch) (Z : State) (a0 : Array Value) (hw : ∀ d ∈ tables_1, d.before a0 Z = true) (ws : List Jvm.Cond) (b : Addr) (i n : Nat) (x : Int32) (f : Nat → Value)  (h0 : Heap) (n0 : Nat) (Z0 : n0 ≤ h0.size) (hn : n ≤ 4) (hi : i < n) (O : Old Z n0 h0) (SK : StrSta Z) (FB : AF Z h0 b .byte (2 * n) f) (g_b : n0 ≤ b)  :
    MetFree l (⟨"java/lang/StringUTF16", "putChar", "([BII)V"⟩ : MethodName) (head1 (Jvm.Cond.code (⟨"java/lang/StringUTF16", "putChar", "([BII)V"⟩ : MethodName) jdk_52_method_4_code 3 none :: ws) ({ frames := 0, cells := 0, slots := 0, locals := 0 } : Room)) (fun aa_ U_ => aa_ = #[(.ref b), (.int (Int32.ofNat i)), (.int x)] ∧ Z.Warmed39 U_.vm ∧ U_.heap = h0) (fun _ _ _ _ _ => True) (fun _ U_ o_ V_ => ∃ v_ L_, o_ = .returned v_ ∧ QK Z b .byte (2 * n) (upd (upd f (2 * i) (.int (lo8 x))) (2 * i + 1) (.int (hi8 x))) h0 n0 v_ V_.heap L_ ∧ FrameEnd U_ o_ V_ L_ ({ frames := 0, cells := 0, slots := 0, locals := 0 } : Room).cells ({ frames := 0, cells := 0, slots := 0, locals := 0 } : Room).slots) := by
  refine MetFree.of_bodySF (plainFor_of_name pn_19) hisR ?_
  intro p e s m args below meth c s₁ Bd hml0 hP hK
  obtain ⟨rfl, hZ, hh⟩ := hP
  have hx := Bd.exec
  have hby := Bd.bytes
  have hml : c.maxLocals = 3 := hml0
  have hown : s.vm.findClass "java/lang/StringUTF16" = some m.cls := findClass_of_methodNamed Bd.named
  have hnm := (name_of_methodNamed Bd.named Bd.method).1
  have X0 : Stand p l e ({ frames := 0, cells := 0, slots := 0, locals := 0 } : Room) s m #[(.ref b), (.int (Int32.ofNat i)), (.int x)] below meth c s₁ [] 0 0 := Stand.of_body Bd
  have e0 : s₁.heap = h0 := by rw [← hh, Bd.state]; rfl
  have N0 := Fr.nil n0
  have pre0 : ∀ zz, Steps p.tables e below (s₁.setTop (mkF m 0 #[.val (.ref b), .val (.int (Int32.ofNat i)), .val (.int x)] [])) zz → Steps p.tables e below (s₁.setTop (entryFrame m #[(.ref b), (.int (Int32.ofNat i)), (.int x)] 3)) zz := fun zz k => castTop (ef_19 m b (Int32.ofNat i) x) k
  obtain ⟨T3, X3, e3, st3⟩ := getS2 X0 hx hZ hown (host := "") (Or.inl (hw _ (List.mem_of_getElem? (i := 87) rfl))) Via.refl e0 (Sta.ext O.2 SK.2.1) (g := (mkF m 0 #[.val (.ref b), .val (.int (Int32.ofNat i)), .val (.int x)] [])) rfl (hb hby d19_0)
  obtain ⟨T4, X4, e4, st4⟩ := getS2 X3 hx hZ hown (host := "") (Or.inl (hw _ (List.mem_of_getElem? (i := 88) rfl))) Via.refl e3 (Sta.ext O.2 SK.2.2.1) (g := (mkF m 38 #[.val (.ref b), .val (.int (Int32.ofNat (2 * i + 1))), .val (.int x)] [(.int x), (.int (Int32.ofNat (2 * i))), (.ref b)])) rfl (hb hby d19_38)
  obtain ⟨T5, h5, X5, e5, W5, st5⟩ := stBy X4 hx hZ e4 FB (i := (2 * i)) (by omega) (by omega) (x := ((x >>> ((0 : Int32) &&& 31)).toInt8.toInt32)) (g := (mkF m 43 #[.val (.ref b), .val (.int (Int32.ofNat (2 * i + 1))), .val (.int x)] [(.int ((x >>> ((0 : Int32) &&& 31)).toInt8.toInt32)), (.int (Int32.ofNat (2 * i))), (.ref b)])) rfl rfl (hb hby d19_43)
  have A5 := FB.wr W5
  have N5 := Fr.snoc X5 N0 g_b
  have K5 := (Keep.refl h0 [b]).wr W5 (Or.inl (List.mem_of_getElem? (i := 0) rfl))
  have Z5 : n0 ≤ h5.size := Nat.le_trans Z0 (Keep.of_wr W5).1
  have O5 := O.wr W5 g_b
  obtain ⟨T6, X6, e6, st6⟩ := getS2 X5 hx hZ hown (host := "") (Or.inl (hw _ (List.mem_of_getElem? (i := 89) rfl))) Via.refl e5 (Sta.ext O5.2 SK.2.2.2.1) (g := (mkF m 47 #[.val (.ref b), .val (.int (Int32.ofNat (2 * i + 1))), .val (.int x)] [(.int x), (.int (Int32.ofNat (2 * i + 1))), (.ref b)])) rfl (hb hby d19_47)
  obtain ⟨T7, h7, X7, e7, W7, st7⟩ := stBy X6 hx hZ e6 A5 (i := (2 * i + 1)) (by omega) (by omega) (x := ((x >>> ((8 : Int32) &&& 31)).toInt8.toInt32)) (g := (mkF m 52 #[.val (.ref b), .val (.int (Int32.ofNat (2 * i + 1))), .val (.int x)] [(.int ((x >>> ((8 : Int32) &&& 31)).toInt8.toInt32)), (.int (Int32.ofNat (2 * i + 1))), (.ref b)])) rfl rfl (hb hby d19_52)
  have A7 := A5.wr W7
  have N7 := Fr.snoc X7 N5 g_b
  have K7 := K5.wr W7 (Or.inl (List.mem_of_getElem? (i := 0) rfl))
  have Z7 : n0 ≤ h7.size := Nat.le_trans Z5 (Keep.of_wr W7).1
  have O7 := O5.wr W7 g_b
  obtain ⟨fs, hr, hrun, hended, hW, hsame⟩ := X7.leave (v := none) (fun _ => rfl)
  refine ⟨_, _, pre0 _ ?_, hrun, hended, _, _, rfl, ?_, ⟨_, rfl⟩, hW, hsame.mono (by decide) (by decide)⟩
  · show Steps p.tables e below (s₁.setTop (mkF m 0 #[.val (.ref b), .val (.int (Int32.ofNat i)), .val (.int x)] [])) _
    refine st3 _ ?_
    refine XS.ifYes X3.here hx rfl (pc0 := 3) (pc' := 28) rfl (hb hby d19_3) rfl ((if0 _ _).trans (feq (by decide : ¬ ((1 : Int32) = (0 : Int32)))).2) (by decide) (by decide) ?_
    refine XS.iloadN X3.here hx rfl (hb hby d19_28) rfl ?_
    refine XS.iconst X3.here hx rfl (hb hby d19_29) ?_
    refine XS.ishl X3.here hx rfl (hb hby d19_30) rfl ?_
    show Steps p.tables e below (T3.setTop (mkF m 31 #[.val (.ref b), .val (.int (Int32.ofNat i)), .val (.int x)] [(.int ((Int32.ofNat i) <<< ((1 : Int32) &&& 31)))])) _
    rw [show ((Int32.ofNat i) <<< ((1 : Int32) &&& 31)) = (Int32.ofNat (2 * i)) from shl1N (by omega)]
    show Steps p.tables e below (T3.setTop (mkF m 31 #[.val (.ref b), .val (.int (Int32.ofNat i)), .val (.int x)] [(.int (Int32.ofNat (2 * i)))])) _
    refine XS.istoreN X3.here hx rfl (hb hby d19_31) rfl (l' := #[.val (.ref b), .val (.int (Int32.ofNat (2 * i))), .val (.int x)]) rfl ?_
    refine XS.aloadN X3.here hx rfl (hb hby d19_32) rfl rfl ?_
    refine XS.iloadN X3.here hx rfl (hb hby d19_33) rfl ?_
    refine XS.iinc X3.here hx rfl (hb hby d19_34) rfl (l' := #[.val (.ref b), .val (.int ((Int32.ofNat (2 * i)) + (1 : Int32))), .val (.int x)]) rfl ?_
    show Steps p.tables e below (T3.setTop (mkF m 37 #[.val (.ref b), .val (.int ((Int32.ofNat (2 * i)) + (1 : Int32))), .val (.int x)] [(.int (Int32.ofNat (2 * i))), (.ref b)])) _
    rw [show ((Int32.ofNat (2 * i)) + (1 : Int32)) = (Int32.ofNat (2 * i + 1)) from succN _]
    show Steps p.tables e below (T3.setTop (mkF m 37 #[.val (.ref b), .val (.int (Int32.ofNat (2 * i + 1))), .val (.int x)] [(.int (Int32.ofNat (2 * i))), (.ref b)])) _
    refine XS.iloadN X3.here hx rfl (hb hby d19_37) rfl ?_
    show Steps p.tables e below (T3.setTop (mkF m 38 #[.val (.ref b), .val (.int (Int32.ofNat (2 * i + 1))), .val (.int x)] [(.int x), (.int (Int32.ofNat (2 * i))), (.ref b)])) _
    refine st4 _ ?_
    refine XS.ishr X4.here hx rfl (hb hby d19_41) rfl ?_
    refine XS.i2b X4.here hx rfl (hb hby d19_42) rfl ?_
    show Steps p.tables e below (T4.setTop (mkF m 43 #[.val (.ref b), .val (.int (Int32.ofNat (2 * i + 1))), .val (.int x)] [(.int ((x >>> ((0 : Int32) &&& 31)).toInt8.toInt32)), (.int (Int32.ofNat (2 * i))), (.ref b)])) _
    refine st5 _ ?_
    refine XS.aloadN X5.here hx rfl (hb hby d19_44) rfl rfl ?_
    refine XS.iloadN X5.here hx rfl (hb hby d19_45) rfl ?_
    refine XS.iloadN X5.here hx rfl (hb hby d19_46) rfl ?_
    show Steps p.tables e below (T5.setTop (mkF m 47 #[.val (.ref b), .val (.int (Int32.ofNat (2 * i + 1))), .val (.int x)] [(.int x), (.int (Int32.ofNat (2 * i + 1))), (.ref b)])) _
    refine st6 _ ?_
    refine XS.ishr X6.here hx rfl (hb hby d19_50) rfl ?_
    refine XS.i2b X6.here hx rfl (hb hby d19_51) rfl ?_
    show Steps p.tables e below (T6.setTop (mkF m 52 #[.val (.ref b), .val (.int (Int32.ofNat (2 * i + 1))), .val (.int x)] [(.int ((x >>> ((8 : Int32) &&& 31)).toInt8.toInt32)), (.int (Int32.ofNat (2 * i + 1))), (.ref b)])) _
    refine st7 _ ?_
    show Steps p.tables e below (T7.setTop (mkF m 53 #[.val (.ref b), .val (.int (Int32.ofNat (2 * i + 1))), .val (.int x)] [])) _
    exact X7.returnOut hx Bd.returns (hb hby d19_53) hr
  · show QK Z b .byte (2 * n) (upd (upd f (2 * i) (.int (lo8 x))) (2 * i + 1) (.int (hi8 x))) h0 n0 _ T7.heap _
    exact ⟨rfl, N7, by rw [e7]; exact K7, by rw [e7]; exact A7⟩
theorem d20_0 : decode jdk_52_method_5_code 0 = .ok (.getstatic 44, 3) := by decide +kernel
theorem d20_3 : decode jdk_52_method_5_code 3 = .ok (.ifCond .ne 25, 3) := by decide +kernel
theorem d20_6 : decode jdk_52_method_5_code 6 = .ok (.iload_n 1, 1) := by decide +kernel
theorem d20_7 : decode jdk_52_method_5_code 7 = .ok (.ifCond .lt 11, 3) := by decide +kernel
theorem d20_10 : decode jdk_52_method_5_code 10 = .ok (.iload_n 1, 1) := by decide +kernel
theorem d20_11 : decode jdk_52_method_5_code 11 = .ok (.aload_n 0, 1) := by decide +kernel
theorem d20_12 : decode jdk_52_method_5_code 12 = .ok (.invokestatic 48, 3) := by decide +kernel
theorem d20_15 : decode jdk_52_method_5_code 15 = .ok (.if_icmp .lt 13, 3) := by decide +kernel
theorem d20_18 : decode jdk_52_method_5_code 18 = .ok (.new 52, 3) := by decide +kernel
theorem d20_21 : decode jdk_52_method_5_code 21 = .ok (.dup, 1) := by decide +kernel
theorem d20_22 : decode jdk_52_method_5_code 22 = .ok (.ldc 54, 2) := by decide +kernel
theorem d20_24 : decode jdk_52_method_5_code 24 = .ok (.invokespecial 56, 3) := by decide +kernel
theorem d20_27 : decode jdk_52_method_5_code 27 = .ok (.athrow, 1) := by decide +kernel
theorem d20_28 : decode jdk_52_method_5_code 28 = .ok (.iload_n 1, 1) := by decide +kernel
theorem d20_29 : decode jdk_52_method_5_code 29 = .ok (.iconst 1, 1) := by decide +kernel
theorem d20_30 : decode jdk_52_method_5_code 30 = .ok (.ishl, 1) := by decide +kernel
theorem d20_31 : decode jdk_52_method_5_code 31 = .ok (.istore_n 1, 1) := by decide +kernel
theorem d20_32 : decode jdk_52_method_5_code 32 = .ok (.aload_n 0, 1) := by decide +kernel
theorem d20_33 : decode jdk_52_method_5_code 33 = .ok (.iload_n 1, 1) := by decide +kernel
theorem d20_34 : decode jdk_52_method_5_code 34 = .ok (.iinc 1 1, 3) := by decide +kernel
theorem d20_37 : decode jdk_52_method_5_code 37 = .ok (.baload, 1) := by decide +kernel
theorem d20_38 : decode jdk_52_method_5_code 38 = .ok (.sipush 255, 3) := by decide +kernel
theorem d20_41 : decode jdk_52_method_5_code 41 = .ok (.iand, 1) := by decide +kernel
theorem d20_42 : decode jdk_52_method_5_code 42 = .ok (.getstatic 59, 3) := by decide +kernel
theorem d20_45 : decode jdk_52_method_5_code 45 = .ok (.ishl, 1) := by decide +kernel
theorem d20_46 : decode jdk_52_method_5_code 46 = .ok (.aload_n 0, 1) := by decide +kernel
theorem d20_47 : decode jdk_52_method_5_code 47 = .ok (.iload_n 1, 1) := by decide +kernel
theorem d20_48 : decode jdk_52_method_5_code 48 = .ok (.baload, 1) := by decide +kernel
theorem d20_49 : decode jdk_52_method_5_code 49 = .ok (.sipush 255, 3) := by decide +kernel
theorem d20_52 : decode jdk_52_method_5_code 52 = .ok (.iand, 1) := by decide +kernel
theorem d20_53 : decode jdk_52_method_5_code 53 = .ok (.getstatic 63, 3) := by decide +kernel
theorem d20_56 : decode jdk_52_method_5_code 56 = .ok (.ishl, 1) := by decide +kernel
theorem d20_57 : decode jdk_52_method_5_code 57 = .ok (.ior, 1) := by decide +kernel
theorem d20_58 : decode jdk_52_method_5_code 58 = .ok (.i2c, 1) := by decide +kernel
theorem d20_59 : decode jdk_52_method_5_code 59 = .ok (.ireturn, 1) := by decide +kernel
theorem pn_20 : plainName "java/lang/StringUTF16" = true := by first | (simp [plainName, overriddenIn]; done) | decide +kernel
theorem ef_20 (m : MethodId) (x0 : Addr) (x1 : Int32) : entryFrame m #[(.ref x0), (.int x1)] 2 = mkF m 0 #[.val (.ref x0), .val (.int x1)] [] := by first | (simp [entryFrame, mkF, argsToLocals, Value.category]; done) | rfl
set_option maxRecDepth 65536 in
set_option maxHeartbeats 40000000 in
theorem rmGC (l : Launch) (Z : State) (a0 : Array Value) (hw : ∀ d ∈ tables_1, d.before a0 Z = true) (ws : List Jvm.Cond) (b : Addr) (i n : Nat) (g : Nat → Int32)  (h0 : Heap) (n0 : Nat) (Z0 : n0 ≤ h0.size) (hn : n ≤ 4) (hi : i < n) (O : Old Z n0 h0) (SK : StrSta Z) (FB : AF Z h0 b .byte (2 * n) (Ub g)) (hch : ∀ j, j < n → isCh (g j))  :
    MetFree l (⟨"java/lang/StringUTF16", "getChar", "([BI)C"⟩ : MethodName) (head1 (Jvm.Cond.code (⟨"java/lang/StringUTF16", "getChar", "([BI)C"⟩ : MethodName) jdk_52_method_5_code 2 (some .char) :: ws) ({ frames := 0, cells := 0, slots := 0, locals := 0 } : Room)) (fun aa_ U_ => aa_ = #[(.ref b), (.int (Int32.ofNat i))] ∧ Z.Warmed39 U_.vm ∧ U_.heap = h0) (fun _ _ _ _ _ => True) (fun _ U_ o_ V_ => ∃ v_ L_, o_ = .returned v_ ∧ QI (g i) h0 n0 v_ V_.heap L_ ∧ FrameEnd U_ o_ V_ L_ ({ frames := 0, cells := 0, slots := 0, locals := 0 } : Room).cells ({ frames := 0, cells := 0, slots := 0, locals := 0 } : Room).slots) := by
  refine MetFree.of_bodySF (plainFor_of_name pn_20) hisR ?_
  intro p e s m args below meth c s₁ Bd hml0 hP hK
  obtain ⟨rfl, hZ, hh⟩ := hP
  have hx := Bd.exec
  have hby := Bd.bytes
  have hml : c.maxLocals = 2 := hml0
  have hown : s.vm.findClass "java/lang/StringUTF16" = some m.cls := findClass_of_methodNamed Bd.named
  have hnm := (name_of_methodNamed Bd.named Bd.method).1
  have X0 : Stand p l e ({ frames := 0, cells := 0, slots := 0, locals := 0 } : Room) s m #[(.ref b), (.int (Int32.ofNat i))] below meth c s₁ [] 0 0 := Stand.of_body Bd
  have e0 : s₁.heap = h0 := by rw [← hh, Bd.state]; rfl
  have N0 := Fr.nil n0
  have pre0 : ∀ zz, Steps p.tables e below (s₁.setTop (mkF m 0 #[.val (.ref b), .val (.int (Int32.ofNat i))] [])) zz → Steps p.tables e below (s₁.setTop (entryFrame m #[(.ref b), (.int (Int32.ofNat i))] 2)) zz := fun zz k => castTop (ef_20 m b (Int32.ofNat i)) k
  obtain ⟨T8, X8, e8, st8⟩ := getS2 X0 hx hZ hown (host := "") (Or.inl (hw _ (List.mem_of_getElem? (i := 87) rfl))) Via.refl e0 (Sta.ext O.2 SK.2.1) (g := (mkF m 0 #[.val (.ref b), .val (.int (Int32.ofNat i))] [])) rfl (hb hby d20_0)
  obtain ⟨T9, X9, e9, st9⟩ := getS2 X8 hx hZ hown (host := "") (Or.inl (hw _ (List.mem_of_getElem? (i := 88) rfl))) Via.refl e8 (Sta.ext O.2 SK.2.2.1) (g := (mkF m 42 #[.val (.ref b), .val (.int (Int32.ofNat (2 * i + 1)))] [(.int ((lo8 (g i)) &&& (255 : Int32)))])) rfl (hb hby d20_42)
  obtain ⟨T10, X10, e10, st10⟩ := getS2 X9 hx hZ hown (host := "") (Or.inl (hw _ (List.mem_of_getElem? (i := 89) rfl))) Via.refl e9 (Sta.ext O.2 SK.2.2.2.1) (g := (mkF m 53 #[.val (.ref b), .val (.int (Int32.ofNat (2 * i + 1)))] [(.int ((hi8 (g i)) &&& (255 : Int32))), (.int (((lo8 (g i)) &&& (255 : Int32)) <<< ((0 : Int32) &&& 31)))])) rfl (hb hby d20_53)
  obtain ⟨fs, hr, hrun, hended, hW, hsame⟩ := X10.leave (v := some (.int (nar .char (g i)))) (fun h => by rw [Bd.returns] at h; cases h)
  refine ⟨_, _, pre0 _ ?_, hrun, hended, _, _, rfl, ?_, ⟨_, rfl⟩, hW, hsame.mono (by decide) (by decide)⟩
  · show Steps p.tables e below (s₁.setTop (mkF m 0 #[.val (.ref b), .val (.int (Int32.ofNat i))] [])) _
    refine st8 _ ?_
    refine XS.ifYes X8.here hx rfl (pc0 := 3) (pc' := 28) rfl (hb hby d20_3) rfl ((if0 _ _).trans (feq (by decide : ¬ ((1 : Int32) = (0 : Int32)))).2) (by decide) (by decide) ?_
    refine XS.iloadN X8.here hx rfl (hb hby d20_28) rfl ?_
    refine XS.iconst X8.here hx rfl (hb hby d20_29) ?_
    refine XS.ishl X8.here hx rfl (hb hby d20_30) rfl ?_
    show Steps p.tables e below (T8.setTop (mkF m 31 #[.val (.ref b), .val (.int (Int32.ofNat i))] [(.int ((Int32.ofNat i) <<< ((1 : Int32) &&& 31)))])) _
    rw [show ((Int32.ofNat i) <<< ((1 : Int32) &&& 31)) = (Int32.ofNat (2 * i)) from shl1N (by omega)]
    show Steps p.tables e below (T8.setTop (mkF m 31 #[.val (.ref b), .val (.int (Int32.ofNat i))] [(.int (Int32.ofNat (2 * i)))])) _
    refine XS.istoreN X8.here hx rfl (hb hby d20_31) rfl (l' := #[.val (.ref b), .val (.int (Int32.ofNat (2 * i)))]) rfl ?_
    refine XS.aloadN X8.here hx rfl (hb hby d20_32) rfl rfl ?_
    refine XS.iloadN X8.here hx rfl (hb hby d20_33) rfl ?_
    refine XS.iinc X8.here hx rfl (hb hby d20_34) rfl (l' := #[.val (.ref b), .val (.int ((Int32.ofNat (2 * i)) + (1 : Int32)))]) rfl ?_
    show Steps p.tables e below (T8.setTop (mkF m 37 #[.val (.ref b), .val (.int ((Int32.ofNat (2 * i)) + (1 : Int32)))] [(.int (Int32.ofNat (2 * i))), (.ref b)])) _
    rw [show ((Int32.ofNat (2 * i)) + (1 : Int32)) = (Int32.ofNat (2 * i + 1)) from succN _]
    show Steps p.tables e below (T8.setTop (mkF m 37 #[.val (.ref b), .val (.int (Int32.ofNat (2 * i + 1)))] [(.int (Int32.ofNat (2 * i))), (.ref b)])) _
    refine ldBy X8 hx hZ e8 FB (i := (2 * i)) (by omega) (by omega) (v := (.int (lo8 (g i)))) (Ub_lo g i) (g := (mkF m 37 #[.val (.ref b), .val (.int (Int32.ofNat (2 * i + 1)))] [(.int (Int32.ofNat (2 * i))), (.ref b)])) rfl rfl (hb hby d20_37) ?_
    refine XS.sipush X8.here hx rfl (hb hby d20_38) ?_
    refine XS.iand X8.here hx rfl (hb hby d20_41) rfl ?_
    show Steps p.tables e below (T8.setTop (mkF m 42 #[.val (.ref b), .val (.int (Int32.ofNat (2 * i + 1)))] [(.int ((lo8 (g i)) &&& (255 : Int32)))])) _
    refine st9 _ ?_
    refine XS.ishl X9.here hx rfl (hb hby d20_45) rfl ?_
    refine XS.aloadN X9.here hx rfl (hb hby d20_46) rfl rfl ?_
    refine XS.iloadN X9.here hx rfl (hb hby d20_47) rfl ?_
    show Steps p.tables e below (T9.setTop (mkF m 48 #[.val (.ref b), .val (.int (Int32.ofNat (2 * i + 1)))] [(.int (Int32.ofNat (2 * i + 1))), (.ref b), (.int (((lo8 (g i)) &&& (255 : Int32)) <<< ((0 : Int32) &&& 31)))])) _
    refine ldBy X9 hx hZ e9 FB (i := (2 * i + 1)) (by omega) (by omega) (v := (.int (hi8 (g i)))) (Ub_hi g i) (g := (mkF m 48 #[.val (.ref b), .val (.int (Int32.ofNat (2 * i + 1)))] [(.int (Int32.ofNat (2 * i + 1))), (.ref b), (.int (((lo8 (g i)) &&& (255 : Int32)) <<< ((0 : Int32) &&& 31)))])) rfl rfl (hb hby d20_48) ?_
    refine XS.sipush X9.here hx rfl (hb hby d20_49) ?_
    refine XS.iand X9.here hx rfl (hb hby d20_52) rfl ?_
    show Steps p.tables e below (T9.setTop (mkF m 53 #[.val (.ref b), .val (.int (Int32.ofNat (2 * i + 1)))] [(.int ((hi8 (g i)) &&& (255 : Int32))), (.int (((lo8 (g i)) &&& (255 : Int32)) <<< ((0 : Int32) &&& 31)))])) _
    refine st10 _ ?_
    refine XS.ishl X10.here hx rfl (hb hby d20_56) rfl ?_
    refine XS.ior X10.here hx rfl (hb hby d20_57) rfl ?_
    refine XS.i2c X10.here hx rfl (hb hby d20_58) rfl ?_
    show Steps p.tables e below (T10.setTop (mkF m 59 #[.val (.ref b), .val (.int (Int32.ofNat (2 * i + 1)))] [(.int (((((lo8 (g i)) &&& (255 : Int32)) <<< ((0 : Int32) &&& 31)) ||| (((hi8 (g i)) &&& (255 : Int32)) <<< ((8 : Int32) &&& 31))).toUInt32.toUInt16.toUInt32.toInt32))])) _
    rw [show (((((lo8 (g i)) &&& (255 : Int32)) <<< ((0 : Int32) &&& 31)) ||| (((hi8 (g i)) &&& (255 : Int32)) <<< ((8 : Int32) &&& 31))).toUInt32.toUInt16.toUInt32.toInt32) = (g i) from (u16_eq (hch i hi))]
    show Steps p.tables e below (T10.setTop (mkF m 59 #[.val (.ref b), .val (.int (Int32.ofNat (2 * i + 1)))] [(.int (g i))])) _
    exact retN X10 hx (t := .char) Bd.returns (by simp) (hb hby d20_59) hr
  · show QI (g i) h0 n0 _ T10.heap _
    rw [e10]
    exact ⟨by rw [nar_id (hch i hi)], N0, rfl⟩
theorem d16_0 : decode jdk_52_method_14_code 0 = .ok (.iload_n 2, 1) := by decide +kernel
theorem d16_1 : decode jdk_52_method_14_code 1 = .ok (.invokestatic 107, 3) := by decide +kernel
theorem d16_4 : decode jdk_52_method_14_code 4 = .ok (.astore_n 3, 1) := by decide +kernel
theorem d16_5 : decode jdk_52_method_14_code 5 = .ok (.iconst 0, 1) := by decide +kernel
theorem d16_6 : decode jdk_52_method_14_code 6 = .ok (.istore 4, 2) := by decide +kernel
theorem d16_8 : decode jdk_52_method_14_code 8 = .ok (.iload 4, 2) := by decide +kernel
theorem d16_10 : decode jdk_52_method_14_code 10 = .ok (.iload_n 2, 1) := by decide +kernel
theorem d16_11 : decode jdk_52_method_14_code 11 = .ok (.if_icmp .ge 21, 3) := by decide +kernel
theorem d16_14 : decode jdk_52_method_14_code 14 = .ok (.aload_n 3, 1) := by decide +kernel
theorem d16_15 : decode jdk_52_method_14_code 15 = .ok (.iload 4, 2) := by decide +kernel
theorem d16_17 : decode jdk_52_method_14_code 17 = .ok (.aload_n 0, 1) := by decide +kernel
theorem d16_18 : decode jdk_52_method_14_code 18 = .ok (.iload_n 1, 1) := by decide +kernel
theorem d16_19 : decode jdk_52_method_14_code 19 = .ok (.caload, 1) := by decide +kernel
theorem d16_20 : decode jdk_52_method_14_code 20 = .ok (.invokestatic 111, 3) := by decide +kernel
theorem d16_23 : decode jdk_52_method_14_code 23 = .ok (.iinc 1 1, 3) := by decide +kernel
theorem d16_26 : decode jdk_52_method_14_code 26 = .ok (.iinc 4 1, 3) := by decide +kernel
theorem d16_29 : decode jdk_52_method_14_code 29 = .ok (.goto (-21), 3) := by decide +kernel
theorem d16_32 : decode jdk_52_method_14_code 32 = .ok (.aload_n 3, 1) := by decide +kernel
theorem d16_33 : decode jdk_52_method_14_code 33 = .ok (.areturn, 1) := by decide +kernel
theorem pn_16 : plainName "java/lang/StringUTF16" = true := by first | (simp [plainName, overriddenIn]; done) | decide +kernel
theorem ef_16 (m : MethodId) (x0 : Addr) (x1 : Int32) (x2 : Int32) : entryFrame m #[(.ref x0), (.int x1), (.int x2)] 5 = mkF m 0 #[.val (.ref x0), .val (.int x1), .val (.int x2), .unset, .unset] [] := by first | (simp [entryFrame, mkF, argsToLocals, Value.category]; done) | rfl
set_option maxRecDepth 65536 in
set_option maxHeartbeats 40000000 in
theorem tnTB {p : Program} {l : Launch} {e : Env} {s : State} {m : MethodId} {args : Array Value} {below : List Frame} {meth : Method} {c : Code} {T0 : State} {locs : List Loc} {Z : State} {a0 : Array Value} {h0 : Heap} {n0 : Nat} (a b : Addr) (i n : Nat) (g : Nat → Int32) (f : Nat → Value) (X0 : Stand p l e ({ frames := 2, cells := 1, slots := 8, locals := 36 } : Room) s m args below meth c T0 locs 1 8) (hx : p.tables.exec = Jvm.exec) (hZ : Z.Warmed39 s.vm) (hw : ∀ d ∈ tables_1, d.before a0 Z = true) (hby : c.code = jdk_52_method_14_code) (hml : c.maxLocals = 5) (hown : s.vm.findClass "java/lang/StringUTF16" = some m.cls) (e0 : T0.heap = h0) (Z0 : n0 ≤ h0.size) (N0 : Fr n0 locs) (hn : n ≤ 4) (hi : i < n) (O : Old Z n0 h0) (SK : StrSta Z) (FA : AF Z h0 a .char n (Ca g)) (FB : AF Z h0 b .byte (2 * n) f) (hab : a ≠ b) (g_b : n0 ≤ b) :
    ∃ (T' : State) (locs' : List Loc), Stand p l e ({ frames := 2, cells := 1, slots := 8, locals := 36 } : Room) s m args below meth c T' locs' 1 8 ∧ Fr n0 locs' ∧ Keep h0 T'.heap [b] ∧ AF Z T'.heap b .byte (2 * n) (upd (upd f (2 * i) (.int (lo8 (g i)))) (2 * i + 1) (.int (hi8 (g i)))) ∧ ∀ target, Steps p.tables e below (T'.setTop (mkF m 8 #[.val (.ref a), .val (.int (Int32.ofNat (i + 1))), .val (.int (Int32.ofNat n)), .val (.ref b), .val (.int (Int32.ofNat (i + 1)))] [])) target → Steps p.tables e below (T0.setTop (mkF m 8 #[.val (.ref a), .val (.int (Int32.ofNat i)), .val (.int (Int32.ofNat n)), .val (.ref b), .val (.int (Int32.ofNat i))] [])) target := by
  obtain ⟨_, _, ⟨T11, L11, k11, n11⟩, -, X11, ⟨Lc11, hQ11, l11, y11, z11⟩, st11⟩ := Jvm.LawKit.callS X0 hx (y := (⟨"java/lang/StringUTF16", "putChar", "([BII)V"⟩ : MethodName)) hown (mvT hZ (hw _ (List.mem_of_getElem? (i := 84) rfl))) (mvT hZ (hw _ (List.mem_of_getElem? (i := 85) rfl))) (mvT hZ (hw _ (List.mem_of_getElem? (i := 22) rfl))) (mvT hZ (hw _ (List.mem_of_getElem? (i := 86) rfl))) (by decide) (backOf (W := 0) (rmPC l Z a0 hw [] b i n (g i) f h0 n0 Z0 hn hi O SK FB g_b) hZ (hw _ (List.mem_of_getElem? (i := 86) rfl)) (hw _ (List.mem_of_getElem? (i := 22) rfl)) (by decide) (by decide)) (g := (mkF m 20 #[.val (.ref a), .val (.int (Int32.ofNat i)), .val (.int (Int32.ofNat n)), .val (.ref b), .val (.int (Int32.ofNat i))] [(.int (g i)), (.int (Int32.ofNat i)), (.ref b)])) rfl (by rw [hml]; rfl) (argsL := [(.ref b), (.int (Int32.ofNat i)), (.int (g i))]) (rest := []) (lenOf pd_17 rfl) rfl (by show 2 * 0 + _ ≤ _; exact Nat.le_of_eq rfl) (hb hby d16_20) (fun _ _ => ⟨rfl, e0, (by decide : 1 + 0 ≤ _), (by decide : 8 + 0 ≤ _)⟩)
  dsimp only [Pt.U, Pt.locs, Pt.cells, Pt.slots] at X11 l11 y11 z11 st11 hQ11
  subst l11 y11 z11
  obtain ⟨rfl, N11q, K11, A11⟩ := hQ11
  have N11 := Fr.app N0 N11q
  have FA_e11 := FA.keep K11 (notin1 hab)
  have KK11 := (Keep.refl h0 [b]).trans K11 (fun x r => by cases List.mem_singleton.mp r; exact (Or.inl (List.mem_of_getElem? (i := 0) rfl)))
  have Z11 : n0 ≤ T11.heap.size := Nat.le_trans Z0 K11.1
  have O11 := O.keep K11 (all1 g_b)
  refine ⟨_, _, X11, N11, K11, A11, fun target kt => ?_⟩
  show Steps p.tables e below (T0.setTop (mkF m 8 #[.val (.ref a), .val (.int (Int32.ofNat i)), .val (.int (Int32.ofNat n)), .val (.ref b), .val (.int (Int32.ofNat i))] [])) _
  refine XS.iload X0.here hx rfl (hb hby d16_8) rfl ?_
  refine XS.iloadN X0.here hx rfl (hb hby d16_10) rfl ?_
  refine XS.icmpNo X0.here hx rfl (hb hby d16_11) rfl (tlt ((ltN (by omega) (by omega)).mpr hi)).2.1 ?_
  refine XS.aloadN X0.here hx rfl (hb hby d16_14) rfl rfl ?_
  refine XS.iload X0.here hx rfl (hb hby d16_15) rfl ?_
  refine XS.aloadN X0.here hx rfl (hb hby d16_17) rfl rfl ?_
  show Steps p.tables e below (T0.setTop (mkF m 18 #[.val (.ref a), .val (.int (Int32.ofNat i)), .val (.int (Int32.ofNat n)), .val (.ref b), .val (.int (Int32.ofNat i))] [(.ref a), (.int (Int32.ofNat i)), (.ref b)])) _
  refine XS.iloadN X0.here hx rfl (hb hby d16_18) rfl ?_
  show Steps p.tables e below (T0.setTop (mkF m 19 #[.val (.ref a), .val (.int (Int32.ofNat i)), .val (.int (Int32.ofNat n)), .val (.ref b), .val (.int (Int32.ofNat i))] [(.int (Int32.ofNat i)), (.ref a), (.int (Int32.ofNat i)), (.ref b)])) _
  refine ldCh X0 hx hZ e0 FA (i := i) hi (by omega) (v := (.int (g i))) rfl (g := (mkF m 19 #[.val (.ref a), .val (.int (Int32.ofNat i)), .val (.int (Int32.ofNat n)), .val (.ref b), .val (.int (Int32.ofNat i))] [(.int (Int32.ofNat i)), (.ref a), (.int (Int32.ofNat i)), (.ref b)])) rfl rfl (hb hby d16_19) ?_
  show Steps p.tables e below (T0.setTop (mkF m 20 #[.val (.ref a), .val (.int (Int32.ofNat i)), .val (.int (Int32.ofNat n)), .val (.ref b), .val (.int (Int32.ofNat i))] [(.int (g i)), (.int (Int32.ofNat i)), (.ref b)])) _
  refine st11 _ ?_
  refine XS.iinc X11.here hx rfl (hb hby d16_23) rfl (l' := #[.val (.ref a), .val (.int ((Int32.ofNat i) + (1 : Int32))), .val (.int (Int32.ofNat n)), .val (.ref b), .val (.int (Int32.ofNat i))]) rfl ?_
  refine XS.iinc X11.here hx rfl (hb hby d16_26) rfl (l' := #[.val (.ref a), .val (.int ((Int32.ofNat i) + (1 : Int32))), .val (.int (Int32.ofNat n)), .val (.ref b), .val (.int ((Int32.ofNat i) + (1 : Int32)))]) rfl ?_
  show Steps p.tables e below (T11.setTop (mkF m 29 #[.val (.ref a), .val (.int ((Int32.ofNat i) + (1 : Int32))), .val (.int (Int32.ofNat n)), .val (.ref b), .val (.int ((Int32.ofNat i) + (1 : Int32)))] [])) _
  rw [show ((Int32.ofNat i) + (1 : Int32)) = (Int32.ofNat (i + 1)) from succN i]
  show Steps p.tables e below (T11.setTop (mkF m 29 #[.val (.ref a), .val (.int (Int32.ofNat (i + 1))), .val (.int (Int32.ofNat n)), .val (.ref b), .val (.int (Int32.ofNat (i + 1)))] [])) _
  refine XS.goto X11.here hx rfl (pc0 := 29) (pc' := 8) rfl (hb hby d16_29) (by decide) (by decide) ?_
  exact kt
set_option maxRecDepth 65536 in
set_option maxHeartbeats 40000000 in
theorem exTB {p : Program} {l : Launch} {e : Env} {R : Room} {s : State} {m : MethodId} {args : Array Value} {below : List Frame} {meth : Method} {c : Code} {T0 : State} {locs : List Loc} {cells slots : Nat} {Z : State} {a0 : Array Value} (a b : Addr) (i n : Nat) (X0 : Stand p l e R s m args below meth c T0 locs cells slots) (hx : p.tables.exec = Jvm.exec) (hZ : Z.Warmed39 s.vm) (hw : ∀ d ∈ tables_1, d.before a0 Z = true) (hby : c.code = jdk_52_method_14_code) (hown : s.vm.findClass "java/lang/StringUTF16" = some m.cls)  (hc11 : ¬ ((Int32.ofNat i) < (Int32.ofNat n))) {target : State}
    (kt : Steps p.tables e below (T0.setTop (mkF m 32 #[.val (.ref a), .val (.int (Int32.ofNat i)), .val (.int (Int32.ofNat n)), .val (.ref b), .val (.int (Int32.ofNat i))] [])) target) : Steps p.tables e below (T0.setTop (mkF m 8 #[.val (.ref a), .val (.int (Int32.ofNat i)), .val (.int (Int32.ofNat n)), .val (.ref b), .val (.int (Int32.ofNat i))] [])) target := by
  show Steps p.tables e below (T0.setTop (mkF m 8 #[.val (.ref a), .val (.int (Int32.ofNat i)), .val (.int (Int32.ofNat n)), .val (.ref b), .val (.int (Int32.ofNat i))] [])) _
  refine XS.iload X0.here hx rfl (hb hby d16_8) rfl ?_
  refine XS.iloadN X0.here hx rfl (hb hby d16_10) rfl ?_
  refine XS.icmpYes X0.here hx rfl (pc0 := 11) (pc' := 32) rfl (hb hby d16_11) rfl (flt hc11).2.1 (by decide) (by decide) ?_
  exact kt
set_option maxRecDepth 65536 in
set_option maxHeartbeats 40000000 in
theorem lpTB {p : Program} {l : Launch} {e : Env} {s : State} {m : MethodId} {args : Array Value} {below : List Frame} {meth : Method} {c : Code} {Z : State} {a0 : Array Value} {n0 : Nat} (a b : Addr) (n : Nat) (g : Nat → Int32) (hx : p.tables.exec = Jvm.exec) (hZ : Z.Warmed39 s.vm) (hw : ∀ d ∈ tables_1, d.before a0 Z = true) (hby : c.code = jdk_52_method_14_code) (hml : c.maxLocals = 5) (hown : s.vm.findClass "java/lang/StringUTF16" = some m.cls) (hn : n ≤ 4) (SK : StrSta Z) (hab : a ≠ b) (g_b : n0 ≤ b) :
    ∀ (k i : Nat) (f : Nat → Value) (T0 : State) (locs : List Loc), i + k = n → Stand p l e ({ frames := 2, cells := 1, slots := 8, locals := 36 } : Room) s m args below meth c T0 locs 1 8 → n0 ≤ T0.heap.size → Fr n0 locs → Old Z n0 T0.heap → AF Z T0.heap a .char n (Ca g) → AF Z T0.heap b .byte (2 * n) f → (∀ j, j < 2 * i → f j = Ub g j) →
    ∃ (T' : State) (locs' : List Loc), Stand p l e ({ frames := 2, cells := 1, slots := 8, locals := 36 } : Room) s m args below meth c T' locs' 1 8 ∧ Fr n0 locs' ∧ Keep T0.heap T'.heap [b] ∧ AF Z T'.heap b .byte (2 * n) (Ub g) ∧ ∀ target, Steps p.tables e below (T'.setTop (mkF m 32 #[.val (.ref a), .val (.int (Int32.ofNat n)), .val (.int (Int32.ofNat n)), .val (.ref b), .val (.int (Int32.ofNat n))] [])) target → Steps p.tables e below (T0.setTop (mkF m 8 #[.val (.ref a), .val (.int (Int32.ofNat i)), .val (.int (Int32.ofNat n)), .val (.ref b), .val (.int (Int32.ofNat i))] [])) target := by
  intro k
  induction k with
  | zero =>
    intro i f T0 locs hk X0 Z0 N0 O FA FB hf
    obtain rfl : i = n := by omega
    refine ⟨T0, locs, X0, N0, Keep.refl _ _, FB.congr fun j hj => hf j hj, fun target kt => ?_⟩
    exact exTB a b i i X0 hx hZ hw hby hown (fun q => absurd ((ltN (by omega) (by omega)).mp q) (Nat.lt_irrefl _)) kt
  | succ k ih =>
    intro i f T0 locs hk X0 Z0 N0 O FA FB hf
    obtain ⟨T1, locs1, X1, N1, K1, A1, st1⟩ := tnTB a b i n g f X0 hx hZ hw hby hml hown rfl Z0 N0 hn (by omega) O SK FA FB hab g_b
    obtain ⟨T2, locs2, X2, N2, K2, A2, st2⟩ := ih (i + 1) _ T1 locs1 (by omega) X1 (Nat.le_trans Z0 K1.1) N1 (O.keep K1 (all1 g_b)) (FA.keep K1 (notin1 hab)) A1 (fun j hj => by
      unfold upd
      by_cases q1 : j = 2 * i + 1
      · rw [if_pos q1, q1]; exact (Ub_hi g i).symm
      · rw [if_neg q1]
        by_cases q2 : j = 2 * i
        · rw [if_pos q2, q2]; exact (Ub_lo g i).symm
        · rw [if_neg q2]; exact hf j (by omega))
    exact ⟨T2, locs2, X2, N2, K1.trans K2 (fun x r => Or.inl r), A2, fun target kt => st1 target (st2 target kt)⟩
set_option maxRecDepth 65536 in
set_option maxHeartbeats 40000000 in
theorem rmTB (l : Launch) (Z : State) (a0 : Array Value) (hw : ∀ d ∈ tables_1, d.before a0 Z = true) (ws : List Jvm.Cond) (a : Addr) (n : Nat) (g : Nat → Int32)  (h0 : Heap) (n0 : Nat) (Z0 : n0 ≤ h0.size) (hn : n ≤ 4) (O : Old Z n0 h0) (SK : StrSta Z) (FA : AF Z h0 a .char n (Ca g))  :
    MetFree l (⟨"java/lang/StringUTF16", "toBytes", "([CII)[B"⟩ : MethodName) (head1 (Jvm.Cond.code (⟨"java/lang/StringUTF16", "toBytes", "([CII)[B"⟩ : MethodName) jdk_52_method_14_code 5 (some (.array .byte)) :: ws) ({ frames := 2, cells := 1, slots := 8, locals := 36 } : Room)) (fun aa_ U_ => aa_ = #[(.ref a), (.int (0 : Int32)), (.int (Int32.ofNat n))] ∧ Z.Warmed39 U_.vm ∧ U_.heap = h0) (fun _ _ _ _ _ => True) (fun _ U_ o_ V_ => ∃ v_ L_, o_ = .returned v_ ∧ QA Z .byte (2 * n) (Ub g) h0 n0 v_ V_.heap L_ ∧ FrameEnd U_ o_ V_ L_ ({ frames := 2, cells := 1, slots := 8, locals := 36 } : Room).cells ({ frames := 2, cells := 1, slots := 8, locals := 36 } : Room).slots) := by
  refine MetFree.of_bodySF (plainFor_of_name pn_16) hisR ?_
  intro p e s m args below meth c s₁ Bd hml0 hP hK
  obtain ⟨rfl, hZ, hh⟩ := hP
  have hx := Bd.exec
  have hby := Bd.bytes
  have hml : c.maxLocals = 5 := hml0
  have hown : s.vm.findClass "java/lang/StringUTF16" = some m.cls := findClass_of_methodNamed Bd.named
  have hnm := (name_of_methodNamed Bd.named Bd.method).1
  have X0 : Stand p l e ({ frames := 2, cells := 1, slots := 8, locals := 36 } : Room) s m #[(.ref a), (.int (0 : Int32)), (.int (Int32.ofNat n))] below meth c s₁ [] 0 0 := Stand.of_body Bd
  have e0 : s₁.heap = h0 := by rw [← hh, Bd.state]; rfl
  have N0 := Fr.nil n0
  have pre0 : ∀ zz, Steps p.tables e below (s₁.setTop (mkF m 0 #[.val (.ref a), .val (.int (0 : Int32)), .val (.int (Int32.ofNat n)), .unset, .unset] [])) zz → Steps p.tables e below (s₁.setTop (entryFrame m #[(.ref a), (.int (0 : Int32)), (.int (Int32.ofNat n))] 5)) zz := fun zz k => castTop (ef_16 m a (0 : Int32) (Int32.ofNat n)) k
  obtain ⟨_, _, ⟨T12, L12, k12, n12⟩, -, X12, ⟨Lc12, hQ12, l12, y12, z12⟩, st12⟩ := Jvm.LawKit.callS X0 hx (y := (⟨"java/lang/StringUTF16", "newBytesFor", "(I)[B"⟩ : MethodName)) hown (mvT hZ (hw _ (List.mem_of_getElem? (i := 77) rfl))) (mvT hZ (hw _ (List.mem_of_getElem? (i := 78) rfl))) (mvT hZ (hw _ (List.mem_of_getElem? (i := 22) rfl))) (mvT hZ (hw _ (List.mem_of_getElem? (i := 79) rfl))) (by decide) (backOf (W := 0) (rmNBF l Z a0 hw [] n h0 n0 Z0 hn) hZ (hw _ (List.mem_of_getElem? (i := 79) rfl)) (hw _ (List.mem_of_getElem? (i := 22) rfl)) (by decide) (by decide)) (g := (mkF m 1 #[.val (.ref a), .val (.int (0 : Int32)), .val (.int (Int32.ofNat n)), .unset, .unset] [(.int (Int32.ofNat n))])) rfl (by rw [hml]; rfl) (argsL := [(.int (Int32.ofNat n))]) (rest := []) (lenOf pd_15 rfl) rfl (by show 2 * 0 + _ ≤ _; exact Nat.le_of_eq rfl) (hb hby d16_1) (fun _ _ => ⟨rfl, e0, (by decide : 0 + 1 ≤ _), (by decide : 0 + 8 ≤ _)⟩)
  dsimp only [Pt.U, Pt.locs, Pt.cells, Pt.slots] at X12 l12 y12 z12 st12 hQ12
  subst l12 y12 z12
  obtain ⟨b12, rfl, N12q, K12, zq12, A12⟩ := hQ12
  have N12 := Fr.app N0 N12q
  have ne_a_b12 : a ≠ b12 := Nat.ne_of_lt (Nat.lt_of_lt_of_le FA.lt zq12)
  have g_b12 : n0 ≤ b12 := Nat.le_trans Z0 zq12
  have sz_b12 : h0.size ≤ b12 := Nat.le_trans (Keep.refl h0 []).1 zq12
  have FA_e12 := FA.keep K12 List.not_mem_nil
  have KK12 := (Keep.refl h0 []).trans K12 (fun x r => absurd r List.not_mem_nil)
  have Z12 : n0 ≤ T12.heap.size := Nat.le_trans Z0 K12.1
  have O12 := O.keep K12 all0'
  obtain ⟨T13, L13, X13, N13, Kl13, A13, st13⟩ := lpTB a b12 n g hx hZ hw hby hml hown hn SK ne_a_b12 g_b12 n 0 _ _ _ (by omega) X12 Z12 N12 O12 FA_e12 A12 (fun j hj => absurd hj (by omega))
  have KK13 := KK12.trans Kl13 (fun x r => by cases List.mem_singleton.mp r; exact Or.inr sz_b12)
  obtain ⟨fs, hr, hrun, hended, hW, hsame⟩ := X13.leave (v := some (.ref b12)) (fun h => by rw [Bd.returns] at h; cases h)
  refine ⟨_, _, pre0 _ ?_, hrun, hended, _, _, rfl, ?_, ⟨_, rfl⟩, hW, hsame.mono (by decide) (by decide)⟩
  · show Steps p.tables e below (s₁.setTop (mkF m 0 #[.val (.ref a), .val (.int (0 : Int32)), .val (.int (Int32.ofNat n)), .unset, .unset] [])) _
    refine XS.iloadN X0.here hx rfl (hb hby d16_0) rfl ?_
    show Steps p.tables e below (s₁.setTop (mkF m 1 #[.val (.ref a), .val (.int (0 : Int32)), .val (.int (Int32.ofNat n)), .unset, .unset] [(.int (Int32.ofNat n))])) _
    refine st12 _ ?_
    refine XS.astoreN X12.here hx rfl (hb hby d16_4) rfl rfl (l' := #[.val (.ref a), .val (.int (0 : Int32)), .val (.int (Int32.ofNat n)), .val (.ref b12), .unset]) rfl ?_
    refine XS.iconst X12.here hx rfl (hb hby d16_5) ?_
    refine XS.istore X12.here hx rfl (hb hby d16_6) rfl (l' := #[.val (.ref a), .val (.int (0 : Int32)), .val (.int (Int32.ofNat n)), .val (.ref b12), .val (.int (0 : Int32))]) rfl ?_
    show Steps p.tables e below (T12.setTop (mkF m 8 #[.val (.ref a), .val (.int (Int32.ofNat 0)), .val (.int (Int32.ofNat n)), .val (.ref b12), .val (.int (Int32.ofNat 0))] [])) _
    refine st13 _ ?_
    refine XS.aloadN X13.here hx rfl (hb hby d16_32) rfl rfl ?_
    show Steps p.tables e below (T13.setTop (mkF m 33 #[.val (.ref a), .val (.int (Int32.ofNat n)), .val (.int (Int32.ofNat n)), .val (.ref b12), .val (.int (Int32.ofNat n))] [(.ref b12)])) _
    jvm_step X13.here [X13.here.top, hx, (hb hby d16_33), X13.method', Bd.returns, Value.isRef, FieldType.isReference]
    first | (intro acts; rw [hr _ acts rfl rfl rfl]) | rw [hr _ _ rfl rfl rfl]
    exact Steps.refl _
  · show QA Z .byte (2 * n) (Ub g) h0 n0 _ T13.heap _
    exact ⟨b12, rfl, N13, KK13, sz_b12, A13⟩
theorem d6_0 : decode jdk_52_method_21_code 0 = .ok (.iconst 0, 1) := by decide +kernel
theorem d6_1 : decode jdk_52_method_21_code 1 = .ok (.istore 5, 2) := by decide +kernel
theorem d6_3 : decode jdk_52_method_21_code 3 = .ok (.iload 5, 2) := by decide +kernel
theorem d6_5 : decode jdk_52_method_21_code 5 = .ok (.iload 4, 2) := by decide +kernel
theorem d6_7 : decode jdk_52_method_21_code 7 = .ok (.if_icmp .ge 37, 3) := by decide +kernel
theorem d6_10 : decode jdk_52_method_21_code 10 = .ok (.aload_n 0, 1) := by decide +kernel
theorem d6_11 : decode jdk_52_method_21_code 11 = .ok (.iload_n 1, 1) := by decide +kernel
theorem d6_12 : decode jdk_52_method_21_code 12 = .ok (.caload, 1) := by decide +kernel
theorem d6_13 : decode jdk_52_method_21_code 13 = .ok (.istore 6, 2) := by decide +kernel
theorem d6_15 : decode jdk_52_method_21_code 15 = .ok (.iload 6, 2) := by decide +kernel
theorem d6_17 : decode jdk_52_method_21_code 17 = .ok (.sipush 255, 3) := by decide +kernel
theorem d6_20 : decode jdk_52_method_21_code 20 = .ok (.if_icmp .le 6, 3) := by decide +kernel
theorem d6_23 : decode jdk_52_method_21_code 23 = .ok (.iload 5, 2) := by decide +kernel
theorem d6_25 : decode jdk_52_method_21_code 25 = .ok (.ireturn, 1) := by decide +kernel
theorem d6_26 : decode jdk_52_method_21_code 26 = .ok (.aload_n 2, 1) := by decide +kernel
theorem d6_27 : decode jdk_52_method_21_code 27 = .ok (.iload_n 3, 1) := by decide +kernel
theorem d6_28 : decode jdk_52_method_21_code 28 = .ok (.iload 6, 2) := by decide +kernel
theorem d6_30 : decode jdk_52_method_21_code 30 = .ok (.i2b, 1) := by decide +kernel
theorem d6_31 : decode jdk_52_method_21_code 31 = .ok (.bastore, 1) := by decide +kernel
theorem d6_32 : decode jdk_52_method_21_code 32 = .ok (.iinc 1 1, 3) := by decide +kernel
theorem d6_35 : decode jdk_52_method_21_code 35 = .ok (.iinc 3 1, 3) := by decide +kernel
theorem d6_38 : decode jdk_52_method_21_code 38 = .ok (.iinc 5 1, 3) := by decide +kernel
theorem d6_41 : decode jdk_52_method_21_code 41 = .ok (.goto (-38), 3) := by decide +kernel
theorem d6_44 : decode jdk_52_method_21_code 44 = .ok (.iload 4, 2) := by decide +kernel
theorem d6_46 : decode jdk_52_method_21_code 46 = .ok (.ireturn, 1) := by decide +kernel
theorem pn_6 : plainName "java/lang/StringUTF16" = true := by first | (simp [plainName, overriddenIn]; done) | decide +kernel
theorem ef_6 (m : MethodId) (x0 : Addr) (x1 : Int32) (x2 : Addr) (x3 : Int32) (x4 : Int32) : entryFrame m #[(.ref x0), (.int x1), (.ref x2), (.int x3), (.int x4)] 7 = mkF m 0 #[.val (.ref x0), .val (.int x1), .val (.ref x2), .val (.int x3), .val (.int x4), .unset, .unset] [] := by first | (simp [entryFrame, mkF, argsToLocals, Value.category]; done) | rfl
set_option maxRecDepth 65536 in
set_option maxHeartbeats 40000000 in
theorem tnC5 {p : Program} {l : Launch} {e : Env} {R : Room} {s : State} {m : MethodId} {args : Array Value} {below : List Frame} {meth : Method} {c : Code} {T0 : State} {locs : List Loc} {cells slots : Nat} {Z : State} {a0 : Array Value} {h0 : Heap} {n0 : Nat} (a b : Addr) (i n : Nat) (g : Nat → Int32) (f : Nat → Value) (q : Slot) (hq : q = .unset ∨ ∃ x : Int32, q = .val (.int x)) (X0 : Stand p l e R s m args below meth c T0 locs cells slots) (hx : p.tables.exec = Jvm.exec) (hZ : Z.Warmed39 s.vm) (hw : ∀ d ∈ tables_1, d.before a0 Z = true) (hby : c.code = jdk_52_method_21_code) (hown : s.vm.findClass "java/lang/StringUTF16" = some m.cls) (e0 : T0.heap = h0) (Z0 : n0 ≤ h0.size) (N0 : Fr n0 locs) (hn : n ≤ 4) (hi : i < n) (FA : AF Z h0 a .char n (Ca g)) (FB : AF Z h0 b .byte n f) (hab : a ≠ b) (g_b : n0 ≤ b) (hsm : ¬ ((255 : Int32) < g i)) :
    ∃ (T' : State) (locs' : List Loc), Stand p l e R s m args below meth c T' locs' cells slots ∧ Fr n0 locs' ∧ Keep h0 T'.heap [b] ∧ AF Z T'.heap b .byte n (upd f i (.int (b8 (g i)))) ∧ ∀ target, Steps p.tables e below (T'.setTop (mkF m 3 #[.val (.ref a), .val (.int (Int32.ofNat (i + 1))), .val (.ref b), .val (.int (Int32.ofNat (i + 1))), .val (.int (Int32.ofNat n)), .val (.int (Int32.ofNat (i + 1))), .val (.int (g i))] [])) target → Steps p.tables e below (T0.setTop (mkF m 3 #[.val (.ref a), .val (.int (Int32.ofNat i)), .val (.ref b), .val (.int (Int32.ofNat i)), .val (.int (Int32.ofNat n)), .val (.int (Int32.ofNat i)), q] [])) target := by
  obtain ⟨T14, h14, X14, e14, W14, st14⟩ := stBy X0 hx hZ e0 FB (i := i) hi (by omega) (x := ((g i).toInt8.toInt32)) (g := (mkF m 31 #[.val (.ref a), .val (.int (Int32.ofNat i)), .val (.ref b), .val (.int (Int32.ofNat i)), .val (.int (Int32.ofNat n)), .val (.int (Int32.ofNat i)), .val (.int (g i))] [(.int ((g i).toInt8.toInt32)), (.int (Int32.ofNat i)), (.ref b)])) rfl rfl (hb hby d6_31)
  have A14 := FB.wr W14
  have FA_e14 := FA.other W14 hab
  have N14 := Fr.snoc X14 N0 g_b
  have K14 := (Keep.refl h0 [b]).wr W14 (Or.inl (List.mem_of_getElem? (i := 0) rfl))
  have Z14 : n0 ≤ h14.size := Nat.le_trans Z0 (Keep.of_wr W14).1
  refine ⟨_, _, X14, N14, by rw [e14]; exact K14, by rw [e14]; exact A14, fun target kt => ?_⟩
  show Steps p.tables e below (T0.setTop (mkF m 3 #[.val (.ref a), .val (.int (Int32.ofNat i)), .val (.ref b), .val (.int (Int32.ofNat i)), .val (.int (Int32.ofNat n)), .val (.int (Int32.ofNat i)), q] [])) _
  refine XS.iload X0.here hx rfl (hb hby d6_3) rfl ?_
  refine XS.iload X0.here hx rfl (hb hby d6_5) rfl ?_
  refine XS.icmpNo X0.here hx rfl (hb hby d6_7) rfl (tlt ((ltN (by omega) (by omega)).mpr hi)).2.1 ?_
  refine XS.aloadN X0.here hx rfl (hb hby d6_10) rfl rfl ?_
  refine XS.iloadN X0.here hx rfl (hb hby d6_11) rfl ?_
  show Steps p.tables e below (T0.setTop (mkF m 12 #[.val (.ref a), .val (.int (Int32.ofNat i)), .val (.ref b), .val (.int (Int32.ofNat i)), .val (.int (Int32.ofNat n)), .val (.int (Int32.ofNat i)), q] [(.int (Int32.ofNat i)), (.ref a)])) _
  refine ldCh X0 hx hZ e0 FA (i := i) hi (by omega) (v := (.int (g i))) rfl (g := (mkF m 12 #[.val (.ref a), .val (.int (Int32.ofNat i)), .val (.ref b), .val (.int (Int32.ofNat i)), .val (.int (Int32.ofNat n)), .val (.int (Int32.ofNat i)), q] [(.int (Int32.ofNat i)), (.ref a)])) rfl rfl (hb hby d6_12) ?_
  refine XS.istore X0.here hx rfl (hb hby d6_13) rfl (l' := #[.val (.ref a), .val (.int (Int32.ofNat i)), .val (.ref b), .val (.int (Int32.ofNat i)), .val (.int (Int32.ofNat n)), .val (.int (Int32.ofNat i)), .val (.int (g i))]) (by rcases hq with rfl | ⟨_, rfl⟩ <;> rfl) ?_
  refine XS.iload X0.here hx rfl (hb hby d6_15) rfl ?_
  refine XS.sipush X0.here hx rfl (hb hby d6_17) ?_
  refine XS.icmpYes X0.here hx rfl (pc0 := 20) (pc' := 26) rfl (hb hby d6_20) rfl (flt hsm).2.2.2 (by decide) (by decide) ?_
  refine XS.aloadN X0.here hx rfl (hb hby d6_26) rfl rfl ?_
  show Steps p.tables e below (T0.setTop (mkF m 27 #[.val (.ref a), .val (.int (Int32.ofNat i)), .val (.ref b), .val (.int (Int32.ofNat i)), .val (.int (Int32.ofNat n)), .val (.int (Int32.ofNat i)), .val (.int (g i))] [(.ref b)])) _
  refine XS.iloadN X0.here hx rfl (hb hby d6_27) rfl ?_
  refine XS.iload X0.here hx rfl (hb hby d6_28) rfl ?_
  refine XS.i2b X0.here hx rfl (hb hby d6_30) rfl ?_
  show Steps p.tables e below (T0.setTop (mkF m 31 #[.val (.ref a), .val (.int (Int32.ofNat i)), .val (.ref b), .val (.int (Int32.ofNat i)), .val (.int (Int32.ofNat n)), .val (.int (Int32.ofNat i)), .val (.int (g i))] [(.int ((g i).toInt8.toInt32)), (.int (Int32.ofNat i)), (.ref b)])) _
  refine st14 _ ?_
  refine XS.iinc X14.here hx rfl (hb hby d6_32) rfl (l' := #[.val (.ref a), .val (.int ((Int32.ofNat i) + (1 : Int32))), .val (.ref b), .val (.int (Int32.ofNat i)), .val (.int (Int32.ofNat n)), .val (.int (Int32.ofNat i)), .val (.int (g i))]) rfl ?_
  refine XS.iinc X14.here hx rfl (hb hby d6_35) rfl (l' := #[.val (.ref a), .val (.int ((Int32.ofNat i) + (1 : Int32))), .val (.ref b), .val (.int ((Int32.ofNat i) + (1 : Int32))), .val (.int (Int32.ofNat n)), .val (.int (Int32.ofNat i)), .val (.int (g i))]) rfl ?_
  refine XS.iinc X14.here hx rfl (hb hby d6_38) rfl (l' := #[.val (.ref a), .val (.int ((Int32.ofNat i) + (1 : Int32))), .val (.ref b), .val (.int ((Int32.ofNat i) + (1 : Int32))), .val (.int (Int32.ofNat n)), .val (.int ((Int32.ofNat i) + (1 : Int32))), .val (.int (g i))]) rfl ?_
  show Steps p.tables e below (T14.setTop (mkF m 41 #[.val (.ref a), .val (.int ((Int32.ofNat i) + (1 : Int32))), .val (.ref b), .val (.int ((Int32.ofNat i) + (1 : Int32))), .val (.int (Int32.ofNat n)), .val (.int ((Int32.ofNat i) + (1 : Int32))), .val (.int (g i))] [])) _
  rw [show ((Int32.ofNat i) + (1 : Int32)) = (Int32.ofNat (i + 1)) from succN i]
  show Steps p.tables e below (T14.setTop (mkF m 41 #[.val (.ref a), .val (.int (Int32.ofNat (i + 1))), .val (.ref b), .val (.int (Int32.ofNat (i + 1))), .val (.int (Int32.ofNat n)), .val (.int (Int32.ofNat (i + 1))), .val (.int (g i))] [])) _
  refine XS.goto X14.here hx rfl (pc0 := 41) (pc' := 3) rfl (hb hby d6_41) (by decide) (by decide) ?_
  exact kt
set_option maxRecDepth 65536 in
set_option maxHeartbeats 40000000 in
theorem exC5 {p : Program} {l : Launch} {e : Env} {R : Room} {s : State} {m : MethodId} {args : Array Value} {below : List Frame} {meth : Method} {c : Code} {T0 : State} {locs : List Loc} {cells slots : Nat} {Z : State} {a0 : Array Value} (a b : Addr) (i n : Nat) (q : Slot) (X0 : Stand p l e R s m args below meth c T0 locs cells slots) (hx : p.tables.exec = Jvm.exec) (hZ : Z.Warmed39 s.vm) (hw : ∀ d ∈ tables_1, d.before a0 Z = true) (hby : c.code = jdk_52_method_21_code) (hown : s.vm.findClass "java/lang/StringUTF16" = some m.cls)  (hc7 : ¬ ((Int32.ofNat i) < (Int32.ofNat n))) {target : State}
    (kt : Steps p.tables e below (T0.setTop (mkF m 44 #[.val (.ref a), .val (.int (Int32.ofNat i)), .val (.ref b), .val (.int (Int32.ofNat i)), .val (.int (Int32.ofNat n)), .val (.int (Int32.ofNat i)), q] [])) target) : Steps p.tables e below (T0.setTop (mkF m 3 #[.val (.ref a), .val (.int (Int32.ofNat i)), .val (.ref b), .val (.int (Int32.ofNat i)), .val (.int (Int32.ofNat n)), .val (.int (Int32.ofNat i)), q] [])) target := by
  show Steps p.tables e below (T0.setTop (mkF m 3 #[.val (.ref a), .val (.int (Int32.ofNat i)), .val (.ref b), .val (.int (Int32.ofNat i)), .val (.int (Int32.ofNat n)), .val (.int (Int32.ofNat i)), q] [])) _
  refine XS.iload X0.here hx rfl (hb hby d6_3) rfl ?_
  refine XS.iload X0.here hx rfl (hb hby d6_5) rfl ?_
  refine XS.icmpYes X0.here hx rfl (pc0 := 7) (pc' := 44) rfl (hb hby d6_7) rfl (flt hc7).2.1 (by decide) (by decide) ?_
  exact kt
set_option maxRecDepth 65536 in
set_option maxHeartbeats 40000000 in
theorem bgC5 {p : Program} {l : Launch} {e : Env} {R : Room} {s : State} {m : MethodId} {args : Array Value} {below : List Frame} {meth : Method} {c : Code} {T0 : State} {locs : List Loc} {cells slots : Nat} {Z : State} {a0 : Array Value} {h0 : Heap} {n0 : Nat} (a b : Addr) (i n : Nat) (g : Nat → Int32) (q : Slot) (hq : q = .unset ∨ ∃ x : Int32, q = .val (.int x)) (X0 : Stand p l e R s m args below meth c T0 locs cells slots) (hx : p.tables.exec = Jvm.exec) (hZ : Z.Warmed39 s.vm) (hw : ∀ d ∈ tables_1, d.before a0 Z = true) (hby : c.code = jdk_52_method_21_code) (hown : s.vm.findClass "java/lang/StringUTF16" = some m.cls) (e0 : T0.heap = h0) (Z0 : n0 ≤ h0.size) (N0 : Fr n0 locs) (hn : n ≤ 4) (hi : i < n) (FA : AF Z h0 a .char n (Ca g)) (hbg : (255 : Int32) < g i) {target : State} (kt : Steps p.tables e below (T0.setTop (mkF m 23 #[.val (.ref a), .val (.int (Int32.ofNat i)), .val (.ref b), .val (.int (Int32.ofNat i)), .val (.int (Int32.ofNat n)), .val (.int (Int32.ofNat i)), .val (.int (g i))] [])) target) : Steps p.tables e below (T0.setTop (mkF m 3 #[.val (.ref a), .val (.int (Int32.ofNat i)), .val (.ref b), .val (.int (Int32.ofNat i)), .val (.int (Int32.ofNat n)), .val (.int (Int32.ofNat i)), q] [])) target := by
  show Steps p.tables e below (T0.setTop (mkF m 3 #[.val (.ref a), .val (.int (Int32.ofNat i)), .val (.ref b), .val (.int (Int32.ofNat i)), .val (.int (Int32.ofNat n)), .val (.int (Int32.ofNat i)), q] [])) _
  refine XS.iload X0.here hx rfl (hb hby d6_3) rfl ?_
  refine XS.iload X0.here hx rfl (hb hby d6_5) rfl ?_
  refine XS.icmpNo X0.here hx rfl (hb hby d6_7) rfl (tlt ((ltN (by omega) (by omega)).mpr hi)).2.1 ?_
  refine XS.aloadN X0.here hx rfl (hb hby d6_10) rfl rfl ?_
  refine XS.iloadN X0.here hx rfl (hb hby d6_11) rfl ?_
  show Steps p.tables e below (T0.setTop (mkF m 12 #[.val (.ref a), .val (.int (Int32.ofNat i)), .val (.ref b), .val (.int (Int32.ofNat i)), .val (.int (Int32.ofNat n)), .val (.int (Int32.ofNat i)), q] [(.int (Int32.ofNat i)), (.ref a)])) _
  refine ldCh X0 hx hZ e0 FA (i := i) hi (by omega) (v := (.int (g i))) rfl (g := (mkF m 12 #[.val (.ref a), .val (.int (Int32.ofNat i)), .val (.ref b), .val (.int (Int32.ofNat i)), .val (.int (Int32.ofNat n)), .val (.int (Int32.ofNat i)), q] [(.int (Int32.ofNat i)), (.ref a)])) rfl rfl (hb hby d6_12) ?_
  refine XS.istore X0.here hx rfl (hb hby d6_13) rfl (l' := #[.val (.ref a), .val (.int (Int32.ofNat i)), .val (.ref b), .val (.int (Int32.ofNat i)), .val (.int (Int32.ofNat n)), .val (.int (Int32.ofNat i)), .val (.int (g i))]) (by rcases hq with rfl | ⟨_, rfl⟩ <;> rfl) ?_
  refine XS.iload X0.here hx rfl (hb hby d6_15) rfl ?_
  refine XS.sipush X0.here hx rfl (hb hby d6_17) ?_
  refine XS.icmpNo X0.here hx rfl (hb hby d6_20) rfl (tlt hbg).2.2.2 ?_
  exact kt
set_option maxRecDepth 65536 in
set_option maxHeartbeats 40000000 in
theorem lpC5 {p : Program} {l : Launch} {e : Env} {R : Room} {s : State} {m : MethodId} {args : Array Value} {below : List Frame} {meth : Method} {c : Code} {cells slots : Nat} {Z : State} {a0 : Array Value} {n0 : Nat} (a b : Addr) (n N : Nat) (g : Nat → Int32) (hx : p.tables.exec = Jvm.exec) (hZ : Z.Warmed39 s.vm) (hw : ∀ d ∈ tables_1, d.before a0 Z = true) (hby : c.code = jdk_52_method_21_code) (hown : s.vm.findClass "java/lang/StringUTF16" = some m.cls) (hn : n ≤ 4) (hab : a ≠ b) (g_b : n0 ≤ b) (hN : N ≤ n) (hsm : ∀ j, j < N → ¬ ((255 : Int32) < g j)) :
    ∀ (k i : Nat) (f : Nat → Value) (q : Slot) (T0 : State) (locs : List Loc), (q = .unset ∨ ∃ x : Int32, q = .val (.int x)) → i + k = N → Stand p l e R s m args below meth c T0 locs cells slots → n0 ≤ T0.heap.size → Fr n0 locs → AF Z T0.heap a .char n (Ca g) → AF Z T0.heap b .byte n f → (∀ j, j < i → f j = Lb g j) →
    ∃ (T' : State) (locs' : List Loc) (f' : Nat → Value) (q' : Slot), (q' = .unset ∨ ∃ x : Int32, q' = .val (.int x)) ∧ Stand p l e R s m args below meth c T' locs' cells slots ∧ Fr n0 locs' ∧ Keep T0.heap T'.heap [b] ∧ AF Z T'.heap b .byte n f' ∧ (∀ j, j < N → f' j = Lb g j) ∧ ∀ target, Steps p.tables e below (T'.setTop (mkF m 3 #[.val (.ref a), .val (.int (Int32.ofNat N)), .val (.ref b), .val (.int (Int32.ofNat N)), .val (.int (Int32.ofNat n)), .val (.int (Int32.ofNat N)), q'] [])) target → Steps p.tables e below (T0.setTop (mkF m 3 #[.val (.ref a), .val (.int (Int32.ofNat i)), .val (.ref b), .val (.int (Int32.ofNat i)), .val (.int (Int32.ofNat n)), .val (.int (Int32.ofNat i)), q] [])) target := by
  intro k
  induction k with
  | zero =>
    intro i f q T0 locs hq hk X0 Z0 N0 FA FB hf
    obtain rfl : i = N := by omega
    exact ⟨T0, locs, f, q, hq, X0, N0, Keep.refl _ _, FB, hf, fun target kt => kt⟩
  | succ k ih =>
    intro i f q T0 locs hq hk X0 Z0 N0 FA FB hf
    obtain ⟨T1, locs1, X1, N1, K1, A1, st1⟩ := tnC5 a b i n g f q hq X0 hx hZ hw hby hown rfl Z0 N0 hn (by omega) FA FB hab g_b (hsm i (by omega))
    obtain ⟨T2, locs2, f2, q2, hq2, X2, N2, K2, A2, hf2, st2⟩ := ih (i + 1) _ _ T1 locs1 (Or.inr ⟨_, rfl⟩) (by omega) X1 (Nat.le_trans Z0 K1.1) N1 (FA.keep K1 (notin1 hab)) A1 (fun j hj => by
      unfold upd
      by_cases q1 : j = i
      · rw [if_pos q1, q1]; rfl
      · rw [if_neg q1]; exact hf j (by omega))
    exact ⟨T2, locs2, f2, q2, hq2, X2, N2, K1.trans K2 (fun x r => Or.inl r), A2, hf2, fun target kt => st1 target (st2 target kt)⟩
set_option maxRecDepth 65536 in
set_option maxHeartbeats 40000000 in
theorem rmC5A (l : Launch) (Z : State) (a0 : Array Value) (hw : ∀ d ∈ tables_1, d.before a0 Z = true) (ws : List Jvm.Cond) (a b : Addr) (n : Nat) (g : Nat → Int32) (f : Nat → Value)  (h0 : Heap) (n0 : Nat) (Z0 : n0 ≤ h0.size) (hn : n ≤ 4) (FA : AF Z h0 a .char n (Ca g)) (FB : AF Z h0 b .byte n f) (hab : a ≠ b) (g_b : n0 ≤ b) (hsm : ∀ j, j < n → ¬ ((255 : Int32) < g j))  :
    MetFree l (⟨"java/lang/StringUTF16", "compress", "([CI[BII)I"⟩ : MethodName) (head1 (Jvm.Cond.code (⟨"java/lang/StringUTF16", "compress", "([CI[BII)I"⟩ : MethodName) jdk_52_method_21_code 7 (some .int) :: ws) ({ frames := 0, cells := 0, slots := 0, locals := 0 } : Room)) (fun aa_ U_ => aa_ = #[(.ref a), (.int (0 : Int32)), (.ref b), (.int (0 : Int32)), (.int (Int32.ofNat n))] ∧ Z.Warmed39 U_.vm ∧ U_.heap = h0) (fun _ _ _ _ _ => True) (fun _ U_ o_ V_ => ∃ v_ L_, o_ = .returned v_ ∧ QR Z (Int32.ofNat n) b .byte n (fun f' => ∀ j, j < n → f' j = Lb g j) h0 n0 v_ V_.heap L_ ∧ FrameEnd U_ o_ V_ L_ ({ frames := 0, cells := 0, slots := 0, locals := 0 } : Room).cells ({ frames := 0, cells := 0, slots := 0, locals := 0 } : Room).slots) := by
  refine MetFree.of_bodySF (plainFor_of_name pn_6) hisR ?_
  intro p e s m args below meth c s₁ Bd hml0 hP hK
  obtain ⟨rfl, hZ, hh⟩ := hP
  have hx := Bd.exec
  have hby := Bd.bytes
  have hml : c.maxLocals = 7 := hml0
  have hown : s.vm.findClass "java/lang/StringUTF16" = some m.cls := findClass_of_methodNamed Bd.named
  have hnm := (name_of_methodNamed Bd.named Bd.method).1
  have X0 : Stand p l e ({ frames := 0, cells := 0, slots := 0, locals := 0 } : Room) s m #[(.ref a), (.int (0 : Int32)), (.ref b), (.int (0 : Int32)), (.int (Int32.ofNat n))] below meth c s₁ [] 0 0 := Stand.of_body Bd
  have e0 : s₁.heap = h0 := by rw [← hh, Bd.state]; rfl
  have N0 := Fr.nil n0
  have pre0 : ∀ zz, Steps p.tables e below (s₁.setTop (mkF m 0 #[.val (.ref a), .val (.int (0 : Int32)), .val (.ref b), .val (.int (0 : Int32)), .val (.int (Int32.ofNat n)), .unset, .unset] [])) zz → Steps p.tables e below (s₁.setTop (entryFrame m #[(.ref a), (.int (0 : Int32)), (.ref b), (.int (0 : Int32)), (.int (Int32.ofNat n))] 7)) zz := fun zz k => castTop (ef_6 m a (0 : Int32) b (0 : Int32) (Int32.ofNat n)) k
  have Z0' : n0 ≤ s₁.heap.size := by rw [e0]; exact Z0
  obtain ⟨T15, L15, f15, q15, hq15, X15, N15, Kl15, A15, hf15, st15⟩ := lpC5 a b n n g hx hZ hw hby hown hn hab g_b (by omega) hsm n 0 f .unset _ _ (Or.inl rfl) (by omega) X0 Z0' N0 (by rw [e0]; exact FA) (by rw [e0]; exact FB) (fun j hj => absurd hj (by omega))
  obtain ⟨fs, hr, hrun, hended, hW, hsame⟩ := X15.leave (v := some (.int (Int32.ofNat n))) (fun h => by rw [Bd.returns] at h; cases h)
  refine ⟨_, _, pre0 _ ?_, hrun, hended, _, _, rfl, ?_, ⟨_, rfl⟩, hW, hsame.mono (by decide) (by decide)⟩
  · show Steps p.tables e below (s₁.setTop (mkF m 0 #[.val (.ref a), .val (.int (0 : Int32)), .val (.ref b), .val (.int (0 : Int32)), .val (.int (Int32.ofNat n)), .unset, .unset] [])) _
    refine XS.iconst X0.here hx rfl (hb hby d6_0) ?_
    refine XS.istore X0.here hx rfl (hb hby d6_1) rfl (l' := #[.val (.ref a), .val (.int (0 : Int32)), .val (.ref b), .val (.int (0 : Int32)), .val (.int (Int32.ofNat n)), .val (.int (0 : Int32)), .unset]) rfl ?_
    show Steps p.tables e below (s₁.setTop (mkF m 3 #[.val (.ref a), .val (.int (Int32.ofNat 0)), .val (.ref b), .val (.int (Int32.ofNat 0)), .val (.int (Int32.ofNat n)), .val (.int (Int32.ofNat 0)), .unset] [])) _
    refine st15 _ ?_
    refine exC5 a b n n q15 X15 hx hZ hw hby hown (fun q => absurd ((ltN (by omega) (by omega)).mp q) (Nat.lt_irrefl _)) ?_
    refine XS.iload X15.here hx rfl (hb hby d6_44) rfl ?_
    show Steps p.tables e below (T15.setTop (mkF m 46 #[.val (.ref a), .val (.int (Int32.ofNat n)), .val (.ref b), .val (.int (Int32.ofNat n)), .val (.int (Int32.ofNat n)), .val (.int (Int32.ofNat n)), q15] [(.int (Int32.ofNat n))])) _
    exact retI X15 hx Bd.returns (hb hby d6_46) hr
  · show QR Z (Int32.ofNat n) b .byte n (fun f' => ∀ j, j < n → f' j = Lb g j) h0 n0 _ T15.heap _
    exact ⟨rfl, N15, by have q := Kl15; rw [e0] at q; exact q, f15, A15, hf15⟩
set_option maxRecDepth 65536 in
set_option maxHeartbeats 40000000 in
theorem rmC5B (l : Launch) (Z : State) (a0 : Array Value) (hw : ∀ d ∈ tables_1, d.before a0 Z = true) (ws : List Jvm.Cond) (a b : Addr) (n : Nat) (g : Nat → Int32) (f : Nat → Value) (k : Nat)  (h0 : Heap) (n0 : Nat) (Z0 : n0 ≤ h0.size) (hn : n ≤ 4) (hk : k < n) (hbg : (255 : Int32) < g k) (FA : AF Z h0 a .char n (Ca g)) (FB : AF Z h0 b .byte n f) (hab : a ≠ b) (g_b : n0 ≤ b) (hsm : ∀ j, j < k → ¬ ((255 : Int32) < g j))  :
    MetFree l (⟨"java/lang/StringUTF16", "compress", "([CI[BII)I"⟩ : MethodName) (head1 (Jvm.Cond.code (⟨"java/lang/StringUTF16", "compress", "([CI[BII)I"⟩ : MethodName) jdk_52_method_21_code 7 (some .int) :: ws) ({ frames := 0, cells := 0, slots := 0, locals := 0 } : Room)) (fun aa_ U_ => aa_ = #[(.ref a), (.int (0 : Int32)), (.ref b), (.int (0 : Int32)), (.int (Int32.ofNat n))] ∧ Z.Warmed39 U_.vm ∧ U_.heap = h0) (fun _ _ _ _ _ => True) (fun _ U_ o_ V_ => ∃ v_ L_, o_ = .returned v_ ∧ QR Z (Int32.ofNat k) b .byte n (fun f' => ∀ j, j < k → f' j = Lb g j) h0 n0 v_ V_.heap L_ ∧ FrameEnd U_ o_ V_ L_ ({ frames := 0, cells := 0, slots := 0, locals := 0 } : Room).cells ({ frames := 0, cells := 0, slots := 0, locals := 0 } : Room).slots) := by
  refine MetFree.of_bodySF (plainFor_of_name pn_6) hisR ?_
  intro p e s m args below meth c s₁ Bd hml0 hP hK
  obtain ⟨rfl, hZ, hh⟩ := hP
  have hx := Bd.exec
  have hby := Bd.bytes
  have hml : c.maxLocals = 7 := hml0
  have hown : s.vm.findClass "java/lang/StringUTF16" = some m.cls := findClass_of_methodNamed Bd.named
  have hnm := (name_of_methodNamed Bd.named Bd.method).1
  have X0 : Stand p l e ({ frames := 0, cells := 0, slots := 0, locals := 0 } : Room) s m #[(.ref a), (.int (0 : Int32)), (.ref b), (.int (0 : Int32)), (.int (Int32.ofNat n))] below meth c s₁ [] 0 0 := Stand.of_body Bd
  have e0 : s₁.heap = h0 := by rw [← hh, Bd.state]; rfl
  have N0 := Fr.nil n0
  have pre0 : ∀ zz, Steps p.tables e below (s₁.setTop (mkF m 0 #[.val (.ref a), .val (.int (0 : Int32)), .val (.ref b), .val (.int (0 : Int32)), .val (.int (Int32.ofNat n)), .unset, .unset] [])) zz → Steps p.tables e below (s₁.setTop (entryFrame m #[(.ref a), (.int (0 : Int32)), (.ref b), (.int (0 : Int32)), (.int (Int32.ofNat n))] 7)) zz := fun zz k => castTop (ef_6 m a (0 : Int32) b (0 : Int32) (Int32.ofNat n)) k
  have Z0' : n0 ≤ s₁.heap.size := by rw [e0]; exact Z0
  obtain ⟨T16, L16, f16, q16, hq16, X16, N16, Kl16, A16, hf16, st16⟩ := lpC5 a b n k g hx hZ hw hby hown hn hab g_b (by omega) hsm k 0 f .unset _ _ (Or.inl rfl) (by omega) X0 Z0' N0 (by rw [e0]; exact FA) (by rw [e0]; exact FB) (fun j hj => absurd hj (by omega))
  obtain ⟨fs, hr, hrun, hended, hW, hsame⟩ := X16.leave (v := some (.int (Int32.ofNat k))) (fun h => by rw [Bd.returns] at h; cases h)
  refine ⟨_, _, pre0 _ ?_, hrun, hended, _, _, rfl, ?_, ⟨_, rfl⟩, hW, hsame.mono (by decide) (by decide)⟩
  · show Steps p.tables e below (s₁.setTop (mkF m 0 #[.val (.ref a), .val (.int (0 : Int32)), .val (.ref b), .val (.int (0 : Int32)), .val (.int (Int32.ofNat n)), .unset, .unset] [])) _
    refine XS.iconst X0.here hx rfl (hb hby d6_0) ?_
    refine XS.istore X0.here hx rfl (hb hby d6_1) rfl (l' := #[.val (.ref a), .val (.int (0 : Int32)), .val (.ref b), .val (.int (0 : Int32)), .val (.int (Int32.ofNat n)), .val (.int (0 : Int32)), .unset]) rfl ?_
    show Steps p.tables e below (s₁.setTop (mkF m 3 #[.val (.ref a), .val (.int (Int32.ofNat 0)), .val (.ref b), .val (.int (Int32.ofNat 0)), .val (.int (Int32.ofNat n)), .val (.int (Int32.ofNat 0)), .unset] [])) _
    refine st16 _ ?_
    refine bgC5 (h0 := T16.heap) (n0 := n0) a b k n g q16 hq16 X16 hx hZ hw hby hown rfl (Nat.le_trans Z0' Kl16.1) N16 hn hk (AF.keep (by rw [e0]; exact FA) Kl16 (notin1 hab)) hbg ?_
    refine XS.iload X16.here hx rfl (hb hby d6_23) rfl ?_
    show Steps p.tables e below (T16.setTop (mkF m 25 #[.val (.ref a), .val (.int (Int32.ofNat k)), .val (.ref b), .val (.int (Int32.ofNat k)), .val (.int (Int32.ofNat n)), .val (.int (Int32.ofNat k)), .val (.int (g k))] [(.int (Int32.ofNat k))])) _
    exact retI X16 hx Bd.returns (hb hby d6_25) hr
  · show QR Z (Int32.ofNat k) b .byte n (fun f' => ∀ j, j < k → f' j = Lb g j) h0 n0 _ T16.heap _
    exact ⟨rfl, N16, by have q := Kl16; rw [e0] at q; exact q, f16, A16, hf16⟩
theorem d5_0 : decode jdk_52_method_16_code 0 = .ok (.iload_n 2, 1) := by decide +kernel
theorem d5_1 : decode jdk_52_method_16_code 1 = .ok (.newarray .byte, 2) := by decide +kernel
theorem d5_3 : decode jdk_52_method_16_code 3 = .ok (.astore_n 3, 1) := by decide +kernel
theorem d5_4 : decode jdk_52_method_16_code 4 = .ok (.aload_n 0, 1) := by decide +kernel
theorem d5_5 : decode jdk_52_method_16_code 5 = .ok (.iload_n 1, 1) := by decide +kernel
theorem d5_6 : decode jdk_52_method_16_code 6 = .ok (.aload_n 3, 1) := by decide +kernel
theorem d5_7 : decode jdk_52_method_16_code 7 = .ok (.iconst 0, 1) := by decide +kernel
theorem d5_8 : decode jdk_52_method_16_code 8 = .ok (.iload_n 2, 1) := by decide +kernel
theorem d5_9 : decode jdk_52_method_16_code 9 = .ok (.invokestatic 115, 3) := by decide +kernel
theorem d5_12 : decode jdk_52_method_16_code 12 = .ok (.istore 4, 2) := by decide +kernel
theorem d5_14 : decode jdk_52_method_16_code 14 = .ok (.iload 4, 2) := by decide +kernel
theorem d5_16 : decode jdk_52_method_16_code 16 = .ok (.iload_n 2, 1) := by decide +kernel
theorem d5_17 : decode jdk_52_method_16_code 17 = .ok (.if_icmp .eq 40, 3) := by decide +kernel
theorem d5_20 : decode jdk_52_method_16_code 20 = .ok (.aload_n 0, 1) := by decide +kernel
theorem d5_21 : decode jdk_52_method_16_code 21 = .ok (.iload_n 1, 1) := by decide +kernel
theorem d5_22 : decode jdk_52_method_16_code 22 = .ok (.iload_n 2, 1) := by decide +kernel
theorem d5_23 : decode jdk_52_method_16_code 23 = .ok (.invokestatic 119, 3) := by decide +kernel
theorem d5_26 : decode jdk_52_method_16_code 26 = .ok (.astore 5, 2) := by decide +kernel
theorem d5_28 : decode jdk_52_method_16_code 28 = .ok (.aload 5, 2) := by decide +kernel
theorem d5_30 : decode jdk_52_method_16_code 30 = .ok (.iload 4, 2) := by decide +kernel
theorem d5_32 : decode jdk_52_method_16_code 32 = .ok (.invokestatic 71, 3) := by decide +kernel
theorem d5_35 : decode jdk_52_method_16_code 35 = .ok (.sipush 255, 3) := by decide +kernel
theorem d5_38 : decode jdk_52_method_16_code 38 = .ok (.if_icmp .gt 16, 3) := by decide +kernel
theorem d5_41 : decode jdk_52_method_16_code 41 = .ok (.aload 5, 2) := by decide +kernel
theorem d5_43 : decode jdk_52_method_16_code 43 = .ok (.iconst 0, 1) := by decide +kernel
theorem d5_44 : decode jdk_52_method_16_code 44 = .ok (.aload_n 3, 1) := by decide +kernel
theorem d5_45 : decode jdk_52_method_16_code 45 = .ok (.iconst 0, 1) := by decide +kernel
theorem d5_46 : decode jdk_52_method_16_code 46 = .ok (.iload_n 2, 1) := by decide +kernel
theorem d5_47 : decode jdk_52_method_16_code 47 = .ok (.invokestatic 123, 3) := by decide +kernel
theorem d5_50 : decode jdk_52_method_16_code 50 = .ok (.iload_n 2, 1) := by decide +kernel
theorem d5_51 : decode jdk_52_method_16_code 51 = .ok (.if_icmp .eq 6, 3) := by decide +kernel
theorem d5_54 : decode jdk_52_method_16_code 54 = .ok (.aload 5, 2) := by decide +kernel
theorem d5_56 : decode jdk_52_method_16_code 56 = .ok (.areturn, 1) := by decide +kernel
theorem d5_57 : decode jdk_52_method_16_code 57 = .ok (.aload_n 3, 1) := by decide +kernel
theorem d5_58 : decode jdk_52_method_16_code 58 = .ok (.areturn, 1) := by decide +kernel
theorem pn_5 : plainName "java/lang/StringUTF16" = true := by first | (simp [plainName, overriddenIn]; done) | decide +kernel
theorem ef_5 (m : MethodId) (x0 : Addr) (x1 : Int32) (x2 : Int32) : entryFrame m #[(.ref x0), (.int x1), (.int x2)] 6 = mkF m 0 #[.val (.ref x0), .val (.int x1), .val (.int x2), .unset, .unset, .unset] [] := by first | (simp [entryFrame, mkF, argsToLocals, Value.category]; done) | rfl
set_option maxRecDepth 65536 in
set_option maxHeartbeats 40000000 in
theorem rmC3A (l : Launch) (Z : State) (a0 : Array Value) (hw : ∀ d ∈ tables_1, d.before a0 Z = true) (ws : List Jvm.Cond) (a : Addr) (n : Nat) (g : Nat → Int32)  (h0 : Heap) (n0 : Nat) (Z0 : n0 ≤ h0.size) (hn : n ≤ 4) (O : Old Z n0 h0) (SK : StrSta Z) (FA : AF Z h0 a .char n (Ca g)) (hsm : ∀ j, j < n → ¬ ((255 : Int32) < g j))  :
    MetFree l (⟨"java/lang/StringUTF16", "compress", "([CII)[B"⟩ : MethodName) (head1 (Jvm.Cond.code (⟨"java/lang/StringUTF16", "compress", "([CII)[B"⟩ : MethodName) jdk_52_method_16_code 6 (some (.array .byte)) :: ws) ({ frames := 3, cells := 2, slots := 12, locals := 60 } : Room)) (fun aa_ U_ => aa_ = #[(.ref a), (.int (0 : Int32)), (.int (Int32.ofNat n))] ∧ Z.Warmed39 U_.vm ∧ U_.heap = h0) (fun _ _ _ _ _ => True) (fun _ U_ o_ V_ => ∃ v_ L_, o_ = .returned v_ ∧ QA Z .byte n (Lb g) h0 n0 v_ V_.heap L_ ∧ FrameEnd U_ o_ V_ L_ ({ frames := 3, cells := 2, slots := 12, locals := 60 } : Room).cells ({ frames := 3, cells := 2, slots := 12, locals := 60 } : Room).slots) := by
  refine MetFree.of_bodySF (plainFor_of_name pn_5) hisR ?_
  intro p e s m args below meth c s₁ Bd hml0 hP hK
  obtain ⟨rfl, hZ, hh⟩ := hP
  have hx := Bd.exec
  have hby := Bd.bytes
  have hml : c.maxLocals = 6 := hml0
  have hown : s.vm.findClass "java/lang/StringUTF16" = some m.cls := findClass_of_methodNamed Bd.named
  have hnm := (name_of_methodNamed Bd.named Bd.method).1
  have X0 : Stand p l e ({ frames := 3, cells := 2, slots := 12, locals := 60 } : Room) s m #[(.ref a), (.int (0 : Int32)), (.int (Int32.ofNat n))] below meth c s₁ [] 0 0 := Stand.of_body Bd
  have e0 : s₁.heap = h0 := by rw [← hh, Bd.state]; rfl
  have N0 := Fr.nil n0
  have pre0 : ∀ zz, Steps p.tables e below (s₁.setTop (mkF m 0 #[.val (.ref a), .val (.int (0 : Int32)), .val (.int (Int32.ofNat n)), .unset, .unset, .unset] [])) zz → Steps p.tables e below (s₁.setTop (entryFrame m #[(.ref a), (.int (0 : Int32)), (.int (Int32.ofNat n))] 6)) zz := fun zz k => castTop (ef_5 m a (0 : Int32) (Int32.ofNat n)) k
  obtain ⟨T17, h17, X17, e17, E17, A17, st17⟩ := nwA X0 hx hZ (hw _ (List.mem_of_getElem? (i := 24) rfl)) e0 (g := (mkF m 1 #[.val (.ref a), .val (.int (0 : Int32)), .val (.int (Int32.ofNat n)), .unset, .unset, .unset] [(.int (Int32.ofNat n))])) rfl (hb hby d5_1) (n := n) rfl (cap := 4) (by omega) (by decide) (by decide) (by decide)
  obtain ⟨b17, q17⟩ : ∃ z, z = h0.size := ⟨_, rfl⟩
  rw [← q17] at A17 st17
  have V17 : AF Z h17 b17 .byte n (fun _ => (.int (0 : Int32))) := A17
  have g_b17 : n0 ≤ b17 := Nat.le_trans Z0 (Nat.le_of_eq q17.symm)
  have sz_b17 : h0.size ≤ b17 := Nat.le_trans (Keep.refl h0 []).1 (Nat.le_of_eq q17.symm)
  have K17 := (Keep.refl h0 []).ext E17
  have Z17 : n0 ≤ h17.size := Nat.le_trans Z0 E17.1
  have ne_a_b17 : a ≠ b17 := Nat.ne_of_lt (Nat.lt_of_lt_of_le FA.lt (Nat.le_of_eq q17.symm))
  have FA_e17 := FA.ext E17
  have O17 := O.ext E17
  obtain ⟨_, _, ⟨T18, L18, k18, n18⟩, -, X18, ⟨Lc18, hQ18, l18, y18, z18⟩, st18⟩ := Jvm.LawKit.callS X17 hx (y := (⟨"java/lang/StringUTF16", "compress", "([CI[BII)I"⟩ : MethodName)) hown (mvT hZ (hw _ (List.mem_of_getElem? (i := 25) rfl))) (mvT hZ (hw _ (List.mem_of_getElem? (i := 26) rfl))) (mvT hZ (hw _ (List.mem_of_getElem? (i := 22) rfl))) (mvT hZ (hw _ (List.mem_of_getElem? (i := 27) rfl))) (by decide) (backOf (W := 0) (rmC5A l Z a0 hw [] a b17 n g (fun _ => (.int (0 : Int32))) h17 n0 Z17 hn  FA_e17 V17 ne_a_b17 g_b17 hsm) hZ (hw _ (List.mem_of_getElem? (i := 27) rfl)) (hw _ (List.mem_of_getElem? (i := 22) rfl)) (by decide) (by decide)) (g := (mkF m 9 #[.val (.ref a), .val (.int (0 : Int32)), .val (.int (Int32.ofNat n)), .val (.ref b17), .unset, .unset] [(.int (Int32.ofNat n)), (.int (0 : Int32)), (.ref b17), (.int (0 : Int32)), (.ref a)])) rfl (by rw [hml]; rfl) (argsL := [(.ref a), (.int (0 : Int32)), (.ref b17), (.int (0 : Int32)), (.int (Int32.ofNat n))]) (rest := []) (lenOf pd_5 rfl) rfl (by show 2 * 0 + _ ≤ _; exact Nat.le_of_eq rfl) (hb hby d5_9) (fun _ _ => ⟨rfl, e17, (by decide : 1 + 0 ≤ _), (by decide : 4 + 0 ≤ _)⟩)
  dsimp only [Pt.U, Pt.locs, Pt.cells, Pt.slots] at X18 l18 y18 z18 st18 hQ18
  subst l18 y18 z18
  obtain ⟨rfl, N18q, K18, f18, A18, hf18⟩ := hQ18
  have N18 := Fr.app N0 N18q
  have FA_e18 := FA_e17.keep K18 (notin1 ne_a_b17)
  have KK18 := K17.trans K18 (fun x r => by cases List.mem_singleton.mp r; exact (Or.inr sz_b17))
  have Z18 : n0 ≤ T18.heap.size := Nat.le_trans Z17 K18.1
  have O18 := O17.keep K18 (all1 g_b17)
  obtain ⟨fs, hr, hrun, hended, hW, hsame⟩ := X18.leave (v := some (.ref b17)) (fun h => by rw [Bd.returns] at h; cases h)
  refine ⟨_, _, pre0 _ ?_, hrun, hended, _, _, rfl, ?_, ⟨_, rfl⟩, hW, hsame.mono (by decide) (by decide)⟩
  · show Steps p.tables e below (s₁.setTop (mkF m 0 #[.val (.ref a), .val (.int (0 : Int32)), .val (.int (Int32.ofNat n)), .unset, .unset, .unset] [])) _
    refine XS.iloadN X0.here hx rfl (hb hby d5_0) rfl ?_
    show Steps p.tables e below (s₁.setTop (mkF m 1 #[.val (.ref a), .val (.int (0 : Int32)), .val (.int (Int32.ofNat n)), .unset, .unset, .unset] [(.int (Int32.ofNat n))])) _
    refine st17 _ ?_
    refine XS.astoreN X17.here hx rfl (hb hby d5_3) rfl rfl (l' := #[.val (.ref a), .val (.int (0 : Int32)), .val (.int (Int32.ofNat n)), .val (.ref b17), .unset, .unset]) rfl ?_
    refine XS.aloadN X17.here hx rfl (hb hby d5_4) rfl rfl ?_
    refine XS.iloadN X17.here hx rfl (hb hby d5_5) rfl ?_
    refine XS.aloadN X17.here hx rfl (hb hby d5_6) rfl rfl ?_
    refine XS.iconst X17.here hx rfl (hb hby d5_7) ?_
    show Steps p.tables e below (T17.setTop (mkF m 8 #[.val (.ref a), .val (.int (0 : Int32)), .val (.int (Int32.ofNat n)), .val (.ref b17), .unset, .unset] [(.int (0 : Int32)), (.ref b17), (.int (0 : Int32)), (.ref a)])) _
    refine XS.iloadN X17.here hx rfl (hb hby d5_8) rfl ?_
    show Steps p.tables e below (T17.setTop (mkF m 9 #[.val (.ref a), .val (.int (0 : Int32)), .val (.int (Int32.ofNat n)), .val (.ref b17), .unset, .unset] [(.int (Int32.ofNat n)), (.int (0 : Int32)), (.ref b17), (.int (0 : Int32)), (.ref a)])) _
    refine st18 _ ?_
    refine XS.istore X18.here hx rfl (hb hby d5_12) rfl (l' := #[.val (.ref a), .val (.int (0 : Int32)), .val (.int (Int32.ofNat n)), .val (.ref b17), .val (.int (Int32.ofNat n)), .unset]) rfl ?_
    refine XS.iload X18.here hx rfl (hb hby d5_14) rfl ?_
    refine XS.iloadN X18.here hx rfl (hb hby d5_16) rfl ?_
    refine XS.icmpYes X18.here hx rfl (pc0 := 17) (pc' := 57) rfl (hb hby d5_17) rfl (teq (rfl : (Int32.ofNat n) = (Int32.ofNat n))).1 (by decide) (by decide) ?_
    refine XS.aloadN X18.here hx rfl (hb hby d5_57) rfl rfl ?_
    show Steps p.tables e below (T18.setTop (mkF m 58 #[.val (.ref a), .val (.int (0 : Int32)), .val (.int (Int32.ofNat n)), .val (.ref b17), .val (.int (Int32.ofNat n)), .unset] [(.ref b17)])) _
    jvm_step X18.here [X18.here.top, hx, (hb hby d5_58), X18.method', Bd.returns, Value.isRef, FieldType.isReference]
    first | (intro acts; rw [hr _ acts rfl rfl rfl]) | rw [hr _ _ rfl rfl rfl]
    exact Steps.refl _
  · show QA Z .byte n (Lb g) h0 n0 _ T18.heap _
    exact ⟨b17, rfl, N18, KK18, sz_b17, A18.congr hf18⟩
set_option maxRecDepth 65536 in
set_option maxHeartbeats 40000000 in
theorem rmC3B (l : Launch) (Z : State) (a0 : Array Value) (hw : ∀ d ∈ tables_1, d.before a0 Z = true) (ws : List Jvm.Cond) (a : Addr) (n : Nat) (g : Nat → Int32) (k : Nat)  (h0 : Heap) (n0 : Nat) (Z0 : n0 ≤ h0.size) (hn : n ≤ 4) (O : Old Z n0 h0) (SK : StrSta Z) (FA : AF Z h0 a .char n (Ca g)) (hch : ∀ j, j < n → isCh (g j)) (hk : k < n) (hbg : (255 : Int32) < g k) (hsm : ∀ j, j < k → ¬ ((255 : Int32) < g j))  :
    MetFree l (⟨"java/lang/StringUTF16", "compress", "([CII)[B"⟩ : MethodName) (head1 (Jvm.Cond.code (⟨"java/lang/StringUTF16", "compress", "([CII)[B"⟩ : MethodName) jdk_52_method_16_code 6 (some (.array .byte)) :: ws) ({ frames := 3, cells := 2, slots := 12, locals := 60 } : Room)) (fun aa_ U_ => aa_ = #[(.ref a), (.int (0 : Int32)), (.int (Int32.ofNat n))] ∧ Z.Warmed39 U_.vm ∧ U_.heap = h0) (fun _ _ _ _ _ => True) (fun _ U_ o_ V_ => ∃ v_ L_, o_ = .returned v_ ∧ QA Z .byte (2 * n) (Ub g) h0 n0 v_ V_.heap L_ ∧ FrameEnd U_ o_ V_ L_ ({ frames := 3, cells := 2, slots := 12, locals := 60 } : Room).cells ({ frames := 3, cells := 2, slots := 12, locals := 60 } : Room).slots) := by
  refine MetFree.of_bodySF (plainFor_of_name pn_5) hisR ?_
  intro p e s m args below meth c s₁ Bd hml0 hP hK
  obtain ⟨rfl, hZ, hh⟩ := hP
  have hx := Bd.exec
  have hby := Bd.bytes
  have hml : c.maxLocals = 6 := hml0
  have hown : s.vm.findClass "java/lang/StringUTF16" = some m.cls := findClass_of_methodNamed Bd.named
  have hnm := (name_of_methodNamed Bd.named Bd.method).1
  have X0 : Stand p l e ({ frames := 3, cells := 2, slots := 12, locals := 60 } : Room) s m #[(.ref a), (.int (0 : Int32)), (.int (Int32.ofNat n))] below meth c s₁ [] 0 0 := Stand.of_body Bd
  have e0 : s₁.heap = h0 := by rw [← hh, Bd.state]; rfl
  have N0 := Fr.nil n0
  have pre0 : ∀ zz, Steps p.tables e below (s₁.setTop (mkF m 0 #[.val (.ref a), .val (.int (0 : Int32)), .val (.int (Int32.ofNat n)), .unset, .unset, .unset] [])) zz → Steps p.tables e below (s₁.setTop (entryFrame m #[(.ref a), (.int (0 : Int32)), (.int (Int32.ofNat n))] 6)) zz := fun zz k => castTop (ef_5 m a (0 : Int32) (Int32.ofNat n)) k
  obtain ⟨T19, h19, X19, e19, E19, A19, st19⟩ := nwA X0 hx hZ (hw _ (List.mem_of_getElem? (i := 24) rfl)) e0 (g := (mkF m 1 #[.val (.ref a), .val (.int (0 : Int32)), .val (.int (Int32.ofNat n)), .unset, .unset, .unset] [(.int (Int32.ofNat n))])) rfl (hb hby d5_1) (n := n) rfl (cap := 4) (by omega) (by decide) (by decide) (by decide)
  obtain ⟨b19, q19⟩ : ∃ z, z = h0.size := ⟨_, rfl⟩
  rw [← q19] at A19 st19
  have V19 : AF Z h19 b19 .byte n (fun _ => (.int (0 : Int32))) := A19
  have g_b19 : n0 ≤ b19 := Nat.le_trans Z0 (Nat.le_of_eq q19.symm)
  have sz_b19 : h0.size ≤ b19 := Nat.le_trans (Keep.refl h0 []).1 (Nat.le_of_eq q19.symm)
  have K19 := (Keep.refl h0 []).ext E19
  have Z19 : n0 ≤ h19.size := Nat.le_trans Z0 E19.1
  have ne_a_b19 : a ≠ b19 := Nat.ne_of_lt (Nat.lt_of_lt_of_le FA.lt (Nat.le_of_eq q19.symm))
  have FA_e19 := FA.ext E19
  have O19 := O.ext E19
  obtain ⟨_, _, ⟨T20, L20, k20, n20⟩, -, X20, ⟨Lc20, hQ20, l20, y20, z20⟩, st20⟩ := Jvm.LawKit.callS X19 hx (y := (⟨"java/lang/StringUTF16", "compress", "([CI[BII)I"⟩ : MethodName)) hown (mvT hZ (hw _ (List.mem_of_getElem? (i := 25) rfl))) (mvT hZ (hw _ (List.mem_of_getElem? (i := 26) rfl))) (mvT hZ (hw _ (List.mem_of_getElem? (i := 22) rfl))) (mvT hZ (hw _ (List.mem_of_getElem? (i := 27) rfl))) (by decide) (backOf (W := 0) (rmC5B l Z a0 hw [] a b19 n g (fun _ => (.int (0 : Int32))) k h19 n0 Z19 hn hk hbg FA_e19 V19 ne_a_b19 g_b19 hsm) hZ (hw _ (List.mem_of_getElem? (i := 27) rfl)) (hw _ (List.mem_of_getElem? (i := 22) rfl)) (by decide) (by decide)) (g := (mkF m 9 #[.val (.ref a), .val (.int (0 : Int32)), .val (.int (Int32.ofNat n)), .val (.ref b19), .unset, .unset] [(.int (Int32.ofNat n)), (.int (0 : Int32)), (.ref b19), (.int (0 : Int32)), (.ref a)])) rfl (by rw [hml]; rfl) (argsL := [(.ref a), (.int (0 : Int32)), (.ref b19), (.int (0 : Int32)), (.int (Int32.ofNat n))]) (rest := []) (lenOf pd_5 rfl) rfl (by show 2 * 0 + _ ≤ _; exact Nat.le_of_eq rfl) (hb hby d5_9) (fun _ _ => ⟨rfl, e19, (by decide : 1 + 0 ≤ _), (by decide : 4 + 0 ≤ _)⟩)
  dsimp only [Pt.U, Pt.locs, Pt.cells, Pt.slots] at X20 l20 y20 z20 st20 hQ20
  subst l20 y20 z20
  obtain ⟨rfl, N20q, K20, f20, A20, hf20⟩ := hQ20
  have N20 := Fr.app N0 N20q
  have FA_e20 := FA_e19.keep K20 (notin1 ne_a_b19)
  have KK20 := K19.trans K20 (fun x r => by cases List.mem_singleton.mp r; exact (Or.inr sz_b19))
  have Z20 : n0 ≤ T20.heap.size := Nat.le_trans Z19 K20.1
  have O20 := O19.keep K20 (all1 g_b19)
  obtain ⟨_, _, ⟨T21, L21, k21, n21⟩, -, X21, ⟨Lc21, hQ21, l21, y21, z21⟩, st21⟩ := Jvm.LawKit.callS X20 hx (y := (⟨"java/lang/StringUTF16", "toBytes", "([CII)[B"⟩ : MethodName)) hown (mvT hZ (hw _ (List.mem_of_getElem? (i := 74) rfl))) (mvT hZ (hw _ (List.mem_of_getElem? (i := 75) rfl))) (mvT hZ (hw _ (List.mem_of_getElem? (i := 22) rfl))) (mvT hZ (hw _ (List.mem_of_getElem? (i := 76) rfl))) (by decide) (backOf (W := 0) (rmTB l Z a0 hw [] a n g T20.heap n0 Z20 hn O20 SK FA_e20) hZ (hw _ (List.mem_of_getElem? (i := 76) rfl)) (hw _ (List.mem_of_getElem? (i := 22) rfl)) (by decide) (by decide)) (g := (mkF m 23 #[.val (.ref a), .val (.int (0 : Int32)), .val (.int (Int32.ofNat n)), .val (.ref b19), .val (.int (Int32.ofNat k)), .unset] [(.int (Int32.ofNat n)), (.int (0 : Int32)), (.ref a)])) rfl (by rw [hml]; rfl) (argsL := [(.ref a), (.int (0 : Int32)), (.int (Int32.ofNat n))]) (rest := []) (lenOf pd_4 rfl) rfl (by show 2 * 0 + _ ≤ _; exact Nat.le_of_eq rfl) (hb hby d5_23) (fun _ _ => ⟨rfl, rfl, (by decide : 1 + 1 ≤ _), (by decide : 4 + 8 ≤ _)⟩)
  dsimp only [Pt.U, Pt.locs, Pt.cells, Pt.slots] at X21 l21 y21 z21 st21 hQ21
  subst l21 y21 z21
  obtain ⟨b21, rfl, N21q, K21, zq21, A21⟩ := hQ21
  have N21 := Fr.app N20 N21q
  have ne_a_b21 : a ≠ b21 := Nat.ne_of_lt (Nat.lt_of_lt_of_le FA_e20.lt zq21)
  have ne_b19_b21 : b19 ≠ b21 := Nat.ne_of_lt (Nat.lt_of_lt_of_le A20.lt zq21)
  have g_b21 : n0 ≤ b21 := Nat.le_trans Z20 zq21
  have sz_b21 : h0.size ≤ b21 := Nat.le_trans KK20.1 zq21
  have FA_e21 := FA_e20.keep K21 List.not_mem_nil
  have A20_e21 := A20.keep K21 List.not_mem_nil
  have KK21 := KK20.trans K21 (fun x r => absurd r List.not_mem_nil)
  have Z21 : n0 ≤ T21.heap.size := Nat.le_trans Z20 K21.1
  have O21 := O20.keep K21 all0'
  obtain ⟨_, _, ⟨T22, L22, k22, n22⟩, -, X22, ⟨Lc22, hQ22, l22, y22, z22⟩, st22⟩ := Jvm.LawKit.callS X21 hx (y := (⟨"java/lang/StringUTF16", "getChar", "([BI)C"⟩ : MethodName)) hown (mvT hZ (hw _ (List.mem_of_getElem? (i := 90) rfl))) (mvT hZ (hw _ (List.mem_of_getElem? (i := 91) rfl))) (mvT hZ (hw _ (List.mem_of_getElem? (i := 22) rfl))) (mvT hZ (hw _ (List.mem_of_getElem? (i := 92) rfl))) (by decide) (backOf (W := 0) (rmGC l Z a0 hw [] b21 k n g T21.heap n0 Z21 hn hk O21 SK A21 hch) hZ (hw _ (List.mem_of_getElem? (i := 92) rfl)) (hw _ (List.mem_of_getElem? (i := 22) rfl)) (by decide) (by decide)) (g := (mkF m 32 #[.val (.ref a), .val (.int (0 : Int32)), .val (.int (Int32.ofNat n)), .val (.ref b19), .val (.int (Int32.ofNat k)), .val (.ref b21)] [(.int (Int32.ofNat k)), (.ref b21)])) rfl (by rw [hml]; rfl) (argsL := [(.ref b21), (.int (Int32.ofNat k))]) (rest := []) (lenOf pd_12 rfl) rfl (by show 2 * 0 + _ ≤ _; exact Nat.le_of_eq rfl) (hb hby d5_32) (fun _ _ => ⟨rfl, rfl, (by decide : 2 + 0 ≤ _), (by decide : 12 + 0 ≤ _)⟩)
  dsimp only [Pt.U, Pt.locs, Pt.cells, Pt.slots] at X22 l22 y22 z22 st22 hQ22
  subst l22 y22 z22
  obtain ⟨rfl, N22q, e22⟩ := hQ22
  have N22 := Fr.app N21 N22q
  obtain ⟨fs, hr, hrun, hended, hW, hsame⟩ := X22.leave (v := some (.ref b21)) (fun h => by rw [Bd.returns] at h; cases h)
  refine ⟨_, _, pre0 _ ?_, hrun, hended, _, _, rfl, ?_, ⟨_, rfl⟩, hW, hsame.mono (by decide) (by decide)⟩
  · show Steps p.tables e below (s₁.setTop (mkF m 0 #[.val (.ref a), .val (.int (0 : Int32)), .val (.int (Int32.ofNat n)), .unset, .unset, .unset] [])) _
    refine XS.iloadN X0.here hx rfl (hb hby d5_0) rfl ?_
    show Steps p.tables e below (s₁.setTop (mkF m 1 #[.val (.ref a), .val (.int (0 : Int32)), .val (.int (Int32.ofNat n)), .unset, .unset, .unset] [(.int (Int32.ofNat n))])) _
    refine st19 _ ?_
    refine XS.astoreN X19.here hx rfl (hb hby d5_3) rfl rfl (l' := #[.val (.ref a), .val (.int (0 : Int32)), .val (.int (Int32.ofNat n)), .val (.ref b19), .unset, .unset]) rfl ?_
    refine XS.aloadN X19.here hx rfl (hb hby d5_4) rfl rfl ?_
    refine XS.iloadN X19.here hx rfl (hb hby d5_5) rfl ?_
    refine XS.aloadN X19.here hx rfl (hb hby d5_6) rfl rfl ?_
    refine XS.iconst X19.here hx rfl (hb hby d5_7) ?_
    show Steps p.tables e below (T19.setTop (mkF m 8 #[.val (.ref a), .val (.int (0 : Int32)), .val (.int (Int32.ofNat n)), .val (.ref b19), .unset, .unset] [(.int (0 : Int32)), (.ref b19), (.int (0 : Int32)), (.ref a)])) _
    refine XS.iloadN X19.here hx rfl (hb hby d5_8) rfl ?_
    show Steps p.tables e below (T19.setTop (mkF m 9 #[.val (.ref a), .val (.int (0 : Int32)), .val (.int (Int32.ofNat n)), .val (.ref b19), .unset, .unset] [(.int (Int32.ofNat n)), (.int (0 : Int32)), (.ref b19), (.int (0 : Int32)), (.ref a)])) _
    refine st20 _ ?_
    refine XS.istore X20.here hx rfl (hb hby d5_12) rfl (l' := #[.val (.ref a), .val (.int (0 : Int32)), .val (.int (Int32.ofNat n)), .val (.ref b19), .val (.int (Int32.ofNat k)), .unset]) rfl ?_
    refine XS.iload X20.here hx rfl (hb hby d5_14) rfl ?_
    refine XS.iloadN X20.here hx rfl (hb hby d5_16) rfl ?_
    refine XS.icmpNo X20.here hx rfl (hb hby d5_17) rfl (feq (fun q => absurd ((ltN (by omega) (by omega)).mpr hk) (by rw [q]; exact fun r => absurd r (by rw [Int32.lt_iff_toInt_lt]; omega)))).1 ?_
    refine XS.aloadN X20.here hx rfl (hb hby d5_20) rfl rfl ?_
    show Steps p.tables e below (T20.setTop (mkF m 21 #[.val (.ref a), .val (.int (0 : Int32)), .val (.int (Int32.ofNat n)), .val (.ref b19), .val (.int (Int32.ofNat k)), .unset] [(.ref a)])) _
    refine XS.iloadN X20.here hx rfl (hb hby d5_21) rfl ?_
    refine XS.iloadN X20.here hx rfl (hb hby d5_22) rfl ?_
    show Steps p.tables e below (T20.setTop (mkF m 23 #[.val (.ref a), .val (.int (0 : Int32)), .val (.int (Int32.ofNat n)), .val (.ref b19), .val (.int (Int32.ofNat k)), .unset] [(.int (Int32.ofNat n)), (.int (0 : Int32)), (.ref a)])) _
    refine st21 _ ?_
    refine XS.astore X21.here hx rfl (hb hby d5_26) rfl rfl (l' := #[.val (.ref a), .val (.int (0 : Int32)), .val (.int (Int32.ofNat n)), .val (.ref b19), .val (.int (Int32.ofNat k)), .val (.ref b21)]) rfl ?_
    refine XS.aload X21.here hx rfl (hb hby d5_28) rfl rfl ?_
    refine XS.iload X21.here hx rfl (hb hby d5_30) rfl ?_
    show Steps p.tables e below (T21.setTop (mkF m 32 #[.val (.ref a), .val (.int (0 : Int32)), .val (.int (Int32.ofNat n)), .val (.ref b19), .val (.int (Int32.ofNat k)), .val (.ref b21)] [(.int (Int32.ofNat k)), (.ref b21)])) _
    refine st22 _ ?_
    refine XS.sipush X22.here hx rfl (hb hby d5_35) ?_
    refine XS.icmpYes X22.here hx rfl (pc0 := 38) (pc' := 54) rfl (hb hby d5_38) rfl (tlt hbg).2.2.1 (by decide) (by decide) ?_
    refine XS.aload X22.here hx rfl (hb hby d5_54) rfl rfl ?_
    show Steps p.tables e below (T22.setTop (mkF m 56 #[.val (.ref a), .val (.int (0 : Int32)), .val (.int (Int32.ofNat n)), .val (.ref b19), .val (.int (Int32.ofNat k)), .val (.ref b21)] [(.ref b21)])) _
    jvm_step X22.here [X22.here.top, hx, (hb hby d5_56), X22.method', Bd.returns, Value.isRef, FieldType.isReference]
    first | (intro acts; rw [hr _ acts rfl rfl rfl]) | rw [hr _ _ rfl rfl rfl]
    exact Steps.refl _
  · show QA Z .byte (2 * n) (Ub g) h0 n0 _ T22.heap _
    exact ⟨b21, rfl, N22, by rw [e22]; exact KK21, sz_b21, by rw [e22]; exact A21⟩
theorem d7_0 : decode jdk_52_method_15_code 0 = .ok (.iload_n 1, 1) := by decide +kernel
theorem d7_1 : decode jdk_52_method_15_code 1 = .ok (.aload_n 0, 1) := by decide +kernel
theorem d7_2 : decode jdk_52_method_15_code 2 = .ok (.arraylength, 1) := by decide +kernel
theorem d7_3 : decode jdk_52_method_15_code 3 = .ok (.isub, 1) := by decide +kernel
theorem d7_4 : decode jdk_52_method_15_code 4 = .ok (.bipush 31, 2) := by decide +kernel
theorem d7_6 : decode jdk_52_method_15_code 6 = .ok (.iushr, 1) := by decide +kernel
theorem d7_7 : decode jdk_52_method_15_code 7 = .ok (.i2b, 1) := by decide +kernel
theorem d7_8 : decode jdk_52_method_15_code 8 = .ok (.ireturn, 1) := by decide +kernel
theorem pn_7 : plainName "java/lang/StringUTF16" = true := by first | (simp [plainName, overriddenIn]; done) | decide +kernel
theorem ef_7 (m : MethodId) (x0 : Addr) (x1 : Int32) : entryFrame m #[(.ref x0), (.int x1)] 2 = mkF m 0 #[.val (.ref x0), .val (.int x1)] [] := by first | (simp [entryFrame, mkF, argsToLocals, Value.category]; done) | rfl
set_option maxRecDepth 65536 in
set_option maxHeartbeats 40000000 in
theorem rmCOA (l : Launch) (Z : State) (a0 : Array Value) (hw : ∀ d ∈ tables_1, d.before a0 Z = true) (ws : List Jvm.Cond) (b : Addr) (n : Nat) (f : Nat → Value)  (h0 : Heap) (n0 : Nat) (Z0 : n0 ≤ h0.size) (hn : n ≤ 4)  (FB : AF Z h0 b .byte n f)  :
    MetFree l (⟨"java/lang/StringUTF16", "coderFromArrayLen", "([BI)B"⟩ : MethodName) (head1 (Jvm.Cond.code (⟨"java/lang/StringUTF16", "coderFromArrayLen", "([BI)B"⟩ : MethodName) jdk_52_method_15_code 2 (some .byte) :: ws) ({ frames := 0, cells := 0, slots := 0, locals := 0 } : Room)) (fun aa_ U_ => aa_ = #[(.ref b), (.int (Int32.ofNat n))] ∧ Z.Warmed39 U_.vm ∧ U_.heap = h0) (fun _ _ _ _ _ => True) (fun _ U_ o_ V_ => ∃ v_ L_, o_ = .returned v_ ∧ QI (0 : Int32) h0 n0 v_ V_.heap L_ ∧ FrameEnd U_ o_ V_ L_ ({ frames := 0, cells := 0, slots := 0, locals := 0 } : Room).cells ({ frames := 0, cells := 0, slots := 0, locals := 0 } : Room).slots) := by
  refine MetFree.of_bodySF (plainFor_of_name pn_7) hisR ?_
  intro p e s m args below meth c s₁ Bd hml0 hP hK
  obtain ⟨rfl, hZ, hh⟩ := hP
  have hx := Bd.exec
  have hby := Bd.bytes
  have hml : c.maxLocals = 2 := hml0
  have hown : s.vm.findClass "java/lang/StringUTF16" = some m.cls := findClass_of_methodNamed Bd.named
  have hnm := (name_of_methodNamed Bd.named Bd.method).1
  have X0 : Stand p l e ({ frames := 0, cells := 0, slots := 0, locals := 0 } : Room) s m #[(.ref b), (.int (Int32.ofNat n))] below meth c s₁ [] 0 0 := Stand.of_body Bd
  have e0 : s₁.heap = h0 := by rw [← hh, Bd.state]; rfl
  have N0 := Fr.nil n0
  have pre0 : ∀ zz, Steps p.tables e below (s₁.setTop (mkF m 0 #[.val (.ref b), .val (.int (Int32.ofNat n))] [])) zz → Steps p.tables e below (s₁.setTop (entryFrame m #[(.ref b), (.int (Int32.ofNat n))] 2)) zz := fun zz k => castTop (ef_7 m b (Int32.ofNat n)) k
  obtain ⟨fs, hr, hrun, hended, hW, hsame⟩ := X0.leave (v := some (.int (0 : Int32))) (fun h => by rw [Bd.returns] at h; cases h)
  refine ⟨_, _, pre0 _ ?_, hrun, hended, _, _, rfl, ?_, ⟨_, rfl⟩, hW, hsame.mono (by decide) (by decide)⟩
  · show Steps p.tables e below (s₁.setTop (mkF m 0 #[.val (.ref b), .val (.int (Int32.ofNat n))] [])) _
    refine XS.iloadN X0.here hx rfl (hb hby d7_0) rfl ?_
    refine XS.aloadN X0.here hx rfl (hb hby d7_1) rfl rfl ?_
    show Steps p.tables e below (s₁.setTop (mkF m 2 #[.val (.ref b), .val (.int (Int32.ofNat n))] [(.ref b), (.int (Int32.ofNat n))])) _
    refine lenA X0 hx hZ e0 FB (g := (mkF m 2 #[.val (.ref b), .val (.int (Int32.ofNat n))] [(.ref b), (.int (Int32.ofNat n))])) rfl rfl (hb hby d7_2) ?_
    refine XS.isub X0.here hx rfl (hb hby d7_3) rfl ?_
    refine XS.bipush X0.here hx rfl (hb hby d7_4) ?_
    refine XS.iushr X0.here hx rfl (hb hby d7_6) rfl ?_
    refine XS.i2b X0.here hx rfl (hb hby d7_7) rfl ?_
    show Steps p.tables e below (s₁.setTop (mkF m 8 #[.val (.ref b), .val (.int (Int32.ofNat n))] [(.int (((((Int32.ofNat n) - (Int32.ofNat n)).toUInt32 >>> ((31 : Int32) &&& 31).toUInt32).toInt32).toInt8.toInt32))])) _
    rw [show (((((Int32.ofNat n) - (Int32.ofNat n)).toUInt32 >>> ((31 : Int32) &&& 31).toUInt32).toInt32).toInt8.toInt32) = (0 : Int32) from codA n]
    show Steps p.tables e below (s₁.setTop (mkF m 8 #[.val (.ref b), .val (.int (Int32.ofNat n))] [(.int (0 : Int32))])) _
    exact retN X0 hx (t := .byte) Bd.returns (by simp) (hb hby d7_8) hr
  · show QI (0 : Int32) h0 n0 _ s₁.heap _
    rw [e0]
    exact ⟨rfl, N0, rfl⟩
set_option maxRecDepth 65536 in
set_option maxHeartbeats 40000000 in
theorem rmCOB (l : Launch) (Z : State) (a0 : Array Value) (hw : ∀ d ∈ tables_1, d.before a0 Z = true) (ws : List Jvm.Cond) (b : Addr) (n : Nat) (f : Nat → Value)  (h0 : Heap) (n0 : Nat) (Z0 : n0 ≤ h0.size) (hn : n ≤ 4) (hp : 0 < n) (FB : AF Z h0 b .byte (2 * n) f)  :
    MetFree l (⟨"java/lang/StringUTF16", "coderFromArrayLen", "([BI)B"⟩ : MethodName) (head1 (Jvm.Cond.code (⟨"java/lang/StringUTF16", "coderFromArrayLen", "([BI)B"⟩ : MethodName) jdk_52_method_15_code 2 (some .byte) :: ws) ({ frames := 0, cells := 0, slots := 0, locals := 0 } : Room)) (fun aa_ U_ => aa_ = #[(.ref b), (.int (Int32.ofNat n))] ∧ Z.Warmed39 U_.vm ∧ U_.heap = h0) (fun _ _ _ _ _ => True) (fun _ U_ o_ V_ => ∃ v_ L_, o_ = .returned v_ ∧ QI (1 : Int32) h0 n0 v_ V_.heap L_ ∧ FrameEnd U_ o_ V_ L_ ({ frames := 0, cells := 0, slots := 0, locals := 0 } : Room).cells ({ frames := 0, cells := 0, slots := 0, locals := 0 } : Room).slots) := by
  refine MetFree.of_bodySF (plainFor_of_name pn_7) hisR ?_
  intro p e s m args below meth c s₁ Bd hml0 hP hK
  obtain ⟨rfl, hZ, hh⟩ := hP
  have hx := Bd.exec
  have hby := Bd.bytes
  have hml : c.maxLocals = 2 := hml0
  have hown : s.vm.findClass "java/lang/StringUTF16" = some m.cls := findClass_of_methodNamed Bd.named
  have hnm := (name_of_methodNamed Bd.named Bd.method).1
  have X0 : Stand p l e ({ frames := 0, cells := 0, slots := 0, locals := 0 } : Room) s m #[(.ref b), (.int (Int32.ofNat n))] below meth c s₁ [] 0 0 := Stand.of_body Bd
  have e0 : s₁.heap = h0 := by rw [← hh, Bd.state]; rfl
  have N0 := Fr.nil n0
  have pre0 : ∀ zz, Steps p.tables e below (s₁.setTop (mkF m 0 #[.val (.ref b), .val (.int (Int32.ofNat n))] [])) zz → Steps p.tables e below (s₁.setTop (entryFrame m #[(.ref b), (.int (Int32.ofNat n))] 2)) zz := fun zz k => castTop (ef_7 m b (Int32.ofNat n)) k
  obtain ⟨fs, hr, hrun, hended, hW, hsame⟩ := X0.leave (v := some (.int (1 : Int32))) (fun h => by rw [Bd.returns] at h; cases h)
  refine ⟨_, _, pre0 _ ?_, hrun, hended, _, _, rfl, ?_, ⟨_, rfl⟩, hW, hsame.mono (by decide) (by decide)⟩
  · show Steps p.tables e below (s₁.setTop (mkF m 0 #[.val (.ref b), .val (.int (Int32.ofNat n))] [])) _
    refine XS.iloadN X0.here hx rfl (hb hby d7_0) rfl ?_
    refine XS.aloadN X0.here hx rfl (hb hby d7_1) rfl rfl ?_
    show Steps p.tables e below (s₁.setTop (mkF m 2 #[.val (.ref b), .val (.int (Int32.ofNat n))] [(.ref b), (.int (Int32.ofNat n))])) _
    refine lenA X0 hx hZ e0 FB (g := (mkF m 2 #[.val (.ref b), .val (.int (Int32.ofNat n))] [(.ref b), (.int (Int32.ofNat n))])) rfl rfl (hb hby d7_2) ?_
    refine XS.isub X0.here hx rfl (hb hby d7_3) rfl ?_
    refine XS.bipush X0.here hx rfl (hb hby d7_4) ?_
    refine XS.iushr X0.here hx rfl (hb hby d7_6) rfl ?_
    refine XS.i2b X0.here hx rfl (hb hby d7_7) rfl ?_
    show Steps p.tables e below (s₁.setTop (mkF m 8 #[.val (.ref b), .val (.int (Int32.ofNat n))] [(.int (((((Int32.ofNat n) - (Int32.ofNat (2 * n))).toUInt32 >>> ((31 : Int32) &&& 31).toUInt32).toInt32).toInt8.toInt32))])) _
    rw [show (((((Int32.ofNat n) - (Int32.ofNat (2 * n))).toUInt32 >>> ((31 : Int32) &&& 31).toUInt32).toInt32).toInt8.toInt32) = (1 : Int32) from codB hp (by omega)]
    show Steps p.tables e below (s₁.setTop (mkF m 8 #[.val (.ref b), .val (.int (Int32.ofNat n))] [(.int (1 : Int32))])) _
    exact retN X0 hx (t := .byte) Bd.returns (by simp) (hb hby d7_8) hr
  · show QI (1 : Int32) h0 n0 _ s₁.heap _
    rw [e0]
    exact ⟨rfl, N0, rfl⟩
theorem d3_0 : decode jdk_42_method_149_code 0 = .ok (.aload_n 0, 1) := by decide +kernel
theorem d3_1 : decode jdk_42_method_149_code 1 = .ok (.invokespecial 1, 3) := by decide +kernel
theorem d3_4 : decode jdk_42_method_149_code 4 = .ok (.iload_n 3, 1) := by decide +kernel
theorem d3_5 : decode jdk_42_method_149_code 5 = .ok (.ifCond .ne 22, 3) := by decide +kernel
theorem d3_8 : decode jdk_42_method_149_code 8 = .ok (.aload_n 0, 1) := by decide +kernel
theorem d3_9 : decode jdk_42_method_149_code 9 = .ok (.ldc 7, 2) := by decide +kernel
theorem d3_11 : decode jdk_42_method_149_code 11 = .ok (.getfield 9, 3) := by decide +kernel
theorem d3_14 : decode jdk_42_method_149_code 14 = .ok (.putfield 9, 3) := by decide +kernel
theorem d3_17 : decode jdk_42_method_149_code 17 = .ok (.aload_n 0, 1) := by decide +kernel
theorem d3_18 : decode jdk_42_method_149_code 18 = .ok (.ldc 7, 2) := by decide +kernel
theorem d3_20 : decode jdk_42_method_149_code 20 = .ok (.getfield 15, 3) := by decide +kernel
theorem d3_23 : decode jdk_42_method_149_code 23 = .ok (.putfield 15, 3) := by decide +kernel
theorem d3_26 : decode jdk_42_method_149_code 26 = .ok (.return_, 1) := by decide +kernel
theorem d3_27 : decode jdk_42_method_149_code 27 = .ok (.getstatic 38, 3) := by decide +kernel
theorem d3_30 : decode jdk_42_method_149_code 30 = .ok (.ifCond .eq 28, 3) := by decide +kernel
theorem d3_33 : decode jdk_42_method_149_code 33 = .ok (.aload_n 1, 1) := by decide +kernel
theorem d3_34 : decode jdk_42_method_149_code 34 = .ok (.iload_n 2, 1) := by decide +kernel
theorem d3_35 : decode jdk_42_method_149_code 35 = .ok (.iload_n 3, 1) := by decide +kernel
theorem d3_36 : decode jdk_42_method_149_code 36 = .ok (.invokestatic 177, 3) := by decide +kernel
theorem d3_39 : decode jdk_42_method_149_code 39 = .ok (.astore 5, 2) := by decide +kernel
theorem d3_41 : decode jdk_42_method_149_code 41 = .ok (.aload_n 0, 1) := by decide +kernel
theorem d3_42 : decode jdk_42_method_149_code 42 = .ok (.aload 5, 2) := by decide +kernel
theorem d3_44 : decode jdk_42_method_149_code 44 = .ok (.iload_n 3, 1) := by decide +kernel
theorem d3_45 : decode jdk_42_method_149_code 45 = .ok (.invokestatic 47, 3) := by decide +kernel
theorem d3_48 : decode jdk_42_method_149_code 48 = .ok (.putfield 15, 3) := by decide +kernel
theorem d3_51 : decode jdk_42_method_149_code 51 = .ok (.aload_n 0, 1) := by decide +kernel
theorem d3_52 : decode jdk_42_method_149_code 52 = .ok (.aload 5, 2) := by decide +kernel
theorem d3_54 : decode jdk_42_method_149_code 54 = .ok (.putfield 9, 3) := by decide +kernel
theorem d3_57 : decode jdk_42_method_149_code 57 = .ok (.return_, 1) := by decide +kernel
theorem d3_58 : decode jdk_42_method_149_code 58 = .ok (.aload_n 0, 1) := by decide +kernel
theorem d3_59 : decode jdk_42_method_149_code 59 = .ok (.iconst 1, 1) := by decide +kernel
theorem d3_60 : decode jdk_42_method_149_code 60 = .ok (.putfield 15, 3) := by decide +kernel
theorem d3_63 : decode jdk_42_method_149_code 63 = .ok (.aload_n 0, 1) := by decide +kernel
theorem d3_64 : decode jdk_42_method_149_code 64 = .ok (.aload_n 1, 1) := by decide +kernel
theorem d3_65 : decode jdk_42_method_149_code 65 = .ok (.iload_n 2, 1) := by decide +kernel
theorem d3_66 : decode jdk_42_method_149_code 66 = .ok (.iload_n 3, 1) := by decide +kernel
theorem d3_67 : decode jdk_42_method_149_code 67 = .ok (.invokestatic 180, 3) := by decide +kernel
theorem d3_70 : decode jdk_42_method_149_code 70 = .ok (.putfield 9, 3) := by decide +kernel
theorem d3_73 : decode jdk_42_method_149_code 73 = .ok (.return_, 1) := by decide +kernel
theorem pn_3 : plainName "java/lang/String" = true := by first | (simp [plainName, overriddenIn]; done) | decide +kernel
theorem ef_3 (m : MethodId) (x0 : Addr) (x1 : Addr) (x2 : Int32) (x3 : Int32) : entryFrame m #[(.ref x0), (.ref x1), (.int x2), (.int x3), .null] 6 = mkF m 0 #[.val (.ref x0), .val (.ref x1), .val (.int x2), .val (.int x3), .val .null, .unset] [] := by first | (simp [entryFrame, mkF, argsToLocals, Value.category]; done) | rfl
set_option maxRecDepth 65536 in
set_option maxHeartbeats 40000000 in
theorem rmI4A (l : Launch) (Z : State) (a0 : Array Value) (hw : ∀ d ∈ tables_1, d.before a0 Z = true) (ws : List Jvm.Cond) (o a : Addr) (n : Nat) (g : Nat → Int32)  (h0 : Heap) (n0 : Nat) (Z0 : n0 ≤ h0.size) (hn : n ≤ 4) (hp : 0 < n) (O : Old Z n0 h0) (SK : StrSta Z) (FA : AF Z h0 a .char n (Ca g)) (hch : ∀ j, j < n → isCh (g j)) (EO : Exa Z h0 o "java/lang/String") (FV : Fld Z h0 o "java/lang/String" "value" "[B" .null) (FC : Fld Z h0 o "java/lang/String" "coder" "B" (.int (0 : Int32))) (g_o : n0 ≤ o) (hao : a ≠ o)  (hsm : ∀ j, j < n → ¬ ((255 : Int32) < g j))  :
    MetFree l (⟨"java/lang/String", "<init>", "([CIILjava/lang/Void;)V"⟩ : MethodName) (head1 (Jvm.Cond.code (⟨"java/lang/String", "<init>", "([CIILjava/lang/Void;)V"⟩ : MethodName) jdk_42_method_149_code 6 none :: ws) ({ frames := 4, cells := 2, slots := 12, locals := 100 } : Room)) (fun aa_ U_ => aa_ = #[(.ref o), (.ref a), (.int (0 : Int32)), (.int (Int32.ofNat n)), .null] ∧ Z.Warmed39 U_.vm ∧ U_.heap = h0) (fun _ _ _ _ _ => True) (fun _ U_ o_ V_ => ∃ v_ L_, o_ = .returned v_ ∧ QS Z o n g h0 n0 v_ V_.heap L_ ∧ FrameEnd U_ o_ V_ L_ ({ frames := 4, cells := 2, slots := 12, locals := 100 } : Room).cells ({ frames := 4, cells := 2, slots := 12, locals := 100 } : Room).slots) := by
  refine MetFree.of_bodySF (plainFor_of_name pn_3) hisR ?_
  intro p e s m args below meth c s₁ Bd hml0 hP hK
  obtain ⟨rfl, hZ, hh⟩ := hP
  have hx := Bd.exec
  have hby := Bd.bytes
  have hml : c.maxLocals = 6 := hml0
  have hown : s.vm.findClass "java/lang/String" = some m.cls := findClass_of_methodNamed Bd.named
  have hnm := (name_of_methodNamed Bd.named Bd.method).1
  have X0 : Stand p l e ({ frames := 4, cells := 2, slots := 12, locals := 100 } : Room) s m #[(.ref o), (.ref a), (.int (0 : Int32)), (.int (Int32.ofNat n)), .null] below meth c s₁ [] 0 0 := Stand.of_body Bd
  have e0 : s₁.heap = h0 := by rw [← hh, Bd.state]; rfl
  have N0 := Fr.nil n0
  have pre0 : ∀ zz, Steps p.tables e below (s₁.setTop (mkF m 0 #[.val (.ref o), .val (.ref a), .val (.int (0 : Int32)), .val (.int (Int32.ofNat n)), .val .null, .unset] [])) zz → Steps p.tables e below (s₁.setTop (entryFrame m #[(.ref o), (.ref a), (.int (0 : Int32)), (.int (Int32.ofNat n)), .null] 6)) zz := fun zz k => castTop (ef_3 m o a (0 : Int32) (Int32.ofNat n)) k
  obtain ⟨kc, hkc, hcs⟩ := SK.1
  obtain ⟨T23, X23, e23, st23⟩ := initO X0 hx hZ hown (hw _ (List.mem_of_getElem? (i := 16) rfl)) (hw _ (List.mem_of_getElem? (i := 17) rfl)) (hw _ (List.mem_of_getElem? (i := 18) rfl)) e0 (g := (mkF m 1 #[.val (.ref o), .val (.ref a), .val (.int (0 : Int32)), .val (.int (Int32.ofNat n)), .val .null, .unset] [(.ref o)])) rfl (by rw [hml]; rfl) rfl (hb hby d3_1) (by decide) (W := 0) (by show 2 * 0 + _ ≤ _; exact Nat.le_of_eq rfl) (by decide)
  obtain ⟨T24, X24, e24, st24⟩ := getS2 X23 hx hZ hown (host := "") (Or.inl (hw _ (List.mem_of_getElem? (i := 19) rfl))) Via.refl e23 (Sta.ext O.2 hcs) (g := (mkF m 27 #[.val (.ref o), .val (.ref a), .val (.int (0 : Int32)), .val (.int (Int32.ofNat n)), .val .null, .unset] [])) rfl (hb hby d3_27)
  obtain ⟨_, _, ⟨T25, L25, k25, n25⟩, -, X25, ⟨Lc25, hQ25, l25, y25, z25⟩, st25⟩ := Jvm.LawKit.callS X24 hx (y := (⟨"java/lang/StringUTF16", "compress", "([CII)[B"⟩ : MethodName)) hown (mvT hZ (hw _ (List.mem_of_getElem? (i := 20) rfl))) (mvT hZ (hw _ (List.mem_of_getElem? (i := 21) rfl))) (mvT hZ (hw _ (List.mem_of_getElem? (i := 22) rfl))) (mvT hZ (hw _ (List.mem_of_getElem? (i := 23) rfl))) (by decide) (backOf (W := 0) (rmC3A l Z a0 hw [] a n g h0 n0 Z0 hn O SK FA hsm) hZ (hw _ (List.mem_of_getElem? (i := 23) rfl)) (hw _ (List.mem_of_getElem? (i := 22) rfl)) (by decide) (by decide)) (g := (mkF m 36 #[.val (.ref o), .val (.ref a), .val (.int (0 : Int32)), .val (.int (Int32.ofNat n)), .val .null, .unset] [(.int (Int32.ofNat n)), (.int (0 : Int32)), (.ref a)])) rfl (by rw [hml]; rfl) (argsL := [(.ref a), (.int (0 : Int32)), (.int (Int32.ofNat n))]) (rest := []) (lenOf pd_4 rfl) rfl (by show 2 * 0 + _ ≤ _; exact Nat.le_of_eq rfl) (hb hby d3_36) (fun _ _ => ⟨rfl, e24, (by decide : 0 + 2 ≤ _), (by decide : 0 + 12 ≤ _)⟩)
  dsimp only [Pt.U, Pt.locs, Pt.cells, Pt.slots] at X25 l25 y25 z25 st25 hQ25
  subst l25 y25 z25
  obtain ⟨b25, rfl, N25q, K25, zq25, A25⟩ := hQ25
  have N25 := Fr.app N0 N25q
  have ne_a_b25 : a ≠ b25 := Nat.ne_of_lt (Nat.lt_of_lt_of_le FA.lt zq25)
  have ne_o_b25 : o ≠ b25 := Nat.ne_of_lt (Nat.lt_of_lt_of_le EO.lt zq25)
  have g_b25 : n0 ≤ b25 := Nat.le_trans Z0 zq25
  have sz_b25 : h0.size ≤ b25 := Nat.le_trans (Keep.refl h0 [o]).1 zq25
  have EO_e25 := EO.keep K25
  have FV_e25 := FV.keep K25 List.not_mem_nil
  have FC_e25 := FC.keep K25 List.not_mem_nil
  have FA_e25 := FA.keep K25 List.not_mem_nil
  have KK25 := (Keep.refl h0 [o]).trans K25 (fun x r => absurd r List.not_mem_nil)
  have Z25 : n0 ≤ T25.heap.size := Nat.le_trans Z0 K25.1
  have O25 := O.keep K25 all0'
  obtain ⟨_, _, ⟨T26, L26, k26, n26⟩, -, X26, ⟨Lc26, hQ26, l26, y26, z26⟩, st26⟩ := Jvm.LawKit.callS X25 hx (y := (⟨"java/lang/StringUTF16", "coderFromArrayLen", "([BI)B"⟩ : MethodName)) hown (mvT hZ (hw _ (List.mem_of_getElem? (i := 28) rfl))) (mvT hZ (hw _ (List.mem_of_getElem? (i := 29) rfl))) (mvT hZ (hw _ (List.mem_of_getElem? (i := 22) rfl))) (mvT hZ (hw _ (List.mem_of_getElem? (i := 30) rfl))) (by decide) (backOf (W := 1) (rmCOA l Z a0 hw [] b25 n (Lb g) T25.heap n0 Z25 hn  A25) hZ (hw _ (List.mem_of_getElem? (i := 30) rfl)) (hw _ (List.mem_of_getElem? (i := 22) rfl)) (by decide) (by decide)) (g := (mkF m 45 #[.val (.ref o), .val (.ref a), .val (.int (0 : Int32)), .val (.int (Int32.ofNat n)), .val .null, .val (.ref b25)] [(.int (Int32.ofNat n)), (.ref b25), (.ref o)])) rfl (by rw [hml]; rfl) (argsL := [(.ref b25), (.int (Int32.ofNat n))]) (rest := [(.ref o)]) (lenOf pd_6 rfl) rfl (by show 2 * 0 + _ ≤ _; exact Nat.le_of_eq rfl) (hb hby d3_45) (fun _ _ => ⟨rfl, rfl, (by decide : 2 + 0 ≤ _), (by decide : 12 + 0 ≤ _)⟩)
  dsimp only [Pt.U, Pt.locs, Pt.cells, Pt.slots] at X26 l26 y26 z26 st26 hQ26
  subst l26 y26 z26
  obtain ⟨rfl, N26q, e26⟩ := hQ26
  have N26 := Fr.app N25 N26q
  obtain ⟨T27, h27, X27, e27, W27, st27⟩ := putFN X26 hx hZ hown (hw _ (List.mem_of_getElem? (i := 31) rfl)) Via.refl e26 FC_e25 EO_e25 (Or.inr ⟨(hw _ (List.mem_of_getElem? (i := 32) rfl)), rfl, hnm⟩) (hw _ (List.mem_of_getElem? (i := 6) rfl)) (ty := .byte) (v' := (.int (0 : Int32))) (by decide) rfl (by decide) (g := (mkF m 48 #[.val (.ref o), .val (.ref a), .val (.int (0 : Int32)), .val (.int (Int32.ofNat n)), .val .null, .val (.ref b25)] [(.int (0 : Int32)), (.ref o)])) rfl rfl (hb hby d3_48)
  have Fw27 := FC_e25.same W27
  have EO_e27 := EO_e25.wr W27
  have FV_e27 := FV_e25.other W27 (Or.inr (slot_ne (Or.inr (hw _ (List.mem_of_getElem? (i := 34) rfl))) (Or.inr (hw _ (List.mem_of_getElem? (i := 32) rfl))) (by decide) (t := (.array .byte)) (t' := .byte) (by decide) (by decide)))
  have FA_e27 := FA_e25.other W27 hao
  have A25_e27 := A25.other W27 (Ne.symm ne_o_b25)
  have N27 := Fr.snoc X27 N26 g_o
  have K27 := KK25.wr W27 (Or.inl (List.mem_of_getElem? (i := 0) rfl))
  have Z27 : n0 ≤ h27.size := Nat.le_trans Z25 (Keep.of_wr W27).1
  have O27 := O25.wr W27 g_o
  obtain ⟨T28, h28, X28, e28, W28, st28⟩ := putF X27 hx hZ hown (host := "") (Or.inl (hw _ (List.mem_of_getElem? (i := 33) rfl))) Via.refl e27 FV_e27 EO_e27 (Or.inr ⟨(hw _ (List.mem_of_getElem? (i := 34) rfl)), rfl, hnm⟩) (hw _ (List.mem_of_getElem? (i := 6) rfl)) (ty := (.array .byte)) (by decide) rfl rfl (g := (mkF m 54 #[.val (.ref o), .val (.ref a), .val (.int (0 : Int32)), .val (.int (Int32.ofNat n)), .val .null, .val (.ref b25)] [(.ref b25), (.ref o)])) rfl rfl (hb hby d3_54)
  have Fw28 := FV_e27.same W28
  have EO_e28 := EO_e27.wr W28
  have Fw27_e28 := Fw27.other W28 (Or.inr (slot_ne (Or.inr (hw _ (List.mem_of_getElem? (i := 32) rfl))) (Or.inr (hw _ (List.mem_of_getElem? (i := 34) rfl))) (by decide) (t := .byte) (t' := (.array .byte)) (by decide) (by decide)))
  have FA_e28 := FA_e27.other W28 hao
  have A25_e28 := A25_e27.other W28 (Ne.symm ne_o_b25)
  have N28 := Fr.snoc X28 N27 g_o
  have K28 := K27.wr W28 (Or.inl (List.mem_of_getElem? (i := 0) rfl))
  have Z28 : n0 ≤ h28.size := Nat.le_trans Z27 (Keep.of_wr W28).1
  have O28 := O27.wr W28 g_o
  obtain ⟨fs, hr, hrun, hended, hW, hsame⟩ := X28.leave (v := none) (fun _ => rfl)
  refine ⟨_, _, pre0 _ ?_, hrun, hended, _, _, rfl, ?_, ⟨_, rfl⟩, hW, hsame.mono (by decide) (by decide)⟩
  · show Steps p.tables e below (s₁.setTop (mkF m 0 #[.val (.ref o), .val (.ref a), .val (.int (0 : Int32)), .val (.int (Int32.ofNat n)), .val .null, .unset] [])) _
    refine XS.aloadN X0.here hx rfl (hb hby d3_0) rfl rfl ?_
    show Steps p.tables e below (s₁.setTop (mkF m 1 #[.val (.ref o), .val (.ref a), .val (.int (0 : Int32)), .val (.int (Int32.ofNat n)), .val .null, .unset] [(.ref o)])) _
    refine st23 _ ?_
    refine XS.iloadN X23.here hx rfl (hb hby d3_4) rfl ?_
    refine XS.ifYes X23.here hx rfl (pc0 := 5) (pc' := 27) rfl (hb hby d3_5) rfl ((if0 _ _).trans (feq (fun q => absurd (congrArg Int32.toInt q) (by rw [Int32.toInt_ofNat_small (by omega)]; intro r; change (n : Int) = 0 at r; omega))).2) (by decide) (by decide) ?_
    show Steps p.tables e below (T23.setTop (mkF m 27 #[.val (.ref o), .val (.ref a), .val (.int (0 : Int32)), .val (.int (Int32.ofNat n)), .val .null, .unset] [])) _
    refine st24 _ ?_
    refine XS.ifNo X24.here hx rfl (hb hby d3_30) rfl ((if0 _ _).trans (feq hkc).1) ?_
    refine XS.aloadN X24.here hx rfl (hb hby d3_33) rfl rfl ?_
    refine XS.iloadN X24.here hx rfl (hb hby d3_34) rfl ?_
    refine XS.iloadN X24.here hx rfl (hb hby d3_35) rfl ?_
    show Steps p.tables e below (T24.setTop (mkF m 36 #[.val (.ref o), .val (.ref a), .val (.int (0 : Int32)), .val (.int (Int32.ofNat n)), .val .null, .unset] [(.int (Int32.ofNat n)), (.int (0 : Int32)), (.ref a)])) _
    refine st25 _ ?_
    refine XS.astore X25.here hx rfl (hb hby d3_39) rfl rfl (l' := #[.val (.ref o), .val (.ref a), .val (.int (0 : Int32)), .val (.int (Int32.ofNat n)), .val .null, .val (.ref b25)]) rfl ?_
    refine XS.aloadN X25.here hx rfl (hb hby d3_41) rfl rfl ?_
    refine XS.aload X25.here hx rfl (hb hby d3_42) rfl rfl ?_
    refine XS.iloadN X25.here hx rfl (hb hby d3_44) rfl ?_
    show Steps p.tables e below (T25.setTop (mkF m 45 #[.val (.ref o), .val (.ref a), .val (.int (0 : Int32)), .val (.int (Int32.ofNat n)), .val .null, .val (.ref b25)] [(.int (Int32.ofNat n)), (.ref b25), (.ref o)])) _
    refine st26 _ ?_
    show Steps p.tables e below (T26.setTop (mkF m 48 #[.val (.ref o), .val (.ref a), .val (.int (0 : Int32)), .val (.int (Int32.ofNat n)), .val .null, .val (.ref b25)] [(.int (0 : Int32)), (.ref o)])) _
    refine st27 _ ?_
    refine XS.aloadN X27.here hx rfl (hb hby d3_51) rfl rfl ?_
    refine XS.aload X27.here hx rfl (hb hby d3_52) rfl rfl ?_
    show Steps p.tables e below (T27.setTop (mkF m 54 #[.val (.ref o), .val (.ref a), .val (.int (0 : Int32)), .val (.int (Int32.ofNat n)), .val .null, .val (.ref b25)] [(.ref b25), (.ref o)])) _
    refine st28 _ ?_
    show Steps p.tables e below (T28.setTop (mkF m 57 #[.val (.ref o), .val (.ref a), .val (.int (0 : Int32)), .val (.int (Int32.ofNat n)), .val .null, .val (.ref b25)] [])) _
    exact X28.returnOut hx Bd.returns (hb hby d3_57) hr
  · show QS Z o n g h0 n0 _ T28.heap _
    exact ⟨rfl, N28, by rw [e28]; exact K28, by rw [e28]; exact ⟨EO_e28, b25, Fw28, (Or.inl ⟨Fw27_e28, A25_e28, fun j hj => smB (hch j hj) (hsm j hj)⟩)⟩⟩
set_option maxRecDepth 65536 in
set_option maxHeartbeats 40000000 in
theorem rmI4B (l : Launch) (Z : State) (a0 : Array Value) (hw : ∀ d ∈ tables_1, d.before a0 Z = true) (ws : List Jvm.Cond) (o a : Addr) (n : Nat) (g : Nat → Int32) (k : Nat)  (h0 : Heap) (n0 : Nat) (Z0 : n0 ≤ h0.size) (hn : n ≤ 4) (hp : 0 < n) (O : Old Z n0 h0) (SK : StrSta Z) (FA : AF Z h0 a .char n (Ca g)) (hch : ∀ j, j < n → isCh (g j)) (EO : Exa Z h0 o "java/lang/String") (FV : Fld Z h0 o "java/lang/String" "value" "[B" .null) (FC : Fld Z h0 o "java/lang/String" "coder" "B" (.int (0 : Int32))) (g_o : n0 ≤ o) (hao : a ≠ o) (hk : k < n) (hbg : (255 : Int32) < g k) (hsm : ∀ j, j < k → ¬ ((255 : Int32) < g j))  :
    MetFree l (⟨"java/lang/String", "<init>", "([CIILjava/lang/Void;)V"⟩ : MethodName) (head1 (Jvm.Cond.code (⟨"java/lang/String", "<init>", "([CIILjava/lang/Void;)V"⟩ : MethodName) jdk_42_method_149_code 6 none :: ws) ({ frames := 4, cells := 2, slots := 12, locals := 100 } : Room)) (fun aa_ U_ => aa_ = #[(.ref o), (.ref a), (.int (0 : Int32)), (.int (Int32.ofNat n)), .null] ∧ Z.Warmed39 U_.vm ∧ U_.heap = h0) (fun _ _ _ _ _ => True) (fun _ U_ o_ V_ => ∃ v_ L_, o_ = .returned v_ ∧ QS Z o n g h0 n0 v_ V_.heap L_ ∧ FrameEnd U_ o_ V_ L_ ({ frames := 4, cells := 2, slots := 12, locals := 100 } : Room).cells ({ frames := 4, cells := 2, slots := 12, locals := 100 } : Room).slots) := by
  refine MetFree.of_bodySF (plainFor_of_name pn_3) hisR ?_
  intro p e s m args below meth c s₁ Bd hml0 hP hK
  obtain ⟨rfl, hZ, hh⟩ := hP
  have hx := Bd.exec
  have hby := Bd.bytes
  have hml : c.maxLocals = 6 := hml0
  have hown : s.vm.findClass "java/lang/String" = some m.cls := findClass_of_methodNamed Bd.named
  have hnm := (name_of_methodNamed Bd.named Bd.method).1
  have X0 : Stand p l e ({ frames := 4, cells := 2, slots := 12, locals := 100 } : Room) s m #[(.ref o), (.ref a), (.int (0 : Int32)), (.int (Int32.ofNat n)), .null] below meth c s₁ [] 0 0 := Stand.of_body Bd
  have e0 : s₁.heap = h0 := by rw [← hh, Bd.state]; rfl
  have N0 := Fr.nil n0
  have pre0 : ∀ zz, Steps p.tables e below (s₁.setTop (mkF m 0 #[.val (.ref o), .val (.ref a), .val (.int (0 : Int32)), .val (.int (Int32.ofNat n)), .val .null, .unset] [])) zz → Steps p.tables e below (s₁.setTop (entryFrame m #[(.ref o), (.ref a), (.int (0 : Int32)), (.int (Int32.ofNat n)), .null] 6)) zz := fun zz k => castTop (ef_3 m o a (0 : Int32) (Int32.ofNat n)) k
  obtain ⟨kc, hkc, hcs⟩ := SK.1
  obtain ⟨T29, X29, e29, st29⟩ := initO X0 hx hZ hown (hw _ (List.mem_of_getElem? (i := 16) rfl)) (hw _ (List.mem_of_getElem? (i := 17) rfl)) (hw _ (List.mem_of_getElem? (i := 18) rfl)) e0 (g := (mkF m 1 #[.val (.ref o), .val (.ref a), .val (.int (0 : Int32)), .val (.int (Int32.ofNat n)), .val .null, .unset] [(.ref o)])) rfl (by rw [hml]; rfl) rfl (hb hby d3_1) (by decide) (W := 0) (by show 2 * 0 + _ ≤ _; exact Nat.le_of_eq rfl) (by decide)
  obtain ⟨T30, X30, e30, st30⟩ := getS2 X29 hx hZ hown (host := "") (Or.inl (hw _ (List.mem_of_getElem? (i := 19) rfl))) Via.refl e29 (Sta.ext O.2 hcs) (g := (mkF m 27 #[.val (.ref o), .val (.ref a), .val (.int (0 : Int32)), .val (.int (Int32.ofNat n)), .val .null, .unset] [])) rfl (hb hby d3_27)
  obtain ⟨_, _, ⟨T31, L31, k31, n31⟩, -, X31, ⟨Lc31, hQ31, l31, y31, z31⟩, st31⟩ := Jvm.LawKit.callS X30 hx (y := (⟨"java/lang/StringUTF16", "compress", "([CII)[B"⟩ : MethodName)) hown (mvT hZ (hw _ (List.mem_of_getElem? (i := 20) rfl))) (mvT hZ (hw _ (List.mem_of_getElem? (i := 21) rfl))) (mvT hZ (hw _ (List.mem_of_getElem? (i := 22) rfl))) (mvT hZ (hw _ (List.mem_of_getElem? (i := 23) rfl))) (by decide) (backOf (W := 0) (rmC3B l Z a0 hw [] a n g k h0 n0 Z0 hn O SK FA hch hk hbg hsm) hZ (hw _ (List.mem_of_getElem? (i := 23) rfl)) (hw _ (List.mem_of_getElem? (i := 22) rfl)) (by decide) (by decide)) (g := (mkF m 36 #[.val (.ref o), .val (.ref a), .val (.int (0 : Int32)), .val (.int (Int32.ofNat n)), .val .null, .unset] [(.int (Int32.ofNat n)), (.int (0 : Int32)), (.ref a)])) rfl (by rw [hml]; rfl) (argsL := [(.ref a), (.int (0 : Int32)), (.int (Int32.ofNat n))]) (rest := []) (lenOf pd_4 rfl) rfl (by show 2 * 0 + _ ≤ _; exact Nat.le_of_eq rfl) (hb hby d3_36) (fun _ _ => ⟨rfl, e30, (by decide : 0 + 2 ≤ _), (by decide : 0 + 12 ≤ _)⟩)
  dsimp only [Pt.U, Pt.locs, Pt.cells, Pt.slots] at X31 l31 y31 z31 st31 hQ31
  subst l31 y31 z31
  obtain ⟨b31, rfl, N31q, K31, zq31, A31⟩ := hQ31
  have N31 := Fr.app N0 N31q
  have ne_a_b31 : a ≠ b31 := Nat.ne_of_lt (Nat.lt_of_lt_of_le FA.lt zq31)
  have ne_o_b31 : o ≠ b31 := Nat.ne_of_lt (Nat.lt_of_lt_of_le EO.lt zq31)
  have g_b31 : n0 ≤ b31 := Nat.le_trans Z0 zq31
  have sz_b31 : h0.size ≤ b31 := Nat.le_trans (Keep.refl h0 [o]).1 zq31
  have EO_e31 := EO.keep K31
  have FV_e31 := FV.keep K31 List.not_mem_nil
  have FC_e31 := FC.keep K31 List.not_mem_nil
  have FA_e31 := FA.keep K31 List.not_mem_nil
  have KK31 := (Keep.refl h0 [o]).trans K31 (fun x r => absurd r List.not_mem_nil)
  have Z31 : n0 ≤ T31.heap.size := Nat.le_trans Z0 K31.1
  have O31 := O.keep K31 all0'
  obtain ⟨_, _, ⟨T32, L32, k32, n32⟩, -, X32, ⟨Lc32, hQ32, l32, y32, z32⟩, st32⟩ := Jvm.LawKit.callS X31 hx (y := (⟨"java/lang/StringUTF16", "coderFromArrayLen", "([BI)B"⟩ : MethodName)) hown (mvT hZ (hw _ (List.mem_of_getElem? (i := 28) rfl))) (mvT hZ (hw _ (List.mem_of_getElem? (i := 29) rfl))) (mvT hZ (hw _ (List.mem_of_getElem? (i := 22) rfl))) (mvT hZ (hw _ (List.mem_of_getElem? (i := 30) rfl))) (by decide) (backOf (W := 1) (rmCOB l Z a0 hw [] b31 n (Ub g) T31.heap n0 Z31 hn hp A31) hZ (hw _ (List.mem_of_getElem? (i := 30) rfl)) (hw _ (List.mem_of_getElem? (i := 22) rfl)) (by decide) (by decide)) (g := (mkF m 45 #[.val (.ref o), .val (.ref a), .val (.int (0 : Int32)), .val (.int (Int32.ofNat n)), .val .null, .val (.ref b31)] [(.int (Int32.ofNat n)), (.ref b31), (.ref o)])) rfl (by rw [hml]; rfl) (argsL := [(.ref b31), (.int (Int32.ofNat n))]) (rest := [(.ref o)]) (lenOf pd_6 rfl) rfl (by show 2 * 0 + _ ≤ _; exact Nat.le_of_eq rfl) (hb hby d3_45) (fun _ _ => ⟨rfl, rfl, (by decide : 2 + 0 ≤ _), (by decide : 12 + 0 ≤ _)⟩)
  dsimp only [Pt.U, Pt.locs, Pt.cells, Pt.slots] at X32 l32 y32 z32 st32 hQ32
  subst l32 y32 z32
  obtain ⟨rfl, N32q, e32⟩ := hQ32
  have N32 := Fr.app N31 N32q
  obtain ⟨T33, h33, X33, e33, W33, st33⟩ := putFN X32 hx hZ hown (hw _ (List.mem_of_getElem? (i := 31) rfl)) Via.refl e32 FC_e31 EO_e31 (Or.inr ⟨(hw _ (List.mem_of_getElem? (i := 32) rfl)), rfl, hnm⟩) (hw _ (List.mem_of_getElem? (i := 6) rfl)) (ty := .byte) (v' := (.int (1 : Int32))) (by decide) rfl (by decide) (g := (mkF m 48 #[.val (.ref o), .val (.ref a), .val (.int (0 : Int32)), .val (.int (Int32.ofNat n)), .val .null, .val (.ref b31)] [(.int (1 : Int32)), (.ref o)])) rfl rfl (hb hby d3_48)
  have Fw33 := FC_e31.same W33
  have EO_e33 := EO_e31.wr W33
  have FV_e33 := FV_e31.other W33 (Or.inr (slot_ne (Or.inr (hw _ (List.mem_of_getElem? (i := 34) rfl))) (Or.inr (hw _ (List.mem_of_getElem? (i := 32) rfl))) (by decide) (t := (.array .byte)) (t' := .byte) (by decide) (by decide)))
  have FA_e33 := FA_e31.other W33 hao
  have A31_e33 := A31.other W33 (Ne.symm ne_o_b31)
  have N33 := Fr.snoc X33 N32 g_o
  have K33 := KK31.wr W33 (Or.inl (List.mem_of_getElem? (i := 0) rfl))
  have Z33 : n0 ≤ h33.size := Nat.le_trans Z31 (Keep.of_wr W33).1
  have O33 := O31.wr W33 g_o
  obtain ⟨T34, h34, X34, e34, W34, st34⟩ := putF X33 hx hZ hown (host := "") (Or.inl (hw _ (List.mem_of_getElem? (i := 33) rfl))) Via.refl e33 FV_e33 EO_e33 (Or.inr ⟨(hw _ (List.mem_of_getElem? (i := 34) rfl)), rfl, hnm⟩) (hw _ (List.mem_of_getElem? (i := 6) rfl)) (ty := (.array .byte)) (by decide) rfl rfl (g := (mkF m 54 #[.val (.ref o), .val (.ref a), .val (.int (0 : Int32)), .val (.int (Int32.ofNat n)), .val .null, .val (.ref b31)] [(.ref b31), (.ref o)])) rfl rfl (hb hby d3_54)
  have Fw34 := FV_e33.same W34
  have EO_e34 := EO_e33.wr W34
  have Fw33_e34 := Fw33.other W34 (Or.inr (slot_ne (Or.inr (hw _ (List.mem_of_getElem? (i := 32) rfl))) (Or.inr (hw _ (List.mem_of_getElem? (i := 34) rfl))) (by decide) (t := .byte) (t' := (.array .byte)) (by decide) (by decide)))
  have FA_e34 := FA_e33.other W34 hao
  have A31_e34 := A31_e33.other W34 (Ne.symm ne_o_b31)
  have N34 := Fr.snoc X34 N33 g_o
  have K34 := K33.wr W34 (Or.inl (List.mem_of_getElem? (i := 0) rfl))
  have Z34 : n0 ≤ h34.size := Nat.le_trans Z33 (Keep.of_wr W34).1
  have O34 := O33.wr W34 g_o
  obtain ⟨fs, hr, hrun, hended, hW, hsame⟩ := X34.leave (v := none) (fun _ => rfl)
  refine ⟨_, _, pre0 _ ?_, hrun, hended, _, _, rfl, ?_, ⟨_, rfl⟩, hW, hsame.mono (by decide) (by decide)⟩
  · show Steps p.tables e below (s₁.setTop (mkF m 0 #[.val (.ref o), .val (.ref a), .val (.int (0 : Int32)), .val (.int (Int32.ofNat n)), .val .null, .unset] [])) _
    refine XS.aloadN X0.here hx rfl (hb hby d3_0) rfl rfl ?_
    show Steps p.tables e below (s₁.setTop (mkF m 1 #[.val (.ref o), .val (.ref a), .val (.int (0 : Int32)), .val (.int (Int32.ofNat n)), .val .null, .unset] [(.ref o)])) _
    refine st29 _ ?_
    refine XS.iloadN X29.here hx rfl (hb hby d3_4) rfl ?_
    refine XS.ifYes X29.here hx rfl (pc0 := 5) (pc' := 27) rfl (hb hby d3_5) rfl ((if0 _ _).trans (feq (fun q => absurd (congrArg Int32.toInt q) (by rw [Int32.toInt_ofNat_small (by omega)]; intro r; change (n : Int) = 0 at r; omega))).2) (by decide) (by decide) ?_
    show Steps p.tables e below (T29.setTop (mkF m 27 #[.val (.ref o), .val (.ref a), .val (.int (0 : Int32)), .val (.int (Int32.ofNat n)), .val .null, .unset] [])) _
    refine st30 _ ?_
    refine XS.ifNo X30.here hx rfl (hb hby d3_30) rfl ((if0 _ _).trans (feq hkc).1) ?_
    refine XS.aloadN X30.here hx rfl (hb hby d3_33) rfl rfl ?_
    refine XS.iloadN X30.here hx rfl (hb hby d3_34) rfl ?_
    refine XS.iloadN X30.here hx rfl (hb hby d3_35) rfl ?_
    show Steps p.tables e below (T30.setTop (mkF m 36 #[.val (.ref o), .val (.ref a), .val (.int (0 : Int32)), .val (.int (Int32.ofNat n)), .val .null, .unset] [(.int (Int32.ofNat n)), (.int (0 : Int32)), (.ref a)])) _
    refine st31 _ ?_
    refine XS.astore X31.here hx rfl (hb hby d3_39) rfl rfl (l' := #[.val (.ref o), .val (.ref a), .val (.int (0 : Int32)), .val (.int (Int32.ofNat n)), .val .null, .val (.ref b31)]) rfl ?_
    refine XS.aloadN X31.here hx rfl (hb hby d3_41) rfl rfl ?_
    refine XS.aload X31.here hx rfl (hb hby d3_42) rfl rfl ?_
    refine XS.iloadN X31.here hx rfl (hb hby d3_44) rfl ?_
    show Steps p.tables e below (T31.setTop (mkF m 45 #[.val (.ref o), .val (.ref a), .val (.int (0 : Int32)), .val (.int (Int32.ofNat n)), .val .null, .val (.ref b31)] [(.int (Int32.ofNat n)), (.ref b31), (.ref o)])) _
    refine st32 _ ?_
    show Steps p.tables e below (T32.setTop (mkF m 48 #[.val (.ref o), .val (.ref a), .val (.int (0 : Int32)), .val (.int (Int32.ofNat n)), .val .null, .val (.ref b31)] [(.int (1 : Int32)), (.ref o)])) _
    refine st33 _ ?_
    refine XS.aloadN X33.here hx rfl (hb hby d3_51) rfl rfl ?_
    refine XS.aload X33.here hx rfl (hb hby d3_52) rfl rfl ?_
    show Steps p.tables e below (T33.setTop (mkF m 54 #[.val (.ref o), .val (.ref a), .val (.int (0 : Int32)), .val (.int (Int32.ofNat n)), .val .null, .val (.ref b31)] [(.ref b31), (.ref o)])) _
    refine st34 _ ?_
    show Steps p.tables e below (T34.setTop (mkF m 57 #[.val (.ref o), .val (.ref a), .val (.int (0 : Int32)), .val (.int (Int32.ofNat n)), .val .null, .val (.ref b31)] [])) _
    exact X34.returnOut hx Bd.returns (hb hby d3_57) hr
  · show QS Z o n g h0 n0 _ T34.heap _
    exact ⟨rfl, N34, by rw [e34]; exact K34, by rw [e34]; exact ⟨EO_e34, b31, Fw34, (Or.inr ⟨Fw33_e34, A31_e34, hch⟩)⟩⟩
set_option maxRecDepth 65536 in
set_option maxHeartbeats 40000000 in
theorem rmI4 (l : Launch) (Z : State) (a0 : Array Value) (hw : ∀ d ∈ tables_1, d.before a0 Z = true) (ws : List Jvm.Cond) (o a : Addr) (n : Nat) (g : Nat → Int32)  (h0 : Heap) (n0 : Nat) (Z0 : n0 ≤ h0.size) (hn : n ≤ 4) (hp : 0 < n) (O : Old Z n0 h0) (SK : StrSta Z) (FA : AF Z h0 a .char n (Ca g)) (hch : ∀ j, j < n → isCh (g j)) (EO : Exa Z h0 o "java/lang/String") (FV : Fld Z h0 o "java/lang/String" "value" "[B" .null) (FC : Fld Z h0 o "java/lang/String" "coder" "B" (.int (0 : Int32))) (g_o : n0 ≤ o) (hao : a ≠ o)  :
    MetFree l (⟨"java/lang/String", "<init>", "([CIILjava/lang/Void;)V"⟩ : MethodName) (head1 (Jvm.Cond.code (⟨"java/lang/String", "<init>", "([CIILjava/lang/Void;)V"⟩ : MethodName) jdk_42_method_149_code 6 none :: ws) ({ frames := 4, cells := 2, slots := 12, locals := 100 } : Room)) (fun aa_ U_ => aa_ = #[(.ref o), (.ref a), (.int (0 : Int32)), (.int (Int32.ofNat n)), .null] ∧ Z.Warmed39 U_.vm ∧ U_.heap = h0) (fun _ _ _ _ _ => True) (fun _ U_ o_ V_ => ∃ v_ L_, o_ = .returned v_ ∧ QS Z o n g h0 n0 v_ V_.heap L_ ∧ FrameEnd U_ o_ V_ L_ ({ frames := 4, cells := 2, slots := 12, locals := 100 } : Room).cells ({ frames := 4, cells := 2, slots := 12, locals := 100 } : Room).slots) := by
  rcases firstBig g n with hs | ⟨k, hk, hbg, hs⟩
  · exact rmI4A l Z a0 hw ws o a n g h0 n0 Z0 hn hp O SK FA hch EO FV FC g_o hao hs
  · exact rmI4B l Z a0 hw ws o a n g k h0 n0 Z0 hn hp O SK FA hch EO FV FC g_o hao hk hbg hs
theorem d2_0 : decode jdk_42_method_3_code 0 = .ok (.aload_n 0, 1) := by decide +kernel
theorem d2_1 : decode jdk_42_method_3_code 1 = .ok (.aload_n 1, 1) := by decide +kernel
theorem d2_2 : decode jdk_42_method_3_code 2 = .ok (.iconst 0, 1) := by decide +kernel
theorem d2_3 : decode jdk_42_method_3_code 3 = .ok (.aload_n 1, 1) := by decide +kernel
theorem d2_4 : decode jdk_42_method_3_code 4 = .ok (.arraylength, 1) := by decide +kernel
theorem d2_5 : decode jdk_42_method_3_code 5 = .ok (.aconst_null, 1) := by decide +kernel
theorem d2_6 : decode jdk_42_method_3_code 6 = .ok (.invokespecial 27, 3) := by decide +kernel
theorem d2_9 : decode jdk_42_method_3_code 9 = .ok (.return_, 1) := by decide +kernel
theorem pn_2 : plainName "java/lang/String" = true := by first | (simp [plainName, overriddenIn]; done) | decide +kernel
theorem ef_2 (m : MethodId) (x0 : Addr) (x1 : Addr) : entryFrame m #[(.ref x0), (.ref x1)] 2 = mkF m 0 #[.val (.ref x0), .val (.ref x1)] [] := by first | (simp [entryFrame, mkF, argsToLocals, Value.category]; done) | rfl
set_option maxRecDepth 65536 in
set_option maxHeartbeats 40000000 in
theorem rmI1 (l : Launch) (Z : State) (a0 : Array Value) (hw : ∀ d ∈ tables_1, d.before a0 Z = true) (ws : List Jvm.Cond) (o a : Addr) (n : Nat) (g : Nat → Int32)  (h0 : Heap) (n0 : Nat) (Z0 : n0 ≤ h0.size) (hn : n ≤ 4) (hp : 0 < n) (O : Old Z n0 h0) (SK : StrSta Z) (FA : AF Z h0 a .char n (Ca g)) (hch : ∀ j, j < n → isCh (g j)) (EO : Exa Z h0 o "java/lang/String") (FV : Fld Z h0 o "java/lang/String" "value" "[B" .null) (FC : Fld Z h0 o "java/lang/String" "coder" "B" (.int (0 : Int32))) (g_o : n0 ≤ o) (hao : a ≠ o)  :
    MetFree l (⟨"java/lang/String", "<init>", "([C)V"⟩ : MethodName) (head1 (Jvm.Cond.code (⟨"java/lang/String", "<init>", "([C)V"⟩ : MethodName) jdk_42_method_3_code 2 none :: ws) ({ frames := 5, cells := 2, slots := 12, locals := 124 } : Room)) (fun aa_ U_ => aa_ = #[(.ref o), (.ref a)] ∧ Z.Warmed39 U_.vm ∧ U_.heap = h0) (fun _ _ _ _ _ => True) (fun _ U_ o_ V_ => ∃ v_ L_, o_ = .returned v_ ∧ QS Z o n g h0 n0 v_ V_.heap L_ ∧ FrameEnd U_ o_ V_ L_ ({ frames := 5, cells := 2, slots := 12, locals := 124 } : Room).cells ({ frames := 5, cells := 2, slots := 12, locals := 124 } : Room).slots) := by
  refine MetFree.of_bodySF (plainFor_of_name pn_2) hisR ?_
  intro p e s m args below meth c s₁ Bd hml0 hP hK
  obtain ⟨rfl, hZ, hh⟩ := hP
  have hx := Bd.exec
  have hby := Bd.bytes
  have hml : c.maxLocals = 2 := hml0
  have hown : s.vm.findClass "java/lang/String" = some m.cls := findClass_of_methodNamed Bd.named
  have hnm := (name_of_methodNamed Bd.named Bd.method).1
  have X0 : Stand p l e ({ frames := 5, cells := 2, slots := 12, locals := 124 } : Room) s m #[(.ref o), (.ref a)] below meth c s₁ [] 0 0 := Stand.of_body Bd
  have e0 : s₁.heap = h0 := by rw [← hh, Bd.state]; rfl
  have N0 := Fr.nil n0
  have pre0 : ∀ zz, Steps p.tables e below (s₁.setTop (mkF m 0 #[.val (.ref o), .val (.ref a)] [])) zz → Steps p.tables e below (s₁.setTop (entryFrame m #[(.ref o), (.ref a)] 2)) zz := fun zz k => castTop (ef_2 m o a) k
  obtain ⟨_, _, ⟨T35, L35, k35, n35⟩, -, X35, ⟨Lc35, hQ35, l35, y35, z35⟩, st35⟩ := X0.specialBack hx (y := (⟨"java/lang/String", "<init>", "([CIILjava/lang/Void;)V"⟩ : MethodName)) rfl hown (mvT hZ (hw _ (List.mem_of_getElem? (i := 12) rfl))) (mvT hZ (hw _ (List.mem_of_getElem? (i := 13) rfl))) (mvT hZ (hw _ (List.mem_of_getElem? (i := 15) rfl))) (by decide) (backOf (W := 0) (rmI4 l Z a0 hw [] o a n g h0 n0 Z0 hn hp O SK FA hch EO FV FC g_o hao) hZ (hw _ (List.mem_of_getElem? (i := 15) rfl)) (hw _ (List.mem_of_getElem? (i := 7) rfl)) (by decide) (by decide)) (g := (mkF m 6 #[.val (.ref o), .val (.ref a)] [.null, (.int (Int32.ofNat n)), (.int (0 : Int32)), (.ref a), (.ref o)])) rfl (by rw [hml]; rfl) (Steps.refl _) (a := o) (argsL := [(.ref a), (.int (0 : Int32)), (.int (Int32.ofNat n)), .null]) (rest := []) (lenOf pd_2 rfl) rfl (by show 2 * 0 + _ ≤ _; exact Nat.le_of_eq rfl) (hb hby d2_6) (fun _ _ => ⟨rfl, e0, (by decide : 0 + 2 ≤ _), (by decide : 0 + 12 ≤ _)⟩)
  dsimp only [Pt.U, Pt.locs, Pt.cells, Pt.slots] at X35 l35 y35 z35 st35 hQ35
  subst l35 y35 z35
  obtain ⟨rfl, N35q, K35, S35⟩ := hQ35
  have N35 := Fr.app N0 N35q
  have EO_e35 := EO.keep K35
  have FA_e35 := FA.keep K35 (notin1 hao)
  have KK35 := (Keep.refl h0 [o]).trans K35 (fun x r => by cases List.mem_singleton.mp r; exact (Or.inl (List.mem_of_getElem? (i := 0) rfl)))
  have Z35 : n0 ≤ T35.heap.size := Nat.le_trans Z0 K35.1
  have O35 := O.keep K35 (all1 g_o)
  obtain ⟨fs, hr, hrun, hended, hW, hsame⟩ := X35.leave (v := none) (fun _ => rfl)
  refine ⟨_, _, pre0 _ ?_, hrun, hended, _, _, rfl, ?_, ⟨_, rfl⟩, hW, hsame.mono (by decide) (by decide)⟩
  · show Steps p.tables e below (s₁.setTop (mkF m 0 #[.val (.ref o), .val (.ref a)] [])) _
    refine XS.aloadN X0.here hx rfl (hb hby d2_0) rfl rfl ?_
    refine XS.aloadN X0.here hx rfl (hb hby d2_1) rfl rfl ?_
    refine XS.iconst X0.here hx rfl (hb hby d2_2) ?_
    refine XS.aloadN X0.here hx rfl (hb hby d2_3) rfl rfl ?_
    show Steps p.tables e below (s₁.setTop (mkF m 4 #[.val (.ref o), .val (.ref a)] [(.ref a), (.int (0 : Int32)), (.ref a), (.ref o)])) _
    refine lenA X0 hx hZ e0 FA (g := (mkF m 4 #[.val (.ref o), .val (.ref a)] [(.ref a), (.int (0 : Int32)), (.ref a), (.ref o)])) rfl rfl (hb hby d2_4) ?_
    refine XS.aconstNull X0.here hx rfl (hb hby d2_5) ?_
    show Steps p.tables e below (s₁.setTop (mkF m 6 #[.val (.ref o), .val (.ref a)] [.null, (.int (Int32.ofNat n)), (.int (0 : Int32)), (.ref a), (.ref o)])) _
    refine st35.trans ?_
    show Steps p.tables e below (T35.setTop (mkF m 9 #[.val (.ref o), .val (.ref a)] [])) _
    exact X35.returnOut hx Bd.returns (hb hby d2_9) hr
  · show QS Z o n g h0 n0 _ T35.heap _
    exact ⟨rfl, N35, KK35, S35⟩
theorem d10_0 : decode jdk_42_method_152_code 0 = .ok (.getstatic 38, 3) := by decide +kernel
theorem d10_3 : decode jdk_42_method_152_code 3 = .ok (.ifCond .eq 10, 3) := by decide +kernel
theorem d10_6 : decode jdk_42_method_152_code 6 = .ok (.aload_n 0, 1) := by decide +kernel
theorem d10_7 : decode jdk_42_method_152_code 7 = .ok (.getfield 15, 3) := by decide +kernel
theorem d10_10 : decode jdk_42_method_152_code 10 = .ok (.goto 4, 3) := by decide +kernel
theorem d10_13 : decode jdk_42_method_152_code 13 = .ok (.iconst 1, 1) := by decide +kernel
theorem d10_14 : decode jdk_42_method_152_code 14 = .ok (.ireturn, 1) := by decide +kernel
theorem pn_10 : plainName "java/lang/String" = true := by first | (simp [plainName, overriddenIn]; done) | decide +kernel
theorem ef_10 (m : MethodId) (x0 : Addr) : entryFrame m #[(.ref x0)] 1 = mkF m 0 #[.val (.ref x0)] [] := by first | (simp [entryFrame, mkF, argsToLocals, Value.category]; done) | rfl
set_option maxRecDepth 65536 in
set_option maxHeartbeats 40000000 in
theorem rmCD0 (l : Launch) (Z : State) (a0 : Array Value) (hw : ∀ d ∈ tables_1, d.before a0 Z = true) (ws : List Jvm.Cond) (o : Addr)  (h0 : Heap) (n0 : Nat) (Z0 : n0 ≤ h0.size) (O : Old Z n0 h0) (SK : StrSta Z) (EO : Exa Z h0 o "java/lang/String") (FC : Fld Z h0 o "java/lang/String" "coder" "B" (.int (0 : Int32)))  :
    MetFree l (⟨"java/lang/String", "coder", "()B"⟩ : MethodName) (head1 (Jvm.Cond.code (⟨"java/lang/String", "coder", "()B"⟩ : MethodName) jdk_42_method_152_code 1 (some .byte) :: ws) ({ frames := 0, cells := 0, slots := 0, locals := 0 } : Room)) (fun aa_ U_ => aa_ = #[(.ref o)] ∧ Z.Warmed39 U_.vm ∧ U_.heap = h0) (fun _ _ _ _ _ => True) (fun _ U_ o_ V_ => ∃ v_ L_, o_ = .returned v_ ∧ QI (0 : Int32) h0 n0 v_ V_.heap L_ ∧ FrameEnd U_ o_ V_ L_ ({ frames := 0, cells := 0, slots := 0, locals := 0 } : Room).cells ({ frames := 0, cells := 0, slots := 0, locals := 0 } : Room).slots) := by
  refine MetFree.of_bodySF (plainFor_of_name pn_10) hisR ?_
  intro p e s m args below meth c s₁ Bd hml0 hP hK
  obtain ⟨rfl, hZ, hh⟩ := hP
  have hx := Bd.exec
  have hby := Bd.bytes
  have hml : c.maxLocals = 1 := hml0
  have hown : s.vm.findClass "java/lang/String" = some m.cls := findClass_of_methodNamed Bd.named
  have hnm := (name_of_methodNamed Bd.named Bd.method).1
  have X0 : Stand p l e ({ frames := 0, cells := 0, slots := 0, locals := 0 } : Room) s m #[(.ref o)] below meth c s₁ [] 0 0 := Stand.of_body Bd
  have e0 : s₁.heap = h0 := by rw [← hh, Bd.state]; rfl
  have N0 := Fr.nil n0
  have pre0 : ∀ zz, Steps p.tables e below (s₁.setTop (mkF m 0 #[.val (.ref o)] [])) zz → Steps p.tables e below (s₁.setTop (entryFrame m #[(.ref o)] 1)) zz := fun zz k => castTop (ef_10 m o) k
  obtain ⟨kc, hkc, hcs⟩ := SK.1
  obtain ⟨T36, X36, e36, st36⟩ := getS2 X0 hx hZ hown (host := "") (Or.inl (hw _ (List.mem_of_getElem? (i := 19) rfl))) Via.refl e0 (Sta.ext O.2 hcs) (g := (mkF m 0 #[.val (.ref o)] [])) rfl (hb hby d10_0)
  obtain ⟨T37, X37, e37, st37⟩ := getF X36 hx hZ hown (host := "") (Or.inl (hw _ (List.mem_of_getElem? (i := 31) rfl))) Via.refl e36 FC (g := (mkF m 7 #[.val (.ref o)] [(.ref o)])) rfl rfl (hb hby d10_7)
  obtain ⟨fs, hr, hrun, hended, hW, hsame⟩ := X37.leave (v := some (.int (0 : Int32))) (fun h => by rw [Bd.returns] at h; cases h)
  refine ⟨_, _, pre0 _ ?_, hrun, hended, _, _, rfl, ?_, ⟨_, rfl⟩, hW, hsame.mono (by decide) (by decide)⟩
  · show Steps p.tables e below (s₁.setTop (mkF m 0 #[.val (.ref o)] [])) _
    refine st36 _ ?_
    refine XS.ifNo X36.here hx rfl (hb hby d10_3) rfl ((if0 _ _).trans (feq hkc).1) ?_
    refine XS.aloadN X36.here hx rfl (hb hby d10_6) rfl rfl ?_
    show Steps p.tables e below (T36.setTop (mkF m 7 #[.val (.ref o)] [(.ref o)])) _
    refine st37 _ ?_
    refine XS.goto X37.here hx rfl (pc0 := 10) (pc' := 14) rfl (hb hby d10_10) (by decide) (by decide) ?_
    show Steps p.tables e below (T37.setTop (mkF m 14 #[.val (.ref o)] [(.int (0 : Int32))])) _
    exact retN X37 hx (t := .byte) Bd.returns (by simp) (hb hby d10_14) hr
  · show QI (0 : Int32) h0 n0 _ T37.heap _
    rw [e37]
    exact ⟨rfl, N0, rfl⟩
set_option maxRecDepth 65536 in
set_option maxHeartbeats 40000000 in
theorem rmCD1 (l : Launch) (Z : State) (a0 : Array Value) (hw : ∀ d ∈ tables_1, d.before a0 Z = true) (ws : List Jvm.Cond) (o : Addr)  (h0 : Heap) (n0 : Nat) (Z0 : n0 ≤ h0.size) (O : Old Z n0 h0) (SK : StrSta Z) (EO : Exa Z h0 o "java/lang/String") (FC : Fld Z h0 o "java/lang/String" "coder" "B" (.int (1 : Int32)))  :
    MetFree l (⟨"java/lang/String", "coder", "()B"⟩ : MethodName) (head1 (Jvm.Cond.code (⟨"java/lang/String", "coder", "()B"⟩ : MethodName) jdk_42_method_152_code 1 (some .byte) :: ws) ({ frames := 0, cells := 0, slots := 0, locals := 0 } : Room)) (fun aa_ U_ => aa_ = #[(.ref o)] ∧ Z.Warmed39 U_.vm ∧ U_.heap = h0) (fun _ _ _ _ _ => True) (fun _ U_ o_ V_ => ∃ v_ L_, o_ = .returned v_ ∧ QI (1 : Int32) h0 n0 v_ V_.heap L_ ∧ FrameEnd U_ o_ V_ L_ ({ frames := 0, cells := 0, slots := 0, locals := 0 } : Room).cells ({ frames := 0, cells := 0, slots := 0, locals := 0 } : Room).slots) := by
  refine MetFree.of_bodySF (plainFor_of_name pn_10) hisR ?_
  intro p e s m args below meth c s₁ Bd hml0 hP hK
  obtain ⟨rfl, hZ, hh⟩ := hP
  have hx := Bd.exec
  have hby := Bd.bytes
  have hml : c.maxLocals = 1 := hml0
  have hown : s.vm.findClass "java/lang/String" = some m.cls := findClass_of_methodNamed Bd.named
  have hnm := (name_of_methodNamed Bd.named Bd.method).1
  have X0 : Stand p l e ({ frames := 0, cells := 0, slots := 0, locals := 0 } : Room) s m #[(.ref o)] below meth c s₁ [] 0 0 := Stand.of_body Bd
  have e0 : s₁.heap = h0 := by rw [← hh, Bd.state]; rfl
  have N0 := Fr.nil n0
  have pre0 : ∀ zz, Steps p.tables e below (s₁.setTop (mkF m 0 #[.val (.ref o)] [])) zz → Steps p.tables e below (s₁.setTop (entryFrame m #[(.ref o)] 1)) zz := fun zz k => castTop (ef_10 m o) k
  obtain ⟨kc, hkc, hcs⟩ := SK.1
  obtain ⟨T38, X38, e38, st38⟩ := getS2 X0 hx hZ hown (host := "") (Or.inl (hw _ (List.mem_of_getElem? (i := 19) rfl))) Via.refl e0 (Sta.ext O.2 hcs) (g := (mkF m 0 #[.val (.ref o)] [])) rfl (hb hby d10_0)
  obtain ⟨T39, X39, e39, st39⟩ := getF X38 hx hZ hown (host := "") (Or.inl (hw _ (List.mem_of_getElem? (i := 31) rfl))) Via.refl e38 FC (g := (mkF m 7 #[.val (.ref o)] [(.ref o)])) rfl rfl (hb hby d10_7)
  obtain ⟨fs, hr, hrun, hended, hW, hsame⟩ := X39.leave (v := some (.int (1 : Int32))) (fun h => by rw [Bd.returns] at h; cases h)
  refine ⟨_, _, pre0 _ ?_, hrun, hended, _, _, rfl, ?_, ⟨_, rfl⟩, hW, hsame.mono (by decide) (by decide)⟩
  · show Steps p.tables e below (s₁.setTop (mkF m 0 #[.val (.ref o)] [])) _
    refine st38 _ ?_
    refine XS.ifNo X38.here hx rfl (hb hby d10_3) rfl ((if0 _ _).trans (feq hkc).1) ?_
    refine XS.aloadN X38.here hx rfl (hb hby d10_6) rfl rfl ?_
    show Steps p.tables e below (T38.setTop (mkF m 7 #[.val (.ref o)] [(.ref o)])) _
    refine st39 _ ?_
    refine XS.goto X39.here hx rfl (pc0 := 10) (pc' := 14) rfl (hb hby d10_10) (by decide) (by decide) ?_
    show Steps p.tables e below (T39.setTop (mkF m 14 #[.val (.ref o)] [(.int (1 : Int32))])) _
    exact retN X39 hx (t := .byte) Bd.returns (by simp) (hb hby d10_14) hr
  · show QI (1 : Int32) h0 n0 _ T39.heap _
    rw [e39]
    exact ⟨rfl, N0, rfl⟩
theorem d12_0 : decode jdk_42_method_154_code 0 = .ok (.getstatic 38, 3) := by decide +kernel
theorem d12_3 : decode jdk_42_method_154_code 3 = .ok (.ifCond .eq 14, 3) := by decide +kernel
theorem d12_6 : decode jdk_42_method_154_code 6 = .ok (.aload_n 0, 1) := by decide +kernel
theorem d12_7 : decode jdk_42_method_154_code 7 = .ok (.getfield 15, 3) := by decide +kernel
theorem d12_10 : decode jdk_42_method_154_code 10 = .ok (.ifCond .ne 7, 3) := by decide +kernel
theorem d12_13 : decode jdk_42_method_154_code 13 = .ok (.iconst 1, 1) := by decide +kernel
theorem d12_14 : decode jdk_42_method_154_code 14 = .ok (.goto 4, 3) := by decide +kernel
theorem d12_17 : decode jdk_42_method_154_code 17 = .ok (.iconst 0, 1) := by decide +kernel
theorem d12_18 : decode jdk_42_method_154_code 18 = .ok (.ireturn, 1) := by decide +kernel
theorem pn_12 : plainName "java/lang/String" = true := by first | (simp [plainName, overriddenIn]; done) | decide +kernel
theorem ef_12 (m : MethodId) (x0 : Addr) : entryFrame m #[(.ref x0)] 1 = mkF m 0 #[.val (.ref x0)] [] := by first | (simp [entryFrame, mkF, argsToLocals, Value.category]; done) | rfl
set_option maxRecDepth 65536 in
set_option maxHeartbeats 40000000 in
theorem rmIL0 (l : Launch) (Z : State) (a0 : Array Value) (hw : ∀ d ∈ tables_1, d.before a0 Z = true) (ws : List Jvm.Cond) (o : Addr)  (h0 : Heap) (n0 : Nat) (Z0 : n0 ≤ h0.size) (O : Old Z n0 h0) (SK : StrSta Z) (EO : Exa Z h0 o "java/lang/String") (FC : Fld Z h0 o "java/lang/String" "coder" "B" (.int (0 : Int32)))  :
    MetFree l (⟨"java/lang/String", "isLatin1", "()Z"⟩ : MethodName) (head1 (Jvm.Cond.code (⟨"java/lang/String", "isLatin1", "()Z"⟩ : MethodName) jdk_42_method_154_code 1 (some .boolean) :: ws) ({ frames := 0, cells := 0, slots := 0, locals := 0 } : Room)) (fun aa_ U_ => aa_ = #[(.ref o)] ∧ Z.Warmed39 U_.vm ∧ U_.heap = h0) (fun _ _ _ _ _ => True) (fun _ U_ o_ V_ => ∃ v_ L_, o_ = .returned v_ ∧ QI (1 : Int32) h0 n0 v_ V_.heap L_ ∧ FrameEnd U_ o_ V_ L_ ({ frames := 0, cells := 0, slots := 0, locals := 0 } : Room).cells ({ frames := 0, cells := 0, slots := 0, locals := 0 } : Room).slots) := by
  refine MetFree.of_bodySF (plainFor_of_name pn_12) hisR ?_
  intro p e s m args below meth c s₁ Bd hml0 hP hK
  obtain ⟨rfl, hZ, hh⟩ := hP
  have hx := Bd.exec
  have hby := Bd.bytes
  have hml : c.maxLocals = 1 := hml0
  have hown : s.vm.findClass "java/lang/String" = some m.cls := findClass_of_methodNamed Bd.named
  have hnm := (name_of_methodNamed Bd.named Bd.method).1
  have X0 : Stand p l e ({ frames := 0, cells := 0, slots := 0, locals := 0 } : Room) s m #[(.ref o)] below meth c s₁ [] 0 0 := Stand.of_body Bd
  have e0 : s₁.heap = h0 := by rw [← hh, Bd.state]; rfl
  have N0 := Fr.nil n0
  have pre0 : ∀ zz, Steps p.tables e below (s₁.setTop (mkF m 0 #[.val (.ref o)] [])) zz → Steps p.tables e below (s₁.setTop (entryFrame m #[(.ref o)] 1)) zz := fun zz k => castTop (ef_12 m o) k
  obtain ⟨kc, hkc, hcs⟩ := SK.1
  obtain ⟨T40, X40, e40, st40⟩ := getS2 X0 hx hZ hown (host := "") (Or.inl (hw _ (List.mem_of_getElem? (i := 19) rfl))) Via.refl e0 (Sta.ext O.2 hcs) (g := (mkF m 0 #[.val (.ref o)] [])) rfl (hb hby d12_0)
  obtain ⟨T41, X41, e41, st41⟩ := getF X40 hx hZ hown (host := "") (Or.inl (hw _ (List.mem_of_getElem? (i := 31) rfl))) Via.refl e40 FC (g := (mkF m 7 #[.val (.ref o)] [(.ref o)])) rfl rfl (hb hby d12_7)
  obtain ⟨fs, hr, hrun, hended, hW, hsame⟩ := X41.leave (v := some (.int (1 : Int32))) (fun h => by rw [Bd.returns] at h; cases h)
  refine ⟨_, _, pre0 _ ?_, hrun, hended, _, _, rfl, ?_, ⟨_, rfl⟩, hW, hsame.mono (by decide) (by decide)⟩
  · show Steps p.tables e below (s₁.setTop (mkF m 0 #[.val (.ref o)] [])) _
    refine st40 _ ?_
    refine XS.ifNo X40.here hx rfl (hb hby d12_3) rfl ((if0 _ _).trans (feq hkc).1) ?_
    refine XS.aloadN X40.here hx rfl (hb hby d12_6) rfl rfl ?_
    show Steps p.tables e below (T40.setTop (mkF m 7 #[.val (.ref o)] [(.ref o)])) _
    refine st41 _ ?_
    refine XS.ifNo X41.here hx rfl (hb hby d12_10) rfl ((if0 _ _).trans (teq (rfl : (0 : Int32) = (0 : Int32))).2) ?_
    refine XS.iconst X41.here hx rfl (hb hby d12_13) ?_
    refine XS.goto X41.here hx rfl (pc0 := 14) (pc' := 18) rfl (hb hby d12_14) (by decide) (by decide) ?_
    show Steps p.tables e below (T41.setTop (mkF m 18 #[.val (.ref o)] [(.int (1 : Int32))])) _
    exact retN X41 hx (t := .boolean) Bd.returns (by simp) (hb hby d12_18) hr
  · show QI (1 : Int32) h0 n0 _ T41.heap _
    rw [e41]
    exact ⟨rfl, N0, rfl⟩
set_option maxRecDepth 65536 in
set_option maxHeartbeats 40000000 in
theorem rmIL1 (l : Launch) (Z : State) (a0 : Array Value) (hw : ∀ d ∈ tables_1, d.before a0 Z = true) (ws : List Jvm.Cond) (o : Addr)  (h0 : Heap) (n0 : Nat) (Z0 : n0 ≤ h0.size) (O : Old Z n0 h0) (SK : StrSta Z) (EO : Exa Z h0 o "java/lang/String") (FC : Fld Z h0 o "java/lang/String" "coder" "B" (.int (1 : Int32)))  :
    MetFree l (⟨"java/lang/String", "isLatin1", "()Z"⟩ : MethodName) (head1 (Jvm.Cond.code (⟨"java/lang/String", "isLatin1", "()Z"⟩ : MethodName) jdk_42_method_154_code 1 (some .boolean) :: ws) ({ frames := 0, cells := 0, slots := 0, locals := 0 } : Room)) (fun aa_ U_ => aa_ = #[(.ref o)] ∧ Z.Warmed39 U_.vm ∧ U_.heap = h0) (fun _ _ _ _ _ => True) (fun _ U_ o_ V_ => ∃ v_ L_, o_ = .returned v_ ∧ QI (0 : Int32) h0 n0 v_ V_.heap L_ ∧ FrameEnd U_ o_ V_ L_ ({ frames := 0, cells := 0, slots := 0, locals := 0 } : Room).cells ({ frames := 0, cells := 0, slots := 0, locals := 0 } : Room).slots) := by
  refine MetFree.of_bodySF (plainFor_of_name pn_12) hisR ?_
  intro p e s m args below meth c s₁ Bd hml0 hP hK
  obtain ⟨rfl, hZ, hh⟩ := hP
  have hx := Bd.exec
  have hby := Bd.bytes
  have hml : c.maxLocals = 1 := hml0
  have hown : s.vm.findClass "java/lang/String" = some m.cls := findClass_of_methodNamed Bd.named
  have hnm := (name_of_methodNamed Bd.named Bd.method).1
  have X0 : Stand p l e ({ frames := 0, cells := 0, slots := 0, locals := 0 } : Room) s m #[(.ref o)] below meth c s₁ [] 0 0 := Stand.of_body Bd
  have e0 : s₁.heap = h0 := by rw [← hh, Bd.state]; rfl
  have N0 := Fr.nil n0
  have pre0 : ∀ zz, Steps p.tables e below (s₁.setTop (mkF m 0 #[.val (.ref o)] [])) zz → Steps p.tables e below (s₁.setTop (entryFrame m #[(.ref o)] 1)) zz := fun zz k => castTop (ef_12 m o) k
  obtain ⟨kc, hkc, hcs⟩ := SK.1
  obtain ⟨T42, X42, e42, st42⟩ := getS2 X0 hx hZ hown (host := "") (Or.inl (hw _ (List.mem_of_getElem? (i := 19) rfl))) Via.refl e0 (Sta.ext O.2 hcs) (g := (mkF m 0 #[.val (.ref o)] [])) rfl (hb hby d12_0)
  obtain ⟨T43, X43, e43, st43⟩ := getF X42 hx hZ hown (host := "") (Or.inl (hw _ (List.mem_of_getElem? (i := 31) rfl))) Via.refl e42 FC (g := (mkF m 7 #[.val (.ref o)] [(.ref o)])) rfl rfl (hb hby d12_7)
  obtain ⟨fs, hr, hrun, hended, hW, hsame⟩ := X43.leave (v := some (.int (0 : Int32))) (fun h => by rw [Bd.returns] at h; cases h)
  refine ⟨_, _, pre0 _ ?_, hrun, hended, _, _, rfl, ?_, ⟨_, rfl⟩, hW, hsame.mono (by decide) (by decide)⟩
  · show Steps p.tables e below (s₁.setTop (mkF m 0 #[.val (.ref o)] [])) _
    refine st42 _ ?_
    refine XS.ifNo X42.here hx rfl (hb hby d12_3) rfl ((if0 _ _).trans (feq hkc).1) ?_
    refine XS.aloadN X42.here hx rfl (hb hby d12_6) rfl rfl ?_
    show Steps p.tables e below (T42.setTop (mkF m 7 #[.val (.ref o)] [(.ref o)])) _
    refine st43 _ ?_
    refine XS.ifYes X43.here hx rfl (pc0 := 10) (pc' := 17) rfl (hb hby d12_10) rfl ((if0 _ _).trans (feq (by decide : ¬ ((1 : Int32) = (0 : Int32)))).2) (by decide) (by decide) ?_
    refine XS.iconst X43.here hx rfl (hb hby d12_17) ?_
    show Steps p.tables e below (T43.setTop (mkF m 18 #[.val (.ref o)] [(.int (0 : Int32))])) _
    exact retN X43 hx (t := .boolean) Bd.returns (by simp) (hb hby d12_18) hr
  · show QI (0 : Int32) h0 n0 _ T43.heap _
    rw [e43]
    exact ⟨rfl, N0, rfl⟩
theorem d9_0 : decode jdk_42_method_54_code 0 = .ok (.aload_n 0, 1) := by decide +kernel
theorem d9_1 : decode jdk_42_method_54_code 1 = .ok (.getfield 9, 3) := by decide +kernel
theorem d9_4 : decode jdk_42_method_54_code 4 = .ok (.arraylength, 1) := by decide +kernel
theorem d9_5 : decode jdk_42_method_54_code 5 = .ok (.aload_n 0, 1) := by decide +kernel
theorem d9_6 : decode jdk_42_method_54_code 6 = .ok (.invokevirtual 335, 3) := by decide +kernel
theorem d9_9 : decode jdk_42_method_54_code 9 = .ok (.ishr, 1) := by decide +kernel
theorem d9_10 : decode jdk_42_method_54_code 10 = .ok (.ireturn, 1) := by decide +kernel
theorem pn_9 : plainName "java/lang/String" = true := by first | (simp [plainName, overriddenIn]; done) | decide +kernel
theorem ef_9 (m : MethodId) (x0 : Addr) : entryFrame m #[(.ref x0)] 1 = mkF m 0 #[.val (.ref x0)] [] := by first | (simp [entryFrame, mkF, argsToLocals, Value.category]; done) | rfl
set_option maxRecDepth 65536 in
set_option maxHeartbeats 40000000 in
theorem rmLEN0 (l : Launch) (Z : State) (a0 : Array Value) (hw : ∀ d ∈ tables_1, d.before a0 Z = true) (ws : List Jvm.Cond) (o b : Addr) (n : Nat) (g : Nat → Int32)  (h0 : Heap) (n0 : Nat) (Z0 : n0 ≤ h0.size) (hn : n ≤ 4) (O : Old Z n0 h0) (SK : StrSta Z) (EO : Exa Z h0 o "java/lang/String") (FC : Fld Z h0 o "java/lang/String" "coder" "B" (.int (0 : Int32))) (FV : Fld Z h0 o "java/lang/String" "value" "[B" (.ref b)) (FB : AF Z h0 b .byte n (Lb g))  :
    MetFree l (⟨"java/lang/String", "length", "()I"⟩ : MethodName) (head1 (Jvm.Cond.code (⟨"java/lang/String", "length", "()I"⟩ : MethodName) jdk_42_method_54_code 1 (some .int) :: ws) ({ frames := 1, cells := 0, slots := 0, locals := 14 } : Room)) (fun aa_ U_ => aa_ = #[(.ref o)] ∧ Z.Warmed39 U_.vm ∧ U_.heap = h0) (fun _ _ _ _ _ => True) (fun _ U_ o_ V_ => ∃ v_ L_, o_ = .returned v_ ∧ QI (Int32.ofNat n) h0 n0 v_ V_.heap L_ ∧ FrameEnd U_ o_ V_ L_ ({ frames := 1, cells := 0, slots := 0, locals := 14 } : Room).cells ({ frames := 1, cells := 0, slots := 0, locals := 14 } : Room).slots) := by
  refine MetFree.of_bodySF (plainFor_of_name pn_9) hisR ?_
  intro p e s m args below meth c s₁ Bd hml0 hP hK
  obtain ⟨rfl, hZ, hh⟩ := hP
  have hx := Bd.exec
  have hby := Bd.bytes
  have hml : c.maxLocals = 1 := hml0
  have hown : s.vm.findClass "java/lang/String" = some m.cls := findClass_of_methodNamed Bd.named
  have hnm := (name_of_methodNamed Bd.named Bd.method).1
  have X0 : Stand p l e ({ frames := 1, cells := 0, slots := 0, locals := 14 } : Room) s m #[(.ref o)] below meth c s₁ [] 0 0 := Stand.of_body Bd
  have e0 : s₁.heap = h0 := by rw [← hh, Bd.state]; rfl
  have N0 := Fr.nil n0
  have pre0 : ∀ zz, Steps p.tables e below (s₁.setTop (mkF m 0 #[.val (.ref o)] [])) zz → Steps p.tables e below (s₁.setTop (entryFrame m #[(.ref o)] 1)) zz := fun zz k => castTop (ef_9 m o) k
  obtain ⟨T44, X44, e44, st44⟩ := getF X0 hx hZ hown (host := "") (Or.inl (hw _ (List.mem_of_getElem? (i := 33) rfl))) Via.refl e0 FV (g := (mkF m 1 #[.val (.ref o)] [(.ref o)])) rfl rfl (hb hby d9_1)
  obtain ⟨cq45, kq45, q45a, q45b, q45c⟩ := isOf hZ e44 EO
  obtain ⟨_, _, ⟨T45, L45, k45, n45⟩, -, X45, ⟨Lc45, hQ45, l45, y45, z45⟩, st45⟩ := X44.virtualBack hx (y := (⟨"java/lang/String", "coder", "()B"⟩ : MethodName)) (z := (⟨"java/lang/String", "coder", "()B"⟩ : MethodName)) hown (mvT hZ (hw _ (List.mem_of_getElem? (i := 44) rfl))) (mvT hZ (hw _ (List.mem_of_getElem? (i := 45) rfl))) (notFace_of_selects (args := #[]) (mvT hZ (hw _ (List.mem_of_getElem? (i := 47) rfl)))) (mvT hZ (hw _ (List.mem_of_getElem? (i := 47) rfl))) (mvT hZ (hw _ (List.mem_of_getElem? (i := 46) rfl))) (by decide) (backOf (W := 1) (rmCD0 l Z a0 hw [] o h0 n0 Z0 O SK EO FC) hZ (hw _ (List.mem_of_getElem? (i := 48) rfl)) (hw _ (List.mem_of_getElem? (i := 7) rfl)) (by decide) (by decide)) q45a q45c (g := (mkF m 6 #[.val (.ref o)] [(.ref o), (.int (Int32.ofNat n))])) rfl (by rw [hml]; rfl) (Steps.refl _) (argsL := []) (rest := [(.int (Int32.ofNat n))]) (lenOf pd_9 rfl) rfl (by show 2 * 0 + _ ≤ _; exact Nat.le_of_eq rfl) (hb hby d9_6) (fun _ _ => ⟨rfl, e44, (by decide : 0 + 0 ≤ _), (by decide : 0 + 0 ≤ _)⟩)
  dsimp only [Pt.U, Pt.locs, Pt.cells, Pt.slots] at X45 l45 y45 z45 st45 hQ45
  subst l45 y45 z45
  obtain ⟨rfl, N45q, e45⟩ := hQ45
  have N45 := Fr.app N0 N45q
  obtain ⟨fs, hr, hrun, hended, hW, hsame⟩ := X45.leave (v := some (.int (Int32.ofNat n))) (fun h => by rw [Bd.returns] at h; cases h)
  refine ⟨_, _, pre0 _ ?_, hrun, hended, _, _, rfl, ?_, ⟨_, rfl⟩, hW, hsame.mono (by decide) (by decide)⟩
  · show Steps p.tables e below (s₁.setTop (mkF m 0 #[.val (.ref o)] [])) _
    refine XS.aloadN X0.here hx rfl (hb hby d9_0) rfl rfl ?_
    show Steps p.tables e below (s₁.setTop (mkF m 1 #[.val (.ref o)] [(.ref o)])) _
    refine st44 _ ?_
    show Steps p.tables e below (T44.setTop (mkF m 4 #[.val (.ref o)] [(.ref b)])) _
    refine lenA X44 hx hZ e44 FB (g := (mkF m 4 #[.val (.ref o)] [(.ref b)])) rfl rfl (hb hby d9_4) ?_
    refine XS.aloadN X44.here hx rfl (hb hby d9_5) rfl rfl ?_
    show Steps p.tables e below (T44.setTop (mkF m 6 #[.val (.ref o)] [(.ref o), (.int (Int32.ofNat n))])) _
    refine st45.trans ?_
    refine XS.ishr X45.here hx rfl (hb hby d9_9) rfl ?_
    show Steps p.tables e below (T45.setTop (mkF m 10 #[.val (.ref o)] [(.int ((Int32.ofNat n) >>> ((0 : Int32) &&& 31)))])) _
    rw [show ((Int32.ofNat n) >>> ((0 : Int32) &&& 31)) = (Int32.ofNat n) from shr0 _]
    show Steps p.tables e below (T45.setTop (mkF m 10 #[.val (.ref o)] [(.int (Int32.ofNat n))])) _
    exact retI X45 hx Bd.returns (hb hby d9_10) hr
  · show QI (Int32.ofNat n) h0 n0 _ T45.heap _
    rw [e45]
    exact ⟨rfl, N45, rfl⟩
set_option maxRecDepth 65536 in
set_option maxHeartbeats 40000000 in
theorem rmLEN1 (l : Launch) (Z : State) (a0 : Array Value) (hw : ∀ d ∈ tables_1, d.before a0 Z = true) (ws : List Jvm.Cond) (o b : Addr) (n : Nat) (g : Nat → Int32)  (h0 : Heap) (n0 : Nat) (Z0 : n0 ≤ h0.size) (hn : n ≤ 4) (O : Old Z n0 h0) (SK : StrSta Z) (EO : Exa Z h0 o "java/lang/String") (FC : Fld Z h0 o "java/lang/String" "coder" "B" (.int (1 : Int32))) (FV : Fld Z h0 o "java/lang/String" "value" "[B" (.ref b)) (FB : AF Z h0 b .byte (2 * n) (Ub g))  :
    MetFree l (⟨"java/lang/String", "length", "()I"⟩ : MethodName) (head1 (Jvm.Cond.code (⟨"java/lang/String", "length", "()I"⟩ : MethodName) jdk_42_method_54_code 1 (some .int) :: ws) ({ frames := 1, cells := 0, slots := 0, locals := 14 } : Room)) (fun aa_ U_ => aa_ = #[(.ref o)] ∧ Z.Warmed39 U_.vm ∧ U_.heap = h0) (fun _ _ _ _ _ => True) (fun _ U_ o_ V_ => ∃ v_ L_, o_ = .returned v_ ∧ QI (Int32.ofNat n) h0 n0 v_ V_.heap L_ ∧ FrameEnd U_ o_ V_ L_ ({ frames := 1, cells := 0, slots := 0, locals := 14 } : Room).cells ({ frames := 1, cells := 0, slots := 0, locals := 14 } : Room).slots) := by
  refine MetFree.of_bodySF (plainFor_of_name pn_9) hisR ?_
  intro p e s m args below meth c s₁ Bd hml0 hP hK
  obtain ⟨rfl, hZ, hh⟩ := hP
  have hx := Bd.exec
  have hby := Bd.bytes
  have hml : c.maxLocals = 1 := hml0
  have hown : s.vm.findClass "java/lang/String" = some m.cls := findClass_of_methodNamed Bd.named
  have hnm := (name_of_methodNamed Bd.named Bd.method).1
  have X0 : Stand p l e ({ frames := 1, cells := 0, slots := 0, locals := 14 } : Room) s m #[(.ref o)] below meth c s₁ [] 0 0 := Stand.of_body Bd
  have e0 : s₁.heap = h0 := by rw [← hh, Bd.state]; rfl
  have N0 := Fr.nil n0
  have pre0 : ∀ zz, Steps p.tables e below (s₁.setTop (mkF m 0 #[.val (.ref o)] [])) zz → Steps p.tables e below (s₁.setTop (entryFrame m #[(.ref o)] 1)) zz := fun zz k => castTop (ef_9 m o) k
  obtain ⟨T46, X46, e46, st46⟩ := getF X0 hx hZ hown (host := "") (Or.inl (hw _ (List.mem_of_getElem? (i := 33) rfl))) Via.refl e0 FV (g := (mkF m 1 #[.val (.ref o)] [(.ref o)])) rfl rfl (hb hby d9_1)
  obtain ⟨cq47, kq47, q47a, q47b, q47c⟩ := isOf hZ e46 EO
  obtain ⟨_, _, ⟨T47, L47, k47, n47⟩, -, X47, ⟨Lc47, hQ47, l47, y47, z47⟩, st47⟩ := X46.virtualBack hx (y := (⟨"java/lang/String", "coder", "()B"⟩ : MethodName)) (z := (⟨"java/lang/String", "coder", "()B"⟩ : MethodName)) hown (mvT hZ (hw _ (List.mem_of_getElem? (i := 44) rfl))) (mvT hZ (hw _ (List.mem_of_getElem? (i := 45) rfl))) (notFace_of_selects (args := #[]) (mvT hZ (hw _ (List.mem_of_getElem? (i := 47) rfl)))) (mvT hZ (hw _ (List.mem_of_getElem? (i := 47) rfl))) (mvT hZ (hw _ (List.mem_of_getElem? (i := 46) rfl))) (by decide) (backOf (W := 1) (rmCD1 l Z a0 hw [] o h0 n0 Z0 O SK EO FC) hZ (hw _ (List.mem_of_getElem? (i := 48) rfl)) (hw _ (List.mem_of_getElem? (i := 7) rfl)) (by decide) (by decide)) q47a q47c (g := (mkF m 6 #[.val (.ref o)] [(.ref o), (.int (Int32.ofNat (2 * n)))])) rfl (by rw [hml]; rfl) (Steps.refl _) (argsL := []) (rest := [(.int (Int32.ofNat (2 * n)))]) (lenOf pd_9 rfl) rfl (by show 2 * 0 + _ ≤ _; exact Nat.le_of_eq rfl) (hb hby d9_6) (fun _ _ => ⟨rfl, e46, (by decide : 0 + 0 ≤ _), (by decide : 0 + 0 ≤ _)⟩)
  dsimp only [Pt.U, Pt.locs, Pt.cells, Pt.slots] at X47 l47 y47 z47 st47 hQ47
  subst l47 y47 z47
  obtain ⟨rfl, N47q, e47⟩ := hQ47
  have N47 := Fr.app N0 N47q
  obtain ⟨fs, hr, hrun, hended, hW, hsame⟩ := X47.leave (v := some (.int (Int32.ofNat n))) (fun h => by rw [Bd.returns] at h; cases h)
  refine ⟨_, _, pre0 _ ?_, hrun, hended, _, _, rfl, ?_, ⟨_, rfl⟩, hW, hsame.mono (by decide) (by decide)⟩
  · show Steps p.tables e below (s₁.setTop (mkF m 0 #[.val (.ref o)] [])) _
    refine XS.aloadN X0.here hx rfl (hb hby d9_0) rfl rfl ?_
    show Steps p.tables e below (s₁.setTop (mkF m 1 #[.val (.ref o)] [(.ref o)])) _
    refine st46 _ ?_
    show Steps p.tables e below (T46.setTop (mkF m 4 #[.val (.ref o)] [(.ref b)])) _
    refine lenA X46 hx hZ e46 FB (g := (mkF m 4 #[.val (.ref o)] [(.ref b)])) rfl rfl (hb hby d9_4) ?_
    refine XS.aloadN X46.here hx rfl (hb hby d9_5) rfl rfl ?_
    show Steps p.tables e below (T46.setTop (mkF m 6 #[.val (.ref o)] [(.ref o), (.int (Int32.ofNat (2 * n)))])) _
    refine st47.trans ?_
    refine XS.ishr X47.here hx rfl (hb hby d9_9) rfl ?_
    show Steps p.tables e below (T47.setTop (mkF m 10 #[.val (.ref o)] [(.int ((Int32.ofNat (2 * n)) >>> ((1 : Int32) &&& 31)))])) _
    rw [show ((Int32.ofNat (2 * n)) >>> ((1 : Int32) &&& 31)) = (Int32.ofNat n) from shr1N (by omega)]
    show Steps p.tables e below (T47.setTop (mkF m 10 #[.val (.ref o)] [(.int (Int32.ofNat n))])) _
    exact retI X47 hx Bd.returns (hb hby d9_10) hr
  · show QI (Int32.ofNat n) h0 n0 _ T47.heap _
    rw [e47]
    exact ⟨rfl, N47, rfl⟩
set_option maxRecDepth 65536 in
set_option maxHeartbeats 40000000 in
theorem rmLEN (l : Launch) (Z : State) (a0 : Array Value) (hw : ∀ d ∈ tables_1, d.before a0 Z = true) (ws : List Jvm.Cond) (o : Addr) (n : Nat) (g : Nat → Int32)  (h0 : Heap) (n0 : Nat) (Z0 : n0 ≤ h0.size) (hn : n ≤ 4) (O : Old Z n0 h0) (SK : StrSta Z) (S : Str Z h0 o n g)  :
    MetFree l (⟨"java/lang/String", "length", "()I"⟩ : MethodName) (head1 (Jvm.Cond.code (⟨"java/lang/String", "length", "()I"⟩ : MethodName) jdk_42_method_54_code 1 (some .int) :: ws) ({ frames := 1, cells := 0, slots := 0, locals := 14 } : Room)) (fun aa_ U_ => aa_ = #[(.ref o)] ∧ Z.Warmed39 U_.vm ∧ U_.heap = h0) (fun _ _ _ _ _ => True) (fun _ U_ o_ V_ => ∃ v_ L_, o_ = .returned v_ ∧ QI (Int32.ofNat n) h0 n0 v_ V_.heap L_ ∧ FrameEnd U_ o_ V_ L_ ({ frames := 1, cells := 0, slots := 0, locals := 14 } : Room).cells ({ frames := 1, cells := 0, slots := 0, locals := 14 } : Room).slots) := by
  obtain ⟨EO, b, FV, ⟨FC, FB, hB⟩ | ⟨FC, FB, hB⟩⟩ := S
  · exact rmLEN0 l Z a0 hw ws o b n g h0 n0 Z0 hn O SK EO FC FV FB
  · exact rmLEN1 l Z a0 hw ws o b n g h0 n0 Z0 hn O SK EO FC FV FB
theorem d15_0 : decode jdk_41_method_11_code 0 = .ok (.iload_n 0, 1) := by decide +kernel
theorem d15_1 : decode jdk_41_method_11_code 1 = .ok (.ifCond .lt 8, 3) := by decide +kernel
theorem d15_4 : decode jdk_41_method_11_code 4 = .ok (.iload_n 0, 1) := by decide +kernel
theorem d15_5 : decode jdk_41_method_11_code 5 = .ok (.iload_n 1, 1) := by decide +kernel
theorem d15_6 : decode jdk_41_method_11_code 6 = .ok (.if_icmp .lt 10, 3) := by decide +kernel
theorem d15_9 : decode jdk_41_method_11_code 9 = .ok (.aload_n 2, 1) := by decide +kernel
theorem d15_10 : decode jdk_41_method_11_code 10 = .ok (.iload_n 0, 1) := by decide +kernel
theorem d15_11 : decode jdk_41_method_11_code 11 = .ok (.iload_n 1, 1) := by decide +kernel
theorem d15_12 : decode jdk_41_method_11_code 12 = .ok (.invokestatic 95, 3) := by decide +kernel
theorem d15_15 : decode jdk_41_method_11_code 15 = .ok (.athrow, 1) := by decide +kernel
theorem d15_16 : decode jdk_41_method_11_code 16 = .ok (.iload_n 0, 1) := by decide +kernel
theorem d15_17 : decode jdk_41_method_11_code 17 = .ok (.ireturn, 1) := by decide +kernel
theorem pn_15 : plainName "jdk/internal/util/Preconditions" = true := by first | (simp [plainName, overriddenIn]; done) | decide +kernel
theorem ef_15 (m : MethodId) (x0 : Int32) (x1 : Int32) (x2 : Addr) : entryFrame m #[(.int x0), (.int x1), (.ref x2)] 3 = mkF m 0 #[.val (.int x0), .val (.int x1), .val (.ref x2)] [] := by first | (simp [entryFrame, mkF, argsToLocals, Value.category]; done) | rfl
theorem ef_15n (m : MethodId) (x0 : Int32) (x1 : Int32) : entryFrame m #[(.int x0), (.int x1), .null] 3 = mkF m 0 #[.val (.int x0), .val (.int x1), .val .null] [] := by first | (simp [entryFrame, mkF, argsToLocals, Value.category]; done) | rfl
set_option maxRecDepth 65536 in
set_option maxHeartbeats 40000000 in
theorem rmPCI0 (l : Launch) (Z : State) (a0 : Array Value) (hw : ∀ d ∈ tables_1, d.before a0 Z = true) (ws : List Jvm.Cond) (i n : Nat)  (h0 : Heap) (n0 : Nat) (Z0 : n0 ≤ h0.size) (hn : n ≤ 8) (hi : i < n)  :
    MetFree l (⟨"jdk/internal/util/Preconditions", "checkIndex", "(IILjava/util/function/BiFunction;)I"⟩ : MethodName) (head1 (Jvm.Cond.code (⟨"jdk/internal/util/Preconditions", "checkIndex", "(IILjava/util/function/BiFunction;)I"⟩ : MethodName) jdk_41_method_11_code 3 (some .int) :: ws) ({ frames := 0, cells := 0, slots := 0, locals := 0 } : Room)) (fun aa_ U_ => aa_ = #[(.int (Int32.ofNat i)), (.int (Int32.ofNat n)), .null] ∧ Z.Warmed39 U_.vm ∧ U_.heap = h0) (fun _ _ _ _ _ => True) (fun _ U_ o_ V_ => ∃ v_ L_, o_ = .returned v_ ∧ QI (Int32.ofNat i) h0 n0 v_ V_.heap L_ ∧ FrameEnd U_ o_ V_ L_ ({ frames := 0, cells := 0, slots := 0, locals := 0 } : Room).cells ({ frames := 0, cells := 0, slots := 0, locals := 0 } : Room).slots) := by
  refine MetFree.of_bodySF (plainFor_of_name pn_15) hisR ?_
  intro p e s m args below meth c s₁ Bd hml0 hP hK
  obtain ⟨rfl, hZ, hh⟩ := hP
  have hx := Bd.exec
  have hby := Bd.bytes
  have hml : c.maxLocals = 3 := hml0
  have hown : s.vm.findClass "jdk/internal/util/Preconditions" = some m.cls := findClass_of_methodNamed Bd.named
  have hnm := (name_of_methodNamed Bd.named Bd.method).1
  have X0 : Stand p l e ({ frames := 0, cells := 0, slots := 0, locals := 0 } : Room) s m #[(.int (Int32.ofNat i)), (.int (Int32.ofNat n)), .null] below meth c s₁ [] 0 0 := Stand.of_body Bd
  have e0 : s₁.heap = h0 := by rw [← hh, Bd.state]; rfl
  have N0 := Fr.nil n0
  have pre0 : ∀ zz, Steps p.tables e below (s₁.setTop (mkF m 0 #[.val (.int (Int32.ofNat i)), .val (.int (Int32.ofNat n)), .val .null] [])) zz → Steps p.tables e below (s₁.setTop (entryFrame m #[(.int (Int32.ofNat i)), (.int (Int32.ofNat n)), .null] 3)) zz := fun zz k => castTop (ef_15n m (Int32.ofNat i) (Int32.ofNat n)) k
  obtain ⟨fs, hr, hrun, hended, hW, hsame⟩ := X0.leave (v := some (.int (Int32.ofNat i))) (fun h => by rw [Bd.returns] at h; cases h)
  refine ⟨_, _, pre0 _ ?_, hrun, hended, _, _, rfl, ?_, ⟨_, rfl⟩, hW, hsame.mono (by decide) (by decide)⟩
  · show Steps p.tables e below (s₁.setTop (mkF m 0 #[.val (.int (Int32.ofNat i)), .val (.int (Int32.ofNat n)), .val .null] [])) _
    refine XS.iloadN X0.here hx rfl (hb hby d15_0) rfl ?_
    refine XS.ifNo X0.here hx rfl (hb hby d15_1) rfl ((if0 _ _).trans (flt (nnN (by omega))).1) ?_
    refine XS.iloadN X0.here hx rfl (hb hby d15_4) rfl ?_
    refine XS.iloadN X0.here hx rfl (hb hby d15_5) rfl ?_
    refine XS.icmpYes X0.here hx rfl (pc0 := 6) (pc' := 16) rfl (hb hby d15_6) rfl (tlt ((ltN (by omega) (by omega)).mpr hi)).1 (by decide) (by decide) ?_
    refine XS.iloadN X0.here hx rfl (hb hby d15_16) rfl ?_
    show Steps p.tables e below (s₁.setTop (mkF m 17 #[.val (.int (Int32.ofNat i)), .val (.int (Int32.ofNat n)), .val .null] [(.int (Int32.ofNat i))])) _
    exact retI X0 hx Bd.returns (hb hby d15_17) hr
  · show QI (Int32.ofNat i) h0 n0 _ s₁.heap _
    rw [e0]
    exact ⟨rfl, N0, rfl⟩
set_option maxRecDepth 65536 in
set_option maxHeartbeats 40000000 in
theorem rmPCI1 (l : Launch) (Z : State) (a0 : Array Value) (hw : ∀ d ∈ tables_1, d.before a0 Z = true) (ws : List Jvm.Cond) (i n : Nat) (fa : Addr)  (h0 : Heap) (n0 : Nat) (Z0 : n0 ≤ h0.size) (hn : n ≤ 8) (hi : i < n)  :
    MetFree l (⟨"jdk/internal/util/Preconditions", "checkIndex", "(IILjava/util/function/BiFunction;)I"⟩ : MethodName) (head1 (Jvm.Cond.code (⟨"jdk/internal/util/Preconditions", "checkIndex", "(IILjava/util/function/BiFunction;)I"⟩ : MethodName) jdk_41_method_11_code 3 (some .int) :: ws) ({ frames := 0, cells := 0, slots := 0, locals := 0 } : Room)) (fun aa_ U_ => aa_ = #[(.int (Int32.ofNat i)), (.int (Int32.ofNat n)), (.ref fa)] ∧ Z.Warmed39 U_.vm ∧ U_.heap = h0) (fun _ _ _ _ _ => True) (fun _ U_ o_ V_ => ∃ v_ L_, o_ = .returned v_ ∧ QI (Int32.ofNat i) h0 n0 v_ V_.heap L_ ∧ FrameEnd U_ o_ V_ L_ ({ frames := 0, cells := 0, slots := 0, locals := 0 } : Room).cells ({ frames := 0, cells := 0, slots := 0, locals := 0 } : Room).slots) := by
  refine MetFree.of_bodySF (plainFor_of_name pn_15) hisR ?_
  intro p e s m args below meth c s₁ Bd hml0 hP hK
  obtain ⟨rfl, hZ, hh⟩ := hP
  have hx := Bd.exec
  have hby := Bd.bytes
  have hml : c.maxLocals = 3 := hml0
  have hown : s.vm.findClass "jdk/internal/util/Preconditions" = some m.cls := findClass_of_methodNamed Bd.named
  have hnm := (name_of_methodNamed Bd.named Bd.method).1
  have X0 : Stand p l e ({ frames := 0, cells := 0, slots := 0, locals := 0 } : Room) s m #[(.int (Int32.ofNat i)), (.int (Int32.ofNat n)), (.ref fa)] below meth c s₁ [] 0 0 := Stand.of_body Bd
  have e0 : s₁.heap = h0 := by rw [← hh, Bd.state]; rfl
  have N0 := Fr.nil n0
  have pre0 : ∀ zz, Steps p.tables e below (s₁.setTop (mkF m 0 #[.val (.int (Int32.ofNat i)), .val (.int (Int32.ofNat n)), .val (.ref fa)] [])) zz → Steps p.tables e below (s₁.setTop (entryFrame m #[(.int (Int32.ofNat i)), (.int (Int32.ofNat n)), (.ref fa)] 3)) zz := fun zz k => castTop (ef_15 m (Int32.ofNat i) (Int32.ofNat n) fa) k
  obtain ⟨fs, hr, hrun, hended, hW, hsame⟩ := X0.leave (v := some (.int (Int32.ofNat i))) (fun h => by rw [Bd.returns] at h; cases h)
  refine ⟨_, _, pre0 _ ?_, hrun, hended, _, _, rfl, ?_, ⟨_, rfl⟩, hW, hsame.mono (by decide) (by decide)⟩
  · show Steps p.tables e below (s₁.setTop (mkF m 0 #[.val (.int (Int32.ofNat i)), .val (.int (Int32.ofNat n)), .val (.ref fa)] [])) _
    refine XS.iloadN X0.here hx rfl (hb hby d15_0) rfl ?_
    refine XS.ifNo X0.here hx rfl (hb hby d15_1) rfl ((if0 _ _).trans (flt (nnN (by omega))).1) ?_
    refine XS.iloadN X0.here hx rfl (hb hby d15_4) rfl ?_
    refine XS.iloadN X0.here hx rfl (hb hby d15_5) rfl ?_
    refine XS.icmpYes X0.here hx rfl (pc0 := 6) (pc' := 16) rfl (hb hby d15_6) rfl (tlt ((ltN (by omega) (by omega)).mpr hi)).1 (by decide) (by decide) ?_
    refine XS.iloadN X0.here hx rfl (hb hby d15_16) rfl ?_
    show Steps p.tables e below (s₁.setTop (mkF m 17 #[.val (.int (Int32.ofNat i)), .val (.int (Int32.ofNat n)), .val (.ref fa)] [(.int (Int32.ofNat i))])) _
    exact retI X0 hx Bd.returns (hb hby d15_17) hr
  · show QI (Int32.ofNat i) h0 n0 _ s₁.heap _
    rw [e0]
    exact ⟨rfl, N0, rfl⟩
theorem d14_0 : decode jdk_42_method_155_code 0 = .ok (.iload_n 0, 1) := by decide +kernel
theorem d14_1 : decode jdk_42_method_155_code 1 = .ok (.iload_n 1, 1) := by decide +kernel
theorem d14_2 : decode jdk_42_method_155_code 2 = .ok (.getstatic 1053, 3) := by decide +kernel
theorem d14_5 : decode jdk_42_method_155_code 5 = .ok (.invokestatic 1059, 3) := by decide +kernel
theorem d14_8 : decode jdk_42_method_155_code 8 = .ok (.pop, 1) := by decide +kernel
theorem d14_9 : decode jdk_42_method_155_code 9 = .ok (.return_, 1) := by decide +kernel
theorem pn_14 : plainName "java/lang/String" = true := by first | (simp [plainName, overriddenIn]; done) | decide +kernel
theorem ef_14 (m : MethodId) (x0 : Int32) (x1 : Int32) : entryFrame m #[(.int x0), (.int x1)] 2 = mkF m 0 #[.val (.int x0), .val (.int x1)] [] := by first | (simp [entryFrame, mkF, argsToLocals, Value.category]; done) | rfl
set_option maxRecDepth 65536 in
set_option maxHeartbeats 40000000 in
theorem rmSCI0 (l : Launch) (Z : State) (a0 : Array Value) (hw : ∀ d ∈ tables_1, d.before a0 Z = true) (ws : List Jvm.Cond) (i n : Nat)  (h0 : Heap) (n0 : Nat) (Z0 : n0 ≤ h0.size) (hn : n ≤ 8) (hi : i < n) (O : Old Z n0 h0) (hfm : Sta Z Z.heap "jdk/internal/util/Preconditions" "SIOOBE_FORMATTER" "Ljava/util/function/BiFunction;" .null)  :
    MetFree l (⟨"java/lang/String", "checkIndex", "(II)V"⟩ : MethodName) (head1 (Jvm.Cond.code (⟨"java/lang/String", "checkIndex", "(II)V"⟩ : MethodName) jdk_42_method_155_code 2 none :: ws) ({ frames := 1, cells := 0, slots := 0, locals := 16 } : Room)) (fun aa_ U_ => aa_ = #[(.int (Int32.ofNat i)), (.int (Int32.ofNat n))] ∧ Z.Warmed39 U_.vm ∧ U_.heap = h0) (fun _ _ _ _ _ => True) (fun _ U_ o_ V_ => ∃ v_ L_, o_ = .returned v_ ∧ QN  h0 n0 v_ V_.heap L_ ∧ FrameEnd U_ o_ V_ L_ ({ frames := 1, cells := 0, slots := 0, locals := 16 } : Room).cells ({ frames := 1, cells := 0, slots := 0, locals := 16 } : Room).slots) := by
  refine MetFree.of_bodySF (plainFor_of_name pn_14) hisR ?_
  intro p e s m args below meth c s₁ Bd hml0 hP hK
  obtain ⟨rfl, hZ, hh⟩ := hP
  have hx := Bd.exec
  have hby := Bd.bytes
  have hml : c.maxLocals = 2 := hml0
  have hown : s.vm.findClass "java/lang/String" = some m.cls := findClass_of_methodNamed Bd.named
  have hnm := (name_of_methodNamed Bd.named Bd.method).1
  have X0 : Stand p l e ({ frames := 1, cells := 0, slots := 0, locals := 16 } : Room) s m #[(.int (Int32.ofNat i)), (.int (Int32.ofNat n))] below meth c s₁ [] 0 0 := Stand.of_body Bd
  have e0 : s₁.heap = h0 := by rw [← hh, Bd.state]; rfl
  have N0 := Fr.nil n0
  have pre0 : ∀ zz, Steps p.tables e below (s₁.setTop (mkF m 0 #[.val (.int (Int32.ofNat i)), .val (.int (Int32.ofNat n))] [])) zz → Steps p.tables e below (s₁.setTop (entryFrame m #[(.int (Int32.ofNat i)), (.int (Int32.ofNat n))] 2)) zz := fun zz k => castTop (ef_14 m (Int32.ofNat i) (Int32.ofNat n)) k
  obtain ⟨T48, X48, e48, st48⟩ := getS2 X0 hx hZ hown (host := "") (Or.inl (hw _ (List.mem_of_getElem? (i := 66) rfl))) Via.refl e0 (Sta.ext O.2 hfm) (g := (mkF m 2 #[.val (.int (Int32.ofNat i)), .val (.int (Int32.ofNat n))] [(.int (Int32.ofNat n)), (.int (Int32.ofNat i))])) rfl (hb hby d14_2)
  obtain ⟨_, _, ⟨T49, L49, k49, n49⟩, -, X49, ⟨Lc49, hQ49, l49, y49, z49⟩, st49⟩ := Jvm.LawKit.callS X48 hx (y := (⟨"jdk/internal/util/Preconditions", "checkIndex", "(IILjava/util/function/BiFunction;)I"⟩ : MethodName)) hown (mvT hZ (hw _ (List.mem_of_getElem? (i := 68) rfl))) (mvT hZ (hw _ (List.mem_of_getElem? (i := 69) rfl))) (mvT hZ (hw _ (List.mem_of_getElem? (i := 67) rfl))) (mvT hZ (hw _ (List.mem_of_getElem? (i := 70) rfl))) (by decide) (backOf (W := 0) (rmPCI0 l Z a0 hw [] i n h0 n0 Z0 hn hi) hZ (hw _ (List.mem_of_getElem? (i := 70) rfl)) (hw _ (List.mem_of_getElem? (i := 67) rfl)) (by decide) (by decide)) (g := (mkF m 5 #[.val (.int (Int32.ofNat i)), .val (.int (Int32.ofNat n))] [.null, (.int (Int32.ofNat n)), (.int (Int32.ofNat i))])) rfl (by rw [hml]; rfl) (argsL := [(.int (Int32.ofNat i)), (.int (Int32.ofNat n)), .null]) (rest := []) (lenOf pd_14 rfl) rfl (by show 2 * 0 + _ ≤ _; exact Nat.le_of_eq rfl) (hb hby d14_5) (fun _ _ => ⟨rfl, e48, (by decide : 0 + 0 ≤ _), (by decide : 0 + 0 ≤ _)⟩)
  dsimp only [Pt.U, Pt.locs, Pt.cells, Pt.slots] at X49 l49 y49 z49 st49 hQ49
  subst l49 y49 z49
  obtain ⟨rfl, N49q, e49⟩ := hQ49
  have N49 := Fr.app N0 N49q
  obtain ⟨fs, hr, hrun, hended, hW, hsame⟩ := X49.leave (v := none) (fun _ => rfl)
  refine ⟨_, _, pre0 _ ?_, hrun, hended, _, _, rfl, ?_, ⟨_, rfl⟩, hW, hsame.mono (by decide) (by decide)⟩
  · show Steps p.tables e below (s₁.setTop (mkF m 0 #[.val (.int (Int32.ofNat i)), .val (.int (Int32.ofNat n))] [])) _
    refine XS.iloadN X0.here hx rfl (hb hby d14_0) rfl ?_
    refine XS.iloadN X0.here hx rfl (hb hby d14_1) rfl ?_
    show Steps p.tables e below (s₁.setTop (mkF m 2 #[.val (.int (Int32.ofNat i)), .val (.int (Int32.ofNat n))] [(.int (Int32.ofNat n)), (.int (Int32.ofNat i))])) _
    refine st48 _ ?_
    show Steps p.tables e below (T48.setTop (mkF m 5 #[.val (.int (Int32.ofNat i)), .val (.int (Int32.ofNat n))] [.null, (.int (Int32.ofNat n)), (.int (Int32.ofNat i))])) _
    refine st49 _ ?_
    refine XS.pop X49.here hx rfl (hb hby d14_8) rfl rfl ?_
    show Steps p.tables e below (T49.setTop (mkF m 9 #[.val (.int (Int32.ofNat i)), .val (.int (Int32.ofNat n))] [])) _
    exact X49.returnOut hx Bd.returns (hb hby d14_9) hr
  · show QN  h0 n0 _ T49.heap _
    rw [e49]
    exact ⟨rfl, N49, rfl⟩
set_option maxRecDepth 65536 in
set_option maxHeartbeats 40000000 in
theorem rmSCI1 (l : Launch) (Z : State) (a0 : Array Value) (hw : ∀ d ∈ tables_1, d.before a0 Z = true) (ws : List Jvm.Cond) (i n : Nat) (fa : Addr)  (h0 : Heap) (n0 : Nat) (Z0 : n0 ≤ h0.size) (hn : n ≤ 8) (hi : i < n) (O : Old Z n0 h0) (hfm : Sta Z Z.heap "jdk/internal/util/Preconditions" "SIOOBE_FORMATTER" "Ljava/util/function/BiFunction;" (.ref fa))  :
    MetFree l (⟨"java/lang/String", "checkIndex", "(II)V"⟩ : MethodName) (head1 (Jvm.Cond.code (⟨"java/lang/String", "checkIndex", "(II)V"⟩ : MethodName) jdk_42_method_155_code 2 none :: ws) ({ frames := 1, cells := 0, slots := 0, locals := 16 } : Room)) (fun aa_ U_ => aa_ = #[(.int (Int32.ofNat i)), (.int (Int32.ofNat n))] ∧ Z.Warmed39 U_.vm ∧ U_.heap = h0) (fun _ _ _ _ _ => True) (fun _ U_ o_ V_ => ∃ v_ L_, o_ = .returned v_ ∧ QN  h0 n0 v_ V_.heap L_ ∧ FrameEnd U_ o_ V_ L_ ({ frames := 1, cells := 0, slots := 0, locals := 16 } : Room).cells ({ frames := 1, cells := 0, slots := 0, locals := 16 } : Room).slots) := by
  refine MetFree.of_bodySF (plainFor_of_name pn_14) hisR ?_
  intro p e s m args below meth c s₁ Bd hml0 hP hK
  obtain ⟨rfl, hZ, hh⟩ := hP
  have hx := Bd.exec
  have hby := Bd.bytes
  have hml : c.maxLocals = 2 := hml0
  have hown : s.vm.findClass "java/lang/String" = some m.cls := findClass_of_methodNamed Bd.named
  have hnm := (name_of_methodNamed Bd.named Bd.method).1
  have X0 : Stand p l e ({ frames := 1, cells := 0, slots := 0, locals := 16 } : Room) s m #[(.int (Int32.ofNat i)), (.int (Int32.ofNat n))] below meth c s₁ [] 0 0 := Stand.of_body Bd
  have e0 : s₁.heap = h0 := by rw [← hh, Bd.state]; rfl
  have N0 := Fr.nil n0
  have pre0 : ∀ zz, Steps p.tables e below (s₁.setTop (mkF m 0 #[.val (.int (Int32.ofNat i)), .val (.int (Int32.ofNat n))] [])) zz → Steps p.tables e below (s₁.setTop (entryFrame m #[(.int (Int32.ofNat i)), (.int (Int32.ofNat n))] 2)) zz := fun zz k => castTop (ef_14 m (Int32.ofNat i) (Int32.ofNat n)) k
  obtain ⟨T50, X50, e50, st50⟩ := getS2 X0 hx hZ hown (host := "") (Or.inl (hw _ (List.mem_of_getElem? (i := 66) rfl))) Via.refl e0 (Sta.ext O.2 hfm) (g := (mkF m 2 #[.val (.int (Int32.ofNat i)), .val (.int (Int32.ofNat n))] [(.int (Int32.ofNat n)), (.int (Int32.ofNat i))])) rfl (hb hby d14_2)
  obtain ⟨_, _, ⟨T51, L51, k51, n51⟩, -, X51, ⟨Lc51, hQ51, l51, y51, z51⟩, st51⟩ := Jvm.LawKit.callS X50 hx (y := (⟨"jdk/internal/util/Preconditions", "checkIndex", "(IILjava/util/function/BiFunction;)I"⟩ : MethodName)) hown (mvT hZ (hw _ (List.mem_of_getElem? (i := 68) rfl))) (mvT hZ (hw _ (List.mem_of_getElem? (i := 69) rfl))) (mvT hZ (hw _ (List.mem_of_getElem? (i := 67) rfl))) (mvT hZ (hw _ (List.mem_of_getElem? (i := 70) rfl))) (by decide) (backOf (W := 0) (rmPCI1 l Z a0 hw [] i n fa h0 n0 Z0 hn hi) hZ (hw _ (List.mem_of_getElem? (i := 70) rfl)) (hw _ (List.mem_of_getElem? (i := 67) rfl)) (by decide) (by decide)) (g := (mkF m 5 #[.val (.int (Int32.ofNat i)), .val (.int (Int32.ofNat n))] [(.ref fa), (.int (Int32.ofNat n)), (.int (Int32.ofNat i))])) rfl (by rw [hml]; rfl) (argsL := [(.int (Int32.ofNat i)), (.int (Int32.ofNat n)), (.ref fa)]) (rest := []) (lenOf pd_14 rfl) rfl (by show 2 * 0 + _ ≤ _; exact Nat.le_of_eq rfl) (hb hby d14_5) (fun _ _ => ⟨rfl, e50, (by decide : 0 + 0 ≤ _), (by decide : 0 + 0 ≤ _)⟩)
  dsimp only [Pt.U, Pt.locs, Pt.cells, Pt.slots] at X51 l51 y51 z51 st51 hQ51
  subst l51 y51 z51
  obtain ⟨rfl, N51q, e51⟩ := hQ51
  have N51 := Fr.app N0 N51q
  obtain ⟨fs, hr, hrun, hended, hW, hsame⟩ := X51.leave (v := none) (fun _ => rfl)
  refine ⟨_, _, pre0 _ ?_, hrun, hended, _, _, rfl, ?_, ⟨_, rfl⟩, hW, hsame.mono (by decide) (by decide)⟩
  · show Steps p.tables e below (s₁.setTop (mkF m 0 #[.val (.int (Int32.ofNat i)), .val (.int (Int32.ofNat n))] [])) _
    refine XS.iloadN X0.here hx rfl (hb hby d14_0) rfl ?_
    refine XS.iloadN X0.here hx rfl (hb hby d14_1) rfl ?_
    show Steps p.tables e below (s₁.setTop (mkF m 2 #[.val (.int (Int32.ofNat i)), .val (.int (Int32.ofNat n))] [(.int (Int32.ofNat n)), (.int (Int32.ofNat i))])) _
    refine st50 _ ?_
    show Steps p.tables e below (T50.setTop (mkF m 5 #[.val (.int (Int32.ofNat i)), .val (.int (Int32.ofNat n))] [(.ref fa), (.int (Int32.ofNat n)), (.int (Int32.ofNat i))])) _
    refine st51 _ ?_
    refine XS.pop X51.here hx rfl (hb hby d14_8) rfl rfl ?_
    show Steps p.tables e below (T51.setTop (mkF m 9 #[.val (.int (Int32.ofNat i)), .val (.int (Int32.ofNat n))] [])) _
    exact X51.returnOut hx Bd.returns (hb hby d14_9) hr
  · show QN  h0 n0 _ T51.heap _
    rw [e51]
    exact ⟨rfl, N51, rfl⟩
set_option maxRecDepth 65536 in
set_option maxHeartbeats 40000000 in
theorem rmSCI (l : Launch) (Z : State) (a0 : Array Value) (hw : ∀ d ∈ tables_1, d.before a0 Z = true) (ws : List Jvm.Cond) (i n : Nat)  (h0 : Heap) (n0 : Nat) (Z0 : n0 ≤ h0.size) (hn : n ≤ 8) (hi : i < n) (O : Old Z n0 h0) (SK : StrSta Z)  :
    MetFree l (⟨"java/lang/String", "checkIndex", "(II)V"⟩ : MethodName) (head1 (Jvm.Cond.code (⟨"java/lang/String", "checkIndex", "(II)V"⟩ : MethodName) jdk_42_method_155_code 2 none :: ws) ({ frames := 1, cells := 0, slots := 0, locals := 16 } : Room)) (fun aa_ U_ => aa_ = #[(.int (Int32.ofNat i)), (.int (Int32.ofNat n))] ∧ Z.Warmed39 U_.vm ∧ U_.heap = h0) (fun _ _ _ _ _ => True) (fun _ U_ o_ V_ => ∃ v_ L_, o_ = .returned v_ ∧ QN  h0 n0 v_ V_.heap L_ ∧ FrameEnd U_ o_ V_ L_ ({ frames := 1, cells := 0, slots := 0, locals := 16 } : Room).cells ({ frames := 1, cells := 0, slots := 0, locals := 16 } : Room).slots) := by
  obtain hfm | ⟨fa, hfm⟩ := SK.2.2.2.2
  · exact rmSCI0 l Z a0 hw ws i n h0 n0 Z0 hn hi O hfm
  · exact rmSCI1 l Z a0 hw ws i n fa h0 n0 Z0 hn hi O hfm
theorem d13_0 : decode jdk_43_method_2_code 0 = .ok (.iload_n 1, 1) := by decide +kernel
theorem d13_1 : decode jdk_43_method_2_code 1 = .ok (.aload_n 0, 1) := by decide +kernel
theorem d13_2 : decode jdk_43_method_2_code 2 = .ok (.arraylength, 1) := by decide +kernel
theorem d13_3 : decode jdk_43_method_2_code 3 = .ok (.invokestatic 9, 3) := by decide +kernel
theorem d13_6 : decode jdk_43_method_2_code 6 = .ok (.aload_n 0, 1) := by decide +kernel
theorem d13_7 : decode jdk_43_method_2_code 7 = .ok (.iload_n 1, 1) := by decide +kernel
theorem d13_8 : decode jdk_43_method_2_code 8 = .ok (.baload, 1) := by decide +kernel
theorem d13_9 : decode jdk_43_method_2_code 9 = .ok (.sipush 255, 3) := by decide +kernel
theorem d13_12 : decode jdk_43_method_2_code 12 = .ok (.iand, 1) := by decide +kernel
theorem d13_13 : decode jdk_43_method_2_code 13 = .ok (.i2c, 1) := by decide +kernel
theorem d13_14 : decode jdk_43_method_2_code 14 = .ok (.ireturn, 1) := by decide +kernel
theorem pn_13 : plainName "java/lang/StringLatin1" = true := by first | (simp [plainName, overriddenIn]; done) | decide +kernel
theorem ef_13 (m : MethodId) (x0 : Addr) (x1 : Int32) : entryFrame m #[(.ref x0), (.int x1)] 2 = mkF m 0 #[.val (.ref x0), .val (.int x1)] [] := by first | (simp [entryFrame, mkF, argsToLocals, Value.category]; done) | rfl
set_option maxRecDepth 65536 in
set_option maxHeartbeats 40000000 in
theorem rmLCA (l : Launch) (Z : State) (a0 : Array Value) (hw : ∀ d ∈ tables_1, d.before a0 Z = true) (ws : List Jvm.Cond) (b : Addr) (i n : Nat) (g : Nat → Int32)  (h0 : Heap) (n0 : Nat) (Z0 : n0 ≤ h0.size) (hn : n ≤ 4) (hi : i < n) (O : Old Z n0 h0) (SK : StrSta Z) (FB : AF Z h0 b .byte n (Lb g)) (hB : ∀ j, j < n → isB (g j))  :
    MetFree l (⟨"java/lang/StringLatin1", "charAt", "([BI)C"⟩ : MethodName) (head1 (Jvm.Cond.code (⟨"java/lang/StringLatin1", "charAt", "([BI)C"⟩ : MethodName) jdk_43_method_2_code 2 (some .char) :: ws) ({ frames := 2, cells := 0, slots := 0, locals := 30 } : Room)) (fun aa_ U_ => aa_ = #[(.ref b), (.int (Int32.ofNat i))] ∧ Z.Warmed39 U_.vm ∧ U_.heap = h0) (fun _ _ _ _ _ => True) (fun _ U_ o_ V_ => ∃ v_ L_, o_ = .returned v_ ∧ QI (g i) h0 n0 v_ V_.heap L_ ∧ FrameEnd U_ o_ V_ L_ ({ frames := 2, cells := 0, slots := 0, locals := 30 } : Room).cells ({ frames := 2, cells := 0, slots := 0, locals := 30 } : Room).slots) := by
  refine MetFree.of_bodySF (plainFor_of_name pn_13) hisR ?_
  intro p e s m args below meth c s₁ Bd hml0 hP hK
  obtain ⟨rfl, hZ, hh⟩ := hP
  have hx := Bd.exec
  have hby := Bd.bytes
  have hml : c.maxLocals = 2 := hml0
  have hown : s.vm.findClass "java/lang/StringLatin1" = some m.cls := findClass_of_methodNamed Bd.named
  have hnm := (name_of_methodNamed Bd.named Bd.method).1
  have X0 : Stand p l e ({ frames := 2, cells := 0, slots := 0, locals := 30 } : Room) s m #[(.ref b), (.int (Int32.ofNat i))] below meth c s₁ [] 0 0 := Stand.of_body Bd
  have e0 : s₁.heap = h0 := by rw [← hh, Bd.state]; rfl
  have N0 := Fr.nil n0
  have pre0 : ∀ zz, Steps p.tables e below (s₁.setTop (mkF m 0 #[.val (.ref b), .val (.int (Int32.ofNat i))] [])) zz → Steps p.tables e below (s₁.setTop (entryFrame m #[(.ref b), (.int (Int32.ofNat i))] 2)) zz := fun zz k => castTop (ef_13 m b (Int32.ofNat i)) k
  obtain ⟨_, _, ⟨T52, L52, k52, n52⟩, -, X52, ⟨Lc52, hQ52, l52, y52, z52⟩, st52⟩ := Jvm.LawKit.callS X0 hx (y := (⟨"java/lang/String", "checkIndex", "(II)V"⟩ : MethodName)) hown (mvT hZ (hw _ (List.mem_of_getElem? (i := 63) rfl))) (mvT hZ (hw _ (List.mem_of_getElem? (i := 64) rfl))) (mvT hZ (hw _ (List.mem_of_getElem? (i := 7) rfl))) (mvT hZ (hw _ (List.mem_of_getElem? (i := 65) rfl))) (by decide) (backOf (W := 0) (rmSCI l Z a0 hw [] i n h0 n0 Z0 (by omega) hi O SK) hZ (hw _ (List.mem_of_getElem? (i := 65) rfl)) (hw _ (List.mem_of_getElem? (i := 7) rfl)) (by decide) (by decide)) (g := (mkF m 3 #[.val (.ref b), .val (.int (Int32.ofNat i))] [(.int (Int32.ofNat n)), (.int (Int32.ofNat i))])) rfl (by rw [hml]; rfl) (argsL := [(.int (Int32.ofNat i)), (.int (Int32.ofNat n))]) (rest := []) (lenOf pd_13 rfl) rfl (by show 2 * 0 + _ ≤ _; exact Nat.le_of_eq rfl) (hb hby d13_3) (fun _ _ => ⟨rfl, e0, (by decide : 0 + 0 ≤ _), (by decide : 0 + 0 ≤ _)⟩)
  dsimp only [Pt.U, Pt.locs, Pt.cells, Pt.slots] at X52 l52 y52 z52 st52 hQ52
  subst l52 y52 z52
  obtain ⟨rfl, N52q, e52⟩ := hQ52
  have N52 := Fr.app N0 N52q
  obtain ⟨fs, hr, hrun, hended, hW, hsame⟩ := X52.leave (v := some (.int (nar .char (g i)))) (fun h => by rw [Bd.returns] at h; cases h)
  refine ⟨_, _, pre0 _ ?_, hrun, hended, _, _, rfl, ?_, ⟨_, rfl⟩, hW, hsame.mono (by decide) (by decide)⟩
  · show Steps p.tables e below (s₁.setTop (mkF m 0 #[.val (.ref b), .val (.int (Int32.ofNat i))] [])) _
    refine XS.iloadN X0.here hx rfl (hb hby d13_0) rfl ?_
    refine XS.aloadN X0.here hx rfl (hb hby d13_1) rfl rfl ?_
    show Steps p.tables e below (s₁.setTop (mkF m 2 #[.val (.ref b), .val (.int (Int32.ofNat i))] [(.ref b), (.int (Int32.ofNat i))])) _
    refine lenA X0 hx hZ e0 FB (g := (mkF m 2 #[.val (.ref b), .val (.int (Int32.ofNat i))] [(.ref b), (.int (Int32.ofNat i))])) rfl rfl (hb hby d13_2) ?_
    show Steps p.tables e below (s₁.setTop (mkF m 3 #[.val (.ref b), .val (.int (Int32.ofNat i))] [(.int (Int32.ofNat n)), (.int (Int32.ofNat i))])) _
    refine st52 _ ?_
    refine XS.aloadN X52.here hx rfl (hb hby d13_6) rfl rfl ?_
    refine XS.iloadN X52.here hx rfl (hb hby d13_7) rfl ?_
    show Steps p.tables e below (T52.setTop (mkF m 8 #[.val (.ref b), .val (.int (Int32.ofNat i))] [(.int (Int32.ofNat i)), (.ref b)])) _
    refine ldBy X52 hx hZ e52 FB (i := i) hi (by omega) (v := (.int (b8 (g i)))) rfl (g := (mkF m 8 #[.val (.ref b), .val (.int (Int32.ofNat i))] [(.int (Int32.ofNat i)), (.ref b)])) rfl rfl (hb hby d13_8) ?_
    refine XS.sipush X52.here hx rfl (hb hby d13_9) ?_
    refine XS.iand X52.here hx rfl (hb hby d13_12) rfl ?_
    refine XS.i2c X52.here hx rfl (hb hby d13_13) rfl ?_
    show Steps p.tables e below (T52.setTop (mkF m 14 #[.val (.ref b), .val (.int (Int32.ofNat i))] [(.int (((b8 (g i)) &&& (255 : Int32)).toUInt32.toUInt16.toUInt32.toInt32))])) _
    rw [show (((b8 (g i)) &&& (255 : Int32)).toUInt32.toUInt16.toUInt32.toInt32) = (g i) from (l16_eq (hB i hi))]
    show Steps p.tables e below (T52.setTop (mkF m 14 #[.val (.ref b), .val (.int (Int32.ofNat i))] [(.int (g i))])) _
    exact retN X52 hx (t := .char) Bd.returns (by simp) (hb hby d13_14) hr
  · show QI (g i) h0 n0 _ T52.heap _
    rw [e52]
    exact ⟨by rw [nar_id (isCh_of (hB i hi))], N52, rfl⟩
theorem d23_0 : decode jdk_52_method_6_code 0 = .ok (.aload_n 0, 1) := by decide +kernel
theorem d23_1 : decode jdk_52_method_6_code 1 = .ok (.arraylength, 1) := by decide +kernel
theorem d23_2 : decode jdk_52_method_6_code 2 = .ok (.iconst 1, 1) := by decide +kernel
theorem d23_3 : decode jdk_52_method_6_code 3 = .ok (.ishr, 1) := by decide +kernel
theorem d23_4 : decode jdk_52_method_6_code 4 = .ok (.ireturn, 1) := by decide +kernel
theorem pn_23 : plainName "java/lang/StringUTF16" = true := by first | (simp [plainName, overriddenIn]; done) | decide +kernel
theorem ef_23 (m : MethodId) (x0 : Addr) : entryFrame m #[(.ref x0)] 1 = mkF m 0 #[.val (.ref x0)] [] := by first | (simp [entryFrame, mkF, argsToLocals, Value.category]; done) | rfl
set_option maxRecDepth 65536 in
set_option maxHeartbeats 40000000 in
theorem rmUL (l : Launch) (Z : State) (a0 : Array Value) (hw : ∀ d ∈ tables_1, d.before a0 Z = true) (ws : List Jvm.Cond) (b : Addr) (n : Nat) (g : Nat → Int32)  (h0 : Heap) (n0 : Nat) (Z0 : n0 ≤ h0.size) (hn : n ≤ 4) (FB : AF Z h0 b .byte (2 * n) (Ub g))  :
    MetFree l (⟨"java/lang/StringUTF16", "length", "([B)I"⟩ : MethodName) (head1 (Jvm.Cond.code (⟨"java/lang/StringUTF16", "length", "([B)I"⟩ : MethodName) jdk_52_method_6_code 1 (some .int) :: ws) ({ frames := 0, cells := 0, slots := 0, locals := 0 } : Room)) (fun aa_ U_ => aa_ = #[(.ref b)] ∧ Z.Warmed39 U_.vm ∧ U_.heap = h0) (fun _ _ _ _ _ => True) (fun _ U_ o_ V_ => ∃ v_ L_, o_ = .returned v_ ∧ QI (Int32.ofNat n) h0 n0 v_ V_.heap L_ ∧ FrameEnd U_ o_ V_ L_ ({ frames := 0, cells := 0, slots := 0, locals := 0 } : Room).cells ({ frames := 0, cells := 0, slots := 0, locals := 0 } : Room).slots) := by
  refine MetFree.of_bodySF (plainFor_of_name pn_23) hisR ?_
  intro p e s m args below meth c s₁ Bd hml0 hP hK
  obtain ⟨rfl, hZ, hh⟩ := hP
  have hx := Bd.exec
  have hby := Bd.bytes
  have hml : c.maxLocals = 1 := hml0
  have hown : s.vm.findClass "java/lang/StringUTF16" = some m.cls := findClass_of_methodNamed Bd.named
  have hnm := (name_of_methodNamed Bd.named Bd.method).1
  have X0 : Stand p l e ({ frames := 0, cells := 0, slots := 0, locals := 0 } : Room) s m #[(.ref b)] below meth c s₁ [] 0 0 := Stand.of_body Bd
  have e0 : s₁.heap = h0 := by rw [← hh, Bd.state]; rfl
  have N0 := Fr.nil n0
  have pre0 : ∀ zz, Steps p.tables e below (s₁.setTop (mkF m 0 #[.val (.ref b)] [])) zz → Steps p.tables e below (s₁.setTop (entryFrame m #[(.ref b)] 1)) zz := fun zz k => castTop (ef_23 m b) k
  obtain ⟨fs, hr, hrun, hended, hW, hsame⟩ := X0.leave (v := some (.int (Int32.ofNat n))) (fun h => by rw [Bd.returns] at h; cases h)
  refine ⟨_, _, pre0 _ ?_, hrun, hended, _, _, rfl, ?_, ⟨_, rfl⟩, hW, hsame.mono (by decide) (by decide)⟩
  · show Steps p.tables e below (s₁.setTop (mkF m 0 #[.val (.ref b)] [])) _
    refine XS.aloadN X0.here hx rfl (hb hby d23_0) rfl rfl ?_
    show Steps p.tables e below (s₁.setTop (mkF m 1 #[.val (.ref b)] [(.ref b)])) _
    refine lenA X0 hx hZ e0 FB (g := (mkF m 1 #[.val (.ref b)] [(.ref b)])) rfl rfl (hb hby d23_1) ?_
    refine XS.iconst X0.here hx rfl (hb hby d23_2) ?_
    refine XS.ishr X0.here hx rfl (hb hby d23_3) rfl ?_
    show Steps p.tables e below (s₁.setTop (mkF m 4 #[.val (.ref b)] [(.int ((Int32.ofNat (2 * n)) >>> ((1 : Int32) &&& 31)))])) _
    rw [show ((Int32.ofNat (2 * n)) >>> ((1 : Int32) &&& 31)) = (Int32.ofNat n) from shr1N (by omega)]
    show Steps p.tables e below (s₁.setTop (mkF m 4 #[.val (.ref b)] [(.int (Int32.ofNat n))])) _
    exact retI X0 hx Bd.returns (hb hby d23_4) hr
  · show QI (Int32.ofNat n) h0 n0 _ s₁.heap _
    rw [e0]
    exact ⟨rfl, N0, rfl⟩
theorem d22_0 : decode jdk_52_method_91_code 0 = .ok (.iload_n 0, 1) := by decide +kernel
theorem d22_1 : decode jdk_52_method_91_code 1 = .ok (.aload_n 1, 1) := by decide +kernel
theorem d22_2 : decode jdk_52_method_91_code 2 = .ok (.invokestatic 48, 3) := by decide +kernel
theorem d22_5 : decode jdk_52_method_91_code 5 = .ok (.invokestatic 414, 3) := by decide +kernel
theorem d22_8 : decode jdk_52_method_91_code 8 = .ok (.return_, 1) := by decide +kernel
theorem pn_22 : plainName "java/lang/StringUTF16" = true := by first | (simp [plainName, overriddenIn]; done) | decide +kernel
theorem ef_22 (m : MethodId) (x0 : Int32) (x1 : Addr) : entryFrame m #[(.int x0), (.ref x1)] 2 = mkF m 0 #[.val (.int x0), .val (.ref x1)] [] := by first | (simp [entryFrame, mkF, argsToLocals, Value.category]; done) | rfl
set_option maxRecDepth 65536 in
set_option maxHeartbeats 40000000 in
theorem rmUCI (l : Launch) (Z : State) (a0 : Array Value) (hw : ∀ d ∈ tables_1, d.before a0 Z = true) (ws : List Jvm.Cond) (i : Nat) (b : Addr) (n : Nat) (g : Nat → Int32)  (h0 : Heap) (n0 : Nat) (Z0 : n0 ≤ h0.size) (hn : n ≤ 4) (hi : i < n) (O : Old Z n0 h0) (SK : StrSta Z) (FB : AF Z h0 b .byte (2 * n) (Ub g))  :
    MetFree l (⟨"java/lang/StringUTF16", "checkIndex", "(I[B)V"⟩ : MethodName) (head1 (Jvm.Cond.code (⟨"java/lang/StringUTF16", "checkIndex", "(I[B)V"⟩ : MethodName) jdk_52_method_91_code 2 none :: ws) ({ frames := 2, cells := 0, slots := 0, locals := 30 } : Room)) (fun aa_ U_ => aa_ = #[(.int (Int32.ofNat i)), (.ref b)] ∧ Z.Warmed39 U_.vm ∧ U_.heap = h0) (fun _ _ _ _ _ => True) (fun _ U_ o_ V_ => ∃ v_ L_, o_ = .returned v_ ∧ QN  h0 n0 v_ V_.heap L_ ∧ FrameEnd U_ o_ V_ L_ ({ frames := 2, cells := 0, slots := 0, locals := 30 } : Room).cells ({ frames := 2, cells := 0, slots := 0, locals := 30 } : Room).slots) := by
  refine MetFree.of_bodySF (plainFor_of_name pn_22) hisR ?_
  intro p e s m args below meth c s₁ Bd hml0 hP hK
  obtain ⟨rfl, hZ, hh⟩ := hP
  have hx := Bd.exec
  have hby := Bd.bytes
  have hml : c.maxLocals = 2 := hml0
  have hown : s.vm.findClass "java/lang/StringUTF16" = some m.cls := findClass_of_methodNamed Bd.named
  have hnm := (name_of_methodNamed Bd.named Bd.method).1
  have X0 : Stand p l e ({ frames := 2, cells := 0, slots := 0, locals := 30 } : Room) s m #[(.int (Int32.ofNat i)), (.ref b)] below meth c s₁ [] 0 0 := Stand.of_body Bd
  have e0 : s₁.heap = h0 := by rw [← hh, Bd.state]; rfl
  have N0 := Fr.nil n0
  have pre0 : ∀ zz, Steps p.tables e below (s₁.setTop (mkF m 0 #[.val (.int (Int32.ofNat i)), .val (.ref b)] [])) zz → Steps p.tables e below (s₁.setTop (entryFrame m #[(.int (Int32.ofNat i)), (.ref b)] 2)) zz := fun zz k => castTop (ef_22 m (Int32.ofNat i) b) k
  obtain ⟨_, _, ⟨T53, L53, k53, n53⟩, -, X53, ⟨Lc53, hQ53, l53, y53, z53⟩, st53⟩ := Jvm.LawKit.callS X0 hx (y := (⟨"java/lang/StringUTF16", "length", "([B)I"⟩ : MethodName)) hown (mvT hZ (hw _ (List.mem_of_getElem? (i := 99) rfl))) (mvT hZ (hw _ (List.mem_of_getElem? (i := 100) rfl))) (mvT hZ (hw _ (List.mem_of_getElem? (i := 22) rfl))) (mvT hZ (hw _ (List.mem_of_getElem? (i := 101) rfl))) (by decide) (backOf (W := 1) (rmUL l Z a0 hw [] b n g h0 n0 Z0 hn FB) hZ (hw _ (List.mem_of_getElem? (i := 101) rfl)) (hw _ (List.mem_of_getElem? (i := 22) rfl)) (by decide) (by decide)) (g := (mkF m 2 #[.val (.int (Int32.ofNat i)), .val (.ref b)] [(.ref b), (.int (Int32.ofNat i))])) rfl (by rw [hml]; rfl) (argsL := [(.ref b)]) (rest := [(.int (Int32.ofNat i))]) (lenOf pd_19 rfl) rfl (by show 2 * 0 + _ ≤ _; exact Nat.le_of_eq rfl) (hb hby d22_2) (fun _ _ => ⟨rfl, e0, (by decide : 0 + 0 ≤ _), (by decide : 0 + 0 ≤ _)⟩)
  dsimp only [Pt.U, Pt.locs, Pt.cells, Pt.slots] at X53 l53 y53 z53 st53 hQ53
  subst l53 y53 z53
  obtain ⟨rfl, N53q, e53⟩ := hQ53
  have N53 := Fr.app N0 N53q
  obtain ⟨_, _, ⟨T54, L54, k54, n54⟩, -, X54, ⟨Lc54, hQ54, l54, y54, z54⟩, st54⟩ := Jvm.LawKit.callS X53 hx (y := (⟨"java/lang/String", "checkIndex", "(II)V"⟩ : MethodName)) hown (mvT hZ (hw _ (List.mem_of_getElem? (i := 102) rfl))) (mvT hZ (hw _ (List.mem_of_getElem? (i := 64) rfl))) (mvT hZ (hw _ (List.mem_of_getElem? (i := 7) rfl))) (mvT hZ (hw _ (List.mem_of_getElem? (i := 65) rfl))) (by decide) (backOf (W := 0) (rmSCI l Z a0 hw [] i n h0 n0 Z0 (by omega) hi O SK) hZ (hw _ (List.mem_of_getElem? (i := 65) rfl)) (hw _ (List.mem_of_getElem? (i := 7) rfl)) (by decide) (by decide)) (g := (mkF m 5 #[.val (.int (Int32.ofNat i)), .val (.ref b)] [(.int (Int32.ofNat n)), (.int (Int32.ofNat i))])) rfl (by rw [hml]; rfl) (argsL := [(.int (Int32.ofNat i)), (.int (Int32.ofNat n))]) (rest := []) (lenOf pd_13 rfl) rfl (by show 2 * 0 + _ ≤ _; exact Nat.le_of_eq rfl) (hb hby d22_5) (fun _ _ => ⟨rfl, e53, (by decide : 0 + 0 ≤ _), (by decide : 0 + 0 ≤ _)⟩)
  dsimp only [Pt.U, Pt.locs, Pt.cells, Pt.slots] at X54 l54 y54 z54 st54 hQ54
  subst l54 y54 z54
  obtain ⟨rfl, N54q, e54⟩ := hQ54
  have N54 := Fr.app N53 N54q
  obtain ⟨fs, hr, hrun, hended, hW, hsame⟩ := X54.leave (v := none) (fun _ => rfl)
  refine ⟨_, _, pre0 _ ?_, hrun, hended, _, _, rfl, ?_, ⟨_, rfl⟩, hW, hsame.mono (by decide) (by decide)⟩
  · show Steps p.tables e below (s₁.setTop (mkF m 0 #[.val (.int (Int32.ofNat i)), .val (.ref b)] [])) _
    refine XS.iloadN X0.here hx rfl (hb hby d22_0) rfl ?_
    refine XS.aloadN X0.here hx rfl (hb hby d22_1) rfl rfl ?_
    show Steps p.tables e below (s₁.setTop (mkF m 2 #[.val (.int (Int32.ofNat i)), .val (.ref b)] [(.ref b), (.int (Int32.ofNat i))])) _
    refine st53 _ ?_
    show Steps p.tables e below (T53.setTop (mkF m 5 #[.val (.int (Int32.ofNat i)), .val (.ref b)] [(.int (Int32.ofNat n)), (.int (Int32.ofNat i))])) _
    refine st54 _ ?_
    show Steps p.tables e below (T54.setTop (mkF m 8 #[.val (.int (Int32.ofNat i)), .val (.ref b)] [])) _
    exact X54.returnOut hx Bd.returns (hb hby d22_8) hr
  · show QN  h0 n0 _ T54.heap _
    rw [e54]
    exact ⟨rfl, N54, rfl⟩
theorem d21_0 : decode jdk_52_method_83_code 0 = .ok (.iload_n 1, 1) := by decide +kernel
theorem d21_1 : decode jdk_52_method_83_code 1 = .ok (.aload_n 0, 1) := by decide +kernel
theorem d21_2 : decode jdk_52_method_83_code 2 = .ok (.invokestatic 67, 3) := by decide +kernel
theorem d21_5 : decode jdk_52_method_83_code 5 = .ok (.aload_n 0, 1) := by decide +kernel
theorem d21_6 : decode jdk_52_method_83_code 6 = .ok (.iload_n 1, 1) := by decide +kernel
theorem d21_7 : decode jdk_52_method_83_code 7 = .ok (.invokestatic 71, 3) := by decide +kernel
theorem d21_10 : decode jdk_52_method_83_code 10 = .ok (.ireturn, 1) := by decide +kernel
theorem pn_21 : plainName "java/lang/StringUTF16" = true := by first | (simp [plainName, overriddenIn]; done) | decide +kernel
theorem ef_21 (m : MethodId) (x0 : Addr) (x1 : Int32) : entryFrame m #[(.ref x0), (.int x1)] 2 = mkF m 0 #[.val (.ref x0), .val (.int x1)] [] := by first | (simp [entryFrame, mkF, argsToLocals, Value.category]; done) | rfl
set_option maxRecDepth 65536 in
set_option maxHeartbeats 40000000 in
theorem rmUCA (l : Launch) (Z : State) (a0 : Array Value) (hw : ∀ d ∈ tables_1, d.before a0 Z = true) (ws : List Jvm.Cond) (b : Addr) (i n : Nat) (g : Nat → Int32)  (h0 : Heap) (n0 : Nat) (Z0 : n0 ≤ h0.size) (hn : n ≤ 4) (hi : i < n) (O : Old Z n0 h0) (SK : StrSta Z) (FB : AF Z h0 b .byte (2 * n) (Ub g)) (hB : ∀ j, j < n → isCh (g j))  :
    MetFree l (⟨"java/lang/StringUTF16", "charAt", "([BI)C"⟩ : MethodName) (head1 (Jvm.Cond.code (⟨"java/lang/StringUTF16", "charAt", "([BI)C"⟩ : MethodName) jdk_52_method_83_code 2 (some .char) :: ws) ({ frames := 3, cells := 0, slots := 0, locals := 44 } : Room)) (fun aa_ U_ => aa_ = #[(.ref b), (.int (Int32.ofNat i))] ∧ Z.Warmed39 U_.vm ∧ U_.heap = h0) (fun _ _ _ _ _ => True) (fun _ U_ o_ V_ => ∃ v_ L_, o_ = .returned v_ ∧ QI (g i) h0 n0 v_ V_.heap L_ ∧ FrameEnd U_ o_ V_ L_ ({ frames := 3, cells := 0, slots := 0, locals := 44 } : Room).cells ({ frames := 3, cells := 0, slots := 0, locals := 44 } : Room).slots) := by
  refine MetFree.of_bodySF (plainFor_of_name pn_21) hisR ?_
  intro p e s m args below meth c s₁ Bd hml0 hP hK
  obtain ⟨rfl, hZ, hh⟩ := hP
  have hx := Bd.exec
  have hby := Bd.bytes
  have hml : c.maxLocals = 2 := hml0
  have hown : s.vm.findClass "java/lang/StringUTF16" = some m.cls := findClass_of_methodNamed Bd.named
  have hnm := (name_of_methodNamed Bd.named Bd.method).1
  have X0 : Stand p l e ({ frames := 3, cells := 0, slots := 0, locals := 44 } : Room) s m #[(.ref b), (.int (Int32.ofNat i))] below meth c s₁ [] 0 0 := Stand.of_body Bd
  have e0 : s₁.heap = h0 := by rw [← hh, Bd.state]; rfl
  have N0 := Fr.nil n0
  have pre0 : ∀ zz, Steps p.tables e below (s₁.setTop (mkF m 0 #[.val (.ref b), .val (.int (Int32.ofNat i))] [])) zz → Steps p.tables e below (s₁.setTop (entryFrame m #[(.ref b), (.int (Int32.ofNat i))] 2)) zz := fun zz k => castTop (ef_21 m b (Int32.ofNat i)) k
  obtain ⟨_, _, ⟨T55, L55, k55, n55⟩, -, X55, ⟨Lc55, hQ55, l55, y55, z55⟩, st55⟩ := Jvm.LawKit.callS X0 hx (y := (⟨"java/lang/StringUTF16", "checkIndex", "(I[B)V"⟩ : MethodName)) hown (mvT hZ (hw _ (List.mem_of_getElem? (i := 96) rfl))) (mvT hZ (hw _ (List.mem_of_getElem? (i := 97) rfl))) (mvT hZ (hw _ (List.mem_of_getElem? (i := 22) rfl))) (mvT hZ (hw _ (List.mem_of_getElem? (i := 98) rfl))) (by decide) (backOf (W := 0) (rmUCI l Z a0 hw [] i b n g h0 n0 Z0 hn hi O SK FB) hZ (hw _ (List.mem_of_getElem? (i := 98) rfl)) (hw _ (List.mem_of_getElem? (i := 22) rfl)) (by decide) (by decide)) (g := (mkF m 2 #[.val (.ref b), .val (.int (Int32.ofNat i))] [(.ref b), (.int (Int32.ofNat i))])) rfl (by rw [hml]; rfl) (argsL := [(.int (Int32.ofNat i)), (.ref b)]) (rest := []) (lenOf pd_18 rfl) rfl (by show 2 * 0 + _ ≤ _; exact Nat.le_of_eq rfl) (hb hby d21_2) (fun _ _ => ⟨rfl, e0, (by decide : 0 + 0 ≤ _), (by decide : 0 + 0 ≤ _)⟩)
  dsimp only [Pt.U, Pt.locs, Pt.cells, Pt.slots] at X55 l55 y55 z55 st55 hQ55
  subst l55 y55 z55
  obtain ⟨rfl, N55q, e55⟩ := hQ55
  have N55 := Fr.app N0 N55q
  obtain ⟨_, _, ⟨T56, L56, k56, n56⟩, -, X56, ⟨Lc56, hQ56, l56, y56, z56⟩, st56⟩ := Jvm.LawKit.callS X55 hx (y := (⟨"java/lang/StringUTF16", "getChar", "([BI)C"⟩ : MethodName)) hown (mvT hZ (hw _ (List.mem_of_getElem? (i := 90) rfl))) (mvT hZ (hw _ (List.mem_of_getElem? (i := 91) rfl))) (mvT hZ (hw _ (List.mem_of_getElem? (i := 22) rfl))) (mvT hZ (hw _ (List.mem_of_getElem? (i := 92) rfl))) (by decide) (backOf (W := 0) (rmGC l Z a0 hw [] b i n g h0 n0 Z0 hn hi O SK FB hB) hZ (hw _ (List.mem_of_getElem? (i := 92) rfl)) (hw _ (List.mem_of_getElem? (i := 22) rfl)) (by decide) (by decide)) (g := (mkF m 7 #[.val (.ref b), .val (.int (Int32.ofNat i))] [(.int (Int32.ofNat i)), (.ref b)])) rfl (by rw [hml]; rfl) (argsL := [(.ref b), (.int (Int32.ofNat i))]) (rest := []) (lenOf pd_12 rfl) rfl (by show 2 * 0 + _ ≤ _; exact Nat.le_of_eq rfl) (hb hby d21_7) (fun _ _ => ⟨rfl, e55, (by decide : 0 + 0 ≤ _), (by decide : 0 + 0 ≤ _)⟩)
  dsimp only [Pt.U, Pt.locs, Pt.cells, Pt.slots] at X56 l56 y56 z56 st56 hQ56
  subst l56 y56 z56
  obtain ⟨rfl, N56q, e56⟩ := hQ56
  have N56 := Fr.app N55 N56q
  obtain ⟨fs, hr, hrun, hended, hW, hsame⟩ := X56.leave (v := some (.int (nar .char (g i)))) (fun h => by rw [Bd.returns] at h; cases h)
  refine ⟨_, _, pre0 _ ?_, hrun, hended, _, _, rfl, ?_, ⟨_, rfl⟩, hW, hsame.mono (by decide) (by decide)⟩
  · show Steps p.tables e below (s₁.setTop (mkF m 0 #[.val (.ref b), .val (.int (Int32.ofNat i))] [])) _
    refine XS.iloadN X0.here hx rfl (hb hby d21_0) rfl ?_
    refine XS.aloadN X0.here hx rfl (hb hby d21_1) rfl rfl ?_
    show Steps p.tables e below (s₁.setTop (mkF m 2 #[.val (.ref b), .val (.int (Int32.ofNat i))] [(.ref b), (.int (Int32.ofNat i))])) _
    refine st55 _ ?_
    refine XS.aloadN X55.here hx rfl (hb hby d21_5) rfl rfl ?_
    refine XS.iloadN X55.here hx rfl (hb hby d21_6) rfl ?_
    show Steps p.tables e below (T55.setTop (mkF m 7 #[.val (.ref b), .val (.int (Int32.ofNat i))] [(.int (Int32.ofNat i)), (.ref b)])) _
    refine st56 _ ?_
    show Steps p.tables e below (T56.setTop (mkF m 10 #[.val (.ref b), .val (.int (Int32.ofNat i))] [(.int (g i))])) _
    exact retN X56 hx (t := .char) Bd.returns (by simp) (hb hby d21_10) hr
  · show QI (g i) h0 n0 _ T56.heap _
    rw [e56]
    exact ⟨by rw [nar_id (hB i hi)], N56, rfl⟩
theorem d11_0 : decode jdk_42_method_56_code 0 = .ok (.aload_n 0, 1) := by decide +kernel
theorem d11_1 : decode jdk_42_method_56_code 1 = .ok (.invokevirtual 492, 3) := by decide +kernel
theorem d11_4 : decode jdk_42_method_56_code 4 = .ok (.ifCond .eq 12, 3) := by decide +kernel
theorem d11_7 : decode jdk_42_method_56_code 7 = .ok (.aload_n 0, 1) := by decide +kernel
theorem d11_8 : decode jdk_42_method_56_code 8 = .ok (.getfield 9, 3) := by decide +kernel
theorem d11_11 : decode jdk_42_method_56_code 11 = .ok (.iload_n 1, 1) := by decide +kernel
theorem d11_12 : decode jdk_42_method_56_code 12 = .ok (.invokestatic 495, 3) := by decide +kernel
theorem d11_15 : decode jdk_42_method_56_code 15 = .ok (.ireturn, 1) := by decide +kernel
theorem d11_16 : decode jdk_42_method_56_code 16 = .ok (.aload_n 0, 1) := by decide +kernel
theorem d11_17 : decode jdk_42_method_56_code 17 = .ok (.getfield 9, 3) := by decide +kernel
theorem d11_20 : decode jdk_42_method_56_code 20 = .ok (.iload_n 1, 1) := by decide +kernel
theorem d11_21 : decode jdk_42_method_56_code 21 = .ok (.invokestatic 498, 3) := by decide +kernel
theorem d11_24 : decode jdk_42_method_56_code 24 = .ok (.ireturn, 1) := by decide +kernel
theorem pn_11 : plainName "java/lang/String" = true := by first | (simp [plainName, overriddenIn]; done) | decide +kernel
theorem ef_11 (m : MethodId) (x0 : Addr) (x1 : Int32) : entryFrame m #[(.ref x0), (.int x1)] 2 = mkF m 0 #[.val (.ref x0), .val (.int x1)] [] := by first | (simp [entryFrame, mkF, argsToLocals, Value.category]; done) | rfl
set_option maxRecDepth 65536 in
set_option maxHeartbeats 40000000 in
theorem rmCA0 (l : Launch) (Z : State) (a0 : Array Value) (hw : ∀ d ∈ tables_1, d.before a0 Z = true) (ws : List Jvm.Cond) (o b : Addr) (i n : Nat) (g : Nat → Int32)  (h0 : Heap) (n0 : Nat) (Z0 : n0 ≤ h0.size) (hn : n ≤ 4) (hi : i < n) (O : Old Z n0 h0) (SK : StrSta Z) (EO : Exa Z h0 o "java/lang/String") (FC : Fld Z h0 o "java/lang/String" "coder" "B" (.int (0 : Int32))) (FV : Fld Z h0 o "java/lang/String" "value" "[B" (.ref b)) (FB : AF Z h0 b .byte n (Lb g)) (hB : ∀ j, j < n → isB (g j))  :
    MetFree l (⟨"java/lang/String", "charAt", "(I)C"⟩ : MethodName) (head1 (Jvm.Cond.code (⟨"java/lang/String", "charAt", "(I)C"⟩ : MethodName) jdk_42_method_56_code 2 (some .char) :: ws) ({ frames := 4, cells := 0, slots := 0, locals := 60 } : Room)) (fun aa_ U_ => aa_ = #[(.ref o), (.int (Int32.ofNat i))] ∧ Z.Warmed39 U_.vm ∧ U_.heap = h0) (fun _ _ _ _ _ => True) (fun _ U_ o_ V_ => ∃ v_ L_, o_ = .returned v_ ∧ QI (g i) h0 n0 v_ V_.heap L_ ∧ FrameEnd U_ o_ V_ L_ ({ frames := 4, cells := 0, slots := 0, locals := 60 } : Room).cells ({ frames := 4, cells := 0, slots := 0, locals := 60 } : Room).slots) := by
  refine MetFree.of_bodySF (plainFor_of_name pn_11) hisR ?_
  intro p e s m args below meth c s₁ Bd hml0 hP hK
  obtain ⟨rfl, hZ, hh⟩ := hP
  have hx := Bd.exec
  have hby := Bd.bytes
  have hml : c.maxLocals = 2 := hml0
  have hown : s.vm.findClass "java/lang/String" = some m.cls := findClass_of_methodNamed Bd.named
  have hnm := (name_of_methodNamed Bd.named Bd.method).1
  have X0 : Stand p l e ({ frames := 4, cells := 0, slots := 0, locals := 60 } : Room) s m #[(.ref o), (.int (Int32.ofNat i))] below meth c s₁ [] 0 0 := Stand.of_body Bd
  have e0 : s₁.heap = h0 := by rw [← hh, Bd.state]; rfl
  have N0 := Fr.nil n0
  have pre0 : ∀ zz, Steps p.tables e below (s₁.setTop (mkF m 0 #[.val (.ref o), .val (.int (Int32.ofNat i))] [])) zz → Steps p.tables e below (s₁.setTop (entryFrame m #[(.ref o), (.int (Int32.ofNat i))] 2)) zz := fun zz k => castTop (ef_11 m o (Int32.ofNat i)) k
  obtain ⟨cq57, kq57, q57a, q57b, q57c⟩ := isOf hZ e0 EO
  obtain ⟨_, _, ⟨T57, L57, k57, n57⟩, -, X57, ⟨Lc57, hQ57, l57, y57, z57⟩, st57⟩ := X0.virtualBack hx (y := (⟨"java/lang/String", "isLatin1", "()Z"⟩ : MethodName)) (z := (⟨"java/lang/String", "isLatin1", "()Z"⟩ : MethodName)) hown (mvT hZ (hw _ (List.mem_of_getElem? (i := 54) rfl))) (mvT hZ (hw _ (List.mem_of_getElem? (i := 55) rfl))) (notFace_of_selects (args := #[]) (mvT hZ (hw _ (List.mem_of_getElem? (i := 57) rfl)))) (mvT hZ (hw _ (List.mem_of_getElem? (i := 57) rfl))) (mvT hZ (hw _ (List.mem_of_getElem? (i := 56) rfl))) (by decide) (backOf (W := 0) (rmIL0 l Z a0 hw [] o h0 n0 Z0 O SK EO FC) hZ (hw _ (List.mem_of_getElem? (i := 58) rfl)) (hw _ (List.mem_of_getElem? (i := 7) rfl)) (by decide) (by decide)) q57a q57c (g := (mkF m 1 #[.val (.ref o), .val (.int (Int32.ofNat i))] [(.ref o)])) rfl (by rw [hml]; rfl) (Steps.refl _) (argsL := []) (rest := []) (lenOf pd_11 rfl) rfl (by show 2 * 0 + _ ≤ _; exact Nat.le_of_eq rfl) (hb hby d11_1) (fun _ _ => ⟨rfl, e0, (by decide : 0 + 0 ≤ _), (by decide : 0 + 0 ≤ _)⟩)
  dsimp only [Pt.U, Pt.locs, Pt.cells, Pt.slots] at X57 l57 y57 z57 st57 hQ57
  subst l57 y57 z57
  obtain ⟨rfl, N57q, e57⟩ := hQ57
  have N57 := Fr.app N0 N57q
  obtain ⟨T58, X58, e58, st58⟩ := getF X57 hx hZ hown (host := "") (Or.inl (hw _ (List.mem_of_getElem? (i := 33) rfl))) Via.refl e57 FV (g := (mkF m 8 #[.val (.ref o), .val (.int (Int32.ofNat i))] [(.ref o)])) rfl rfl (hb hby d11_8)
  obtain ⟨_, _, ⟨T59, L59, k59, n59⟩, -, X59, ⟨Lc59, hQ59, l59, y59, z59⟩, st59⟩ := Jvm.LawKit.callS X58 hx (y := (⟨"java/lang/StringLatin1", "charAt", "([BI)C"⟩ : MethodName)) hown (mvT hZ (hw _ (List.mem_of_getElem? (i := 59) rfl))) (mvT hZ (hw _ (List.mem_of_getElem? (i := 60) rfl))) (mvT hZ (hw _ (List.mem_of_getElem? (i := 61) rfl))) (mvT hZ (hw _ (List.mem_of_getElem? (i := 62) rfl))) (by decide) (backOf (W := 0) (rmLCA l Z a0 hw [] b i n g h0 n0 Z0 hn hi O SK FB hB) hZ (hw _ (List.mem_of_getElem? (i := 62) rfl)) (hw _ (List.mem_of_getElem? (i := 61) rfl)) (by decide) (by decide)) (g := (mkF m 12 #[.val (.ref o), .val (.int (Int32.ofNat i))] [(.int (Int32.ofNat i)), (.ref b)])) rfl (by rw [hml]; rfl) (argsL := [(.ref b), (.int (Int32.ofNat i))]) (rest := []) (lenOf pd_12 rfl) rfl (by show 2 * 0 + _ ≤ _; exact Nat.le_of_eq rfl) (hb hby d11_12) (fun _ _ => ⟨rfl, e58, (by decide : 0 + 0 ≤ _), (by decide : 0 + 0 ≤ _)⟩)
  dsimp only [Pt.U, Pt.locs, Pt.cells, Pt.slots] at X59 l59 y59 z59 st59 hQ59
  subst l59 y59 z59
  obtain ⟨rfl, N59q, e59⟩ := hQ59
  have N59 := Fr.app N57 N59q
  obtain ⟨fs, hr, hrun, hended, hW, hsame⟩ := X59.leave (v := some (.int (nar .char (g i)))) (fun h => by rw [Bd.returns] at h; cases h)
  refine ⟨_, _, pre0 _ ?_, hrun, hended, _, _, rfl, ?_, ⟨_, rfl⟩, hW, hsame.mono (by decide) (by decide)⟩
  · show Steps p.tables e below (s₁.setTop (mkF m 0 #[.val (.ref o), .val (.int (Int32.ofNat i))] [])) _
    refine XS.aloadN X0.here hx rfl (hb hby d11_0) rfl rfl ?_
    show Steps p.tables e below (s₁.setTop (mkF m 1 #[.val (.ref o), .val (.int (Int32.ofNat i))] [(.ref o)])) _
    refine st57.trans ?_
    refine XS.ifNo X57.here hx rfl (hb hby d11_4) rfl ((if0 _ _).trans (feq (by decide : ¬ ((1 : Int32) = (0 : Int32)))).1) ?_
    refine XS.aloadN X57.here hx rfl (hb hby d11_7) rfl rfl ?_
    show Steps p.tables e below (T57.setTop (mkF m 8 #[.val (.ref o), .val (.int (Int32.ofNat i))] [(.ref o)])) _
    refine st58 _ ?_
    refine XS.iloadN X58.here hx rfl (hb hby d11_11) rfl ?_
    show Steps p.tables e below (T58.setTop (mkF m 12 #[.val (.ref o), .val (.int (Int32.ofNat i))] [(.int (Int32.ofNat i)), (.ref b)])) _
    refine st59 _ ?_
    show Steps p.tables e below (T59.setTop (mkF m 15 #[.val (.ref o), .val (.int (Int32.ofNat i))] [(.int (g i))])) _
    exact retN X59 hx (t := .char) Bd.returns (by simp) (hb hby d11_15) hr
  · show QI (g i) h0 n0 _ T59.heap _
    rw [e59]
    exact ⟨by rw [nar_id (isCh_of (hB i hi))], N59, rfl⟩
set_option maxRecDepth 65536 in
set_option maxHeartbeats 40000000 in
theorem rmCA1 (l : Launch) (Z : State) (a0 : Array Value) (hw : ∀ d ∈ tables_1, d.before a0 Z = true) (ws : List Jvm.Cond) (o b : Addr) (i n : Nat) (g : Nat → Int32)  (h0 : Heap) (n0 : Nat) (Z0 : n0 ≤ h0.size) (hn : n ≤ 4) (hi : i < n) (O : Old Z n0 h0) (SK : StrSta Z) (EO : Exa Z h0 o "java/lang/String") (FC : Fld Z h0 o "java/lang/String" "coder" "B" (.int (1 : Int32))) (FV : Fld Z h0 o "java/lang/String" "value" "[B" (.ref b)) (FB : AF Z h0 b .byte (2 * n) (Ub g)) (hB : ∀ j, j < n → isCh (g j))  :
    MetFree l (⟨"java/lang/String", "charAt", "(I)C"⟩ : MethodName) (head1 (Jvm.Cond.code (⟨"java/lang/String", "charAt", "(I)C"⟩ : MethodName) jdk_42_method_56_code 2 (some .char) :: ws) ({ frames := 4, cells := 0, slots := 0, locals := 60 } : Room)) (fun aa_ U_ => aa_ = #[(.ref o), (.int (Int32.ofNat i))] ∧ Z.Warmed39 U_.vm ∧ U_.heap = h0) (fun _ _ _ _ _ => True) (fun _ U_ o_ V_ => ∃ v_ L_, o_ = .returned v_ ∧ QI (g i) h0 n0 v_ V_.heap L_ ∧ FrameEnd U_ o_ V_ L_ ({ frames := 4, cells := 0, slots := 0, locals := 60 } : Room).cells ({ frames := 4, cells := 0, slots := 0, locals := 60 } : Room).slots) := by
  refine MetFree.of_bodySF (plainFor_of_name pn_11) hisR ?_
  intro p e s m args below meth c s₁ Bd hml0 hP hK
  obtain ⟨rfl, hZ, hh⟩ := hP
  have hx := Bd.exec
  have hby := Bd.bytes
  have hml : c.maxLocals = 2 := hml0
  have hown : s.vm.findClass "java/lang/String" = some m.cls := findClass_of_methodNamed Bd.named
  have hnm := (name_of_methodNamed Bd.named Bd.method).1
  have X0 : Stand p l e ({ frames := 4, cells := 0, slots := 0, locals := 60 } : Room) s m #[(.ref o), (.int (Int32.ofNat i))] below meth c s₁ [] 0 0 := Stand.of_body Bd
  have e0 : s₁.heap = h0 := by rw [← hh, Bd.state]; rfl
  have N0 := Fr.nil n0
  have pre0 : ∀ zz, Steps p.tables e below (s₁.setTop (mkF m 0 #[.val (.ref o), .val (.int (Int32.ofNat i))] [])) zz → Steps p.tables e below (s₁.setTop (entryFrame m #[(.ref o), (.int (Int32.ofNat i))] 2)) zz := fun zz k => castTop (ef_11 m o (Int32.ofNat i)) k
  obtain ⟨cq60, kq60, q60a, q60b, q60c⟩ := isOf hZ e0 EO
  obtain ⟨_, _, ⟨T60, L60, k60, n60⟩, -, X60, ⟨Lc60, hQ60, l60, y60, z60⟩, st60⟩ := X0.virtualBack hx (y := (⟨"java/lang/String", "isLatin1", "()Z"⟩ : MethodName)) (z := (⟨"java/lang/String", "isLatin1", "()Z"⟩ : MethodName)) hown (mvT hZ (hw _ (List.mem_of_getElem? (i := 54) rfl))) (mvT hZ (hw _ (List.mem_of_getElem? (i := 55) rfl))) (notFace_of_selects (args := #[]) (mvT hZ (hw _ (List.mem_of_getElem? (i := 57) rfl)))) (mvT hZ (hw _ (List.mem_of_getElem? (i := 57) rfl))) (mvT hZ (hw _ (List.mem_of_getElem? (i := 56) rfl))) (by decide) (backOf (W := 0) (rmIL1 l Z a0 hw [] o h0 n0 Z0 O SK EO FC) hZ (hw _ (List.mem_of_getElem? (i := 58) rfl)) (hw _ (List.mem_of_getElem? (i := 7) rfl)) (by decide) (by decide)) q60a q60c (g := (mkF m 1 #[.val (.ref o), .val (.int (Int32.ofNat i))] [(.ref o)])) rfl (by rw [hml]; rfl) (Steps.refl _) (argsL := []) (rest := []) (lenOf pd_11 rfl) rfl (by show 2 * 0 + _ ≤ _; exact Nat.le_of_eq rfl) (hb hby d11_1) (fun _ _ => ⟨rfl, e0, (by decide : 0 + 0 ≤ _), (by decide : 0 + 0 ≤ _)⟩)
  dsimp only [Pt.U, Pt.locs, Pt.cells, Pt.slots] at X60 l60 y60 z60 st60 hQ60
  subst l60 y60 z60
  obtain ⟨rfl, N60q, e60⟩ := hQ60
  have N60 := Fr.app N0 N60q
  obtain ⟨T61, X61, e61, st61⟩ := getF X60 hx hZ hown (host := "") (Or.inl (hw _ (List.mem_of_getElem? (i := 33) rfl))) Via.refl e60 FV (g := (mkF m 17 #[.val (.ref o), .val (.int (Int32.ofNat i))] [(.ref o)])) rfl rfl (hb hby d11_17)
  obtain ⟨_, _, ⟨T62, L62, k62, n62⟩, -, X62, ⟨Lc62, hQ62, l62, y62, z62⟩, st62⟩ := Jvm.LawKit.callS X61 hx (y := (⟨"java/lang/StringUTF16", "charAt", "([BI)C"⟩ : MethodName)) hown (mvT hZ (hw _ (List.mem_of_getElem? (i := 93) rfl))) (mvT hZ (hw _ (List.mem_of_getElem? (i := 94) rfl))) (mvT hZ (hw _ (List.mem_of_getElem? (i := 22) rfl))) (mvT hZ (hw _ (List.mem_of_getElem? (i := 95) rfl))) (by decide) (backOf (W := 0) (rmUCA l Z a0 hw [] b i n g h0 n0 Z0 hn hi O SK FB hB) hZ (hw _ (List.mem_of_getElem? (i := 95) rfl)) (hw _ (List.mem_of_getElem? (i := 22) rfl)) (by decide) (by decide)) (g := (mkF m 21 #[.val (.ref o), .val (.int (Int32.ofNat i))] [(.int (Int32.ofNat i)), (.ref b)])) rfl (by rw [hml]; rfl) (argsL := [(.ref b), (.int (Int32.ofNat i))]) (rest := []) (lenOf pd_12 rfl) rfl (by show 2 * 0 + _ ≤ _; exact Nat.le_of_eq rfl) (hb hby d11_21) (fun _ _ => ⟨rfl, e61, (by decide : 0 + 0 ≤ _), (by decide : 0 + 0 ≤ _)⟩)
  dsimp only [Pt.U, Pt.locs, Pt.cells, Pt.slots] at X62 l62 y62 z62 st62 hQ62
  subst l62 y62 z62
  obtain ⟨rfl, N62q, e62⟩ := hQ62
  have N62 := Fr.app N60 N62q
  obtain ⟨fs, hr, hrun, hended, hW, hsame⟩ := X62.leave (v := some (.int (nar .char (g i)))) (fun h => by rw [Bd.returns] at h; cases h)
  refine ⟨_, _, pre0 _ ?_, hrun, hended, _, _, rfl, ?_, ⟨_, rfl⟩, hW, hsame.mono (by decide) (by decide)⟩
  · show Steps p.tables e below (s₁.setTop (mkF m 0 #[.val (.ref o), .val (.int (Int32.ofNat i))] [])) _
    refine XS.aloadN X0.here hx rfl (hb hby d11_0) rfl rfl ?_
    show Steps p.tables e below (s₁.setTop (mkF m 1 #[.val (.ref o), .val (.int (Int32.ofNat i))] [(.ref o)])) _
    refine st60.trans ?_
    refine XS.ifYes X60.here hx rfl (pc0 := 4) (pc' := 16) rfl (hb hby d11_4) rfl ((if0 _ _).trans (teq (rfl : (0 : Int32) = (0 : Int32))).1) (by decide) (by decide) ?_
    refine XS.aloadN X60.here hx rfl (hb hby d11_16) rfl rfl ?_
    show Steps p.tables e below (T60.setTop (mkF m 17 #[.val (.ref o), .val (.int (Int32.ofNat i))] [(.ref o)])) _
    refine st61 _ ?_
    refine XS.iloadN X61.here hx rfl (hb hby d11_20) rfl ?_
    show Steps p.tables e below (T61.setTop (mkF m 21 #[.val (.ref o), .val (.int (Int32.ofNat i))] [(.int (Int32.ofNat i)), (.ref b)])) _
    refine st62 _ ?_
    show Steps p.tables e below (T62.setTop (mkF m 24 #[.val (.ref o), .val (.int (Int32.ofNat i))] [(.int (g i))])) _
    exact retN X62 hx (t := .char) Bd.returns (by simp) (hb hby d11_24) hr
  · show QI (g i) h0 n0 _ T62.heap _
    rw [e62]
    exact ⟨by rw [nar_id (hB i hi)], N62, rfl⟩
set_option maxRecDepth 65536 in
set_option maxHeartbeats 40000000 in
theorem rmCA (l : Launch) (Z : State) (a0 : Array Value) (hw : ∀ d ∈ tables_1, d.before a0 Z = true) (ws : List Jvm.Cond) (o : Addr) (i n : Nat) (g : Nat → Int32)  (h0 : Heap) (n0 : Nat) (Z0 : n0 ≤ h0.size) (hn : n ≤ 4) (hi : i < n) (O : Old Z n0 h0) (SK : StrSta Z) (S : Str Z h0 o n g)  :
    MetFree l (⟨"java/lang/String", "charAt", "(I)C"⟩ : MethodName) (head1 (Jvm.Cond.code (⟨"java/lang/String", "charAt", "(I)C"⟩ : MethodName) jdk_42_method_56_code 2 (some .char) :: ws) ({ frames := 4, cells := 0, slots := 0, locals := 60 } : Room)) (fun aa_ U_ => aa_ = #[(.ref o), (.int (Int32.ofNat i))] ∧ Z.Warmed39 U_.vm ∧ U_.heap = h0) (fun _ _ _ _ _ => True) (fun _ U_ o_ V_ => ∃ v_ L_, o_ = .returned v_ ∧ QI (g i) h0 n0 v_ V_.heap L_ ∧ FrameEnd U_ o_ V_ L_ ({ frames := 4, cells := 0, slots := 0, locals := 60 } : Room).cells ({ frames := 4, cells := 0, slots := 0, locals := 60 } : Room).slots) := by
  obtain ⟨EO, b, FV, ⟨FC, FB, hB⟩ | ⟨FC, FB, hB⟩⟩ := S
  · exact rmCA0 l Z a0 hw ws o b i n g h0 n0 Z0 hn hi O SK EO FC FV FB hB
  · exact rmCA1 l Z a0 hw ws o b i n g h0 n0 Z0 hn hi O SK EO FC FV FB hB
def gL (a b d f : Int32) : Nat → Int32
  | 0 => a
  | 1 => b
  | 2 => d
  | 3 => f
  | _ + 4 => 0
theorem gL_ch {a b d f : Int32} (ha : isCh a) (hb : isCh b) (hd : isCh d) (hf : isCh f) : ∀ j, isCh (gL a b d f j)
  | 0 => ha
  | 1 => hb
  | 2 => hd
  | 3 => hf
  | _ + 4 => (⟨by decide, by decide⟩ : isCh (0 : Int32))
theorem fillT1 {a b d f : Int32} (ha : isCh a) (hb : isCh b) (hd : isCh d) (hf : isCh f) : ∀ j, j < 1 → upd (fun _ => (.int (0 : Int32))) 0 (.int (nar .char a)) j = Ca (gL a b d f) j := by
  rw [nar_id ha]
  intro j hj
  match j, hj with
  | 0, _ => rfl
theorem fillT2 {a b d f : Int32} (ha : isCh a) (hb : isCh b) (hd : isCh d) (hf : isCh f) : ∀ j, j < 2 → upd (upd (fun _ => (.int (0 : Int32))) 0 (.int (nar .char a))) 1 (.int (nar .char b)) j = Ca (gL a b d f) j := by
  rw [nar_id ha, nar_id hb]
  intro j hj
  match j, hj with
  | 0, _ => rfl
  | 1, _ => rfl
theorem fillT3 {a b d f : Int32} (ha : isCh a) (hb : isCh b) (hd : isCh d) (hf : isCh f) : ∀ j, j < 3 → upd (upd (upd (fun _ => (.int (0 : Int32))) 0 (.int (nar .char a))) 1 (.int (nar .char b))) 2 (.int (nar .char d)) j = Ca (gL a b d f) j := by
  rw [nar_id ha, nar_id hb, nar_id hd]
  intro j hj
  match j, hj with
  | 0, _ => rfl
  | 1, _ => rfl
  | 2, _ => rfl
theorem fillT4 {a b d f : Int32} (ha : isCh a) (hb : isCh b) (hd : isCh d) (hf : isCh f) : ∀ j, j < 4 → upd (upd (upd (upd (fun _ => (.int (0 : Int32))) 0 (.int (nar .char a))) 1 (.int (nar .char b))) 2 (.int (nar .char d))) 3 (.int (nar .char f)) j = Ca (gL a b d f) j := by
  rw [nar_id ha, nar_id hb, nar_id hd, nar_id hf]
  intro j hj
  match j, hj with
  | 0, _ => rfl
  | 1, _ => rfl
  | 2, _ => rfl
  | 3, _ => rfl
def cA (x : Int32) : Int32 := (x &&& (65535 : Int32)).toUInt32.toUInt16.toUInt32.toInt32
def cB (x : Int32) : Int32 := ((x.toUInt32 >>> ((16 : Int32) &&& 31).toUInt32).toInt32 &&& (65535 : Int32)).toUInt32.toUInt16.toUInt32.toInt32
theorem cA_ch (x : Int32) : isCh (cA x) := (c_i2c _).2
theorem cB_ch (x : Int32) : isCh (cB x) := (c_i2c _).2
def lenF (k : Int32) : Int32 := (k &&& (7 : Int32)) % (5 : Int32)
def idxF (k : Int32) : Int32 := (k.toUInt32 >>> ((3 : Int32) &&& 31).toUInt32).toInt32 &&& (7 : Int32)
def choF (k : Int32) : Int32 := (k.toUInt32 >>> ((6 : Int32) &&& 31).toUInt32).toInt32 &&& (7 : Int32)
def cF (q a b d f x : Int32) : Int32 := if q = 0 then a else if q = 1 then b else if q = 2 then d else if q = 3 then f else x
theorem lenF_is (k : Int32) : ∃ n : Nat, n ≤ 4 ∧ lenF k = Int32.ofNat n := by
  have m := c_mask k 7 3 (by decide) (by decide)
  have r := (c_irem (k &&& (7 : Int32)) 5 5 rfl).1
  have e8 : ((2 ^ 3 : Nat) : Int) = 8 := by decide
  rw [e8] at m
  have r := r (by omega)
  refine ⟨(lenF k).toInt.toNat, ?_, ?_⟩
  · show ((k &&& (7 : Int32)) % (5 : Int32)).toInt.toNat ≤ 4
    omega
  · refine Int32.toInt_inj.mp ?_
    show ((k &&& (7 : Int32)) % (5 : Int32)).toInt = (Int32.ofNat ((k &&& (7 : Int32)) % (5 : Int32)).toInt.toNat).toInt
    rw [Int32.toInt_ofNat_small (by omega)]
    omega
theorem idxF_is (k : Int32) : ∃ n : Nat, n < 8 ∧ idxF k = Int32.ofNat n := by
  have m := c_mask ((k.toUInt32 >>> ((3 : Int32) &&& 31).toUInt32).toInt32) 7 3 (by decide) (by decide)
  have e8 : ((2 ^ 3 : Nat) : Int) = 8 := by decide
  rw [e8] at m
  refine ⟨(idxF k).toInt.toNat, ?_, ?_⟩
  · show ((k.toUInt32 >>> ((3 : Int32) &&& 31).toUInt32).toInt32 &&& (7 : Int32)).toInt.toNat < 8
    omega
  · refine Int32.toInt_inj.mp ?_
    show ((k.toUInt32 >>> ((3 : Int32) &&& 31).toUInt32).toInt32 &&& (7 : Int32)).toInt = (Int32.ofNat ((k.toUInt32 >>> ((3 : Int32) &&& 31).toUInt32).toInt32 &&& (7 : Int32)).toInt.toNat).toInt
    rw [Int32.toInt_ofNat_small (by omega)]
    omega
theorem eqI_v {args : Array Value} {first s : State} {o : Option Outcome} {idx : List Nat} {t : Term} {k : Int32} (h : (Cond.eq t (.int k)).value args first o s idx = some true) : t.eval args first o idx s = some (.int k) := by
  simp only [Cond.value, Term.eval] at h
  cases ht : t.eval args first o idx s with
  | none => simp [ht] at h
  | some x => cases x <;> simp [ht] at h ⊢; exact h

set_option maxRecDepth 65536 in
set_option maxHeartbeats 40000000 in
theorem rmE4 (l : Launch) (Z : State) (a0 : Array Value) (hw : ∀ d ∈ tables_1, d.before a0 Z = true) (ws : List Jvm.Cond) (o a : Addr) (g : Nat → Int32)  (h0 : Heap) (n0 : Nat) (Z0 : n0 ≤ h0.size) (hEL : EW Z a0 [("java/lang/String", 7)]) (EO : Exa Z h0 o "java/lang/String") (FV : Fld Z h0 o "java/lang/String" "value" "[B" .null) (FC : Fld Z h0 o "java/lang/String" "coder" "B" (.int (0 : Int32))) (g_o : n0 ≤ o)  :
    MetFree l (⟨"java/lang/String", "<init>", "([CIILjava/lang/Void;)V"⟩ : MethodName) (head1 (Jvm.Cond.code (⟨"java/lang/String", "<init>", "([CIILjava/lang/Void;)V"⟩ : MethodName) jdk_42_method_149_code 6 none :: ws) ({ frames := 1, cells := 4, slots := 8, locals := 13 } : Room)) (fun aa_ U_ => aa_ = #[(.ref o), (.ref a), (.int (0 : Int32)), (.int (Int32.ofNat 0)), .null] ∧ Z.Warmed39 U_.vm ∧ U_.heap = h0 ∧ CHv Z [("java/lang/String", 7)] U_.vm h0) (fun _ _ _ _ _ => True) (fun _ U_ o_ V_ => ∃ v_ L_, o_ = .returned v_ ∧ QS Z o 0 g h0 n0 v_ V_.heap L_ ∧ CHr Z [("java/lang/String", 7)] U_.vm U_.heap V_.vm V_.heap ∧ ReturnedEndW U_ o_ V_ L_ ({ frames := 1, cells := 4, slots := 8, locals := 13 } : Room).cells ({ frames := 1, cells := 4, slots := 8, locals := 13 } : Room).slots) := by
  refine MetFree.of_bodySF (plainFor_of_name pn_3) hisR ?_
  intro p e s m args below meth c s₁ Bd hml0 hP hK
  obtain ⟨rfl, hZ, hh, CH0⟩ := hP
  have hx := Bd.exec
  have hby := Bd.bytes
  have hml : c.maxLocals = 6 := hml0
  have hown : s.vm.findClass "java/lang/String" = some m.cls := findClass_of_methodNamed Bd.named
  have hnm := (name_of_methodNamed Bd.named Bd.method).1
  have X0 : Stand p l e ({ frames := 1, cells := 4, slots := 8, locals := 13 } : Room) s m #[(.ref o), (.ref a), (.int (0 : Int32)), (.int (Int32.ofNat 0)), .null] below meth c s₁ [] 0 0 := Stand.of_body Bd
  have e0 : s₁.heap = h0 := by rw [← hh, Bd.state]; rfl
  have N0 := Fr.nil n0
  have pre0 : ∀ zz, Steps p.tables e below (s₁.setTop (mkF m 0 #[.val (.ref o), .val (.ref a), .val (.int (0 : Int32)), .val (.int (Int32.ofNat 0)), .val .null, .unset] [])) zz → Steps p.tables e below (s₁.setTop (entryFrame m #[(.ref o), (.ref a), (.int (0 : Int32)), (.int (Int32.ofNat 0)), .null] 6)) zz := fun zz k => castTop (ef_3 m o a (0 : Int32) (Int32.ofNat 0)) k
  have hwS : ∀ a ∈ Bundle.stringAtoms, a.before a0 Z = true := fun d hd => hw d (by simpa using (List.all_eq_true.mp (by decide +kernel : (Bundle.stringAtoms.all fun c => tables_1.contains c) = true)) d hd)
  have SF0 : Safe Z [("java/lang/String", 7)] s.vm h0 o := safeNull hZ.alike EO FV
  obtain ⟨T63, X63, e63, st63⟩ := initO X0 hx hZ hown (hw _ (List.mem_of_getElem? (i := 16) rfl)) (hw _ (List.mem_of_getElem? (i := 17) rfl)) (hw _ (List.mem_of_getElem? (i := 18) rfl)) e0 (g := (mkF m 1 #[.val (.ref o), .val (.ref a), .val (.int (0 : Int32)), .val (.int (Int32.ofNat 0)), .val .null, .unset] [(.ref o)])) rfl (by rw [hml]; rfl) rfl (hb hby d3_1) (by decide) (W := 0) (by show 2 * 0 + _ ≤ _; exact Nat.le_of_eq rfl) (by decide)
  obtain ⟨a64, T64, h64, k64, v64, kk64, X64, e64, E64, hS64, hk64, hZ64, hown64, Ex64, Fc64, Fv64, Av64, la64, lb64, C64, Lt64, Sn64, st64⟩ := ldcCH (s := s) (vm0 := s.vm) (EL := [("java/lang/String", 7)]) X63 hx hZ hown (hw _ (List.mem_of_getElem? (i := 71) rfl)) hwS e63 ((State.WarmedH.refl s).since 0) (Nat.zero_le _) hEL (List.mem_singleton.mpr rfl) CH0 (vs := []) (z := (0 : Int32)) (by decide) (by decide) (by decide) (g := (mkF m 9 #[.val (.ref o), .val (.ref a), .val (.int (0 : Int32)), .val (.int (Int32.ofNat 0)), .val .null, .unset] [(.ref o)])) rfl (hb hby d3_9) (n := 0) (by decide) (by decide) (by decide) (by decide)
  have SF64_o := C64.safe EO.lt SF0
  have EO_e64 := EO.ext E64
  have FV_e64 := FV.ext E64
  have FC_e64 := FC.ext E64
  have K64 := (Keep.refl h0 [o]).ext E64
  have Z64 : n0 ≤ h64.size := Nat.le_trans Z0 E64.1
  have CR64 := (CHr.refl CH0).trans C64
  obtain ⟨T65, X65, e65, st65⟩ := getF X64 hx hZ64 hown64 (host := "") (Or.inl (hw _ (List.mem_of_getElem? (i := 33) rfl))) Via.refl e64 Fv64 (g := (mkF m 11 #[.val (.ref o), .val (.ref a), .val (.int (0 : Int32)), .val (.int (Int32.ofNat 0)), .val .null, .unset] [(.ref a64), (.ref o)])) rfl rfl (hb hby d3_11)
  obtain ⟨T66, h66, X66, e66, W66, st66⟩ := putF X65 hx hZ64 hown64 (host := "") (Or.inl (hw _ (List.mem_of_getElem? (i := 33) rfl))) Via.refl e65 FV_e64 EO_e64 (Or.inr ⟨(hw _ (List.mem_of_getElem? (i := 34) rfl)), rfl, hnm⟩) (hw _ (List.mem_of_getElem? (i := 6) rfl)) (ty := (.array .byte)) (by decide) rfl rfl (g := (mkF m 14 #[.val (.ref o), .val (.ref a), .val (.int (0 : Int32)), .val (.int (Int32.ofNat 0)), .val .null, .unset] [(.ref v64), (.ref o)])) rfl rfl (hb hby d3_14)
  have Fw66 := FV_e64.same W66
  have EO_e66 := EO_e64.wr W66
  have FC_e66 := FC_e64.other W66 (Or.inr (slot_ne (Or.inr (hw _ (List.mem_of_getElem? (i := 32) rfl))) (Or.inr (hw _ (List.mem_of_getElem? (i := 34) rfl))) (by decide) (t := .byte) (t' := (.array .byte)) (by decide) (by decide)))
  have Ex64_e66 := Ex64.wr W66
  have Fc64_e66 := Fc64.other W66 (Or.inl (Ne.symm (Sn64 _ SF64_o).1))
  have Fv64_e66 := Fv64.other W66 (Or.inl (Ne.symm (Sn64 _ SF64_o).1))
  have Av64_e66 := Av64.other W66 (Ne.symm (Sn64 _ SF64_o).2)
  have N66 := Fr.snoc X66 N0 g_o
  have K66 := K64.wr W66 (Or.inl (List.mem_of_getElem? (i := 0) rfl))
  have Z66 : n0 ≤ h66.size := Nat.le_trans Z64 (Keep.of_wr W66).1
  have hk66 := Nat.le_trans hk64 (Keep.of_wr W66).1
  have CR66 := CR64.trans (CHr.wr W66 SF64_o C64.1)
  have SF66_o := Safe.wr W66 SF64_o C64.1 SF64_o
  have CH66 := CHv.wr W66 SF64_o C64.1
  obtain ⟨a67, T67, h67, k67, v67, kk67, X67, e67, E67, hS67, hk67, hZ67, hown67, Ex67, Fc67, Fv67, Av67, la67, lb67, C67, Lt67, Sn67, st67⟩ := ldcCH (s := s) (vm0 := T64.vm) (EL := [("java/lang/String", 7)]) X66 hx hZ64 hown64 (hw _ (List.mem_of_getElem? (i := 71) rfl)) hwS e66 hS64 hk66 hEL (List.mem_singleton.mpr rfl) CH66 (vs := []) (z := (0 : Int32)) (by decide) (by decide) (by decide) (g := (mkF m 18 #[.val (.ref o), .val (.ref a), .val (.int (0 : Int32)), .val (.int (Int32.ofNat 0)), .val .null, .unset] [(.ref o)])) rfl (hb hby d3_18) (n := 0) (by decide) (by decide) (by decide) (by decide)
  have SF67_o := C67.safe EO_e66.lt SF66_o
  have EO_e67 := EO_e66.ext E67
  have Fw66_e67 := Fw66.ext E67
  have FC_e67 := FC_e66.ext E67
  have Ex64_e67 := Ex64_e66.ext E67
  have Fc64_e67 := Fc64_e66.ext E67
  have Fv64_e67 := Fv64_e66.ext E67
  have Av64_e67 := Av64_e66.ext E67
  have K67 := K66.ext E67
  have Z67 : n0 ≤ h67.size := Nat.le_trans Z66 E67.1
  have CR67 := CR66.trans C67
  obtain ⟨T68, X68, e68, st68⟩ := getF X67 hx hZ67 hown67 (host := "") (Or.inl (hw _ (List.mem_of_getElem? (i := 31) rfl))) Via.refl e67 Fc67 (g := (mkF m 20 #[.val (.ref o), .val (.ref a), .val (.int (0 : Int32)), .val (.int (Int32.ofNat 0)), .val .null, .unset] [(.ref a67), (.ref o)])) rfl rfl (hb hby d3_20)
  obtain ⟨T69, h69, X69, e69, W69, st69⟩ := putFN X68 hx hZ67 hown67 (hw _ (List.mem_of_getElem? (i := 31) rfl)) Via.refl e68 FC_e67 EO_e67 (Or.inr ⟨(hw _ (List.mem_of_getElem? (i := 32) rfl)), rfl, hnm⟩) (hw _ (List.mem_of_getElem? (i := 6) rfl)) (ty := .byte) (v' := (.int (0 : Int32))) (by decide) rfl (by decide) (g := (mkF m 23 #[.val (.ref o), .val (.ref a), .val (.int (0 : Int32)), .val (.int (Int32.ofNat 0)), .val .null, .unset] [(.int (0 : Int32)), (.ref o)])) rfl rfl (hb hby d3_23)
  have Fw69 := FC_e67.same W69
  have EO_e69 := EO_e67.wr W69
  have Fw66_e69 := Fw66_e67.other W69 (Or.inr (slot_ne (Or.inr (hw _ (List.mem_of_getElem? (i := 34) rfl))) (Or.inr (hw _ (List.mem_of_getElem? (i := 32) rfl))) (by decide) (t := (.array .byte)) (t' := .byte) (by decide) (by decide)))
  have Ex64_e69 := Ex64_e67.wr W69
  have Fc64_e69 := Fc64_e67.other W69 (Or.inl (Ne.symm (Sn64 _ SF64_o).1))
  have Fv64_e69 := Fv64_e67.other W69 (Or.inl (Ne.symm (Sn64 _ SF64_o).1))
  have Av64_e69 := Av64_e67.other W69 (Ne.symm (Sn64 _ SF64_o).2)
  have Ex67_e69 := Ex67.wr W69
  have Fc67_e69 := Fc67.other W69 (Or.inl (Ne.symm (Sn67 _ SF67_o).1))
  have Fv67_e69 := Fv67.other W69 (Or.inl (Ne.symm (Sn67 _ SF67_o).1))
  have Av67_e69 := Av67.other W69 (Ne.symm (Sn67 _ SF67_o).2)
  have N69 := Fr.snoc X69 N66 g_o
  have K69 := K67.wr W69 (Or.inl (List.mem_of_getElem? (i := 0) rfl))
  have Z69 : n0 ≤ h69.size := Nat.le_trans Z67 (Keep.of_wr W69).1
  have hk69 := Nat.le_trans hk67 (Keep.of_wr W69).1
  have CR69 := CR67.trans (CHr.wr W69 SF67_o C67.1)
  have SF69_o := Safe.wr W69 SF67_o C67.1 SF67_o
  have CH69 := CHv.wr W69 SF67_o C67.1
  obtain ⟨fs, hr, hrun, hended, -, hWW, hBB, hSS⟩ := Stand.leaveW (s := s) (vm₁ := T67.vm) X69 hS67 (by rw [e69]; exact hk69) (v := none) (fun _ => rfl)
  refine ⟨_, _, pre0 _ ?_, hrun, hended, _, _, rfl, ?_, ?_, ⟨_, rfl⟩, hWW, hBB, hSS.mono (by decide) (by decide)⟩
  · show Steps p.tables e below (s₁.setTop (mkF m 0 #[.val (.ref o), .val (.ref a), .val (.int (0 : Int32)), .val (.int (Int32.ofNat 0)), .val .null, .unset] [])) _
    refine XS.aloadN X0.here hx rfl (hb hby d3_0) rfl rfl ?_
    show Steps p.tables e below (s₁.setTop (mkF m 1 #[.val (.ref o), .val (.ref a), .val (.int (0 : Int32)), .val (.int (Int32.ofNat 0)), .val .null, .unset] [(.ref o)])) _
    refine st63 _ ?_
    refine XS.iloadN X63.here hx rfl (hb hby d3_4) rfl ?_
    refine XS.ifNo X63.here hx rfl (hb hby d3_5) rfl ((if0 _ _).trans (teq rfl).2) ?_
    refine XS.aloadN X63.here hx rfl (hb hby d3_8) rfl rfl ?_
    show Steps p.tables e below (T63.setTop (mkF m 9 #[.val (.ref o), .val (.ref a), .val (.int (0 : Int32)), .val (.int (Int32.ofNat 0)), .val .null, .unset] [(.ref o)])) _
    refine st64 _ ?_
    show Steps p.tables e below (T64.setTop (mkF m 11 #[.val (.ref o), .val (.ref a), .val (.int (0 : Int32)), .val (.int (Int32.ofNat 0)), .val .null, .unset] [(.ref a64), (.ref o)])) _
    refine st65 _ ?_
    show Steps p.tables e below (T65.setTop (mkF m 14 #[.val (.ref o), .val (.ref a), .val (.int (0 : Int32)), .val (.int (Int32.ofNat 0)), .val .null, .unset] [(.ref v64), (.ref o)])) _
    refine st66 _ ?_
    refine XS.aloadN X66.here hx rfl (hb hby d3_17) rfl rfl ?_
    show Steps p.tables e below (T66.setTop (mkF m 18 #[.val (.ref o), .val (.ref a), .val (.int (0 : Int32)), .val (.int (Int32.ofNat 0)), .val .null, .unset] [(.ref o)])) _
    refine st67 _ ?_
    show Steps p.tables e below (T67.setTop (mkF m 20 #[.val (.ref o), .val (.ref a), .val (.int (0 : Int32)), .val (.int (Int32.ofNat 0)), .val .null, .unset] [(.ref a67), (.ref o)])) _
    refine st68 _ ?_
    show Steps p.tables e below (T68.setTop (mkF m 23 #[.val (.ref o), .val (.ref a), .val (.int (0 : Int32)), .val (.int (Int32.ofNat 0)), .val .null, .unset] [(.int (0 : Int32)), (.ref o)])) _
    refine st69 _ ?_
    show Steps p.tables e below (T69.setTop (mkF m 26 #[.val (.ref o), .val (.ref a), .val (.int (0 : Int32)), .val (.int (Int32.ofNat 0)), .val .null, .unset] [])) _
    exact X69.returnOut hx Bd.returns (hb hby d3_26) hr
  · show QS Z o 0 g h0 n0 _ T69.heap _
    rw [e69]
    exact ⟨rfl, N69, K69, EO_e69, v64, Fw66_e69, Or.inl ⟨Fw69, AF.empty Av64_e69 rfl _, fun j hj => absurd hj (Nat.not_lt_zero _)⟩⟩
  · show CHr Z [("java/lang/String", 7)] s.vm s.heap T69.vm T69.heap
    have q := CR69.trans (CHv.at (s := s) (vm0 := T67.vm) X69 hZ67 hEL CH69)
    rw [hh, e69]
    exact q
set_option maxRecDepth 65536 in
set_option maxHeartbeats 40000000 in
theorem rmE1 (l : Launch) (Z : State) (a0 : Array Value) (hw : ∀ d ∈ tables_1, d.before a0 Z = true) (ws : List Jvm.Cond) (o a : Addr) (g : Nat → Int32) (f : Nat → Value)  (h0 : Heap) (n0 : Nat) (Z0 : n0 ≤ h0.size) (hEL : EW Z a0 [("java/lang/String", 7)]) (FA : AF Z h0 a .char 0 f) (EO : Exa Z h0 o "java/lang/String") (FV : Fld Z h0 o "java/lang/String" "value" "[B" .null) (FC : Fld Z h0 o "java/lang/String" "coder" "B" (.int (0 : Int32))) (g_o : n0 ≤ o)  :
    MetFree l (⟨"java/lang/String", "<init>", "([C)V"⟩ : MethodName) (head1 (Jvm.Cond.code (⟨"java/lang/String", "<init>", "([C)V"⟩ : MethodName) jdk_42_method_3_code 2 none :: ws) ({ frames := 2, cells := 4, slots := 8, locals := 40 } : Room)) (fun aa_ U_ => aa_ = #[(.ref o), (.ref a)] ∧ Z.Warmed39 U_.vm ∧ U_.heap = h0 ∧ CHv Z [("java/lang/String", 7)] U_.vm h0) (fun _ _ _ _ _ => True) (fun _ U_ o_ V_ => ∃ v_ L_, o_ = .returned v_ ∧ QS Z o 0 g h0 n0 v_ V_.heap L_ ∧ CHr Z [("java/lang/String", 7)] U_.vm U_.heap V_.vm V_.heap ∧ ReturnedEndW U_ o_ V_ L_ ({ frames := 2, cells := 4, slots := 8, locals := 40 } : Room).cells ({ frames := 2, cells := 4, slots := 8, locals := 40 } : Room).slots) := by
  refine MetFree.of_bodySF (plainFor_of_name pn_2) hisR ?_
  intro p e s m args below meth c s₁ Bd hml0 hP hK
  obtain ⟨rfl, hZ, hh, CH0⟩ := hP
  have hx := Bd.exec
  have hby := Bd.bytes
  have hml : c.maxLocals = 2 := hml0
  have hown : s.vm.findClass "java/lang/String" = some m.cls := findClass_of_methodNamed Bd.named
  have hnm := (name_of_methodNamed Bd.named Bd.method).1
  have X0 : Stand p l e ({ frames := 2, cells := 4, slots := 8, locals := 40 } : Room) s m #[(.ref o), (.ref a)] below meth c s₁ [] 0 0 := Stand.of_body Bd
  have e0 : s₁.heap = h0 := by rw [← hh, Bd.state]; rfl
  have N0 := Fr.nil n0
  have pre0 : ∀ zz, Steps p.tables e below (s₁.setTop (mkF m 0 #[.val (.ref o), .val (.ref a)] [])) zz → Steps p.tables e below (s₁.setTop (entryFrame m #[(.ref o), (.ref a)] 2)) zz := fun zz k => castTop (ef_2 m o a) k
  obtain ⟨_, _, ⟨T70, L70, k70, n70⟩, -, X70, hS270, hg70, ⟨Lc70, hQ70, l70, y70, z70, C70⟩, st70⟩ := X0.specialBackS hx (y := (⟨"java/lang/String", "<init>", "([CIILjava/lang/Void;)V"⟩ : MethodName)) rfl hown (mvT hZ (hw _ (List.mem_of_getElem? (i := 12) rfl))) (mvT hZ (hw _ (List.mem_of_getElem? (i := 13) rfl))) (mvT hZ (hw _ (List.mem_of_getElem? (i := 15) rfl))) (by decide) (backOfSH (s := s) (vm0 := s.vm) (EL := [("java/lang/String", 7)]) (W := 0) (rmE4 l Z a0 hw [] o a g h0 n0 Z0 hEL EO FV FC g_o) hZ (hw _ (List.mem_of_getElem? (i := 15) rfl)) (hw _ (List.mem_of_getElem? (i := 7) rfl)) (by decide) (by decide) hEL CH0) (g := (mkF m 6 #[.val (.ref o), .val (.ref a)] [.null, (.int (Int32.ofNat 0)), (.int (0 : Int32)), (.ref a), (.ref o)])) rfl (by rw [hml]; rfl) (Steps.refl _) (a := o) (argsL := [(.ref a), (.int (0 : Int32)), (.int (Int32.ofNat 0)), .null]) (rest := []) (lenOf pd_2 rfl) rfl (by show 2 * 0 + _ ≤ _; exact Nat.le_of_eq rfl) (hb hby d2_6) (fun _ _ => ⟨rfl, e0, (by decide : 0 + 4 ≤ _), (by decide : 0 + 8 ≤ _)⟩)
  dsimp only [Pt.U, Pt.locs, Pt.cells, Pt.slots] at X70 l70 y70 z70 st70 hQ70 hS270 hg70 C70
  subst l70 y70 z70
  obtain ⟨rfl, N70q, K70, S70⟩ := hQ70
  have N70 := Fr.app N0 N70q
  have CR70 := (CHr.refl CH0).trans C70
  have hS70 := foldS ((State.WarmedH.refl s).since 0) (by rw [e0]; exact (Nat.zero_le _)) hS270 hg70
  have hZ70 : Z.Warmed39 (s.setVm T70.vm).vm := State.Warmed39.trans hZ hS270.1
  have hown70 : (s.setVm T70.vm).vm.findClass "java/lang/String" = some m.cls := by rw [show (s.setVm T70.vm).vm = T70.vm from rfl, hS270.1.alike.findClass]; exact hown
  have KK70 := (Keep.refl h0 [o]).trans K70 (fun x r => by cases List.mem_singleton.mp r; exact (Or.inl (List.mem_of_getElem? (i := 0) rfl)))
  have Z70 : n0 ≤ T70.heap.size := Nat.le_trans Z0 K70.1
  obtain ⟨fs, hr, hrun, hended, -, hWW, hBB, hSS⟩ := Stand.leaveW (s := s) (vm₁ := T70.vm) X70 hS70 (by exact (Nat.le_refl _)) (v := none) (fun _ => rfl)
  refine ⟨_, _, pre0 _ ?_, hrun, hended, _, _, rfl, ?_, ?_, ⟨_, rfl⟩, hWW, hBB, hSS.mono (by decide) (by decide)⟩
  · show Steps p.tables e below (s₁.setTop (mkF m 0 #[.val (.ref o), .val (.ref a)] [])) _
    refine XS.aloadN X0.here hx rfl (hb hby d2_0) rfl rfl ?_
    refine XS.aloadN X0.here hx rfl (hb hby d2_1) rfl rfl ?_
    refine XS.iconst X0.here hx rfl (hb hby d2_2) ?_
    refine XS.aloadN X0.here hx rfl (hb hby d2_3) rfl rfl ?_
    show Steps p.tables e below (s₁.setTop (mkF m 4 #[.val (.ref o), .val (.ref a)] [(.ref a), (.int (0 : Int32)), (.ref a), (.ref o)])) _
    refine lenA X0 hx hZ e0 FA (g := (mkF m 4 #[.val (.ref o), .val (.ref a)] [(.ref a), (.int (0 : Int32)), (.ref a), (.ref o)])) rfl rfl (hb hby d2_4) ?_
    refine XS.aconstNull X0.here hx rfl (hb hby d2_5) ?_
    show Steps p.tables e below (s₁.setTop (mkF m 6 #[.val (.ref o), .val (.ref a)] [.null, (.int (Int32.ofNat 0)), (.int (0 : Int32)), (.ref a), (.ref o)])) _
    refine st70.trans ?_
    show Steps p.tables e below (T70.setTop (mkF m 9 #[.val (.ref o), .val (.ref a)] [])) _
    exact X70.returnOut hx Bd.returns (hb hby d2_9) hr
  · show QS Z o 0 g h0 n0 _ T70.heap _
    exact ⟨rfl, N70, KK70, S70⟩
  · show CHr Z [("java/lang/String", 7)] s.vm s.heap T70.vm T70.heap
    have q := CR70.trans (CHv.at (s := s) (vm0 := T70.vm) X70 hZ70 hEL C70.1)
    rw [hh]
    exact q
def QT (Z : State) (n : Nat) (g : Nat → Int32) (h0 : Heap) (n0 : Nat) (v : Option Value) (h : Heap) (L : List Loc) : Prop := ∃ o : Addr, v = some (.ref o) ∧ Fr n0 L ∧ Keep h0 h [] ∧ Str Z h o n g
theorem d1_0 : decode method_2_code 0 = .ok (.iload_n 0, 1) := by decide +kernel
theorem d1_1 : decode method_2_code 1 = .ok (.ifCond .ne 14, 3) := by decide +kernel
theorem d1_4 : decode method_2_code 4 = .ok (.new 7, 3) := by decide +kernel
theorem d1_7 : decode method_2_code 7 = .ok (.dup, 1) := by decide +kernel
theorem d1_8 : decode method_2_code 8 = .ok (.iconst 0, 1) := by decide +kernel
theorem d1_9 : decode method_2_code 9 = .ok (.newarray .char, 2) := by decide +kernel
theorem d1_11 : decode method_2_code 11 = .ok (.invokespecial 9, 3) := by decide +kernel
theorem d1_14 : decode method_2_code 14 = .ok (.areturn, 1) := by decide +kernel
theorem d1_15 : decode method_2_code 15 = .ok (.iload_n 0, 1) := by decide +kernel
theorem d1_16 : decode method_2_code 16 = .ok (.iconst 1, 1) := by decide +kernel
theorem d1_17 : decode method_2_code 17 = .ok (.if_icmp .ne 18, 3) := by decide +kernel
theorem d1_20 : decode method_2_code 20 = .ok (.new 7, 3) := by decide +kernel
theorem d1_23 : decode method_2_code 23 = .ok (.dup, 1) := by decide +kernel
theorem d1_24 : decode method_2_code 24 = .ok (.iconst 1, 1) := by decide +kernel
theorem d1_25 : decode method_2_code 25 = .ok (.newarray .char, 2) := by decide +kernel
theorem d1_27 : decode method_2_code 27 = .ok (.dup, 1) := by decide +kernel
theorem d1_28 : decode method_2_code 28 = .ok (.iconst 0, 1) := by decide +kernel
theorem d1_29 : decode method_2_code 29 = .ok (.iload_n 1, 1) := by decide +kernel
theorem d1_30 : decode method_2_code 30 = .ok (.castore, 1) := by decide +kernel
theorem d1_31 : decode method_2_code 31 = .ok (.invokespecial 9, 3) := by decide +kernel
theorem d1_34 : decode method_2_code 34 = .ok (.areturn, 1) := by decide +kernel
theorem d1_35 : decode method_2_code 35 = .ok (.iload_n 0, 1) := by decide +kernel
theorem d1_36 : decode method_2_code 36 = .ok (.iconst 2, 1) := by decide +kernel
theorem d1_37 : decode method_2_code 37 = .ok (.if_icmp .ne 22, 3) := by decide +kernel
theorem d1_40 : decode method_2_code 40 = .ok (.new 7, 3) := by decide +kernel
theorem d1_43 : decode method_2_code 43 = .ok (.dup, 1) := by decide +kernel
theorem d1_44 : decode method_2_code 44 = .ok (.iconst 2, 1) := by decide +kernel
theorem d1_45 : decode method_2_code 45 = .ok (.newarray .char, 2) := by decide +kernel
theorem d1_47 : decode method_2_code 47 = .ok (.dup, 1) := by decide +kernel
theorem d1_48 : decode method_2_code 48 = .ok (.iconst 0, 1) := by decide +kernel
theorem d1_49 : decode method_2_code 49 = .ok (.iload_n 1, 1) := by decide +kernel
theorem d1_50 : decode method_2_code 50 = .ok (.castore, 1) := by decide +kernel
theorem d1_51 : decode method_2_code 51 = .ok (.dup, 1) := by decide +kernel
theorem d1_52 : decode method_2_code 52 = .ok (.iconst 1, 1) := by decide +kernel
theorem d1_53 : decode method_2_code 53 = .ok (.iload_n 2, 1) := by decide +kernel
theorem d1_54 : decode method_2_code 54 = .ok (.castore, 1) := by decide +kernel
theorem d1_55 : decode method_2_code 55 = .ok (.invokespecial 9, 3) := by decide +kernel
theorem d1_58 : decode method_2_code 58 = .ok (.areturn, 1) := by decide +kernel
theorem d1_59 : decode method_2_code 59 = .ok (.iload_n 0, 1) := by decide +kernel
theorem d1_60 : decode method_2_code 60 = .ok (.iconst 3, 1) := by decide +kernel
theorem d1_61 : decode method_2_code 61 = .ok (.if_icmp .ne 26, 3) := by decide +kernel
theorem d1_64 : decode method_2_code 64 = .ok (.new 7, 3) := by decide +kernel
theorem d1_67 : decode method_2_code 67 = .ok (.dup, 1) := by decide +kernel
theorem d1_68 : decode method_2_code 68 = .ok (.iconst 3, 1) := by decide +kernel
theorem d1_69 : decode method_2_code 69 = .ok (.newarray .char, 2) := by decide +kernel
theorem d1_71 : decode method_2_code 71 = .ok (.dup, 1) := by decide +kernel
theorem d1_72 : decode method_2_code 72 = .ok (.iconst 0, 1) := by decide +kernel
theorem d1_73 : decode method_2_code 73 = .ok (.iload_n 1, 1) := by decide +kernel
theorem d1_74 : decode method_2_code 74 = .ok (.castore, 1) := by decide +kernel
theorem d1_75 : decode method_2_code 75 = .ok (.dup, 1) := by decide +kernel
theorem d1_76 : decode method_2_code 76 = .ok (.iconst 1, 1) := by decide +kernel
theorem d1_77 : decode method_2_code 77 = .ok (.iload_n 2, 1) := by decide +kernel
theorem d1_78 : decode method_2_code 78 = .ok (.castore, 1) := by decide +kernel
theorem d1_79 : decode method_2_code 79 = .ok (.dup, 1) := by decide +kernel
theorem d1_80 : decode method_2_code 80 = .ok (.iconst 2, 1) := by decide +kernel
theorem d1_81 : decode method_2_code 81 = .ok (.iload_n 3, 1) := by decide +kernel
theorem d1_82 : decode method_2_code 82 = .ok (.castore, 1) := by decide +kernel
theorem d1_83 : decode method_2_code 83 = .ok (.invokespecial 9, 3) := by decide +kernel
theorem d1_86 : decode method_2_code 86 = .ok (.areturn, 1) := by decide +kernel
theorem d1_87 : decode method_2_code 87 = .ok (.new 7, 3) := by decide +kernel
theorem d1_90 : decode method_2_code 90 = .ok (.dup, 1) := by decide +kernel
theorem d1_91 : decode method_2_code 91 = .ok (.iconst 4, 1) := by decide +kernel
theorem d1_92 : decode method_2_code 92 = .ok (.newarray .char, 2) := by decide +kernel
theorem d1_94 : decode method_2_code 94 = .ok (.dup, 1) := by decide +kernel
theorem d1_95 : decode method_2_code 95 = .ok (.iconst 0, 1) := by decide +kernel
theorem d1_96 : decode method_2_code 96 = .ok (.iload_n 1, 1) := by decide +kernel
theorem d1_97 : decode method_2_code 97 = .ok (.castore, 1) := by decide +kernel
theorem d1_98 : decode method_2_code 98 = .ok (.dup, 1) := by decide +kernel
theorem d1_99 : decode method_2_code 99 = .ok (.iconst 1, 1) := by decide +kernel
theorem d1_100 : decode method_2_code 100 = .ok (.iload_n 2, 1) := by decide +kernel
theorem d1_101 : decode method_2_code 101 = .ok (.castore, 1) := by decide +kernel
theorem d1_102 : decode method_2_code 102 = .ok (.dup, 1) := by decide +kernel
theorem d1_103 : decode method_2_code 103 = .ok (.iconst 2, 1) := by decide +kernel
theorem d1_104 : decode method_2_code 104 = .ok (.iload_n 3, 1) := by decide +kernel
theorem d1_105 : decode method_2_code 105 = .ok (.castore, 1) := by decide +kernel
theorem d1_106 : decode method_2_code 106 = .ok (.dup, 1) := by decide +kernel
theorem d1_107 : decode method_2_code 107 = .ok (.iconst 3, 1) := by decide +kernel
theorem d1_108 : decode method_2_code 108 = .ok (.iload 4, 2) := by decide +kernel
theorem d1_110 : decode method_2_code 110 = .ok (.castore, 1) := by decide +kernel
theorem d1_111 : decode method_2_code 111 = .ok (.invokespecial 9, 3) := by decide +kernel
theorem d1_114 : decode method_2_code 114 = .ok (.areturn, 1) := by decide +kernel
theorem pn_1 : plainName "org/keyreturn/sql/WordsIsAtPinLaw" = true := by first | (simp [plainName, overriddenIn]; done) | decide +kernel
theorem ef_1 (m : MethodId) (x0 : Int32) (x1 : Int32) (x2 : Int32) (x3 : Int32) (x4 : Int32) : entryFrame m #[(.int x0), (.int x1), (.int x2), (.int x3), (.int x4)] 5 = mkF m 0 #[.val (.int x0), .val (.int x1), .val (.int x2), .val (.int x3), .val (.int x4)] [] := by first | (simp [entryFrame, mkF, argsToLocals, Value.category]; done) | rfl
set_option maxRecDepth 65536 in
set_option maxHeartbeats 40000000 in
theorem rmT0 (l : Launch) (Z : State) (a0 : Array Value) (hw : ∀ d ∈ tables_1, d.before a0 Z = true) (ws : List Jvm.Cond) (a b d f : Int32)  (h0 : Heap) (n0 : Nat) (Z0 : n0 ≤ h0.size) (hEL : EW Z a0 [("java/lang/String", 7)])  :
    MetFree l (⟨"org/keyreturn/sql/WordsIsAtPinLaw", "text", "(ICCCC)Ljava/lang/String;"⟩ : MethodName) (head1 (Jvm.Cond.code (⟨"org/keyreturn/sql/WordsIsAtPinLaw", "text", "(ICCCC)Ljava/lang/String;"⟩ : MethodName) method_2_code 5 (some (.object "java/lang/String")) :: ws) ({ frames := 3, cells := 6, slots := 20, locals := 60 } : Room)) (fun aa_ U_ => aa_ = #[(.int (0 : Int32)), (.int a), (.int b), (.int d), (.int f)] ∧ Z.Warmed39 U_.vm ∧ U_.heap = h0 ∧ CHv Z [("java/lang/String", 7)] U_.vm h0) (fun _ _ _ _ _ => True) (fun _ U_ o_ V_ => ∃ v_ L_, o_ = .returned v_ ∧ QT Z 0 (gL a b d f) h0 n0 v_ V_.heap L_ ∧ CHr Z [("java/lang/String", 7)] U_.vm U_.heap V_.vm V_.heap ∧ ReturnedEndW U_ o_ V_ L_ ({ frames := 3, cells := 6, slots := 20, locals := 60 } : Room).cells ({ frames := 3, cells := 6, slots := 20, locals := 60 } : Room).slots) := by
  refine MetFree.of_bodySF (plainFor_of_name pn_1) hisR ?_
  intro p e s m args below meth c s₁ Bd hml0 hP hK
  obtain ⟨rfl, hZ, hh, CH0⟩ := hP
  have hx := Bd.exec
  have hby := Bd.bytes
  have hml : c.maxLocals = 5 := hml0
  have hown : s.vm.findClass "org/keyreturn/sql/WordsIsAtPinLaw" = some m.cls := findClass_of_methodNamed Bd.named
  have hnm := (name_of_methodNamed Bd.named Bd.method).1
  have X0 : Stand p l e ({ frames := 3, cells := 6, slots := 20, locals := 60 } : Room) s m #[(.int (0 : Int32)), (.int a), (.int b), (.int d), (.int f)] below meth c s₁ [] 0 0 := Stand.of_body Bd
  have e0 : s₁.heap = h0 := by rw [← hh, Bd.state]; rfl
  have N0 := Fr.nil n0
  have pre0 : ∀ zz, Steps p.tables e below (s₁.setTop (mkF m 0 #[.val (.int (0 : Int32)), .val (.int a), .val (.int b), .val (.int d), .val (.int f)] [])) zz → Steps p.tables e below (s₁.setTop (entryFrame m #[(.int (0 : Int32)), (.int a), (.int b), (.int d), (.int f)] 5)) zz := fun zz k => castTop (ef_1 m (0 : Int32) a b d f) k
  obtain ⟨T71, h71, X71, e71, E71, A71, D71, -, st71⟩ := newO X0 hx hZ hown (hw _ (List.mem_of_getElem? (i := 5) rfl)) (hw _ (List.mem_of_getElem? (i := 6) rfl)) (hw _ (List.mem_of_getElem? (i := 7) rfl)) e0 (g := (mkF m 4 #[.val (.int (0 : Int32)), .val (.int a), .val (.int b), .val (.int d), .val (.int f)] [])) rfl (hb hby d1_4) (by decide) (by decide)
  obtain ⟨b71, g71⟩ : ∃ z, z = h0.size := ⟨_, rfl⟩
  rw [← g71] at A71 D71 st71
  have E_b71 := A71
  have g_b71 : n0 ≤ b71 := Nat.le_trans Z0 (Nat.le_of_eq g71.symm)
  have sz_b71 : h0.size ≤ b71 := Nat.le_trans (Keep.refl h0 []).1 (Nat.le_of_eq g71.symm)
  have K71 := (Keep.refl h0 []).ext E71
  have Z71 : n0 ≤ h71.size := Nat.le_trans Z0 E71.1
  have F_coder_b71 : Fld Z h71 b71 "java/lang/String" "coder" "B" (.int (0 : Int32)) := D71 (Or.inr (hw _ (List.mem_of_getElem? (i := 32) rfl))) (ty := .byte) (by decide)
  have F_value_b71 : Fld Z h71 b71 "java/lang/String" "value" "[B" .null := D71 (Or.inr (hw _ (List.mem_of_getElem? (i := 34) rfl))) (ty := (.array .byte)) (by decide)
  have CR71 := (CHr.refl CH0).trans (CHr.ext E71 CH0)
  have CH71 := CHv.ext E71 CH0
  obtain ⟨T72, h72, X72, e72, E72, A72, st72⟩ := nwA X71 hx hZ (hw _ (List.mem_of_getElem? (i := 8) rfl)) e71 (g := (mkF m 9 #[.val (.int (0 : Int32)), .val (.int a), .val (.int b), .val (.int d), .val (.int f)] [(.int (0 : Int32)), (.ref b71), (.ref b71)])) rfl (hb hby d1_9) (n := 0) rfl (cap := 0) (by decide) (by decide) (by decide) (by decide)
  obtain ⟨b72, q72⟩ : ∃ z, z = h71.size := ⟨_, rfl⟩
  rw [← q72] at A72 st72
  have V72 : AF Z h72 b72 .char 0 (fun _ => (.int (0 : Int32))) := A72
  have g_b72 : n0 ≤ b72 := Nat.le_trans Z71 (Nat.le_of_eq q72.symm)
  have sz_b72 : h0.size ≤ b72 := Nat.le_trans K71.1 (Nat.le_of_eq q72.symm)
  have K72 := K71.ext E72
  have Z72 : n0 ≤ h72.size := Nat.le_trans Z71 E72.1
  have ne_b71_b72 : b71 ≠ b72 := Nat.ne_of_lt (Nat.lt_of_lt_of_le E_b71.lt (Nat.le_of_eq q72.symm))
  have E_b71_e72 := E_b71.ext E72
  have F_coder_b71_e72 := F_coder_b71.ext E72
  have F_value_b71_e72 := F_value_b71.ext E72
  have CR72 := CR71.trans (CHr.ext E72 CH71)
  have CH72 := CHv.ext E72 CH71
  obtain ⟨_, _, ⟨T73, L73, k73, n73⟩, -, X73, hS273, hg73, ⟨Lc73, hQ73, l73, y73, z73, C73⟩, st73⟩ := X72.specialBackS hx (y := (⟨"java/lang/String", "<init>", "([C)V"⟩ : MethodName)) rfl hown (mvT hZ (hw _ (List.mem_of_getElem? (i := 9) rfl))) (mvT hZ (hw _ (List.mem_of_getElem? (i := 10) rfl))) (mvT hZ (hw _ (List.mem_of_getElem? (i := 11) rfl))) (by decide) (backOfSH (s := s) (vm0 := s.vm) (EL := [("java/lang/String", 7)]) (W := 1) (rmE1 l Z a0 hw [] b71 b72 (gL a b d f) (fun _ => (.int (0 : Int32))) h72 n0 Z72 hEL V72 E_b71_e72 F_value_b71_e72 F_coder_b71_e72 g_b71) hZ (hw _ (List.mem_of_getElem? (i := 11) rfl)) (hw _ (List.mem_of_getElem? (i := 7) rfl)) (by decide) (by decide) hEL CH72) (g := (mkF m 11 #[.val (.int (0 : Int32)), .val (.int a), .val (.int b), .val (.int d), .val (.int f)] [(.ref b72), (.ref b71), (.ref b71)])) rfl (by rw [hml]; rfl) (Steps.refl _) (a := b71) (argsL := [(.ref b72)]) (rest := [(.ref b71)]) (lenOf pd_1 rfl) rfl (by show 2 * 0 + _ ≤ _; exact Nat.le_of_eq rfl) (hb hby d1_11) (fun _ _ => ⟨rfl, e72, (by decide : 2 + 4 ≤ _), (by decide : 4 + 8 ≤ _)⟩)
  dsimp only [Pt.U, Pt.locs, Pt.cells, Pt.slots] at X73 l73 y73 z73 st73 hQ73 hS273 hg73 C73
  subst l73 y73 z73
  obtain ⟨rfl, N73q, K73, S73⟩ := hQ73
  have N73 := Fr.app N0 N73q
  have CR73 := CR72.trans C73
  have hS73 := foldS ((State.WarmedH.refl s).since 0) (by rw [e72]; exact (Nat.zero_le _)) hS273 hg73
  have hZ73 : Z.Warmed39 (s.setVm T73.vm).vm := State.Warmed39.trans hZ hS273.1
  have hown73 : (s.setVm T73.vm).vm.findClass "org/keyreturn/sql/WordsIsAtPinLaw" = some m.cls := by rw [show (s.setVm T73.vm).vm = T73.vm from rfl, hS273.1.alike.findClass]; exact hown
  have KK73 := K72.trans K73 (fun x r => by cases List.mem_singleton.mp r; exact (Or.inr sz_b71))
  have Z73 : n0 ≤ T73.heap.size := Nat.le_trans Z72 K73.1
  obtain ⟨fs, hr, hrun, hended, -, hWW, hBB, hSS⟩ := Stand.leaveW (s := s) (vm₁ := T73.vm) X73 hS73 (by exact (Nat.le_refl _)) (v := some (.ref b71)) (fun h => by rw [Bd.returns] at h; cases h)
  refine ⟨_, _, pre0 _ ?_, hrun, hended, _, _, rfl, ?_, ?_, ⟨_, rfl⟩, hWW, hBB, hSS.mono (by decide) (by decide)⟩
  · show Steps p.tables e below (s₁.setTop (mkF m 0 #[.val (.int (0 : Int32)), .val (.int a), .val (.int b), .val (.int d), .val (.int f)] [])) _
    refine XS.iloadN X0.here hx rfl (hb hby d1_0) rfl ?_
    refine XS.ifNo X0.here hx rfl (hb hby d1_1) rfl ((if0 _ _).trans (teq (rfl : (0 : Int32) = (0 : Int32))).2) ?_
    show Steps p.tables e below (s₁.setTop (mkF m 4 #[.val (.int (0 : Int32)), .val (.int a), .val (.int b), .val (.int d), .val (.int f)] [])) _
    refine st71 _ ?_
    refine XS.dup X71.here hx rfl (hb hby d1_7) rfl rfl ?_
    refine XS.iconst X71.here hx rfl (hb hby d1_8) ?_
    show Steps p.tables e below (T71.setTop (mkF m 9 #[.val (.int (0 : Int32)), .val (.int a), .val (.int b), .val (.int d), .val (.int f)] [(.int (0 : Int32)), (.ref b71), (.ref b71)])) _
    refine st72 _ ?_
    show Steps p.tables e below (T72.setTop (mkF m 11 #[.val (.int (0 : Int32)), .val (.int a), .val (.int b), .val (.int d), .val (.int f)] [(.ref b72), (.ref b71), (.ref b71)])) _
    refine st73.trans ?_
    show Steps p.tables e below (T73.setTop (mkF m 14 #[.val (.int (0 : Int32)), .val (.int a), .val (.int b), .val (.int d), .val (.int f)] [(.ref b71)])) _
    jvm_step X73.here [X73.here.top, hx, (hb hby d1_14), X73.method', Bd.returns, Value.isRef, FieldType.isReference]
    first | (intro acts; rw [hr _ acts rfl rfl rfl]) | rw [hr _ _ rfl rfl rfl]
    exact Steps.refl _
  · show QT Z 0 (gL a b d f) h0 n0 _ T73.heap _
    exact ⟨b71, rfl, N73, KK73, S73⟩
  · show CHr Z [("java/lang/String", 7)] s.vm s.heap T73.vm T73.heap
    have q := CR73.trans (CHv.at (s := s) (vm0 := T73.vm) X73 hZ73 hEL C73.1)
    rw [hh]
    exact q
set_option maxRecDepth 65536 in
set_option maxHeartbeats 40000000 in
theorem rmT1 (l : Launch) (Z : State) (a0 : Array Value) (hw : ∀ d ∈ tables_1, d.before a0 Z = true) (ws : List Jvm.Cond) (a b d f : Int32)  (h0 : Heap) (n0 : Nat) (Z0 : n0 ≤ h0.size) (O : Old Z n0 h0) (SK : StrSta Z) (ha : isCh a) (hb' : isCh b) (hd : isCh d) (hf : isCh f)  :
    MetFree l (⟨"org/keyreturn/sql/WordsIsAtPinLaw", "text", "(ICCCC)Ljava/lang/String;"⟩ : MethodName) (head1 (Jvm.Cond.code (⟨"org/keyreturn/sql/WordsIsAtPinLaw", "text", "(ICCCC)Ljava/lang/String;"⟩ : MethodName) method_2_code 5 (some (.object "java/lang/String")) :: ws) ({ frames := 6, cells := 6, slots := 20, locals := 150 } : Room)) (fun aa_ U_ => aa_ = #[(.int (1 : Int32)), (.int a), (.int b), (.int d), (.int f)] ∧ Z.Warmed39 U_.vm ∧ U_.heap = h0) (fun _ _ _ _ _ => True) (fun _ U_ o_ V_ => ∃ v_ L_, o_ = .returned v_ ∧ QT Z 1 (gL a b d f) h0 n0 v_ V_.heap L_ ∧ FrameEnd U_ o_ V_ L_ ({ frames := 6, cells := 6, slots := 20, locals := 150 } : Room).cells ({ frames := 6, cells := 6, slots := 20, locals := 150 } : Room).slots) := by
  refine MetFree.of_bodySF (plainFor_of_name pn_1) hisR ?_
  intro p e s m args below meth c s₁ Bd hml0 hP hK
  obtain ⟨rfl, hZ, hh⟩ := hP
  have hx := Bd.exec
  have hby := Bd.bytes
  have hml : c.maxLocals = 5 := hml0
  have hown : s.vm.findClass "org/keyreturn/sql/WordsIsAtPinLaw" = some m.cls := findClass_of_methodNamed Bd.named
  have hnm := (name_of_methodNamed Bd.named Bd.method).1
  have X0 : Stand p l e ({ frames := 6, cells := 6, slots := 20, locals := 150 } : Room) s m #[(.int (1 : Int32)), (.int a), (.int b), (.int d), (.int f)] below meth c s₁ [] 0 0 := Stand.of_body Bd
  have e0 : s₁.heap = h0 := by rw [← hh, Bd.state]; rfl
  have N0 := Fr.nil n0
  have pre0 : ∀ zz, Steps p.tables e below (s₁.setTop (mkF m 0 #[.val (.int (1 : Int32)), .val (.int a), .val (.int b), .val (.int d), .val (.int f)] [])) zz → Steps p.tables e below (s₁.setTop (entryFrame m #[(.int (1 : Int32)), (.int a), (.int b), (.int d), (.int f)] 5)) zz := fun zz k => castTop (ef_1 m (1 : Int32) a b d f) k
  obtain ⟨T74, h74, X74, e74, E74, A74, D74, -, st74⟩ := newO X0 hx hZ hown (hw _ (List.mem_of_getElem? (i := 5) rfl)) (hw _ (List.mem_of_getElem? (i := 6) rfl)) (hw _ (List.mem_of_getElem? (i := 7) rfl)) e0 (g := (mkF m 20 #[.val (.int (1 : Int32)), .val (.int a), .val (.int b), .val (.int d), .val (.int f)] [])) rfl (hb hby d1_20) (by decide) (by decide)
  obtain ⟨b74, g74⟩ : ∃ z, z = h0.size := ⟨_, rfl⟩
  rw [← g74] at A74 D74 st74
  have E_b74 := A74
  have g_b74 : n0 ≤ b74 := Nat.le_trans Z0 (Nat.le_of_eq g74.symm)
  have sz_b74 : h0.size ≤ b74 := Nat.le_trans (Keep.refl h0 []).1 (Nat.le_of_eq g74.symm)
  have K74 := (Keep.refl h0 []).ext E74
  have Z74 : n0 ≤ h74.size := Nat.le_trans Z0 E74.1
  have F_coder_b74 : Fld Z h74 b74 "java/lang/String" "coder" "B" (.int (0 : Int32)) := D74 (Or.inr (hw _ (List.mem_of_getElem? (i := 32) rfl))) (ty := .byte) (by decide)
  have F_value_b74 : Fld Z h74 b74 "java/lang/String" "value" "[B" .null := D74 (Or.inr (hw _ (List.mem_of_getElem? (i := 34) rfl))) (ty := (.array .byte)) (by decide)
  have O74 := O.ext E74
  obtain ⟨T75, h75, X75, e75, E75, A75, st75⟩ := nwA X74 hx hZ (hw _ (List.mem_of_getElem? (i := 8) rfl)) e74 (g := (mkF m 25 #[.val (.int (1 : Int32)), .val (.int a), .val (.int b), .val (.int d), .val (.int f)] [(.int (1 : Int32)), (.ref b74), (.ref b74)])) rfl (hb hby d1_25) (n := 1) rfl (cap := 1) (by decide) (by decide) (by decide) (by decide)
  obtain ⟨b75, q75⟩ : ∃ z, z = h74.size := ⟨_, rfl⟩
  rw [← q75] at A75 st75
  have V75 : AF Z h75 b75 .char 1 (fun _ => (.int (0 : Int32))) := A75
  have g_b75 : n0 ≤ b75 := Nat.le_trans Z74 (Nat.le_of_eq q75.symm)
  have sz_b75 : h0.size ≤ b75 := Nat.le_trans K74.1 (Nat.le_of_eq q75.symm)
  have K75 := K74.ext E75
  have Z75 : n0 ≤ h75.size := Nat.le_trans Z74 E75.1
  have ne_b74_b75 : b74 ≠ b75 := Nat.ne_of_lt (Nat.lt_of_lt_of_le E_b74.lt (Nat.le_of_eq q75.symm))
  have E_b74_e75 := E_b74.ext E75
  have F_coder_b74_e75 := F_coder_b74.ext E75
  have F_value_b74_e75 := F_value_b74.ext E75
  have O75 := O74.ext E75
  obtain ⟨T76, h76, X76, e76, W76, st76⟩ := stCh X75 hx hZ e75 V75 (i := 0) (by decide) (by decide) (x := a) (g := (mkF m 30 #[.val (.int (1 : Int32)), .val (.int a), .val (.int b), .val (.int d), .val (.int f)] [(.int a), (.int (0 : Int32)), (.ref b75), (.ref b75), (.ref b74), (.ref b74)])) rfl rfl (hb hby d1_30)
  have A76 := V75.wr W76
  have E_b74_e76 := E_b74_e75.wr W76
  have F_coder_b74_e76 := F_coder_b74_e75.other W76 (Or.inl ne_b74_b75)
  have F_value_b74_e76 := F_value_b74_e75.other W76 (Or.inl ne_b74_b75)
  have N76 := Fr.snoc X76 N0 g_b75
  have K76 := K75.wr W76 (Or.inr sz_b75)
  have Z76 : n0 ≤ h76.size := Nat.le_trans Z75 (Keep.of_wr W76).1
  have O76 := O75.wr W76 g_b75
  obtain ⟨_, _, ⟨T77, L77, k77, n77⟩, -, X77, ⟨Lc77, hQ77, l77, y77, z77⟩, st77⟩ := X76.specialBack hx (y := (⟨"java/lang/String", "<init>", "([C)V"⟩ : MethodName)) rfl hown (mvT hZ (hw _ (List.mem_of_getElem? (i := 9) rfl))) (mvT hZ (hw _ (List.mem_of_getElem? (i := 10) rfl))) (mvT hZ (hw _ (List.mem_of_getElem? (i := 11) rfl))) (by decide) (backOf (W := 1) (rmI1 l Z a0 hw [] b74 b75 1 (gL a b d f) h76 n0 Z76 (by decide) (by decide) O76 SK (A76.congr (fillT1 ha hb' hd hf)) (fun j _ => gL_ch ha hb' hd hf j) E_b74_e76 F_value_b74_e76 F_coder_b74_e76 g_b74 (Ne.symm ne_b74_b75)) hZ (hw _ (List.mem_of_getElem? (i := 11) rfl)) (hw _ (List.mem_of_getElem? (i := 7) rfl)) (by decide) (by decide)) (g := (mkF m 31 #[.val (.int (1 : Int32)), .val (.int a), .val (.int b), .val (.int d), .val (.int f)] [(.ref b75), (.ref b74), (.ref b74)])) rfl (by rw [hml]; rfl) (Steps.refl _) (a := b74) (argsL := [(.ref b75)]) (rest := [(.ref b74)]) (lenOf pd_1 rfl) rfl (by show 2 * 0 + _ ≤ _; exact Nat.le_of_eq rfl) (hb hby d1_31) (fun _ _ => ⟨rfl, e76, (by decide : 2 + 2 ≤ _), (by decide : 5 + 12 ≤ _)⟩)
  dsimp only [Pt.U, Pt.locs, Pt.cells, Pt.slots] at X77 l77 y77 z77 st77 hQ77
  subst l77 y77 z77
  obtain ⟨rfl, N77q, K77, S77⟩ := hQ77
  have N77 := Fr.app N76 N77q
  have KK77 := K76.trans K77 (fun x r => by cases List.mem_singleton.mp r; exact (Or.inr sz_b74))
  have Z77 : n0 ≤ T77.heap.size := Nat.le_trans Z76 K77.1
  have O77 := O76.keep K77 (all1 g_b74)
  obtain ⟨fs, hr, hrun, hended, hW, hsame⟩ := X77.leave (v := some (.ref b74)) (fun h => by rw [Bd.returns] at h; cases h)
  refine ⟨_, _, pre0 _ ?_, hrun, hended, _, _, rfl, ?_, ⟨_, rfl⟩, hW, hsame.mono (by decide) (by decide)⟩
  · show Steps p.tables e below (s₁.setTop (mkF m 0 #[.val (.int (1 : Int32)), .val (.int a), .val (.int b), .val (.int d), .val (.int f)] [])) _
    refine XS.iloadN X0.here hx rfl (hb hby d1_0) rfl ?_
    refine XS.ifYes X0.here hx rfl (pc0 := 1) (pc' := 15) rfl (hb hby d1_1) rfl ((if0 _ _).trans (feq (by decide : ¬ ((1 : Int32) = (0 : Int32)))).2) (by decide) (by decide) ?_
    refine XS.iloadN X0.here hx rfl (hb hby d1_15) rfl ?_
    refine XS.iconst X0.here hx rfl (hb hby d1_16) ?_
    refine XS.icmpNo X0.here hx rfl (hb hby d1_17) rfl (teq (rfl : (1 : Int32) = (1 : Int32))).2 ?_
    show Steps p.tables e below (s₁.setTop (mkF m 20 #[.val (.int (1 : Int32)), .val (.int a), .val (.int b), .val (.int d), .val (.int f)] [])) _
    refine st74 _ ?_
    refine XS.dup X74.here hx rfl (hb hby d1_23) rfl rfl ?_
    refine XS.iconst X74.here hx rfl (hb hby d1_24) ?_
    show Steps p.tables e below (T74.setTop (mkF m 25 #[.val (.int (1 : Int32)), .val (.int a), .val (.int b), .val (.int d), .val (.int f)] [(.int (1 : Int32)), (.ref b74), (.ref b74)])) _
    refine st75 _ ?_
    refine XS.dup X75.here hx rfl (hb hby d1_27) rfl rfl ?_
    refine XS.iconst X75.here hx rfl (hb hby d1_28) ?_
    refine XS.iloadN X75.here hx rfl (hb hby d1_29) rfl ?_
    show Steps p.tables e below (T75.setTop (mkF m 30 #[.val (.int (1 : Int32)), .val (.int a), .val (.int b), .val (.int d), .val (.int f)] [(.int a), (.int (0 : Int32)), (.ref b75), (.ref b75), (.ref b74), (.ref b74)])) _
    refine st76 _ ?_
    show Steps p.tables e below (T76.setTop (mkF m 31 #[.val (.int (1 : Int32)), .val (.int a), .val (.int b), .val (.int d), .val (.int f)] [(.ref b75), (.ref b74), (.ref b74)])) _
    refine st77.trans ?_
    show Steps p.tables e below (T77.setTop (mkF m 34 #[.val (.int (1 : Int32)), .val (.int a), .val (.int b), .val (.int d), .val (.int f)] [(.ref b74)])) _
    jvm_step X77.here [X77.here.top, hx, (hb hby d1_34), X77.method', Bd.returns, Value.isRef, FieldType.isReference]
    first | (intro acts; rw [hr _ acts rfl rfl rfl]) | rw [hr _ _ rfl rfl rfl]
    exact Steps.refl _
  · show QT Z 1 (gL a b d f) h0 n0 _ T77.heap _
    exact ⟨b74, rfl, N77, KK77, S77⟩
set_option maxRecDepth 65536 in
set_option maxHeartbeats 40000000 in
theorem rmT2 (l : Launch) (Z : State) (a0 : Array Value) (hw : ∀ d ∈ tables_1, d.before a0 Z = true) (ws : List Jvm.Cond) (a b d f : Int32)  (h0 : Heap) (n0 : Nat) (Z0 : n0 ≤ h0.size) (O : Old Z n0 h0) (SK : StrSta Z) (ha : isCh a) (hb' : isCh b) (hd : isCh d) (hf : isCh f)  :
    MetFree l (⟨"org/keyreturn/sql/WordsIsAtPinLaw", "text", "(ICCCC)Ljava/lang/String;"⟩ : MethodName) (head1 (Jvm.Cond.code (⟨"org/keyreturn/sql/WordsIsAtPinLaw", "text", "(ICCCC)Ljava/lang/String;"⟩ : MethodName) method_2_code 5 (some (.object "java/lang/String")) :: ws) ({ frames := 6, cells := 6, slots := 20, locals := 150 } : Room)) (fun aa_ U_ => aa_ = #[(.int (2 : Int32)), (.int a), (.int b), (.int d), (.int f)] ∧ Z.Warmed39 U_.vm ∧ U_.heap = h0) (fun _ _ _ _ _ => True) (fun _ U_ o_ V_ => ∃ v_ L_, o_ = .returned v_ ∧ QT Z 2 (gL a b d f) h0 n0 v_ V_.heap L_ ∧ FrameEnd U_ o_ V_ L_ ({ frames := 6, cells := 6, slots := 20, locals := 150 } : Room).cells ({ frames := 6, cells := 6, slots := 20, locals := 150 } : Room).slots) := by
  refine MetFree.of_bodySF (plainFor_of_name pn_1) hisR ?_
  intro p e s m args below meth c s₁ Bd hml0 hP hK
  obtain ⟨rfl, hZ, hh⟩ := hP
  have hx := Bd.exec
  have hby := Bd.bytes
  have hml : c.maxLocals = 5 := hml0
  have hown : s.vm.findClass "org/keyreturn/sql/WordsIsAtPinLaw" = some m.cls := findClass_of_methodNamed Bd.named
  have hnm := (name_of_methodNamed Bd.named Bd.method).1
  have X0 : Stand p l e ({ frames := 6, cells := 6, slots := 20, locals := 150 } : Room) s m #[(.int (2 : Int32)), (.int a), (.int b), (.int d), (.int f)] below meth c s₁ [] 0 0 := Stand.of_body Bd
  have e0 : s₁.heap = h0 := by rw [← hh, Bd.state]; rfl
  have N0 := Fr.nil n0
  have pre0 : ∀ zz, Steps p.tables e below (s₁.setTop (mkF m 0 #[.val (.int (2 : Int32)), .val (.int a), .val (.int b), .val (.int d), .val (.int f)] [])) zz → Steps p.tables e below (s₁.setTop (entryFrame m #[(.int (2 : Int32)), (.int a), (.int b), (.int d), (.int f)] 5)) zz := fun zz k => castTop (ef_1 m (2 : Int32) a b d f) k
  obtain ⟨T78, h78, X78, e78, E78, A78, D78, -, st78⟩ := newO X0 hx hZ hown (hw _ (List.mem_of_getElem? (i := 5) rfl)) (hw _ (List.mem_of_getElem? (i := 6) rfl)) (hw _ (List.mem_of_getElem? (i := 7) rfl)) e0 (g := (mkF m 40 #[.val (.int (2 : Int32)), .val (.int a), .val (.int b), .val (.int d), .val (.int f)] [])) rfl (hb hby d1_40) (by decide) (by decide)
  obtain ⟨b78, g78⟩ : ∃ z, z = h0.size := ⟨_, rfl⟩
  rw [← g78] at A78 D78 st78
  have E_b78 := A78
  have g_b78 : n0 ≤ b78 := Nat.le_trans Z0 (Nat.le_of_eq g78.symm)
  have sz_b78 : h0.size ≤ b78 := Nat.le_trans (Keep.refl h0 []).1 (Nat.le_of_eq g78.symm)
  have K78 := (Keep.refl h0 []).ext E78
  have Z78 : n0 ≤ h78.size := Nat.le_trans Z0 E78.1
  have F_coder_b78 : Fld Z h78 b78 "java/lang/String" "coder" "B" (.int (0 : Int32)) := D78 (Or.inr (hw _ (List.mem_of_getElem? (i := 32) rfl))) (ty := .byte) (by decide)
  have F_value_b78 : Fld Z h78 b78 "java/lang/String" "value" "[B" .null := D78 (Or.inr (hw _ (List.mem_of_getElem? (i := 34) rfl))) (ty := (.array .byte)) (by decide)
  have O78 := O.ext E78
  obtain ⟨T79, h79, X79, e79, E79, A79, st79⟩ := nwA X78 hx hZ (hw _ (List.mem_of_getElem? (i := 8) rfl)) e78 (g := (mkF m 45 #[.val (.int (2 : Int32)), .val (.int a), .val (.int b), .val (.int d), .val (.int f)] [(.int (2 : Int32)), (.ref b78), (.ref b78)])) rfl (hb hby d1_45) (n := 2) rfl (cap := 2) (by decide) (by decide) (by decide) (by decide)
  obtain ⟨b79, q79⟩ : ∃ z, z = h78.size := ⟨_, rfl⟩
  rw [← q79] at A79 st79
  have V79 : AF Z h79 b79 .char 2 (fun _ => (.int (0 : Int32))) := A79
  have g_b79 : n0 ≤ b79 := Nat.le_trans Z78 (Nat.le_of_eq q79.symm)
  have sz_b79 : h0.size ≤ b79 := Nat.le_trans K78.1 (Nat.le_of_eq q79.symm)
  have K79 := K78.ext E79
  have Z79 : n0 ≤ h79.size := Nat.le_trans Z78 E79.1
  have ne_b78_b79 : b78 ≠ b79 := Nat.ne_of_lt (Nat.lt_of_lt_of_le E_b78.lt (Nat.le_of_eq q79.symm))
  have E_b78_e79 := E_b78.ext E79
  have F_coder_b78_e79 := F_coder_b78.ext E79
  have F_value_b78_e79 := F_value_b78.ext E79
  have O79 := O78.ext E79
  obtain ⟨T80, h80, X80, e80, W80, st80⟩ := stCh X79 hx hZ e79 V79 (i := 0) (by decide) (by decide) (x := a) (g := (mkF m 50 #[.val (.int (2 : Int32)), .val (.int a), .val (.int b), .val (.int d), .val (.int f)] [(.int a), (.int (0 : Int32)), (.ref b79), (.ref b79), (.ref b78), (.ref b78)])) rfl rfl (hb hby d1_50)
  have A80 := V79.wr W80
  have E_b78_e80 := E_b78_e79.wr W80
  have F_coder_b78_e80 := F_coder_b78_e79.other W80 (Or.inl ne_b78_b79)
  have F_value_b78_e80 := F_value_b78_e79.other W80 (Or.inl ne_b78_b79)
  have N80 := Fr.snoc X80 N0 g_b79
  have K80 := K79.wr W80 (Or.inr sz_b79)
  have Z80 : n0 ≤ h80.size := Nat.le_trans Z79 (Keep.of_wr W80).1
  have O80 := O79.wr W80 g_b79
  obtain ⟨T81, h81, X81, e81, W81, st81⟩ := stCh X80 hx hZ e80 A80 (i := 1) (by decide) (by decide) (x := b) (g := (mkF m 54 #[.val (.int (2 : Int32)), .val (.int a), .val (.int b), .val (.int d), .val (.int f)] [(.int b), (.int (1 : Int32)), (.ref b79), (.ref b79), (.ref b78), (.ref b78)])) rfl rfl (hb hby d1_54)
  have A81 := A80.wr W81
  have E_b78_e81 := E_b78_e80.wr W81
  have F_coder_b78_e81 := F_coder_b78_e80.other W81 (Or.inl ne_b78_b79)
  have F_value_b78_e81 := F_value_b78_e80.other W81 (Or.inl ne_b78_b79)
  have N81 := Fr.snoc X81 N80 g_b79
  have K81 := K80.wr W81 (Or.inr sz_b79)
  have Z81 : n0 ≤ h81.size := Nat.le_trans Z80 (Keep.of_wr W81).1
  have O81 := O80.wr W81 g_b79
  obtain ⟨_, _, ⟨T82, L82, k82, n82⟩, -, X82, ⟨Lc82, hQ82, l82, y82, z82⟩, st82⟩ := X81.specialBack hx (y := (⟨"java/lang/String", "<init>", "([C)V"⟩ : MethodName)) rfl hown (mvT hZ (hw _ (List.mem_of_getElem? (i := 9) rfl))) (mvT hZ (hw _ (List.mem_of_getElem? (i := 10) rfl))) (mvT hZ (hw _ (List.mem_of_getElem? (i := 11) rfl))) (by decide) (backOf (W := 1) (rmI1 l Z a0 hw [] b78 b79 2 (gL a b d f) h81 n0 Z81 (by decide) (by decide) O81 SK (A81.congr (fillT2 ha hb' hd hf)) (fun j _ => gL_ch ha hb' hd hf j) E_b78_e81 F_value_b78_e81 F_coder_b78_e81 g_b78 (Ne.symm ne_b78_b79)) hZ (hw _ (List.mem_of_getElem? (i := 11) rfl)) (hw _ (List.mem_of_getElem? (i := 7) rfl)) (by decide) (by decide)) (g := (mkF m 55 #[.val (.int (2 : Int32)), .val (.int a), .val (.int b), .val (.int d), .val (.int f)] [(.ref b79), (.ref b78), (.ref b78)])) rfl (by rw [hml]; rfl) (Steps.refl _) (a := b78) (argsL := [(.ref b79)]) (rest := [(.ref b78)]) (lenOf pd_1 rfl) rfl (by show 2 * 0 + _ ≤ _; exact Nat.le_of_eq rfl) (hb hby d1_55) (fun _ _ => ⟨rfl, e81, (by decide : 2 + 2 ≤ _), (by decide : 6 + 12 ≤ _)⟩)
  dsimp only [Pt.U, Pt.locs, Pt.cells, Pt.slots] at X82 l82 y82 z82 st82 hQ82
  subst l82 y82 z82
  obtain ⟨rfl, N82q, K82, S82⟩ := hQ82
  have N82 := Fr.app N81 N82q
  have KK82 := K81.trans K82 (fun x r => by cases List.mem_singleton.mp r; exact (Or.inr sz_b78))
  have Z82 : n0 ≤ T82.heap.size := Nat.le_trans Z81 K82.1
  have O82 := O81.keep K82 (all1 g_b78)
  obtain ⟨fs, hr, hrun, hended, hW, hsame⟩ := X82.leave (v := some (.ref b78)) (fun h => by rw [Bd.returns] at h; cases h)
  refine ⟨_, _, pre0 _ ?_, hrun, hended, _, _, rfl, ?_, ⟨_, rfl⟩, hW, hsame.mono (by decide) (by decide)⟩
  · show Steps p.tables e below (s₁.setTop (mkF m 0 #[.val (.int (2 : Int32)), .val (.int a), .val (.int b), .val (.int d), .val (.int f)] [])) _
    refine XS.iloadN X0.here hx rfl (hb hby d1_0) rfl ?_
    refine XS.ifYes X0.here hx rfl (pc0 := 1) (pc' := 15) rfl (hb hby d1_1) rfl ((if0 _ _).trans (feq (by decide : ¬ ((2 : Int32) = (0 : Int32)))).2) (by decide) (by decide) ?_
    refine XS.iloadN X0.here hx rfl (hb hby d1_15) rfl ?_
    refine XS.iconst X0.here hx rfl (hb hby d1_16) ?_
    refine XS.icmpYes X0.here hx rfl (pc0 := 17) (pc' := 35) rfl (hb hby d1_17) rfl (feq (by decide : ¬ ((2 : Int32) = (1 : Int32)))).2 (by decide) (by decide) ?_
    refine XS.iloadN X0.here hx rfl (hb hby d1_35) rfl ?_
    show Steps p.tables e below (s₁.setTop (mkF m 36 #[.val (.int (2 : Int32)), .val (.int a), .val (.int b), .val (.int d), .val (.int f)] [(.int (2 : Int32))])) _
    refine XS.iconst X0.here hx rfl (hb hby d1_36) ?_
    refine XS.icmpNo X0.here hx rfl (hb hby d1_37) rfl (teq (rfl : (2 : Int32) = (2 : Int32))).2 ?_
    show Steps p.tables e below (s₁.setTop (mkF m 40 #[.val (.int (2 : Int32)), .val (.int a), .val (.int b), .val (.int d), .val (.int f)] [])) _
    refine st78 _ ?_
    refine XS.dup X78.here hx rfl (hb hby d1_43) rfl rfl ?_
    refine XS.iconst X78.here hx rfl (hb hby d1_44) ?_
    show Steps p.tables e below (T78.setTop (mkF m 45 #[.val (.int (2 : Int32)), .val (.int a), .val (.int b), .val (.int d), .val (.int f)] [(.int (2 : Int32)), (.ref b78), (.ref b78)])) _
    refine st79 _ ?_
    refine XS.dup X79.here hx rfl (hb hby d1_47) rfl rfl ?_
    refine XS.iconst X79.here hx rfl (hb hby d1_48) ?_
    refine XS.iloadN X79.here hx rfl (hb hby d1_49) rfl ?_
    show Steps p.tables e below (T79.setTop (mkF m 50 #[.val (.int (2 : Int32)), .val (.int a), .val (.int b), .val (.int d), .val (.int f)] [(.int a), (.int (0 : Int32)), (.ref b79), (.ref b79), (.ref b78), (.ref b78)])) _
    refine st80 _ ?_
    refine XS.dup X80.here hx rfl (hb hby d1_51) rfl rfl ?_
    refine XS.iconst X80.here hx rfl (hb hby d1_52) ?_
    refine XS.iloadN X80.here hx rfl (hb hby d1_53) rfl ?_
    show Steps p.tables e below (T80.setTop (mkF m 54 #[.val (.int (2 : Int32)), .val (.int a), .val (.int b), .val (.int d), .val (.int f)] [(.int b), (.int (1 : Int32)), (.ref b79), (.ref b79), (.ref b78), (.ref b78)])) _
    refine st81 _ ?_
    show Steps p.tables e below (T81.setTop (mkF m 55 #[.val (.int (2 : Int32)), .val (.int a), .val (.int b), .val (.int d), .val (.int f)] [(.ref b79), (.ref b78), (.ref b78)])) _
    refine st82.trans ?_
    show Steps p.tables e below (T82.setTop (mkF m 58 #[.val (.int (2 : Int32)), .val (.int a), .val (.int b), .val (.int d), .val (.int f)] [(.ref b78)])) _
    jvm_step X82.here [X82.here.top, hx, (hb hby d1_58), X82.method', Bd.returns, Value.isRef, FieldType.isReference]
    first | (intro acts; rw [hr _ acts rfl rfl rfl]) | rw [hr _ _ rfl rfl rfl]
    exact Steps.refl _
  · show QT Z 2 (gL a b d f) h0 n0 _ T82.heap _
    exact ⟨b78, rfl, N82, KK82, S82⟩
set_option maxRecDepth 65536 in
set_option maxHeartbeats 40000000 in
theorem rmT3 (l : Launch) (Z : State) (a0 : Array Value) (hw : ∀ d ∈ tables_1, d.before a0 Z = true) (ws : List Jvm.Cond) (a b d f : Int32)  (h0 : Heap) (n0 : Nat) (Z0 : n0 ≤ h0.size) (O : Old Z n0 h0) (SK : StrSta Z) (ha : isCh a) (hb' : isCh b) (hd : isCh d) (hf : isCh f)  :
    MetFree l (⟨"org/keyreturn/sql/WordsIsAtPinLaw", "text", "(ICCCC)Ljava/lang/String;"⟩ : MethodName) (head1 (Jvm.Cond.code (⟨"org/keyreturn/sql/WordsIsAtPinLaw", "text", "(ICCCC)Ljava/lang/String;"⟩ : MethodName) method_2_code 5 (some (.object "java/lang/String")) :: ws) ({ frames := 6, cells := 6, slots := 20, locals := 150 } : Room)) (fun aa_ U_ => aa_ = #[(.int (3 : Int32)), (.int a), (.int b), (.int d), (.int f)] ∧ Z.Warmed39 U_.vm ∧ U_.heap = h0) (fun _ _ _ _ _ => True) (fun _ U_ o_ V_ => ∃ v_ L_, o_ = .returned v_ ∧ QT Z 3 (gL a b d f) h0 n0 v_ V_.heap L_ ∧ FrameEnd U_ o_ V_ L_ ({ frames := 6, cells := 6, slots := 20, locals := 150 } : Room).cells ({ frames := 6, cells := 6, slots := 20, locals := 150 } : Room).slots) := by
  refine MetFree.of_bodySF (plainFor_of_name pn_1) hisR ?_
  intro p e s m args below meth c s₁ Bd hml0 hP hK
  obtain ⟨rfl, hZ, hh⟩ := hP
  have hx := Bd.exec
  have hby := Bd.bytes
  have hml : c.maxLocals = 5 := hml0
  have hown : s.vm.findClass "org/keyreturn/sql/WordsIsAtPinLaw" = some m.cls := findClass_of_methodNamed Bd.named
  have hnm := (name_of_methodNamed Bd.named Bd.method).1
  have X0 : Stand p l e ({ frames := 6, cells := 6, slots := 20, locals := 150 } : Room) s m #[(.int (3 : Int32)), (.int a), (.int b), (.int d), (.int f)] below meth c s₁ [] 0 0 := Stand.of_body Bd
  have e0 : s₁.heap = h0 := by rw [← hh, Bd.state]; rfl
  have N0 := Fr.nil n0
  have pre0 : ∀ zz, Steps p.tables e below (s₁.setTop (mkF m 0 #[.val (.int (3 : Int32)), .val (.int a), .val (.int b), .val (.int d), .val (.int f)] [])) zz → Steps p.tables e below (s₁.setTop (entryFrame m #[(.int (3 : Int32)), (.int a), (.int b), (.int d), (.int f)] 5)) zz := fun zz k => castTop (ef_1 m (3 : Int32) a b d f) k
  obtain ⟨T83, h83, X83, e83, E83, A83, D83, -, st83⟩ := newO X0 hx hZ hown (hw _ (List.mem_of_getElem? (i := 5) rfl)) (hw _ (List.mem_of_getElem? (i := 6) rfl)) (hw _ (List.mem_of_getElem? (i := 7) rfl)) e0 (g := (mkF m 64 #[.val (.int (3 : Int32)), .val (.int a), .val (.int b), .val (.int d), .val (.int f)] [])) rfl (hb hby d1_64) (by decide) (by decide)
  obtain ⟨b83, g83⟩ : ∃ z, z = h0.size := ⟨_, rfl⟩
  rw [← g83] at A83 D83 st83
  have E_b83 := A83
  have g_b83 : n0 ≤ b83 := Nat.le_trans Z0 (Nat.le_of_eq g83.symm)
  have sz_b83 : h0.size ≤ b83 := Nat.le_trans (Keep.refl h0 []).1 (Nat.le_of_eq g83.symm)
  have K83 := (Keep.refl h0 []).ext E83
  have Z83 : n0 ≤ h83.size := Nat.le_trans Z0 E83.1
  have F_coder_b83 : Fld Z h83 b83 "java/lang/String" "coder" "B" (.int (0 : Int32)) := D83 (Or.inr (hw _ (List.mem_of_getElem? (i := 32) rfl))) (ty := .byte) (by decide)
  have F_value_b83 : Fld Z h83 b83 "java/lang/String" "value" "[B" .null := D83 (Or.inr (hw _ (List.mem_of_getElem? (i := 34) rfl))) (ty := (.array .byte)) (by decide)
  have O83 := O.ext E83
  obtain ⟨T84, h84, X84, e84, E84, A84, st84⟩ := nwA X83 hx hZ (hw _ (List.mem_of_getElem? (i := 8) rfl)) e83 (g := (mkF m 69 #[.val (.int (3 : Int32)), .val (.int a), .val (.int b), .val (.int d), .val (.int f)] [(.int (3 : Int32)), (.ref b83), (.ref b83)])) rfl (hb hby d1_69) (n := 3) rfl (cap := 3) (by decide) (by decide) (by decide) (by decide)
  obtain ⟨b84, q84⟩ : ∃ z, z = h83.size := ⟨_, rfl⟩
  rw [← q84] at A84 st84
  have V84 : AF Z h84 b84 .char 3 (fun _ => (.int (0 : Int32))) := A84
  have g_b84 : n0 ≤ b84 := Nat.le_trans Z83 (Nat.le_of_eq q84.symm)
  have sz_b84 : h0.size ≤ b84 := Nat.le_trans K83.1 (Nat.le_of_eq q84.symm)
  have K84 := K83.ext E84
  have Z84 : n0 ≤ h84.size := Nat.le_trans Z83 E84.1
  have ne_b83_b84 : b83 ≠ b84 := Nat.ne_of_lt (Nat.lt_of_lt_of_le E_b83.lt (Nat.le_of_eq q84.symm))
  have E_b83_e84 := E_b83.ext E84
  have F_coder_b83_e84 := F_coder_b83.ext E84
  have F_value_b83_e84 := F_value_b83.ext E84
  have O84 := O83.ext E84
  obtain ⟨T85, h85, X85, e85, W85, st85⟩ := stCh X84 hx hZ e84 V84 (i := 0) (by decide) (by decide) (x := a) (g := (mkF m 74 #[.val (.int (3 : Int32)), .val (.int a), .val (.int b), .val (.int d), .val (.int f)] [(.int a), (.int (0 : Int32)), (.ref b84), (.ref b84), (.ref b83), (.ref b83)])) rfl rfl (hb hby d1_74)
  have A85 := V84.wr W85
  have E_b83_e85 := E_b83_e84.wr W85
  have F_coder_b83_e85 := F_coder_b83_e84.other W85 (Or.inl ne_b83_b84)
  have F_value_b83_e85 := F_value_b83_e84.other W85 (Or.inl ne_b83_b84)
  have N85 := Fr.snoc X85 N0 g_b84
  have K85 := K84.wr W85 (Or.inr sz_b84)
  have Z85 : n0 ≤ h85.size := Nat.le_trans Z84 (Keep.of_wr W85).1
  have O85 := O84.wr W85 g_b84
  obtain ⟨T86, h86, X86, e86, W86, st86⟩ := stCh X85 hx hZ e85 A85 (i := 1) (by decide) (by decide) (x := b) (g := (mkF m 78 #[.val (.int (3 : Int32)), .val (.int a), .val (.int b), .val (.int d), .val (.int f)] [(.int b), (.int (1 : Int32)), (.ref b84), (.ref b84), (.ref b83), (.ref b83)])) rfl rfl (hb hby d1_78)
  have A86 := A85.wr W86
  have E_b83_e86 := E_b83_e85.wr W86
  have F_coder_b83_e86 := F_coder_b83_e85.other W86 (Or.inl ne_b83_b84)
  have F_value_b83_e86 := F_value_b83_e85.other W86 (Or.inl ne_b83_b84)
  have N86 := Fr.snoc X86 N85 g_b84
  have K86 := K85.wr W86 (Or.inr sz_b84)
  have Z86 : n0 ≤ h86.size := Nat.le_trans Z85 (Keep.of_wr W86).1
  have O86 := O85.wr W86 g_b84
  obtain ⟨T87, h87, X87, e87, W87, st87⟩ := stCh X86 hx hZ e86 A86 (i := 2) (by decide) (by decide) (x := d) (g := (mkF m 82 #[.val (.int (3 : Int32)), .val (.int a), .val (.int b), .val (.int d), .val (.int f)] [(.int d), (.int (2 : Int32)), (.ref b84), (.ref b84), (.ref b83), (.ref b83)])) rfl rfl (hb hby d1_82)
  have A87 := A86.wr W87
  have E_b83_e87 := E_b83_e86.wr W87
  have F_coder_b83_e87 := F_coder_b83_e86.other W87 (Or.inl ne_b83_b84)
  have F_value_b83_e87 := F_value_b83_e86.other W87 (Or.inl ne_b83_b84)
  have N87 := Fr.snoc X87 N86 g_b84
  have K87 := K86.wr W87 (Or.inr sz_b84)
  have Z87 : n0 ≤ h87.size := Nat.le_trans Z86 (Keep.of_wr W87).1
  have O87 := O86.wr W87 g_b84
  obtain ⟨_, _, ⟨T88, L88, k88, n88⟩, -, X88, ⟨Lc88, hQ88, l88, y88, z88⟩, st88⟩ := X87.specialBack hx (y := (⟨"java/lang/String", "<init>", "([C)V"⟩ : MethodName)) rfl hown (mvT hZ (hw _ (List.mem_of_getElem? (i := 9) rfl))) (mvT hZ (hw _ (List.mem_of_getElem? (i := 10) rfl))) (mvT hZ (hw _ (List.mem_of_getElem? (i := 11) rfl))) (by decide) (backOf (W := 1) (rmI1 l Z a0 hw [] b83 b84 3 (gL a b d f) h87 n0 Z87 (by decide) (by decide) O87 SK (A87.congr (fillT3 ha hb' hd hf)) (fun j _ => gL_ch ha hb' hd hf j) E_b83_e87 F_value_b83_e87 F_coder_b83_e87 g_b83 (Ne.symm ne_b83_b84)) hZ (hw _ (List.mem_of_getElem? (i := 11) rfl)) (hw _ (List.mem_of_getElem? (i := 7) rfl)) (by decide) (by decide)) (g := (mkF m 83 #[.val (.int (3 : Int32)), .val (.int a), .val (.int b), .val (.int d), .val (.int f)] [(.ref b84), (.ref b83), (.ref b83)])) rfl (by rw [hml]; rfl) (Steps.refl _) (a := b83) (argsL := [(.ref b84)]) (rest := [(.ref b83)]) (lenOf pd_1 rfl) rfl (by show 2 * 0 + _ ≤ _; exact Nat.le_of_eq rfl) (hb hby d1_83) (fun _ _ => ⟨rfl, e87, (by decide : 2 + 2 ≤ _), (by decide : 7 + 12 ≤ _)⟩)
  dsimp only [Pt.U, Pt.locs, Pt.cells, Pt.slots] at X88 l88 y88 z88 st88 hQ88
  subst l88 y88 z88
  obtain ⟨rfl, N88q, K88, S88⟩ := hQ88
  have N88 := Fr.app N87 N88q
  have KK88 := K87.trans K88 (fun x r => by cases List.mem_singleton.mp r; exact (Or.inr sz_b83))
  have Z88 : n0 ≤ T88.heap.size := Nat.le_trans Z87 K88.1
  have O88 := O87.keep K88 (all1 g_b83)
  obtain ⟨fs, hr, hrun, hended, hW, hsame⟩ := X88.leave (v := some (.ref b83)) (fun h => by rw [Bd.returns] at h; cases h)
  refine ⟨_, _, pre0 _ ?_, hrun, hended, _, _, rfl, ?_, ⟨_, rfl⟩, hW, hsame.mono (by decide) (by decide)⟩
  · show Steps p.tables e below (s₁.setTop (mkF m 0 #[.val (.int (3 : Int32)), .val (.int a), .val (.int b), .val (.int d), .val (.int f)] [])) _
    refine XS.iloadN X0.here hx rfl (hb hby d1_0) rfl ?_
    refine XS.ifYes X0.here hx rfl (pc0 := 1) (pc' := 15) rfl (hb hby d1_1) rfl ((if0 _ _).trans (feq (by decide : ¬ ((3 : Int32) = (0 : Int32)))).2) (by decide) (by decide) ?_
    refine XS.iloadN X0.here hx rfl (hb hby d1_15) rfl ?_
    refine XS.iconst X0.here hx rfl (hb hby d1_16) ?_
    refine XS.icmpYes X0.here hx rfl (pc0 := 17) (pc' := 35) rfl (hb hby d1_17) rfl (feq (by decide : ¬ ((3 : Int32) = (1 : Int32)))).2 (by decide) (by decide) ?_
    refine XS.iloadN X0.here hx rfl (hb hby d1_35) rfl ?_
    show Steps p.tables e below (s₁.setTop (mkF m 36 #[.val (.int (3 : Int32)), .val (.int a), .val (.int b), .val (.int d), .val (.int f)] [(.int (3 : Int32))])) _
    refine XS.iconst X0.here hx rfl (hb hby d1_36) ?_
    refine XS.icmpYes X0.here hx rfl (pc0 := 37) (pc' := 59) rfl (hb hby d1_37) rfl (feq (by decide : ¬ ((3 : Int32) = (2 : Int32)))).2 (by decide) (by decide) ?_
    refine XS.iloadN X0.here hx rfl (hb hby d1_59) rfl ?_
    refine XS.iconst X0.here hx rfl (hb hby d1_60) ?_
    refine XS.icmpNo X0.here hx rfl (hb hby d1_61) rfl (teq (rfl : (3 : Int32) = (3 : Int32))).2 ?_
    show Steps p.tables e below (s₁.setTop (mkF m 64 #[.val (.int (3 : Int32)), .val (.int a), .val (.int b), .val (.int d), .val (.int f)] [])) _
    refine st83 _ ?_
    refine XS.dup X83.here hx rfl (hb hby d1_67) rfl rfl ?_
    refine XS.iconst X83.here hx rfl (hb hby d1_68) ?_
    show Steps p.tables e below (T83.setTop (mkF m 69 #[.val (.int (3 : Int32)), .val (.int a), .val (.int b), .val (.int d), .val (.int f)] [(.int (3 : Int32)), (.ref b83), (.ref b83)])) _
    refine st84 _ ?_
    refine XS.dup X84.here hx rfl (hb hby d1_71) rfl rfl ?_
    refine XS.iconst X84.here hx rfl (hb hby d1_72) ?_
    refine XS.iloadN X84.here hx rfl (hb hby d1_73) rfl ?_
    show Steps p.tables e below (T84.setTop (mkF m 74 #[.val (.int (3 : Int32)), .val (.int a), .val (.int b), .val (.int d), .val (.int f)] [(.int a), (.int (0 : Int32)), (.ref b84), (.ref b84), (.ref b83), (.ref b83)])) _
    refine st85 _ ?_
    refine XS.dup X85.here hx rfl (hb hby d1_75) rfl rfl ?_
    refine XS.iconst X85.here hx rfl (hb hby d1_76) ?_
    refine XS.iloadN X85.here hx rfl (hb hby d1_77) rfl ?_
    show Steps p.tables e below (T85.setTop (mkF m 78 #[.val (.int (3 : Int32)), .val (.int a), .val (.int b), .val (.int d), .val (.int f)] [(.int b), (.int (1 : Int32)), (.ref b84), (.ref b84), (.ref b83), (.ref b83)])) _
    refine st86 _ ?_
    refine XS.dup X86.here hx rfl (hb hby d1_79) rfl rfl ?_
    refine XS.iconst X86.here hx rfl (hb hby d1_80) ?_
    refine XS.iloadN X86.here hx rfl (hb hby d1_81) rfl ?_
    show Steps p.tables e below (T86.setTop (mkF m 82 #[.val (.int (3 : Int32)), .val (.int a), .val (.int b), .val (.int d), .val (.int f)] [(.int d), (.int (2 : Int32)), (.ref b84), (.ref b84), (.ref b83), (.ref b83)])) _
    refine st87 _ ?_
    show Steps p.tables e below (T87.setTop (mkF m 83 #[.val (.int (3 : Int32)), .val (.int a), .val (.int b), .val (.int d), .val (.int f)] [(.ref b84), (.ref b83), (.ref b83)])) _
    refine st88.trans ?_
    show Steps p.tables e below (T88.setTop (mkF m 86 #[.val (.int (3 : Int32)), .val (.int a), .val (.int b), .val (.int d), .val (.int f)] [(.ref b83)])) _
    jvm_step X88.here [X88.here.top, hx, (hb hby d1_86), X88.method', Bd.returns, Value.isRef, FieldType.isReference]
    first | (intro acts; rw [hr _ acts rfl rfl rfl]) | rw [hr _ _ rfl rfl rfl]
    exact Steps.refl _
  · show QT Z 3 (gL a b d f) h0 n0 _ T88.heap _
    exact ⟨b83, rfl, N88, KK88, S88⟩
set_option maxRecDepth 65536 in
set_option maxHeartbeats 40000000 in
theorem rmT4 (l : Launch) (Z : State) (a0 : Array Value) (hw : ∀ d ∈ tables_1, d.before a0 Z = true) (ws : List Jvm.Cond) (a b d f : Int32)  (h0 : Heap) (n0 : Nat) (Z0 : n0 ≤ h0.size) (O : Old Z n0 h0) (SK : StrSta Z) (ha : isCh a) (hb' : isCh b) (hd : isCh d) (hf : isCh f)  :
    MetFree l (⟨"org/keyreturn/sql/WordsIsAtPinLaw", "text", "(ICCCC)Ljava/lang/String;"⟩ : MethodName) (head1 (Jvm.Cond.code (⟨"org/keyreturn/sql/WordsIsAtPinLaw", "text", "(ICCCC)Ljava/lang/String;"⟩ : MethodName) method_2_code 5 (some (.object "java/lang/String")) :: ws) ({ frames := 6, cells := 6, slots := 20, locals := 150 } : Room)) (fun aa_ U_ => aa_ = #[(.int (4 : Int32)), (.int a), (.int b), (.int d), (.int f)] ∧ Z.Warmed39 U_.vm ∧ U_.heap = h0) (fun _ _ _ _ _ => True) (fun _ U_ o_ V_ => ∃ v_ L_, o_ = .returned v_ ∧ QT Z 4 (gL a b d f) h0 n0 v_ V_.heap L_ ∧ FrameEnd U_ o_ V_ L_ ({ frames := 6, cells := 6, slots := 20, locals := 150 } : Room).cells ({ frames := 6, cells := 6, slots := 20, locals := 150 } : Room).slots) := by
  refine MetFree.of_bodySF (plainFor_of_name pn_1) hisR ?_
  intro p e s m args below meth c s₁ Bd hml0 hP hK
  obtain ⟨rfl, hZ, hh⟩ := hP
  have hx := Bd.exec
  have hby := Bd.bytes
  have hml : c.maxLocals = 5 := hml0
  have hown : s.vm.findClass "org/keyreturn/sql/WordsIsAtPinLaw" = some m.cls := findClass_of_methodNamed Bd.named
  have hnm := (name_of_methodNamed Bd.named Bd.method).1
  have X0 : Stand p l e ({ frames := 6, cells := 6, slots := 20, locals := 150 } : Room) s m #[(.int (4 : Int32)), (.int a), (.int b), (.int d), (.int f)] below meth c s₁ [] 0 0 := Stand.of_body Bd
  have e0 : s₁.heap = h0 := by rw [← hh, Bd.state]; rfl
  have N0 := Fr.nil n0
  have pre0 : ∀ zz, Steps p.tables e below (s₁.setTop (mkF m 0 #[.val (.int (4 : Int32)), .val (.int a), .val (.int b), .val (.int d), .val (.int f)] [])) zz → Steps p.tables e below (s₁.setTop (entryFrame m #[(.int (4 : Int32)), (.int a), (.int b), (.int d), (.int f)] 5)) zz := fun zz k => castTop (ef_1 m (4 : Int32) a b d f) k
  obtain ⟨T89, h89, X89, e89, E89, A89, D89, -, st89⟩ := newO X0 hx hZ hown (hw _ (List.mem_of_getElem? (i := 5) rfl)) (hw _ (List.mem_of_getElem? (i := 6) rfl)) (hw _ (List.mem_of_getElem? (i := 7) rfl)) e0 (g := (mkF m 87 #[.val (.int (4 : Int32)), .val (.int a), .val (.int b), .val (.int d), .val (.int f)] [])) rfl (hb hby d1_87) (by decide) (by decide)
  obtain ⟨b89, g89⟩ : ∃ z, z = h0.size := ⟨_, rfl⟩
  rw [← g89] at A89 D89 st89
  have E_b89 := A89
  have g_b89 : n0 ≤ b89 := Nat.le_trans Z0 (Nat.le_of_eq g89.symm)
  have sz_b89 : h0.size ≤ b89 := Nat.le_trans (Keep.refl h0 []).1 (Nat.le_of_eq g89.symm)
  have K89 := (Keep.refl h0 []).ext E89
  have Z89 : n0 ≤ h89.size := Nat.le_trans Z0 E89.1
  have F_coder_b89 : Fld Z h89 b89 "java/lang/String" "coder" "B" (.int (0 : Int32)) := D89 (Or.inr (hw _ (List.mem_of_getElem? (i := 32) rfl))) (ty := .byte) (by decide)
  have F_value_b89 : Fld Z h89 b89 "java/lang/String" "value" "[B" .null := D89 (Or.inr (hw _ (List.mem_of_getElem? (i := 34) rfl))) (ty := (.array .byte)) (by decide)
  have O89 := O.ext E89
  obtain ⟨T90, h90, X90, e90, E90, A90, st90⟩ := nwA X89 hx hZ (hw _ (List.mem_of_getElem? (i := 8) rfl)) e89 (g := (mkF m 92 #[.val (.int (4 : Int32)), .val (.int a), .val (.int b), .val (.int d), .val (.int f)] [(.int (4 : Int32)), (.ref b89), (.ref b89)])) rfl (hb hby d1_92) (n := 4) rfl (cap := 4) (by decide) (by decide) (by decide) (by decide)
  obtain ⟨b90, q90⟩ : ∃ z, z = h89.size := ⟨_, rfl⟩
  rw [← q90] at A90 st90
  have V90 : AF Z h90 b90 .char 4 (fun _ => (.int (0 : Int32))) := A90
  have g_b90 : n0 ≤ b90 := Nat.le_trans Z89 (Nat.le_of_eq q90.symm)
  have sz_b90 : h0.size ≤ b90 := Nat.le_trans K89.1 (Nat.le_of_eq q90.symm)
  have K90 := K89.ext E90
  have Z90 : n0 ≤ h90.size := Nat.le_trans Z89 E90.1
  have ne_b89_b90 : b89 ≠ b90 := Nat.ne_of_lt (Nat.lt_of_lt_of_le E_b89.lt (Nat.le_of_eq q90.symm))
  have E_b89_e90 := E_b89.ext E90
  have F_coder_b89_e90 := F_coder_b89.ext E90
  have F_value_b89_e90 := F_value_b89.ext E90
  have O90 := O89.ext E90
  obtain ⟨T91, h91, X91, e91, W91, st91⟩ := stCh X90 hx hZ e90 V90 (i := 0) (by decide) (by decide) (x := a) (g := (mkF m 97 #[.val (.int (4 : Int32)), .val (.int a), .val (.int b), .val (.int d), .val (.int f)] [(.int a), (.int (0 : Int32)), (.ref b90), (.ref b90), (.ref b89), (.ref b89)])) rfl rfl (hb hby d1_97)
  have A91 := V90.wr W91
  have E_b89_e91 := E_b89_e90.wr W91
  have F_coder_b89_e91 := F_coder_b89_e90.other W91 (Or.inl ne_b89_b90)
  have F_value_b89_e91 := F_value_b89_e90.other W91 (Or.inl ne_b89_b90)
  have N91 := Fr.snoc X91 N0 g_b90
  have K91 := K90.wr W91 (Or.inr sz_b90)
  have Z91 : n0 ≤ h91.size := Nat.le_trans Z90 (Keep.of_wr W91).1
  have O91 := O90.wr W91 g_b90
  obtain ⟨T92, h92, X92, e92, W92, st92⟩ := stCh X91 hx hZ e91 A91 (i := 1) (by decide) (by decide) (x := b) (g := (mkF m 101 #[.val (.int (4 : Int32)), .val (.int a), .val (.int b), .val (.int d), .val (.int f)] [(.int b), (.int (1 : Int32)), (.ref b90), (.ref b90), (.ref b89), (.ref b89)])) rfl rfl (hb hby d1_101)
  have A92 := A91.wr W92
  have E_b89_e92 := E_b89_e91.wr W92
  have F_coder_b89_e92 := F_coder_b89_e91.other W92 (Or.inl ne_b89_b90)
  have F_value_b89_e92 := F_value_b89_e91.other W92 (Or.inl ne_b89_b90)
  have N92 := Fr.snoc X92 N91 g_b90
  have K92 := K91.wr W92 (Or.inr sz_b90)
  have Z92 : n0 ≤ h92.size := Nat.le_trans Z91 (Keep.of_wr W92).1
  have O92 := O91.wr W92 g_b90
  obtain ⟨T93, h93, X93, e93, W93, st93⟩ := stCh X92 hx hZ e92 A92 (i := 2) (by decide) (by decide) (x := d) (g := (mkF m 105 #[.val (.int (4 : Int32)), .val (.int a), .val (.int b), .val (.int d), .val (.int f)] [(.int d), (.int (2 : Int32)), (.ref b90), (.ref b90), (.ref b89), (.ref b89)])) rfl rfl (hb hby d1_105)
  have A93 := A92.wr W93
  have E_b89_e93 := E_b89_e92.wr W93
  have F_coder_b89_e93 := F_coder_b89_e92.other W93 (Or.inl ne_b89_b90)
  have F_value_b89_e93 := F_value_b89_e92.other W93 (Or.inl ne_b89_b90)
  have N93 := Fr.snoc X93 N92 g_b90
  have K93 := K92.wr W93 (Or.inr sz_b90)
  have Z93 : n0 ≤ h93.size := Nat.le_trans Z92 (Keep.of_wr W93).1
  have O93 := O92.wr W93 g_b90
  obtain ⟨T94, h94, X94, e94, W94, st94⟩ := stCh X93 hx hZ e93 A93 (i := 3) (by decide) (by decide) (x := f) (g := (mkF m 110 #[.val (.int (4 : Int32)), .val (.int a), .val (.int b), .val (.int d), .val (.int f)] [(.int f), (.int (3 : Int32)), (.ref b90), (.ref b90), (.ref b89), (.ref b89)])) rfl rfl (hb hby d1_110)
  have A94 := A93.wr W94
  have E_b89_e94 := E_b89_e93.wr W94
  have F_coder_b89_e94 := F_coder_b89_e93.other W94 (Or.inl ne_b89_b90)
  have F_value_b89_e94 := F_value_b89_e93.other W94 (Or.inl ne_b89_b90)
  have N94 := Fr.snoc X94 N93 g_b90
  have K94 := K93.wr W94 (Or.inr sz_b90)
  have Z94 : n0 ≤ h94.size := Nat.le_trans Z93 (Keep.of_wr W94).1
  have O94 := O93.wr W94 g_b90
  obtain ⟨_, _, ⟨T95, L95, k95, n95⟩, -, X95, ⟨Lc95, hQ95, l95, y95, z95⟩, st95⟩ := X94.specialBack hx (y := (⟨"java/lang/String", "<init>", "([C)V"⟩ : MethodName)) rfl hown (mvT hZ (hw _ (List.mem_of_getElem? (i := 9) rfl))) (mvT hZ (hw _ (List.mem_of_getElem? (i := 10) rfl))) (mvT hZ (hw _ (List.mem_of_getElem? (i := 11) rfl))) (by decide) (backOf (W := 1) (rmI1 l Z a0 hw [] b89 b90 4 (gL a b d f) h94 n0 Z94 (by decide) (by decide) O94 SK (A94.congr (fillT4 ha hb' hd hf)) (fun j _ => gL_ch ha hb' hd hf j) E_b89_e94 F_value_b89_e94 F_coder_b89_e94 g_b89 (Ne.symm ne_b89_b90)) hZ (hw _ (List.mem_of_getElem? (i := 11) rfl)) (hw _ (List.mem_of_getElem? (i := 7) rfl)) (by decide) (by decide)) (g := (mkF m 111 #[.val (.int (4 : Int32)), .val (.int a), .val (.int b), .val (.int d), .val (.int f)] [(.ref b90), (.ref b89), (.ref b89)])) rfl (by rw [hml]; rfl) (Steps.refl _) (a := b89) (argsL := [(.ref b90)]) (rest := [(.ref b89)]) (lenOf pd_1 rfl) rfl (by show 2 * 0 + _ ≤ _; exact Nat.le_of_eq rfl) (hb hby d1_111) (fun _ _ => ⟨rfl, e94, (by decide : 2 + 2 ≤ _), (by decide : 8 + 12 ≤ _)⟩)
  dsimp only [Pt.U, Pt.locs, Pt.cells, Pt.slots] at X95 l95 y95 z95 st95 hQ95
  subst l95 y95 z95
  obtain ⟨rfl, N95q, K95, S95⟩ := hQ95
  have N95 := Fr.app N94 N95q
  have KK95 := K94.trans K95 (fun x r => by cases List.mem_singleton.mp r; exact (Or.inr sz_b89))
  have Z95 : n0 ≤ T95.heap.size := Nat.le_trans Z94 K95.1
  have O95 := O94.keep K95 (all1 g_b89)
  obtain ⟨fs, hr, hrun, hended, hW, hsame⟩ := X95.leave (v := some (.ref b89)) (fun h => by rw [Bd.returns] at h; cases h)
  refine ⟨_, _, pre0 _ ?_, hrun, hended, _, _, rfl, ?_, ⟨_, rfl⟩, hW, hsame.mono (by decide) (by decide)⟩
  · show Steps p.tables e below (s₁.setTop (mkF m 0 #[.val (.int (4 : Int32)), .val (.int a), .val (.int b), .val (.int d), .val (.int f)] [])) _
    refine XS.iloadN X0.here hx rfl (hb hby d1_0) rfl ?_
    refine XS.ifYes X0.here hx rfl (pc0 := 1) (pc' := 15) rfl (hb hby d1_1) rfl ((if0 _ _).trans (feq (by decide : ¬ ((4 : Int32) = (0 : Int32)))).2) (by decide) (by decide) ?_
    refine XS.iloadN X0.here hx rfl (hb hby d1_15) rfl ?_
    refine XS.iconst X0.here hx rfl (hb hby d1_16) ?_
    refine XS.icmpYes X0.here hx rfl (pc0 := 17) (pc' := 35) rfl (hb hby d1_17) rfl (feq (by decide : ¬ ((4 : Int32) = (1 : Int32)))).2 (by decide) (by decide) ?_
    refine XS.iloadN X0.here hx rfl (hb hby d1_35) rfl ?_
    show Steps p.tables e below (s₁.setTop (mkF m 36 #[.val (.int (4 : Int32)), .val (.int a), .val (.int b), .val (.int d), .val (.int f)] [(.int (4 : Int32))])) _
    refine XS.iconst X0.here hx rfl (hb hby d1_36) ?_
    refine XS.icmpYes X0.here hx rfl (pc0 := 37) (pc' := 59) rfl (hb hby d1_37) rfl (feq (by decide : ¬ ((4 : Int32) = (2 : Int32)))).2 (by decide) (by decide) ?_
    refine XS.iloadN X0.here hx rfl (hb hby d1_59) rfl ?_
    refine XS.iconst X0.here hx rfl (hb hby d1_60) ?_
    refine XS.icmpYes X0.here hx rfl (pc0 := 61) (pc' := 87) rfl (hb hby d1_61) rfl (feq (by decide : ¬ ((4 : Int32) = (3 : Int32)))).2 (by decide) (by decide) ?_
    show Steps p.tables e below (s₁.setTop (mkF m 87 #[.val (.int (4 : Int32)), .val (.int a), .val (.int b), .val (.int d), .val (.int f)] [])) _
    refine st89 _ ?_
    refine XS.dup X89.here hx rfl (hb hby d1_90) rfl rfl ?_
    refine XS.iconst X89.here hx rfl (hb hby d1_91) ?_
    show Steps p.tables e below (T89.setTop (mkF m 92 #[.val (.int (4 : Int32)), .val (.int a), .val (.int b), .val (.int d), .val (.int f)] [(.int (4 : Int32)), (.ref b89), (.ref b89)])) _
    refine st90 _ ?_
    refine XS.dup X90.here hx rfl (hb hby d1_94) rfl rfl ?_
    refine XS.iconst X90.here hx rfl (hb hby d1_95) ?_
    refine XS.iloadN X90.here hx rfl (hb hby d1_96) rfl ?_
    show Steps p.tables e below (T90.setTop (mkF m 97 #[.val (.int (4 : Int32)), .val (.int a), .val (.int b), .val (.int d), .val (.int f)] [(.int a), (.int (0 : Int32)), (.ref b90), (.ref b90), (.ref b89), (.ref b89)])) _
    refine st91 _ ?_
    refine XS.dup X91.here hx rfl (hb hby d1_98) rfl rfl ?_
    refine XS.iconst X91.here hx rfl (hb hby d1_99) ?_
    refine XS.iloadN X91.here hx rfl (hb hby d1_100) rfl ?_
    show Steps p.tables e below (T91.setTop (mkF m 101 #[.val (.int (4 : Int32)), .val (.int a), .val (.int b), .val (.int d), .val (.int f)] [(.int b), (.int (1 : Int32)), (.ref b90), (.ref b90), (.ref b89), (.ref b89)])) _
    refine st92 _ ?_
    refine XS.dup X92.here hx rfl (hb hby d1_102) rfl rfl ?_
    refine XS.iconst X92.here hx rfl (hb hby d1_103) ?_
    refine XS.iloadN X92.here hx rfl (hb hby d1_104) rfl ?_
    show Steps p.tables e below (T92.setTop (mkF m 105 #[.val (.int (4 : Int32)), .val (.int a), .val (.int b), .val (.int d), .val (.int f)] [(.int d), (.int (2 : Int32)), (.ref b90), (.ref b90), (.ref b89), (.ref b89)])) _
    refine st93 _ ?_
    refine XS.dup X93.here hx rfl (hb hby d1_106) rfl rfl ?_
    refine XS.iconst X93.here hx rfl (hb hby d1_107) ?_
    refine XS.iload X93.here hx rfl (hb hby d1_108) rfl ?_
    show Steps p.tables e below (T93.setTop (mkF m 110 #[.val (.int (4 : Int32)), .val (.int a), .val (.int b), .val (.int d), .val (.int f)] [(.int f), (.int (3 : Int32)), (.ref b90), (.ref b90), (.ref b89), (.ref b89)])) _
    refine st94 _ ?_
    show Steps p.tables e below (T94.setTop (mkF m 111 #[.val (.int (4 : Int32)), .val (.int a), .val (.int b), .val (.int d), .val (.int f)] [(.ref b90), (.ref b89), (.ref b89)])) _
    refine st95.trans ?_
    show Steps p.tables e below (T95.setTop (mkF m 114 #[.val (.int (4 : Int32)), .val (.int a), .val (.int b), .val (.int d), .val (.int f)] [(.ref b89)])) _
    jvm_step X95.here [X95.here.top, hx, (hb hby d1_114), X95.method', Bd.returns, Value.isRef, FieldType.isReference]
    first | (intro acts; rw [hr _ acts rfl rfl rfl]) | rw [hr _ _ rfl rfl rfl]
    exact Steps.refl _
  · show QT Z 4 (gL a b d f) h0 n0 _ T95.heap _
    exact ⟨b89, rfl, N95, KK95, S95⟩
set_option maxRecDepth 65536 in
set_option maxHeartbeats 40000000 in
theorem rmT (l : Launch) (Z : State) (a0 : Array Value) (hw : ∀ d ∈ tables_1, d.before a0 Z = true) (ws : List Jvm.Cond) (n : Nat) (a b d f : Int32)  (h0 : Heap) (n0 : Nat) (Z0 : n0 ≤ h0.size) (hn : n ≤ 4) (hp : 0 < n) (O : Old Z n0 h0) (SK : StrSta Z) (ha : isCh a) (hb' : isCh b) (hd : isCh d) (hf : isCh f)  :
    MetFree l (⟨"org/keyreturn/sql/WordsIsAtPinLaw", "text", "(ICCCC)Ljava/lang/String;"⟩ : MethodName) (head1 (Jvm.Cond.code (⟨"org/keyreturn/sql/WordsIsAtPinLaw", "text", "(ICCCC)Ljava/lang/String;"⟩ : MethodName) method_2_code 5 (some (.object "java/lang/String")) :: ws) ({ frames := 6, cells := 6, slots := 20, locals := 150 } : Room)) (fun aa_ U_ => aa_ = #[(.int (Int32.ofNat n)), (.int a), (.int b), (.int d), (.int f)] ∧ Z.Warmed39 U_.vm ∧ U_.heap = h0) (fun _ _ _ _ _ => True) (fun _ U_ o_ V_ => ∃ v_ L_, o_ = .returned v_ ∧ QT Z n (gL a b d f) h0 n0 v_ V_.heap L_ ∧ FrameEnd U_ o_ V_ L_ ({ frames := 6, cells := 6, slots := 20, locals := 150 } : Room).cells ({ frames := 6, cells := 6, slots := 20, locals := 150 } : Room).slots) := by
  match n, hn, hp with
  | 1, _, _ => exact rmT1 l Z a0 hw ws a b d f h0 n0 Z0 O SK ha hb' hd hf
  | 2, _, _ => exact rmT2 l Z a0 hw ws a b d f h0 n0 Z0 O SK ha hb' hd hf
  | 3, _, _ => exact rmT3 l Z a0 hw ws a b d f h0 n0 Z0 O SK ha hb' hd hf
  | 4, _, _ => exact rmT4 l Z a0 hw ws a b d f h0 n0 Z0 O SK ha hb' hd hf
theorem d8_0 : decode prog_51_method_10_code 0 = .ok (.iload_n 1, 1) := by decide +kernel
theorem d8_1 : decode prog_51_method_10_code 1 = .ok (.aload_n 0, 1) := by decide +kernel
theorem d8_2 : decode prog_51_method_10_code 2 = .ok (.invokevirtual 13, 3) := by decide +kernel
theorem d8_5 : decode prog_51_method_10_code 5 = .ok (.if_icmp .ge 16, 3) := by decide +kernel
theorem d8_8 : decode prog_51_method_10_code 8 = .ok (.aload_n 0, 1) := by decide +kernel
theorem d8_9 : decode prog_51_method_10_code 9 = .ok (.iload_n 1, 1) := by decide +kernel
theorem d8_10 : decode prog_51_method_10_code 10 = .ok (.invokevirtual 19, 3) := by decide +kernel
theorem d8_13 : decode prog_51_method_10_code 13 = .ok (.iload_n 2, 1) := by decide +kernel
theorem d8_14 : decode prog_51_method_10_code 14 = .ok (.if_icmp .ne 7, 3) := by decide +kernel
theorem d8_17 : decode prog_51_method_10_code 17 = .ok (.iconst 1, 1) := by decide +kernel
theorem d8_18 : decode prog_51_method_10_code 18 = .ok (.goto 4, 3) := by decide +kernel
theorem d8_21 : decode prog_51_method_10_code 21 = .ok (.iconst 0, 1) := by decide +kernel
theorem d8_22 : decode prog_51_method_10_code 22 = .ok (.ireturn, 1) := by decide +kernel
theorem pn_8 : plainName "org/keyreturn/sql/Words" = true := by first | (simp [plainName, overriddenIn]; done) | decide +kernel
theorem ef_8 (m : MethodId) (x0 : Addr) (x1 : Int32) (x2 : Int32) : entryFrame m #[(.ref x0), (.int x1), (.int x2)] 3 = mkF m 0 #[.val (.ref x0), .val (.int x1), .val (.int x2)] [] := by first | (simp [entryFrame, mkF, argsToLocals, Value.category]; done) | rfl
set_option maxRecDepth 65536 in
set_option maxHeartbeats 40000000 in
theorem rmIA0 (l : Launch) (Z : State) (a0 : Array Value) (hw : ∀ d ∈ tables_1, d.before a0 Z = true) (ws : List Jvm.Cond) (o : Addr) (i n : Nat) (x : Int32) (g : Nat → Int32)  (h0 : Heap) (n0 : Nat) (Z0 : n0 ≤ h0.size) (hn : n ≤ 4) (hi : ¬ (i < n)) (hi8 : i < 8) (O : Old Z n0 h0) (SK : StrSta Z) (SS : Str Z h0 o n g)  :
    MetFree l (⟨"org/keyreturn/sql/Words", "isAt", "(Ljava/lang/String;IC)Z"⟩ : MethodName) (head1 (Jvm.Cond.code (⟨"org/keyreturn/sql/Words", "isAt", "(Ljava/lang/String;IC)Z"⟩ : MethodName) prog_51_method_10_code 3 (some .boolean) :: ws) ({ frames := 5, cells := 0, slots := 0, locals := 80 } : Room)) (fun aa_ U_ => aa_ = #[(.ref o), (.int (Int32.ofNat i)), (.int x)] ∧ Z.Warmed39 U_.vm ∧ U_.heap = h0) (fun _ _ _ _ _ => True) (fun _ U_ o_ V_ => ∃ v_ L_, o_ = .returned v_ ∧ QI (0 : Int32) h0 n0 v_ V_.heap L_ ∧ FrameEnd U_ o_ V_ L_ ({ frames := 5, cells := 0, slots := 0, locals := 80 } : Room).cells ({ frames := 5, cells := 0, slots := 0, locals := 80 } : Room).slots) := by
  refine MetFree.of_bodySF (plainFor_of_name pn_8) hisR ?_
  intro p e s m args below meth c s₁ Bd hml0 hP hK
  obtain ⟨rfl, hZ, hh⟩ := hP
  have hx := Bd.exec
  have hby := Bd.bytes
  have hml : c.maxLocals = 3 := hml0
  have hown : s.vm.findClass "org/keyreturn/sql/Words" = some m.cls := findClass_of_methodNamed Bd.named
  have hnm := (name_of_methodNamed Bd.named Bd.method).1
  have X0 : Stand p l e ({ frames := 5, cells := 0, slots := 0, locals := 80 } : Room) s m #[(.ref o), (.int (Int32.ofNat i)), (.int x)] below meth c s₁ [] 0 0 := Stand.of_body Bd
  have e0 : s₁.heap = h0 := by rw [← hh, Bd.state]; rfl
  have N0 := Fr.nil n0
  have pre0 : ∀ zz, Steps p.tables e below (s₁.setTop (mkF m 0 #[.val (.ref o), .val (.int (Int32.ofNat i)), .val (.int x)] [])) zz → Steps p.tables e below (s₁.setTop (entryFrame m #[(.ref o), (.int (Int32.ofNat i)), (.int x)] 3)) zz := fun zz k => castTop (ef_8 m o (Int32.ofNat i) x) k
  obtain ⟨cq96, kq96, q96a, q96b, q96c⟩ := isOf hZ e0 SS.1
  obtain ⟨_, _, ⟨T96, L96, k96, n96⟩, -, X96, ⟨Lc96, hQ96, l96, y96, z96⟩, st96⟩ := X0.virtualBack hx (y := (⟨"java/lang/String", "length", "()I"⟩ : MethodName)) (z := (⟨"java/lang/String", "length", "()I"⟩ : MethodName)) hown (mvT hZ (hw _ (List.mem_of_getElem? (i := 39) rfl))) (mvT hZ (hw _ (List.mem_of_getElem? (i := 40) rfl))) (notFace_of_selects (args := #[]) (mvT hZ (hw _ (List.mem_of_getElem? (i := 42) rfl)))) (mvT hZ (hw _ (List.mem_of_getElem? (i := 42) rfl))) (mvT hZ (hw _ (List.mem_of_getElem? (i := 41) rfl))) (by decide) (backOf (W := 1) (rmLEN l Z a0 hw [] o n g h0 n0 Z0 hn O SK SS) hZ (hw _ (List.mem_of_getElem? (i := 43) rfl)) (hw _ (List.mem_of_getElem? (i := 7) rfl)) (by decide) (by decide)) q96a q96c (g := (mkF m 2 #[.val (.ref o), .val (.int (Int32.ofNat i)), .val (.int x)] [(.ref o), (.int (Int32.ofNat i))])) rfl (by rw [hml]; rfl) (Steps.refl _) (argsL := []) (rest := [(.int (Int32.ofNat i))]) (lenOf pd_8 rfl) rfl (by show 2 * 0 + _ ≤ _; exact Nat.le_of_eq rfl) (hb hby d8_2) (fun _ _ => ⟨rfl, e0, (by decide : 0 + 0 ≤ _), (by decide : 0 + 0 ≤ _)⟩)
  dsimp only [Pt.U, Pt.locs, Pt.cells, Pt.slots] at X96 l96 y96 z96 st96 hQ96
  subst l96 y96 z96
  obtain ⟨rfl, N96q, e96⟩ := hQ96
  have N96 := Fr.app N0 N96q
  obtain ⟨fs, hr, hrun, hended, hW, hsame⟩ := X96.leave (v := some (.int (0 : Int32))) (fun h => by rw [Bd.returns] at h; cases h)
  refine ⟨_, _, pre0 _ ?_, hrun, hended, _, _, rfl, ?_, ⟨_, rfl⟩, hW, hsame.mono (by decide) (by decide)⟩
  · show Steps p.tables e below (s₁.setTop (mkF m 0 #[.val (.ref o), .val (.int (Int32.ofNat i)), .val (.int x)] [])) _
    refine XS.iloadN X0.here hx rfl (hb hby d8_0) rfl ?_
    refine XS.aloadN X0.here hx rfl (hb hby d8_1) rfl rfl ?_
    show Steps p.tables e below (s₁.setTop (mkF m 2 #[.val (.ref o), .val (.int (Int32.ofNat i)), .val (.int x)] [(.ref o), (.int (Int32.ofNat i))])) _
    refine st96.trans ?_
    refine XS.icmpYes X96.here hx rfl (pc0 := 5) (pc' := 21) rfl (hb hby d8_5) rfl (flt (fun q => hi ((ltN (by omega) (by omega)).mp q))).2.1 (by decide) (by decide) ?_
    refine XS.iconst X96.here hx rfl (hb hby d8_21) ?_
    show Steps p.tables e below (T96.setTop (mkF m 22 #[.val (.ref o), .val (.int (Int32.ofNat i)), .val (.int x)] [(.int (0 : Int32))])) _
    exact retN X96 hx (t := .boolean) Bd.returns (by simp) (hb hby d8_22) hr
  · show QI (0 : Int32) h0 n0 _ T96.heap _
    rw [e96]
    exact ⟨rfl, N96, rfl⟩
set_option maxRecDepth 65536 in
set_option maxHeartbeats 40000000 in
theorem rmIA1 (l : Launch) (Z : State) (a0 : Array Value) (hw : ∀ d ∈ tables_1, d.before a0 Z = true) (ws : List Jvm.Cond) (o : Addr) (i n : Nat) (x : Int32) (g : Nat → Int32)  (h0 : Heap) (n0 : Nat) (Z0 : n0 ≤ h0.size) (hn : n ≤ 4) (hi : i < n) (hc : g i = x) (O : Old Z n0 h0) (SK : StrSta Z) (SS : Str Z h0 o n g)  :
    MetFree l (⟨"org/keyreturn/sql/Words", "isAt", "(Ljava/lang/String;IC)Z"⟩ : MethodName) (head1 (Jvm.Cond.code (⟨"org/keyreturn/sql/Words", "isAt", "(Ljava/lang/String;IC)Z"⟩ : MethodName) prog_51_method_10_code 3 (some .boolean) :: ws) ({ frames := 5, cells := 0, slots := 0, locals := 80 } : Room)) (fun aa_ U_ => aa_ = #[(.ref o), (.int (Int32.ofNat i)), (.int x)] ∧ Z.Warmed39 U_.vm ∧ U_.heap = h0) (fun _ _ _ _ _ => True) (fun _ U_ o_ V_ => ∃ v_ L_, o_ = .returned v_ ∧ QI (1 : Int32) h0 n0 v_ V_.heap L_ ∧ FrameEnd U_ o_ V_ L_ ({ frames := 5, cells := 0, slots := 0, locals := 80 } : Room).cells ({ frames := 5, cells := 0, slots := 0, locals := 80 } : Room).slots) := by
  refine MetFree.of_bodySF (plainFor_of_name pn_8) hisR ?_
  intro p e s m args below meth c s₁ Bd hml0 hP hK
  obtain ⟨rfl, hZ, hh⟩ := hP
  have hx := Bd.exec
  have hby := Bd.bytes
  have hml : c.maxLocals = 3 := hml0
  have hown : s.vm.findClass "org/keyreturn/sql/Words" = some m.cls := findClass_of_methodNamed Bd.named
  have hnm := (name_of_methodNamed Bd.named Bd.method).1
  have X0 : Stand p l e ({ frames := 5, cells := 0, slots := 0, locals := 80 } : Room) s m #[(.ref o), (.int (Int32.ofNat i)), (.int x)] below meth c s₁ [] 0 0 := Stand.of_body Bd
  have e0 : s₁.heap = h0 := by rw [← hh, Bd.state]; rfl
  have N0 := Fr.nil n0
  have pre0 : ∀ zz, Steps p.tables e below (s₁.setTop (mkF m 0 #[.val (.ref o), .val (.int (Int32.ofNat i)), .val (.int x)] [])) zz → Steps p.tables e below (s₁.setTop (entryFrame m #[(.ref o), (.int (Int32.ofNat i)), (.int x)] 3)) zz := fun zz k => castTop (ef_8 m o (Int32.ofNat i) x) k
  obtain ⟨cq97, kq97, q97a, q97b, q97c⟩ := isOf hZ e0 SS.1
  obtain ⟨_, _, ⟨T97, L97, k97, n97⟩, -, X97, ⟨Lc97, hQ97, l97, y97, z97⟩, st97⟩ := X0.virtualBack hx (y := (⟨"java/lang/String", "length", "()I"⟩ : MethodName)) (z := (⟨"java/lang/String", "length", "()I"⟩ : MethodName)) hown (mvT hZ (hw _ (List.mem_of_getElem? (i := 39) rfl))) (mvT hZ (hw _ (List.mem_of_getElem? (i := 40) rfl))) (notFace_of_selects (args := #[]) (mvT hZ (hw _ (List.mem_of_getElem? (i := 42) rfl)))) (mvT hZ (hw _ (List.mem_of_getElem? (i := 42) rfl))) (mvT hZ (hw _ (List.mem_of_getElem? (i := 41) rfl))) (by decide) (backOf (W := 1) (rmLEN l Z a0 hw [] o n g h0 n0 Z0 hn O SK SS) hZ (hw _ (List.mem_of_getElem? (i := 43) rfl)) (hw _ (List.mem_of_getElem? (i := 7) rfl)) (by decide) (by decide)) q97a q97c (g := (mkF m 2 #[.val (.ref o), .val (.int (Int32.ofNat i)), .val (.int x)] [(.ref o), (.int (Int32.ofNat i))])) rfl (by rw [hml]; rfl) (Steps.refl _) (argsL := []) (rest := [(.int (Int32.ofNat i))]) (lenOf pd_8 rfl) rfl (by show 2 * 0 + _ ≤ _; exact Nat.le_of_eq rfl) (hb hby d8_2) (fun _ _ => ⟨rfl, e0, (by decide : 0 + 0 ≤ _), (by decide : 0 + 0 ≤ _)⟩)
  dsimp only [Pt.U, Pt.locs, Pt.cells, Pt.slots] at X97 l97 y97 z97 st97 hQ97
  subst l97 y97 z97
  obtain ⟨rfl, N97q, e97⟩ := hQ97
  have N97 := Fr.app N0 N97q
  obtain ⟨cq98, kq98, q98a, q98b, q98c⟩ := isOf hZ e97 SS.1
  obtain ⟨_, _, ⟨T98, L98, k98, n98⟩, -, X98, ⟨Lc98, hQ98, l98, y98, z98⟩, st98⟩ := X97.virtualBack hx (y := (⟨"java/lang/String", "charAt", "(I)C"⟩ : MethodName)) (z := (⟨"java/lang/String", "charAt", "(I)C"⟩ : MethodName)) hown (mvT hZ (hw _ (List.mem_of_getElem? (i := 49) rfl))) (mvT hZ (hw _ (List.mem_of_getElem? (i := 50) rfl))) (notFace_of_selects (args := #[]) (mvT hZ (hw _ (List.mem_of_getElem? (i := 52) rfl)))) (mvT hZ (hw _ (List.mem_of_getElem? (i := 52) rfl))) (mvT hZ (hw _ (List.mem_of_getElem? (i := 51) rfl))) (by decide) (backOf (W := 0) (rmCA l Z a0 hw [] o i n g h0 n0 Z0 hn hi O SK SS) hZ (hw _ (List.mem_of_getElem? (i := 53) rfl)) (hw _ (List.mem_of_getElem? (i := 7) rfl)) (by decide) (by decide)) q98a q98c (g := (mkF m 10 #[.val (.ref o), .val (.int (Int32.ofNat i)), .val (.int x)] [(.int (Int32.ofNat i)), (.ref o)])) rfl (by rw [hml]; rfl) (Steps.refl _) (argsL := [(.int (Int32.ofNat i))]) (rest := []) (lenOf pd_10 rfl) rfl (by show 2 * 0 + _ ≤ _; exact Nat.le_of_eq rfl) (hb hby d8_10) (fun _ _ => ⟨rfl, e97, (by decide : 0 + 0 ≤ _), (by decide : 0 + 0 ≤ _)⟩)
  dsimp only [Pt.U, Pt.locs, Pt.cells, Pt.slots] at X98 l98 y98 z98 st98 hQ98
  subst l98 y98 z98
  obtain ⟨rfl, N98q, e98⟩ := hQ98
  have N98 := Fr.app N97 N98q
  obtain ⟨fs, hr, hrun, hended, hW, hsame⟩ := X98.leave (v := some (.int (1 : Int32))) (fun h => by rw [Bd.returns] at h; cases h)
  refine ⟨_, _, pre0 _ ?_, hrun, hended, _, _, rfl, ?_, ⟨_, rfl⟩, hW, hsame.mono (by decide) (by decide)⟩
  · show Steps p.tables e below (s₁.setTop (mkF m 0 #[.val (.ref o), .val (.int (Int32.ofNat i)), .val (.int x)] [])) _
    refine XS.iloadN X0.here hx rfl (hb hby d8_0) rfl ?_
    refine XS.aloadN X0.here hx rfl (hb hby d8_1) rfl rfl ?_
    show Steps p.tables e below (s₁.setTop (mkF m 2 #[.val (.ref o), .val (.int (Int32.ofNat i)), .val (.int x)] [(.ref o), (.int (Int32.ofNat i))])) _
    refine st97.trans ?_
    refine XS.icmpNo X97.here hx rfl (hb hby d8_5) rfl (tlt ((ltN (by omega) (by omega)).mpr hi)).2.1 ?_
    refine XS.aloadN X97.here hx rfl (hb hby d8_8) rfl rfl ?_
    refine XS.iloadN X97.here hx rfl (hb hby d8_9) rfl ?_
    show Steps p.tables e below (T97.setTop (mkF m 10 #[.val (.ref o), .val (.int (Int32.ofNat i)), .val (.int x)] [(.int (Int32.ofNat i)), (.ref o)])) _
    refine st98.trans ?_
    refine XS.iloadN X98.here hx rfl (hb hby d8_13) rfl ?_
    refine XS.icmpNo X98.here hx rfl (hb hby d8_14) rfl (teq hc).2 ?_
    refine XS.iconst X98.here hx rfl (hb hby d8_17) ?_
    refine XS.goto X98.here hx rfl (pc0 := 18) (pc' := 22) rfl (hb hby d8_18) (by decide) (by decide) ?_
    show Steps p.tables e below (T98.setTop (mkF m 22 #[.val (.ref o), .val (.int (Int32.ofNat i)), .val (.int x)] [(.int (1 : Int32))])) _
    exact retN X98 hx (t := .boolean) Bd.returns (by simp) (hb hby d8_22) hr
  · show QI (1 : Int32) h0 n0 _ T98.heap _
    rw [e98]
    exact ⟨rfl, N98, rfl⟩
set_option maxRecDepth 65536 in
set_option maxHeartbeats 40000000 in
theorem rmIA2 (l : Launch) (Z : State) (a0 : Array Value) (hw : ∀ d ∈ tables_1, d.before a0 Z = true) (ws : List Jvm.Cond) (o : Addr) (i n : Nat) (x : Int32) (g : Nat → Int32)  (h0 : Heap) (n0 : Nat) (Z0 : n0 ≤ h0.size) (hn : n ≤ 4) (hi : i < n) (hc : ¬ (g i = x)) (O : Old Z n0 h0) (SK : StrSta Z) (SS : Str Z h0 o n g)  :
    MetFree l (⟨"org/keyreturn/sql/Words", "isAt", "(Ljava/lang/String;IC)Z"⟩ : MethodName) (head1 (Jvm.Cond.code (⟨"org/keyreturn/sql/Words", "isAt", "(Ljava/lang/String;IC)Z"⟩ : MethodName) prog_51_method_10_code 3 (some .boolean) :: ws) ({ frames := 5, cells := 0, slots := 0, locals := 80 } : Room)) (fun aa_ U_ => aa_ = #[(.ref o), (.int (Int32.ofNat i)), (.int x)] ∧ Z.Warmed39 U_.vm ∧ U_.heap = h0) (fun _ _ _ _ _ => True) (fun _ U_ o_ V_ => ∃ v_ L_, o_ = .returned v_ ∧ QI (0 : Int32) h0 n0 v_ V_.heap L_ ∧ FrameEnd U_ o_ V_ L_ ({ frames := 5, cells := 0, slots := 0, locals := 80 } : Room).cells ({ frames := 5, cells := 0, slots := 0, locals := 80 } : Room).slots) := by
  refine MetFree.of_bodySF (plainFor_of_name pn_8) hisR ?_
  intro p e s m args below meth c s₁ Bd hml0 hP hK
  obtain ⟨rfl, hZ, hh⟩ := hP
  have hx := Bd.exec
  have hby := Bd.bytes
  have hml : c.maxLocals = 3 := hml0
  have hown : s.vm.findClass "org/keyreturn/sql/Words" = some m.cls := findClass_of_methodNamed Bd.named
  have hnm := (name_of_methodNamed Bd.named Bd.method).1
  have X0 : Stand p l e ({ frames := 5, cells := 0, slots := 0, locals := 80 } : Room) s m #[(.ref o), (.int (Int32.ofNat i)), (.int x)] below meth c s₁ [] 0 0 := Stand.of_body Bd
  have e0 : s₁.heap = h0 := by rw [← hh, Bd.state]; rfl
  have N0 := Fr.nil n0
  have pre0 : ∀ zz, Steps p.tables e below (s₁.setTop (mkF m 0 #[.val (.ref o), .val (.int (Int32.ofNat i)), .val (.int x)] [])) zz → Steps p.tables e below (s₁.setTop (entryFrame m #[(.ref o), (.int (Int32.ofNat i)), (.int x)] 3)) zz := fun zz k => castTop (ef_8 m o (Int32.ofNat i) x) k
  obtain ⟨cq99, kq99, q99a, q99b, q99c⟩ := isOf hZ e0 SS.1
  obtain ⟨_, _, ⟨T99, L99, k99, n99⟩, -, X99, ⟨Lc99, hQ99, l99, y99, z99⟩, st99⟩ := X0.virtualBack hx (y := (⟨"java/lang/String", "length", "()I"⟩ : MethodName)) (z := (⟨"java/lang/String", "length", "()I"⟩ : MethodName)) hown (mvT hZ (hw _ (List.mem_of_getElem? (i := 39) rfl))) (mvT hZ (hw _ (List.mem_of_getElem? (i := 40) rfl))) (notFace_of_selects (args := #[]) (mvT hZ (hw _ (List.mem_of_getElem? (i := 42) rfl)))) (mvT hZ (hw _ (List.mem_of_getElem? (i := 42) rfl))) (mvT hZ (hw _ (List.mem_of_getElem? (i := 41) rfl))) (by decide) (backOf (W := 1) (rmLEN l Z a0 hw [] o n g h0 n0 Z0 hn O SK SS) hZ (hw _ (List.mem_of_getElem? (i := 43) rfl)) (hw _ (List.mem_of_getElem? (i := 7) rfl)) (by decide) (by decide)) q99a q99c (g := (mkF m 2 #[.val (.ref o), .val (.int (Int32.ofNat i)), .val (.int x)] [(.ref o), (.int (Int32.ofNat i))])) rfl (by rw [hml]; rfl) (Steps.refl _) (argsL := []) (rest := [(.int (Int32.ofNat i))]) (lenOf pd_8 rfl) rfl (by show 2 * 0 + _ ≤ _; exact Nat.le_of_eq rfl) (hb hby d8_2) (fun _ _ => ⟨rfl, e0, (by decide : 0 + 0 ≤ _), (by decide : 0 + 0 ≤ _)⟩)
  dsimp only [Pt.U, Pt.locs, Pt.cells, Pt.slots] at X99 l99 y99 z99 st99 hQ99
  subst l99 y99 z99
  obtain ⟨rfl, N99q, e99⟩ := hQ99
  have N99 := Fr.app N0 N99q
  obtain ⟨cq100, kq100, q100a, q100b, q100c⟩ := isOf hZ e99 SS.1
  obtain ⟨_, _, ⟨T100, L100, k100, n100⟩, -, X100, ⟨Lc100, hQ100, l100, y100, z100⟩, st100⟩ := X99.virtualBack hx (y := (⟨"java/lang/String", "charAt", "(I)C"⟩ : MethodName)) (z := (⟨"java/lang/String", "charAt", "(I)C"⟩ : MethodName)) hown (mvT hZ (hw _ (List.mem_of_getElem? (i := 49) rfl))) (mvT hZ (hw _ (List.mem_of_getElem? (i := 50) rfl))) (notFace_of_selects (args := #[]) (mvT hZ (hw _ (List.mem_of_getElem? (i := 52) rfl)))) (mvT hZ (hw _ (List.mem_of_getElem? (i := 52) rfl))) (mvT hZ (hw _ (List.mem_of_getElem? (i := 51) rfl))) (by decide) (backOf (W := 0) (rmCA l Z a0 hw [] o i n g h0 n0 Z0 hn hi O SK SS) hZ (hw _ (List.mem_of_getElem? (i := 53) rfl)) (hw _ (List.mem_of_getElem? (i := 7) rfl)) (by decide) (by decide)) q100a q100c (g := (mkF m 10 #[.val (.ref o), .val (.int (Int32.ofNat i)), .val (.int x)] [(.int (Int32.ofNat i)), (.ref o)])) rfl (by rw [hml]; rfl) (Steps.refl _) (argsL := [(.int (Int32.ofNat i))]) (rest := []) (lenOf pd_10 rfl) rfl (by show 2 * 0 + _ ≤ _; exact Nat.le_of_eq rfl) (hb hby d8_10) (fun _ _ => ⟨rfl, e99, (by decide : 0 + 0 ≤ _), (by decide : 0 + 0 ≤ _)⟩)
  dsimp only [Pt.U, Pt.locs, Pt.cells, Pt.slots] at X100 l100 y100 z100 st100 hQ100
  subst l100 y100 z100
  obtain ⟨rfl, N100q, e100⟩ := hQ100
  have N100 := Fr.app N99 N100q
  obtain ⟨fs, hr, hrun, hended, hW, hsame⟩ := X100.leave (v := some (.int (0 : Int32))) (fun h => by rw [Bd.returns] at h; cases h)
  refine ⟨_, _, pre0 _ ?_, hrun, hended, _, _, rfl, ?_, ⟨_, rfl⟩, hW, hsame.mono (by decide) (by decide)⟩
  · show Steps p.tables e below (s₁.setTop (mkF m 0 #[.val (.ref o), .val (.int (Int32.ofNat i)), .val (.int x)] [])) _
    refine XS.iloadN X0.here hx rfl (hb hby d8_0) rfl ?_
    refine XS.aloadN X0.here hx rfl (hb hby d8_1) rfl rfl ?_
    show Steps p.tables e below (s₁.setTop (mkF m 2 #[.val (.ref o), .val (.int (Int32.ofNat i)), .val (.int x)] [(.ref o), (.int (Int32.ofNat i))])) _
    refine st99.trans ?_
    refine XS.icmpNo X99.here hx rfl (hb hby d8_5) rfl (tlt ((ltN (by omega) (by omega)).mpr hi)).2.1 ?_
    refine XS.aloadN X99.here hx rfl (hb hby d8_8) rfl rfl ?_
    refine XS.iloadN X99.here hx rfl (hb hby d8_9) rfl ?_
    show Steps p.tables e below (T99.setTop (mkF m 10 #[.val (.ref o), .val (.int (Int32.ofNat i)), .val (.int x)] [(.int (Int32.ofNat i)), (.ref o)])) _
    refine st100.trans ?_
    refine XS.iloadN X100.here hx rfl (hb hby d8_13) rfl ?_
    refine XS.icmpYes X100.here hx rfl (pc0 := 14) (pc' := 21) rfl (hb hby d8_14) rfl (feq hc).2 (by decide) (by decide) ?_
    refine XS.iconst X100.here hx rfl (hb hby d8_21) ?_
    show Steps p.tables e below (T100.setTop (mkF m 22 #[.val (.ref o), .val (.int (Int32.ofNat i)), .val (.int x)] [(.int (0 : Int32))])) _
    exact retN X100 hx (t := .boolean) Bd.returns (by simp) (hb hby d8_22) hr
  · show QI (0 : Int32) h0 n0 _ T100.heap _
    rw [e100]
    exact ⟨rfl, N100, rfl⟩
theorem pn_0 : plainName "org/keyreturn/sql/WordsIsAtPinLaw" = true := by first | (simp [plainName, overriddenIn]; done) | decide +kernel
theorem ef_0 (m : MethodId) (x0 : Int32) (x1 : Int32) (x2 : Int32) (x3 : Int32) : entryFrame m #[(.int x0), (.int x1), (.int x2), (.int x3)] maxLocals = mkF m 0 #[.val (.int x0), .val (.int x1), .val (.int x2), .val (.int x3), .unset, .unset, .unset, .unset, .unset, .unset, .unset, .unset, .unset, .unset] [] := by first | (simp [entryFrame, mkF, argsToLocals, Value.category, maxLocals]; done) | rfl
def Q0 (h0 : Heap) (n0 : Nat) (v : Option Value) (h : Heap) (L : List Loc) : Prop := v = some (.int 1) ∧ Fr n0 L
set_option maxRecDepth 65536 in
set_option maxHeartbeats 40000000 in
theorem ch0 {p : Program} {l : Launch} {e : Env} {R : Room} {s : State} {m : MethodId} {args : Array Value} {below : List Frame} {meth : Method} {c : Code} {T0 : State} {locs : List Loc} {cells slots : Nat} {Z : State} {a0 : Array Value} (ab de fr k0 : Int32) (X0 : Stand p l e R s m args below meth c T0 locs cells slots) (hx : p.tables.exec = Jvm.exec) (hZ : Z.Warmed39 s.vm) (hw : ∀ d ∈ tables_1, d.before a0 Z = true) (hby : c.code = code) (hown : s.vm.findClass "org/keyreturn/sql/WordsIsAtPinLaw" = some m.cls) (hc61 : (choF k0) = (0 : Int32)) {target : State} (kt : Steps p.tables e below (T0.setTop (mkF m 117 #[.val (.int ab), .val (.int de), .val (.int fr), .val (.int k0), .val (.int (cA ab)), .val (.int (cB ab)), .val (.int (cA de)), .val (.int (cB de)), .val (.int (lenF k0)), .val (.int (idxF k0)), .val (.int (choF k0)), .val (.int (cA ab)), .unset, .unset] [])) target) : Steps p.tables e below (T0.setTop (mkF m 0 #[.val (.int ab), .val (.int de), .val (.int fr), .val (.int k0), .unset, .unset, .unset, .unset, .unset, .unset, .unset, .unset, .unset, .unset] [])) target := by
  show Steps p.tables e below (T0.setTop (mkF m 0 #[.val (.int ab), .val (.int de), .val (.int fr), .val (.int k0), .unset, .unset, .unset, .unset, .unset, .unset, .unset, .unset, .unset, .unset] [])) _
  refine XS.iloadN X0.here hx rfl (hb hby at_0) rfl ?_
  refine X0.ldcInt hx hown (mvT hZ (hw _ (List.mem_of_getElem? (i := 0) rfl))) (g := (mkF m 1 #[.val (.int ab), .val (.int de), .val (.int fr), .val (.int k0), .unset, .unset, .unset, .unset, .unset, .unset, .unset, .unset, .unset, .unset] [(.int ab)])) rfl (hb hby at_1) _ ?_
  refine XS.iand X0.here hx rfl (hb hby at_3) rfl ?_
  refine XS.i2c X0.here hx rfl (hb hby at_4) rfl ?_
  show Steps p.tables e below (T0.setTop (mkF m 5 #[.val (.int ab), .val (.int de), .val (.int fr), .val (.int k0), .unset, .unset, .unset, .unset, .unset, .unset, .unset, .unset, .unset, .unset] [(.int (cA ab))])) _
  refine XS.istore X0.here hx rfl (hb hby at_5) rfl (l' := #[.val (.int ab), .val (.int de), .val (.int fr), .val (.int k0), .val (.int (cA ab)), .unset, .unset, .unset, .unset, .unset, .unset, .unset, .unset, .unset]) rfl ?_
  refine XS.iloadN X0.here hx rfl (hb hby at_7) rfl ?_
  refine XS.bipush X0.here hx rfl (hb hby at_8) ?_
  refine XS.iushr X0.here hx rfl (hb hby at_10) rfl ?_
  refine X0.ldcInt hx hown (mvT hZ (hw _ (List.mem_of_getElem? (i := 0) rfl))) (g := (mkF m 11 #[.val (.int ab), .val (.int de), .val (.int fr), .val (.int k0), .val (.int (cA ab)), .unset, .unset, .unset, .unset, .unset, .unset, .unset, .unset, .unset] [(.int ((ab.toUInt32 >>> ((16 : Int32) &&& 31).toUInt32).toInt32))])) rfl (hb hby at_11) _ ?_
  refine XS.iand X0.here hx rfl (hb hby at_13) rfl ?_
  show Steps p.tables e below (T0.setTop (mkF m 14 #[.val (.int ab), .val (.int de), .val (.int fr), .val (.int k0), .val (.int (cA ab)), .unset, .unset, .unset, .unset, .unset, .unset, .unset, .unset, .unset] [(.int (((ab.toUInt32 >>> ((16 : Int32) &&& 31).toUInt32).toInt32) &&& (65535 : Int32)))])) _
  refine XS.i2c X0.here hx rfl (hb hby at_14) rfl ?_
  show Steps p.tables e below (T0.setTop (mkF m 15 #[.val (.int ab), .val (.int de), .val (.int fr), .val (.int k0), .val (.int (cA ab)), .unset, .unset, .unset, .unset, .unset, .unset, .unset, .unset, .unset] [(.int (cB ab))])) _
  refine XS.istore X0.here hx rfl (hb hby at_15) rfl (l' := #[.val (.int ab), .val (.int de), .val (.int fr), .val (.int k0), .val (.int (cA ab)), .val (.int (cB ab)), .unset, .unset, .unset, .unset, .unset, .unset, .unset, .unset]) rfl ?_
  refine XS.iloadN X0.here hx rfl (hb hby at_17) rfl ?_
  refine X0.ldcInt hx hown (mvT hZ (hw _ (List.mem_of_getElem? (i := 0) rfl))) (g := (mkF m 18 #[.val (.int ab), .val (.int de), .val (.int fr), .val (.int k0), .val (.int (cA ab)), .val (.int (cB ab)), .unset, .unset, .unset, .unset, .unset, .unset, .unset, .unset] [(.int de)])) rfl (hb hby at_18) _ ?_
  refine XS.iand X0.here hx rfl (hb hby at_20) rfl ?_
  refine XS.i2c X0.here hx rfl (hb hby at_21) rfl ?_
  show Steps p.tables e below (T0.setTop (mkF m 22 #[.val (.int ab), .val (.int de), .val (.int fr), .val (.int k0), .val (.int (cA ab)), .val (.int (cB ab)), .unset, .unset, .unset, .unset, .unset, .unset, .unset, .unset] [(.int (cA de))])) _
  refine XS.istore X0.here hx rfl (hb hby at_22) rfl (l' := #[.val (.int ab), .val (.int de), .val (.int fr), .val (.int k0), .val (.int (cA ab)), .val (.int (cB ab)), .val (.int (cA de)), .unset, .unset, .unset, .unset, .unset, .unset, .unset]) rfl ?_
  refine XS.iloadN X0.here hx rfl (hb hby at_24) rfl ?_
  refine XS.bipush X0.here hx rfl (hb hby at_25) ?_
  refine XS.iushr X0.here hx rfl (hb hby at_27) rfl ?_
  refine X0.ldcInt hx hown (mvT hZ (hw _ (List.mem_of_getElem? (i := 0) rfl))) (g := (mkF m 28 #[.val (.int ab), .val (.int de), .val (.int fr), .val (.int k0), .val (.int (cA ab)), .val (.int (cB ab)), .val (.int (cA de)), .unset, .unset, .unset, .unset, .unset, .unset, .unset] [(.int ((de.toUInt32 >>> ((16 : Int32) &&& 31).toUInt32).toInt32))])) rfl (hb hby at_28) _ ?_
  refine XS.iand X0.here hx rfl (hb hby at_30) rfl ?_
  show Steps p.tables e below (T0.setTop (mkF m 31 #[.val (.int ab), .val (.int de), .val (.int fr), .val (.int k0), .val (.int (cA ab)), .val (.int (cB ab)), .val (.int (cA de)), .unset, .unset, .unset, .unset, .unset, .unset, .unset] [(.int (((de.toUInt32 >>> ((16 : Int32) &&& 31).toUInt32).toInt32) &&& (65535 : Int32)))])) _
  refine XS.i2c X0.here hx rfl (hb hby at_31) rfl ?_
  show Steps p.tables e below (T0.setTop (mkF m 32 #[.val (.int ab), .val (.int de), .val (.int fr), .val (.int k0), .val (.int (cA ab)), .val (.int (cB ab)), .val (.int (cA de)), .unset, .unset, .unset, .unset, .unset, .unset, .unset] [(.int (cB de))])) _
  refine XS.istore X0.here hx rfl (hb hby at_32) rfl (l' := #[.val (.int ab), .val (.int de), .val (.int fr), .val (.int k0), .val (.int (cA ab)), .val (.int (cB ab)), .val (.int (cA de)), .val (.int (cB de)), .unset, .unset, .unset, .unset, .unset, .unset]) rfl ?_
  refine XS.iloadN X0.here hx rfl (hb hby at_34) rfl ?_
  refine XS.bipush X0.here hx rfl (hb hby at_35) ?_
  refine XS.iand X0.here hx rfl (hb hby at_37) rfl ?_
  refine XS.iconst X0.here hx rfl (hb hby at_38) ?_
  refine gwIrem X0.here hx rfl (hb hby at_39) rfl (by decide) ?_
  show Steps p.tables e below (T0.setTop (mkF m 40 #[.val (.int ab), .val (.int de), .val (.int fr), .val (.int k0), .val (.int (cA ab)), .val (.int (cB ab)), .val (.int (cA de)), .val (.int (cB de)), .unset, .unset, .unset, .unset, .unset, .unset] [(.int (lenF k0))])) _
  refine XS.istore X0.here hx rfl (hb hby at_40) rfl (l' := #[.val (.int ab), .val (.int de), .val (.int fr), .val (.int k0), .val (.int (cA ab)), .val (.int (cB ab)), .val (.int (cA de)), .val (.int (cB de)), .val (.int (lenF k0)), .unset, .unset, .unset, .unset, .unset]) rfl ?_
  refine XS.iloadN X0.here hx rfl (hb hby at_42) rfl ?_
  refine XS.iconst X0.here hx rfl (hb hby at_43) ?_
  refine XS.iushr X0.here hx rfl (hb hby at_44) rfl ?_
  refine XS.bipush X0.here hx rfl (hb hby at_45) ?_
  refine XS.iand X0.here hx rfl (hb hby at_47) rfl ?_
  show Steps p.tables e below (T0.setTop (mkF m 48 #[.val (.int ab), .val (.int de), .val (.int fr), .val (.int k0), .val (.int (cA ab)), .val (.int (cB ab)), .val (.int (cA de)), .val (.int (cB de)), .val (.int (lenF k0)), .unset, .unset, .unset, .unset, .unset] [(.int (idxF k0))])) _
  refine XS.istore X0.here hx rfl (hb hby at_48) rfl (l' := #[.val (.int ab), .val (.int de), .val (.int fr), .val (.int k0), .val (.int (cA ab)), .val (.int (cB ab)), .val (.int (cA de)), .val (.int (cB de)), .val (.int (lenF k0)), .val (.int (idxF k0)), .unset, .unset, .unset, .unset]) rfl ?_
  refine XS.iloadN X0.here hx rfl (hb hby at_50) rfl ?_
  refine XS.bipush X0.here hx rfl (hb hby at_51) ?_
  refine XS.iushr X0.here hx rfl (hb hby at_53) rfl ?_
  refine XS.bipush X0.here hx rfl (hb hby at_54) ?_
  refine XS.iand X0.here hx rfl (hb hby at_56) rfl ?_
  show Steps p.tables e below (T0.setTop (mkF m 57 #[.val (.int ab), .val (.int de), .val (.int fr), .val (.int k0), .val (.int (cA ab)), .val (.int (cB ab)), .val (.int (cA de)), .val (.int (cB de)), .val (.int (lenF k0)), .val (.int (idxF k0)), .unset, .unset, .unset, .unset] [(.int (choF k0))])) _
  refine XS.istore X0.here hx rfl (hb hby at_57) rfl (l' := #[.val (.int ab), .val (.int de), .val (.int fr), .val (.int k0), .val (.int (cA ab)), .val (.int (cB ab)), .val (.int (cA de)), .val (.int (cB de)), .val (.int (lenF k0)), .val (.int (idxF k0)), .val (.int (choF k0)), .unset, .unset, .unset]) rfl ?_
  refine XS.iload X0.here hx rfl (hb hby at_59) rfl ?_
  refine XS.ifNo X0.here hx rfl (hb hby at_61) rfl ((if0 _ _).trans (teq hc61).2) ?_
  refine XS.iload X0.here hx rfl (hb hby at_64) rfl ?_
  refine XS.istore X0.here hx rfl (hb hby at_66) rfl (l' := #[.val (.int ab), .val (.int de), .val (.int fr), .val (.int k0), .val (.int (cA ab)), .val (.int (cB ab)), .val (.int (cA de)), .val (.int (cB de)), .val (.int (lenF k0)), .val (.int (idxF k0)), .val (.int (choF k0)), .val (.int (cA ab)), .unset, .unset]) rfl ?_
  refine XS.goto X0.here hx rfl (pc0 := 68) (pc' := 117) rfl (hb hby at_68) (by decide) (by decide) ?_
  exact kt
set_option maxRecDepth 65536 in
set_option maxHeartbeats 40000000 in
theorem ch1 {p : Program} {l : Launch} {e : Env} {R : Room} {s : State} {m : MethodId} {args : Array Value} {below : List Frame} {meth : Method} {c : Code} {T0 : State} {locs : List Loc} {cells slots : Nat} {Z : State} {a0 : Array Value} (ab de fr k0 : Int32) (X0 : Stand p l e R s m args below meth c T0 locs cells slots) (hx : p.tables.exec = Jvm.exec) (hZ : Z.Warmed39 s.vm) (hw : ∀ d ∈ tables_1, d.before a0 Z = true) (hby : c.code = code) (hown : s.vm.findClass "org/keyreturn/sql/WordsIsAtPinLaw" = some m.cls) (hc61 : ¬ ((choF k0) = (0 : Int32))) (hc74 : (choF k0) = (1 : Int32)) {target : State} (kt : Steps p.tables e below (T0.setTop (mkF m 117 #[.val (.int ab), .val (.int de), .val (.int fr), .val (.int k0), .val (.int (cA ab)), .val (.int (cB ab)), .val (.int (cA de)), .val (.int (cB de)), .val (.int (lenF k0)), .val (.int (idxF k0)), .val (.int (choF k0)), .val (.int (cB ab)), .unset, .unset] [])) target) : Steps p.tables e below (T0.setTop (mkF m 0 #[.val (.int ab), .val (.int de), .val (.int fr), .val (.int k0), .unset, .unset, .unset, .unset, .unset, .unset, .unset, .unset, .unset, .unset] [])) target := by
  show Steps p.tables e below (T0.setTop (mkF m 0 #[.val (.int ab), .val (.int de), .val (.int fr), .val (.int k0), .unset, .unset, .unset, .unset, .unset, .unset, .unset, .unset, .unset, .unset] [])) _
  refine XS.iloadN X0.here hx rfl (hb hby at_0) rfl ?_
  refine X0.ldcInt hx hown (mvT hZ (hw _ (List.mem_of_getElem? (i := 0) rfl))) (g := (mkF m 1 #[.val (.int ab), .val (.int de), .val (.int fr), .val (.int k0), .unset, .unset, .unset, .unset, .unset, .unset, .unset, .unset, .unset, .unset] [(.int ab)])) rfl (hb hby at_1) _ ?_
  refine XS.iand X0.here hx rfl (hb hby at_3) rfl ?_
  refine XS.i2c X0.here hx rfl (hb hby at_4) rfl ?_
  show Steps p.tables e below (T0.setTop (mkF m 5 #[.val (.int ab), .val (.int de), .val (.int fr), .val (.int k0), .unset, .unset, .unset, .unset, .unset, .unset, .unset, .unset, .unset, .unset] [(.int (cA ab))])) _
  refine XS.istore X0.here hx rfl (hb hby at_5) rfl (l' := #[.val (.int ab), .val (.int de), .val (.int fr), .val (.int k0), .val (.int (cA ab)), .unset, .unset, .unset, .unset, .unset, .unset, .unset, .unset, .unset]) rfl ?_
  refine XS.iloadN X0.here hx rfl (hb hby at_7) rfl ?_
  refine XS.bipush X0.here hx rfl (hb hby at_8) ?_
  refine XS.iushr X0.here hx rfl (hb hby at_10) rfl ?_
  refine X0.ldcInt hx hown (mvT hZ (hw _ (List.mem_of_getElem? (i := 0) rfl))) (g := (mkF m 11 #[.val (.int ab), .val (.int de), .val (.int fr), .val (.int k0), .val (.int (cA ab)), .unset, .unset, .unset, .unset, .unset, .unset, .unset, .unset, .unset] [(.int ((ab.toUInt32 >>> ((16 : Int32) &&& 31).toUInt32).toInt32))])) rfl (hb hby at_11) _ ?_
  refine XS.iand X0.here hx rfl (hb hby at_13) rfl ?_
  show Steps p.tables e below (T0.setTop (mkF m 14 #[.val (.int ab), .val (.int de), .val (.int fr), .val (.int k0), .val (.int (cA ab)), .unset, .unset, .unset, .unset, .unset, .unset, .unset, .unset, .unset] [(.int (((ab.toUInt32 >>> ((16 : Int32) &&& 31).toUInt32).toInt32) &&& (65535 : Int32)))])) _
  refine XS.i2c X0.here hx rfl (hb hby at_14) rfl ?_
  show Steps p.tables e below (T0.setTop (mkF m 15 #[.val (.int ab), .val (.int de), .val (.int fr), .val (.int k0), .val (.int (cA ab)), .unset, .unset, .unset, .unset, .unset, .unset, .unset, .unset, .unset] [(.int (cB ab))])) _
  refine XS.istore X0.here hx rfl (hb hby at_15) rfl (l' := #[.val (.int ab), .val (.int de), .val (.int fr), .val (.int k0), .val (.int (cA ab)), .val (.int (cB ab)), .unset, .unset, .unset, .unset, .unset, .unset, .unset, .unset]) rfl ?_
  refine XS.iloadN X0.here hx rfl (hb hby at_17) rfl ?_
  refine X0.ldcInt hx hown (mvT hZ (hw _ (List.mem_of_getElem? (i := 0) rfl))) (g := (mkF m 18 #[.val (.int ab), .val (.int de), .val (.int fr), .val (.int k0), .val (.int (cA ab)), .val (.int (cB ab)), .unset, .unset, .unset, .unset, .unset, .unset, .unset, .unset] [(.int de)])) rfl (hb hby at_18) _ ?_
  refine XS.iand X0.here hx rfl (hb hby at_20) rfl ?_
  refine XS.i2c X0.here hx rfl (hb hby at_21) rfl ?_
  show Steps p.tables e below (T0.setTop (mkF m 22 #[.val (.int ab), .val (.int de), .val (.int fr), .val (.int k0), .val (.int (cA ab)), .val (.int (cB ab)), .unset, .unset, .unset, .unset, .unset, .unset, .unset, .unset] [(.int (cA de))])) _
  refine XS.istore X0.here hx rfl (hb hby at_22) rfl (l' := #[.val (.int ab), .val (.int de), .val (.int fr), .val (.int k0), .val (.int (cA ab)), .val (.int (cB ab)), .val (.int (cA de)), .unset, .unset, .unset, .unset, .unset, .unset, .unset]) rfl ?_
  refine XS.iloadN X0.here hx rfl (hb hby at_24) rfl ?_
  refine XS.bipush X0.here hx rfl (hb hby at_25) ?_
  refine XS.iushr X0.here hx rfl (hb hby at_27) rfl ?_
  refine X0.ldcInt hx hown (mvT hZ (hw _ (List.mem_of_getElem? (i := 0) rfl))) (g := (mkF m 28 #[.val (.int ab), .val (.int de), .val (.int fr), .val (.int k0), .val (.int (cA ab)), .val (.int (cB ab)), .val (.int (cA de)), .unset, .unset, .unset, .unset, .unset, .unset, .unset] [(.int ((de.toUInt32 >>> ((16 : Int32) &&& 31).toUInt32).toInt32))])) rfl (hb hby at_28) _ ?_
  refine XS.iand X0.here hx rfl (hb hby at_30) rfl ?_
  show Steps p.tables e below (T0.setTop (mkF m 31 #[.val (.int ab), .val (.int de), .val (.int fr), .val (.int k0), .val (.int (cA ab)), .val (.int (cB ab)), .val (.int (cA de)), .unset, .unset, .unset, .unset, .unset, .unset, .unset] [(.int (((de.toUInt32 >>> ((16 : Int32) &&& 31).toUInt32).toInt32) &&& (65535 : Int32)))])) _
  refine XS.i2c X0.here hx rfl (hb hby at_31) rfl ?_
  show Steps p.tables e below (T0.setTop (mkF m 32 #[.val (.int ab), .val (.int de), .val (.int fr), .val (.int k0), .val (.int (cA ab)), .val (.int (cB ab)), .val (.int (cA de)), .unset, .unset, .unset, .unset, .unset, .unset, .unset] [(.int (cB de))])) _
  refine XS.istore X0.here hx rfl (hb hby at_32) rfl (l' := #[.val (.int ab), .val (.int de), .val (.int fr), .val (.int k0), .val (.int (cA ab)), .val (.int (cB ab)), .val (.int (cA de)), .val (.int (cB de)), .unset, .unset, .unset, .unset, .unset, .unset]) rfl ?_
  refine XS.iloadN X0.here hx rfl (hb hby at_34) rfl ?_
  refine XS.bipush X0.here hx rfl (hb hby at_35) ?_
  refine XS.iand X0.here hx rfl (hb hby at_37) rfl ?_
  refine XS.iconst X0.here hx rfl (hb hby at_38) ?_
  refine gwIrem X0.here hx rfl (hb hby at_39) rfl (by decide) ?_
  show Steps p.tables e below (T0.setTop (mkF m 40 #[.val (.int ab), .val (.int de), .val (.int fr), .val (.int k0), .val (.int (cA ab)), .val (.int (cB ab)), .val (.int (cA de)), .val (.int (cB de)), .unset, .unset, .unset, .unset, .unset, .unset] [(.int (lenF k0))])) _
  refine XS.istore X0.here hx rfl (hb hby at_40) rfl (l' := #[.val (.int ab), .val (.int de), .val (.int fr), .val (.int k0), .val (.int (cA ab)), .val (.int (cB ab)), .val (.int (cA de)), .val (.int (cB de)), .val (.int (lenF k0)), .unset, .unset, .unset, .unset, .unset]) rfl ?_
  refine XS.iloadN X0.here hx rfl (hb hby at_42) rfl ?_
  refine XS.iconst X0.here hx rfl (hb hby at_43) ?_
  refine XS.iushr X0.here hx rfl (hb hby at_44) rfl ?_
  refine XS.bipush X0.here hx rfl (hb hby at_45) ?_
  refine XS.iand X0.here hx rfl (hb hby at_47) rfl ?_
  show Steps p.tables e below (T0.setTop (mkF m 48 #[.val (.int ab), .val (.int de), .val (.int fr), .val (.int k0), .val (.int (cA ab)), .val (.int (cB ab)), .val (.int (cA de)), .val (.int (cB de)), .val (.int (lenF k0)), .unset, .unset, .unset, .unset, .unset] [(.int (idxF k0))])) _
  refine XS.istore X0.here hx rfl (hb hby at_48) rfl (l' := #[.val (.int ab), .val (.int de), .val (.int fr), .val (.int k0), .val (.int (cA ab)), .val (.int (cB ab)), .val (.int (cA de)), .val (.int (cB de)), .val (.int (lenF k0)), .val (.int (idxF k0)), .unset, .unset, .unset, .unset]) rfl ?_
  refine XS.iloadN X0.here hx rfl (hb hby at_50) rfl ?_
  refine XS.bipush X0.here hx rfl (hb hby at_51) ?_
  refine XS.iushr X0.here hx rfl (hb hby at_53) rfl ?_
  refine XS.bipush X0.here hx rfl (hb hby at_54) ?_
  refine XS.iand X0.here hx rfl (hb hby at_56) rfl ?_
  show Steps p.tables e below (T0.setTop (mkF m 57 #[.val (.int ab), .val (.int de), .val (.int fr), .val (.int k0), .val (.int (cA ab)), .val (.int (cB ab)), .val (.int (cA de)), .val (.int (cB de)), .val (.int (lenF k0)), .val (.int (idxF k0)), .unset, .unset, .unset, .unset] [(.int (choF k0))])) _
  refine XS.istore X0.here hx rfl (hb hby at_57) rfl (l' := #[.val (.int ab), .val (.int de), .val (.int fr), .val (.int k0), .val (.int (cA ab)), .val (.int (cB ab)), .val (.int (cA de)), .val (.int (cB de)), .val (.int (lenF k0)), .val (.int (idxF k0)), .val (.int (choF k0)), .unset, .unset, .unset]) rfl ?_
  refine XS.iload X0.here hx rfl (hb hby at_59) rfl ?_
  refine XS.ifYes X0.here hx rfl (pc0 := 61) (pc' := 71) rfl (hb hby at_61) rfl ((if0 _ _).trans (feq hc61).2) (by decide) (by decide) ?_
  refine XS.iload X0.here hx rfl (hb hby at_71) rfl ?_
  refine XS.iconst X0.here hx rfl (hb hby at_73) ?_
  refine XS.icmpNo X0.here hx rfl (hb hby at_74) rfl (teq hc74).2 ?_
  show Steps p.tables e below (T0.setTop (mkF m 77 #[.val (.int ab), .val (.int de), .val (.int fr), .val (.int k0), .val (.int (cA ab)), .val (.int (cB ab)), .val (.int (cA de)), .val (.int (cB de)), .val (.int (lenF k0)), .val (.int (idxF k0)), .val (.int (choF k0)), .unset, .unset, .unset] [])) _
  refine XS.iload X0.here hx rfl (hb hby at_77) rfl ?_
  refine XS.istore X0.here hx rfl (hb hby at_79) rfl (l' := #[.val (.int ab), .val (.int de), .val (.int fr), .val (.int k0), .val (.int (cA ab)), .val (.int (cB ab)), .val (.int (cA de)), .val (.int (cB de)), .val (.int (lenF k0)), .val (.int (idxF k0)), .val (.int (choF k0)), .val (.int (cB ab)), .unset, .unset]) rfl ?_
  refine XS.goto X0.here hx rfl (pc0 := 81) (pc' := 117) rfl (hb hby at_81) (by decide) (by decide) ?_
  exact kt
set_option maxRecDepth 65536 in
set_option maxHeartbeats 40000000 in
theorem ch2 {p : Program} {l : Launch} {e : Env} {R : Room} {s : State} {m : MethodId} {args : Array Value} {below : List Frame} {meth : Method} {c : Code} {T0 : State} {locs : List Loc} {cells slots : Nat} {Z : State} {a0 : Array Value} (ab de fr k0 : Int32) (X0 : Stand p l e R s m args below meth c T0 locs cells slots) (hx : p.tables.exec = Jvm.exec) (hZ : Z.Warmed39 s.vm) (hw : ∀ d ∈ tables_1, d.before a0 Z = true) (hby : c.code = code) (hown : s.vm.findClass "org/keyreturn/sql/WordsIsAtPinLaw" = some m.cls) (hc61 : ¬ ((choF k0) = (0 : Int32))) (hc74 : ¬ ((choF k0) = (1 : Int32))) (hc87 : (choF k0) = (2 : Int32)) {target : State} (kt : Steps p.tables e below (T0.setTop (mkF m 117 #[.val (.int ab), .val (.int de), .val (.int fr), .val (.int k0), .val (.int (cA ab)), .val (.int (cB ab)), .val (.int (cA de)), .val (.int (cB de)), .val (.int (lenF k0)), .val (.int (idxF k0)), .val (.int (choF k0)), .val (.int (cA de)), .unset, .unset] [])) target) : Steps p.tables e below (T0.setTop (mkF m 0 #[.val (.int ab), .val (.int de), .val (.int fr), .val (.int k0), .unset, .unset, .unset, .unset, .unset, .unset, .unset, .unset, .unset, .unset] [])) target := by
  show Steps p.tables e below (T0.setTop (mkF m 0 #[.val (.int ab), .val (.int de), .val (.int fr), .val (.int k0), .unset, .unset, .unset, .unset, .unset, .unset, .unset, .unset, .unset, .unset] [])) _
  refine XS.iloadN X0.here hx rfl (hb hby at_0) rfl ?_
  refine X0.ldcInt hx hown (mvT hZ (hw _ (List.mem_of_getElem? (i := 0) rfl))) (g := (mkF m 1 #[.val (.int ab), .val (.int de), .val (.int fr), .val (.int k0), .unset, .unset, .unset, .unset, .unset, .unset, .unset, .unset, .unset, .unset] [(.int ab)])) rfl (hb hby at_1) _ ?_
  refine XS.iand X0.here hx rfl (hb hby at_3) rfl ?_
  refine XS.i2c X0.here hx rfl (hb hby at_4) rfl ?_
  show Steps p.tables e below (T0.setTop (mkF m 5 #[.val (.int ab), .val (.int de), .val (.int fr), .val (.int k0), .unset, .unset, .unset, .unset, .unset, .unset, .unset, .unset, .unset, .unset] [(.int (cA ab))])) _
  refine XS.istore X0.here hx rfl (hb hby at_5) rfl (l' := #[.val (.int ab), .val (.int de), .val (.int fr), .val (.int k0), .val (.int (cA ab)), .unset, .unset, .unset, .unset, .unset, .unset, .unset, .unset, .unset]) rfl ?_
  refine XS.iloadN X0.here hx rfl (hb hby at_7) rfl ?_
  refine XS.bipush X0.here hx rfl (hb hby at_8) ?_
  refine XS.iushr X0.here hx rfl (hb hby at_10) rfl ?_
  refine X0.ldcInt hx hown (mvT hZ (hw _ (List.mem_of_getElem? (i := 0) rfl))) (g := (mkF m 11 #[.val (.int ab), .val (.int de), .val (.int fr), .val (.int k0), .val (.int (cA ab)), .unset, .unset, .unset, .unset, .unset, .unset, .unset, .unset, .unset] [(.int ((ab.toUInt32 >>> ((16 : Int32) &&& 31).toUInt32).toInt32))])) rfl (hb hby at_11) _ ?_
  refine XS.iand X0.here hx rfl (hb hby at_13) rfl ?_
  show Steps p.tables e below (T0.setTop (mkF m 14 #[.val (.int ab), .val (.int de), .val (.int fr), .val (.int k0), .val (.int (cA ab)), .unset, .unset, .unset, .unset, .unset, .unset, .unset, .unset, .unset] [(.int (((ab.toUInt32 >>> ((16 : Int32) &&& 31).toUInt32).toInt32) &&& (65535 : Int32)))])) _
  refine XS.i2c X0.here hx rfl (hb hby at_14) rfl ?_
  show Steps p.tables e below (T0.setTop (mkF m 15 #[.val (.int ab), .val (.int de), .val (.int fr), .val (.int k0), .val (.int (cA ab)), .unset, .unset, .unset, .unset, .unset, .unset, .unset, .unset, .unset] [(.int (cB ab))])) _
  refine XS.istore X0.here hx rfl (hb hby at_15) rfl (l' := #[.val (.int ab), .val (.int de), .val (.int fr), .val (.int k0), .val (.int (cA ab)), .val (.int (cB ab)), .unset, .unset, .unset, .unset, .unset, .unset, .unset, .unset]) rfl ?_
  refine XS.iloadN X0.here hx rfl (hb hby at_17) rfl ?_
  refine X0.ldcInt hx hown (mvT hZ (hw _ (List.mem_of_getElem? (i := 0) rfl))) (g := (mkF m 18 #[.val (.int ab), .val (.int de), .val (.int fr), .val (.int k0), .val (.int (cA ab)), .val (.int (cB ab)), .unset, .unset, .unset, .unset, .unset, .unset, .unset, .unset] [(.int de)])) rfl (hb hby at_18) _ ?_
  refine XS.iand X0.here hx rfl (hb hby at_20) rfl ?_
  refine XS.i2c X0.here hx rfl (hb hby at_21) rfl ?_
  show Steps p.tables e below (T0.setTop (mkF m 22 #[.val (.int ab), .val (.int de), .val (.int fr), .val (.int k0), .val (.int (cA ab)), .val (.int (cB ab)), .unset, .unset, .unset, .unset, .unset, .unset, .unset, .unset] [(.int (cA de))])) _
  refine XS.istore X0.here hx rfl (hb hby at_22) rfl (l' := #[.val (.int ab), .val (.int de), .val (.int fr), .val (.int k0), .val (.int (cA ab)), .val (.int (cB ab)), .val (.int (cA de)), .unset, .unset, .unset, .unset, .unset, .unset, .unset]) rfl ?_
  refine XS.iloadN X0.here hx rfl (hb hby at_24) rfl ?_
  refine XS.bipush X0.here hx rfl (hb hby at_25) ?_
  refine XS.iushr X0.here hx rfl (hb hby at_27) rfl ?_
  refine X0.ldcInt hx hown (mvT hZ (hw _ (List.mem_of_getElem? (i := 0) rfl))) (g := (mkF m 28 #[.val (.int ab), .val (.int de), .val (.int fr), .val (.int k0), .val (.int (cA ab)), .val (.int (cB ab)), .val (.int (cA de)), .unset, .unset, .unset, .unset, .unset, .unset, .unset] [(.int ((de.toUInt32 >>> ((16 : Int32) &&& 31).toUInt32).toInt32))])) rfl (hb hby at_28) _ ?_
  refine XS.iand X0.here hx rfl (hb hby at_30) rfl ?_
  show Steps p.tables e below (T0.setTop (mkF m 31 #[.val (.int ab), .val (.int de), .val (.int fr), .val (.int k0), .val (.int (cA ab)), .val (.int (cB ab)), .val (.int (cA de)), .unset, .unset, .unset, .unset, .unset, .unset, .unset] [(.int (((de.toUInt32 >>> ((16 : Int32) &&& 31).toUInt32).toInt32) &&& (65535 : Int32)))])) _
  refine XS.i2c X0.here hx rfl (hb hby at_31) rfl ?_
  show Steps p.tables e below (T0.setTop (mkF m 32 #[.val (.int ab), .val (.int de), .val (.int fr), .val (.int k0), .val (.int (cA ab)), .val (.int (cB ab)), .val (.int (cA de)), .unset, .unset, .unset, .unset, .unset, .unset, .unset] [(.int (cB de))])) _
  refine XS.istore X0.here hx rfl (hb hby at_32) rfl (l' := #[.val (.int ab), .val (.int de), .val (.int fr), .val (.int k0), .val (.int (cA ab)), .val (.int (cB ab)), .val (.int (cA de)), .val (.int (cB de)), .unset, .unset, .unset, .unset, .unset, .unset]) rfl ?_
  refine XS.iloadN X0.here hx rfl (hb hby at_34) rfl ?_
  refine XS.bipush X0.here hx rfl (hb hby at_35) ?_
  refine XS.iand X0.here hx rfl (hb hby at_37) rfl ?_
  refine XS.iconst X0.here hx rfl (hb hby at_38) ?_
  refine gwIrem X0.here hx rfl (hb hby at_39) rfl (by decide) ?_
  show Steps p.tables e below (T0.setTop (mkF m 40 #[.val (.int ab), .val (.int de), .val (.int fr), .val (.int k0), .val (.int (cA ab)), .val (.int (cB ab)), .val (.int (cA de)), .val (.int (cB de)), .unset, .unset, .unset, .unset, .unset, .unset] [(.int (lenF k0))])) _
  refine XS.istore X0.here hx rfl (hb hby at_40) rfl (l' := #[.val (.int ab), .val (.int de), .val (.int fr), .val (.int k0), .val (.int (cA ab)), .val (.int (cB ab)), .val (.int (cA de)), .val (.int (cB de)), .val (.int (lenF k0)), .unset, .unset, .unset, .unset, .unset]) rfl ?_
  refine XS.iloadN X0.here hx rfl (hb hby at_42) rfl ?_
  refine XS.iconst X0.here hx rfl (hb hby at_43) ?_
  refine XS.iushr X0.here hx rfl (hb hby at_44) rfl ?_
  refine XS.bipush X0.here hx rfl (hb hby at_45) ?_
  refine XS.iand X0.here hx rfl (hb hby at_47) rfl ?_
  show Steps p.tables e below (T0.setTop (mkF m 48 #[.val (.int ab), .val (.int de), .val (.int fr), .val (.int k0), .val (.int (cA ab)), .val (.int (cB ab)), .val (.int (cA de)), .val (.int (cB de)), .val (.int (lenF k0)), .unset, .unset, .unset, .unset, .unset] [(.int (idxF k0))])) _
  refine XS.istore X0.here hx rfl (hb hby at_48) rfl (l' := #[.val (.int ab), .val (.int de), .val (.int fr), .val (.int k0), .val (.int (cA ab)), .val (.int (cB ab)), .val (.int (cA de)), .val (.int (cB de)), .val (.int (lenF k0)), .val (.int (idxF k0)), .unset, .unset, .unset, .unset]) rfl ?_
  refine XS.iloadN X0.here hx rfl (hb hby at_50) rfl ?_
  refine XS.bipush X0.here hx rfl (hb hby at_51) ?_
  refine XS.iushr X0.here hx rfl (hb hby at_53) rfl ?_
  refine XS.bipush X0.here hx rfl (hb hby at_54) ?_
  refine XS.iand X0.here hx rfl (hb hby at_56) rfl ?_
  show Steps p.tables e below (T0.setTop (mkF m 57 #[.val (.int ab), .val (.int de), .val (.int fr), .val (.int k0), .val (.int (cA ab)), .val (.int (cB ab)), .val (.int (cA de)), .val (.int (cB de)), .val (.int (lenF k0)), .val (.int (idxF k0)), .unset, .unset, .unset, .unset] [(.int (choF k0))])) _
  refine XS.istore X0.here hx rfl (hb hby at_57) rfl (l' := #[.val (.int ab), .val (.int de), .val (.int fr), .val (.int k0), .val (.int (cA ab)), .val (.int (cB ab)), .val (.int (cA de)), .val (.int (cB de)), .val (.int (lenF k0)), .val (.int (idxF k0)), .val (.int (choF k0)), .unset, .unset, .unset]) rfl ?_
  refine XS.iload X0.here hx rfl (hb hby at_59) rfl ?_
  refine XS.ifYes X0.here hx rfl (pc0 := 61) (pc' := 71) rfl (hb hby at_61) rfl ((if0 _ _).trans (feq hc61).2) (by decide) (by decide) ?_
  refine XS.iload X0.here hx rfl (hb hby at_71) rfl ?_
  refine XS.iconst X0.here hx rfl (hb hby at_73) ?_
  refine XS.icmpYes X0.here hx rfl (pc0 := 74) (pc' := 84) rfl (hb hby at_74) rfl (feq hc74).2 (by decide) (by decide) ?_
  show Steps p.tables e below (T0.setTop (mkF m 84 #[.val (.int ab), .val (.int de), .val (.int fr), .val (.int k0), .val (.int (cA ab)), .val (.int (cB ab)), .val (.int (cA de)), .val (.int (cB de)), .val (.int (lenF k0)), .val (.int (idxF k0)), .val (.int (choF k0)), .unset, .unset, .unset] [])) _
  refine XS.iload X0.here hx rfl (hb hby at_84) rfl ?_
  refine XS.iconst X0.here hx rfl (hb hby at_86) ?_
  refine XS.icmpNo X0.here hx rfl (hb hby at_87) rfl (teq hc87).2 ?_
  refine XS.iload X0.here hx rfl (hb hby at_90) rfl ?_
  refine XS.istore X0.here hx rfl (hb hby at_92) rfl (l' := #[.val (.int ab), .val (.int de), .val (.int fr), .val (.int k0), .val (.int (cA ab)), .val (.int (cB ab)), .val (.int (cA de)), .val (.int (cB de)), .val (.int (lenF k0)), .val (.int (idxF k0)), .val (.int (choF k0)), .val (.int (cA de)), .unset, .unset]) rfl ?_
  refine XS.goto X0.here hx rfl (pc0 := 94) (pc' := 117) rfl (hb hby at_94) (by decide) (by decide) ?_
  exact kt
set_option maxRecDepth 65536 in
set_option maxHeartbeats 40000000 in
theorem ch3 {p : Program} {l : Launch} {e : Env} {R : Room} {s : State} {m : MethodId} {args : Array Value} {below : List Frame} {meth : Method} {c : Code} {T0 : State} {locs : List Loc} {cells slots : Nat} {Z : State} {a0 : Array Value} (ab de fr k0 : Int32) (X0 : Stand p l e R s m args below meth c T0 locs cells slots) (hx : p.tables.exec = Jvm.exec) (hZ : Z.Warmed39 s.vm) (hw : ∀ d ∈ tables_1, d.before a0 Z = true) (hby : c.code = code) (hown : s.vm.findClass "org/keyreturn/sql/WordsIsAtPinLaw" = some m.cls) (hc61 : ¬ ((choF k0) = (0 : Int32))) (hc74 : ¬ ((choF k0) = (1 : Int32))) (hc87 : ¬ ((choF k0) = (2 : Int32))) (hc100 : (choF k0) = (3 : Int32)) {target : State} (kt : Steps p.tables e below (T0.setTop (mkF m 117 #[.val (.int ab), .val (.int de), .val (.int fr), .val (.int k0), .val (.int (cA ab)), .val (.int (cB ab)), .val (.int (cA de)), .val (.int (cB de)), .val (.int (lenF k0)), .val (.int (idxF k0)), .val (.int (choF k0)), .val (.int (cB de)), .unset, .unset] [])) target) : Steps p.tables e below (T0.setTop (mkF m 0 #[.val (.int ab), .val (.int de), .val (.int fr), .val (.int k0), .unset, .unset, .unset, .unset, .unset, .unset, .unset, .unset, .unset, .unset] [])) target := by
  show Steps p.tables e below (T0.setTop (mkF m 0 #[.val (.int ab), .val (.int de), .val (.int fr), .val (.int k0), .unset, .unset, .unset, .unset, .unset, .unset, .unset, .unset, .unset, .unset] [])) _
  refine XS.iloadN X0.here hx rfl (hb hby at_0) rfl ?_
  refine X0.ldcInt hx hown (mvT hZ (hw _ (List.mem_of_getElem? (i := 0) rfl))) (g := (mkF m 1 #[.val (.int ab), .val (.int de), .val (.int fr), .val (.int k0), .unset, .unset, .unset, .unset, .unset, .unset, .unset, .unset, .unset, .unset] [(.int ab)])) rfl (hb hby at_1) _ ?_
  refine XS.iand X0.here hx rfl (hb hby at_3) rfl ?_
  refine XS.i2c X0.here hx rfl (hb hby at_4) rfl ?_
  show Steps p.tables e below (T0.setTop (mkF m 5 #[.val (.int ab), .val (.int de), .val (.int fr), .val (.int k0), .unset, .unset, .unset, .unset, .unset, .unset, .unset, .unset, .unset, .unset] [(.int (cA ab))])) _
  refine XS.istore X0.here hx rfl (hb hby at_5) rfl (l' := #[.val (.int ab), .val (.int de), .val (.int fr), .val (.int k0), .val (.int (cA ab)), .unset, .unset, .unset, .unset, .unset, .unset, .unset, .unset, .unset]) rfl ?_
  refine XS.iloadN X0.here hx rfl (hb hby at_7) rfl ?_
  refine XS.bipush X0.here hx rfl (hb hby at_8) ?_
  refine XS.iushr X0.here hx rfl (hb hby at_10) rfl ?_
  refine X0.ldcInt hx hown (mvT hZ (hw _ (List.mem_of_getElem? (i := 0) rfl))) (g := (mkF m 11 #[.val (.int ab), .val (.int de), .val (.int fr), .val (.int k0), .val (.int (cA ab)), .unset, .unset, .unset, .unset, .unset, .unset, .unset, .unset, .unset] [(.int ((ab.toUInt32 >>> ((16 : Int32) &&& 31).toUInt32).toInt32))])) rfl (hb hby at_11) _ ?_
  refine XS.iand X0.here hx rfl (hb hby at_13) rfl ?_
  show Steps p.tables e below (T0.setTop (mkF m 14 #[.val (.int ab), .val (.int de), .val (.int fr), .val (.int k0), .val (.int (cA ab)), .unset, .unset, .unset, .unset, .unset, .unset, .unset, .unset, .unset] [(.int (((ab.toUInt32 >>> ((16 : Int32) &&& 31).toUInt32).toInt32) &&& (65535 : Int32)))])) _
  refine XS.i2c X0.here hx rfl (hb hby at_14) rfl ?_
  show Steps p.tables e below (T0.setTop (mkF m 15 #[.val (.int ab), .val (.int de), .val (.int fr), .val (.int k0), .val (.int (cA ab)), .unset, .unset, .unset, .unset, .unset, .unset, .unset, .unset, .unset] [(.int (cB ab))])) _
  refine XS.istore X0.here hx rfl (hb hby at_15) rfl (l' := #[.val (.int ab), .val (.int de), .val (.int fr), .val (.int k0), .val (.int (cA ab)), .val (.int (cB ab)), .unset, .unset, .unset, .unset, .unset, .unset, .unset, .unset]) rfl ?_
  refine XS.iloadN X0.here hx rfl (hb hby at_17) rfl ?_
  refine X0.ldcInt hx hown (mvT hZ (hw _ (List.mem_of_getElem? (i := 0) rfl))) (g := (mkF m 18 #[.val (.int ab), .val (.int de), .val (.int fr), .val (.int k0), .val (.int (cA ab)), .val (.int (cB ab)), .unset, .unset, .unset, .unset, .unset, .unset, .unset, .unset] [(.int de)])) rfl (hb hby at_18) _ ?_
  refine XS.iand X0.here hx rfl (hb hby at_20) rfl ?_
  refine XS.i2c X0.here hx rfl (hb hby at_21) rfl ?_
  show Steps p.tables e below (T0.setTop (mkF m 22 #[.val (.int ab), .val (.int de), .val (.int fr), .val (.int k0), .val (.int (cA ab)), .val (.int (cB ab)), .unset, .unset, .unset, .unset, .unset, .unset, .unset, .unset] [(.int (cA de))])) _
  refine XS.istore X0.here hx rfl (hb hby at_22) rfl (l' := #[.val (.int ab), .val (.int de), .val (.int fr), .val (.int k0), .val (.int (cA ab)), .val (.int (cB ab)), .val (.int (cA de)), .unset, .unset, .unset, .unset, .unset, .unset, .unset]) rfl ?_
  refine XS.iloadN X0.here hx rfl (hb hby at_24) rfl ?_
  refine XS.bipush X0.here hx rfl (hb hby at_25) ?_
  refine XS.iushr X0.here hx rfl (hb hby at_27) rfl ?_
  refine X0.ldcInt hx hown (mvT hZ (hw _ (List.mem_of_getElem? (i := 0) rfl))) (g := (mkF m 28 #[.val (.int ab), .val (.int de), .val (.int fr), .val (.int k0), .val (.int (cA ab)), .val (.int (cB ab)), .val (.int (cA de)), .unset, .unset, .unset, .unset, .unset, .unset, .unset] [(.int ((de.toUInt32 >>> ((16 : Int32) &&& 31).toUInt32).toInt32))])) rfl (hb hby at_28) _ ?_
  refine XS.iand X0.here hx rfl (hb hby at_30) rfl ?_
  show Steps p.tables e below (T0.setTop (mkF m 31 #[.val (.int ab), .val (.int de), .val (.int fr), .val (.int k0), .val (.int (cA ab)), .val (.int (cB ab)), .val (.int (cA de)), .unset, .unset, .unset, .unset, .unset, .unset, .unset] [(.int (((de.toUInt32 >>> ((16 : Int32) &&& 31).toUInt32).toInt32) &&& (65535 : Int32)))])) _
  refine XS.i2c X0.here hx rfl (hb hby at_31) rfl ?_
  show Steps p.tables e below (T0.setTop (mkF m 32 #[.val (.int ab), .val (.int de), .val (.int fr), .val (.int k0), .val (.int (cA ab)), .val (.int (cB ab)), .val (.int (cA de)), .unset, .unset, .unset, .unset, .unset, .unset, .unset] [(.int (cB de))])) _
  refine XS.istore X0.here hx rfl (hb hby at_32) rfl (l' := #[.val (.int ab), .val (.int de), .val (.int fr), .val (.int k0), .val (.int (cA ab)), .val (.int (cB ab)), .val (.int (cA de)), .val (.int (cB de)), .unset, .unset, .unset, .unset, .unset, .unset]) rfl ?_
  refine XS.iloadN X0.here hx rfl (hb hby at_34) rfl ?_
  refine XS.bipush X0.here hx rfl (hb hby at_35) ?_
  refine XS.iand X0.here hx rfl (hb hby at_37) rfl ?_
  refine XS.iconst X0.here hx rfl (hb hby at_38) ?_
  refine gwIrem X0.here hx rfl (hb hby at_39) rfl (by decide) ?_
  show Steps p.tables e below (T0.setTop (mkF m 40 #[.val (.int ab), .val (.int de), .val (.int fr), .val (.int k0), .val (.int (cA ab)), .val (.int (cB ab)), .val (.int (cA de)), .val (.int (cB de)), .unset, .unset, .unset, .unset, .unset, .unset] [(.int (lenF k0))])) _
  refine XS.istore X0.here hx rfl (hb hby at_40) rfl (l' := #[.val (.int ab), .val (.int de), .val (.int fr), .val (.int k0), .val (.int (cA ab)), .val (.int (cB ab)), .val (.int (cA de)), .val (.int (cB de)), .val (.int (lenF k0)), .unset, .unset, .unset, .unset, .unset]) rfl ?_
  refine XS.iloadN X0.here hx rfl (hb hby at_42) rfl ?_
  refine XS.iconst X0.here hx rfl (hb hby at_43) ?_
  refine XS.iushr X0.here hx rfl (hb hby at_44) rfl ?_
  refine XS.bipush X0.here hx rfl (hb hby at_45) ?_
  refine XS.iand X0.here hx rfl (hb hby at_47) rfl ?_
  show Steps p.tables e below (T0.setTop (mkF m 48 #[.val (.int ab), .val (.int de), .val (.int fr), .val (.int k0), .val (.int (cA ab)), .val (.int (cB ab)), .val (.int (cA de)), .val (.int (cB de)), .val (.int (lenF k0)), .unset, .unset, .unset, .unset, .unset] [(.int (idxF k0))])) _
  refine XS.istore X0.here hx rfl (hb hby at_48) rfl (l' := #[.val (.int ab), .val (.int de), .val (.int fr), .val (.int k0), .val (.int (cA ab)), .val (.int (cB ab)), .val (.int (cA de)), .val (.int (cB de)), .val (.int (lenF k0)), .val (.int (idxF k0)), .unset, .unset, .unset, .unset]) rfl ?_
  refine XS.iloadN X0.here hx rfl (hb hby at_50) rfl ?_
  refine XS.bipush X0.here hx rfl (hb hby at_51) ?_
  refine XS.iushr X0.here hx rfl (hb hby at_53) rfl ?_
  refine XS.bipush X0.here hx rfl (hb hby at_54) ?_
  refine XS.iand X0.here hx rfl (hb hby at_56) rfl ?_
  show Steps p.tables e below (T0.setTop (mkF m 57 #[.val (.int ab), .val (.int de), .val (.int fr), .val (.int k0), .val (.int (cA ab)), .val (.int (cB ab)), .val (.int (cA de)), .val (.int (cB de)), .val (.int (lenF k0)), .val (.int (idxF k0)), .unset, .unset, .unset, .unset] [(.int (choF k0))])) _
  refine XS.istore X0.here hx rfl (hb hby at_57) rfl (l' := #[.val (.int ab), .val (.int de), .val (.int fr), .val (.int k0), .val (.int (cA ab)), .val (.int (cB ab)), .val (.int (cA de)), .val (.int (cB de)), .val (.int (lenF k0)), .val (.int (idxF k0)), .val (.int (choF k0)), .unset, .unset, .unset]) rfl ?_
  refine XS.iload X0.here hx rfl (hb hby at_59) rfl ?_
  refine XS.ifYes X0.here hx rfl (pc0 := 61) (pc' := 71) rfl (hb hby at_61) rfl ((if0 _ _).trans (feq hc61).2) (by decide) (by decide) ?_
  refine XS.iload X0.here hx rfl (hb hby at_71) rfl ?_
  refine XS.iconst X0.here hx rfl (hb hby at_73) ?_
  refine XS.icmpYes X0.here hx rfl (pc0 := 74) (pc' := 84) rfl (hb hby at_74) rfl (feq hc74).2 (by decide) (by decide) ?_
  show Steps p.tables e below (T0.setTop (mkF m 84 #[.val (.int ab), .val (.int de), .val (.int fr), .val (.int k0), .val (.int (cA ab)), .val (.int (cB ab)), .val (.int (cA de)), .val (.int (cB de)), .val (.int (lenF k0)), .val (.int (idxF k0)), .val (.int (choF k0)), .unset, .unset, .unset] [])) _
  refine XS.iload X0.here hx rfl (hb hby at_84) rfl ?_
  refine XS.iconst X0.here hx rfl (hb hby at_86) ?_
  refine XS.icmpYes X0.here hx rfl (pc0 := 87) (pc' := 97) rfl (hb hby at_87) rfl (feq hc87).2 (by decide) (by decide) ?_
  refine XS.iload X0.here hx rfl (hb hby at_97) rfl ?_
  refine XS.iconst X0.here hx rfl (hb hby at_99) ?_
  refine XS.icmpNo X0.here hx rfl (hb hby at_100) rfl (teq hc100).2 ?_
  show Steps p.tables e below (T0.setTop (mkF m 103 #[.val (.int ab), .val (.int de), .val (.int fr), .val (.int k0), .val (.int (cA ab)), .val (.int (cB ab)), .val (.int (cA de)), .val (.int (cB de)), .val (.int (lenF k0)), .val (.int (idxF k0)), .val (.int (choF k0)), .unset, .unset, .unset] [])) _
  refine XS.iload X0.here hx rfl (hb hby at_103) rfl ?_
  refine XS.istore X0.here hx rfl (hb hby at_105) rfl (l' := #[.val (.int ab), .val (.int de), .val (.int fr), .val (.int k0), .val (.int (cA ab)), .val (.int (cB ab)), .val (.int (cA de)), .val (.int (cB de)), .val (.int (lenF k0)), .val (.int (idxF k0)), .val (.int (choF k0)), .val (.int (cB de)), .unset, .unset]) rfl ?_
  refine XS.goto X0.here hx rfl (pc0 := 107) (pc' := 117) rfl (hb hby at_107) (by decide) (by decide) ?_
  exact kt
set_option maxRecDepth 65536 in
set_option maxHeartbeats 40000000 in
theorem ch4 {p : Program} {l : Launch} {e : Env} {R : Room} {s : State} {m : MethodId} {args : Array Value} {below : List Frame} {meth : Method} {c : Code} {T0 : State} {locs : List Loc} {cells slots : Nat} {Z : State} {a0 : Array Value} (ab de fr k0 : Int32) (X0 : Stand p l e R s m args below meth c T0 locs cells slots) (hx : p.tables.exec = Jvm.exec) (hZ : Z.Warmed39 s.vm) (hw : ∀ d ∈ tables_1, d.before a0 Z = true) (hby : c.code = code) (hown : s.vm.findClass "org/keyreturn/sql/WordsIsAtPinLaw" = some m.cls) (hc61 : ¬ ((choF k0) = (0 : Int32))) (hc74 : ¬ ((choF k0) = (1 : Int32))) (hc87 : ¬ ((choF k0) = (2 : Int32))) (hc100 : ¬ ((choF k0) = (3 : Int32))) {target : State} (kt : Steps p.tables e below (T0.setTop (mkF m 117 #[.val (.int ab), .val (.int de), .val (.int fr), .val (.int k0), .val (.int (cA ab)), .val (.int (cB ab)), .val (.int (cA de)), .val (.int (cB de)), .val (.int (lenF k0)), .val (.int (idxF k0)), .val (.int (choF k0)), .val (.int (cA fr)), .unset, .unset] [])) target) : Steps p.tables e below (T0.setTop (mkF m 0 #[.val (.int ab), .val (.int de), .val (.int fr), .val (.int k0), .unset, .unset, .unset, .unset, .unset, .unset, .unset, .unset, .unset, .unset] [])) target := by
  show Steps p.tables e below (T0.setTop (mkF m 0 #[.val (.int ab), .val (.int de), .val (.int fr), .val (.int k0), .unset, .unset, .unset, .unset, .unset, .unset, .unset, .unset, .unset, .unset] [])) _
  refine XS.iloadN X0.here hx rfl (hb hby at_0) rfl ?_
  refine X0.ldcInt hx hown (mvT hZ (hw _ (List.mem_of_getElem? (i := 0) rfl))) (g := (mkF m 1 #[.val (.int ab), .val (.int de), .val (.int fr), .val (.int k0), .unset, .unset, .unset, .unset, .unset, .unset, .unset, .unset, .unset, .unset] [(.int ab)])) rfl (hb hby at_1) _ ?_
  refine XS.iand X0.here hx rfl (hb hby at_3) rfl ?_
  refine XS.i2c X0.here hx rfl (hb hby at_4) rfl ?_
  show Steps p.tables e below (T0.setTop (mkF m 5 #[.val (.int ab), .val (.int de), .val (.int fr), .val (.int k0), .unset, .unset, .unset, .unset, .unset, .unset, .unset, .unset, .unset, .unset] [(.int (cA ab))])) _
  refine XS.istore X0.here hx rfl (hb hby at_5) rfl (l' := #[.val (.int ab), .val (.int de), .val (.int fr), .val (.int k0), .val (.int (cA ab)), .unset, .unset, .unset, .unset, .unset, .unset, .unset, .unset, .unset]) rfl ?_
  refine XS.iloadN X0.here hx rfl (hb hby at_7) rfl ?_
  refine XS.bipush X0.here hx rfl (hb hby at_8) ?_
  refine XS.iushr X0.here hx rfl (hb hby at_10) rfl ?_
  refine X0.ldcInt hx hown (mvT hZ (hw _ (List.mem_of_getElem? (i := 0) rfl))) (g := (mkF m 11 #[.val (.int ab), .val (.int de), .val (.int fr), .val (.int k0), .val (.int (cA ab)), .unset, .unset, .unset, .unset, .unset, .unset, .unset, .unset, .unset] [(.int ((ab.toUInt32 >>> ((16 : Int32) &&& 31).toUInt32).toInt32))])) rfl (hb hby at_11) _ ?_
  refine XS.iand X0.here hx rfl (hb hby at_13) rfl ?_
  show Steps p.tables e below (T0.setTop (mkF m 14 #[.val (.int ab), .val (.int de), .val (.int fr), .val (.int k0), .val (.int (cA ab)), .unset, .unset, .unset, .unset, .unset, .unset, .unset, .unset, .unset] [(.int (((ab.toUInt32 >>> ((16 : Int32) &&& 31).toUInt32).toInt32) &&& (65535 : Int32)))])) _
  refine XS.i2c X0.here hx rfl (hb hby at_14) rfl ?_
  show Steps p.tables e below (T0.setTop (mkF m 15 #[.val (.int ab), .val (.int de), .val (.int fr), .val (.int k0), .val (.int (cA ab)), .unset, .unset, .unset, .unset, .unset, .unset, .unset, .unset, .unset] [(.int (cB ab))])) _
  refine XS.istore X0.here hx rfl (hb hby at_15) rfl (l' := #[.val (.int ab), .val (.int de), .val (.int fr), .val (.int k0), .val (.int (cA ab)), .val (.int (cB ab)), .unset, .unset, .unset, .unset, .unset, .unset, .unset, .unset]) rfl ?_
  refine XS.iloadN X0.here hx rfl (hb hby at_17) rfl ?_
  refine X0.ldcInt hx hown (mvT hZ (hw _ (List.mem_of_getElem? (i := 0) rfl))) (g := (mkF m 18 #[.val (.int ab), .val (.int de), .val (.int fr), .val (.int k0), .val (.int (cA ab)), .val (.int (cB ab)), .unset, .unset, .unset, .unset, .unset, .unset, .unset, .unset] [(.int de)])) rfl (hb hby at_18) _ ?_
  refine XS.iand X0.here hx rfl (hb hby at_20) rfl ?_
  refine XS.i2c X0.here hx rfl (hb hby at_21) rfl ?_
  show Steps p.tables e below (T0.setTop (mkF m 22 #[.val (.int ab), .val (.int de), .val (.int fr), .val (.int k0), .val (.int (cA ab)), .val (.int (cB ab)), .unset, .unset, .unset, .unset, .unset, .unset, .unset, .unset] [(.int (cA de))])) _
  refine XS.istore X0.here hx rfl (hb hby at_22) rfl (l' := #[.val (.int ab), .val (.int de), .val (.int fr), .val (.int k0), .val (.int (cA ab)), .val (.int (cB ab)), .val (.int (cA de)), .unset, .unset, .unset, .unset, .unset, .unset, .unset]) rfl ?_
  refine XS.iloadN X0.here hx rfl (hb hby at_24) rfl ?_
  refine XS.bipush X0.here hx rfl (hb hby at_25) ?_
  refine XS.iushr X0.here hx rfl (hb hby at_27) rfl ?_
  refine X0.ldcInt hx hown (mvT hZ (hw _ (List.mem_of_getElem? (i := 0) rfl))) (g := (mkF m 28 #[.val (.int ab), .val (.int de), .val (.int fr), .val (.int k0), .val (.int (cA ab)), .val (.int (cB ab)), .val (.int (cA de)), .unset, .unset, .unset, .unset, .unset, .unset, .unset] [(.int ((de.toUInt32 >>> ((16 : Int32) &&& 31).toUInt32).toInt32))])) rfl (hb hby at_28) _ ?_
  refine XS.iand X0.here hx rfl (hb hby at_30) rfl ?_
  show Steps p.tables e below (T0.setTop (mkF m 31 #[.val (.int ab), .val (.int de), .val (.int fr), .val (.int k0), .val (.int (cA ab)), .val (.int (cB ab)), .val (.int (cA de)), .unset, .unset, .unset, .unset, .unset, .unset, .unset] [(.int (((de.toUInt32 >>> ((16 : Int32) &&& 31).toUInt32).toInt32) &&& (65535 : Int32)))])) _
  refine XS.i2c X0.here hx rfl (hb hby at_31) rfl ?_
  show Steps p.tables e below (T0.setTop (mkF m 32 #[.val (.int ab), .val (.int de), .val (.int fr), .val (.int k0), .val (.int (cA ab)), .val (.int (cB ab)), .val (.int (cA de)), .unset, .unset, .unset, .unset, .unset, .unset, .unset] [(.int (cB de))])) _
  refine XS.istore X0.here hx rfl (hb hby at_32) rfl (l' := #[.val (.int ab), .val (.int de), .val (.int fr), .val (.int k0), .val (.int (cA ab)), .val (.int (cB ab)), .val (.int (cA de)), .val (.int (cB de)), .unset, .unset, .unset, .unset, .unset, .unset]) rfl ?_
  refine XS.iloadN X0.here hx rfl (hb hby at_34) rfl ?_
  refine XS.bipush X0.here hx rfl (hb hby at_35) ?_
  refine XS.iand X0.here hx rfl (hb hby at_37) rfl ?_
  refine XS.iconst X0.here hx rfl (hb hby at_38) ?_
  refine gwIrem X0.here hx rfl (hb hby at_39) rfl (by decide) ?_
  show Steps p.tables e below (T0.setTop (mkF m 40 #[.val (.int ab), .val (.int de), .val (.int fr), .val (.int k0), .val (.int (cA ab)), .val (.int (cB ab)), .val (.int (cA de)), .val (.int (cB de)), .unset, .unset, .unset, .unset, .unset, .unset] [(.int (lenF k0))])) _
  refine XS.istore X0.here hx rfl (hb hby at_40) rfl (l' := #[.val (.int ab), .val (.int de), .val (.int fr), .val (.int k0), .val (.int (cA ab)), .val (.int (cB ab)), .val (.int (cA de)), .val (.int (cB de)), .val (.int (lenF k0)), .unset, .unset, .unset, .unset, .unset]) rfl ?_
  refine XS.iloadN X0.here hx rfl (hb hby at_42) rfl ?_
  refine XS.iconst X0.here hx rfl (hb hby at_43) ?_
  refine XS.iushr X0.here hx rfl (hb hby at_44) rfl ?_
  refine XS.bipush X0.here hx rfl (hb hby at_45) ?_
  refine XS.iand X0.here hx rfl (hb hby at_47) rfl ?_
  show Steps p.tables e below (T0.setTop (mkF m 48 #[.val (.int ab), .val (.int de), .val (.int fr), .val (.int k0), .val (.int (cA ab)), .val (.int (cB ab)), .val (.int (cA de)), .val (.int (cB de)), .val (.int (lenF k0)), .unset, .unset, .unset, .unset, .unset] [(.int (idxF k0))])) _
  refine XS.istore X0.here hx rfl (hb hby at_48) rfl (l' := #[.val (.int ab), .val (.int de), .val (.int fr), .val (.int k0), .val (.int (cA ab)), .val (.int (cB ab)), .val (.int (cA de)), .val (.int (cB de)), .val (.int (lenF k0)), .val (.int (idxF k0)), .unset, .unset, .unset, .unset]) rfl ?_
  refine XS.iloadN X0.here hx rfl (hb hby at_50) rfl ?_
  refine XS.bipush X0.here hx rfl (hb hby at_51) ?_
  refine XS.iushr X0.here hx rfl (hb hby at_53) rfl ?_
  refine XS.bipush X0.here hx rfl (hb hby at_54) ?_
  refine XS.iand X0.here hx rfl (hb hby at_56) rfl ?_
  show Steps p.tables e below (T0.setTop (mkF m 57 #[.val (.int ab), .val (.int de), .val (.int fr), .val (.int k0), .val (.int (cA ab)), .val (.int (cB ab)), .val (.int (cA de)), .val (.int (cB de)), .val (.int (lenF k0)), .val (.int (idxF k0)), .unset, .unset, .unset, .unset] [(.int (choF k0))])) _
  refine XS.istore X0.here hx rfl (hb hby at_57) rfl (l' := #[.val (.int ab), .val (.int de), .val (.int fr), .val (.int k0), .val (.int (cA ab)), .val (.int (cB ab)), .val (.int (cA de)), .val (.int (cB de)), .val (.int (lenF k0)), .val (.int (idxF k0)), .val (.int (choF k0)), .unset, .unset, .unset]) rfl ?_
  refine XS.iload X0.here hx rfl (hb hby at_59) rfl ?_
  refine XS.ifYes X0.here hx rfl (pc0 := 61) (pc' := 71) rfl (hb hby at_61) rfl ((if0 _ _).trans (feq hc61).2) (by decide) (by decide) ?_
  refine XS.iload X0.here hx rfl (hb hby at_71) rfl ?_
  refine XS.iconst X0.here hx rfl (hb hby at_73) ?_
  refine XS.icmpYes X0.here hx rfl (pc0 := 74) (pc' := 84) rfl (hb hby at_74) rfl (feq hc74).2 (by decide) (by decide) ?_
  show Steps p.tables e below (T0.setTop (mkF m 84 #[.val (.int ab), .val (.int de), .val (.int fr), .val (.int k0), .val (.int (cA ab)), .val (.int (cB ab)), .val (.int (cA de)), .val (.int (cB de)), .val (.int (lenF k0)), .val (.int (idxF k0)), .val (.int (choF k0)), .unset, .unset, .unset] [])) _
  refine XS.iload X0.here hx rfl (hb hby at_84) rfl ?_
  refine XS.iconst X0.here hx rfl (hb hby at_86) ?_
  refine XS.icmpYes X0.here hx rfl (pc0 := 87) (pc' := 97) rfl (hb hby at_87) rfl (feq hc87).2 (by decide) (by decide) ?_
  refine XS.iload X0.here hx rfl (hb hby at_97) rfl ?_
  refine XS.iconst X0.here hx rfl (hb hby at_99) ?_
  refine XS.icmpYes X0.here hx rfl (pc0 := 100) (pc' := 110) rfl (hb hby at_100) rfl (feq hc100).2 (by decide) (by decide) ?_
  show Steps p.tables e below (T0.setTop (mkF m 110 #[.val (.int ab), .val (.int de), .val (.int fr), .val (.int k0), .val (.int (cA ab)), .val (.int (cB ab)), .val (.int (cA de)), .val (.int (cB de)), .val (.int (lenF k0)), .val (.int (idxF k0)), .val (.int (choF k0)), .unset, .unset, .unset] [])) _
  refine XS.iloadN X0.here hx rfl (hb hby at_110) rfl ?_
  refine X0.ldcInt hx hown (mvT hZ (hw _ (List.mem_of_getElem? (i := 0) rfl))) (g := (mkF m 111 #[.val (.int ab), .val (.int de), .val (.int fr), .val (.int k0), .val (.int (cA ab)), .val (.int (cB ab)), .val (.int (cA de)), .val (.int (cB de)), .val (.int (lenF k0)), .val (.int (idxF k0)), .val (.int (choF k0)), .unset, .unset, .unset] [(.int fr)])) rfl (hb hby at_111) _ ?_
  refine XS.iand X0.here hx rfl (hb hby at_113) rfl ?_
  refine XS.i2c X0.here hx rfl (hb hby at_114) rfl ?_
  show Steps p.tables e below (T0.setTop (mkF m 115 #[.val (.int ab), .val (.int de), .val (.int fr), .val (.int k0), .val (.int (cA ab)), .val (.int (cB ab)), .val (.int (cA de)), .val (.int (cB de)), .val (.int (lenF k0)), .val (.int (idxF k0)), .val (.int (choF k0)), .unset, .unset, .unset] [(.int (cA fr))])) _
  refine XS.istore X0.here hx rfl (hb hby at_115) rfl (l' := #[.val (.int ab), .val (.int de), .val (.int fr), .val (.int k0), .val (.int (cA ab)), .val (.int (cB ab)), .val (.int (cA de)), .val (.int (cB de)), .val (.int (lenF k0)), .val (.int (idxF k0)), .val (.int (choF k0)), .val (.int (cA fr)), .unset, .unset]) rfl ?_
  exact kt
set_option maxRecDepth 65536 in
set_option maxHeartbeats 40000000 in
theorem to117 {p : Program} {l : Launch} {e : Env} {R : Room} {s : State} {m : MethodId} {args : Array Value} {below : List Frame} {meth : Method} {c : Code} {T0 : State} {locs : List Loc} {cells slots : Nat} {Z : State} {a0 : Array Value} (ab de fr k0 : Int32) (X0 : Stand p l e R s m args below meth c T0 locs cells slots) (hx : p.tables.exec = Jvm.exec) (hZ : Z.Warmed39 s.vm) (hw : ∀ d ∈ tables_1, d.before a0 Z = true) (hby : c.code = code) (hown : s.vm.findClass "org/keyreturn/sql/WordsIsAtPinLaw" = some m.cls) {target : State} (kt : Steps p.tables e below (T0.setTop (mkF m 117 #[.val (.int ab), .val (.int de), .val (.int fr), .val (.int k0), .val (.int (cA ab)), .val (.int (cB ab)), .val (.int (cA de)), .val (.int (cB de)), .val (.int (lenF k0)), .val (.int (idxF k0)), .val (.int (choF k0)), .val (.int (cF (choF k0) (cA ab) (cB ab) (cA de) (cB de) (cA fr))), .unset, .unset] [])) target) : Steps p.tables e below (T0.setTop (mkF m 0 #[.val (.int ab), .val (.int de), .val (.int fr), .val (.int k0), .unset, .unset, .unset, .unset, .unset, .unset, .unset, .unset, .unset, .unset] [])) target := by
  unfold cF at kt
  by_cases g0 : choF k0 = 0
  · rw [if_pos g0] at kt; exact ch0 ab de fr k0 X0 hx hZ hw hby hown g0 kt
  by_cases g1 : choF k0 = 1
  · rw [if_neg g0, if_pos g1] at kt; exact ch1 ab de fr k0 X0 hx hZ hw hby hown g0 g1 kt
  by_cases g2 : choF k0 = 2
  · rw [if_neg g0, if_neg g1, if_pos g2] at kt; exact ch2 ab de fr k0 X0 hx hZ hw hby hown g0 g1 g2 kt
  by_cases g3 : choF k0 = 3
  · rw [if_neg g0, if_neg g1, if_neg g2, if_pos g3] at kt; exact ch3 ab de fr k0 X0 hx hZ hw hby hown g0 g1 g2 g3 kt
  rw [if_neg g0, if_neg g1, if_neg g2, if_neg g3] at kt; exact ch4 ab de fr k0 X0 hx hZ hw hby hown g0 g1 g2 g3 kt
set_option maxRecDepth 65536 in
set_option maxHeartbeats 40000000 in
theorem rm0_E (l : Launch) (Z : State) (a0 : Array Value) (hw : ∀ d ∈ tables_1, d.before a0 Z = true) (ws : List Jvm.Cond) (ab : Int32) (de : Int32) (fr : Int32) (k0 : Int32) (i : Nat) (h0 : Heap) (n0 : Nat) (Z0 : n0 ≤ h0.size) (hlen : lenF k0 = (Int32.ofNat 0)) (hidx : idxF k0 = (Int32.ofNat i)) (O : Old Z n0 h0) (SK : StrSta Z) (hEL : EW Z a0 [("java/lang/String", 7)]) (hi : ¬ (i < 0)) (hi8 : i < 8)  :
    MetFree l x (head1 (Jvm.Cond.code x code maxLocals ret :: ws) room_1) (fun aa_ U_ => aa_ = #[(.int ab), (.int de), (.int fr), (.int k0)] ∧ Z.Warmed39 U_.vm ∧ U_.heap = h0 ∧ CHv Z [("java/lang/String", 7)] U_.vm h0) (fun _ _ _ _ _ => True) (fun _ U_ o_ V_ => ∃ v_ L_, o_ = .returned v_ ∧ Q0  h0 n0 v_ V_.heap L_ ∧ ReturnedEndW U_ o_ V_ L_ room_1.cells room_1.slots) := by
  refine MetFree.of_bodySF (plainFor_of_name pn_0) hisR ?_
  intro p e s m args below meth c s₁ Bd hml0 hP hK
  obtain ⟨rfl, hZ, hh, CH0⟩ := hP
  have hx := Bd.exec
  have hby := Bd.bytes
  have hml : c.maxLocals = 14 := hml0
  have hown : s.vm.findClass "org/keyreturn/sql/WordsIsAtPinLaw" = some m.cls := findClass_of_methodNamed Bd.named
  have hnm := (name_of_methodNamed Bd.named Bd.method).1
  have X0 : Stand p l e room_1 s m #[(.int ab), (.int de), (.int fr), (.int k0)] below meth c s₁ [] 0 0 := Stand.of_body Bd
  have e0 : s₁.heap = h0 := by rw [← hh, Bd.state]; rfl
  have N0 := Fr.nil n0
  have pre0 : ∀ zz, Steps p.tables e below (s₁.setTop (mkF m 0 #[.val (.int ab), .val (.int de), .val (.int fr), .val (.int k0), .unset, .unset, .unset, .unset, .unset, .unset, .unset, .unset, .unset, .unset] [])) zz → Steps p.tables e below (s₁.setTop (entryFrame m #[(.int ab), (.int de), (.int fr), (.int k0)] maxLocals)) zz := fun zz k => castTop (ef_0 m ab de fr k0) k
  obtain ⟨_, _, ⟨T101, L101, k101, n101⟩, -, X101, hS2101, hg101, ⟨Lc101, hQ101, l101, y101, z101, C101⟩, st101⟩ := callSS X0 hx (y := (⟨"org/keyreturn/sql/WordsIsAtPinLaw", "text", "(ICCCC)Ljava/lang/String;"⟩ : MethodName)) hown (mvT hZ (hw _ (List.mem_of_getElem? (i := 1) rfl))) (mvT hZ (hw _ (List.mem_of_getElem? (i := 2) rfl))) (mvT hZ (hw _ (List.mem_of_getElem? (i := 3) rfl))) (mvT hZ (hw _ (List.mem_of_getElem? (i := 4) rfl))) (by decide) (backOfSH (s := s) (vm0 := s.vm) (EL := [("java/lang/String", 7)]) (W := 0) (rmT0 l Z a0 hw [] (cA ab) (cB ab) (cA de) (cB de) h0 n0 Z0 hEL) hZ (hw _ (List.mem_of_getElem? (i := 4) rfl)) (hw _ (List.mem_of_getElem? (i := 3) rfl)) (by decide) (by decide) hEL CH0) (g := (mkF m 127 #[.val (.int ab), .val (.int de), .val (.int fr), .val (.int k0), .val (.int (cA ab)), .val (.int (cB ab)), .val (.int (cA de)), .val (.int (cB de)), .val (.int (Int32.ofNat 0)), .val (.int (Int32.ofNat i)), .val (.int (choF k0)), .val (.int (cF (choF k0) (cA ab) (cB ab) (cA de) (cB de) (cA fr))), .unset, .unset] [(.int (cB de)), (.int (cA de)), (.int (cB ab)), (.int (cA ab)), (.int (Int32.ofNat 0))])) rfl (by rw [hml]; rfl) (argsL := [(.int (Int32.ofNat 0)), (.int (cA ab)), (.int (cB ab)), (.int (cA de)), (.int (cB de))]) (rest := []) (lenOf pd_0 rfl) rfl (by show 2 * 0 + _ ≤ _; exact Nat.le_of_eq rfl) (hb hby at_127) (fun _ _ => ⟨rfl, e0, (by decide : 0 + 6 ≤ _), (by decide : 0 + 20 ≤ _)⟩)
  dsimp only [Pt.U, Pt.locs, Pt.cells, Pt.slots] at X101 l101 y101 z101 st101 hQ101 hS2101 hg101
  subst l101 y101 z101
  obtain ⟨o101, rfl, N101q, K101, S101⟩ := hQ101
  have N101 := Fr.app N0 N101q
  dsimp only [Pt.U, Pt.locs, Pt.cells, Pt.slots] at C101
  have CR101 := (CHr.refl CH0).trans C101
  have hS101 := foldS ((State.WarmedH.refl s).since 0) (by rw [e0]; exact (Nat.zero_le _)) hS2101 hg101
  have hZ101 : Z.Warmed39 (s.setVm T101.vm).vm := State.Warmed39.trans hZ hS2101.1
  have hown101 : (s.setVm T101.vm).vm.findClass "org/keyreturn/sql/WordsIsAtPinLaw" = some m.cls := by rw [show (s.setVm T101.vm).vm = T101.vm from rfl, hS2101.1.alike.findClass]; exact hown
  have KK101 := (Keep.refl h0 []).trans K101 (fun x r => absurd r List.not_mem_nil)
  have Z101 : n0 ≤ T101.heap.size := Nat.le_trans Z0 K101.1
  have O101 := O.keep K101 all0'
  obtain ⟨_, _, ⟨T102, L102, k102, n102⟩, -, X102, ⟨Lc102, hQ102, l102, y102, z102⟩, st102⟩ := Jvm.LawKit.callS X101 hx (y := (⟨"org/keyreturn/sql/Words", "isAt", "(Ljava/lang/String;IC)Z"⟩ : MethodName)) hown101 (mvT hZ101 (hw _ (List.mem_of_getElem? (i := 35) rfl))) (mvT hZ101 (hw _ (List.mem_of_getElem? (i := 36) rfl))) (mvT hZ101 (hw _ (List.mem_of_getElem? (i := 37) rfl))) (mvT hZ101 (hw _ (List.mem_of_getElem? (i := 38) rfl))) (by decide) (backOf (W := 0) (rmIA0 l Z a0 hw [] o101 i 0 (cF (choF k0) (cA ab) (cB ab) (cA de) (cB de) (cA fr)) (gL (cA ab) (cB ab) (cA de) (cB de)) T101.heap n0 Z101 (by omega) hi hi8 O101 SK S101) hZ101 (hw _ (List.mem_of_getElem? (i := 38) rfl)) (hw _ (List.mem_of_getElem? (i := 37) rfl)) (by decide) (by decide)) (g := (mkF m 233 #[.val (.int ab), .val (.int de), .val (.int fr), .val (.int k0), .val (.int (cA ab)), .val (.int (cB ab)), .val (.int (cA de)), .val (.int (cB de)), .val (.int (Int32.ofNat 0)), .val (.int (Int32.ofNat i)), .val (.int (choF k0)), .val (.int (cF (choF k0) (cA ab) (cB ab) (cA de) (cB de) (cA fr))), .val (.ref o101), .val (.int (0 : Int32))] [(.int (cF (choF k0) (cA ab) (cB ab) (cA de) (cB de) (cA fr))), (.int (Int32.ofNat i)), (.ref o101)])) rfl (by rw [hml]; rfl) (argsL := [(.ref o101), (.int (Int32.ofNat i)), (.int (cF (choF k0) (cA ab) (cB ab) (cA de) (cB de) (cA fr)))]) (rest := []) (lenOf pd_7 rfl) rfl (by show 2 * 0 + _ ≤ _; exact Nat.le_of_eq rfl) (hb hby at_233) (fun _ _ => ⟨rfl, rfl, (by decide : 6 + 0 ≤ _), (by decide : 20 + 0 ≤ _)⟩)
  dsimp only [Pt.U, Pt.locs, Pt.cells, Pt.slots] at X102 l102 y102 z102 st102 hQ102
  subst l102 y102 z102
  obtain ⟨rfl, N102q, e102⟩ := hQ102
  have N102 := Fr.app N101 N102q
  obtain ⟨fs, hr, hrun, hended, -, hWW, hBB, hSS⟩ := Stand.leaveW (s := s) (vm₁ := T101.vm) X102 hS101 (by rw [e102]; exact (Nat.le_refl _)) (v := some (.int (1 : Int32))) (fun h => by rw [Bd.returns] at h; cases h)
  refine ⟨_, _, pre0 _ ?_, hrun, hended, _, _, rfl, ?_, ⟨_, rfl⟩, hWW, hBB, hSS.mono (by decide) (by decide)⟩
  · show Steps p.tables e below (s₁.setTop (mkF m 0 #[.val (.int ab), .val (.int de), .val (.int fr), .val (.int k0), .unset, .unset, .unset, .unset, .unset, .unset, .unset, .unset, .unset, .unset] [])) _
    refine to117 ab de fr k0 X0 hx hZ hw hby hown ?_
    rw [hlen, hidx]
    show Steps p.tables e below (s₁.setTop (mkF m 117 #[.val (.int ab), .val (.int de), .val (.int fr), .val (.int k0), .val (.int (cA ab)), .val (.int (cB ab)), .val (.int (cA de)), .val (.int (cB de)), .val (.int (Int32.ofNat 0)), .val (.int (Int32.ofNat i)), .val (.int (choF k0)), .val (.int (cF (choF k0) (cA ab) (cB ab) (cA de) (cB de) (cA fr))), .unset, .unset] [])) _
    refine XS.iload X0.here hx rfl (hb hby at_117) rfl ?_
    refine XS.iload X0.here hx rfl (hb hby at_119) rfl ?_
    refine XS.iload X0.here hx rfl (hb hby at_121) rfl ?_
    refine XS.iload X0.here hx rfl (hb hby at_123) rfl ?_
    refine XS.iload X0.here hx rfl (hb hby at_125) rfl ?_
    show Steps p.tables e below (s₁.setTop (mkF m 127 #[.val (.int ab), .val (.int de), .val (.int fr), .val (.int k0), .val (.int (cA ab)), .val (.int (cB ab)), .val (.int (cA de)), .val (.int (cB de)), .val (.int (Int32.ofNat 0)), .val (.int (Int32.ofNat i)), .val (.int (choF k0)), .val (.int (cF (choF k0) (cA ab) (cB ab) (cA de) (cB de) (cA fr))), .unset, .unset] [(.int (cB de)), (.int (cA de)), (.int (cB ab)), (.int (cA ab)), (.int (Int32.ofNat 0))])) _
    refine st101.trans ?_
    refine XS.astore X101.here hx rfl (hb hby at_130) rfl rfl (l' := #[.val (.int ab), .val (.int de), .val (.int fr), .val (.int k0), .val (.int (cA ab)), .val (.int (cB ab)), .val (.int (cA de)), .val (.int (cB de)), .val (.int (Int32.ofNat 0)), .val (.int (Int32.ofNat i)), .val (.int (choF k0)), .val (.int (cF (choF k0) (cA ab) (cB ab) (cA de) (cB de) (cA fr))), .val (.ref o101), .unset]) rfl ?_
    refine XS.iload X101.here hx rfl (hb hby at_132) rfl ?_
    refine XS.iload X101.here hx rfl (hb hby at_134) rfl ?_
    refine XS.icmpNo X101.here hx rfl (hb hby at_136) rfl (flt (fun q => hi ((ltN (by omega) (by omega)).mp q))).1 ?_
    refine XS.iconst X101.here hx rfl (hb hby at_139) ?_
    show Steps p.tables e below (T101.setTop (mkF m 140 #[.val (.int ab), .val (.int de), .val (.int fr), .val (.int k0), .val (.int (cA ab)), .val (.int (cB ab)), .val (.int (cA de)), .val (.int (cB de)), .val (.int (Int32.ofNat 0)), .val (.int (Int32.ofNat i)), .val (.int (choF k0)), .val (.int (cF (choF k0) (cA ab) (cB ab) (cA de) (cB de) (cA fr))), .val (.ref o101), .unset] [(.int (0 : Int32))])) _
    refine XS.istore X101.here hx rfl (hb hby at_140) rfl (l' := #[.val (.int ab), .val (.int de), .val (.int fr), .val (.int k0), .val (.int (cA ab)), .val (.int (cB ab)), .val (.int (cA de)), .val (.int (cB de)), .val (.int (Int32.ofNat 0)), .val (.int (Int32.ofNat i)), .val (.int (choF k0)), .val (.int (cF (choF k0) (cA ab) (cB ab) (cA de) (cB de) (cA fr))), .val (.ref o101), .val (.int (0 : Int32))]) rfl ?_
    refine XS.goto X101.here hx rfl (pc0 := 142) (pc' := 227) rfl (hb hby at_142) (by decide) (by decide) ?_
    refine XS.aload X101.here hx rfl (hb hby at_227) rfl rfl ?_
    refine XS.iload X101.here hx rfl (hb hby at_229) rfl ?_
    refine XS.iload X101.here hx rfl (hb hby at_231) rfl ?_
    show Steps p.tables e below (T101.setTop (mkF m 233 #[.val (.int ab), .val (.int de), .val (.int fr), .val (.int k0), .val (.int (cA ab)), .val (.int (cB ab)), .val (.int (cA de)), .val (.int (cB de)), .val (.int (Int32.ofNat 0)), .val (.int (Int32.ofNat i)), .val (.int (choF k0)), .val (.int (cF (choF k0) (cA ab) (cB ab) (cA de) (cB de) (cA fr))), .val (.ref o101), .val (.int (0 : Int32))] [(.int (cF (choF k0) (cA ab) (cB ab) (cA de) (cB de) (cA fr))), (.int (Int32.ofNat i)), (.ref o101)])) _
    refine st102 _ ?_
    refine XS.iload X102.here hx rfl (hb hby at_236) rfl ?_
    refine XS.icmpNo X102.here hx rfl (hb hby at_238) rfl (teq (rfl : (0 : Int32) = (0 : Int32))).2 ?_
    refine XS.iconst X102.here hx rfl (hb hby at_241) ?_
    refine XS.goto X102.here hx rfl (pc0 := 242) (pc' := 246) rfl (hb hby at_242) (by decide) (by decide) ?_
    show Steps p.tables e below (T102.setTop (mkF m 246 #[.val (.int ab), .val (.int de), .val (.int fr), .val (.int k0), .val (.int (cA ab)), .val (.int (cB ab)), .val (.int (cA de)), .val (.int (cB de)), .val (.int (Int32.ofNat 0)), .val (.int (Int32.ofNat i)), .val (.int (choF k0)), .val (.int (cF (choF k0) (cA ab) (cB ab) (cA de) (cB de) (cA fr))), .val (.ref o101), .val (.int (0 : Int32))] [(.int (1 : Int32))])) _
    exact retN X102 hx (t := .boolean) Bd.returns (by simp) (hb hby at_246) hr
  · show Q0  h0 n0 _ T102.heap _
    exact ⟨rfl, N102⟩
set_option maxRecDepth 65536 in
set_option maxHeartbeats 40000000 in
theorem rm0_G (l : Launch) (Z : State) (a0 : Array Value) (hw : ∀ d ∈ tables_1, d.before a0 Z = true) (ws : List Jvm.Cond) (ab : Int32) (de : Int32) (fr : Int32) (k0 : Int32) (i : Nat) (h0 : Heap) (n0 : Nat) (Z0 : n0 ≤ h0.size) (n : Nat) (hlen : lenF k0 = (Int32.ofNat n)) (hidx : idxF k0 = (Int32.ofNat i)) (hn : n ≤ 4) (hp : 0 < n) (O : Old Z n0 h0) (SK : StrSta Z) (hi : ¬ (i < n)) (hi8 : i < 8)  :
    MetFree l x (head1 (Jvm.Cond.code x code maxLocals ret :: ws) room_1) (fun aa_ U_ => aa_ = #[(.int ab), (.int de), (.int fr), (.int k0)] ∧ Z.Warmed39 U_.vm ∧ U_.heap = h0 ∧ CHv Z [("java/lang/String", 7)] U_.vm h0) (fun _ _ _ _ _ => True) (fun _ U_ o_ V_ => ∃ v_ L_, o_ = .returned v_ ∧ Q0  h0 n0 v_ V_.heap L_ ∧ ReturnedEndW U_ o_ V_ L_ room_1.cells room_1.slots) := by
  refine MetFree.of_bodySF (plainFor_of_name pn_0) hisR ?_
  intro p e s m args below meth c s₁ Bd hml0 hP hK
  obtain ⟨rfl, hZ, hh, CH0⟩ := hP
  have hx := Bd.exec
  have hby := Bd.bytes
  have hml : c.maxLocals = 14 := hml0
  have hown : s.vm.findClass "org/keyreturn/sql/WordsIsAtPinLaw" = some m.cls := findClass_of_methodNamed Bd.named
  have hnm := (name_of_methodNamed Bd.named Bd.method).1
  have X0 : Stand p l e room_1 s m #[(.int ab), (.int de), (.int fr), (.int k0)] below meth c s₁ [] 0 0 := Stand.of_body Bd
  have e0 : s₁.heap = h0 := by rw [← hh, Bd.state]; rfl
  have N0 := Fr.nil n0
  have pre0 : ∀ zz, Steps p.tables e below (s₁.setTop (mkF m 0 #[.val (.int ab), .val (.int de), .val (.int fr), .val (.int k0), .unset, .unset, .unset, .unset, .unset, .unset, .unset, .unset, .unset, .unset] [])) zz → Steps p.tables e below (s₁.setTop (entryFrame m #[(.int ab), (.int de), (.int fr), (.int k0)] maxLocals)) zz := fun zz k => castTop (ef_0 m ab de fr k0) k
  obtain ⟨_, _, ⟨T103, L103, k103, n103⟩, -, X103, ⟨Lc103, hQ103, l103, y103, z103⟩, st103⟩ := Jvm.LawKit.callS X0 hx (y := (⟨"org/keyreturn/sql/WordsIsAtPinLaw", "text", "(ICCCC)Ljava/lang/String;"⟩ : MethodName)) hown (mvT hZ (hw _ (List.mem_of_getElem? (i := 1) rfl))) (mvT hZ (hw _ (List.mem_of_getElem? (i := 2) rfl))) (mvT hZ (hw _ (List.mem_of_getElem? (i := 3) rfl))) (mvT hZ (hw _ (List.mem_of_getElem? (i := 4) rfl))) (by decide) (backOf (W := 0) (rmT l Z a0 hw [] n (cA ab) (cB ab) (cA de) (cB de) h0 n0 Z0 hn hp O SK (cA_ch _) (cB_ch _) (cA_ch _) (cB_ch _)) hZ (hw _ (List.mem_of_getElem? (i := 4) rfl)) (hw _ (List.mem_of_getElem? (i := 3) rfl)) (by decide) (by decide)) (g := (mkF m 127 #[.val (.int ab), .val (.int de), .val (.int fr), .val (.int k0), .val (.int (cA ab)), .val (.int (cB ab)), .val (.int (cA de)), .val (.int (cB de)), .val (.int (Int32.ofNat n)), .val (.int (Int32.ofNat i)), .val (.int (choF k0)), .val (.int (cF (choF k0) (cA ab) (cB ab) (cA de) (cB de) (cA fr))), .unset, .unset] [(.int (cB de)), (.int (cA de)), (.int (cB ab)), (.int (cA ab)), (.int (Int32.ofNat n))])) rfl (by rw [hml]; rfl) (argsL := [(.int (Int32.ofNat n)), (.int (cA ab)), (.int (cB ab)), (.int (cA de)), (.int (cB de))]) (rest := []) (lenOf pd_0 rfl) rfl (by show 2 * 0 + _ ≤ _; exact Nat.le_of_eq rfl) (hb hby at_127) (fun _ _ => ⟨rfl, e0, (by decide : 0 + 6 ≤ _), (by decide : 0 + 20 ≤ _)⟩)
  dsimp only [Pt.U, Pt.locs, Pt.cells, Pt.slots] at X103 l103 y103 z103 st103 hQ103
  subst l103 y103 z103
  obtain ⟨o103, rfl, N103q, K103, S103⟩ := hQ103
  have N103 := Fr.app N0 N103q
  have KK103 := (Keep.refl h0 []).trans K103 (fun x r => absurd r List.not_mem_nil)
  have Z103 : n0 ≤ T103.heap.size := Nat.le_trans Z0 K103.1
  have O103 := O.keep K103 all0'
  obtain ⟨_, _, ⟨T104, L104, k104, n104⟩, -, X104, ⟨Lc104, hQ104, l104, y104, z104⟩, st104⟩ := Jvm.LawKit.callS X103 hx (y := (⟨"org/keyreturn/sql/Words", "isAt", "(Ljava/lang/String;IC)Z"⟩ : MethodName)) hown (mvT hZ (hw _ (List.mem_of_getElem? (i := 35) rfl))) (mvT hZ (hw _ (List.mem_of_getElem? (i := 36) rfl))) (mvT hZ (hw _ (List.mem_of_getElem? (i := 37) rfl))) (mvT hZ (hw _ (List.mem_of_getElem? (i := 38) rfl))) (by decide) (backOf (W := 0) (rmIA0 l Z a0 hw [] o103 i n (cF (choF k0) (cA ab) (cB ab) (cA de) (cB de) (cA fr)) (gL (cA ab) (cB ab) (cA de) (cB de)) T103.heap n0 Z103 (by omega) hi hi8 O103 SK S103) hZ (hw _ (List.mem_of_getElem? (i := 38) rfl)) (hw _ (List.mem_of_getElem? (i := 37) rfl)) (by decide) (by decide)) (g := (mkF m 233 #[.val (.int ab), .val (.int de), .val (.int fr), .val (.int k0), .val (.int (cA ab)), .val (.int (cB ab)), .val (.int (cA de)), .val (.int (cB de)), .val (.int (Int32.ofNat n)), .val (.int (Int32.ofNat i)), .val (.int (choF k0)), .val (.int (cF (choF k0) (cA ab) (cB ab) (cA de) (cB de) (cA fr))), .val (.ref o103), .val (.int (0 : Int32))] [(.int (cF (choF k0) (cA ab) (cB ab) (cA de) (cB de) (cA fr))), (.int (Int32.ofNat i)), (.ref o103)])) rfl (by rw [hml]; rfl) (argsL := [(.ref o103), (.int (Int32.ofNat i)), (.int (cF (choF k0) (cA ab) (cB ab) (cA de) (cB de) (cA fr)))]) (rest := []) (lenOf pd_7 rfl) rfl (by show 2 * 0 + _ ≤ _; exact Nat.le_of_eq rfl) (hb hby at_233) (fun _ _ => ⟨rfl, rfl, (by decide : 6 + 0 ≤ _), (by decide : 20 + 0 ≤ _)⟩)
  dsimp only [Pt.U, Pt.locs, Pt.cells, Pt.slots] at X104 l104 y104 z104 st104 hQ104
  subst l104 y104 z104
  obtain ⟨rfl, N104q, e104⟩ := hQ104
  have N104 := Fr.app N103 N104q
  obtain ⟨fs, hr, hrun, hended, -, hWW, hBB, hSS⟩ := Stand.leaveW (s := s) (vm₁ := s.vm) X104 ((State.WarmedH.refl s).since 0) (by rw [e104]; exact (Nat.zero_le _)) (v := some (.int (1 : Int32))) (fun h => by rw [Bd.returns] at h; cases h)
  refine ⟨_, _, pre0 _ ?_, hrun, hended, _, _, rfl, ?_, ⟨_, rfl⟩, hWW, hBB, hSS.mono (by decide) (by decide)⟩
  · show Steps p.tables e below (s₁.setTop (mkF m 0 #[.val (.int ab), .val (.int de), .val (.int fr), .val (.int k0), .unset, .unset, .unset, .unset, .unset, .unset, .unset, .unset, .unset, .unset] [])) _
    refine to117 ab de fr k0 X0 hx hZ hw hby hown ?_
    rw [hlen, hidx]
    show Steps p.tables e below (s₁.setTop (mkF m 117 #[.val (.int ab), .val (.int de), .val (.int fr), .val (.int k0), .val (.int (cA ab)), .val (.int (cB ab)), .val (.int (cA de)), .val (.int (cB de)), .val (.int (Int32.ofNat n)), .val (.int (Int32.ofNat i)), .val (.int (choF k0)), .val (.int (cF (choF k0) (cA ab) (cB ab) (cA de) (cB de) (cA fr))), .unset, .unset] [])) _
    refine XS.iload X0.here hx rfl (hb hby at_117) rfl ?_
    refine XS.iload X0.here hx rfl (hb hby at_119) rfl ?_
    refine XS.iload X0.here hx rfl (hb hby at_121) rfl ?_
    refine XS.iload X0.here hx rfl (hb hby at_123) rfl ?_
    refine XS.iload X0.here hx rfl (hb hby at_125) rfl ?_
    show Steps p.tables e below (s₁.setTop (mkF m 127 #[.val (.int ab), .val (.int de), .val (.int fr), .val (.int k0), .val (.int (cA ab)), .val (.int (cB ab)), .val (.int (cA de)), .val (.int (cB de)), .val (.int (Int32.ofNat n)), .val (.int (Int32.ofNat i)), .val (.int (choF k0)), .val (.int (cF (choF k0) (cA ab) (cB ab) (cA de) (cB de) (cA fr))), .unset, .unset] [(.int (cB de)), (.int (cA de)), (.int (cB ab)), (.int (cA ab)), (.int (Int32.ofNat n))])) _
    refine st103 _ ?_
    refine XS.astore X103.here hx rfl (hb hby at_130) rfl rfl (l' := #[.val (.int ab), .val (.int de), .val (.int fr), .val (.int k0), .val (.int (cA ab)), .val (.int (cB ab)), .val (.int (cA de)), .val (.int (cB de)), .val (.int (Int32.ofNat n)), .val (.int (Int32.ofNat i)), .val (.int (choF k0)), .val (.int (cF (choF k0) (cA ab) (cB ab) (cA de) (cB de) (cA fr))), .val (.ref o103), .unset]) rfl ?_
    refine XS.iload X103.here hx rfl (hb hby at_132) rfl ?_
    refine XS.iload X103.here hx rfl (hb hby at_134) rfl ?_
    refine XS.icmpNo X103.here hx rfl (hb hby at_136) rfl (flt (fun q => hi ((ltN (by omega) (by omega)).mp q))).1 ?_
    refine XS.iconst X103.here hx rfl (hb hby at_139) ?_
    show Steps p.tables e below (T103.setTop (mkF m 140 #[.val (.int ab), .val (.int de), .val (.int fr), .val (.int k0), .val (.int (cA ab)), .val (.int (cB ab)), .val (.int (cA de)), .val (.int (cB de)), .val (.int (Int32.ofNat n)), .val (.int (Int32.ofNat i)), .val (.int (choF k0)), .val (.int (cF (choF k0) (cA ab) (cB ab) (cA de) (cB de) (cA fr))), .val (.ref o103), .unset] [(.int (0 : Int32))])) _
    refine XS.istore X103.here hx rfl (hb hby at_140) rfl (l' := #[.val (.int ab), .val (.int de), .val (.int fr), .val (.int k0), .val (.int (cA ab)), .val (.int (cB ab)), .val (.int (cA de)), .val (.int (cB de)), .val (.int (Int32.ofNat n)), .val (.int (Int32.ofNat i)), .val (.int (choF k0)), .val (.int (cF (choF k0) (cA ab) (cB ab) (cA de) (cB de) (cA fr))), .val (.ref o103), .val (.int (0 : Int32))]) rfl ?_
    refine XS.goto X103.here hx rfl (pc0 := 142) (pc' := 227) rfl (hb hby at_142) (by decide) (by decide) ?_
    refine XS.aload X103.here hx rfl (hb hby at_227) rfl rfl ?_
    refine XS.iload X103.here hx rfl (hb hby at_229) rfl ?_
    refine XS.iload X103.here hx rfl (hb hby at_231) rfl ?_
    show Steps p.tables e below (T103.setTop (mkF m 233 #[.val (.int ab), .val (.int de), .val (.int fr), .val (.int k0), .val (.int (cA ab)), .val (.int (cB ab)), .val (.int (cA de)), .val (.int (cB de)), .val (.int (Int32.ofNat n)), .val (.int (Int32.ofNat i)), .val (.int (choF k0)), .val (.int (cF (choF k0) (cA ab) (cB ab) (cA de) (cB de) (cA fr))), .val (.ref o103), .val (.int (0 : Int32))] [(.int (cF (choF k0) (cA ab) (cB ab) (cA de) (cB de) (cA fr))), (.int (Int32.ofNat i)), (.ref o103)])) _
    refine st104 _ ?_
    refine XS.iload X104.here hx rfl (hb hby at_236) rfl ?_
    refine XS.icmpNo X104.here hx rfl (hb hby at_238) rfl (teq (rfl : (0 : Int32) = (0 : Int32))).2 ?_
    refine XS.iconst X104.here hx rfl (hb hby at_241) ?_
    refine XS.goto X104.here hx rfl (pc0 := 242) (pc' := 246) rfl (hb hby at_242) (by decide) (by decide) ?_
    show Steps p.tables e below (T104.setTop (mkF m 246 #[.val (.int ab), .val (.int de), .val (.int fr), .val (.int k0), .val (.int (cA ab)), .val (.int (cB ab)), .val (.int (cA de)), .val (.int (cB de)), .val (.int (Int32.ofNat n)), .val (.int (Int32.ofNat i)), .val (.int (choF k0)), .val (.int (cF (choF k0) (cA ab) (cB ab) (cA de) (cB de) (cA fr))), .val (.ref o103), .val (.int (0 : Int32))] [(.int (1 : Int32))])) _
    exact retN X104 hx (t := .boolean) Bd.returns (by simp) (hb hby at_246) hr
  · show Q0  h0 n0 _ T104.heap _
    exact ⟨rfl, N104⟩
set_option maxRecDepth 65536 in
set_option maxHeartbeats 40000000 in
theorem rm0_0y (l : Launch) (Z : State) (a0 : Array Value) (hw : ∀ d ∈ tables_1, d.before a0 Z = true) (ws : List Jvm.Cond) (ab : Int32) (de : Int32) (fr : Int32) (k0 : Int32)  (h0 : Heap) (n0 : Nat) (Z0 : n0 ≤ h0.size) (n : Nat) (hlen : lenF k0 = (Int32.ofNat n)) (hidx : idxF k0 = (Int32.ofNat 0)) (hn : n ≤ 4) (hp : 0 < n) (O : Old Z n0 h0) (SK : StrSta Z) (hi : 0 < n) (he : (cA ab) = (cF (choF k0) (cA ab) (cB ab) (cA de) (cB de) (cA fr)))  :
    MetFree l x (head1 (Jvm.Cond.code x code maxLocals ret :: ws) room_1) (fun aa_ U_ => aa_ = #[(.int ab), (.int de), (.int fr), (.int k0)] ∧ Z.Warmed39 U_.vm ∧ U_.heap = h0 ∧ CHv Z [("java/lang/String", 7)] U_.vm h0) (fun _ _ _ _ _ => True) (fun _ U_ o_ V_ => ∃ v_ L_, o_ = .returned v_ ∧ Q0  h0 n0 v_ V_.heap L_ ∧ ReturnedEndW U_ o_ V_ L_ room_1.cells room_1.slots) := by
  refine MetFree.of_bodySF (plainFor_of_name pn_0) hisR ?_
  intro p e s m args below meth c s₁ Bd hml0 hP hK
  obtain ⟨rfl, hZ, hh, CH0⟩ := hP
  have hx := Bd.exec
  have hby := Bd.bytes
  have hml : c.maxLocals = 14 := hml0
  have hown : s.vm.findClass "org/keyreturn/sql/WordsIsAtPinLaw" = some m.cls := findClass_of_methodNamed Bd.named
  have hnm := (name_of_methodNamed Bd.named Bd.method).1
  have X0 : Stand p l e room_1 s m #[(.int ab), (.int de), (.int fr), (.int k0)] below meth c s₁ [] 0 0 := Stand.of_body Bd
  have e0 : s₁.heap = h0 := by rw [← hh, Bd.state]; rfl
  have N0 := Fr.nil n0
  have pre0 : ∀ zz, Steps p.tables e below (s₁.setTop (mkF m 0 #[.val (.int ab), .val (.int de), .val (.int fr), .val (.int k0), .unset, .unset, .unset, .unset, .unset, .unset, .unset, .unset, .unset, .unset] [])) zz → Steps p.tables e below (s₁.setTop (entryFrame m #[(.int ab), (.int de), (.int fr), (.int k0)] maxLocals)) zz := fun zz k => castTop (ef_0 m ab de fr k0) k
  obtain ⟨_, _, ⟨T105, L105, k105, n105⟩, -, X105, ⟨Lc105, hQ105, l105, y105, z105⟩, st105⟩ := Jvm.LawKit.callS X0 hx (y := (⟨"org/keyreturn/sql/WordsIsAtPinLaw", "text", "(ICCCC)Ljava/lang/String;"⟩ : MethodName)) hown (mvT hZ (hw _ (List.mem_of_getElem? (i := 1) rfl))) (mvT hZ (hw _ (List.mem_of_getElem? (i := 2) rfl))) (mvT hZ (hw _ (List.mem_of_getElem? (i := 3) rfl))) (mvT hZ (hw _ (List.mem_of_getElem? (i := 4) rfl))) (by decide) (backOf (W := 0) (rmT l Z a0 hw [] n (cA ab) (cB ab) (cA de) (cB de) h0 n0 Z0 hn hp O SK (cA_ch _) (cB_ch _) (cA_ch _) (cB_ch _)) hZ (hw _ (List.mem_of_getElem? (i := 4) rfl)) (hw _ (List.mem_of_getElem? (i := 3) rfl)) (by decide) (by decide)) (g := (mkF m 127 #[.val (.int ab), .val (.int de), .val (.int fr), .val (.int k0), .val (.int (cA ab)), .val (.int (cB ab)), .val (.int (cA de)), .val (.int (cB de)), .val (.int (Int32.ofNat n)), .val (.int (Int32.ofNat 0)), .val (.int (choF k0)), .val (.int (cF (choF k0) (cA ab) (cB ab) (cA de) (cB de) (cA fr))), .unset, .unset] [(.int (cB de)), (.int (cA de)), (.int (cB ab)), (.int (cA ab)), (.int (Int32.ofNat n))])) rfl (by rw [hml]; rfl) (argsL := [(.int (Int32.ofNat n)), (.int (cA ab)), (.int (cB ab)), (.int (cA de)), (.int (cB de))]) (rest := []) (lenOf pd_0 rfl) rfl (by show 2 * 0 + _ ≤ _; exact Nat.le_of_eq rfl) (hb hby at_127) (fun _ _ => ⟨rfl, e0, (by decide : 0 + 6 ≤ _), (by decide : 0 + 20 ≤ _)⟩)
  dsimp only [Pt.U, Pt.locs, Pt.cells, Pt.slots] at X105 l105 y105 z105 st105 hQ105
  subst l105 y105 z105
  obtain ⟨o105, rfl, N105q, K105, S105⟩ := hQ105
  have N105 := Fr.app N0 N105q
  have KK105 := (Keep.refl h0 []).trans K105 (fun x r => absurd r List.not_mem_nil)
  have Z105 : n0 ≤ T105.heap.size := Nat.le_trans Z0 K105.1
  have O105 := O.keep K105 all0'
  obtain ⟨_, _, ⟨T106, L106, k106, n106⟩, -, X106, ⟨Lc106, hQ106, l106, y106, z106⟩, st106⟩ := Jvm.LawKit.callS X105 hx (y := (⟨"org/keyreturn/sql/Words", "isAt", "(Ljava/lang/String;IC)Z"⟩ : MethodName)) hown (mvT hZ (hw _ (List.mem_of_getElem? (i := 35) rfl))) (mvT hZ (hw _ (List.mem_of_getElem? (i := 36) rfl))) (mvT hZ (hw _ (List.mem_of_getElem? (i := 37) rfl))) (mvT hZ (hw _ (List.mem_of_getElem? (i := 38) rfl))) (by decide) (backOf (W := 0) (rmIA1 l Z a0 hw [] o105 0 n (cF (choF k0) (cA ab) (cB ab) (cA de) (cB de) (cA fr)) (gL (cA ab) (cB ab) (cA de) (cB de)) T105.heap n0 Z105 (by omega) hi he O105 SK S105) hZ (hw _ (List.mem_of_getElem? (i := 38) rfl)) (hw _ (List.mem_of_getElem? (i := 37) rfl)) (by decide) (by decide)) (g := (mkF m 233 #[.val (.int ab), .val (.int de), .val (.int fr), .val (.int k0), .val (.int (cA ab)), .val (.int (cB ab)), .val (.int (cA de)), .val (.int (cB de)), .val (.int (Int32.ofNat n)), .val (.int (Int32.ofNat 0)), .val (.int (choF k0)), .val (.int (cF (choF k0) (cA ab) (cB ab) (cA de) (cB de) (cA fr))), .val (.ref o105), .val (.int (1 : Int32))] [(.int (cF (choF k0) (cA ab) (cB ab) (cA de) (cB de) (cA fr))), (.int (Int32.ofNat 0)), (.ref o105)])) rfl (by rw [hml]; rfl) (argsL := [(.ref o105), (.int (Int32.ofNat 0)), (.int (cF (choF k0) (cA ab) (cB ab) (cA de) (cB de) (cA fr)))]) (rest := []) (lenOf pd_7 rfl) rfl (by show 2 * 0 + _ ≤ _; exact Nat.le_of_eq rfl) (hb hby at_233) (fun _ _ => ⟨rfl, rfl, (by decide : 6 + 0 ≤ _), (by decide : 20 + 0 ≤ _)⟩)
  dsimp only [Pt.U, Pt.locs, Pt.cells, Pt.slots] at X106 l106 y106 z106 st106 hQ106
  subst l106 y106 z106
  obtain ⟨rfl, N106q, e106⟩ := hQ106
  have N106 := Fr.app N105 N106q
  obtain ⟨fs, hr, hrun, hended, -, hWW, hBB, hSS⟩ := Stand.leaveW (s := s) (vm₁ := s.vm) X106 ((State.WarmedH.refl s).since 0) (by rw [e106]; exact (Nat.zero_le _)) (v := some (.int (1 : Int32))) (fun h => by rw [Bd.returns] at h; cases h)
  refine ⟨_, _, pre0 _ ?_, hrun, hended, _, _, rfl, ?_, ⟨_, rfl⟩, hWW, hBB, hSS.mono (by decide) (by decide)⟩
  · show Steps p.tables e below (s₁.setTop (mkF m 0 #[.val (.int ab), .val (.int de), .val (.int fr), .val (.int k0), .unset, .unset, .unset, .unset, .unset, .unset, .unset, .unset, .unset, .unset] [])) _
    refine to117 ab de fr k0 X0 hx hZ hw hby hown ?_
    rw [hlen, hidx]
    show Steps p.tables e below (s₁.setTop (mkF m 117 #[.val (.int ab), .val (.int de), .val (.int fr), .val (.int k0), .val (.int (cA ab)), .val (.int (cB ab)), .val (.int (cA de)), .val (.int (cB de)), .val (.int (Int32.ofNat n)), .val (.int (Int32.ofNat 0)), .val (.int (choF k0)), .val (.int (cF (choF k0) (cA ab) (cB ab) (cA de) (cB de) (cA fr))), .unset, .unset] [])) _
    refine XS.iload X0.here hx rfl (hb hby at_117) rfl ?_
    refine XS.iload X0.here hx rfl (hb hby at_119) rfl ?_
    refine XS.iload X0.here hx rfl (hb hby at_121) rfl ?_
    refine XS.iload X0.here hx rfl (hb hby at_123) rfl ?_
    refine XS.iload X0.here hx rfl (hb hby at_125) rfl ?_
    show Steps p.tables e below (s₁.setTop (mkF m 127 #[.val (.int ab), .val (.int de), .val (.int fr), .val (.int k0), .val (.int (cA ab)), .val (.int (cB ab)), .val (.int (cA de)), .val (.int (cB de)), .val (.int (Int32.ofNat n)), .val (.int (Int32.ofNat 0)), .val (.int (choF k0)), .val (.int (cF (choF k0) (cA ab) (cB ab) (cA de) (cB de) (cA fr))), .unset, .unset] [(.int (cB de)), (.int (cA de)), (.int (cB ab)), (.int (cA ab)), (.int (Int32.ofNat n))])) _
    refine st105 _ ?_
    refine XS.astore X105.here hx rfl (hb hby at_130) rfl rfl (l' := #[.val (.int ab), .val (.int de), .val (.int fr), .val (.int k0), .val (.int (cA ab)), .val (.int (cB ab)), .val (.int (cA de)), .val (.int (cB de)), .val (.int (Int32.ofNat n)), .val (.int (Int32.ofNat 0)), .val (.int (choF k0)), .val (.int (cF (choF k0) (cA ab) (cB ab) (cA de) (cB de) (cA fr))), .val (.ref o105), .unset]) rfl ?_
    refine XS.iload X105.here hx rfl (hb hby at_132) rfl ?_
    refine XS.iload X105.here hx rfl (hb hby at_134) rfl ?_
    refine XS.icmpYes X105.here hx rfl (pc0 := 136) (pc' := 145) rfl (hb hby at_136) rfl (tlt ((ltN (by omega) (by omega)).mpr hi)).1 (by decide) (by decide) ?_
    refine XS.iload X105.here hx rfl (hb hby at_145) rfl ?_
    show Steps p.tables e below (T105.setTop (mkF m 147 #[.val (.int ab), .val (.int de), .val (.int fr), .val (.int k0), .val (.int (cA ab)), .val (.int (cB ab)), .val (.int (cA de)), .val (.int (cB de)), .val (.int (Int32.ofNat n)), .val (.int (Int32.ofNat 0)), .val (.int (choF k0)), .val (.int (cF (choF k0) (cA ab) (cB ab) (cA de) (cB de) (cA fr))), .val (.ref o105), .unset] [(.int (Int32.ofNat 0))])) _
    refine XS.ifNo X105.here hx rfl (hb hby at_147) rfl ((if0 _ _).trans (teq rfl).2) ?_
    refine XS.iload X105.here hx rfl (hb hby at_150) rfl ?_
    refine XS.iload X105.here hx rfl (hb hby at_152) rfl ?_
    refine XS.icmpNo X105.here hx rfl (hb hby at_154) rfl (teq he).2 ?_
    refine XS.iconst X105.here hx rfl (hb hby at_157) ?_
    refine XS.goto X105.here hx rfl (pc0 := 158) (pc' := 162) rfl (hb hby at_158) (by decide) (by decide) ?_
    show Steps p.tables e below (T105.setTop (mkF m 162 #[.val (.int ab), .val (.int de), .val (.int fr), .val (.int k0), .val (.int (cA ab)), .val (.int (cB ab)), .val (.int (cA de)), .val (.int (cB de)), .val (.int (Int32.ofNat n)), .val (.int (Int32.ofNat 0)), .val (.int (choF k0)), .val (.int (cF (choF k0) (cA ab) (cB ab) (cA de) (cB de) (cA fr))), .val (.ref o105), .unset] [(.int (1 : Int32))])) _
    refine XS.istore X105.here hx rfl (hb hby at_162) rfl (l' := #[.val (.int ab), .val (.int de), .val (.int fr), .val (.int k0), .val (.int (cA ab)), .val (.int (cB ab)), .val (.int (cA de)), .val (.int (cB de)), .val (.int (Int32.ofNat n)), .val (.int (Int32.ofNat 0)), .val (.int (choF k0)), .val (.int (cF (choF k0) (cA ab) (cB ab) (cA de) (cB de) (cA fr))), .val (.ref o105), .val (.int (1 : Int32))]) rfl ?_
    refine XS.goto X105.here hx rfl (pc0 := 164) (pc' := 227) rfl (hb hby at_164) (by decide) (by decide) ?_
    refine XS.aload X105.here hx rfl (hb hby at_227) rfl rfl ?_
    refine XS.iload X105.here hx rfl (hb hby at_229) rfl ?_
    refine XS.iload X105.here hx rfl (hb hby at_231) rfl ?_
    show Steps p.tables e below (T105.setTop (mkF m 233 #[.val (.int ab), .val (.int de), .val (.int fr), .val (.int k0), .val (.int (cA ab)), .val (.int (cB ab)), .val (.int (cA de)), .val (.int (cB de)), .val (.int (Int32.ofNat n)), .val (.int (Int32.ofNat 0)), .val (.int (choF k0)), .val (.int (cF (choF k0) (cA ab) (cB ab) (cA de) (cB de) (cA fr))), .val (.ref o105), .val (.int (1 : Int32))] [(.int (cF (choF k0) (cA ab) (cB ab) (cA de) (cB de) (cA fr))), (.int (Int32.ofNat 0)), (.ref o105)])) _
    refine st106 _ ?_
    refine XS.iload X106.here hx rfl (hb hby at_236) rfl ?_
    refine XS.icmpNo X106.here hx rfl (hb hby at_238) rfl (teq (rfl : (1 : Int32) = (1 : Int32))).2 ?_
    refine XS.iconst X106.here hx rfl (hb hby at_241) ?_
    refine XS.goto X106.here hx rfl (pc0 := 242) (pc' := 246) rfl (hb hby at_242) (by decide) (by decide) ?_
    show Steps p.tables e below (T106.setTop (mkF m 246 #[.val (.int ab), .val (.int de), .val (.int fr), .val (.int k0), .val (.int (cA ab)), .val (.int (cB ab)), .val (.int (cA de)), .val (.int (cB de)), .val (.int (Int32.ofNat n)), .val (.int (Int32.ofNat 0)), .val (.int (choF k0)), .val (.int (cF (choF k0) (cA ab) (cB ab) (cA de) (cB de) (cA fr))), .val (.ref o105), .val (.int (1 : Int32))] [(.int (1 : Int32))])) _
    exact retN X106 hx (t := .boolean) Bd.returns (by simp) (hb hby at_246) hr
  · show Q0  h0 n0 _ T106.heap _
    exact ⟨rfl, N106⟩
set_option maxRecDepth 65536 in
set_option maxHeartbeats 40000000 in
theorem rm0_0n (l : Launch) (Z : State) (a0 : Array Value) (hw : ∀ d ∈ tables_1, d.before a0 Z = true) (ws : List Jvm.Cond) (ab : Int32) (de : Int32) (fr : Int32) (k0 : Int32)  (h0 : Heap) (n0 : Nat) (Z0 : n0 ≤ h0.size) (n : Nat) (hlen : lenF k0 = (Int32.ofNat n)) (hidx : idxF k0 = (Int32.ofNat 0)) (hn : n ≤ 4) (hp : 0 < n) (O : Old Z n0 h0) (SK : StrSta Z) (hi : 0 < n) (he : ¬ ((cA ab) = (cF (choF k0) (cA ab) (cB ab) (cA de) (cB de) (cA fr))))  :
    MetFree l x (head1 (Jvm.Cond.code x code maxLocals ret :: ws) room_1) (fun aa_ U_ => aa_ = #[(.int ab), (.int de), (.int fr), (.int k0)] ∧ Z.Warmed39 U_.vm ∧ U_.heap = h0 ∧ CHv Z [("java/lang/String", 7)] U_.vm h0) (fun _ _ _ _ _ => True) (fun _ U_ o_ V_ => ∃ v_ L_, o_ = .returned v_ ∧ Q0  h0 n0 v_ V_.heap L_ ∧ ReturnedEndW U_ o_ V_ L_ room_1.cells room_1.slots) := by
  refine MetFree.of_bodySF (plainFor_of_name pn_0) hisR ?_
  intro p e s m args below meth c s₁ Bd hml0 hP hK
  obtain ⟨rfl, hZ, hh, CH0⟩ := hP
  have hx := Bd.exec
  have hby := Bd.bytes
  have hml : c.maxLocals = 14 := hml0
  have hown : s.vm.findClass "org/keyreturn/sql/WordsIsAtPinLaw" = some m.cls := findClass_of_methodNamed Bd.named
  have hnm := (name_of_methodNamed Bd.named Bd.method).1
  have X0 : Stand p l e room_1 s m #[(.int ab), (.int de), (.int fr), (.int k0)] below meth c s₁ [] 0 0 := Stand.of_body Bd
  have e0 : s₁.heap = h0 := by rw [← hh, Bd.state]; rfl
  have N0 := Fr.nil n0
  have pre0 : ∀ zz, Steps p.tables e below (s₁.setTop (mkF m 0 #[.val (.int ab), .val (.int de), .val (.int fr), .val (.int k0), .unset, .unset, .unset, .unset, .unset, .unset, .unset, .unset, .unset, .unset] [])) zz → Steps p.tables e below (s₁.setTop (entryFrame m #[(.int ab), (.int de), (.int fr), (.int k0)] maxLocals)) zz := fun zz k => castTop (ef_0 m ab de fr k0) k
  obtain ⟨_, _, ⟨T107, L107, k107, n107⟩, -, X107, ⟨Lc107, hQ107, l107, y107, z107⟩, st107⟩ := Jvm.LawKit.callS X0 hx (y := (⟨"org/keyreturn/sql/WordsIsAtPinLaw", "text", "(ICCCC)Ljava/lang/String;"⟩ : MethodName)) hown (mvT hZ (hw _ (List.mem_of_getElem? (i := 1) rfl))) (mvT hZ (hw _ (List.mem_of_getElem? (i := 2) rfl))) (mvT hZ (hw _ (List.mem_of_getElem? (i := 3) rfl))) (mvT hZ (hw _ (List.mem_of_getElem? (i := 4) rfl))) (by decide) (backOf (W := 0) (rmT l Z a0 hw [] n (cA ab) (cB ab) (cA de) (cB de) h0 n0 Z0 hn hp O SK (cA_ch _) (cB_ch _) (cA_ch _) (cB_ch _)) hZ (hw _ (List.mem_of_getElem? (i := 4) rfl)) (hw _ (List.mem_of_getElem? (i := 3) rfl)) (by decide) (by decide)) (g := (mkF m 127 #[.val (.int ab), .val (.int de), .val (.int fr), .val (.int k0), .val (.int (cA ab)), .val (.int (cB ab)), .val (.int (cA de)), .val (.int (cB de)), .val (.int (Int32.ofNat n)), .val (.int (Int32.ofNat 0)), .val (.int (choF k0)), .val (.int (cF (choF k0) (cA ab) (cB ab) (cA de) (cB de) (cA fr))), .unset, .unset] [(.int (cB de)), (.int (cA de)), (.int (cB ab)), (.int (cA ab)), (.int (Int32.ofNat n))])) rfl (by rw [hml]; rfl) (argsL := [(.int (Int32.ofNat n)), (.int (cA ab)), (.int (cB ab)), (.int (cA de)), (.int (cB de))]) (rest := []) (lenOf pd_0 rfl) rfl (by show 2 * 0 + _ ≤ _; exact Nat.le_of_eq rfl) (hb hby at_127) (fun _ _ => ⟨rfl, e0, (by decide : 0 + 6 ≤ _), (by decide : 0 + 20 ≤ _)⟩)
  dsimp only [Pt.U, Pt.locs, Pt.cells, Pt.slots] at X107 l107 y107 z107 st107 hQ107
  subst l107 y107 z107
  obtain ⟨o107, rfl, N107q, K107, S107⟩ := hQ107
  have N107 := Fr.app N0 N107q
  have KK107 := (Keep.refl h0 []).trans K107 (fun x r => absurd r List.not_mem_nil)
  have Z107 : n0 ≤ T107.heap.size := Nat.le_trans Z0 K107.1
  have O107 := O.keep K107 all0'
  obtain ⟨_, _, ⟨T108, L108, k108, n108⟩, -, X108, ⟨Lc108, hQ108, l108, y108, z108⟩, st108⟩ := Jvm.LawKit.callS X107 hx (y := (⟨"org/keyreturn/sql/Words", "isAt", "(Ljava/lang/String;IC)Z"⟩ : MethodName)) hown (mvT hZ (hw _ (List.mem_of_getElem? (i := 35) rfl))) (mvT hZ (hw _ (List.mem_of_getElem? (i := 36) rfl))) (mvT hZ (hw _ (List.mem_of_getElem? (i := 37) rfl))) (mvT hZ (hw _ (List.mem_of_getElem? (i := 38) rfl))) (by decide) (backOf (W := 0) (rmIA2 l Z a0 hw [] o107 0 n (cF (choF k0) (cA ab) (cB ab) (cA de) (cB de) (cA fr)) (gL (cA ab) (cB ab) (cA de) (cB de)) T107.heap n0 Z107 (by omega) hi he O107 SK S107) hZ (hw _ (List.mem_of_getElem? (i := 38) rfl)) (hw _ (List.mem_of_getElem? (i := 37) rfl)) (by decide) (by decide)) (g := (mkF m 233 #[.val (.int ab), .val (.int de), .val (.int fr), .val (.int k0), .val (.int (cA ab)), .val (.int (cB ab)), .val (.int (cA de)), .val (.int (cB de)), .val (.int (Int32.ofNat n)), .val (.int (Int32.ofNat 0)), .val (.int (choF k0)), .val (.int (cF (choF k0) (cA ab) (cB ab) (cA de) (cB de) (cA fr))), .val (.ref o107), .val (.int (0 : Int32))] [(.int (cF (choF k0) (cA ab) (cB ab) (cA de) (cB de) (cA fr))), (.int (Int32.ofNat 0)), (.ref o107)])) rfl (by rw [hml]; rfl) (argsL := [(.ref o107), (.int (Int32.ofNat 0)), (.int (cF (choF k0) (cA ab) (cB ab) (cA de) (cB de) (cA fr)))]) (rest := []) (lenOf pd_7 rfl) rfl (by show 2 * 0 + _ ≤ _; exact Nat.le_of_eq rfl) (hb hby at_233) (fun _ _ => ⟨rfl, rfl, (by decide : 6 + 0 ≤ _), (by decide : 20 + 0 ≤ _)⟩)
  dsimp only [Pt.U, Pt.locs, Pt.cells, Pt.slots] at X108 l108 y108 z108 st108 hQ108
  subst l108 y108 z108
  obtain ⟨rfl, N108q, e108⟩ := hQ108
  have N108 := Fr.app N107 N108q
  obtain ⟨fs, hr, hrun, hended, -, hWW, hBB, hSS⟩ := Stand.leaveW (s := s) (vm₁ := s.vm) X108 ((State.WarmedH.refl s).since 0) (by rw [e108]; exact (Nat.zero_le _)) (v := some (.int (1 : Int32))) (fun h => by rw [Bd.returns] at h; cases h)
  refine ⟨_, _, pre0 _ ?_, hrun, hended, _, _, rfl, ?_, ⟨_, rfl⟩, hWW, hBB, hSS.mono (by decide) (by decide)⟩
  · show Steps p.tables e below (s₁.setTop (mkF m 0 #[.val (.int ab), .val (.int de), .val (.int fr), .val (.int k0), .unset, .unset, .unset, .unset, .unset, .unset, .unset, .unset, .unset, .unset] [])) _
    refine to117 ab de fr k0 X0 hx hZ hw hby hown ?_
    rw [hlen, hidx]
    show Steps p.tables e below (s₁.setTop (mkF m 117 #[.val (.int ab), .val (.int de), .val (.int fr), .val (.int k0), .val (.int (cA ab)), .val (.int (cB ab)), .val (.int (cA de)), .val (.int (cB de)), .val (.int (Int32.ofNat n)), .val (.int (Int32.ofNat 0)), .val (.int (choF k0)), .val (.int (cF (choF k0) (cA ab) (cB ab) (cA de) (cB de) (cA fr))), .unset, .unset] [])) _
    refine XS.iload X0.here hx rfl (hb hby at_117) rfl ?_
    refine XS.iload X0.here hx rfl (hb hby at_119) rfl ?_
    refine XS.iload X0.here hx rfl (hb hby at_121) rfl ?_
    refine XS.iload X0.here hx rfl (hb hby at_123) rfl ?_
    refine XS.iload X0.here hx rfl (hb hby at_125) rfl ?_
    show Steps p.tables e below (s₁.setTop (mkF m 127 #[.val (.int ab), .val (.int de), .val (.int fr), .val (.int k0), .val (.int (cA ab)), .val (.int (cB ab)), .val (.int (cA de)), .val (.int (cB de)), .val (.int (Int32.ofNat n)), .val (.int (Int32.ofNat 0)), .val (.int (choF k0)), .val (.int (cF (choF k0) (cA ab) (cB ab) (cA de) (cB de) (cA fr))), .unset, .unset] [(.int (cB de)), (.int (cA de)), (.int (cB ab)), (.int (cA ab)), (.int (Int32.ofNat n))])) _
    refine st107 _ ?_
    refine XS.astore X107.here hx rfl (hb hby at_130) rfl rfl (l' := #[.val (.int ab), .val (.int de), .val (.int fr), .val (.int k0), .val (.int (cA ab)), .val (.int (cB ab)), .val (.int (cA de)), .val (.int (cB de)), .val (.int (Int32.ofNat n)), .val (.int (Int32.ofNat 0)), .val (.int (choF k0)), .val (.int (cF (choF k0) (cA ab) (cB ab) (cA de) (cB de) (cA fr))), .val (.ref o107), .unset]) rfl ?_
    refine XS.iload X107.here hx rfl (hb hby at_132) rfl ?_
    refine XS.iload X107.here hx rfl (hb hby at_134) rfl ?_
    refine XS.icmpYes X107.here hx rfl (pc0 := 136) (pc' := 145) rfl (hb hby at_136) rfl (tlt ((ltN (by omega) (by omega)).mpr hi)).1 (by decide) (by decide) ?_
    refine XS.iload X107.here hx rfl (hb hby at_145) rfl ?_
    show Steps p.tables e below (T107.setTop (mkF m 147 #[.val (.int ab), .val (.int de), .val (.int fr), .val (.int k0), .val (.int (cA ab)), .val (.int (cB ab)), .val (.int (cA de)), .val (.int (cB de)), .val (.int (Int32.ofNat n)), .val (.int (Int32.ofNat 0)), .val (.int (choF k0)), .val (.int (cF (choF k0) (cA ab) (cB ab) (cA de) (cB de) (cA fr))), .val (.ref o107), .unset] [(.int (Int32.ofNat 0))])) _
    refine XS.ifNo X107.here hx rfl (hb hby at_147) rfl ((if0 _ _).trans (teq rfl).2) ?_
    refine XS.iload X107.here hx rfl (hb hby at_150) rfl ?_
    refine XS.iload X107.here hx rfl (hb hby at_152) rfl ?_
    refine XS.icmpYes X107.here hx rfl (pc0 := 154) (pc' := 161) rfl (hb hby at_154) rfl (feq he).2 (by decide) (by decide) ?_
    refine XS.iconst X107.here hx rfl (hb hby at_161) ?_
    refine XS.istore X107.here hx rfl (hb hby at_162) rfl (l' := #[.val (.int ab), .val (.int de), .val (.int fr), .val (.int k0), .val (.int (cA ab)), .val (.int (cB ab)), .val (.int (cA de)), .val (.int (cB de)), .val (.int (Int32.ofNat n)), .val (.int (Int32.ofNat 0)), .val (.int (choF k0)), .val (.int (cF (choF k0) (cA ab) (cB ab) (cA de) (cB de) (cA fr))), .val (.ref o107), .val (.int (0 : Int32))]) rfl ?_
    show Steps p.tables e below (T107.setTop (mkF m 164 #[.val (.int ab), .val (.int de), .val (.int fr), .val (.int k0), .val (.int (cA ab)), .val (.int (cB ab)), .val (.int (cA de)), .val (.int (cB de)), .val (.int (Int32.ofNat n)), .val (.int (Int32.ofNat 0)), .val (.int (choF k0)), .val (.int (cF (choF k0) (cA ab) (cB ab) (cA de) (cB de) (cA fr))), .val (.ref o107), .val (.int (0 : Int32))] [])) _
    refine XS.goto X107.here hx rfl (pc0 := 164) (pc' := 227) rfl (hb hby at_164) (by decide) (by decide) ?_
    refine XS.aload X107.here hx rfl (hb hby at_227) rfl rfl ?_
    refine XS.iload X107.here hx rfl (hb hby at_229) rfl ?_
    refine XS.iload X107.here hx rfl (hb hby at_231) rfl ?_
    show Steps p.tables e below (T107.setTop (mkF m 233 #[.val (.int ab), .val (.int de), .val (.int fr), .val (.int k0), .val (.int (cA ab)), .val (.int (cB ab)), .val (.int (cA de)), .val (.int (cB de)), .val (.int (Int32.ofNat n)), .val (.int (Int32.ofNat 0)), .val (.int (choF k0)), .val (.int (cF (choF k0) (cA ab) (cB ab) (cA de) (cB de) (cA fr))), .val (.ref o107), .val (.int (0 : Int32))] [(.int (cF (choF k0) (cA ab) (cB ab) (cA de) (cB de) (cA fr))), (.int (Int32.ofNat 0)), (.ref o107)])) _
    refine st108 _ ?_
    refine XS.iload X108.here hx rfl (hb hby at_236) rfl ?_
    refine XS.icmpNo X108.here hx rfl (hb hby at_238) rfl (teq (rfl : (0 : Int32) = (0 : Int32))).2 ?_
    refine XS.iconst X108.here hx rfl (hb hby at_241) ?_
    refine XS.goto X108.here hx rfl (pc0 := 242) (pc' := 246) rfl (hb hby at_242) (by decide) (by decide) ?_
    show Steps p.tables e below (T108.setTop (mkF m 246 #[.val (.int ab), .val (.int de), .val (.int fr), .val (.int k0), .val (.int (cA ab)), .val (.int (cB ab)), .val (.int (cA de)), .val (.int (cB de)), .val (.int (Int32.ofNat n)), .val (.int (Int32.ofNat 0)), .val (.int (choF k0)), .val (.int (cF (choF k0) (cA ab) (cB ab) (cA de) (cB de) (cA fr))), .val (.ref o107), .val (.int (0 : Int32))] [(.int (1 : Int32))])) _
    exact retN X108 hx (t := .boolean) Bd.returns (by simp) (hb hby at_246) hr
  · show Q0  h0 n0 _ T108.heap _
    exact ⟨rfl, N108⟩
set_option maxRecDepth 65536 in
set_option maxHeartbeats 40000000 in
theorem rm0_1y (l : Launch) (Z : State) (a0 : Array Value) (hw : ∀ d ∈ tables_1, d.before a0 Z = true) (ws : List Jvm.Cond) (ab : Int32) (de : Int32) (fr : Int32) (k0 : Int32)  (h0 : Heap) (n0 : Nat) (Z0 : n0 ≤ h0.size) (n : Nat) (hlen : lenF k0 = (Int32.ofNat n)) (hidx : idxF k0 = (Int32.ofNat 1)) (hn : n ≤ 4) (hp : 0 < n) (O : Old Z n0 h0) (SK : StrSta Z) (hi : 1 < n) (he : (cB ab) = (cF (choF k0) (cA ab) (cB ab) (cA de) (cB de) (cA fr)))  :
    MetFree l x (head1 (Jvm.Cond.code x code maxLocals ret :: ws) room_1) (fun aa_ U_ => aa_ = #[(.int ab), (.int de), (.int fr), (.int k0)] ∧ Z.Warmed39 U_.vm ∧ U_.heap = h0 ∧ CHv Z [("java/lang/String", 7)] U_.vm h0) (fun _ _ _ _ _ => True) (fun _ U_ o_ V_ => ∃ v_ L_, o_ = .returned v_ ∧ Q0  h0 n0 v_ V_.heap L_ ∧ ReturnedEndW U_ o_ V_ L_ room_1.cells room_1.slots) := by
  refine MetFree.of_bodySF (plainFor_of_name pn_0) hisR ?_
  intro p e s m args below meth c s₁ Bd hml0 hP hK
  obtain ⟨rfl, hZ, hh, CH0⟩ := hP
  have hx := Bd.exec
  have hby := Bd.bytes
  have hml : c.maxLocals = 14 := hml0
  have hown : s.vm.findClass "org/keyreturn/sql/WordsIsAtPinLaw" = some m.cls := findClass_of_methodNamed Bd.named
  have hnm := (name_of_methodNamed Bd.named Bd.method).1
  have X0 : Stand p l e room_1 s m #[(.int ab), (.int de), (.int fr), (.int k0)] below meth c s₁ [] 0 0 := Stand.of_body Bd
  have e0 : s₁.heap = h0 := by rw [← hh, Bd.state]; rfl
  have N0 := Fr.nil n0
  have pre0 : ∀ zz, Steps p.tables e below (s₁.setTop (mkF m 0 #[.val (.int ab), .val (.int de), .val (.int fr), .val (.int k0), .unset, .unset, .unset, .unset, .unset, .unset, .unset, .unset, .unset, .unset] [])) zz → Steps p.tables e below (s₁.setTop (entryFrame m #[(.int ab), (.int de), (.int fr), (.int k0)] maxLocals)) zz := fun zz k => castTop (ef_0 m ab de fr k0) k
  obtain ⟨_, _, ⟨T109, L109, k109, n109⟩, -, X109, ⟨Lc109, hQ109, l109, y109, z109⟩, st109⟩ := Jvm.LawKit.callS X0 hx (y := (⟨"org/keyreturn/sql/WordsIsAtPinLaw", "text", "(ICCCC)Ljava/lang/String;"⟩ : MethodName)) hown (mvT hZ (hw _ (List.mem_of_getElem? (i := 1) rfl))) (mvT hZ (hw _ (List.mem_of_getElem? (i := 2) rfl))) (mvT hZ (hw _ (List.mem_of_getElem? (i := 3) rfl))) (mvT hZ (hw _ (List.mem_of_getElem? (i := 4) rfl))) (by decide) (backOf (W := 0) (rmT l Z a0 hw [] n (cA ab) (cB ab) (cA de) (cB de) h0 n0 Z0 hn hp O SK (cA_ch _) (cB_ch _) (cA_ch _) (cB_ch _)) hZ (hw _ (List.mem_of_getElem? (i := 4) rfl)) (hw _ (List.mem_of_getElem? (i := 3) rfl)) (by decide) (by decide)) (g := (mkF m 127 #[.val (.int ab), .val (.int de), .val (.int fr), .val (.int k0), .val (.int (cA ab)), .val (.int (cB ab)), .val (.int (cA de)), .val (.int (cB de)), .val (.int (Int32.ofNat n)), .val (.int (Int32.ofNat 1)), .val (.int (choF k0)), .val (.int (cF (choF k0) (cA ab) (cB ab) (cA de) (cB de) (cA fr))), .unset, .unset] [(.int (cB de)), (.int (cA de)), (.int (cB ab)), (.int (cA ab)), (.int (Int32.ofNat n))])) rfl (by rw [hml]; rfl) (argsL := [(.int (Int32.ofNat n)), (.int (cA ab)), (.int (cB ab)), (.int (cA de)), (.int (cB de))]) (rest := []) (lenOf pd_0 rfl) rfl (by show 2 * 0 + _ ≤ _; exact Nat.le_of_eq rfl) (hb hby at_127) (fun _ _ => ⟨rfl, e0, (by decide : 0 + 6 ≤ _), (by decide : 0 + 20 ≤ _)⟩)
  dsimp only [Pt.U, Pt.locs, Pt.cells, Pt.slots] at X109 l109 y109 z109 st109 hQ109
  subst l109 y109 z109
  obtain ⟨o109, rfl, N109q, K109, S109⟩ := hQ109
  have N109 := Fr.app N0 N109q
  have KK109 := (Keep.refl h0 []).trans K109 (fun x r => absurd r List.not_mem_nil)
  have Z109 : n0 ≤ T109.heap.size := Nat.le_trans Z0 K109.1
  have O109 := O.keep K109 all0'
  obtain ⟨_, _, ⟨T110, L110, k110, n110⟩, -, X110, ⟨Lc110, hQ110, l110, y110, z110⟩, st110⟩ := Jvm.LawKit.callS X109 hx (y := (⟨"org/keyreturn/sql/Words", "isAt", "(Ljava/lang/String;IC)Z"⟩ : MethodName)) hown (mvT hZ (hw _ (List.mem_of_getElem? (i := 35) rfl))) (mvT hZ (hw _ (List.mem_of_getElem? (i := 36) rfl))) (mvT hZ (hw _ (List.mem_of_getElem? (i := 37) rfl))) (mvT hZ (hw _ (List.mem_of_getElem? (i := 38) rfl))) (by decide) (backOf (W := 0) (rmIA1 l Z a0 hw [] o109 1 n (cF (choF k0) (cA ab) (cB ab) (cA de) (cB de) (cA fr)) (gL (cA ab) (cB ab) (cA de) (cB de)) T109.heap n0 Z109 (by omega) hi he O109 SK S109) hZ (hw _ (List.mem_of_getElem? (i := 38) rfl)) (hw _ (List.mem_of_getElem? (i := 37) rfl)) (by decide) (by decide)) (g := (mkF m 233 #[.val (.int ab), .val (.int de), .val (.int fr), .val (.int k0), .val (.int (cA ab)), .val (.int (cB ab)), .val (.int (cA de)), .val (.int (cB de)), .val (.int (Int32.ofNat n)), .val (.int (Int32.ofNat 1)), .val (.int (choF k0)), .val (.int (cF (choF k0) (cA ab) (cB ab) (cA de) (cB de) (cA fr))), .val (.ref o109), .val (.int (1 : Int32))] [(.int (cF (choF k0) (cA ab) (cB ab) (cA de) (cB de) (cA fr))), (.int (Int32.ofNat 1)), (.ref o109)])) rfl (by rw [hml]; rfl) (argsL := [(.ref o109), (.int (Int32.ofNat 1)), (.int (cF (choF k0) (cA ab) (cB ab) (cA de) (cB de) (cA fr)))]) (rest := []) (lenOf pd_7 rfl) rfl (by show 2 * 0 + _ ≤ _; exact Nat.le_of_eq rfl) (hb hby at_233) (fun _ _ => ⟨rfl, rfl, (by decide : 6 + 0 ≤ _), (by decide : 20 + 0 ≤ _)⟩)
  dsimp only [Pt.U, Pt.locs, Pt.cells, Pt.slots] at X110 l110 y110 z110 st110 hQ110
  subst l110 y110 z110
  obtain ⟨rfl, N110q, e110⟩ := hQ110
  have N110 := Fr.app N109 N110q
  obtain ⟨fs, hr, hrun, hended, -, hWW, hBB, hSS⟩ := Stand.leaveW (s := s) (vm₁ := s.vm) X110 ((State.WarmedH.refl s).since 0) (by rw [e110]; exact (Nat.zero_le _)) (v := some (.int (1 : Int32))) (fun h => by rw [Bd.returns] at h; cases h)
  refine ⟨_, _, pre0 _ ?_, hrun, hended, _, _, rfl, ?_, ⟨_, rfl⟩, hWW, hBB, hSS.mono (by decide) (by decide)⟩
  · show Steps p.tables e below (s₁.setTop (mkF m 0 #[.val (.int ab), .val (.int de), .val (.int fr), .val (.int k0), .unset, .unset, .unset, .unset, .unset, .unset, .unset, .unset, .unset, .unset] [])) _
    refine to117 ab de fr k0 X0 hx hZ hw hby hown ?_
    rw [hlen, hidx]
    show Steps p.tables e below (s₁.setTop (mkF m 117 #[.val (.int ab), .val (.int de), .val (.int fr), .val (.int k0), .val (.int (cA ab)), .val (.int (cB ab)), .val (.int (cA de)), .val (.int (cB de)), .val (.int (Int32.ofNat n)), .val (.int (Int32.ofNat 1)), .val (.int (choF k0)), .val (.int (cF (choF k0) (cA ab) (cB ab) (cA de) (cB de) (cA fr))), .unset, .unset] [])) _
    refine XS.iload X0.here hx rfl (hb hby at_117) rfl ?_
    refine XS.iload X0.here hx rfl (hb hby at_119) rfl ?_
    refine XS.iload X0.here hx rfl (hb hby at_121) rfl ?_
    refine XS.iload X0.here hx rfl (hb hby at_123) rfl ?_
    refine XS.iload X0.here hx rfl (hb hby at_125) rfl ?_
    show Steps p.tables e below (s₁.setTop (mkF m 127 #[.val (.int ab), .val (.int de), .val (.int fr), .val (.int k0), .val (.int (cA ab)), .val (.int (cB ab)), .val (.int (cA de)), .val (.int (cB de)), .val (.int (Int32.ofNat n)), .val (.int (Int32.ofNat 1)), .val (.int (choF k0)), .val (.int (cF (choF k0) (cA ab) (cB ab) (cA de) (cB de) (cA fr))), .unset, .unset] [(.int (cB de)), (.int (cA de)), (.int (cB ab)), (.int (cA ab)), (.int (Int32.ofNat n))])) _
    refine st109 _ ?_
    refine XS.astore X109.here hx rfl (hb hby at_130) rfl rfl (l' := #[.val (.int ab), .val (.int de), .val (.int fr), .val (.int k0), .val (.int (cA ab)), .val (.int (cB ab)), .val (.int (cA de)), .val (.int (cB de)), .val (.int (Int32.ofNat n)), .val (.int (Int32.ofNat 1)), .val (.int (choF k0)), .val (.int (cF (choF k0) (cA ab) (cB ab) (cA de) (cB de) (cA fr))), .val (.ref o109), .unset]) rfl ?_
    refine XS.iload X109.here hx rfl (hb hby at_132) rfl ?_
    refine XS.iload X109.here hx rfl (hb hby at_134) rfl ?_
    refine XS.icmpYes X109.here hx rfl (pc0 := 136) (pc' := 145) rfl (hb hby at_136) rfl (tlt ((ltN (by omega) (by omega)).mpr hi)).1 (by decide) (by decide) ?_
    refine XS.iload X109.here hx rfl (hb hby at_145) rfl ?_
    show Steps p.tables e below (T109.setTop (mkF m 147 #[.val (.int ab), .val (.int de), .val (.int fr), .val (.int k0), .val (.int (cA ab)), .val (.int (cB ab)), .val (.int (cA de)), .val (.int (cB de)), .val (.int (Int32.ofNat n)), .val (.int (Int32.ofNat 1)), .val (.int (choF k0)), .val (.int (cF (choF k0) (cA ab) (cB ab) (cA de) (cB de) (cA fr))), .val (.ref o109), .unset] [(.int (Int32.ofNat 1))])) _
    refine XS.ifYes X109.here hx rfl (pc0 := 147) (pc' := 167) rfl (hb hby at_147) rfl ((if0 _ _).trans (feq (by decide)).2) (by decide) (by decide) ?_
    refine XS.iload X109.here hx rfl (hb hby at_167) rfl ?_
    refine XS.iconst X109.here hx rfl (hb hby at_169) ?_
    refine XS.icmpNo X109.here hx rfl (hb hby at_170) rfl (teq rfl).2 ?_
    refine XS.iload X109.here hx rfl (hb hby at_173) rfl ?_
    refine XS.iload X109.here hx rfl (hb hby at_175) rfl ?_
    show Steps p.tables e below (T109.setTop (mkF m 177 #[.val (.int ab), .val (.int de), .val (.int fr), .val (.int k0), .val (.int (cA ab)), .val (.int (cB ab)), .val (.int (cA de)), .val (.int (cB de)), .val (.int (Int32.ofNat n)), .val (.int (Int32.ofNat 1)), .val (.int (choF k0)), .val (.int (cF (choF k0) (cA ab) (cB ab) (cA de) (cB de) (cA fr))), .val (.ref o109), .unset] [(.int (cF (choF k0) (cA ab) (cB ab) (cA de) (cB de) (cA fr))), (.int (cB ab))])) _
    refine XS.icmpNo X109.here hx rfl (hb hby at_177) rfl (teq he).2 ?_
    refine XS.iconst X109.here hx rfl (hb hby at_180) ?_
    refine XS.goto X109.here hx rfl (pc0 := 181) (pc' := 185) rfl (hb hby at_181) (by decide) (by decide) ?_
    refine XS.istore X109.here hx rfl (hb hby at_185) rfl (l' := #[.val (.int ab), .val (.int de), .val (.int fr), .val (.int k0), .val (.int (cA ab)), .val (.int (cB ab)), .val (.int (cA de)), .val (.int (cB de)), .val (.int (Int32.ofNat n)), .val (.int (Int32.ofNat 1)), .val (.int (choF k0)), .val (.int (cF (choF k0) (cA ab) (cB ab) (cA de) (cB de) (cA fr))), .val (.ref o109), .val (.int (1 : Int32))]) rfl ?_
    refine XS.goto X109.here hx rfl (pc0 := 187) (pc' := 227) rfl (hb hby at_187) (by decide) (by decide) ?_
    refine XS.aload X109.here hx rfl (hb hby at_227) rfl rfl ?_
    show Steps p.tables e below (T109.setTop (mkF m 229 #[.val (.int ab), .val (.int de), .val (.int fr), .val (.int k0), .val (.int (cA ab)), .val (.int (cB ab)), .val (.int (cA de)), .val (.int (cB de)), .val (.int (Int32.ofNat n)), .val (.int (Int32.ofNat 1)), .val (.int (choF k0)), .val (.int (cF (choF k0) (cA ab) (cB ab) (cA de) (cB de) (cA fr))), .val (.ref o109), .val (.int (1 : Int32))] [(.ref o109)])) _
    refine XS.iload X109.here hx rfl (hb hby at_229) rfl ?_
    refine XS.iload X109.here hx rfl (hb hby at_231) rfl ?_
    show Steps p.tables e below (T109.setTop (mkF m 233 #[.val (.int ab), .val (.int de), .val (.int fr), .val (.int k0), .val (.int (cA ab)), .val (.int (cB ab)), .val (.int (cA de)), .val (.int (cB de)), .val (.int (Int32.ofNat n)), .val (.int (Int32.ofNat 1)), .val (.int (choF k0)), .val (.int (cF (choF k0) (cA ab) (cB ab) (cA de) (cB de) (cA fr))), .val (.ref o109), .val (.int (1 : Int32))] [(.int (cF (choF k0) (cA ab) (cB ab) (cA de) (cB de) (cA fr))), (.int (Int32.ofNat 1)), (.ref o109)])) _
    refine st110 _ ?_
    refine XS.iload X110.here hx rfl (hb hby at_236) rfl ?_
    refine XS.icmpNo X110.here hx rfl (hb hby at_238) rfl (teq (rfl : (1 : Int32) = (1 : Int32))).2 ?_
    refine XS.iconst X110.here hx rfl (hb hby at_241) ?_
    refine XS.goto X110.here hx rfl (pc0 := 242) (pc' := 246) rfl (hb hby at_242) (by decide) (by decide) ?_
    show Steps p.tables e below (T110.setTop (mkF m 246 #[.val (.int ab), .val (.int de), .val (.int fr), .val (.int k0), .val (.int (cA ab)), .val (.int (cB ab)), .val (.int (cA de)), .val (.int (cB de)), .val (.int (Int32.ofNat n)), .val (.int (Int32.ofNat 1)), .val (.int (choF k0)), .val (.int (cF (choF k0) (cA ab) (cB ab) (cA de) (cB de) (cA fr))), .val (.ref o109), .val (.int (1 : Int32))] [(.int (1 : Int32))])) _
    exact retN X110 hx (t := .boolean) Bd.returns (by simp) (hb hby at_246) hr
  · show Q0  h0 n0 _ T110.heap _
    exact ⟨rfl, N110⟩
set_option maxRecDepth 65536 in
set_option maxHeartbeats 40000000 in
theorem rm0_1n (l : Launch) (Z : State) (a0 : Array Value) (hw : ∀ d ∈ tables_1, d.before a0 Z = true) (ws : List Jvm.Cond) (ab : Int32) (de : Int32) (fr : Int32) (k0 : Int32)  (h0 : Heap) (n0 : Nat) (Z0 : n0 ≤ h0.size) (n : Nat) (hlen : lenF k0 = (Int32.ofNat n)) (hidx : idxF k0 = (Int32.ofNat 1)) (hn : n ≤ 4) (hp : 0 < n) (O : Old Z n0 h0) (SK : StrSta Z) (hi : 1 < n) (he : ¬ ((cB ab) = (cF (choF k0) (cA ab) (cB ab) (cA de) (cB de) (cA fr))))  :
    MetFree l x (head1 (Jvm.Cond.code x code maxLocals ret :: ws) room_1) (fun aa_ U_ => aa_ = #[(.int ab), (.int de), (.int fr), (.int k0)] ∧ Z.Warmed39 U_.vm ∧ U_.heap = h0 ∧ CHv Z [("java/lang/String", 7)] U_.vm h0) (fun _ _ _ _ _ => True) (fun _ U_ o_ V_ => ∃ v_ L_, o_ = .returned v_ ∧ Q0  h0 n0 v_ V_.heap L_ ∧ ReturnedEndW U_ o_ V_ L_ room_1.cells room_1.slots) := by
  refine MetFree.of_bodySF (plainFor_of_name pn_0) hisR ?_
  intro p e s m args below meth c s₁ Bd hml0 hP hK
  obtain ⟨rfl, hZ, hh, CH0⟩ := hP
  have hx := Bd.exec
  have hby := Bd.bytes
  have hml : c.maxLocals = 14 := hml0
  have hown : s.vm.findClass "org/keyreturn/sql/WordsIsAtPinLaw" = some m.cls := findClass_of_methodNamed Bd.named
  have hnm := (name_of_methodNamed Bd.named Bd.method).1
  have X0 : Stand p l e room_1 s m #[(.int ab), (.int de), (.int fr), (.int k0)] below meth c s₁ [] 0 0 := Stand.of_body Bd
  have e0 : s₁.heap = h0 := by rw [← hh, Bd.state]; rfl
  have N0 := Fr.nil n0
  have pre0 : ∀ zz, Steps p.tables e below (s₁.setTop (mkF m 0 #[.val (.int ab), .val (.int de), .val (.int fr), .val (.int k0), .unset, .unset, .unset, .unset, .unset, .unset, .unset, .unset, .unset, .unset] [])) zz → Steps p.tables e below (s₁.setTop (entryFrame m #[(.int ab), (.int de), (.int fr), (.int k0)] maxLocals)) zz := fun zz k => castTop (ef_0 m ab de fr k0) k
  obtain ⟨_, _, ⟨T111, L111, k111, n111⟩, -, X111, ⟨Lc111, hQ111, l111, y111, z111⟩, st111⟩ := Jvm.LawKit.callS X0 hx (y := (⟨"org/keyreturn/sql/WordsIsAtPinLaw", "text", "(ICCCC)Ljava/lang/String;"⟩ : MethodName)) hown (mvT hZ (hw _ (List.mem_of_getElem? (i := 1) rfl))) (mvT hZ (hw _ (List.mem_of_getElem? (i := 2) rfl))) (mvT hZ (hw _ (List.mem_of_getElem? (i := 3) rfl))) (mvT hZ (hw _ (List.mem_of_getElem? (i := 4) rfl))) (by decide) (backOf (W := 0) (rmT l Z a0 hw [] n (cA ab) (cB ab) (cA de) (cB de) h0 n0 Z0 hn hp O SK (cA_ch _) (cB_ch _) (cA_ch _) (cB_ch _)) hZ (hw _ (List.mem_of_getElem? (i := 4) rfl)) (hw _ (List.mem_of_getElem? (i := 3) rfl)) (by decide) (by decide)) (g := (mkF m 127 #[.val (.int ab), .val (.int de), .val (.int fr), .val (.int k0), .val (.int (cA ab)), .val (.int (cB ab)), .val (.int (cA de)), .val (.int (cB de)), .val (.int (Int32.ofNat n)), .val (.int (Int32.ofNat 1)), .val (.int (choF k0)), .val (.int (cF (choF k0) (cA ab) (cB ab) (cA de) (cB de) (cA fr))), .unset, .unset] [(.int (cB de)), (.int (cA de)), (.int (cB ab)), (.int (cA ab)), (.int (Int32.ofNat n))])) rfl (by rw [hml]; rfl) (argsL := [(.int (Int32.ofNat n)), (.int (cA ab)), (.int (cB ab)), (.int (cA de)), (.int (cB de))]) (rest := []) (lenOf pd_0 rfl) rfl (by show 2 * 0 + _ ≤ _; exact Nat.le_of_eq rfl) (hb hby at_127) (fun _ _ => ⟨rfl, e0, (by decide : 0 + 6 ≤ _), (by decide : 0 + 20 ≤ _)⟩)
  dsimp only [Pt.U, Pt.locs, Pt.cells, Pt.slots] at X111 l111 y111 z111 st111 hQ111
  subst l111 y111 z111
  obtain ⟨o111, rfl, N111q, K111, S111⟩ := hQ111
  have N111 := Fr.app N0 N111q
  have KK111 := (Keep.refl h0 []).trans K111 (fun x r => absurd r List.not_mem_nil)
  have Z111 : n0 ≤ T111.heap.size := Nat.le_trans Z0 K111.1
  have O111 := O.keep K111 all0'
  obtain ⟨_, _, ⟨T112, L112, k112, n112⟩, -, X112, ⟨Lc112, hQ112, l112, y112, z112⟩, st112⟩ := Jvm.LawKit.callS X111 hx (y := (⟨"org/keyreturn/sql/Words", "isAt", "(Ljava/lang/String;IC)Z"⟩ : MethodName)) hown (mvT hZ (hw _ (List.mem_of_getElem? (i := 35) rfl))) (mvT hZ (hw _ (List.mem_of_getElem? (i := 36) rfl))) (mvT hZ (hw _ (List.mem_of_getElem? (i := 37) rfl))) (mvT hZ (hw _ (List.mem_of_getElem? (i := 38) rfl))) (by decide) (backOf (W := 0) (rmIA2 l Z a0 hw [] o111 1 n (cF (choF k0) (cA ab) (cB ab) (cA de) (cB de) (cA fr)) (gL (cA ab) (cB ab) (cA de) (cB de)) T111.heap n0 Z111 (by omega) hi he O111 SK S111) hZ (hw _ (List.mem_of_getElem? (i := 38) rfl)) (hw _ (List.mem_of_getElem? (i := 37) rfl)) (by decide) (by decide)) (g := (mkF m 233 #[.val (.int ab), .val (.int de), .val (.int fr), .val (.int k0), .val (.int (cA ab)), .val (.int (cB ab)), .val (.int (cA de)), .val (.int (cB de)), .val (.int (Int32.ofNat n)), .val (.int (Int32.ofNat 1)), .val (.int (choF k0)), .val (.int (cF (choF k0) (cA ab) (cB ab) (cA de) (cB de) (cA fr))), .val (.ref o111), .val (.int (0 : Int32))] [(.int (cF (choF k0) (cA ab) (cB ab) (cA de) (cB de) (cA fr))), (.int (Int32.ofNat 1)), (.ref o111)])) rfl (by rw [hml]; rfl) (argsL := [(.ref o111), (.int (Int32.ofNat 1)), (.int (cF (choF k0) (cA ab) (cB ab) (cA de) (cB de) (cA fr)))]) (rest := []) (lenOf pd_7 rfl) rfl (by show 2 * 0 + _ ≤ _; exact Nat.le_of_eq rfl) (hb hby at_233) (fun _ _ => ⟨rfl, rfl, (by decide : 6 + 0 ≤ _), (by decide : 20 + 0 ≤ _)⟩)
  dsimp only [Pt.U, Pt.locs, Pt.cells, Pt.slots] at X112 l112 y112 z112 st112 hQ112
  subst l112 y112 z112
  obtain ⟨rfl, N112q, e112⟩ := hQ112
  have N112 := Fr.app N111 N112q
  obtain ⟨fs, hr, hrun, hended, -, hWW, hBB, hSS⟩ := Stand.leaveW (s := s) (vm₁ := s.vm) X112 ((State.WarmedH.refl s).since 0) (by rw [e112]; exact (Nat.zero_le _)) (v := some (.int (1 : Int32))) (fun h => by rw [Bd.returns] at h; cases h)
  refine ⟨_, _, pre0 _ ?_, hrun, hended, _, _, rfl, ?_, ⟨_, rfl⟩, hWW, hBB, hSS.mono (by decide) (by decide)⟩
  · show Steps p.tables e below (s₁.setTop (mkF m 0 #[.val (.int ab), .val (.int de), .val (.int fr), .val (.int k0), .unset, .unset, .unset, .unset, .unset, .unset, .unset, .unset, .unset, .unset] [])) _
    refine to117 ab de fr k0 X0 hx hZ hw hby hown ?_
    rw [hlen, hidx]
    show Steps p.tables e below (s₁.setTop (mkF m 117 #[.val (.int ab), .val (.int de), .val (.int fr), .val (.int k0), .val (.int (cA ab)), .val (.int (cB ab)), .val (.int (cA de)), .val (.int (cB de)), .val (.int (Int32.ofNat n)), .val (.int (Int32.ofNat 1)), .val (.int (choF k0)), .val (.int (cF (choF k0) (cA ab) (cB ab) (cA de) (cB de) (cA fr))), .unset, .unset] [])) _
    refine XS.iload X0.here hx rfl (hb hby at_117) rfl ?_
    refine XS.iload X0.here hx rfl (hb hby at_119) rfl ?_
    refine XS.iload X0.here hx rfl (hb hby at_121) rfl ?_
    refine XS.iload X0.here hx rfl (hb hby at_123) rfl ?_
    refine XS.iload X0.here hx rfl (hb hby at_125) rfl ?_
    show Steps p.tables e below (s₁.setTop (mkF m 127 #[.val (.int ab), .val (.int de), .val (.int fr), .val (.int k0), .val (.int (cA ab)), .val (.int (cB ab)), .val (.int (cA de)), .val (.int (cB de)), .val (.int (Int32.ofNat n)), .val (.int (Int32.ofNat 1)), .val (.int (choF k0)), .val (.int (cF (choF k0) (cA ab) (cB ab) (cA de) (cB de) (cA fr))), .unset, .unset] [(.int (cB de)), (.int (cA de)), (.int (cB ab)), (.int (cA ab)), (.int (Int32.ofNat n))])) _
    refine st111 _ ?_
    refine XS.astore X111.here hx rfl (hb hby at_130) rfl rfl (l' := #[.val (.int ab), .val (.int de), .val (.int fr), .val (.int k0), .val (.int (cA ab)), .val (.int (cB ab)), .val (.int (cA de)), .val (.int (cB de)), .val (.int (Int32.ofNat n)), .val (.int (Int32.ofNat 1)), .val (.int (choF k0)), .val (.int (cF (choF k0) (cA ab) (cB ab) (cA de) (cB de) (cA fr))), .val (.ref o111), .unset]) rfl ?_
    refine XS.iload X111.here hx rfl (hb hby at_132) rfl ?_
    refine XS.iload X111.here hx rfl (hb hby at_134) rfl ?_
    refine XS.icmpYes X111.here hx rfl (pc0 := 136) (pc' := 145) rfl (hb hby at_136) rfl (tlt ((ltN (by omega) (by omega)).mpr hi)).1 (by decide) (by decide) ?_
    refine XS.iload X111.here hx rfl (hb hby at_145) rfl ?_
    show Steps p.tables e below (T111.setTop (mkF m 147 #[.val (.int ab), .val (.int de), .val (.int fr), .val (.int k0), .val (.int (cA ab)), .val (.int (cB ab)), .val (.int (cA de)), .val (.int (cB de)), .val (.int (Int32.ofNat n)), .val (.int (Int32.ofNat 1)), .val (.int (choF k0)), .val (.int (cF (choF k0) (cA ab) (cB ab) (cA de) (cB de) (cA fr))), .val (.ref o111), .unset] [(.int (Int32.ofNat 1))])) _
    refine XS.ifYes X111.here hx rfl (pc0 := 147) (pc' := 167) rfl (hb hby at_147) rfl ((if0 _ _).trans (feq (by decide)).2) (by decide) (by decide) ?_
    refine XS.iload X111.here hx rfl (hb hby at_167) rfl ?_
    refine XS.iconst X111.here hx rfl (hb hby at_169) ?_
    refine XS.icmpNo X111.here hx rfl (hb hby at_170) rfl (teq rfl).2 ?_
    refine XS.iload X111.here hx rfl (hb hby at_173) rfl ?_
    refine XS.iload X111.here hx rfl (hb hby at_175) rfl ?_
    show Steps p.tables e below (T111.setTop (mkF m 177 #[.val (.int ab), .val (.int de), .val (.int fr), .val (.int k0), .val (.int (cA ab)), .val (.int (cB ab)), .val (.int (cA de)), .val (.int (cB de)), .val (.int (Int32.ofNat n)), .val (.int (Int32.ofNat 1)), .val (.int (choF k0)), .val (.int (cF (choF k0) (cA ab) (cB ab) (cA de) (cB de) (cA fr))), .val (.ref o111), .unset] [(.int (cF (choF k0) (cA ab) (cB ab) (cA de) (cB de) (cA fr))), (.int (cB ab))])) _
    refine XS.icmpYes X111.here hx rfl (pc0 := 177) (pc' := 184) rfl (hb hby at_177) rfl (feq he).2 (by decide) (by decide) ?_
    refine XS.iconst X111.here hx rfl (hb hby at_184) ?_
    refine XS.istore X111.here hx rfl (hb hby at_185) rfl (l' := #[.val (.int ab), .val (.int de), .val (.int fr), .val (.int k0), .val (.int (cA ab)), .val (.int (cB ab)), .val (.int (cA de)), .val (.int (cB de)), .val (.int (Int32.ofNat n)), .val (.int (Int32.ofNat 1)), .val (.int (choF k0)), .val (.int (cF (choF k0) (cA ab) (cB ab) (cA de) (cB de) (cA fr))), .val (.ref o111), .val (.int (0 : Int32))]) rfl ?_
    refine XS.goto X111.here hx rfl (pc0 := 187) (pc' := 227) rfl (hb hby at_187) (by decide) (by decide) ?_
    refine XS.aload X111.here hx rfl (hb hby at_227) rfl rfl ?_
    refine XS.iload X111.here hx rfl (hb hby at_229) rfl ?_
    show Steps p.tables e below (T111.setTop (mkF m 231 #[.val (.int ab), .val (.int de), .val (.int fr), .val (.int k0), .val (.int (cA ab)), .val (.int (cB ab)), .val (.int (cA de)), .val (.int (cB de)), .val (.int (Int32.ofNat n)), .val (.int (Int32.ofNat 1)), .val (.int (choF k0)), .val (.int (cF (choF k0) (cA ab) (cB ab) (cA de) (cB de) (cA fr))), .val (.ref o111), .val (.int (0 : Int32))] [(.int (Int32.ofNat 1)), (.ref o111)])) _
    refine XS.iload X111.here hx rfl (hb hby at_231) rfl ?_
    show Steps p.tables e below (T111.setTop (mkF m 233 #[.val (.int ab), .val (.int de), .val (.int fr), .val (.int k0), .val (.int (cA ab)), .val (.int (cB ab)), .val (.int (cA de)), .val (.int (cB de)), .val (.int (Int32.ofNat n)), .val (.int (Int32.ofNat 1)), .val (.int (choF k0)), .val (.int (cF (choF k0) (cA ab) (cB ab) (cA de) (cB de) (cA fr))), .val (.ref o111), .val (.int (0 : Int32))] [(.int (cF (choF k0) (cA ab) (cB ab) (cA de) (cB de) (cA fr))), (.int (Int32.ofNat 1)), (.ref o111)])) _
    refine st112 _ ?_
    refine XS.iload X112.here hx rfl (hb hby at_236) rfl ?_
    refine XS.icmpNo X112.here hx rfl (hb hby at_238) rfl (teq (rfl : (0 : Int32) = (0 : Int32))).2 ?_
    refine XS.iconst X112.here hx rfl (hb hby at_241) ?_
    refine XS.goto X112.here hx rfl (pc0 := 242) (pc' := 246) rfl (hb hby at_242) (by decide) (by decide) ?_
    show Steps p.tables e below (T112.setTop (mkF m 246 #[.val (.int ab), .val (.int de), .val (.int fr), .val (.int k0), .val (.int (cA ab)), .val (.int (cB ab)), .val (.int (cA de)), .val (.int (cB de)), .val (.int (Int32.ofNat n)), .val (.int (Int32.ofNat 1)), .val (.int (choF k0)), .val (.int (cF (choF k0) (cA ab) (cB ab) (cA de) (cB de) (cA fr))), .val (.ref o111), .val (.int (0 : Int32))] [(.int (1 : Int32))])) _
    exact retN X112 hx (t := .boolean) Bd.returns (by simp) (hb hby at_246) hr
  · show Q0  h0 n0 _ T112.heap _
    exact ⟨rfl, N112⟩
set_option maxRecDepth 65536 in
set_option maxHeartbeats 40000000 in
theorem rm0_2y (l : Launch) (Z : State) (a0 : Array Value) (hw : ∀ d ∈ tables_1, d.before a0 Z = true) (ws : List Jvm.Cond) (ab : Int32) (de : Int32) (fr : Int32) (k0 : Int32)  (h0 : Heap) (n0 : Nat) (Z0 : n0 ≤ h0.size) (n : Nat) (hlen : lenF k0 = (Int32.ofNat n)) (hidx : idxF k0 = (Int32.ofNat 2)) (hn : n ≤ 4) (hp : 0 < n) (O : Old Z n0 h0) (SK : StrSta Z) (hi : 2 < n) (he : (cA de) = (cF (choF k0) (cA ab) (cB ab) (cA de) (cB de) (cA fr)))  :
    MetFree l x (head1 (Jvm.Cond.code x code maxLocals ret :: ws) room_1) (fun aa_ U_ => aa_ = #[(.int ab), (.int de), (.int fr), (.int k0)] ∧ Z.Warmed39 U_.vm ∧ U_.heap = h0 ∧ CHv Z [("java/lang/String", 7)] U_.vm h0) (fun _ _ _ _ _ => True) (fun _ U_ o_ V_ => ∃ v_ L_, o_ = .returned v_ ∧ Q0  h0 n0 v_ V_.heap L_ ∧ ReturnedEndW U_ o_ V_ L_ room_1.cells room_1.slots) := by
  refine MetFree.of_bodySF (plainFor_of_name pn_0) hisR ?_
  intro p e s m args below meth c s₁ Bd hml0 hP hK
  obtain ⟨rfl, hZ, hh, CH0⟩ := hP
  have hx := Bd.exec
  have hby := Bd.bytes
  have hml : c.maxLocals = 14 := hml0
  have hown : s.vm.findClass "org/keyreturn/sql/WordsIsAtPinLaw" = some m.cls := findClass_of_methodNamed Bd.named
  have hnm := (name_of_methodNamed Bd.named Bd.method).1
  have X0 : Stand p l e room_1 s m #[(.int ab), (.int de), (.int fr), (.int k0)] below meth c s₁ [] 0 0 := Stand.of_body Bd
  have e0 : s₁.heap = h0 := by rw [← hh, Bd.state]; rfl
  have N0 := Fr.nil n0
  have pre0 : ∀ zz, Steps p.tables e below (s₁.setTop (mkF m 0 #[.val (.int ab), .val (.int de), .val (.int fr), .val (.int k0), .unset, .unset, .unset, .unset, .unset, .unset, .unset, .unset, .unset, .unset] [])) zz → Steps p.tables e below (s₁.setTop (entryFrame m #[(.int ab), (.int de), (.int fr), (.int k0)] maxLocals)) zz := fun zz k => castTop (ef_0 m ab de fr k0) k
  obtain ⟨_, _, ⟨T113, L113, k113, n113⟩, -, X113, ⟨Lc113, hQ113, l113, y113, z113⟩, st113⟩ := Jvm.LawKit.callS X0 hx (y := (⟨"org/keyreturn/sql/WordsIsAtPinLaw", "text", "(ICCCC)Ljava/lang/String;"⟩ : MethodName)) hown (mvT hZ (hw _ (List.mem_of_getElem? (i := 1) rfl))) (mvT hZ (hw _ (List.mem_of_getElem? (i := 2) rfl))) (mvT hZ (hw _ (List.mem_of_getElem? (i := 3) rfl))) (mvT hZ (hw _ (List.mem_of_getElem? (i := 4) rfl))) (by decide) (backOf (W := 0) (rmT l Z a0 hw [] n (cA ab) (cB ab) (cA de) (cB de) h0 n0 Z0 hn hp O SK (cA_ch _) (cB_ch _) (cA_ch _) (cB_ch _)) hZ (hw _ (List.mem_of_getElem? (i := 4) rfl)) (hw _ (List.mem_of_getElem? (i := 3) rfl)) (by decide) (by decide)) (g := (mkF m 127 #[.val (.int ab), .val (.int de), .val (.int fr), .val (.int k0), .val (.int (cA ab)), .val (.int (cB ab)), .val (.int (cA de)), .val (.int (cB de)), .val (.int (Int32.ofNat n)), .val (.int (Int32.ofNat 2)), .val (.int (choF k0)), .val (.int (cF (choF k0) (cA ab) (cB ab) (cA de) (cB de) (cA fr))), .unset, .unset] [(.int (cB de)), (.int (cA de)), (.int (cB ab)), (.int (cA ab)), (.int (Int32.ofNat n))])) rfl (by rw [hml]; rfl) (argsL := [(.int (Int32.ofNat n)), (.int (cA ab)), (.int (cB ab)), (.int (cA de)), (.int (cB de))]) (rest := []) (lenOf pd_0 rfl) rfl (by show 2 * 0 + _ ≤ _; exact Nat.le_of_eq rfl) (hb hby at_127) (fun _ _ => ⟨rfl, e0, (by decide : 0 + 6 ≤ _), (by decide : 0 + 20 ≤ _)⟩)
  dsimp only [Pt.U, Pt.locs, Pt.cells, Pt.slots] at X113 l113 y113 z113 st113 hQ113
  subst l113 y113 z113
  obtain ⟨o113, rfl, N113q, K113, S113⟩ := hQ113
  have N113 := Fr.app N0 N113q
  have KK113 := (Keep.refl h0 []).trans K113 (fun x r => absurd r List.not_mem_nil)
  have Z113 : n0 ≤ T113.heap.size := Nat.le_trans Z0 K113.1
  have O113 := O.keep K113 all0'
  obtain ⟨_, _, ⟨T114, L114, k114, n114⟩, -, X114, ⟨Lc114, hQ114, l114, y114, z114⟩, st114⟩ := Jvm.LawKit.callS X113 hx (y := (⟨"org/keyreturn/sql/Words", "isAt", "(Ljava/lang/String;IC)Z"⟩ : MethodName)) hown (mvT hZ (hw _ (List.mem_of_getElem? (i := 35) rfl))) (mvT hZ (hw _ (List.mem_of_getElem? (i := 36) rfl))) (mvT hZ (hw _ (List.mem_of_getElem? (i := 37) rfl))) (mvT hZ (hw _ (List.mem_of_getElem? (i := 38) rfl))) (by decide) (backOf (W := 0) (rmIA1 l Z a0 hw [] o113 2 n (cF (choF k0) (cA ab) (cB ab) (cA de) (cB de) (cA fr)) (gL (cA ab) (cB ab) (cA de) (cB de)) T113.heap n0 Z113 (by omega) hi he O113 SK S113) hZ (hw _ (List.mem_of_getElem? (i := 38) rfl)) (hw _ (List.mem_of_getElem? (i := 37) rfl)) (by decide) (by decide)) (g := (mkF m 233 #[.val (.int ab), .val (.int de), .val (.int fr), .val (.int k0), .val (.int (cA ab)), .val (.int (cB ab)), .val (.int (cA de)), .val (.int (cB de)), .val (.int (Int32.ofNat n)), .val (.int (Int32.ofNat 2)), .val (.int (choF k0)), .val (.int (cF (choF k0) (cA ab) (cB ab) (cA de) (cB de) (cA fr))), .val (.ref o113), .val (.int (1 : Int32))] [(.int (cF (choF k0) (cA ab) (cB ab) (cA de) (cB de) (cA fr))), (.int (Int32.ofNat 2)), (.ref o113)])) rfl (by rw [hml]; rfl) (argsL := [(.ref o113), (.int (Int32.ofNat 2)), (.int (cF (choF k0) (cA ab) (cB ab) (cA de) (cB de) (cA fr)))]) (rest := []) (lenOf pd_7 rfl) rfl (by show 2 * 0 + _ ≤ _; exact Nat.le_of_eq rfl) (hb hby at_233) (fun _ _ => ⟨rfl, rfl, (by decide : 6 + 0 ≤ _), (by decide : 20 + 0 ≤ _)⟩)
  dsimp only [Pt.U, Pt.locs, Pt.cells, Pt.slots] at X114 l114 y114 z114 st114 hQ114
  subst l114 y114 z114
  obtain ⟨rfl, N114q, e114⟩ := hQ114
  have N114 := Fr.app N113 N114q
  obtain ⟨fs, hr, hrun, hended, -, hWW, hBB, hSS⟩ := Stand.leaveW (s := s) (vm₁ := s.vm) X114 ((State.WarmedH.refl s).since 0) (by rw [e114]; exact (Nat.zero_le _)) (v := some (.int (1 : Int32))) (fun h => by rw [Bd.returns] at h; cases h)
  refine ⟨_, _, pre0 _ ?_, hrun, hended, _, _, rfl, ?_, ⟨_, rfl⟩, hWW, hBB, hSS.mono (by decide) (by decide)⟩
  · show Steps p.tables e below (s₁.setTop (mkF m 0 #[.val (.int ab), .val (.int de), .val (.int fr), .val (.int k0), .unset, .unset, .unset, .unset, .unset, .unset, .unset, .unset, .unset, .unset] [])) _
    refine to117 ab de fr k0 X0 hx hZ hw hby hown ?_
    rw [hlen, hidx]
    show Steps p.tables e below (s₁.setTop (mkF m 117 #[.val (.int ab), .val (.int de), .val (.int fr), .val (.int k0), .val (.int (cA ab)), .val (.int (cB ab)), .val (.int (cA de)), .val (.int (cB de)), .val (.int (Int32.ofNat n)), .val (.int (Int32.ofNat 2)), .val (.int (choF k0)), .val (.int (cF (choF k0) (cA ab) (cB ab) (cA de) (cB de) (cA fr))), .unset, .unset] [])) _
    refine XS.iload X0.here hx rfl (hb hby at_117) rfl ?_
    refine XS.iload X0.here hx rfl (hb hby at_119) rfl ?_
    refine XS.iload X0.here hx rfl (hb hby at_121) rfl ?_
    refine XS.iload X0.here hx rfl (hb hby at_123) rfl ?_
    refine XS.iload X0.here hx rfl (hb hby at_125) rfl ?_
    show Steps p.tables e below (s₁.setTop (mkF m 127 #[.val (.int ab), .val (.int de), .val (.int fr), .val (.int k0), .val (.int (cA ab)), .val (.int (cB ab)), .val (.int (cA de)), .val (.int (cB de)), .val (.int (Int32.ofNat n)), .val (.int (Int32.ofNat 2)), .val (.int (choF k0)), .val (.int (cF (choF k0) (cA ab) (cB ab) (cA de) (cB de) (cA fr))), .unset, .unset] [(.int (cB de)), (.int (cA de)), (.int (cB ab)), (.int (cA ab)), (.int (Int32.ofNat n))])) _
    refine st113 _ ?_
    refine XS.astore X113.here hx rfl (hb hby at_130) rfl rfl (l' := #[.val (.int ab), .val (.int de), .val (.int fr), .val (.int k0), .val (.int (cA ab)), .val (.int (cB ab)), .val (.int (cA de)), .val (.int (cB de)), .val (.int (Int32.ofNat n)), .val (.int (Int32.ofNat 2)), .val (.int (choF k0)), .val (.int (cF (choF k0) (cA ab) (cB ab) (cA de) (cB de) (cA fr))), .val (.ref o113), .unset]) rfl ?_
    refine XS.iload X113.here hx rfl (hb hby at_132) rfl ?_
    refine XS.iload X113.here hx rfl (hb hby at_134) rfl ?_
    refine XS.icmpYes X113.here hx rfl (pc0 := 136) (pc' := 145) rfl (hb hby at_136) rfl (tlt ((ltN (by omega) (by omega)).mpr hi)).1 (by decide) (by decide) ?_
    refine XS.iload X113.here hx rfl (hb hby at_145) rfl ?_
    show Steps p.tables e below (T113.setTop (mkF m 147 #[.val (.int ab), .val (.int de), .val (.int fr), .val (.int k0), .val (.int (cA ab)), .val (.int (cB ab)), .val (.int (cA de)), .val (.int (cB de)), .val (.int (Int32.ofNat n)), .val (.int (Int32.ofNat 2)), .val (.int (choF k0)), .val (.int (cF (choF k0) (cA ab) (cB ab) (cA de) (cB de) (cA fr))), .val (.ref o113), .unset] [(.int (Int32.ofNat 2))])) _
    refine XS.ifYes X113.here hx rfl (pc0 := 147) (pc' := 167) rfl (hb hby at_147) rfl ((if0 _ _).trans (feq (by decide)).2) (by decide) (by decide) ?_
    refine XS.iload X113.here hx rfl (hb hby at_167) rfl ?_
    refine XS.iconst X113.here hx rfl (hb hby at_169) ?_
    refine XS.icmpYes X113.here hx rfl (pc0 := 170) (pc' := 190) rfl (hb hby at_170) rfl (feq (by decide)).2 (by decide) (by decide) ?_
    refine XS.iload X113.here hx rfl (hb hby at_190) rfl ?_
    refine XS.iconst X113.here hx rfl (hb hby at_192) ?_
    show Steps p.tables e below (T113.setTop (mkF m 193 #[.val (.int ab), .val (.int de), .val (.int fr), .val (.int k0), .val (.int (cA ab)), .val (.int (cB ab)), .val (.int (cA de)), .val (.int (cB de)), .val (.int (Int32.ofNat n)), .val (.int (Int32.ofNat 2)), .val (.int (choF k0)), .val (.int (cF (choF k0) (cA ab) (cB ab) (cA de) (cB de) (cA fr))), .val (.ref o113), .unset] [(.int (2 : Int32)), (.int (Int32.ofNat 2))])) _
    refine XS.icmpNo X113.here hx rfl (hb hby at_193) rfl (teq rfl).2 ?_
    refine XS.iload X113.here hx rfl (hb hby at_196) rfl ?_
    refine XS.iload X113.here hx rfl (hb hby at_198) rfl ?_
    refine XS.icmpNo X113.here hx rfl (hb hby at_200) rfl (teq he).2 ?_
    refine XS.iconst X113.here hx rfl (hb hby at_203) ?_
    refine XS.goto X113.here hx rfl (pc0 := 204) (pc' := 208) rfl (hb hby at_204) (by decide) (by decide) ?_
    show Steps p.tables e below (T113.setTop (mkF m 208 #[.val (.int ab), .val (.int de), .val (.int fr), .val (.int k0), .val (.int (cA ab)), .val (.int (cB ab)), .val (.int (cA de)), .val (.int (cB de)), .val (.int (Int32.ofNat n)), .val (.int (Int32.ofNat 2)), .val (.int (choF k0)), .val (.int (cF (choF k0) (cA ab) (cB ab) (cA de) (cB de) (cA fr))), .val (.ref o113), .unset] [(.int (1 : Int32))])) _
    refine XS.istore X113.here hx rfl (hb hby at_208) rfl (l' := #[.val (.int ab), .val (.int de), .val (.int fr), .val (.int k0), .val (.int (cA ab)), .val (.int (cB ab)), .val (.int (cA de)), .val (.int (cB de)), .val (.int (Int32.ofNat n)), .val (.int (Int32.ofNat 2)), .val (.int (choF k0)), .val (.int (cF (choF k0) (cA ab) (cB ab) (cA de) (cB de) (cA fr))), .val (.ref o113), .val (.int (1 : Int32))]) rfl ?_
    refine XS.goto X113.here hx rfl (pc0 := 210) (pc' := 227) rfl (hb hby at_210) (by decide) (by decide) ?_
    refine XS.aload X113.here hx rfl (hb hby at_227) rfl rfl ?_
    refine XS.iload X113.here hx rfl (hb hby at_229) rfl ?_
    refine XS.iload X113.here hx rfl (hb hby at_231) rfl ?_
    show Steps p.tables e below (T113.setTop (mkF m 233 #[.val (.int ab), .val (.int de), .val (.int fr), .val (.int k0), .val (.int (cA ab)), .val (.int (cB ab)), .val (.int (cA de)), .val (.int (cB de)), .val (.int (Int32.ofNat n)), .val (.int (Int32.ofNat 2)), .val (.int (choF k0)), .val (.int (cF (choF k0) (cA ab) (cB ab) (cA de) (cB de) (cA fr))), .val (.ref o113), .val (.int (1 : Int32))] [(.int (cF (choF k0) (cA ab) (cB ab) (cA de) (cB de) (cA fr))), (.int (Int32.ofNat 2)), (.ref o113)])) _
    refine st114 _ ?_
    refine XS.iload X114.here hx rfl (hb hby at_236) rfl ?_
    refine XS.icmpNo X114.here hx rfl (hb hby at_238) rfl (teq (rfl : (1 : Int32) = (1 : Int32))).2 ?_
    refine XS.iconst X114.here hx rfl (hb hby at_241) ?_
    refine XS.goto X114.here hx rfl (pc0 := 242) (pc' := 246) rfl (hb hby at_242) (by decide) (by decide) ?_
    show Steps p.tables e below (T114.setTop (mkF m 246 #[.val (.int ab), .val (.int de), .val (.int fr), .val (.int k0), .val (.int (cA ab)), .val (.int (cB ab)), .val (.int (cA de)), .val (.int (cB de)), .val (.int (Int32.ofNat n)), .val (.int (Int32.ofNat 2)), .val (.int (choF k0)), .val (.int (cF (choF k0) (cA ab) (cB ab) (cA de) (cB de) (cA fr))), .val (.ref o113), .val (.int (1 : Int32))] [(.int (1 : Int32))])) _
    exact retN X114 hx (t := .boolean) Bd.returns (by simp) (hb hby at_246) hr
  · show Q0  h0 n0 _ T114.heap _
    exact ⟨rfl, N114⟩
set_option maxRecDepth 65536 in
set_option maxHeartbeats 40000000 in
theorem rm0_2n (l : Launch) (Z : State) (a0 : Array Value) (hw : ∀ d ∈ tables_1, d.before a0 Z = true) (ws : List Jvm.Cond) (ab : Int32) (de : Int32) (fr : Int32) (k0 : Int32)  (h0 : Heap) (n0 : Nat) (Z0 : n0 ≤ h0.size) (n : Nat) (hlen : lenF k0 = (Int32.ofNat n)) (hidx : idxF k0 = (Int32.ofNat 2)) (hn : n ≤ 4) (hp : 0 < n) (O : Old Z n0 h0) (SK : StrSta Z) (hi : 2 < n) (he : ¬ ((cA de) = (cF (choF k0) (cA ab) (cB ab) (cA de) (cB de) (cA fr))))  :
    MetFree l x (head1 (Jvm.Cond.code x code maxLocals ret :: ws) room_1) (fun aa_ U_ => aa_ = #[(.int ab), (.int de), (.int fr), (.int k0)] ∧ Z.Warmed39 U_.vm ∧ U_.heap = h0 ∧ CHv Z [("java/lang/String", 7)] U_.vm h0) (fun _ _ _ _ _ => True) (fun _ U_ o_ V_ => ∃ v_ L_, o_ = .returned v_ ∧ Q0  h0 n0 v_ V_.heap L_ ∧ ReturnedEndW U_ o_ V_ L_ room_1.cells room_1.slots) := by
  refine MetFree.of_bodySF (plainFor_of_name pn_0) hisR ?_
  intro p e s m args below meth c s₁ Bd hml0 hP hK
  obtain ⟨rfl, hZ, hh, CH0⟩ := hP
  have hx := Bd.exec
  have hby := Bd.bytes
  have hml : c.maxLocals = 14 := hml0
  have hown : s.vm.findClass "org/keyreturn/sql/WordsIsAtPinLaw" = some m.cls := findClass_of_methodNamed Bd.named
  have hnm := (name_of_methodNamed Bd.named Bd.method).1
  have X0 : Stand p l e room_1 s m #[(.int ab), (.int de), (.int fr), (.int k0)] below meth c s₁ [] 0 0 := Stand.of_body Bd
  have e0 : s₁.heap = h0 := by rw [← hh, Bd.state]; rfl
  have N0 := Fr.nil n0
  have pre0 : ∀ zz, Steps p.tables e below (s₁.setTop (mkF m 0 #[.val (.int ab), .val (.int de), .val (.int fr), .val (.int k0), .unset, .unset, .unset, .unset, .unset, .unset, .unset, .unset, .unset, .unset] [])) zz → Steps p.tables e below (s₁.setTop (entryFrame m #[(.int ab), (.int de), (.int fr), (.int k0)] maxLocals)) zz := fun zz k => castTop (ef_0 m ab de fr k0) k
  obtain ⟨_, _, ⟨T115, L115, k115, n115⟩, -, X115, ⟨Lc115, hQ115, l115, y115, z115⟩, st115⟩ := Jvm.LawKit.callS X0 hx (y := (⟨"org/keyreturn/sql/WordsIsAtPinLaw", "text", "(ICCCC)Ljava/lang/String;"⟩ : MethodName)) hown (mvT hZ (hw _ (List.mem_of_getElem? (i := 1) rfl))) (mvT hZ (hw _ (List.mem_of_getElem? (i := 2) rfl))) (mvT hZ (hw _ (List.mem_of_getElem? (i := 3) rfl))) (mvT hZ (hw _ (List.mem_of_getElem? (i := 4) rfl))) (by decide) (backOf (W := 0) (rmT l Z a0 hw [] n (cA ab) (cB ab) (cA de) (cB de) h0 n0 Z0 hn hp O SK (cA_ch _) (cB_ch _) (cA_ch _) (cB_ch _)) hZ (hw _ (List.mem_of_getElem? (i := 4) rfl)) (hw _ (List.mem_of_getElem? (i := 3) rfl)) (by decide) (by decide)) (g := (mkF m 127 #[.val (.int ab), .val (.int de), .val (.int fr), .val (.int k0), .val (.int (cA ab)), .val (.int (cB ab)), .val (.int (cA de)), .val (.int (cB de)), .val (.int (Int32.ofNat n)), .val (.int (Int32.ofNat 2)), .val (.int (choF k0)), .val (.int (cF (choF k0) (cA ab) (cB ab) (cA de) (cB de) (cA fr))), .unset, .unset] [(.int (cB de)), (.int (cA de)), (.int (cB ab)), (.int (cA ab)), (.int (Int32.ofNat n))])) rfl (by rw [hml]; rfl) (argsL := [(.int (Int32.ofNat n)), (.int (cA ab)), (.int (cB ab)), (.int (cA de)), (.int (cB de))]) (rest := []) (lenOf pd_0 rfl) rfl (by show 2 * 0 + _ ≤ _; exact Nat.le_of_eq rfl) (hb hby at_127) (fun _ _ => ⟨rfl, e0, (by decide : 0 + 6 ≤ _), (by decide : 0 + 20 ≤ _)⟩)
  dsimp only [Pt.U, Pt.locs, Pt.cells, Pt.slots] at X115 l115 y115 z115 st115 hQ115
  subst l115 y115 z115
  obtain ⟨o115, rfl, N115q, K115, S115⟩ := hQ115
  have N115 := Fr.app N0 N115q
  have KK115 := (Keep.refl h0 []).trans K115 (fun x r => absurd r List.not_mem_nil)
  have Z115 : n0 ≤ T115.heap.size := Nat.le_trans Z0 K115.1
  have O115 := O.keep K115 all0'
  obtain ⟨_, _, ⟨T116, L116, k116, n116⟩, -, X116, ⟨Lc116, hQ116, l116, y116, z116⟩, st116⟩ := Jvm.LawKit.callS X115 hx (y := (⟨"org/keyreturn/sql/Words", "isAt", "(Ljava/lang/String;IC)Z"⟩ : MethodName)) hown (mvT hZ (hw _ (List.mem_of_getElem? (i := 35) rfl))) (mvT hZ (hw _ (List.mem_of_getElem? (i := 36) rfl))) (mvT hZ (hw _ (List.mem_of_getElem? (i := 37) rfl))) (mvT hZ (hw _ (List.mem_of_getElem? (i := 38) rfl))) (by decide) (backOf (W := 0) (rmIA2 l Z a0 hw [] o115 2 n (cF (choF k0) (cA ab) (cB ab) (cA de) (cB de) (cA fr)) (gL (cA ab) (cB ab) (cA de) (cB de)) T115.heap n0 Z115 (by omega) hi he O115 SK S115) hZ (hw _ (List.mem_of_getElem? (i := 38) rfl)) (hw _ (List.mem_of_getElem? (i := 37) rfl)) (by decide) (by decide)) (g := (mkF m 233 #[.val (.int ab), .val (.int de), .val (.int fr), .val (.int k0), .val (.int (cA ab)), .val (.int (cB ab)), .val (.int (cA de)), .val (.int (cB de)), .val (.int (Int32.ofNat n)), .val (.int (Int32.ofNat 2)), .val (.int (choF k0)), .val (.int (cF (choF k0) (cA ab) (cB ab) (cA de) (cB de) (cA fr))), .val (.ref o115), .val (.int (0 : Int32))] [(.int (cF (choF k0) (cA ab) (cB ab) (cA de) (cB de) (cA fr))), (.int (Int32.ofNat 2)), (.ref o115)])) rfl (by rw [hml]; rfl) (argsL := [(.ref o115), (.int (Int32.ofNat 2)), (.int (cF (choF k0) (cA ab) (cB ab) (cA de) (cB de) (cA fr)))]) (rest := []) (lenOf pd_7 rfl) rfl (by show 2 * 0 + _ ≤ _; exact Nat.le_of_eq rfl) (hb hby at_233) (fun _ _ => ⟨rfl, rfl, (by decide : 6 + 0 ≤ _), (by decide : 20 + 0 ≤ _)⟩)
  dsimp only [Pt.U, Pt.locs, Pt.cells, Pt.slots] at X116 l116 y116 z116 st116 hQ116
  subst l116 y116 z116
  obtain ⟨rfl, N116q, e116⟩ := hQ116
  have N116 := Fr.app N115 N116q
  obtain ⟨fs, hr, hrun, hended, -, hWW, hBB, hSS⟩ := Stand.leaveW (s := s) (vm₁ := s.vm) X116 ((State.WarmedH.refl s).since 0) (by rw [e116]; exact (Nat.zero_le _)) (v := some (.int (1 : Int32))) (fun h => by rw [Bd.returns] at h; cases h)
  refine ⟨_, _, pre0 _ ?_, hrun, hended, _, _, rfl, ?_, ⟨_, rfl⟩, hWW, hBB, hSS.mono (by decide) (by decide)⟩
  · show Steps p.tables e below (s₁.setTop (mkF m 0 #[.val (.int ab), .val (.int de), .val (.int fr), .val (.int k0), .unset, .unset, .unset, .unset, .unset, .unset, .unset, .unset, .unset, .unset] [])) _
    refine to117 ab de fr k0 X0 hx hZ hw hby hown ?_
    rw [hlen, hidx]
    show Steps p.tables e below (s₁.setTop (mkF m 117 #[.val (.int ab), .val (.int de), .val (.int fr), .val (.int k0), .val (.int (cA ab)), .val (.int (cB ab)), .val (.int (cA de)), .val (.int (cB de)), .val (.int (Int32.ofNat n)), .val (.int (Int32.ofNat 2)), .val (.int (choF k0)), .val (.int (cF (choF k0) (cA ab) (cB ab) (cA de) (cB de) (cA fr))), .unset, .unset] [])) _
    refine XS.iload X0.here hx rfl (hb hby at_117) rfl ?_
    refine XS.iload X0.here hx rfl (hb hby at_119) rfl ?_
    refine XS.iload X0.here hx rfl (hb hby at_121) rfl ?_
    refine XS.iload X0.here hx rfl (hb hby at_123) rfl ?_
    refine XS.iload X0.here hx rfl (hb hby at_125) rfl ?_
    show Steps p.tables e below (s₁.setTop (mkF m 127 #[.val (.int ab), .val (.int de), .val (.int fr), .val (.int k0), .val (.int (cA ab)), .val (.int (cB ab)), .val (.int (cA de)), .val (.int (cB de)), .val (.int (Int32.ofNat n)), .val (.int (Int32.ofNat 2)), .val (.int (choF k0)), .val (.int (cF (choF k0) (cA ab) (cB ab) (cA de) (cB de) (cA fr))), .unset, .unset] [(.int (cB de)), (.int (cA de)), (.int (cB ab)), (.int (cA ab)), (.int (Int32.ofNat n))])) _
    refine st115 _ ?_
    refine XS.astore X115.here hx rfl (hb hby at_130) rfl rfl (l' := #[.val (.int ab), .val (.int de), .val (.int fr), .val (.int k0), .val (.int (cA ab)), .val (.int (cB ab)), .val (.int (cA de)), .val (.int (cB de)), .val (.int (Int32.ofNat n)), .val (.int (Int32.ofNat 2)), .val (.int (choF k0)), .val (.int (cF (choF k0) (cA ab) (cB ab) (cA de) (cB de) (cA fr))), .val (.ref o115), .unset]) rfl ?_
    refine XS.iload X115.here hx rfl (hb hby at_132) rfl ?_
    refine XS.iload X115.here hx rfl (hb hby at_134) rfl ?_
    refine XS.icmpYes X115.here hx rfl (pc0 := 136) (pc' := 145) rfl (hb hby at_136) rfl (tlt ((ltN (by omega) (by omega)).mpr hi)).1 (by decide) (by decide) ?_
    refine XS.iload X115.here hx rfl (hb hby at_145) rfl ?_
    show Steps p.tables e below (T115.setTop (mkF m 147 #[.val (.int ab), .val (.int de), .val (.int fr), .val (.int k0), .val (.int (cA ab)), .val (.int (cB ab)), .val (.int (cA de)), .val (.int (cB de)), .val (.int (Int32.ofNat n)), .val (.int (Int32.ofNat 2)), .val (.int (choF k0)), .val (.int (cF (choF k0) (cA ab) (cB ab) (cA de) (cB de) (cA fr))), .val (.ref o115), .unset] [(.int (Int32.ofNat 2))])) _
    refine XS.ifYes X115.here hx rfl (pc0 := 147) (pc' := 167) rfl (hb hby at_147) rfl ((if0 _ _).trans (feq (by decide)).2) (by decide) (by decide) ?_
    refine XS.iload X115.here hx rfl (hb hby at_167) rfl ?_
    refine XS.iconst X115.here hx rfl (hb hby at_169) ?_
    refine XS.icmpYes X115.here hx rfl (pc0 := 170) (pc' := 190) rfl (hb hby at_170) rfl (feq (by decide)).2 (by decide) (by decide) ?_
    refine XS.iload X115.here hx rfl (hb hby at_190) rfl ?_
    refine XS.iconst X115.here hx rfl (hb hby at_192) ?_
    show Steps p.tables e below (T115.setTop (mkF m 193 #[.val (.int ab), .val (.int de), .val (.int fr), .val (.int k0), .val (.int (cA ab)), .val (.int (cB ab)), .val (.int (cA de)), .val (.int (cB de)), .val (.int (Int32.ofNat n)), .val (.int (Int32.ofNat 2)), .val (.int (choF k0)), .val (.int (cF (choF k0) (cA ab) (cB ab) (cA de) (cB de) (cA fr))), .val (.ref o115), .unset] [(.int (2 : Int32)), (.int (Int32.ofNat 2))])) _
    refine XS.icmpNo X115.here hx rfl (hb hby at_193) rfl (teq rfl).2 ?_
    refine XS.iload X115.here hx rfl (hb hby at_196) rfl ?_
    refine XS.iload X115.here hx rfl (hb hby at_198) rfl ?_
    refine XS.icmpYes X115.here hx rfl (pc0 := 200) (pc' := 207) rfl (hb hby at_200) rfl (feq he).2 (by decide) (by decide) ?_
    refine XS.iconst X115.here hx rfl (hb hby at_207) ?_
    refine XS.istore X115.here hx rfl (hb hby at_208) rfl (l' := #[.val (.int ab), .val (.int de), .val (.int fr), .val (.int k0), .val (.int (cA ab)), .val (.int (cB ab)), .val (.int (cA de)), .val (.int (cB de)), .val (.int (Int32.ofNat n)), .val (.int (Int32.ofNat 2)), .val (.int (choF k0)), .val (.int (cF (choF k0) (cA ab) (cB ab) (cA de) (cB de) (cA fr))), .val (.ref o115), .val (.int (0 : Int32))]) rfl ?_
    show Steps p.tables e below (T115.setTop (mkF m 210 #[.val (.int ab), .val (.int de), .val (.int fr), .val (.int k0), .val (.int (cA ab)), .val (.int (cB ab)), .val (.int (cA de)), .val (.int (cB de)), .val (.int (Int32.ofNat n)), .val (.int (Int32.ofNat 2)), .val (.int (choF k0)), .val (.int (cF (choF k0) (cA ab) (cB ab) (cA de) (cB de) (cA fr))), .val (.ref o115), .val (.int (0 : Int32))] [])) _
    refine XS.goto X115.here hx rfl (pc0 := 210) (pc' := 227) rfl (hb hby at_210) (by decide) (by decide) ?_
    refine XS.aload X115.here hx rfl (hb hby at_227) rfl rfl ?_
    refine XS.iload X115.here hx rfl (hb hby at_229) rfl ?_
    refine XS.iload X115.here hx rfl (hb hby at_231) rfl ?_
    show Steps p.tables e below (T115.setTop (mkF m 233 #[.val (.int ab), .val (.int de), .val (.int fr), .val (.int k0), .val (.int (cA ab)), .val (.int (cB ab)), .val (.int (cA de)), .val (.int (cB de)), .val (.int (Int32.ofNat n)), .val (.int (Int32.ofNat 2)), .val (.int (choF k0)), .val (.int (cF (choF k0) (cA ab) (cB ab) (cA de) (cB de) (cA fr))), .val (.ref o115), .val (.int (0 : Int32))] [(.int (cF (choF k0) (cA ab) (cB ab) (cA de) (cB de) (cA fr))), (.int (Int32.ofNat 2)), (.ref o115)])) _
    refine st116 _ ?_
    refine XS.iload X116.here hx rfl (hb hby at_236) rfl ?_
    refine XS.icmpNo X116.here hx rfl (hb hby at_238) rfl (teq (rfl : (0 : Int32) = (0 : Int32))).2 ?_
    refine XS.iconst X116.here hx rfl (hb hby at_241) ?_
    refine XS.goto X116.here hx rfl (pc0 := 242) (pc' := 246) rfl (hb hby at_242) (by decide) (by decide) ?_
    show Steps p.tables e below (T116.setTop (mkF m 246 #[.val (.int ab), .val (.int de), .val (.int fr), .val (.int k0), .val (.int (cA ab)), .val (.int (cB ab)), .val (.int (cA de)), .val (.int (cB de)), .val (.int (Int32.ofNat n)), .val (.int (Int32.ofNat 2)), .val (.int (choF k0)), .val (.int (cF (choF k0) (cA ab) (cB ab) (cA de) (cB de) (cA fr))), .val (.ref o115), .val (.int (0 : Int32))] [(.int (1 : Int32))])) _
    exact retN X116 hx (t := .boolean) Bd.returns (by simp) (hb hby at_246) hr
  · show Q0  h0 n0 _ T116.heap _
    exact ⟨rfl, N116⟩
set_option maxRecDepth 65536 in
set_option maxHeartbeats 40000000 in
theorem rm0_3y (l : Launch) (Z : State) (a0 : Array Value) (hw : ∀ d ∈ tables_1, d.before a0 Z = true) (ws : List Jvm.Cond) (ab : Int32) (de : Int32) (fr : Int32) (k0 : Int32)  (h0 : Heap) (n0 : Nat) (Z0 : n0 ≤ h0.size) (n : Nat) (hlen : lenF k0 = (Int32.ofNat n)) (hidx : idxF k0 = (Int32.ofNat 3)) (hn : n ≤ 4) (hp : 0 < n) (O : Old Z n0 h0) (SK : StrSta Z) (hi : 3 < n) (he : (cB de) = (cF (choF k0) (cA ab) (cB ab) (cA de) (cB de) (cA fr)))  :
    MetFree l x (head1 (Jvm.Cond.code x code maxLocals ret :: ws) room_1) (fun aa_ U_ => aa_ = #[(.int ab), (.int de), (.int fr), (.int k0)] ∧ Z.Warmed39 U_.vm ∧ U_.heap = h0 ∧ CHv Z [("java/lang/String", 7)] U_.vm h0) (fun _ _ _ _ _ => True) (fun _ U_ o_ V_ => ∃ v_ L_, o_ = .returned v_ ∧ Q0  h0 n0 v_ V_.heap L_ ∧ ReturnedEndW U_ o_ V_ L_ room_1.cells room_1.slots) := by
  refine MetFree.of_bodySF (plainFor_of_name pn_0) hisR ?_
  intro p e s m args below meth c s₁ Bd hml0 hP hK
  obtain ⟨rfl, hZ, hh, CH0⟩ := hP
  have hx := Bd.exec
  have hby := Bd.bytes
  have hml : c.maxLocals = 14 := hml0
  have hown : s.vm.findClass "org/keyreturn/sql/WordsIsAtPinLaw" = some m.cls := findClass_of_methodNamed Bd.named
  have hnm := (name_of_methodNamed Bd.named Bd.method).1
  have X0 : Stand p l e room_1 s m #[(.int ab), (.int de), (.int fr), (.int k0)] below meth c s₁ [] 0 0 := Stand.of_body Bd
  have e0 : s₁.heap = h0 := by rw [← hh, Bd.state]; rfl
  have N0 := Fr.nil n0
  have pre0 : ∀ zz, Steps p.tables e below (s₁.setTop (mkF m 0 #[.val (.int ab), .val (.int de), .val (.int fr), .val (.int k0), .unset, .unset, .unset, .unset, .unset, .unset, .unset, .unset, .unset, .unset] [])) zz → Steps p.tables e below (s₁.setTop (entryFrame m #[(.int ab), (.int de), (.int fr), (.int k0)] maxLocals)) zz := fun zz k => castTop (ef_0 m ab de fr k0) k
  obtain ⟨_, _, ⟨T117, L117, k117, n117⟩, -, X117, ⟨Lc117, hQ117, l117, y117, z117⟩, st117⟩ := Jvm.LawKit.callS X0 hx (y := (⟨"org/keyreturn/sql/WordsIsAtPinLaw", "text", "(ICCCC)Ljava/lang/String;"⟩ : MethodName)) hown (mvT hZ (hw _ (List.mem_of_getElem? (i := 1) rfl))) (mvT hZ (hw _ (List.mem_of_getElem? (i := 2) rfl))) (mvT hZ (hw _ (List.mem_of_getElem? (i := 3) rfl))) (mvT hZ (hw _ (List.mem_of_getElem? (i := 4) rfl))) (by decide) (backOf (W := 0) (rmT l Z a0 hw [] n (cA ab) (cB ab) (cA de) (cB de) h0 n0 Z0 hn hp O SK (cA_ch _) (cB_ch _) (cA_ch _) (cB_ch _)) hZ (hw _ (List.mem_of_getElem? (i := 4) rfl)) (hw _ (List.mem_of_getElem? (i := 3) rfl)) (by decide) (by decide)) (g := (mkF m 127 #[.val (.int ab), .val (.int de), .val (.int fr), .val (.int k0), .val (.int (cA ab)), .val (.int (cB ab)), .val (.int (cA de)), .val (.int (cB de)), .val (.int (Int32.ofNat n)), .val (.int (Int32.ofNat 3)), .val (.int (choF k0)), .val (.int (cF (choF k0) (cA ab) (cB ab) (cA de) (cB de) (cA fr))), .unset, .unset] [(.int (cB de)), (.int (cA de)), (.int (cB ab)), (.int (cA ab)), (.int (Int32.ofNat n))])) rfl (by rw [hml]; rfl) (argsL := [(.int (Int32.ofNat n)), (.int (cA ab)), (.int (cB ab)), (.int (cA de)), (.int (cB de))]) (rest := []) (lenOf pd_0 rfl) rfl (by show 2 * 0 + _ ≤ _; exact Nat.le_of_eq rfl) (hb hby at_127) (fun _ _ => ⟨rfl, e0, (by decide : 0 + 6 ≤ _), (by decide : 0 + 20 ≤ _)⟩)
  dsimp only [Pt.U, Pt.locs, Pt.cells, Pt.slots] at X117 l117 y117 z117 st117 hQ117
  subst l117 y117 z117
  obtain ⟨o117, rfl, N117q, K117, S117⟩ := hQ117
  have N117 := Fr.app N0 N117q
  have KK117 := (Keep.refl h0 []).trans K117 (fun x r => absurd r List.not_mem_nil)
  have Z117 : n0 ≤ T117.heap.size := Nat.le_trans Z0 K117.1
  have O117 := O.keep K117 all0'
  obtain ⟨_, _, ⟨T118, L118, k118, n118⟩, -, X118, ⟨Lc118, hQ118, l118, y118, z118⟩, st118⟩ := Jvm.LawKit.callS X117 hx (y := (⟨"org/keyreturn/sql/Words", "isAt", "(Ljava/lang/String;IC)Z"⟩ : MethodName)) hown (mvT hZ (hw _ (List.mem_of_getElem? (i := 35) rfl))) (mvT hZ (hw _ (List.mem_of_getElem? (i := 36) rfl))) (mvT hZ (hw _ (List.mem_of_getElem? (i := 37) rfl))) (mvT hZ (hw _ (List.mem_of_getElem? (i := 38) rfl))) (by decide) (backOf (W := 0) (rmIA1 l Z a0 hw [] o117 3 n (cF (choF k0) (cA ab) (cB ab) (cA de) (cB de) (cA fr)) (gL (cA ab) (cB ab) (cA de) (cB de)) T117.heap n0 Z117 (by omega) hi he O117 SK S117) hZ (hw _ (List.mem_of_getElem? (i := 38) rfl)) (hw _ (List.mem_of_getElem? (i := 37) rfl)) (by decide) (by decide)) (g := (mkF m 233 #[.val (.int ab), .val (.int de), .val (.int fr), .val (.int k0), .val (.int (cA ab)), .val (.int (cB ab)), .val (.int (cA de)), .val (.int (cB de)), .val (.int (Int32.ofNat n)), .val (.int (Int32.ofNat 3)), .val (.int (choF k0)), .val (.int (cF (choF k0) (cA ab) (cB ab) (cA de) (cB de) (cA fr))), .val (.ref o117), .val (.int (1 : Int32))] [(.int (cF (choF k0) (cA ab) (cB ab) (cA de) (cB de) (cA fr))), (.int (Int32.ofNat 3)), (.ref o117)])) rfl (by rw [hml]; rfl) (argsL := [(.ref o117), (.int (Int32.ofNat 3)), (.int (cF (choF k0) (cA ab) (cB ab) (cA de) (cB de) (cA fr)))]) (rest := []) (lenOf pd_7 rfl) rfl (by show 2 * 0 + _ ≤ _; exact Nat.le_of_eq rfl) (hb hby at_233) (fun _ _ => ⟨rfl, rfl, (by decide : 6 + 0 ≤ _), (by decide : 20 + 0 ≤ _)⟩)
  dsimp only [Pt.U, Pt.locs, Pt.cells, Pt.slots] at X118 l118 y118 z118 st118 hQ118
  subst l118 y118 z118
  obtain ⟨rfl, N118q, e118⟩ := hQ118
  have N118 := Fr.app N117 N118q
  obtain ⟨fs, hr, hrun, hended, -, hWW, hBB, hSS⟩ := Stand.leaveW (s := s) (vm₁ := s.vm) X118 ((State.WarmedH.refl s).since 0) (by rw [e118]; exact (Nat.zero_le _)) (v := some (.int (1 : Int32))) (fun h => by rw [Bd.returns] at h; cases h)
  refine ⟨_, _, pre0 _ ?_, hrun, hended, _, _, rfl, ?_, ⟨_, rfl⟩, hWW, hBB, hSS.mono (by decide) (by decide)⟩
  · show Steps p.tables e below (s₁.setTop (mkF m 0 #[.val (.int ab), .val (.int de), .val (.int fr), .val (.int k0), .unset, .unset, .unset, .unset, .unset, .unset, .unset, .unset, .unset, .unset] [])) _
    refine to117 ab de fr k0 X0 hx hZ hw hby hown ?_
    rw [hlen, hidx]
    show Steps p.tables e below (s₁.setTop (mkF m 117 #[.val (.int ab), .val (.int de), .val (.int fr), .val (.int k0), .val (.int (cA ab)), .val (.int (cB ab)), .val (.int (cA de)), .val (.int (cB de)), .val (.int (Int32.ofNat n)), .val (.int (Int32.ofNat 3)), .val (.int (choF k0)), .val (.int (cF (choF k0) (cA ab) (cB ab) (cA de) (cB de) (cA fr))), .unset, .unset] [])) _
    refine XS.iload X0.here hx rfl (hb hby at_117) rfl ?_
    refine XS.iload X0.here hx rfl (hb hby at_119) rfl ?_
    refine XS.iload X0.here hx rfl (hb hby at_121) rfl ?_
    refine XS.iload X0.here hx rfl (hb hby at_123) rfl ?_
    refine XS.iload X0.here hx rfl (hb hby at_125) rfl ?_
    show Steps p.tables e below (s₁.setTop (mkF m 127 #[.val (.int ab), .val (.int de), .val (.int fr), .val (.int k0), .val (.int (cA ab)), .val (.int (cB ab)), .val (.int (cA de)), .val (.int (cB de)), .val (.int (Int32.ofNat n)), .val (.int (Int32.ofNat 3)), .val (.int (choF k0)), .val (.int (cF (choF k0) (cA ab) (cB ab) (cA de) (cB de) (cA fr))), .unset, .unset] [(.int (cB de)), (.int (cA de)), (.int (cB ab)), (.int (cA ab)), (.int (Int32.ofNat n))])) _
    refine st117 _ ?_
    refine XS.astore X117.here hx rfl (hb hby at_130) rfl rfl (l' := #[.val (.int ab), .val (.int de), .val (.int fr), .val (.int k0), .val (.int (cA ab)), .val (.int (cB ab)), .val (.int (cA de)), .val (.int (cB de)), .val (.int (Int32.ofNat n)), .val (.int (Int32.ofNat 3)), .val (.int (choF k0)), .val (.int (cF (choF k0) (cA ab) (cB ab) (cA de) (cB de) (cA fr))), .val (.ref o117), .unset]) rfl ?_
    refine XS.iload X117.here hx rfl (hb hby at_132) rfl ?_
    refine XS.iload X117.here hx rfl (hb hby at_134) rfl ?_
    refine XS.icmpYes X117.here hx rfl (pc0 := 136) (pc' := 145) rfl (hb hby at_136) rfl (tlt ((ltN (by omega) (by omega)).mpr hi)).1 (by decide) (by decide) ?_
    refine XS.iload X117.here hx rfl (hb hby at_145) rfl ?_
    show Steps p.tables e below (T117.setTop (mkF m 147 #[.val (.int ab), .val (.int de), .val (.int fr), .val (.int k0), .val (.int (cA ab)), .val (.int (cB ab)), .val (.int (cA de)), .val (.int (cB de)), .val (.int (Int32.ofNat n)), .val (.int (Int32.ofNat 3)), .val (.int (choF k0)), .val (.int (cF (choF k0) (cA ab) (cB ab) (cA de) (cB de) (cA fr))), .val (.ref o117), .unset] [(.int (Int32.ofNat 3))])) _
    refine XS.ifYes X117.here hx rfl (pc0 := 147) (pc' := 167) rfl (hb hby at_147) rfl ((if0 _ _).trans (feq (by decide)).2) (by decide) (by decide) ?_
    refine XS.iload X117.here hx rfl (hb hby at_167) rfl ?_
    refine XS.iconst X117.here hx rfl (hb hby at_169) ?_
    refine XS.icmpYes X117.here hx rfl (pc0 := 170) (pc' := 190) rfl (hb hby at_170) rfl (feq (by decide)).2 (by decide) (by decide) ?_
    refine XS.iload X117.here hx rfl (hb hby at_190) rfl ?_
    refine XS.iconst X117.here hx rfl (hb hby at_192) ?_
    show Steps p.tables e below (T117.setTop (mkF m 193 #[.val (.int ab), .val (.int de), .val (.int fr), .val (.int k0), .val (.int (cA ab)), .val (.int (cB ab)), .val (.int (cA de)), .val (.int (cB de)), .val (.int (Int32.ofNat n)), .val (.int (Int32.ofNat 3)), .val (.int (choF k0)), .val (.int (cF (choF k0) (cA ab) (cB ab) (cA de) (cB de) (cA fr))), .val (.ref o117), .unset] [(.int (2 : Int32)), (.int (Int32.ofNat 3))])) _
    refine XS.icmpYes X117.here hx rfl (pc0 := 193) (pc' := 213) rfl (hb hby at_193) rfl (feq (by decide)).2 (by decide) (by decide) ?_
    refine XS.iload X117.here hx rfl (hb hby at_213) rfl ?_
    refine XS.iload X117.here hx rfl (hb hby at_215) rfl ?_
    refine XS.icmpNo X117.here hx rfl (hb hby at_217) rfl (teq he).2 ?_
    refine XS.iconst X117.here hx rfl (hb hby at_220) ?_
    refine XS.goto X117.here hx rfl (pc0 := 221) (pc' := 225) rfl (hb hby at_221) (by decide) (by decide) ?_
    show Steps p.tables e below (T117.setTop (mkF m 225 #[.val (.int ab), .val (.int de), .val (.int fr), .val (.int k0), .val (.int (cA ab)), .val (.int (cB ab)), .val (.int (cA de)), .val (.int (cB de)), .val (.int (Int32.ofNat n)), .val (.int (Int32.ofNat 3)), .val (.int (choF k0)), .val (.int (cF (choF k0) (cA ab) (cB ab) (cA de) (cB de) (cA fr))), .val (.ref o117), .unset] [(.int (1 : Int32))])) _
    refine XS.istore X117.here hx rfl (hb hby at_225) rfl (l' := #[.val (.int ab), .val (.int de), .val (.int fr), .val (.int k0), .val (.int (cA ab)), .val (.int (cB ab)), .val (.int (cA de)), .val (.int (cB de)), .val (.int (Int32.ofNat n)), .val (.int (Int32.ofNat 3)), .val (.int (choF k0)), .val (.int (cF (choF k0) (cA ab) (cB ab) (cA de) (cB de) (cA fr))), .val (.ref o117), .val (.int (1 : Int32))]) rfl ?_
    refine XS.aload X117.here hx rfl (hb hby at_227) rfl rfl ?_
    refine XS.iload X117.here hx rfl (hb hby at_229) rfl ?_
    refine XS.iload X117.here hx rfl (hb hby at_231) rfl ?_
    show Steps p.tables e below (T117.setTop (mkF m 233 #[.val (.int ab), .val (.int de), .val (.int fr), .val (.int k0), .val (.int (cA ab)), .val (.int (cB ab)), .val (.int (cA de)), .val (.int (cB de)), .val (.int (Int32.ofNat n)), .val (.int (Int32.ofNat 3)), .val (.int (choF k0)), .val (.int (cF (choF k0) (cA ab) (cB ab) (cA de) (cB de) (cA fr))), .val (.ref o117), .val (.int (1 : Int32))] [(.int (cF (choF k0) (cA ab) (cB ab) (cA de) (cB de) (cA fr))), (.int (Int32.ofNat 3)), (.ref o117)])) _
    refine st118 _ ?_
    refine XS.iload X118.here hx rfl (hb hby at_236) rfl ?_
    refine XS.icmpNo X118.here hx rfl (hb hby at_238) rfl (teq (rfl : (1 : Int32) = (1 : Int32))).2 ?_
    refine XS.iconst X118.here hx rfl (hb hby at_241) ?_
    refine XS.goto X118.here hx rfl (pc0 := 242) (pc' := 246) rfl (hb hby at_242) (by decide) (by decide) ?_
    show Steps p.tables e below (T118.setTop (mkF m 246 #[.val (.int ab), .val (.int de), .val (.int fr), .val (.int k0), .val (.int (cA ab)), .val (.int (cB ab)), .val (.int (cA de)), .val (.int (cB de)), .val (.int (Int32.ofNat n)), .val (.int (Int32.ofNat 3)), .val (.int (choF k0)), .val (.int (cF (choF k0) (cA ab) (cB ab) (cA de) (cB de) (cA fr))), .val (.ref o117), .val (.int (1 : Int32))] [(.int (1 : Int32))])) _
    exact retN X118 hx (t := .boolean) Bd.returns (by simp) (hb hby at_246) hr
  · show Q0  h0 n0 _ T118.heap _
    exact ⟨rfl, N118⟩
set_option maxRecDepth 65536 in
set_option maxHeartbeats 40000000 in
theorem rm0_3n (l : Launch) (Z : State) (a0 : Array Value) (hw : ∀ d ∈ tables_1, d.before a0 Z = true) (ws : List Jvm.Cond) (ab : Int32) (de : Int32) (fr : Int32) (k0 : Int32)  (h0 : Heap) (n0 : Nat) (Z0 : n0 ≤ h0.size) (n : Nat) (hlen : lenF k0 = (Int32.ofNat n)) (hidx : idxF k0 = (Int32.ofNat 3)) (hn : n ≤ 4) (hp : 0 < n) (O : Old Z n0 h0) (SK : StrSta Z) (hi : 3 < n) (he : ¬ ((cB de) = (cF (choF k0) (cA ab) (cB ab) (cA de) (cB de) (cA fr))))  :
    MetFree l x (head1 (Jvm.Cond.code x code maxLocals ret :: ws) room_1) (fun aa_ U_ => aa_ = #[(.int ab), (.int de), (.int fr), (.int k0)] ∧ Z.Warmed39 U_.vm ∧ U_.heap = h0 ∧ CHv Z [("java/lang/String", 7)] U_.vm h0) (fun _ _ _ _ _ => True) (fun _ U_ o_ V_ => ∃ v_ L_, o_ = .returned v_ ∧ Q0  h0 n0 v_ V_.heap L_ ∧ ReturnedEndW U_ o_ V_ L_ room_1.cells room_1.slots) := by
  refine MetFree.of_bodySF (plainFor_of_name pn_0) hisR ?_
  intro p e s m args below meth c s₁ Bd hml0 hP hK
  obtain ⟨rfl, hZ, hh, CH0⟩ := hP
  have hx := Bd.exec
  have hby := Bd.bytes
  have hml : c.maxLocals = 14 := hml0
  have hown : s.vm.findClass "org/keyreturn/sql/WordsIsAtPinLaw" = some m.cls := findClass_of_methodNamed Bd.named
  have hnm := (name_of_methodNamed Bd.named Bd.method).1
  have X0 : Stand p l e room_1 s m #[(.int ab), (.int de), (.int fr), (.int k0)] below meth c s₁ [] 0 0 := Stand.of_body Bd
  have e0 : s₁.heap = h0 := by rw [← hh, Bd.state]; rfl
  have N0 := Fr.nil n0
  have pre0 : ∀ zz, Steps p.tables e below (s₁.setTop (mkF m 0 #[.val (.int ab), .val (.int de), .val (.int fr), .val (.int k0), .unset, .unset, .unset, .unset, .unset, .unset, .unset, .unset, .unset, .unset] [])) zz → Steps p.tables e below (s₁.setTop (entryFrame m #[(.int ab), (.int de), (.int fr), (.int k0)] maxLocals)) zz := fun zz k => castTop (ef_0 m ab de fr k0) k
  obtain ⟨_, _, ⟨T119, L119, k119, n119⟩, -, X119, ⟨Lc119, hQ119, l119, y119, z119⟩, st119⟩ := Jvm.LawKit.callS X0 hx (y := (⟨"org/keyreturn/sql/WordsIsAtPinLaw", "text", "(ICCCC)Ljava/lang/String;"⟩ : MethodName)) hown (mvT hZ (hw _ (List.mem_of_getElem? (i := 1) rfl))) (mvT hZ (hw _ (List.mem_of_getElem? (i := 2) rfl))) (mvT hZ (hw _ (List.mem_of_getElem? (i := 3) rfl))) (mvT hZ (hw _ (List.mem_of_getElem? (i := 4) rfl))) (by decide) (backOf (W := 0) (rmT l Z a0 hw [] n (cA ab) (cB ab) (cA de) (cB de) h0 n0 Z0 hn hp O SK (cA_ch _) (cB_ch _) (cA_ch _) (cB_ch _)) hZ (hw _ (List.mem_of_getElem? (i := 4) rfl)) (hw _ (List.mem_of_getElem? (i := 3) rfl)) (by decide) (by decide)) (g := (mkF m 127 #[.val (.int ab), .val (.int de), .val (.int fr), .val (.int k0), .val (.int (cA ab)), .val (.int (cB ab)), .val (.int (cA de)), .val (.int (cB de)), .val (.int (Int32.ofNat n)), .val (.int (Int32.ofNat 3)), .val (.int (choF k0)), .val (.int (cF (choF k0) (cA ab) (cB ab) (cA de) (cB de) (cA fr))), .unset, .unset] [(.int (cB de)), (.int (cA de)), (.int (cB ab)), (.int (cA ab)), (.int (Int32.ofNat n))])) rfl (by rw [hml]; rfl) (argsL := [(.int (Int32.ofNat n)), (.int (cA ab)), (.int (cB ab)), (.int (cA de)), (.int (cB de))]) (rest := []) (lenOf pd_0 rfl) rfl (by show 2 * 0 + _ ≤ _; exact Nat.le_of_eq rfl) (hb hby at_127) (fun _ _ => ⟨rfl, e0, (by decide : 0 + 6 ≤ _), (by decide : 0 + 20 ≤ _)⟩)
  dsimp only [Pt.U, Pt.locs, Pt.cells, Pt.slots] at X119 l119 y119 z119 st119 hQ119
  subst l119 y119 z119
  obtain ⟨o119, rfl, N119q, K119, S119⟩ := hQ119
  have N119 := Fr.app N0 N119q
  have KK119 := (Keep.refl h0 []).trans K119 (fun x r => absurd r List.not_mem_nil)
  have Z119 : n0 ≤ T119.heap.size := Nat.le_trans Z0 K119.1
  have O119 := O.keep K119 all0'
  obtain ⟨_, _, ⟨T120, L120, k120, n120⟩, -, X120, ⟨Lc120, hQ120, l120, y120, z120⟩, st120⟩ := Jvm.LawKit.callS X119 hx (y := (⟨"org/keyreturn/sql/Words", "isAt", "(Ljava/lang/String;IC)Z"⟩ : MethodName)) hown (mvT hZ (hw _ (List.mem_of_getElem? (i := 35) rfl))) (mvT hZ (hw _ (List.mem_of_getElem? (i := 36) rfl))) (mvT hZ (hw _ (List.mem_of_getElem? (i := 37) rfl))) (mvT hZ (hw _ (List.mem_of_getElem? (i := 38) rfl))) (by decide) (backOf (W := 0) (rmIA2 l Z a0 hw [] o119 3 n (cF (choF k0) (cA ab) (cB ab) (cA de) (cB de) (cA fr)) (gL (cA ab) (cB ab) (cA de) (cB de)) T119.heap n0 Z119 (by omega) hi he O119 SK S119) hZ (hw _ (List.mem_of_getElem? (i := 38) rfl)) (hw _ (List.mem_of_getElem? (i := 37) rfl)) (by decide) (by decide)) (g := (mkF m 233 #[.val (.int ab), .val (.int de), .val (.int fr), .val (.int k0), .val (.int (cA ab)), .val (.int (cB ab)), .val (.int (cA de)), .val (.int (cB de)), .val (.int (Int32.ofNat n)), .val (.int (Int32.ofNat 3)), .val (.int (choF k0)), .val (.int (cF (choF k0) (cA ab) (cB ab) (cA de) (cB de) (cA fr))), .val (.ref o119), .val (.int (0 : Int32))] [(.int (cF (choF k0) (cA ab) (cB ab) (cA de) (cB de) (cA fr))), (.int (Int32.ofNat 3)), (.ref o119)])) rfl (by rw [hml]; rfl) (argsL := [(.ref o119), (.int (Int32.ofNat 3)), (.int (cF (choF k0) (cA ab) (cB ab) (cA de) (cB de) (cA fr)))]) (rest := []) (lenOf pd_7 rfl) rfl (by show 2 * 0 + _ ≤ _; exact Nat.le_of_eq rfl) (hb hby at_233) (fun _ _ => ⟨rfl, rfl, (by decide : 6 + 0 ≤ _), (by decide : 20 + 0 ≤ _)⟩)
  dsimp only [Pt.U, Pt.locs, Pt.cells, Pt.slots] at X120 l120 y120 z120 st120 hQ120
  subst l120 y120 z120
  obtain ⟨rfl, N120q, e120⟩ := hQ120
  have N120 := Fr.app N119 N120q
  obtain ⟨fs, hr, hrun, hended, -, hWW, hBB, hSS⟩ := Stand.leaveW (s := s) (vm₁ := s.vm) X120 ((State.WarmedH.refl s).since 0) (by rw [e120]; exact (Nat.zero_le _)) (v := some (.int (1 : Int32))) (fun h => by rw [Bd.returns] at h; cases h)
  refine ⟨_, _, pre0 _ ?_, hrun, hended, _, _, rfl, ?_, ⟨_, rfl⟩, hWW, hBB, hSS.mono (by decide) (by decide)⟩
  · show Steps p.tables e below (s₁.setTop (mkF m 0 #[.val (.int ab), .val (.int de), .val (.int fr), .val (.int k0), .unset, .unset, .unset, .unset, .unset, .unset, .unset, .unset, .unset, .unset] [])) _
    refine to117 ab de fr k0 X0 hx hZ hw hby hown ?_
    rw [hlen, hidx]
    show Steps p.tables e below (s₁.setTop (mkF m 117 #[.val (.int ab), .val (.int de), .val (.int fr), .val (.int k0), .val (.int (cA ab)), .val (.int (cB ab)), .val (.int (cA de)), .val (.int (cB de)), .val (.int (Int32.ofNat n)), .val (.int (Int32.ofNat 3)), .val (.int (choF k0)), .val (.int (cF (choF k0) (cA ab) (cB ab) (cA de) (cB de) (cA fr))), .unset, .unset] [])) _
    refine XS.iload X0.here hx rfl (hb hby at_117) rfl ?_
    refine XS.iload X0.here hx rfl (hb hby at_119) rfl ?_
    refine XS.iload X0.here hx rfl (hb hby at_121) rfl ?_
    refine XS.iload X0.here hx rfl (hb hby at_123) rfl ?_
    refine XS.iload X0.here hx rfl (hb hby at_125) rfl ?_
    show Steps p.tables e below (s₁.setTop (mkF m 127 #[.val (.int ab), .val (.int de), .val (.int fr), .val (.int k0), .val (.int (cA ab)), .val (.int (cB ab)), .val (.int (cA de)), .val (.int (cB de)), .val (.int (Int32.ofNat n)), .val (.int (Int32.ofNat 3)), .val (.int (choF k0)), .val (.int (cF (choF k0) (cA ab) (cB ab) (cA de) (cB de) (cA fr))), .unset, .unset] [(.int (cB de)), (.int (cA de)), (.int (cB ab)), (.int (cA ab)), (.int (Int32.ofNat n))])) _
    refine st119 _ ?_
    refine XS.astore X119.here hx rfl (hb hby at_130) rfl rfl (l' := #[.val (.int ab), .val (.int de), .val (.int fr), .val (.int k0), .val (.int (cA ab)), .val (.int (cB ab)), .val (.int (cA de)), .val (.int (cB de)), .val (.int (Int32.ofNat n)), .val (.int (Int32.ofNat 3)), .val (.int (choF k0)), .val (.int (cF (choF k0) (cA ab) (cB ab) (cA de) (cB de) (cA fr))), .val (.ref o119), .unset]) rfl ?_
    refine XS.iload X119.here hx rfl (hb hby at_132) rfl ?_
    refine XS.iload X119.here hx rfl (hb hby at_134) rfl ?_
    refine XS.icmpYes X119.here hx rfl (pc0 := 136) (pc' := 145) rfl (hb hby at_136) rfl (tlt ((ltN (by omega) (by omega)).mpr hi)).1 (by decide) (by decide) ?_
    refine XS.iload X119.here hx rfl (hb hby at_145) rfl ?_
    show Steps p.tables e below (T119.setTop (mkF m 147 #[.val (.int ab), .val (.int de), .val (.int fr), .val (.int k0), .val (.int (cA ab)), .val (.int (cB ab)), .val (.int (cA de)), .val (.int (cB de)), .val (.int (Int32.ofNat n)), .val (.int (Int32.ofNat 3)), .val (.int (choF k0)), .val (.int (cF (choF k0) (cA ab) (cB ab) (cA de) (cB de) (cA fr))), .val (.ref o119), .unset] [(.int (Int32.ofNat 3))])) _
    refine XS.ifYes X119.here hx rfl (pc0 := 147) (pc' := 167) rfl (hb hby at_147) rfl ((if0 _ _).trans (feq (by decide)).2) (by decide) (by decide) ?_
    refine XS.iload X119.here hx rfl (hb hby at_167) rfl ?_
    refine XS.iconst X119.here hx rfl (hb hby at_169) ?_
    refine XS.icmpYes X119.here hx rfl (pc0 := 170) (pc' := 190) rfl (hb hby at_170) rfl (feq (by decide)).2 (by decide) (by decide) ?_
    refine XS.iload X119.here hx rfl (hb hby at_190) rfl ?_
    refine XS.iconst X119.here hx rfl (hb hby at_192) ?_
    show Steps p.tables e below (T119.setTop (mkF m 193 #[.val (.int ab), .val (.int de), .val (.int fr), .val (.int k0), .val (.int (cA ab)), .val (.int (cB ab)), .val (.int (cA de)), .val (.int (cB de)), .val (.int (Int32.ofNat n)), .val (.int (Int32.ofNat 3)), .val (.int (choF k0)), .val (.int (cF (choF k0) (cA ab) (cB ab) (cA de) (cB de) (cA fr))), .val (.ref o119), .unset] [(.int (2 : Int32)), (.int (Int32.ofNat 3))])) _
    refine XS.icmpYes X119.here hx rfl (pc0 := 193) (pc' := 213) rfl (hb hby at_193) rfl (feq (by decide)).2 (by decide) (by decide) ?_
    refine XS.iload X119.here hx rfl (hb hby at_213) rfl ?_
    refine XS.iload X119.here hx rfl (hb hby at_215) rfl ?_
    refine XS.icmpYes X119.here hx rfl (pc0 := 217) (pc' := 224) rfl (hb hby at_217) rfl (feq he).2 (by decide) (by decide) ?_
    refine XS.iconst X119.here hx rfl (hb hby at_224) ?_
    refine XS.istore X119.here hx rfl (hb hby at_225) rfl (l' := #[.val (.int ab), .val (.int de), .val (.int fr), .val (.int k0), .val (.int (cA ab)), .val (.int (cB ab)), .val (.int (cA de)), .val (.int (cB de)), .val (.int (Int32.ofNat n)), .val (.int (Int32.ofNat 3)), .val (.int (choF k0)), .val (.int (cF (choF k0) (cA ab) (cB ab) (cA de) (cB de) (cA fr))), .val (.ref o119), .val (.int (0 : Int32))]) rfl ?_
    show Steps p.tables e below (T119.setTop (mkF m 227 #[.val (.int ab), .val (.int de), .val (.int fr), .val (.int k0), .val (.int (cA ab)), .val (.int (cB ab)), .val (.int (cA de)), .val (.int (cB de)), .val (.int (Int32.ofNat n)), .val (.int (Int32.ofNat 3)), .val (.int (choF k0)), .val (.int (cF (choF k0) (cA ab) (cB ab) (cA de) (cB de) (cA fr))), .val (.ref o119), .val (.int (0 : Int32))] [])) _
    refine XS.aload X119.here hx rfl (hb hby at_227) rfl rfl ?_
    refine XS.iload X119.here hx rfl (hb hby at_229) rfl ?_
    refine XS.iload X119.here hx rfl (hb hby at_231) rfl ?_
    show Steps p.tables e below (T119.setTop (mkF m 233 #[.val (.int ab), .val (.int de), .val (.int fr), .val (.int k0), .val (.int (cA ab)), .val (.int (cB ab)), .val (.int (cA de)), .val (.int (cB de)), .val (.int (Int32.ofNat n)), .val (.int (Int32.ofNat 3)), .val (.int (choF k0)), .val (.int (cF (choF k0) (cA ab) (cB ab) (cA de) (cB de) (cA fr))), .val (.ref o119), .val (.int (0 : Int32))] [(.int (cF (choF k0) (cA ab) (cB ab) (cA de) (cB de) (cA fr))), (.int (Int32.ofNat 3)), (.ref o119)])) _
    refine st120 _ ?_
    refine XS.iload X120.here hx rfl (hb hby at_236) rfl ?_
    refine XS.icmpNo X120.here hx rfl (hb hby at_238) rfl (teq (rfl : (0 : Int32) = (0 : Int32))).2 ?_
    refine XS.iconst X120.here hx rfl (hb hby at_241) ?_
    refine XS.goto X120.here hx rfl (pc0 := 242) (pc' := 246) rfl (hb hby at_242) (by decide) (by decide) ?_
    show Steps p.tables e below (T120.setTop (mkF m 246 #[.val (.int ab), .val (.int de), .val (.int fr), .val (.int k0), .val (.int (cA ab)), .val (.int (cB ab)), .val (.int (cA de)), .val (.int (cB de)), .val (.int (Int32.ofNat n)), .val (.int (Int32.ofNat 3)), .val (.int (choF k0)), .val (.int (cF (choF k0) (cA ab) (cB ab) (cA de) (cB de) (cA fr))), .val (.ref o119), .val (.int (0 : Int32))] [(.int (1 : Int32))])) _
    exact retN X120 hx (t := .boolean) Bd.returns (by simp) (hb hby at_246) hr
  · show Q0  h0 n0 _ T120.heap _
    exact ⟨rfl, N120⟩
set_option maxRecDepth 65536 in
set_option maxHeartbeats 40000000 in
theorem rm0 (l : Launch) (Z : State) (a0 : Array Value) (hw : ∀ d ∈ tables_1, d.before a0 Z = true) (ws : List Jvm.Cond) (ab : Int32) (de : Int32) (fr : Int32) (k0 : Int32)  (h0 : Heap) (n0 : Nat) (Z0 : n0 ≤ h0.size) (O : Old Z n0 h0) (SK : StrSta Z) (hEL : EW Z a0 [("java/lang/String", 7)])  :
    MetFree l x (head1 (Jvm.Cond.code x code maxLocals ret :: ws) room_1) (fun aa_ U_ => aa_ = #[(.int ab), (.int de), (.int fr), (.int k0)] ∧ Z.Warmed39 U_.vm ∧ U_.heap = h0 ∧ CHv Z [("java/lang/String", 7)] U_.vm h0) (fun _ _ _ _ _ => True) (fun _ U_ o_ V_ => ∃ v_ L_, o_ = .returned v_ ∧ Q0  h0 n0 v_ V_.heap L_ ∧ ReturnedEndW U_ o_ V_ L_ room_1.cells room_1.slots) := by
  obtain ⟨n, hn, hlen⟩ := lenF_is k0
  obtain ⟨i, hi8, hidx⟩ := idxF_is k0
  by_cases hp : 0 < n
  · by_cases hi : i < n
    · match i, hi, hidx with
      | 0, hi, hidx =>
        by_cases he : (cA ab) = (cF (choF k0) (cA ab) (cB ab) (cA de) (cB de) (cA fr))
        · exact rm0_0y l Z a0 hw ws ab de fr k0 h0 n0 Z0 n hlen hidx hn hp O SK hi he
        · exact rm0_0n l Z a0 hw ws ab de fr k0 h0 n0 Z0 n hlen hidx hn hp O SK hi he
      | 1, hi, hidx =>
        by_cases he : (cB ab) = (cF (choF k0) (cA ab) (cB ab) (cA de) (cB de) (cA fr))
        · exact rm0_1y l Z a0 hw ws ab de fr k0 h0 n0 Z0 n hlen hidx hn hp O SK hi he
        · exact rm0_1n l Z a0 hw ws ab de fr k0 h0 n0 Z0 n hlen hidx hn hp O SK hi he
      | 2, hi, hidx =>
        by_cases he : (cA de) = (cF (choF k0) (cA ab) (cB ab) (cA de) (cB de) (cA fr))
        · exact rm0_2y l Z a0 hw ws ab de fr k0 h0 n0 Z0 n hlen hidx hn hp O SK hi he
        · exact rm0_2n l Z a0 hw ws ab de fr k0 h0 n0 Z0 n hlen hidx hn hp O SK hi he
      | 3, hi, hidx =>
        by_cases he : (cB de) = (cF (choF k0) (cA ab) (cB ab) (cA de) (cB de) (cA fr))
        · exact rm0_3y l Z a0 hw ws ab de fr k0 h0 n0 Z0 n hlen hidx hn hp O SK hi he
        · exact rm0_3n l Z a0 hw ws ab de fr k0 h0 n0 Z0 n hlen hidx hn hp O SK hi he
      | k + 4, hi, hidx => exact absurd hi (by omega)
    · exact rm0_G l Z a0 hw ws ab de fr k0 i h0 n0 Z0 n hlen hidx hn hp O SK hi hi8
  · obtain rfl : n = 0 := by omega
    exact rm0_E l Z a0 hw ws ab de fr k0 i h0 n0 Z0 hlen hidx O SK hEL (by omega) hi8
set_option maxRecDepth 65536 in
set_option maxHeartbeats 40000000 in
theorem comes_1 {Post : Tables → Env → Array Value → State → Outcome → State → Prop} (hpost : ∀ tb e args s v u, (limb_1_1.after args s (.returned v) u = true ∧ limb_1_2.after args s (.returned v) u = true ∧ True) → FramedW s (.returned v) u (Jvm.fieldLocs frame_1_writes args s ++ Jvm.arrayLocs frame_1_arrays args s ++ Jvm.staticLocs frame_1_statics s) 24 1152 → Post tb e args s (.returned v) u) :
    ArmFor flags0 classFile x code maxLocals ret World_1 tables_1 room_1 Calls_1 rest_1 Pre_1 Post := by
  intro l hfl _ _ p e ha hc hk s m args below hf hA hF happ hP
  obtain ⟨hcalls, hrest, hpre⟩ := hP
  obtain ⟨-, -, -, hnamed, -, -, -, hat⟩ := (Spec.applies_iff hf).mp happ
  obtain ⟨hg, hn⟩ := and_e (Cond.before_iff.mp (show (Jvm.Cond.and given_1 narrow_1).before args s = true from hpre))
  obtain ⟨hcount, hg0⟩ := and_e hg
  obtain ⟨ha0, hg1⟩ := and_e hg0
  obtain ⟨ha1, hg2⟩ := and_e hg1
  obtain ⟨ha2, hg3⟩ := and_e hg2
  have ha3 := hg3
  obtain ⟨w0, w1, w2, w3, rfl⟩ : ∃ w0 w1 w2 w3 : Value, args = #[w0, w1, w2, w3] := by
    have hs : args.size = 4 := by simpa [Cond.value, given_1] using hcount
    obtain ⟨L⟩ := args
    match L, hs with
    | [w0, w1, w2, w3], _ => exact ⟨w0, w1, w2, w3, rfl⟩
  have hw := fun d (hd : d ∈ tables_1) => atoms_spec (ws := Jvm.Cond.code x code maxLocals ret :: tables_1) hat d (List.mem_cons_of_mem _ hd)
  have hfit : Fit s := fun {y c} hc i hi => by
    obtain ⟨ha, rfl⟩ := Array.getElem?_eq_some_iff.mp hc
    have q := List.all_eq_true.mp ((Array.all_eq_true_iff_forall_mem.mp hF) _ (Array.getElem_mem ha)) i (List.mem_range.mpr hi)
    simpa [Array.getElem?_eq_getElem hi] using q
  obtain ⟨hsets, hown0⟩ := atoms_of _ (rest_1_c_eq ▸ (show rest_1_c.before _ s = true from hrest))
  obtain ⟨i0, ei0⟩ := is_v ha0
  obtain rfl : w0 = (.int i0) := Option.some.inj ei0
  obtain ⟨i1, ei1⟩ := is_v ha1
  obtain rfl : w1 = (.int i1) := Option.some.inj ei1
  obtain ⟨i2, ei2⟩ := is_v ha2
  obtain rfl : w2 = (.int i2) := Option.some.inj ei2
  obtain ⟨i3, ei3⟩ := is_v ha3
  obtain rfl : w3 = (.int i3) := Option.some.inj ei3
  have n3 := not_v (Cond.before_iff.mp (hsets _ (List.mem_of_getElem? (i := 2) rfl)))
  obtain ⟨i7, e6⟩ := is_v (Cond.before_iff.mp (hsets _ (List.mem_of_getElem? (i := 1) rfl)))
  have S8 : Sta s s.heap "java/lang/String" "COMPACT_STRINGS" "Z" (.int i7) := Sta.start e6 (Or.inl (hsets _ (List.mem_of_getElem? (i := 0) rfl)))
  obtain ⟨v9, e10, r11⟩ := isR_v (Cond.before_iff.mp (hsets _ (List.mem_of_getElem? (i := 8) rfl)))
  have S12 : Sta s s.heap "jdk/internal/util/Preconditions" "SIOOBE_FORMATTER" "Ljava/util/function/BiFunction;" v9 := Sta.start e10 (Or.inl (hsets _ (List.mem_of_getElem? (i := 7) rfl)))
  have c13 : ¬ (i7 = (0 : Int32)) := gotF (Cond.eq_ints e6 (Term.int_eval (0))) n3
  have S13 : Sta s s.heap "java/lang/StringUTF16" "$assertionsDisabled" "Z" (.int (1 : Int32)) := Sta.start (eqI_v (Cond.before_iff.mp (hsets _ (List.mem_of_getElem? (i := 12) rfl)))) (Or.inl (hsets _ (List.mem_of_getElem? (i := 11) rfl)))
  have S14 : Sta s s.heap "java/lang/StringUTF16" "HI_BYTE_SHIFT" "I" (.int (0 : Int32)) := Sta.start (eqI_v (Cond.before_iff.mp (hsets _ (List.mem_of_getElem? (i := 15) rfl)))) (Or.inl (hsets _ (List.mem_of_getElem? (i := 14) rfl)))
  have S15 : Sta s s.heap "java/lang/StringUTF16" "LO_BYTE_SHIFT" "I" (.int (8 : Int32)) := Sta.start (eqI_v (Cond.before_iff.mp (hsets _ (List.mem_of_getElem? (i := 18) rfl)))) (Or.inl (hsets _ (List.mem_of_getElem? (i := 17) rfl)))
  have SK : StrSta s := ⟨⟨i7, c13, S8⟩, S13, S14, S15, by cases v9 <;> first | exact Or.inl S12 | exact Or.inr ⟨_, S12⟩ | (simp [Value.isRef] at r11)⟩
  have hcw : Jvm.Lit.compactW.before #[] s = true := hsets _ (List.mem_of_getElem? (i := 2) rfl)
  have hEL : EW s #[] [("java/lang/String", 7)] := EW.cons (hw _ (List.mem_of_getElem? (i := 71) rfl)) (by decide) EW.nil
  have CH0 : CHv s [("java/lang/String", 7)] s.vm s.heap := CHv.start hEL (fun p hp => hcalls.1 p hp) hcw (hw _ (List.mem_of_getElem? (i := 24) rfl)) (hw _ (List.mem_of_getElem? (i := 6) rfl))
  obtain ⟨n, o, h1, h2, h3, _, L, rfl, ⟨rfl, N⟩, hq⟩ := rm0 l s _ hw tables_1 i0 i1 i2 i3 s.heap s.heap.size (Nat.le_refl _) (Old.start s) SK hEL p e ha hc hk s m _ below hf ((Spec.applies_iff_loose hf).mp happ).1 ⟨rfl, State.Warmed39.refl s, rfl, CH0⟩ trivial
  refine ⟨n, _, h1, h2, h3, hpost _ _ _ _ _ _ ⟨Cond.after_iff.mpr rfl, Cond.after_iff.mpr (eq_i res_at (Term.int_eval (1)) rfl), trivial⟩ ⟨hq.1, hq.2.1, hq.2.2.1, (hq.2.2.2.sift fun y hy => Or.inr (N y hy)).mono (by decide) (by decide)⟩⟩
theorem main_1_1 : Claimed_1_1 := comes_1 fun _ _ _ _ _ _ h hF => ⟨h.1, hF⟩
theorem main_1_2 : Claimed_1_2 := comes_1 fun _ _ _ _ _ _ h hF => ⟨h.2.1, hF⟩
end Jvm.Pilot.@@N@@
namespace Jvm.Pilot.@@N@@
open Jvm Jvm.ClassFile Sem Op Lib Jvm.Free Jvm.Stand Jvm.Pilot.@@N@@.Jvm.D
/-! MADE BY PROGRAM (witnessworld.py) out of the Statement's table words and the real class files: 20 classes; the members and pool entries that the words name. The judged class is class 1, her method 2. -/
namespace start1
open Jvm.ClassFile
def u (s : String) : CpInfo := .utf8 (stringToUtf16 s)
/-- a pool by its gaps: so many unusable entries, then the entry; so many at the end -/
def gap : Nat → List CpInfo → List CpInfo
  | 0, r => r
  | n + 1, r => .unusable :: gap n r
def poolList (es : List (Nat × CpInfo)) (last : Nat) : List CpInfo := es.foldr (fun e r => gap e.1 (e.2 :: r)) (gap last [])
def pool (es : List (Nat × CpInfo)) (last : Nat) : Array CpInfo := ⟨poolList es last⟩
def fileOf (pool : Array CpInfo) (this : Nat) (attrs : Array Attribute := #[]) (ms : Array MethodInfo := #[]) (fl : Nat := 33) (sup : Nat := 0) (ifs : Array Nat := #[]) (fds : Array FieldInfo := #[]) : ClassFile where
  minorVersion := 0
  majorVersion := 65
  constantPool := pool
  accessFlags := fl
  thisClass := this
  superClass := sup
  interfaces := ifs
  fields := fds
  methods := ms
  attributes := attrs
def plain (name : String) (sup : Option ClassId) : Class where
  name := name
  kind := .ordinary
  loader := none
  accessFlags := 33
  super := sup
  interfaces := #[]
  cf := none
  fields := #[]
  methods := #[]
  instanceTypes := #[]
  staticTypes := #[]
  resolved := #[]
  callSites := []
  init := .initialized
  statics := none
  mirror := none

def pool0 : Array CpInfo := pool [(5, u "<init>"), (0, u "()V"), (1, .class_ 10), (1, u "java/lang/Object")] 113

def k0c0 : Code := { maxStack := 0, maxLocals := 1, code := object_method_1_code, exceptionTable := #[], attributes := #[] }
def k0m0 : Method := { name := "<init>", desc := "()V", sig := { parameters := [], returnType := none }, accessFlags := 1, code := some k0c0 }
/-- java/lang/Object -/
def k0 : Class := { plain "java/lang/Object" none with
  accessFlags := 33
  interfaces := #[]
  cf := some (fileOf pool0 8 #[] #[{ accessFlags := 1, nameIndex := 5, descriptorIndex := 6, attributes := #[] }] 33 0 #[] #[])
  fields := #[]
  methods := #[k0m0]
  instanceTypes := #[]
  staticTypes := #[]
  resolved := Array.replicate 124 none
  statics := none }

def pool1 : Array CpInfo := pool [(2, .class_ 4), (1, u "java/lang/Object"), (0, u "<init>"), (0, u "()V"), (0, .class_ 8), (0, u "java/lang/String"), (0, .methodref 7 10), (0, .nameAndType 5 11), (0, u "([C)V"), (0, .integer 65535), (0, .methodref 14 15), (0, .class_ 16), (0, .nameAndType 17 18), (0, u "org/keyreturn/sql/WordsIsAtPinLaw"), (0, u "text"), (0, u "(ICCCC)Ljava/lang/String;"), (0, .methodref 20 21), (0, .class_ 22), (0, .nameAndType 23 24), (0, u "org/keyreturn/sql/Words"), (0, u "isAt"), (0, u "(Ljava/lang/String;IC)Z"), (3, u "law"), (0, u "(IIII)Z")] 2

def k1m0 : Method := { name := "<init>", desc := "()V", sig := { parameters := [], returnType := none }, accessFlags := 2, code := none }
def k1c1 : Code := { maxStack := 6, maxLocals := 5, code := method_2_code, exceptionTable := #[], attributes := #[] }
def k1m1 : Method := { name := "text", desc := "(ICCCC)Ljava/lang/String;", sig := { parameters := [.int, .char, .char, .char, .char], returnType := some (.object "java/lang/String") }, accessFlags := 10, code := some k1c1 }
def k1c2 : Code := { maxStack := 5, maxLocals := 14, code := code, exceptionTable := #[], attributes := #[] }
def k1m2 : Method := { name := "law", desc := "(IIII)Z", sig := { parameters := [.int, .int, .int, .int], returnType := some .boolean }, accessFlags := 9, code := some k1c2 }
/-- org/keyreturn/sql/WordsIsAtPinLaw -/
def k1 : Class := { plain "org/keyreturn/sql/WordsIsAtPinLaw" (some 0) with
  accessFlags := 49
  interfaces := #[]
  cf := some (fileOf pool1 14 #[] #[{ accessFlags := 2, nameIndex := 5, descriptorIndex := 6, attributes := #[] }, { accessFlags := 10, nameIndex := 17, descriptorIndex := 18, attributes := #[] }, { accessFlags := 9, nameIndex := 28, descriptorIndex := 29, attributes := #[] }] 49 2 #[] #[])
  fields := #[]
  methods := #[k1m0, k1m1, k1m2]
  instanceTypes := #[]
  staticTypes := #[]
  resolved := Array.replicate 32 none
  statics := none }

def pool2 : Array CpInfo := pool [(1, .class_ 2), (0, u "java/io/Serializable"), (0, .class_ 4), (0, u "java/lang/Object")] 2

/-- java/io/Serializable -/
def k2 : Class := { plain "java/io/Serializable" (some 0) with
  accessFlags := 1537
  interfaces := #[]
  cf := some (fileOf pool2 1 #[] #[] 1537 3 #[] #[])
  fields := #[]
  methods := #[]
  instanceTypes := #[]
  staticTypes := #[]
  resolved := Array.replicate 7 none
  statics := none }

def pool3 : Array CpInfo := pool [(1, .class_ 2), (0, u "java/lang/Comparable"), (0, .class_ 4), (0, u "java/lang/Object")] 7

/-- java/lang/Comparable -/
def k3 : Class := { plain "java/lang/Comparable" (some 0) with
  accessFlags := 1537
  interfaces := #[]
  cf := some (fileOf pool3 1 #[] #[] 1537 3 #[] #[])
  fields := #[]
  methods := #[]
  instanceTypes := #[]
  staticTypes := #[]
  resolved := Array.replicate 12 none
  statics := none }

def pool4 : Array CpInfo := pool [(2, .class_ 4), (1, u "java/lang/CharSequence"), (42, .class_ 48), (0, u "java/lang/CharSequence$1CodePointIterator"), (10, .class_ 60), (0, u "java/lang/CharSequence$1CharIterator"), (5, .class_ 67), (0, u "java/lang/Object")] 63

/-- java/lang/CharSequence -/
def k4 : Class := { plain "java/lang/CharSequence" (some 0) with
  accessFlags := 1537
  interfaces := #[]
  cf := some (fileOf pool4 2 #[.nestMembers #[47, 59]] #[] 1537 66 #[] #[])
  fields := #[]
  methods := #[]
  instanceTypes := #[]
  staticTypes := #[]
  resolved := Array.replicate 131 none
  statics := none }

def pool5 : Array CpInfo := pool [(1, .class_ 2), (0, u "java/lang/constant/Constable"), (0, .class_ 4), (0, u "java/lang/Object")] 6

/-- java/lang/constant/Constable -/
def k5 : Class := { plain "java/lang/constant/Constable" (some 0) with
  accessFlags := 1537
  interfaces := #[]
  cf := some (fileOf pool5 1 #[] #[] 1537 3 #[] #[])
  fields := #[]
  methods := #[]
  instanceTypes := #[]
  staticTypes := #[]
  resolved := Array.replicate 11 none
  statics := none }

def pool6 : Array CpInfo := pool [(1, .class_ 2), (0, u "java/lang/constant/ConstantDesc"), (0, .class_ 4), (0, u "java/lang/Object")] 32

/-- java/lang/constant/ConstantDesc -/
def k6 : Class := { plain "java/lang/constant/ConstantDesc" (some 0) with
  accessFlags := 1537
  interfaces := #[]
  cf := some (fileOf pool6 1 #[] #[] 1537 3 #[] #[])
  fields := #[]
  methods := #[]
  instanceTypes := #[]
  staticTypes := #[]
  resolved := Array.replicate 37 none
  statics := none }

def pool7 : Array CpInfo := pool [(1, .methodref 2 3), (0, .class_ 4), (0, .nameAndType 5 6), (0, u "java/lang/Object"), (0, u "<init>"), (0, u "()V"), (0, .string 8), (0, u ""), (0, .fieldref 10 11), (0, .class_ 12), (0, .nameAndType 13 14), (0, u "java/lang/String"), (0, u "value"), (0, u "[B"), (0, .fieldref 10 16), (0, .nameAndType 17 18), (0, u "coder"), (0, u "B"), (2, u "hash"), (0, u "I"), (2, u "hashIsZero"), (0, u "Z"), (0, .methodref 10 28), (0, .nameAndType 5 29), (0, u "([CIILjava/lang/Void;)V"), (8, .fieldref 10 39), (0, .nameAndType 40 26), (0, u "COMPACT_STRINGS"), (1, .class_ 44), (1, u "java/lang/StringUTF16"), (0, u "compress"), (1, .methodref 42 48), (0, .nameAndType 49 50), (0, u "coderFromArrayLen"), (0, u "([BI)B"), (56, .class_ 109), (1, u "java/lang/StringLatin1"), (32, u "()Z"), (34, .methodref 42 178), (0, .nameAndType 45 179), (0, u "([CII)[B"), (154, u "()I"), (0, .methodref 10 336), (0, .nameAndType 17 337), (0, u "()B"), (25, u "([BI)C"), (27, u "(II)V"), (35, u "(I)C"), (64, .methodref 10 493), (0, .nameAndType 494 142), (0, u "isLatin1"), (0, .methodref 107 496), (0, .nameAndType 497 363), (0, u "charAt"), (0, .methodref 42 496), (2, u "checkIndex"), (5, u "length"), (67, .class_ 576), (0, u "java/lang/CharSequence"), (22, u "CASE_INSENSITIVE_ORDER"), (0, u "Ljava/util/Comparator;"), (409, u "([C)V"), (42, .fieldref 1054 1055), (0, .class_ 1056), (0, .nameAndType 1057 1058), (0, u "jdk/internal/util/Preconditions"), (0, u "SIOOBE_FORMATTER"), (0, u "Ljava/util/function/BiFunction;"), (0, .methodref 1054 1060), (0, .nameAndType 501 1061), (0, u "(IILjava/util/function/BiFunction;)I"), (39, u "serialPersistentFields"), (0, u "[Ljava/io/ObjectStreamField;"), (0, .class_ 1104), (0, u "java/lang/String$CaseInsensitiveComparator"), (1, .class_ 1107), (0, u "java/io/Serializable"), (0, .class_ 1109), (0, u "java/lang/Comparable"), (0, .class_ 1111), (0, u "java/lang/constant/Constable"), (0, .class_ 1113), (0, u "java/lang/constant/ConstantDesc"), (2, u "serialVersionUID"), (0, u "J"), (3, u "REPL"), (0, u "C"), (2, u "LATIN1"), (1, u "UTF16")] 323

def k7m0 : Method := { name := "<init>", desc := "()V", sig := { parameters := [], returnType := none }, accessFlags := 1, code := none }
def k7c1 : Code := { maxStack := 5, maxLocals := 2, code := jdk_42_method_3_code, exceptionTable := #[], attributes := #[] }
def k7m1 : Method := { name := "<init>", desc := "([C)V", sig := { parameters := [(.array .char)], returnType := none }, accessFlags := 1, code := some k7c1 }
def k7c2 : Code := { maxStack := 2, maxLocals := 1, code := jdk_42_method_54_code, exceptionTable := #[], attributes := #[] }
def k7m2 : Method := { name := "length", desc := "()I", sig := { parameters := [], returnType := some .int }, accessFlags := 1, code := some k7c2 }
def k7c3 : Code := { maxStack := 2, maxLocals := 2, code := jdk_42_method_56_code, exceptionTable := #[], attributes := #[] }
def k7m3 : Method := { name := "charAt", desc := "(I)C", sig := { parameters := [.int], returnType := some .char }, accessFlags := 1, code := some k7c3 }
def k7c4 : Code := { maxStack := 4, maxLocals := 6, code := jdk_42_method_149_code, exceptionTable := #[], attributes := #[] }
def k7m4 : Method := { name := "<init>", desc := "([CIILjava/lang/Void;)V", sig := { parameters := [(.array .char), .int, .int, (.object "java/lang/Void")], returnType := none }, accessFlags := 2, code := some k7c4 }
def k7c5 : Code := { maxStack := 1, maxLocals := 1, code := jdk_42_method_152_code, exceptionTable := #[], attributes := #[] }
def k7m5 : Method := { name := "coder", desc := "()B", sig := { parameters := [], returnType := some .byte }, accessFlags := 0, code := some k7c5 }
def k7c6 : Code := { maxStack := 1, maxLocals := 1, code := jdk_42_method_154_code, exceptionTable := #[], attributes := #[] }
def k7m6 : Method := { name := "isLatin1", desc := "()Z", sig := { parameters := [], returnType := some .boolean }, accessFlags := 0, code := some k7c6 }
def k7c7 : Code := { maxStack := 3, maxLocals := 2, code := jdk_42_method_155_code, exceptionTable := #[], attributes := #[] }
def k7m7 : Method := { name := "checkIndex", desc := "(II)V", sig := { parameters := [.int, .int], returnType := none }, accessFlags := 8, code := some k7c7 }
/-- java/lang/String -/
def k7 : Class := { plain "java/lang/String" (some 0) with
  accessFlags := 49
  interfaces := #[2, 3, 4, 5, 6]
  cf := some (fileOf pool7 10 #[.nestMembers #[1103]] #[{ accessFlags := 1, nameIndex := 5, descriptorIndex := 6, attributes := #[] }, { accessFlags := 1, nameIndex := 5, descriptorIndex := 1010, attributes := #[] }, { accessFlags := 1, nameIndex := 507, descriptorIndex := 334, attributes := #[] }, { accessFlags := 1, nameIndex := 497, descriptorIndex := 427, attributes := #[] }, { accessFlags := 2, nameIndex := 5, descriptorIndex := 29, attributes := #[] }, { accessFlags := 0, nameIndex := 17, descriptorIndex := 337, attributes := #[] }, { accessFlags := 0, nameIndex := 494, descriptorIndex := 142, attributes := #[] }, { accessFlags := 8, nameIndex := 501, descriptorIndex := 391, attributes := #[] }] 49 2 #[1106, 1108, 575, 1110, 1112] #[{ accessFlags := 18, nameIndex := 13, descriptorIndex := 14, attributes := #[] }, { accessFlags := 18, nameIndex := 17, descriptorIndex := 18, attributes := #[] }, { accessFlags := 2, nameIndex := 21, descriptorIndex := 22, attributes := #[] }, { accessFlags := 2, nameIndex := 25, descriptorIndex := 26, attributes := #[] }, { accessFlags := 26, nameIndex := 1116, descriptorIndex := 1117, attributes := #[] }, { accessFlags := 24, nameIndex := 40, descriptorIndex := 26, attributes := #[] }, { accessFlags := 26, nameIndex := 1101, descriptorIndex := 1102, attributes := #[] }, { accessFlags := 26, nameIndex := 1121, descriptorIndex := 1122, attributes := #[] }, { accessFlags := 25, nameIndex := 599, descriptorIndex := 600, attributes := #[] }, { accessFlags := 24, nameIndex := 1125, descriptorIndex := 18, attributes := #[] }, { accessFlags := 24, nameIndex := 1127, descriptorIndex := 18, attributes := #[] }])
  fields := #[{ name := "value", type := (.array .byte), accessFlags := 18, slot := 0, constantValue := 0 }, { name := "coder", type := .byte, accessFlags := 18, slot := 1, constantValue := 0 }, { name := "hash", type := .int, accessFlags := 2, slot := 2, constantValue := 0 }, { name := "hashIsZero", type := .boolean, accessFlags := 2, slot := 3, constantValue := 0 }, { name := "serialVersionUID", type := .long, accessFlags := 26, slot := 0, constantValue := 0 }, { name := "COMPACT_STRINGS", type := .boolean, accessFlags := 24, slot := 1, constantValue := 0 }, { name := "serialPersistentFields", type := (.array (.object "java/io/ObjectStreamField")), accessFlags := 26, slot := 2, constantValue := 0 }, { name := "REPL", type := .char, accessFlags := 26, slot := 3, constantValue := 0 }, { name := "CASE_INSENSITIVE_ORDER", type := (.object "java/util/Comparator"), accessFlags := 25, slot := 4, constantValue := 0 }, { name := "LATIN1", type := .byte, accessFlags := 24, slot := 5, constantValue := 0 }, { name := "UTF16", type := .byte, accessFlags := 24, slot := 6, constantValue := 0 }]
  methods := #[k7m0, k7m1, k7m2, k7m3, k7m4, k7m5, k7m6, k7m7]
  instanceTypes := #[(.array .byte), .byte, .int, .boolean]
  staticTypes := #[.long, .boolean, (.array (.object "java/io/ObjectStreamField")), .char, (.object "java/util/Comparator"), .byte, .byte]
  resolved := Array.replicate 1451 none
  statics := some 0 }

def pool8 : Array CpInfo := pool [(3, .class_ 4), (0, u "java/lang/String"), (1, .class_ 8), (1, u "java/lang/Object"), (0, u "<init>"), (0, u "()V"), (0, .methodref 12 13), (0, .class_ 14), (0, .nameAndType 15 16), (0, u "java/lang/StringUTF16"), (0, u "newBytesLength"), (0, u "(I)I"), (3, .integer 1073741823), (23, .fieldref 12 45), (0, .nameAndType 46 47), (0, u "$assertionsDisabled"), (0, u "Z"), (0, .methodref 12 49), (0, .nameAndType 50 51), (0, u "length"), (0, u "([B)I"), (7, .fieldref 12 60), (0, .nameAndType 61 62), (0, u "HI_BYTE_SHIFT"), (0, u "I"), (0, .fieldref 12 64), (0, .nameAndType 65 62), (0, u "LO_BYTE_SHIFT"), (1, .methodref 12 68), (0, .nameAndType 69 70), (0, u "checkIndex"), (0, u "(I[B)V"), (0, .methodref 12 72), (0, .nameAndType 73 74), (0, u "getChar"), (0, u "([BI)C"), (32, .methodref 12 108), (0, .nameAndType 109 110), (0, u "newBytesFor"), (0, u "(I)[B"), (0, .methodref 12 112), (0, .nameAndType 113 114), (0, u "putChar"), (0, u "([BII)V"), (0, .methodref 12 116), (0, .nameAndType 117 118), (0, u "compress"), (0, u "([CI[BII)I"), (0, .methodref 12 120), (0, .nameAndType 121 122), (0, u "toBytes"), (0, u "([CII)[B"), (138, u "coderFromArrayLen"), (0, u "([BI)B"), (106, .class_ 371), (1, u "java/lang/StringUTF16$LinesSpliterator"), (20, u "charAt"), (21, .methodref 3 415), (0, .nameAndType 69 416), (0, u "(II)V"), (13, u "MAX_LENGTH"), (196, .class_ 628), (0, u "java/lang/StringUTF16$CodePointsSpliterator"), (0, .class_ 630), (0, u "java/lang/StringUTF16$CharsSpliterator")] 4

def k8m0 : Method := { name := "<init>", desc := "()V", sig := { parameters := [], returnType := none }, accessFlags := 0, code := none }
def k8c1 : Code := { maxStack := 1, maxLocals := 1, code := jdk_52_method_2_code, exceptionTable := #[], attributes := #[] }
def k8m1 : Method := { name := "newBytesFor", desc := "(I)[B", sig := { parameters := [.int], returnType := some (.array .byte) }, accessFlags := 9, code := some k8c1 }
def k8c2 : Code := { maxStack := 4, maxLocals := 1, code := jdk_52_method_3_code, exceptionTable := #[], attributes := #[] }
def k8m2 : Method := { name := "newBytesLength", desc := "(I)I", sig := { parameters := [.int], returnType := some .int }, accessFlags := 9, code := some k8c2 }
def k8c3 : Code := { maxStack := 4, maxLocals := 3, code := jdk_52_method_4_code, exceptionTable := #[], attributes := #[] }
def k8m3 : Method := { name := "putChar", desc := "([BII)V", sig := { parameters := [(.array .byte), .int, .int], returnType := none }, accessFlags := 8, code := some k8c3 }
def k8c4 : Code := { maxStack := 3, maxLocals := 2, code := jdk_52_method_5_code, exceptionTable := #[], attributes := #[] }
def k8m4 : Method := { name := "getChar", desc := "([BI)C", sig := { parameters := [(.array .byte), .int], returnType := some .char }, accessFlags := 8, code := some k8c4 }
def k8c5 : Code := { maxStack := 2, maxLocals := 1, code := jdk_52_method_6_code, exceptionTable := #[], attributes := #[] }
def k8m5 : Method := { name := "length", desc := "([B)I", sig := { parameters := [(.array .byte)], returnType := some .int }, accessFlags := 9, code := some k8c5 }
def k8c6 : Code := { maxStack := 4, maxLocals := 5, code := jdk_52_method_14_code, exceptionTable := #[], attributes := #[] }
def k8m6 : Method := { name := "toBytes", desc := "([CII)[B", sig := { parameters := [(.array .char), .int, .int], returnType := some (.array .byte) }, accessFlags := 9, code := some k8c6 }
def k8c7 : Code := { maxStack := 2, maxLocals := 2, code := jdk_52_method_15_code, exceptionTable := #[], attributes := #[] }
def k8m7 : Method := { name := "coderFromArrayLen", desc := "([BI)B", sig := { parameters := [(.array .byte), .int], returnType := some .byte }, accessFlags := 8, code := some k8c7 }
def k8c8 : Code := { maxStack := 5, maxLocals := 6, code := jdk_52_method_16_code, exceptionTable := #[], attributes := #[] }
def k8m8 : Method := { name := "compress", desc := "([CII)[B", sig := { parameters := [(.array .char), .int, .int], returnType := some (.array .byte) }, accessFlags := 9, code := some k8c8 }
def k8c9 : Code := { maxStack := 3, maxLocals := 7, code := jdk_52_method_21_code, exceptionTable := #[], attributes := #[] }
def k8m9 : Method := { name := "compress", desc := "([CI[BII)I", sig := { parameters := [(.array .char), .int, (.array .byte), .int, .int], returnType := some .int }, accessFlags := 9, code := some k8c9 }
def k8c10 : Code := { maxStack := 2, maxLocals := 2, code := jdk_52_method_83_code, exceptionTable := #[], attributes := #[] }
def k8m10 : Method := { name := "charAt", desc := "([BI)C", sig := { parameters := [(.array .byte), .int], returnType := some .char }, accessFlags := 9, code := some k8c10 }
def k8c11 : Code := { maxStack := 2, maxLocals := 2, code := jdk_52_method_91_code, exceptionTable := #[], attributes := #[] }
def k8m11 : Method := { name := "checkIndex", desc := "(I[B)V", sig := { parameters := [.int, (.array .byte)], returnType := none }, accessFlags := 9, code := some k8c11 }
/-- java/lang/StringUTF16 -/
def k8 : Class := { plain "java/lang/StringUTF16" (some 0) with
  accessFlags := 48
  interfaces := #[]
  cf := some (fileOf pool8 12 #[.nestMembers #[627, 629, 369]] #[{ accessFlags := 0, nameIndex := 9, descriptorIndex := 10, attributes := #[] }, { accessFlags := 9, nameIndex := 109, descriptorIndex := 110, attributes := #[] }, { accessFlags := 9, nameIndex := 15, descriptorIndex := 16, attributes := #[] }, { accessFlags := 8, nameIndex := 113, descriptorIndex := 114, attributes := #[] }, { accessFlags := 8, nameIndex := 73, descriptorIndex := 74, attributes := #[] }, { accessFlags := 9, nameIndex := 50, descriptorIndex := 51, attributes := #[] }, { accessFlags := 9, nameIndex := 121, descriptorIndex := 122, attributes := #[] }, { accessFlags := 8, nameIndex := 261, descriptorIndex := 262, attributes := #[] }, { accessFlags := 9, nameIndex := 117, descriptorIndex := 122, attributes := #[] }, { accessFlags := 9, nameIndex := 117, descriptorIndex := 118, attributes := #[] }, { accessFlags := 9, nameIndex := 392, descriptorIndex := 74, attributes := #[] }, { accessFlags := 9, nameIndex := 69, descriptorIndex := 70, attributes := #[] }] 48 6 #[] #[{ accessFlags := 26, nameIndex := 61, descriptorIndex := 62, attributes := #[] }, { accessFlags := 26, nameIndex := 65, descriptorIndex := 62, attributes := #[] }, { accessFlags := 24, nameIndex := 430, descriptorIndex := 62, attributes := #[] }, { accessFlags := 4120, nameIndex := 46, descriptorIndex := 47, attributes := #[] }])
  fields := #[{ name := "HI_BYTE_SHIFT", type := .int, accessFlags := 26, slot := 0, constantValue := 0 }, { name := "LO_BYTE_SHIFT", type := .int, accessFlags := 26, slot := 1, constantValue := 0 }, { name := "MAX_LENGTH", type := .int, accessFlags := 24, slot := 2, constantValue := 0 }, { name := "$assertionsDisabled", type := .boolean, accessFlags := 4120, slot := 3, constantValue := 0 }]
  methods := #[k8m0, k8m1, k8m2, k8m3, k8m4, k8m5, k8m6, k8m7, k8m8, k8m9, k8m10, k8m11]
  instanceTypes := #[]
  staticTypes := #[.int, .int, .int, .boolean]
  resolved := Array.replicate 635 none
  statics := some 1 }

def pool9 : Array CpInfo := pool [(2, .class_ 4), (1, u "java/lang/Object"), (0, u "<init>"), (0, u "()V"), (1, .class_ 10), (1, u "org/keyreturn/sql/Words"), (2, .methodref 14 15), (0, .class_ 16), (0, .nameAndType 17 18), (0, u "java/lang/String"), (0, u "length"), (0, u "()I"), (0, .methodref 14 20), (0, .nameAndType 21 22), (0, u "charAt"), (0, u "(I)C"), (39, u "isAt"), (0, u "(Ljava/lang/String;IC)Z")] 55

def k9m0 : Method := { name := "<init>", desc := "()V", sig := { parameters := [], returnType := none }, accessFlags := 2, code := none }
def k9c1 : Code := { maxStack := 2, maxLocals := 3, code := prog_51_method_10_code, exceptionTable := #[], attributes := #[] }
def k9m1 : Method := { name := "isAt", desc := "(Ljava/lang/String;IC)Z", sig := { parameters := [(.object "java/lang/String"), .int, .char], returnType := some .boolean }, accessFlags := 8, code := some k9c1 }
/-- org/keyreturn/sql/Words -/
def k9 : Class := { plain "org/keyreturn/sql/Words" (some 0) with
  accessFlags := 48
  interfaces := #[]
  cf := some (fileOf pool9 8 #[] #[{ accessFlags := 2, nameIndex := 5, descriptorIndex := 6, attributes := #[] }, { accessFlags := 8, nameIndex := 62, descriptorIndex := 63, attributes := #[] }] 48 2 #[] #[])
  fields := #[]
  methods := #[k9m0, k9m1]
  instanceTypes := #[]
  staticTypes := #[]
  resolved := Array.replicate 119 none
  statics := none }

def pool10 : Array CpInfo := pool [(1, .class_ 2), (0, u "java/lang/String"), (1, .class_ 6), (1, u "java/lang/Object"), (0, u "<init>"), (0, u "()V"), (0, .methodref 1 10), (0, .nameAndType 11 12), (0, u "checkIndex"), (0, u "(II)V"), (1, .class_ 16), (1, u "java/lang/StringLatin1"), (36, u "([BI)C"), (67, u "$assertionsDisabled"), (0, u "Z"), (98, .class_ 223), (1, u "java/lang/StringLatin1$LinesSpliterator"), (28, u "charAt"), (137, .class_ 391), (0, u "java/lang/StringLatin1$CharsSpliterator")] 3

def k10m0 : Method := { name := "<init>", desc := "()V", sig := { parameters := [], returnType := none }, accessFlags := 0, code := none }
def k10c1 : Code := { maxStack := 2, maxLocals := 2, code := jdk_43_method_2_code, exceptionTable := #[], attributes := #[] }
def k10m1 : Method := { name := "charAt", desc := "([BI)C", sig := { parameters := [(.array .byte), .int], returnType := some .char }, accessFlags := 9, code := some k10c1 }
/-- java/lang/StringLatin1 -/
def k10 : Class := { plain "java/lang/StringLatin1" (some 0) with
  accessFlags := 48
  interfaces := #[]
  cf := some (fileOf pool10 14 #[.nestMembers #[390, 221]] #[{ accessFlags := 0, nameIndex := 7, descriptorIndex := 8, attributes := #[] }, { accessFlags := 9, nameIndex := 252, descriptorIndex := 53, attributes := #[] }] 48 4 #[] #[{ accessFlags := 4120, nameIndex := 121, descriptorIndex := 122, attributes := #[] }])
  fields := #[{ name := "$assertionsDisabled", type := .boolean, accessFlags := 4120, slot := 0, constantValue := 0 }]
  methods := #[k10m0, k10m1]
  instanceTypes := #[]
  staticTypes := #[.boolean]
  resolved := Array.replicate 395 none
  statics := none }

def pool11 : Array CpInfo := pool [(2, .class_ 4), (1, u "java/lang/Object"), (0, u "<init>"), (0, u "()V"), (17, .class_ 26), (1, u "jdk/internal/util/Preconditions"), (6, u "checkIndex"), (21, .class_ 56), (0, u "jdk/internal/util/Preconditions$4"), (57, .class_ 115), (0, u "jdk/internal/util/Preconditions$1"), (7, u "SIOOBE_FORMATTER"), (0, u "Ljava/util/function/BiFunction;"), (0, .class_ 126), (0, u "jdk/internal/util/Preconditions$2"), (3, u "AIOOBE_FORMATTER"), (0, .class_ 132), (0, u "jdk/internal/util/Preconditions$3"), (3, u "IOOBE_FORMATTER"), (41, u "(IILjava/util/function/BiFunction;)I")] 15

def k11m0 : Method := { name := "<init>", desc := "()V", sig := { parameters := [], returnType := none }, accessFlags := 1, code := none }
def k11c1 : Code := { maxStack := 3, maxLocals := 3, code := jdk_41_method_11_code, exceptionTable := #[], attributes := #[] }
def k11m1 : Method := { name := "checkIndex", desc := "(IILjava/util/function/BiFunction;)I", sig := { parameters := [.int, .int, (.object "java/util/function/BiFunction")], returnType := some .int }, accessFlags := 9, code := some k11c1 }
/-- jdk/internal/util/Preconditions -/
def k11 : Class := { plain "jdk/internal/util/Preconditions" (some 0) with
  accessFlags := 33
  interfaces := #[]
  cf := some (fileOf pool11 24 #[.nestMembers #[55, 131, 125, 114]] #[{ accessFlags := 1, nameIndex := 5, descriptorIndex := 6, attributes := #[] }, { accessFlags := 9, nameIndex := 33, descriptorIndex := 178, attributes := #[] }] 33 2 #[] #[{ accessFlags := 25, nameIndex := 123, descriptorIndex := 124, attributes := #[] }, { accessFlags := 25, nameIndex := 130, descriptorIndex := 124, attributes := #[] }, { accessFlags := 25, nameIndex := 136, descriptorIndex := 124, attributes := #[] }])
  fields := #[{ name := "SIOOBE_FORMATTER", type := (.object "java/util/function/BiFunction"), accessFlags := 25, slot := 0, constantValue := 0 }, { name := "AIOOBE_FORMATTER", type := (.object "java/util/function/BiFunction"), accessFlags := 25, slot := 1, constantValue := 0 }, { name := "IOOBE_FORMATTER", type := (.object "java/util/function/BiFunction"), accessFlags := 25, slot := 2, constantValue := 0 }]
  methods := #[k11m0, k11m1]
  instanceTypes := #[]
  staticTypes := #[(.object "java/util/function/BiFunction"), (.object "java/util/function/BiFunction"), (.object "java/util/function/BiFunction")]
  resolved := Array.replicate 194 none
  statics := some 2 }

def pool12 : Array CpInfo := pool [(9, u "<init>"), (6, .class_ 18), (1, u "java/lang/Object"), (0, u "()V"), (1, .class_ 23), (1, u "jdk/internal/util/ArraysSupport"), (0, u "LOG2_ARRAY_LONG_INDEX_SCALE"), (0, u "I"), (2, u "U"), (0, u "Ljdk/internal/misc/Unsafe;"), (8, u "BIG_ENDIAN"), (0, u "Z"), (8, u "LOG2_BYTE_BIT_SIZE"), (4, u "LOG2_ARRAY_INT_INDEX_SCALE"), (54, u "JLA"), (0, u "Ljdk/internal/access/JavaLangAccess;"), (11, u "LOG2_ARRAY_BOOLEAN_INDEX_SCALE"), (9, u "LOG2_ARRAY_BYTE_INDEX_SCALE"), (5, u "LOG2_ARRAY_CHAR_INDEX_SCALE"), (5, u "LOG2_ARRAY_SHORT_INDEX_SCALE"), (18, u "LOG2_ARRAY_FLOAT_INDEX_SCALE"), (24, u "LOG2_ARRAY_DOUBLE_INDEX_SCALE"), (89, u "T_BOOLEAN"), (2, u "T_CHAR"), (1, u "T_FLOAT"), (1, u "T_DOUBLE"), (1, u "T_BYTE"), (1, u "T_SHORT"), (1, u "T_INT"), (1, u "T_LONG"), (1, u "SOFT_MAX_ARRAY_LENGTH")] 83

def k12m0 : Method := { name := "<init>", desc := "()V", sig := { parameters := [], returnType := none }, accessFlags := 2, code := none }
/-- jdk/internal/util/ArraysSupport -/
def k12 : Class := { plain "jdk/internal/util/ArraysSupport" (some 0) with
  accessFlags := 33
  interfaces := #[]
  cf := some (fileOf pool12 21 #[] #[{ accessFlags := 2, nameIndex := 9, descriptorIndex := 19, attributes := #[] }] 33 16 #[] #[{ accessFlags := 24, nameIndex := 28, descriptorIndex := 29, attributes := #[] }, { accessFlags := 26, nameIndex := 38, descriptorIndex := 39, attributes := #[] }, { accessFlags := 25, nameIndex := 121, descriptorIndex := 25, attributes := #[] }, { accessFlags := 25, nameIndex := 131, descriptorIndex := 25, attributes := #[] }, { accessFlags := 25, nameIndex := 137, descriptorIndex := 25, attributes := #[] }, { accessFlags := 25, nameIndex := 143, descriptorIndex := 25, attributes := #[] }, { accessFlags := 25, nameIndex := 53, descriptorIndex := 25, attributes := #[] }, { accessFlags := 25, nameIndex := 24, descriptorIndex := 25, attributes := #[] }, { accessFlags := 25, nameIndex := 162, descriptorIndex := 25, attributes := #[] }, { accessFlags := 25, nameIndex := 187, descriptorIndex := 25, attributes := #[] }, { accessFlags := 26, nameIndex := 48, descriptorIndex := 25, attributes := #[] }, { accessFlags := 25, nameIndex := 277, descriptorIndex := 25, attributes := #[] }, { accessFlags := 25, nameIndex := 280, descriptorIndex := 25, attributes := #[] }, { accessFlags := 25, nameIndex := 282, descriptorIndex := 25, attributes := #[] }, { accessFlags := 25, nameIndex := 284, descriptorIndex := 25, attributes := #[] }, { accessFlags := 25, nameIndex := 286, descriptorIndex := 25, attributes := #[] }, { accessFlags := 25, nameIndex := 288, descriptorIndex := 25, attributes := #[] }, { accessFlags := 25, nameIndex := 290, descriptorIndex := 25, attributes := #[] }, { accessFlags := 25, nameIndex := 292, descriptorIndex := 25, attributes := #[] }, { accessFlags := 26, nameIndex := 108, descriptorIndex := 109, attributes := #[] }, { accessFlags := 25, nameIndex := 294, descriptorIndex := 25, attributes := #[] }])
  fields := #[{ name := "U", type := (.object "jdk/internal/misc/Unsafe"), accessFlags := 24, slot := 0, constantValue := 0 }, { name := "BIG_ENDIAN", type := .boolean, accessFlags := 26, slot := 1, constantValue := 0 }, { name := "LOG2_ARRAY_BOOLEAN_INDEX_SCALE", type := .int, accessFlags := 25, slot := 2, constantValue := 0 }, { name := "LOG2_ARRAY_BYTE_INDEX_SCALE", type := .int, accessFlags := 25, slot := 3, constantValue := 0 }, { name := "LOG2_ARRAY_CHAR_INDEX_SCALE", type := .int, accessFlags := 25, slot := 4, constantValue := 0 }, { name := "LOG2_ARRAY_SHORT_INDEX_SCALE", type := .int, accessFlags := 25, slot := 5, constantValue := 0 }, { name := "LOG2_ARRAY_INT_INDEX_SCALE", type := .int, accessFlags := 25, slot := 6, constantValue := 0 }, { name := "LOG2_ARRAY_LONG_INDEX_SCALE", type := .int, accessFlags := 25, slot := 7, constantValue := 0 }, { name := "LOG2_ARRAY_FLOAT_INDEX_SCALE", type := .int, accessFlags := 25, slot := 8, constantValue := 0 }, { name := "LOG2_ARRAY_DOUBLE_INDEX_SCALE", type := .int, accessFlags := 25, slot := 9, constantValue := 0 }, { name := "LOG2_BYTE_BIT_SIZE", type := .int, accessFlags := 26, slot := 10, constantValue := 0 }, { name := "T_BOOLEAN", type := .int, accessFlags := 25, slot := 11, constantValue := 0 }, { name := "T_CHAR", type := .int, accessFlags := 25, slot := 12, constantValue := 0 }, { name := "T_FLOAT", type := .int, accessFlags := 25, slot := 13, constantValue := 0 }, { name := "T_DOUBLE", type := .int, accessFlags := 25, slot := 14, constantValue := 0 }, { name := "T_BYTE", type := .int, accessFlags := 25, slot := 15, constantValue := 0 }, { name := "T_SHORT", type := .int, accessFlags := 25, slot := 16, constantValue := 0 }, { name := "T_INT", type := .int, accessFlags := 25, slot := 17, constantValue := 0 }, { name := "T_LONG", type := .int, accessFlags := 25, slot := 18, constantValue := 0 }, { name := "JLA", type := (.object "jdk/internal/access/JavaLangAccess"), accessFlags := 26, slot := 19, constantValue := 0 }, { name := "SOFT_MAX_ARRAY_LENGTH", type := .int, accessFlags := 25, slot := 20, constantValue := 0 }]
  methods := #[k12m0]
  instanceTypes := #[]
  staticTypes := #[(.object "jdk/internal/misc/Unsafe"), .boolean, .int, .int, .int, .int, .int, .int, .int, .int, .int, .int, .int, .int, .int, .int, .int, .int, .int, (.object "jdk/internal/access/JavaLangAccess"), .int]
  resolved := Array.replicate 378 none
  statics := none }

def pool13 : Array CpInfo := pool [(1, u "java/lang/Cloneable"), (0, .class_ 1), (0, u "java/lang/Object"), (0, .class_ 3)] 3

/-- java/lang/Cloneable -/
def k13 : Class := { plain "java/lang/Cloneable" (some 0) with
  accessFlags := 1537
  interfaces := #[]
  cf := some (fileOf pool13 2 #[] #[] 1537 4 #[] #[])
  fields := #[]
  methods := #[]
  instanceTypes := #[]
  staticTypes := #[]
  resolved := Array.replicate 8 none
  statics := none }

/-- the primitive byte -/
def k14 : Class := { plain "byte" none with kind := .primitive 'B', accessFlags := 0x411 }
/-- [B -/
def k15 : Class := { plain "[B" (some 0) with kind := .array 14 .byte, interfaces := #[13, 2], accessFlags := 1041 }

/-- the primitive char -/
def k16 : Class := { plain "char" none with kind := .primitive 'C', accessFlags := 0x411 }
/-- [C -/
def k17 : Class := { plain "[C" (some 0) with kind := .array 16 .char, interfaces := #[13, 2], accessFlags := 1041 }

/-- the primitive int -/
def k18 : Class := { plain "int" none with kind := .primitive 'I', accessFlags := 0x411 }
/-- [I -/
def k19 : Class := { plain "[I" (some 0) with kind := .array 18 .int, interfaces := #[13, 2], accessFlags := 1041 }

def heap : Heap := #[{ cls := 7, slots := #[.long 0, .int 1, .null, .int 0, .null, .int 0, .int 0], vm := .statics 7 },
  { cls := 8, slots := #[.int 0, .int 8, .int 0, .int 1], vm := .statics 8 },
  { cls := 11, slots := #[.null, .null, .null], vm := .statics 11 }]
def classes : Array Class := #[k0, k1, k2, k3, k4, k5, k6, k7, k8, k9, k10, k11, k12, k13, k14, k15, k16, k17, k18, k19]
def interned : List (Array UInt16 × Addr) := []
def slotsUsed : Nat := 14
def theMethod : MethodId := ⟨1, 2⟩
def args0 : Array Value := #[.int 6422625, .int 6553699, .int 7, .int 3]
def aboutOver (below : List Frame) : State where
  vm := { classes := classes, interned := interned.toArray }
  heap := heap
  slotsUsed := slotsUsed
  threads := #[{ frames := .invoking theMethod args0 :: below }]
def below0 : List Frame := [.native { method := ⟨0, 0⟩, args := #[] }]
def about1 : State := aboutOver below0
def p0 : Program := .bare "" "" ""
def e0 : Env := launch0.env 0 0 0
theorem w_frames : about1.frames = Frame.invoking theMethod args0 :: below0 := rfl
set_option maxRecDepth 65536 in
theorem w_args : argsFit about1.vm theMethod args0 = true := by decide +kernel
set_option maxRecDepth 65536 in
theorem w_heap : heapFits about1 = true := by decide +kernel
set_option maxRecDepth 65536 in
theorem w_runnable : about1.curStatus? = some .runnable := by decide +kernel
set_option maxRecDepth 65536 in
theorem w_alone : about1.alone = true := by decide +kernel
set_option maxRecDepth 65536 in
theorem w_named : about1.methodNamed? x = some theMethod := by decide +kernel
set_option maxRecDepth 65536 in
theorem w_hears : about1.hears theMethod below0 = true := by decide +kernel
set_option maxRecDepth 65536 in
theorem w_ripe : about1.ripe theMethod args0 below0 = true := by decide +kernel
theorem w_running : about1.status = .running := rfl
set_option maxRecDepth 65536 in
theorem w_room : about1.hasRoom e0.platform room_1 = true :=
  launch0.hasRoom_least _ room_1 (by decide +kernel) (by decide +kernel) (by decide +kernel) (by decide +kernel) (by decide +kernel) (by decide +kernel)
theorem allAtoms_all (ts : List Jvm.Cond) (a : Array Jvm.Value) (st : Jvm.State) : (allAtoms ts).before a st = ts.all (fun c => c.before a st) := by
  induction ts with
  | nil => rfl
  | cons c t ih =>
    show (Jvm.Cond.and c (allAtoms t)).before a st = _
    rw [Jvm.Cond.before_and, ih, List.all_cons]
def words1 : List Jvm.Cond := Jvm.Cond.code x code maxLocals ret :: tables_1
/-- a 'code' word, met by the world's own term for the bytes: nothing is compared byte by byte -/
theorem code_word {y : MethodName} {bytes : ByteArray} {mx : Nat} {rt : Option FieldType} {a : Array Value} {s : State} {m : MethodId} {meth : Method} {c : Code} (h1 : s.methodNamed? y = some m) (h2 : s.vm.method? m = some meth) (h3 : meth.code = some c) (h4 : c.code = bytes)
    (h5 : (c.maxLocals == mx && c.exceptionTable.isEmpty && decide (c.maxStack ≤ mostOperands) && decide (meth.sig.returnType = rt) && !meth.locks && decide (parseMethodDescriptor y.desc = some meth.sig)) = true) : (Jvm.Cond.code y bytes mx rt).before a s = true := by
  simp only [Bool.and_eq_true, beq_iff_eq, Bool.not_eq_true', decide_eq_true_eq] at h5
  obtain ⟨⟨⟨⟨⟨g1, g2⟩, g3⟩, g4⟩, g5⟩, g6⟩ := h5
  simp [Cond.before, Cond.holds, Cond.value, h1, h2, h3, h4, g1, g2, g3, g4, g5, g6]
def isCode : Jvm.Cond → Bool
  | .code _ _ _ _ => true
  | _ => false
theorem all_split {L : List Jvm.Cond} {P : Jvm.Cond → Bool} (h1 : L.all (fun c => isCode c || P c) = true) (h2 : ∀ c ∈ L.filter isCode, P c = true) : L.all P = true := by
  refine List.all_eq_true.mpr fun c hc => ?_
  have h := List.all_eq_true.mp h1 c hc
  rcases Bool.eq_false_or_eq_true (isCode c) with hi | hi
  · exact h2 c (List.mem_filter.mpr ⟨hc, hi⟩)
  · simpa [hi] using h
set_option maxRecDepth 65536 in
theorem w_c0 : (Jvm.Cond.code x code maxLocals ret).before args0 about1 = true := code_word (m := ⟨1, 2⟩) (meth := k1m2) (c := k1c2) (by decide +kernel) rfl rfl rfl (by decide +kernel)
set_option maxRecDepth 65536 in
theorem w_c1 : (Jvm.Cond.code ({ cls := "org/keyreturn/sql/WordsIsAtPinLaw", name := "text", desc := "(ICCCC)Ljava/lang/String;" } : Jvm.MethodName) method_2_code (5 : Nat) (Option.some (Jvm.ClassFile.FieldType.object "java/lang/String"))).before args0 about1 = true := code_word (m := ⟨1, 1⟩) (meth := k1m1) (c := k1c1) (by decide +kernel) rfl rfl rfl (by decide +kernel)
set_option maxRecDepth 65536 in
theorem w_c2 : (Jvm.Cond.code ({ cls := "java/lang/String", name := "<init>", desc := "([C)V" } : Jvm.MethodName) jdk_42_method_3_code (2 : Nat) (Option.none : Option Jvm.ClassFile.FieldType)).before args0 about1 = true := code_word (m := ⟨7, 1⟩) (meth := k7m1) (c := k7c1) (by decide +kernel) rfl rfl rfl (by decide +kernel)
set_option maxRecDepth 65536 in
theorem w_c3 : (Jvm.Cond.code ({ cls := "java/lang/String", name := "<init>", desc := "([CIILjava/lang/Void;)V" } : Jvm.MethodName) jdk_42_method_149_code (6 : Nat) (Option.none : Option Jvm.ClassFile.FieldType)).before args0 about1 = true := code_word (m := ⟨7, 4⟩) (meth := k7m4) (c := k7c4) (by decide +kernel) rfl rfl rfl (by decide +kernel)
set_option maxRecDepth 65536 in
theorem w_c4 : (Jvm.Cond.code ({ cls := "java/lang/Object", name := "<init>", desc := "()V" } : Jvm.MethodName) object_method_1_code (1 : Nat) (Option.none : Option Jvm.ClassFile.FieldType)).before args0 about1 = true := code_word (m := ⟨0, 0⟩) (meth := k0m0) (c := k0c0) (by decide +kernel) rfl rfl rfl (by decide +kernel)
set_option maxRecDepth 65536 in
theorem w_c5 : (Jvm.Cond.code ({ cls := "java/lang/StringUTF16", name := "compress", desc := "([CII)[B" } : Jvm.MethodName) jdk_52_method_16_code (6 : Nat) (Option.some (Jvm.ClassFile.FieldType.array Jvm.ClassFile.FieldType.byte))).before args0 about1 = true := code_word (m := ⟨8, 8⟩) (meth := k8m8) (c := k8c8) (by decide +kernel) rfl rfl rfl (by decide +kernel)
set_option maxRecDepth 65536 in
theorem w_c6 : (Jvm.Cond.code ({ cls := "java/lang/StringUTF16", name := "compress", desc := "([CI[BII)I" } : Jvm.MethodName) jdk_52_method_21_code (7 : Nat) (Option.some Jvm.ClassFile.FieldType.int)).before args0 about1 = true := code_word (m := ⟨8, 9⟩) (meth := k8m9) (c := k8c9) (by decide +kernel) rfl rfl rfl (by decide +kernel)
set_option maxRecDepth 65536 in
theorem w_c7 : (Jvm.Cond.code ({ cls := "java/lang/StringUTF16", name := "coderFromArrayLen", desc := "([BI)B" } : Jvm.MethodName) jdk_52_method_15_code (2 : Nat) (Option.some Jvm.ClassFile.FieldType.byte)).before args0 about1 = true := code_word (m := ⟨8, 7⟩) (meth := k8m7) (c := k8c7) (by decide +kernel) rfl rfl rfl (by decide +kernel)
set_option maxRecDepth 65536 in
theorem w_c8 : (Jvm.Cond.code ({ cls := "org/keyreturn/sql/Words", name := "isAt", desc := "(Ljava/lang/String;IC)Z" } : Jvm.MethodName) prog_51_method_10_code (3 : Nat) (Option.some Jvm.ClassFile.FieldType.boolean)).before args0 about1 = true := code_word (m := ⟨9, 1⟩) (meth := k9m1) (c := k9c1) (by decide +kernel) rfl rfl rfl (by decide +kernel)
set_option maxRecDepth 65536 in
theorem w_c9 : (Jvm.Cond.code ({ cls := "java/lang/String", name := "length", desc := "()I" } : Jvm.MethodName) jdk_42_method_54_code (1 : Nat) (Option.some Jvm.ClassFile.FieldType.int)).before args0 about1 = true := code_word (m := ⟨7, 2⟩) (meth := k7m2) (c := k7c2) (by decide +kernel) rfl rfl rfl (by decide +kernel)
set_option maxRecDepth 65536 in
theorem w_c10 : (Jvm.Cond.code ({ cls := "java/lang/String", name := "coder", desc := "()B" } : Jvm.MethodName) jdk_42_method_152_code (1 : Nat) (Option.some Jvm.ClassFile.FieldType.byte)).before args0 about1 = true := code_word (m := ⟨7, 5⟩) (meth := k7m5) (c := k7c5) (by decide +kernel) rfl rfl rfl (by decide +kernel)
set_option maxRecDepth 65536 in
theorem w_c11 : (Jvm.Cond.code ({ cls := "java/lang/String", name := "charAt", desc := "(I)C" } : Jvm.MethodName) jdk_42_method_56_code (2 : Nat) (Option.some Jvm.ClassFile.FieldType.char)).before args0 about1 = true := code_word (m := ⟨7, 3⟩) (meth := k7m3) (c := k7c3) (by decide +kernel) rfl rfl rfl (by decide +kernel)
set_option maxRecDepth 65536 in
theorem w_c12 : (Jvm.Cond.code ({ cls := "java/lang/String", name := "isLatin1", desc := "()Z" } : Jvm.MethodName) jdk_42_method_154_code (1 : Nat) (Option.some Jvm.ClassFile.FieldType.boolean)).before args0 about1 = true := code_word (m := ⟨7, 6⟩) (meth := k7m6) (c := k7c6) (by decide +kernel) rfl rfl rfl (by decide +kernel)
set_option maxRecDepth 65536 in
theorem w_c13 : (Jvm.Cond.code ({ cls := "java/lang/StringLatin1", name := "charAt", desc := "([BI)C" } : Jvm.MethodName) jdk_43_method_2_code (2 : Nat) (Option.some Jvm.ClassFile.FieldType.char)).before args0 about1 = true := code_word (m := ⟨10, 1⟩) (meth := k10m1) (c := k10c1) (by decide +kernel) rfl rfl rfl (by decide +kernel)
set_option maxRecDepth 65536 in
theorem w_c14 : (Jvm.Cond.code ({ cls := "java/lang/String", name := "checkIndex", desc := "(II)V" } : Jvm.MethodName) jdk_42_method_155_code (2 : Nat) (Option.none : Option Jvm.ClassFile.FieldType)).before args0 about1 = true := code_word (m := ⟨7, 7⟩) (meth := k7m7) (c := k7c7) (by decide +kernel) rfl rfl rfl (by decide +kernel)
set_option maxRecDepth 65536 in
theorem w_c15 : (Jvm.Cond.code ({ cls := "jdk/internal/util/Preconditions", name := "checkIndex", desc := "(IILjava/util/function/BiFunction;)I" } : Jvm.MethodName) jdk_41_method_11_code (3 : Nat) (Option.some Jvm.ClassFile.FieldType.int)).before args0 about1 = true := code_word (m := ⟨11, 1⟩) (meth := k11m1) (c := k11c1) (by decide +kernel) rfl rfl rfl (by decide +kernel)
set_option maxRecDepth 65536 in
theorem w_c16 : (Jvm.Cond.code ({ cls := "java/lang/StringUTF16", name := "toBytes", desc := "([CII)[B" } : Jvm.MethodName) jdk_52_method_14_code (5 : Nat) (Option.some (Jvm.ClassFile.FieldType.array Jvm.ClassFile.FieldType.byte))).before args0 about1 = true := code_word (m := ⟨8, 6⟩) (meth := k8m6) (c := k8c6) (by decide +kernel) rfl rfl rfl (by decide +kernel)
set_option maxRecDepth 65536 in
theorem w_c17 : (Jvm.Cond.code ({ cls := "java/lang/StringUTF16", name := "newBytesFor", desc := "(I)[B" } : Jvm.MethodName) jdk_52_method_2_code (1 : Nat) (Option.some (Jvm.ClassFile.FieldType.array Jvm.ClassFile.FieldType.byte))).before args0 about1 = true := code_word (m := ⟨8, 1⟩) (meth := k8m1) (c := k8c1) (by decide +kernel) rfl rfl rfl (by decide +kernel)
set_option maxRecDepth 65536 in
theorem w_c18 : (Jvm.Cond.code ({ cls := "java/lang/StringUTF16", name := "newBytesLength", desc := "(I)I" } : Jvm.MethodName) jdk_52_method_3_code (1 : Nat) (Option.some Jvm.ClassFile.FieldType.int)).before args0 about1 = true := code_word (m := ⟨8, 2⟩) (meth := k8m2) (c := k8c2) (by decide +kernel) rfl rfl rfl (by decide +kernel)
set_option maxRecDepth 65536 in
theorem w_c19 : (Jvm.Cond.code ({ cls := "java/lang/StringUTF16", name := "putChar", desc := "([BII)V" } : Jvm.MethodName) jdk_52_method_4_code (3 : Nat) (Option.none : Option Jvm.ClassFile.FieldType)).before args0 about1 = true := code_word (m := ⟨8, 3⟩) (meth := k8m3) (c := k8c3) (by decide +kernel) rfl rfl rfl (by decide +kernel)
set_option maxRecDepth 65536 in
theorem w_c20 : (Jvm.Cond.code ({ cls := "java/lang/StringUTF16", name := "getChar", desc := "([BI)C" } : Jvm.MethodName) jdk_52_method_5_code (2 : Nat) (Option.some Jvm.ClassFile.FieldType.char)).before args0 about1 = true := code_word (m := ⟨8, 4⟩) (meth := k8m4) (c := k8c4) (by decide +kernel) rfl rfl rfl (by decide +kernel)
set_option maxRecDepth 65536 in
theorem w_c21 : (Jvm.Cond.code ({ cls := "java/lang/StringUTF16", name := "charAt", desc := "([BI)C" } : Jvm.MethodName) jdk_52_method_83_code (2 : Nat) (Option.some Jvm.ClassFile.FieldType.char)).before args0 about1 = true := code_word (m := ⟨8, 10⟩) (meth := k8m10) (c := k8c10) (by decide +kernel) rfl rfl rfl (by decide +kernel)
set_option maxRecDepth 65536 in
theorem w_c22 : (Jvm.Cond.code ({ cls := "java/lang/StringUTF16", name := "checkIndex", desc := "(I[B)V" } : Jvm.MethodName) jdk_52_method_91_code (2 : Nat) (Option.none : Option Jvm.ClassFile.FieldType)).before args0 about1 = true := code_word (m := ⟨8, 11⟩) (meth := k8m11) (c := k8c11) (by decide +kernel) rfl rfl rfl (by decide +kernel)
set_option maxRecDepth 65536 in
theorem w_c23 : (Jvm.Cond.code ({ cls := "java/lang/StringUTF16", name := "length", desc := "([B)I" } : Jvm.MethodName) jdk_52_method_6_code (1 : Nat) (Option.some Jvm.ClassFile.FieldType.int)).before args0 about1 = true := code_word (m := ⟨8, 5⟩) (meth := k8m5) (c := k8c5) (by decide +kernel) rfl rfl rfl (by decide +kernel)
def codes1 : List Jvm.Cond := [Jvm.Cond.code x code maxLocals ret, Jvm.Cond.code ({ cls := "org/keyreturn/sql/WordsIsAtPinLaw", name := "text", desc := "(ICCCC)Ljava/lang/String;" } : Jvm.MethodName) method_2_code (5 : Nat) (Option.some (Jvm.ClassFile.FieldType.object "java/lang/String")), Jvm.Cond.code ({ cls := "java/lang/String", name := "<init>", desc := "([C)V" } : Jvm.MethodName) jdk_42_method_3_code (2 : Nat) (Option.none : Option Jvm.ClassFile.FieldType), Jvm.Cond.code ({ cls := "java/lang/String", name := "<init>", desc := "([CIILjava/lang/Void;)V" } : Jvm.MethodName) jdk_42_method_149_code (6 : Nat) (Option.none : Option Jvm.ClassFile.FieldType), Jvm.Cond.code ({ cls := "java/lang/Object", name := "<init>", desc := "()V" } : Jvm.MethodName) object_method_1_code (1 : Nat) (Option.none : Option Jvm.ClassFile.FieldType), Jvm.Cond.code ({ cls := "java/lang/StringUTF16", name := "compress", desc := "([CII)[B" } : Jvm.MethodName) jdk_52_method_16_code (6 : Nat) (Option.some (Jvm.ClassFile.FieldType.array Jvm.ClassFile.FieldType.byte)), Jvm.Cond.code ({ cls := "java/lang/StringUTF16", name := "compress", desc := "([CI[BII)I" } : Jvm.MethodName) jdk_52_method_21_code (7 : Nat) (Option.some Jvm.ClassFile.FieldType.int), Jvm.Cond.code ({ cls := "java/lang/StringUTF16", name := "coderFromArrayLen", desc := "([BI)B" } : Jvm.MethodName) jdk_52_method_15_code (2 : Nat) (Option.some Jvm.ClassFile.FieldType.byte), Jvm.Cond.code ({ cls := "org/keyreturn/sql/Words", name := "isAt", desc := "(Ljava/lang/String;IC)Z" } : Jvm.MethodName) prog_51_method_10_code (3 : Nat) (Option.some Jvm.ClassFile.FieldType.boolean), Jvm.Cond.code ({ cls := "java/lang/String", name := "length", desc := "()I" } : Jvm.MethodName) jdk_42_method_54_code (1 : Nat) (Option.some Jvm.ClassFile.FieldType.int), Jvm.Cond.code ({ cls := "java/lang/String", name := "coder", desc := "()B" } : Jvm.MethodName) jdk_42_method_152_code (1 : Nat) (Option.some Jvm.ClassFile.FieldType.byte), Jvm.Cond.code ({ cls := "java/lang/String", name := "charAt", desc := "(I)C" } : Jvm.MethodName) jdk_42_method_56_code (2 : Nat) (Option.some Jvm.ClassFile.FieldType.char), Jvm.Cond.code ({ cls := "java/lang/String", name := "isLatin1", desc := "()Z" } : Jvm.MethodName) jdk_42_method_154_code (1 : Nat) (Option.some Jvm.ClassFile.FieldType.boolean), Jvm.Cond.code ({ cls := "java/lang/StringLatin1", name := "charAt", desc := "([BI)C" } : Jvm.MethodName) jdk_43_method_2_code (2 : Nat) (Option.some Jvm.ClassFile.FieldType.char), Jvm.Cond.code ({ cls := "java/lang/String", name := "checkIndex", desc := "(II)V" } : Jvm.MethodName) jdk_42_method_155_code (2 : Nat) (Option.none : Option Jvm.ClassFile.FieldType), Jvm.Cond.code ({ cls := "jdk/internal/util/Preconditions", name := "checkIndex", desc := "(IILjava/util/function/BiFunction;)I" } : Jvm.MethodName) jdk_41_method_11_code (3 : Nat) (Option.some Jvm.ClassFile.FieldType.int), Jvm.Cond.code ({ cls := "java/lang/StringUTF16", name := "toBytes", desc := "([CII)[B" } : Jvm.MethodName) jdk_52_method_14_code (5 : Nat) (Option.some (Jvm.ClassFile.FieldType.array Jvm.ClassFile.FieldType.byte)), Jvm.Cond.code ({ cls := "java/lang/StringUTF16", name := "newBytesFor", desc := "(I)[B" } : Jvm.MethodName) jdk_52_method_2_code (1 : Nat) (Option.some (Jvm.ClassFile.FieldType.array Jvm.ClassFile.FieldType.byte)), Jvm.Cond.code ({ cls := "java/lang/StringUTF16", name := "newBytesLength", desc := "(I)I" } : Jvm.MethodName) jdk_52_method_3_code (1 : Nat) (Option.some Jvm.ClassFile.FieldType.int), Jvm.Cond.code ({ cls := "java/lang/StringUTF16", name := "putChar", desc := "([BII)V" } : Jvm.MethodName) jdk_52_method_4_code (3 : Nat) (Option.none : Option Jvm.ClassFile.FieldType), Jvm.Cond.code ({ cls := "java/lang/StringUTF16", name := "getChar", desc := "([BI)C" } : Jvm.MethodName) jdk_52_method_5_code (2 : Nat) (Option.some Jvm.ClassFile.FieldType.char), Jvm.Cond.code ({ cls := "java/lang/StringUTF16", name := "charAt", desc := "([BI)C" } : Jvm.MethodName) jdk_52_method_83_code (2 : Nat) (Option.some Jvm.ClassFile.FieldType.char), Jvm.Cond.code ({ cls := "java/lang/StringUTF16", name := "checkIndex", desc := "(I[B)V" } : Jvm.MethodName) jdk_52_method_91_code (2 : Nat) (Option.none : Option Jvm.ClassFile.FieldType), Jvm.Cond.code ({ cls := "java/lang/StringUTF16", name := "length", desc := "([B)I" } : Jvm.MethodName) jdk_52_method_6_code (1 : Nat) (Option.some Jvm.ClassFile.FieldType.int)]
set_option maxRecDepth 65536 in
theorem codes_eq : words1.filter isCode = codes1 := rfl
theorem w_codes : ∀ c ∈ words1.filter isCode, c.before args0 about1 = true := by
  rw [codes_eq]
  intro c hc
  simp only [codes1, List.mem_cons, List.not_mem_nil, or_false] at hc
  rcases hc with rfl | rfl | rfl | rfl | rfl | rfl | rfl | rfl | rfl | rfl | rfl | rfl | rfl | rfl | rfl | rfl | rfl | rfl | rfl | rfl | rfl | rfl | rfl | rfl
  · exact w_c0
  · exact w_c1
  · exact w_c2
  · exact w_c3
  · exact w_c4
  · exact w_c5
  · exact w_c6
  · exact w_c7
  · exact w_c8
  · exact w_c9
  · exact w_c10
  · exact w_c11
  · exact w_c12
  · exact w_c13
  · exact w_c14
  · exact w_c15
  · exact w_c16
  · exact w_c17
  · exact w_c18
  · exact w_c19
  · exact w_c20
  · exact w_c21
  · exact w_c22
  · exact w_c23
set_option maxRecDepth 65536 in
theorem w_t1 : (words1.take 24).all (fun c => isCode c || c.before args0 about1) = true := by decide +kernel
set_option maxRecDepth 65536 in
theorem w_t2 : ((words1.drop 24).take 24).all (fun c => isCode c || c.before args0 about1) = true := by decide +kernel
set_option maxRecDepth 65536 in
theorem w_t3 : (((words1.drop 24).drop 24).take 24).all (fun c => isCode c || c.before args0 about1) = true := by decide +kernel
set_option maxRecDepth 65536 in
theorem w_t4 : ((((words1.drop 24).drop 24).drop 24).take 24).all (fun c => isCode c || c.before args0 about1) = true := by decide +kernel
set_option maxRecDepth 65536 in
theorem w_t5 : ((((words1.drop 24).drop 24).drop 24).drop 24).all (fun c => isCode c || c.before args0 about1) = true := by decide +kernel
theorem w_tables : (allAtoms (Jvm.Cond.code x code maxLocals ret :: tables_1)).before args0 about1 = true := by
  rw [allAtoms_all]
  show words1.all (fun c => c.before args0 about1) = true
  refine all_split ?_ w_codes
  rw [← List.take_append_drop 24 words1, List.all_append, w_t1, ← List.take_append_drop 24 (words1.drop 24), List.all_append, w_t2, ← List.take_append_drop 24 ((words1.drop 24).drop 24), List.all_append, w_t3, ← List.take_append_drop 24 (((words1.drop 24).drop 24).drop 24), List.all_append, w_t4, w_t5]
  rfl
set_option maxRecDepth 65536 in
theorem w_rest : rest_1_c.before args0 about1 = true := by decide +kernel
set_option maxRecDepth 65536 in
theorem w_case : (Jvm.Cond.and given_1 narrow_1).before args0 about1 = true := by decide +kernel
set_option maxRecDepth 65536 in
theorem w_consts : constsHeld consts_1 about1 := Jvm.Lit.constsHeldB_iff.mp (by decide +kernel)
theorem w_applies : (headSpec (Jvm.Cond.code x code maxLocals ret :: tables_1) room_1).applies x e0.platform about1 = true :=
  (Spec.applies_iff w_frames).mpr ⟨w_running, w_runnable, w_alone, w_named, w_hears, w_ripe, w_room, w_tables⟩
theorem atStart : AtStart classFile x code maxLocals ret World_1 tables_1 room_1 Calls_1 rest_1 Pre_1 launch0 p0 e0 about1 theMethod args0 below0 :=
  ⟨lists_1, trivial, launch0.admits_env _ _ _, launch0.least_env, fairChoices_fair.cas, fairChoices_fair.clock, w_frames, w_args, w_heap, w_applies, ⟨w_consts, trivial⟩, w_rest, w_case⟩
end start1
theorem witness_1 : WitnessClaimed_1 := ⟨start1.p0, start1.e0, start1.about1, start1.theMethod, start1.args0, start1.below0, start1.atStart⟩
end Jvm.Pilot.@@N@@
