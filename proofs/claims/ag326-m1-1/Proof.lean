import JvmDerived
import JvmDerived.Pilot.@@N@@Statement
import JvmDerived.Pilot.@@N@@Code
set_option linter.unusedVariables false
set_option linter.unusedSimpArgs false
namespace Jvm.RoadKit
open Sem ClassFile Op Lib Jvm.Stand Jvm.Free Jvm.LawKit
section New
variable {p : Program} {l : Launch} {e : Env} {R : Room} {s : State} {m : MethodId} {args : Array Value} {below : List Frame} {meth : Method} {c : Code} {T : State} {locs : List Loc} {cells slots : Nat}
theorem retI (X : Stand p l e R s m args below meth c T locs cells slots) (hx : p.tables.exec = Jvm.exec) {pc : Nat} {Ls : Array Slot} {z : Int32} {rest : List Value} (hret : meth.sig.returnType = some .int) (hd : decode c.code pc = .ok (.ireturn, 1)) {fs : List Frame}
    (hl : ∀ (f : JFrame) (acts : List Action), f.method = m → f.locked = none → f.entered = [] → (doReturn e (T.setTop f) acts (some (.int z))).1 = T.setFrames fs) : Steps p.tables e below (T.setTop (mkF m pc Ls (.int z :: rest))) (T.setFrames fs) := by
  have hm' : T.vm.method? m = some meth := X.method'
  have hn : narrow .int (.int z) = .int z := rfl
  show Steps p.tables e below (T.setTop { method := m, pc := pc, locals := Ls, stack := _ :: rest, locked := none }) _
  jvm_step X.here [X.here.top, hx, hd, hm', hret, hn]
  first | (intro acts; rw [hl _ acts rfl rfl rfl]) | rw [hl _ _ rfl rfl rfl]
  exact Steps.refl _
theorem gwLrem {tb : Tables} [Ours tb] {e : Env} {below : List Frame} {T target : State} {m : MethodId} {c : Code} {g : JFrame} (h : At T m c below) (hx : tb.exec = Jvm.exec) (hg : g.method = m) {x y : Int64} {rest : List Value} (hd : decode c.code g.pc = .ok (.lrem, 1)) (hs : g.stack = .long y :: .long x :: rest) (hy : y ≠ 0)
    (hr : Steps tb e below (T.setTop { g with pc := g.pc + 1, stack := .long (x % y) :: rest }) target) : Steps tb e below (T.setTop g) target :=
  XS.lrem h hx hg hd hs hy (by rw [lrem_mod]; exact hr)
theorem gwIrem {tb : Tables} [Ours tb] {e : Env} {below : List Frame} {T target : State} {m : MethodId} {c : Code} {g : JFrame} (h : At T m c below) (hx : tb.exec = Jvm.exec) (hg : g.method = m) {x y : Int32} {rest : List Value} (hd : decode c.code g.pc = .ok (.irem, 1)) (hs : g.stack = .int y :: .int x :: rest) (hy : y ≠ 0)
    (hr : Steps tb e below (T.setTop { g with pc := g.pc + 1, stack := .int (x % y) :: rest }) target) : Steps tb e below (T.setTop g) target :=
  XS.irem h hx hg hd hs hy (by rw [Jvm.irem_eq_mod]; exact hr)
end New
end Jvm.RoadKit
@@BLOCK:NumsL.lean.txt@@
namespace Jvm.Pilot.@@N@@
open Jvm Jvm.ClassFile Sem Op Lib Jvm.Free Jvm.Stand Jvm.LawKit Jvm.RoadKit Bundle Jvm.Pilot.@@N@@.Jvm.D

section StrKit
variable {p : Program} {l : Launch} {e : Env} {R : Room} {s : State} {m : MethodId} {args : Array Value} {below : List Frame} {meth : Method} {c : Code} {T : State} {locs : List Loc} {cells slots : Nat} {Z : State} {a0 : Array Value} {h h' : Heap} {a b : Addr} {ty : FieldType} {n i sl : Nat} {f f' : Nat → Value} {v : Value} {ws : List Addr}
/-- an array of n components, the i-th holds f i -/
def AF (Z : State) (h : Heap) (a : Addr) (ty : FieldType) (n : Nat) (f : Nat → Value) : Prop := ∃ cl : Cell, Arr Z h a cl ty ∧ cl.slots.size = n ∧ ∀ i, i < n → cl.slots[i]? = some (f i)
theorem AF.lt (F : AF Z h a ty n f) : a < h.size := by obtain ⟨cl, A, -⟩ := F; exact A.lt
theorem AF.ext (F : AF Z h a ty n f) (E : Ext h h') : AF Z h' a ty n f := by obtain ⟨cl, A, r⟩ := F; exact ⟨cl, A.ext E, r⟩
theorem AF.other (F : AF Z h a ty n f) (W : Wr h h' b sl v) (q : a ≠ b) : AF Z h' a ty n f := by obtain ⟨cl, A, r⟩ := F; exact ⟨cl, A.other W q, r⟩
theorem AF.keep (F : AF Z h a ty n f) (K : Keep h h' ws) (q : a ∉ ws) : AF Z h' a ty n f := by obtain ⟨cl, A, r⟩ := F; exact ⟨cl, ⟨K.2.1 a cl A.1 q, A.2⟩, r⟩
theorem AF.congr (F : AF Z h a ty n f) (q : ∀ i, i < n → f i = f' i) : AF Z h a ty n f' := by obtain ⟨cl, A, r, g⟩ := F; exact ⟨cl, A, r, fun i hi => by rw [g i hi, q i hi]⟩
/-- f, but v at i -/
def upd (f : Nat → Value) (i : Nat) (v : Value) : Nat → Value := fun j => if j = i then v else f j
theorem AF.wr (F : AF Z h a ty n f) (W : Wr h h' a i v) : AF Z h' a ty n (upd f i v) := by
  obtain ⟨cl, A, r, g⟩ := F
  refine ⟨_, A.same W, by simp [Cell.setSlot, r], fun j hj => ?_⟩
  by_cases q : j = i
  · subst q; simp [Cell.setSlot, upd, r, hj]
  · show _ = some (if j = i then v else f j)
    rw [if_neg q, ← g j hj]
    simp [Cell.setSlot, Array.getElem?_setIfInBounds, Ne.symm q]
theorem AF.new {k : ClassId} {z : Int32} (A : Arr Z h a (newA k ty z) ty) (q : z.toNatClampNeg = n) : AF Z h a ty n (fun _ => defaultValue ty) := ⟨_, A, by rw [sz_new]; exact q, fun i hi => by simp [newA, q, hi]⟩
theorem clampN (h : n < 2147483648) : (Int32.ofNat n).toNatClampNeg = n := by
  show (Int32.ofNat n).toInt.toNat = n
  rw [Int32.toInt_ofNat_small h]; rfl
theorem nnN (h : n < 2147483648) : ¬ Int32.ofNat n < 0 := by rw [Int32.lt_iff_toInt_lt, Int32.toInt_ofNat_small h, Int32.toInt_zero]; omega
theorem inN {cl : Cell} (hs : cl.slots.size = n) (hi : i < n) (hn : n < 2147483648) : ¬ (Int32.ofNat i < 0 ∨ cl.slots.size ≤ (Int32.ofNat i).toNatClampNeg) := by
  rw [clampN (by omega), hs]
  exact fun q => q.elim (nnN (by omega)) (fun q => absurd q (by omega))
theorem ldCh (X : Stand p l e R s m args below meth c T locs cells slots) (hx : p.tables.exec = Jvm.exec) (hZ : Z.Warmed39 s.vm) (eT : T.heap = h) (F : AF Z h a .char n f) (hi : i < n) (hn : n < 2147483648) (hv : f i = v) {g : JFrame} (hg : g.method = m) {rest : List Value} (hs : g.stack = .int (Int32.ofNat i) :: .ref a :: rest) (hd : decode c.code g.pc = .ok (.caload, 1)) {target : State}
    (hr : Steps p.tables e below (T.setTop { g with pc := g.pc + 1, stack := v :: rest }) target) : Steps p.tables e below (T.setTop g) target := by
  subst hv
  obtain ⟨cl, A, r, q⟩ := F
  exact X.caload hx (by rw [eT]; exact A.1) (State.isArrayOf_alike hZ.alike A.2.1) A.2.2 (inN r hi hn) (by rw [clampN (by omega)]; exact q i hi) hg hs hd _ hr
theorem ldBy (X : Stand p l e R s m args below meth c T locs cells slots) (hx : p.tables.exec = Jvm.exec) (hZ : Z.Warmed39 s.vm) (eT : T.heap = h) (F : AF Z h a .byte n f) (hi : i < n) (hn : n < 2147483648) (hv : f i = v) {g : JFrame} (hg : g.method = m) {rest : List Value} (hs : g.stack = .int (Int32.ofNat i) :: .ref a :: rest) (hd : decode c.code g.pc = .ok (.baload, 1)) {target : State}
    (hr : Steps p.tables e below (T.setTop { g with pc := g.pc + 1, stack := v :: rest }) target) : Steps p.tables e below (T.setTop g) target := by
  subst hv
  obtain ⟨cl, A, r, q⟩ := F
  exact X.baloadBytes hx (by rw [eT]; exact A.1) (State.isArrayOf_alike hZ.alike A.2.1) A.2.2 (inN r hi hn) (by rw [clampN (by omega)]; exact q i hi) hg hs hd _ hr
theorem lenA (X : Stand p l e R s m args below meth c T locs cells slots) (hx : p.tables.exec = Jvm.exec) (hZ : Z.Warmed39 s.vm) (eT : T.heap = h) (F : AF Z h a ty n f) {g : JFrame} (hg : g.method = m) {rest : List Value} (hs : g.stack = .ref a :: rest) (hd : decode c.code g.pc = .ok (.arraylength, 1)) {target : State}
    (hr : Steps p.tables e below (T.setTop { g with pc := g.pc + 1, stack := .int (Int32.ofNat n) :: rest }) target) : Steps p.tables e below (T.setTop g) target := by
  obtain ⟨cl, A, r, q⟩ := F
  refine X.arraylength hx (by rw [eT]; exact A.1) (State.isArrayOf_alike hZ.alike A.2.1) hg hs hd _ ?_
  rw [r]
  exact hr
theorem stBy (X : Stand p l e R s m args below meth c T locs cells slots) (hx : p.tables.exec = Jvm.exec) (hZ : Z.Warmed39 s.vm) (eT : T.heap = h) (F : AF Z h a .byte n f) (hi : i < n) (hn : n < 2147483648) {x : Int32} {g : JFrame} (hg : g.method = m) {rest : List Value} (hs : g.stack = .int x :: .int (Int32.ofNat i) :: .ref a :: rest) (hd : decode c.code g.pc = .ok (.bastore, 1)) :
    ∃ T' h', Stand p l e R s m args below meth c T' (locs ++ [⟨a, i⟩]) cells slots ∧ T'.heap = h' ∧ Wr h h' a i (.int (nar .byte x)) ∧ ∀ target, Steps p.tables e below (T'.setTop { g with pc := g.pc + 1, stack := rest }) target → Steps p.tables e below (T.setTop g) target := by
  obtain ⟨cl, A, r, q⟩ := F
  obtain ⟨T', h', X', e', W', st⟩ := stB X hx hZ eT A (inN r hi hn) hg hs hd
  rw [clampN (by omega)] at X' W'
  exact ⟨T', h', X', e', W', st⟩
theorem stCh (X : Stand p l e R s m args below meth c T locs cells slots) (hx : p.tables.exec = Jvm.exec) (hZ : Z.Warmed39 s.vm) (eT : T.heap = h) (F : AF Z h a .char n f) (hi : i < n) (hn : n < 2147483648) {x : Int32} {g : JFrame} (hg : g.method = m) {rest : List Value} (hs : g.stack = .int x :: .int (Int32.ofNat i) :: .ref a :: rest) (hd : decode c.code g.pc = .ok (.castore, 1)) :
    ∃ T' h', Stand p l e R s m args below meth c T' (locs ++ [⟨a, i⟩]) cells slots ∧ T'.heap = h' ∧ Wr h h' a i (.int (nar .char x)) ∧ ∀ target, Steps p.tables e below (T'.setTop { g with pc := g.pc + 1, stack := rest }) target → Steps p.tables e below (T.setTop g) target := by
  obtain ⟨cl, A, r, q⟩ := F
  obtain ⟨T', h', X', e', W', st⟩ := stC X hx hZ eT A (inN r hi hn) hg hs hd
  rw [clampN (by omega)] at X' W'
  exact ⟨T', h', X', e', W', st⟩
theorem nwA (X : Stand p l e R s m args below meth c T locs cells slots) (hx : p.tables.exec = Jvm.exec) (hZ : Z.Warmed39 s.vm) {aty : ArrayType} (w : (Cond.arrayClass (newarray.typeOf aty)).before a0 Z = true) (eT : T.heap = h) {g : JFrame} (hg : g.method = m) (hd : decode c.code g.pc = .ok (.newarray aty, 2)) {rest : List Value} (hs : g.stack = .int (Int32.ofNat n) :: rest)
    {cap : Nat} (hcap : n ≤ cap) (hb : cap * 8 ≤ 536870912) (hc : cells + 1 ≤ R.cells) (hl : slots + cap ≤ R.slots) :
    ∃ T' h', Stand p l e R s m args below meth c T' locs (cells + 1) (slots + cap) ∧ T'.heap = h' ∧ Ext h h' ∧ AF Z h' h.size (newarray.typeOf aty) n (fun _ => defaultValue (newarray.typeOf aty)) ∧
      ∀ target, Steps p.tables e below (T'.setTop { g with pc := g.pc + 2, stack := .ref h.size :: rest }) target → Steps p.tables e below (T.setTop g) target := by
  obtain ⟨T', h', cA, X', e', E', A', st⟩ := newP X hx hZ w eT hg hd hs (nnN (by omega)) (cap := cap) (by rw [clampN (by omega)]; exact hcap) hb hc hl
  exact ⟨T', h', X', e', E', AF.new A' (clampN (by omega)), st⟩
theorem shl1N (h : i < 1073741824) : (Int32.ofNat i) <<< ((1 : Int32) &&& 31) = Int32.ofNat (2 * i) := by
  refine Int32.toInt_inj.mp ?_
  rw [Jvm.Kit.i32_shl _ _ (k := 1) (by decide) (by rw [Int32.toInt_ofNat_small (by omega)]; omega) (by rw [Int32.toInt_ofNat_small (by omega)]; omega), Int32.toInt_ofNat_small (by omega), Int32.toInt_ofNat_small (by omega)]
  omega
theorem shr1N (h : i < 1073741824) : (Int32.ofNat (2 * i)) >>> ((1 : Int32) &&& 31) = Int32.ofNat i := by
  refine Int32.toInt_inj.mp ?_
  rw [Jvm.Kit.i32_shr _ _ (k := 1) (by decide), Int32.toInt_ofNat_small (by omega), Int32.toInt_ofNat_small (by omega)]
  omega
theorem succN (i : Nat) : Int32.ofNat i + (1 : Int32) = Int32.ofNat (i + 1) := Int32.ofNat_succ i
theorem ltN (h1 : i < 2147483648) (h2 : n < 2147483648) : Int32.ofNat i < Int32.ofNat n ↔ i < n := by rw [Int32.lt_iff_toInt_lt, Int32.toInt_ofNat_small h1, Int32.toInt_ofNat_small h2]; omega
end StrKit

/-- a Java char as an int -/
def isCh (x : Int32) : Prop := 0 ≤ x.toInt ∧ x.toInt < 65536
def isB (x : Int32) : Prop := 0 ≤ x.toInt ∧ x.toInt < 256
def b8 (x : Int32) : Int32 := nar .byte (x.toInt8.toInt32)
def lo8 (x : Int32) : Int32 := b8 (x >>> ((0 : Int32) &&& 31))
def hi8 (x : Int32) : Int32 := b8 (x >>> ((8 : Int32) &&& 31))
def l16 (x : Int32) : Int32 := (x &&& (255 : Int32)).toUInt32.toUInt16.toUInt32.toInt32
def u16 (x y : Int32) : Int32 := (((x &&& (255 : Int32)) <<< ((0 : Int32) &&& 31)) ||| ((y &&& (255 : Int32)) <<< ((8 : Int32) &&& 31))).toUInt32.toUInt16.toUInt32.toInt32
theorem b8_mod (x : Int32) : ((b8 x).toInt - x.toInt) % 256 = 0 := by
  have h1 := (c_i2b x).1
  have h2 := (c_i2b (x.toInt8.toInt32)).1
  show ((x.toInt8.toInt32).toInt8.toInt32.toInt - x.toInt) % 256 = 0
  omega
theorem m255 (x : Int32) : (x &&& (255 : Int32)).toInt = x.toInt % 256 := by rw [c_mask x 255 8 (by decide) (by decide)]; rfl
theorem nar_ch (x : Int32) : isCh (nar .char x) := (c_i2c x).2
theorem i2c_eq {x : Int32} (h : isCh x) : x.toUInt32.toUInt16.toUInt32.toInt32 = x := by
  have q := c_i2c x
  refine Int32.toInt_inj.mp ?_
  have := h.1; have := h.2
  omega
theorem nar_id {x : Int32} (h : isCh x) : nar .char x = x := i2c_eq h
theorem l16_eq {x : Int32} (h : isB x) : l16 (b8 x) = x := by
  have q := b8_mod x
  have r := m255 (b8 x)
  have := h.1; have := h.2
  have e : (b8 x &&& (255 : Int32)) = x := Int32.toInt_inj.mp (by omega)
  unfold l16
  rw [e]
  exact i2c_eq ⟨by omega, by omega⟩
theorem l16_ch (x : Int32) : isCh (l16 x) := (c_i2c _).2
theorem u16_ch (x y : Int32) : isCh (u16 x y) := (c_i2c _).2
theorem u16_eq {x : Int32} (h : isCh x) : u16 (lo8 x) (hi8 x) = x := by
  have := h.1; have := h.2
  have q0 := b8_mod (x >>> ((0 : Int32) &&& 31))
  have q8 := b8_mod (x >>> ((8 : Int32) &&& 31))
  rw [c_ishr x 0 0 (by decide)] at q0
  rw [c_ishr x 8 8 (by decide)] at q8
  have r0 := m255 (lo8 x)
  have r8 := m255 (hi8 x)
  have s0 := c_ishl (lo8 x &&& (255 : Int32)) 0 0 (by decide)
  have s8 := c_ishl (hi8 x &&& (255 : Int32)) 8 8 (by decide)
  have b1 := (lo8 x &&& (255 : Int32)) <<< ((0 : Int32) &&& 31) |>.toInt_lt
  have b2 := (lo8 x &&& (255 : Int32)) <<< ((0 : Int32) &&& 31) |>.le_toInt
  have b3 := (hi8 x &&& (255 : Int32)) <<< ((8 : Int32) &&& 31) |>.toInt_lt
  have b4 := (hi8 x &&& (255 : Int32)) <<< ((8 : Int32) &&& 31) |>.le_toInt
  have t := c_or' ((lo8 x &&& (255 : Int32)) <<< ((0 : Int32) &&& 31)) ((hi8 x &&& (255 : Int32)) <<< ((8 : Int32) &&& 31)) 8 (by decide) 256 (by decide)
  have b5 := (((lo8 x &&& (255 : Int32)) <<< ((0 : Int32) &&& 31)) ||| ((hi8 x &&& (255 : Int32)) <<< ((8 : Int32) &&& 31))).toInt_lt
  have b6 := (((lo8 x &&& (255 : Int32)) <<< ((0 : Int32) &&& 31)) ||| ((hi8 x &&& (255 : Int32)) <<< ((8 : Int32) &&& 31))).le_toInt
  change ((lo8 x).toInt - _) % 256 = 0 at q0
  change ((hi8 x).toInt - _) % 256 = 0 at q8
  have e : (((lo8 x &&& (255 : Int32)) <<< ((0 : Int32) &&& 31)) ||| ((hi8 x &&& (255 : Int32)) <<< ((8 : Int32) &&& 31))) = x := by
    refine Int32.toInt_inj.mp ?_
    generalize (lo8 x &&& (255 : Int32)) <<< ((0 : Int32) &&& 31) = A at *
    generalize (hi8 x &&& (255 : Int32)) <<< ((8 : Int32) &&& 31) = B at *
    simp only [Nat.pow_zero, Int.natCast_one, Int.mul_one, Int.ediv_one] at *
    have e8 : ((2 ^ 8 : Nat) : Int) = 256 := by decide
    rw [e8] at *
    have tt := t (by omega) (by omega) (by omega)
    omega
  unfold u16
  rw [e]
  exact i2c_eq h
theorem codA (n : Nat) : (((Int32.ofNat n) - (Int32.ofNat n)).toUInt32 >>> ((31 : Int32) &&& 31).toUInt32).toInt32.toInt8.toInt32 = (0 : Int32) := by
  rw [show Int32.ofNat n - Int32.ofNat n = 0 from Int32.sub_self _]
  decide
theorem codB {n : Nat} (hp : 0 < n) (h : 2 * n < 2147483648) : (((Int32.ofNat n) - (Int32.ofNat (2 * n))).toUInt32 >>> ((31 : Int32) &&& 31).toUInt32).toInt32.toInt8.toInt32 = (1 : Int32) := by
  have e : ((((Int32.ofNat n) - (Int32.ofNat (2 * n))).toUInt32 >>> ((31 : Int32) &&& 31).toUInt32).toInt32) = (1 : Int32) := by
    refine Int32.toInt_inj.mp ?_
    rw [c_iushr _ 31 31 (by decide) (by decide)]
    have q := c_isub (Int32.ofNat n) (Int32.ofNat (2 * n))
    rw [Int32.toInt_ofNat_small (by omega), Int32.toInt_ofNat_small (by omega)] at q
    have h1 := ((Int32.ofNat n) - (Int32.ofNat (2 * n))).toInt_lt
    have h2 := ((Int32.ofNat n) - (Int32.ofNat (2 * n))).le_toInt
    have e31 : ((2 ^ 31 : Nat) : Int) = 2147483648 := by decide
    rw [e31, show (1 : Int32).toInt = 1 from rfl]
    omega
  rw [e]
  decide
theorem smB {x : Int32} (h : isCh x) (q : ¬ ((255 : Int32) < x)) : isB x := by
  rw [Int32.lt_iff_toInt_lt, show (255 : Int32).toInt = 255 from rfl] at q
  exact ⟨h.1, by omega⟩
theorem isCh_of {x : Int32} (h : isB x) : isCh x := ⟨h.1, by have := h.2; omega⟩
theorem firstBig (g : Nat → Int32) : ∀ n : Nat, (∀ j, j < n → ¬ ((255 : Int32) < g j)) ∨ ∃ k, k < n ∧ (255 : Int32) < g k ∧ ∀ j, j < k → ¬ ((255 : Int32) < g j)
  | 0 => Or.inl fun j hj => absurd hj (Nat.not_lt_zero _)
  | n + 1 => by
    rcases firstBig g n with h | ⟨k, h1, h2, h3⟩
    · by_cases q : (255 : Int32) < g n
      · exact Or.inr ⟨n, Nat.lt_succ_self _, q, h⟩
      · exact Or.inl fun j hj => by
          by_cases r : j = n
          · rw [r]; exact q
          · exact h j (by omega)
    · exact Or.inr ⟨k, by omega, h2, h3⟩
theorem shr0 (x : Int32) : x >>> ((0 : Int32) &&& 31) = x := by
  refine Int32.toInt_inj.mp ?_
  rw [c_ishr x 0 0 (by decide)]
  exact Int.ediv_one _

/-- the statics that the String bodies read, as they stood when the law began -/
def StrSta (Z : State) : Prop := (∃ k : Int32, ¬ (k = (0 : Int32)) ∧ Sta Z Z.heap "java/lang/String" "COMPACT_STRINGS" "Z" (.int k)) ∧ Sta Z Z.heap "java/lang/StringUTF16" "$assertionsDisabled" "Z" (.int (1 : Int32)) ∧
  Sta Z Z.heap "java/lang/StringUTF16" "HI_BYTE_SHIFT" "I" (.int (0 : Int32)) ∧ Sta Z Z.heap "java/lang/StringUTF16" "LO_BYTE_SHIFT" "I" (.int (8 : Int32)) ∧
  (Sta Z Z.heap "jdk/internal/util/Preconditions" "SIOOBE_FORMATTER" "Ljava/util/function/BiFunction;" .null ∨ ∃ a : Addr, Sta Z Z.heap "jdk/internal/util/Preconditions" "SIOOBE_FORMATTER" "Ljava/util/function/BiFunction;" (.ref a))
def Ca (g : Nat → Int32) : Nat → Value := fun j => .int (g j)
def Lb (g : Nat → Int32) : Nat → Value := fun j => .int (b8 (g j))
def Ub (g : Nat → Int32) : Nat → Value := fun j => .int (if j % 2 = 0 then lo8 (g (j / 2)) else hi8 (g (j / 2)))
theorem Ub_lo (g : Nat → Int32) (i : Nat) : Ub g (2 * i) = .int (lo8 (g i)) := by unfold Ub; rw [if_pos (by omega), show 2 * i / 2 = i by omega]
theorem Ub_hi (g : Nat → Int32) (i : Nat) : Ub g (2 * i + 1) = .int (hi8 (g i)) := by unfold Ub; rw [if_neg (by omega), show (2 * i + 1) / 2 = i by omega]
def QI (r : Int32) (h0 : Heap) (n0 : Nat) (v : Option Value) (h : Heap) (L : List Loc) : Prop := v = some (.int r) ∧ Fr n0 L ∧ h = h0
def QN (h0 : Heap) (n0 : Nat) (v : Option Value) (h : Heap) (L : List Loc) : Prop := v = none ∧ Fr n0 L ∧ h = h0
def QA (Z : State) (ty : FieldType) (n : Nat) (f : Nat → Value) (h0 : Heap) (n0 : Nat) (v : Option Value) (h : Heap) (L : List Loc) : Prop := ∃ b : Addr, v = some (.ref b) ∧ Fr n0 L ∧ Keep h0 h [] ∧ h0.size ≤ b ∧ AF Z h b ty n f
def QK (Z : State) (b : Addr) (ty : FieldType) (n : Nat) (f : Nat → Value) (h0 : Heap) (n0 : Nat) (v : Option Value) (h : Heap) (L : List Loc) : Prop := v = none ∧ Fr n0 L ∧ Keep h0 h [b] ∧ AF Z h b ty n f
def QR (Z : State) (r : Int32) (b : Addr) (ty : FieldType) (n : Nat) (P : (Nat → Value) → Prop) (h0 : Heap) (n0 : Nat) (v : Option Value) (h : Heap) (L : List Loc) : Prop := v = some (.int r) ∧ Fr n0 L ∧ Keep h0 h [b] ∧ ∃ f, AF Z h b ty n f ∧ P f
/-- a String of n chars, the j-th is g j -/
def Str (Z : State) (h : Heap) (a : Addr) (n : Nat) (g : Nat → Int32) : Prop := Exa Z h a "java/lang/String" ∧ ∃ b : Addr, Fld Z h a "java/lang/String" "value" "[B" (.ref b) ∧
  ((Fld Z h a "java/lang/String" "coder" "B" (.int (0 : Int32)) ∧ AF Z h b .byte n (Lb g) ∧ ∀ j, j < n → isB (g j)) ∨
   (Fld Z h a "java/lang/String" "coder" "B" (.int (1 : Int32)) ∧ AF Z h b .byte (2 * n) (Ub g) ∧ ∀ j, j < n → isCh (g j)))
theorem Str.lt {Z : State} {h : Heap} {a : Addr} {n : Nat} {g : Nat → Int32} (S : Str Z h a n g) : a < h.size := S.1.lt
theorem Str.ext {Z : State} {h h' : Heap} {a : Addr} {n : Nat} {g : Nat → Int32} (S : Str Z h a n g) (E : Ext h h') : Str Z h' a n g := by
  obtain ⟨X, b, V, S⟩ := S
  exact ⟨X.ext E, b, V.ext E, S.imp (fun q => ⟨q.1.ext E, q.2.1.ext E, q.2.2⟩) (fun q => ⟨q.1.ext E, q.2.1.ext E, q.2.2⟩)⟩
theorem Str.keep {Z : State} {h h' : Heap} {a : Addr} {n : Nat} {g : Nat → Int32} (S : Str Z h a n g) (K : Keep h h' []) : Str Z h' a n g := by
  obtain ⟨X, b, V, S⟩ := S
  exact ⟨X.keep K, b, V.keep K (List.not_mem_nil), S.imp (fun q => ⟨q.1.keep K (List.not_mem_nil), q.2.1.keep K (List.not_mem_nil), q.2.2⟩) (fun q => ⟨q.1.keep K (List.not_mem_nil), q.2.1.keep K (List.not_mem_nil), q.2.2⟩)⟩
def QS (Z : State) (o : Addr) (n : Nat) (g : Nat → Int32) (h0 : Heap) (n0 : Nat) (v : Option Value) (h : Heap) (L : List Loc) : Prop := v = none ∧ Fr n0 L ∧ Keep h0 h [o] ∧ Str Z h o n g
theorem notin1 {a b : Addr} (q : a ≠ b) : a ∉ [b] := fun r => q (List.mem_singleton.mp r)
theorem all1 {n0 : Nat} {b : Addr} (q : n0 ≤ b) : ∀ x ∈ [b], n0 ≤ x := fun x r => by cases List.mem_singleton.mp r; exact q
theorem all0' {n0 : Nat} : ∀ x ∈ ([] : List Addr), n0 ≤ x := fun x r => absurd r List.not_mem_nil

theorem pd_0 : parseMethodDescriptor "(I)I" = some ⟨[.int], some .int⟩ := by decide +kernel
theorem pd_1 : parseMethodDescriptor "(III)I" = some ⟨[.int, .int, .int], some .int⟩ := by decide +kernel
theorem pd_2 : parseMethodDescriptor "([C)V" = some ⟨[(.array .char)], none⟩ := by decide +kernel
theorem pd_3 : parseMethodDescriptor "([CIILjava/lang/Void;)V" = some ⟨[(.array .char), .int, .int, (.object "java/lang/Void")], none⟩ := by decide +kernel
theorem pd_4 : parseMethodDescriptor "()V" = some ⟨[], none⟩ := by decide +kernel
theorem pd_5 : parseMethodDescriptor "([CII)[B" = some ⟨[(.array .char), .int, .int], some (.array .byte)⟩ := by decide +kernel
theorem pd_6 : parseMethodDescriptor "([CI[BII)I" = some ⟨[(.array .char), .int, (.array .byte), .int, .int], some .int⟩ := by decide +kernel
theorem pd_7 : parseMethodDescriptor "([BI)B" = some ⟨[(.array .byte), .int], some .byte⟩ := by decide +kernel
theorem pd_8 : parseMethodDescriptor "(Ljava/lang/String;)Lcom/example/orderly_latch/orderlylatch/name/LatchName;" = some ⟨[(.object "java/lang/String")], some (.object "com/example/orderly_latch/orderlylatch/name/LatchName")⟩ := by decide +kernel
theorem pd_9 : parseMethodDescriptor "(Ljava/lang/Object;Ljava/lang/String;)Ljava/lang/Object;" = some ⟨[(.object "java/lang/Object"), (.object "java/lang/String")], some (.object "java/lang/Object")⟩ := by decide +kernel
theorem pd_10 : parseMethodDescriptor "()Z" = some ⟨[], some .boolean⟩ := by decide +kernel
theorem pd_11 : parseMethodDescriptor "(Ljava/lang/String;)I" = some ⟨[(.object "java/lang/String")], some .int⟩ := by decide +kernel
theorem pd_12 : parseMethodDescriptor "()I" = some ⟨[], some .int⟩ := by decide +kernel
theorem pd_13 : parseMethodDescriptor "()B" = some ⟨[], some .byte⟩ := by decide +kernel
theorem pd_14 : parseMethodDescriptor "(I)C" = some ⟨[.int], some .char⟩ := by decide +kernel
theorem pd_15 : parseMethodDescriptor "([BI)C" = some ⟨[(.array .byte), .int], some .char⟩ := by decide +kernel
theorem pd_16 : parseMethodDescriptor "(II)V" = some ⟨[.int, .int], none⟩ := by decide +kernel
theorem pd_17 : parseMethodDescriptor "(IILjava/util/function/BiFunction;)I" = some ⟨[.int, .int, (.object "java/util/function/BiFunction")], some .int⟩ := by decide +kernel
theorem pd_18 : parseMethodDescriptor "(Ljava/lang/String;)V" = some ⟨[(.object "java/lang/String")], none⟩ := by decide +kernel
theorem pd_19 : parseMethodDescriptor "()Ljava/lang/String;" = some ⟨[], some (.object "java/lang/String")⟩ := by decide +kernel
theorem pd_20 : parseMethodDescriptor "(Ljava/lang/Object;)Z" = some ⟨[(.object "java/lang/Object")], some .boolean⟩ := by decide +kernel
theorem pd_21 : parseMethodDescriptor "(I)Z" = some ⟨[.int], some .boolean⟩ := by decide +kernel
theorem pd_22 : parseMethodDescriptor "(I)[B" = some ⟨[.int], some (.array .byte)⟩ := by decide +kernel
theorem pd_23 : parseMethodDescriptor "([BII)V" = some ⟨[(.array .byte), .int, .int], none⟩ := by decide +kernel
theorem pd_24 : parseMethodDescriptor "(I[B)V" = some ⟨[.int, (.array .byte)], none⟩ := by decide +kernel
theorem pd_25 : parseMethodDescriptor "([B)I" = some ⟨[(.array .byte)], some .int⟩ := by decide +kernel
theorem pd_26 : parseMethodDescriptor "(C)Z" = some ⟨[.char], some .boolean⟩ := by decide +kernel
theorem d27_0 : decode jdk_52_method_3_code 0 = .ok (.iload_n 0, 1) := by decide +kernel
theorem d27_1 : decode jdk_52_method_3_code 1 = .ok (.ifCond .ge 11, 3) := by decide +kernel
theorem d27_4 : decode jdk_52_method_3_code 4 = .ok (.new 17, 3) := by decide +kernel
theorem d27_7 : decode jdk_52_method_3_code 7 = .ok (.dup, 1) := by decide +kernel
theorem d27_8 : decode jdk_52_method_3_code 8 = .ok (.invokespecial 19, 3) := by decide +kernel
theorem d27_11 : decode jdk_52_method_3_code 11 = .ok (.athrow, 1) := by decide +kernel
theorem d27_12 : decode jdk_52_method_3_code 12 = .ok (.iload_n 0, 1) := by decide +kernel
theorem d27_13 : decode jdk_52_method_3_code 13 = .ok (.ldc 20, 2) := by decide +kernel
theorem d27_15 : decode jdk_52_method_3_code 15 = .ok (.if_icmp .lt 40, 3) := by decide +kernel
theorem d27_18 : decode jdk_52_method_3_code 18 = .ok (.new 21, 3) := by decide +kernel
theorem d27_21 : decode jdk_52_method_3_code 21 = .ok (.dup, 1) := by decide +kernel
theorem d27_22 : decode jdk_52_method_3_code 22 = .ok (.new 23, 3) := by decide +kernel
theorem d27_25 : decode jdk_52_method_3_code 25 = .ok (.dup, 1) := by decide +kernel
theorem d27_26 : decode jdk_52_method_3_code 26 = .ok (.invokespecial 25, 3) := by decide +kernel
theorem d27_29 : decode jdk_52_method_3_code 29 = .ok (.ldc 26, 2) := by decide +kernel
theorem d27_31 : decode jdk_52_method_3_code 31 = .ok (.invokevirtual 28, 3) := by decide +kernel
theorem d27_34 : decode jdk_52_method_3_code 34 = .ok (.iload_n 0, 1) := by decide +kernel
theorem d27_35 : decode jdk_52_method_3_code 35 = .ok (.invokevirtual 32, 3) := by decide +kernel
theorem d27_38 : decode jdk_52_method_3_code 38 = .ok (.ldc 35, 2) := by decide +kernel
theorem d27_40 : decode jdk_52_method_3_code 40 = .ok (.invokevirtual 28, 3) := by decide +kernel
theorem d27_43 : decode jdk_52_method_3_code 43 = .ok (.ldc 20, 2) := by decide +kernel
theorem d27_45 : decode jdk_52_method_3_code 45 = .ok (.invokevirtual 32, 3) := by decide +kernel
theorem d27_48 : decode jdk_52_method_3_code 48 = .ok (.invokevirtual 37, 3) := by decide +kernel
theorem d27_51 : decode jdk_52_method_3_code 51 = .ok (.invokespecial 41, 3) := by decide +kernel
theorem d27_54 : decode jdk_52_method_3_code 54 = .ok (.athrow, 1) := by decide +kernel
theorem d27_55 : decode jdk_52_method_3_code 55 = .ok (.iload_n 0, 1) := by decide +kernel
theorem d27_56 : decode jdk_52_method_3_code 56 = .ok (.iconst 1, 1) := by decide +kernel
theorem d27_57 : decode jdk_52_method_3_code 57 = .ok (.ishl, 1) := by decide +kernel
theorem d27_58 : decode jdk_52_method_3_code 58 = .ok (.ireturn, 1) := by decide +kernel
theorem pn_27 : plainName "java/lang/StringUTF16" = true := by first | (simp [plainName, overriddenIn]; done) | decide +kernel
theorem ef_27 (m : MethodId) (x0 : Int32) : entryFrame m #[(.int x0)] 1 = mkF m 0 #[.val (.int x0)] [] := by first | (simp [entryFrame, mkF, argsToLocals, Value.category]; done) | rfl
set_option maxRecDepth 65536 in
set_option maxHeartbeats 40000000 in
theorem rmNBL (l : Launch) (Z : State) (a0 : Array Value) (hw : ∀ d ∈ tables_1, d.before a0 Z = true) (ws : List Jvm.Cond) (n : Nat)  (h0 : Heap) (n0 : Nat) (Z0 : n0 ≤ h0.size) (hn : n ≤ 200)  :
    MetFree l (⟨"java/lang/StringUTF16", "newBytesLength", "(I)I"⟩ : MethodName) (head1 (Jvm.Cond.code (⟨"java/lang/StringUTF16", "newBytesLength", "(I)I"⟩ : MethodName) jdk_52_method_3_code 1 (some .int) :: ws) ({ frames := 0, cells := 0, slots := 0, locals := 0 } : Room)) (fun aa_ U_ => aa_ = #[(.int (Int32.ofNat n))] ∧ Z.Warmed39 U_.vm ∧ U_.heap = h0) (fun _ _ _ _ _ => True) (fun _ U_ o_ V_ => ∃ v_ L_, o_ = .returned v_ ∧ QI (Int32.ofNat (2 * n)) h0 n0 v_ V_.heap L_ ∧ FrameEnd U_ o_ V_ L_ ({ frames := 0, cells := 0, slots := 0, locals := 0 } : Room).cells ({ frames := 0, cells := 0, slots := 0, locals := 0 } : Room).slots) := by
  refine MetFree.of_bodySF (plainFor_of_name pn_27) hisR ?_
  intro p e s m args below meth c s₁ Bd hml0 hP hK
  obtain ⟨rfl, hZ, hh⟩ := hP
  have hx := Bd.exec
  have hby := Bd.bytes
  have hml : c.maxLocals = 1 := hml0
  have hown : s.vm.findClass "java/lang/StringUTF16" = some m.cls := findClass_of_methodNamed Bd.named
  have hnm := (name_of_methodNamed Bd.named Bd.method).1
  have X0 : Stand p l e ({ frames := 0, cells := 0, slots := 0, locals := 0 } : Room) s m #[(.int (Int32.ofNat n))] below meth c s₁ [] 0 0 := Stand.of_body Bd
  have e0 : s₁.heap = h0 := by rw [← hh, Bd.state]; rfl
  have N0 := Fr.nil n0
  have pre0 : ∀ zz, Steps p.tables e below (s₁.setTop (mkF m 0 #[.val (.int (Int32.ofNat n))] [])) zz → Steps p.tables e below (s₁.setTop (entryFrame m #[(.int (Int32.ofNat n))] 1)) zz := fun zz k => castTop (ef_27 m (Int32.ofNat n)) k
  obtain ⟨fs, hr, hrun, hended, hW, hsame⟩ := X0.leave (v := some (.int (Int32.ofNat (2 * n)))) (fun h => by rw [Bd.returns] at h; cases h)
  refine ⟨_, _, pre0 _ ?_, hrun, hended, _, _, rfl, ?_, ⟨_, rfl⟩, hW, hsame.mono (by decide) (by decide)⟩
  · show Steps p.tables e below (s₁.setTop (mkF m 0 #[.val (.int (Int32.ofNat n))] [])) _
    refine XS.iloadN X0.here hx rfl (hb hby d27_0) rfl ?_
    refine XS.ifYes X0.here hx rfl (pc0 := 1) (pc' := 12) rfl (hb hby d27_1) rfl ((if0 _ _).trans (flt (nnN (by omega))).2.1) (by decide) (by decide) ?_
    refine XS.iloadN X0.here hx rfl (hb hby d27_12) rfl ?_
    refine X0.ldcInt hx hown (mvT hZ (hw _ (List.mem_of_getElem? (i := 126) rfl))) (g := (mkF m 13 #[.val (.int (Int32.ofNat n))] [(.int (Int32.ofNat n))])) rfl (hb hby d27_13) _ ?_
    refine XS.icmpYes X0.here hx rfl (pc0 := 15) (pc' := 55) rfl (hb hby d27_15) rfl (tlt ((ltN (n := 1073741823) (by omega) (by decide)).mpr (by omega))).1 (by decide) (by decide) ?_
    refine XS.iloadN X0.here hx rfl (hb hby d27_55) rfl ?_
    show Steps p.tables e below (s₁.setTop (mkF m 56 #[.val (.int (Int32.ofNat n))] [(.int (Int32.ofNat n))])) _
    refine XS.iconst X0.here hx rfl (hb hby d27_56) ?_
    refine XS.ishl X0.here hx rfl (hb hby d27_57) rfl ?_
    show Steps p.tables e below (s₁.setTop (mkF m 58 #[.val (.int (Int32.ofNat n))] [(.int ((Int32.ofNat n) <<< ((1 : Int32) &&& 31)))])) _
    rw [show ((Int32.ofNat n) <<< ((1 : Int32) &&& 31)) = (Int32.ofNat (2 * n)) from shl1N (by omega)]
    show Steps p.tables e below (s₁.setTop (mkF m 58 #[.val (.int (Int32.ofNat n))] [(.int (Int32.ofNat (2 * n)))])) _
    exact retI X0 hx Bd.returns (hb hby d27_58) hr
  · show QI (Int32.ofNat (2 * n)) h0 n0 _ s₁.heap _
    rw [e0]
    exact ⟨rfl, N0, rfl⟩
theorem d26_0 : decode jdk_52_method_2_code 0 = .ok (.iload_n 0, 1) := by decide +kernel
theorem d26_1 : decode jdk_52_method_2_code 1 = .ok (.invokestatic 11, 3) := by decide +kernel
theorem d26_4 : decode jdk_52_method_2_code 4 = .ok (.newarray .byte, 2) := by decide +kernel
theorem d26_6 : decode jdk_52_method_2_code 6 = .ok (.areturn, 1) := by decide +kernel
theorem pn_26 : plainName "java/lang/StringUTF16" = true := by first | (simp [plainName, overriddenIn]; done) | decide +kernel
theorem ef_26 (m : MethodId) (x0 : Int32) : entryFrame m #[(.int x0)] 1 = mkF m 0 #[.val (.int x0)] [] := by first | (simp [entryFrame, mkF, argsToLocals, Value.category]; done) | rfl
set_option maxRecDepth 65536 in
set_option maxHeartbeats 40000000 in
theorem rmNBF (l : Launch) (Z : State) (a0 : Array Value) (hw : ∀ d ∈ tables_1, d.before a0 Z = true) (ws : List Jvm.Cond) (n : Nat)  (h0 : Heap) (n0 : Nat) (Z0 : n0 ≤ h0.size) (hn : n ≤ 200)  :
    MetFree l (⟨"java/lang/StringUTF16", "newBytesFor", "(I)[B"⟩ : MethodName) (head1 (Jvm.Cond.code (⟨"java/lang/StringUTF16", "newBytesFor", "(I)[B"⟩ : MethodName) jdk_52_method_2_code 1 (some (.array .byte)) :: ws) ({ frames := 1, cells := 1, slots := 400, locals := 20 } : Room)) (fun aa_ U_ => aa_ = #[(.int (Int32.ofNat n))] ∧ Z.Warmed39 U_.vm ∧ U_.heap = h0) (fun _ _ _ _ _ => True) (fun _ U_ o_ V_ => ∃ v_ L_, o_ = .returned v_ ∧ QA Z .byte (2 * n) (fun _ => (.int (0 : Int32))) h0 n0 v_ V_.heap L_ ∧ FrameEnd U_ o_ V_ L_ ({ frames := 1, cells := 1, slots := 400, locals := 20 } : Room).cells ({ frames := 1, cells := 1, slots := 400, locals := 20 } : Room).slots) := by
  refine MetFree.of_bodySF (plainFor_of_name pn_26) hisR ?_
  intro p e s m args below meth c s₁ Bd hml0 hP hK
  obtain ⟨rfl, hZ, hh⟩ := hP
  have hx := Bd.exec
  have hby := Bd.bytes
  have hml : c.maxLocals = 1 := hml0
  have hown : s.vm.findClass "java/lang/StringUTF16" = some m.cls := findClass_of_methodNamed Bd.named
  have hnm := (name_of_methodNamed Bd.named Bd.method).1
  have X0 : Stand p l e ({ frames := 1, cells := 1, slots := 400, locals := 20 } : Room) s m #[(.int (Int32.ofNat n))] below meth c s₁ [] 0 0 := Stand.of_body Bd
  have e0 : s₁.heap = h0 := by rw [← hh, Bd.state]; rfl
  have N0 := Fr.nil n0
  have pre0 : ∀ zz, Steps p.tables e below (s₁.setTop (mkF m 0 #[.val (.int (Int32.ofNat n))] [])) zz → Steps p.tables e below (s₁.setTop (entryFrame m #[(.int (Int32.ofNat n))] 1)) zz := fun zz k => castTop (ef_26 m (Int32.ofNat n)) k
  obtain ⟨_, _, ⟨T1, L1, k1, n1⟩, -, X1, ⟨Lc1, hQ1, l1, y1, z1⟩, st1⟩ := Jvm.LawKit.callS X0 hx (y := (⟨"java/lang/StringUTF16", "newBytesLength", "(I)I"⟩ : MethodName)) hown (mvT hZ (hw _ (List.mem_of_getElem? (i := 123) rfl))) (mvT hZ (hw _ (List.mem_of_getElem? (i := 124) rfl))) (mvT hZ (hw _ (List.mem_of_getElem? (i := 25) rfl))) (mvT hZ (hw _ (List.mem_of_getElem? (i := 125) rfl))) (by decide) (backOf (W := 0) (rmNBL l Z a0 hw [] n h0 n0 Z0 hn) hZ (hw _ (List.mem_of_getElem? (i := 125) rfl)) (hw _ (List.mem_of_getElem? (i := 25) rfl)) (by decide) (by decide)) (g := (mkF m 1 #[.val (.int (Int32.ofNat n))] [(.int (Int32.ofNat n))])) rfl (by rw [hml]; rfl) (argsL := [(.int (Int32.ofNat n))]) (rest := []) (lenOf pd_0 rfl) rfl (by show 2 * 0 + _ ≤ _; exact Nat.le_of_eq rfl) (hb hby d26_1) (fun _ _ => ⟨rfl, e0, (by decide : 0 + 0 ≤ _), (by decide : 0 + 0 ≤ _)⟩)
  dsimp only [Pt.U, Pt.locs, Pt.cells, Pt.slots] at X1 l1 y1 z1 st1 hQ1
  subst l1 y1 z1
  obtain ⟨rfl, N1q, e1⟩ := hQ1
  have N1 := Fr.app N0 N1q
  obtain ⟨T2, h2, X2, e2, E2, A2, st2⟩ := nwA X1 hx hZ (hw _ (List.mem_of_getElem? (i := 27) rfl)) e1 (g := (mkF m 4 #[.val (.int (Int32.ofNat n))] [(.int (Int32.ofNat (2 * n)))])) rfl (hb hby d26_4) (n := (2 * n)) rfl (cap := 400) (by omega) (by decide) (by decide) (by decide)
  obtain ⟨b2, q2⟩ : ∃ z, z = h0.size := ⟨_, rfl⟩
  rw [← q2] at A2 st2
  have V2 : AF Z h2 b2 .byte (2 * n) (fun _ => (.int (0 : Int32))) := A2
  have g_b2 : n0 ≤ b2 := Nat.le_trans Z0 (Nat.le_of_eq q2.symm)
  have sz_b2 : h0.size ≤ b2 := Nat.le_trans (Keep.refl h0 []).1 (Nat.le_of_eq q2.symm)
  have K2 := (Keep.refl h0 []).ext E2
  have Z2 : n0 ≤ h2.size := Nat.le_trans Z0 E2.1
  obtain ⟨fs, hr, hrun, hended, hW, hsame⟩ := X2.leave (v := some (.ref b2)) (fun h => by rw [Bd.returns] at h; cases h)
  refine ⟨_, _, pre0 _ ?_, hrun, hended, _, _, rfl, ?_, ⟨_, rfl⟩, hW, hsame.mono (by decide) (by decide)⟩
  · show Steps p.tables e below (s₁.setTop (mkF m 0 #[.val (.int (Int32.ofNat n))] [])) _
    refine XS.iloadN X0.here hx rfl (hb hby d26_0) rfl ?_
    show Steps p.tables e below (s₁.setTop (mkF m 1 #[.val (.int (Int32.ofNat n))] [(.int (Int32.ofNat n))])) _
    refine st1 _ ?_
    show Steps p.tables e below (T1.setTop (mkF m 4 #[.val (.int (Int32.ofNat n))] [(.int (Int32.ofNat (2 * n)))])) _
    refine st2 _ ?_
    show Steps p.tables e below (T2.setTop (mkF m 6 #[.val (.int (Int32.ofNat n))] [(.ref b2)])) _
    jvm_step X2.here [X2.here.top, hx, (hb hby d26_6), X2.method', Bd.returns, Value.isRef, FieldType.isReference]
    first | (intro acts; rw [hr _ acts rfl rfl rfl]) | rw [hr _ _ rfl rfl rfl]
    exact Steps.refl _
  · show QA Z .byte (2 * n) (fun _ => (.int (0 : Int32))) h0 n0 _ T2.heap _
    exact ⟨b2, rfl, N1, by rw [e2]; exact K2, sz_b2, by rw [e2]; exact V2⟩
theorem d28_0 : decode jdk_52_method_4_code 0 = .ok (.getstatic 44, 3) := by decide +kernel
theorem d28_3 : decode jdk_52_method_4_code 3 = .ok (.ifCond .ne 25, 3) := by decide +kernel
theorem d28_6 : decode jdk_52_method_4_code 6 = .ok (.iload_n 1, 1) := by decide +kernel
theorem d28_7 : decode jdk_52_method_4_code 7 = .ok (.ifCond .lt 11, 3) := by decide +kernel
theorem d28_10 : decode jdk_52_method_4_code 10 = .ok (.iload_n 1, 1) := by decide +kernel
theorem d28_11 : decode jdk_52_method_4_code 11 = .ok (.aload_n 0, 1) := by decide +kernel
theorem d28_12 : decode jdk_52_method_4_code 12 = .ok (.invokestatic 48, 3) := by decide +kernel
theorem d28_15 : decode jdk_52_method_4_code 15 = .ok (.if_icmp .lt 13, 3) := by decide +kernel
theorem d28_18 : decode jdk_52_method_4_code 18 = .ok (.new 52, 3) := by decide +kernel
theorem d28_21 : decode jdk_52_method_4_code 21 = .ok (.dup, 1) := by decide +kernel
theorem d28_22 : decode jdk_52_method_4_code 22 = .ok (.ldc 54, 2) := by decide +kernel
theorem d28_24 : decode jdk_52_method_4_code 24 = .ok (.invokespecial 56, 3) := by decide +kernel
theorem d28_27 : decode jdk_52_method_4_code 27 = .ok (.athrow, 1) := by decide +kernel
theorem d28_28 : decode jdk_52_method_4_code 28 = .ok (.iload_n 1, 1) := by decide +kernel
theorem d28_29 : decode jdk_52_method_4_code 29 = .ok (.iconst 1, 1) := by decide +kernel
theorem d28_30 : decode jdk_52_method_4_code 30 = .ok (.ishl, 1) := by decide +kernel
theorem d28_31 : decode jdk_52_method_4_code 31 = .ok (.istore_n 1, 1) := by decide +kernel
theorem d28_32 : decode jdk_52_method_4_code 32 = .ok (.aload_n 0, 1) := by decide +kernel
theorem d28_33 : decode jdk_52_method_4_code 33 = .ok (.iload_n 1, 1) := by decide +kernel
theorem d28_34 : decode jdk_52_method_4_code 34 = .ok (.iinc 1 1, 3) := by decide +kernel
theorem d28_37 : decode jdk_52_method_4_code 37 = .ok (.iload_n 2, 1) := by decide +kernel
theorem d28_38 : decode jdk_52_method_4_code 38 = .ok (.getstatic 59, 3) := by decide +kernel
theorem d28_41 : decode jdk_52_method_4_code 41 = .ok (.ishr, 1) := by decide +kernel
theorem d28_42 : decode jdk_52_method_4_code 42 = .ok (.i2b, 1) := by decide +kernel
theorem d28_43 : decode jdk_52_method_4_code 43 = .ok (.bastore, 1) := by decide +kernel
theorem d28_44 : decode jdk_52_method_4_code 44 = .ok (.aload_n 0, 1) := by decide +kernel
theorem d28_45 : decode jdk_52_method_4_code 45 = .ok (.iload_n 1, 1) := by decide +kernel
theorem d28_46 : decode jdk_52_method_4_code 46 = .ok (.iload_n 2, 1) := by decide +kernel
theorem d28_47 : decode jdk_52_method_4_code 47 = .ok (.getstatic 63, 3) := by decide +kernel
theorem d28_50 : decode jdk_52_method_4_code 50 = .ok (.ishr, 1) := by decide +kernel
theorem d28_51 : decode jdk_52_method_4_code 51 = .ok (.i2b, 1) := by decide +kernel
theorem d28_52 : decode jdk_52_method_4_code 52 = .ok (.bastore, 1) := by decide +kernel
theorem d28_53 : decode jdk_52_method_4_code 53 = .ok (.return_, 1) := by decide +kernel
theorem pn_28 : plainName "java/lang/StringUTF16" = true := by first | (simp [plainName, overriddenIn]; done) | decide +kernel
theorem ef_28 (m : MethodId) (x0 : Addr) (x1 : Int32) (x2 : Int32) : entryFrame m #[(.ref x0), (.int x1), (.int x2)] 3 = mkF m 0 #[.val (.ref x0), .val (.int x1), .val (.int x2)] [] := by first | (simp [entryFrame, mkF, argsToLocals, Value.category]; done) | rfl
set_option maxRecDepth 65536 in
set_option maxHeartbeats 40000000 in
theorem rmPC (l : Launch) (Z : State) (a0 : Array Value) (hw : ∀ d ∈ tables_1, d.before a0 Z = true) (ws : List Jvm.Cond) (b : Addr) (i n : Nat) (x : Int32) (f : Nat → Value)  (h0 : Heap) (n0 : Nat) (Z0 : n0 ≤ h0.size) (hn : n ≤ 200) (hi : i < n) (O : Old Z n0 h0) (SK : StrSta Z) (FB : AF Z h0 b .byte (2 * n) f) (g_b : n0 ≤ b)  :
    MetFree l (⟨"java/lang/StringUTF16", "putChar", "([BII)V"⟩ : MethodName) (head1 (Jvm.Cond.code (⟨"java/lang/StringUTF16", "putChar", "([BII)V"⟩ : MethodName) jdk_52_method_4_code 3 none :: ws) ({ frames := 0, cells := 0, slots := 0, locals := 0 } : Room)) (fun aa_ U_ => aa_ = #[(.ref b), (.int (Int32.ofNat i)), (.int x)] ∧ Z.Warmed39 U_.vm ∧ U_.heap = h0) (fun _ _ _ _ _ => True) (fun _ U_ o_ V_ => ∃ v_ L_, o_ = .returned v_ ∧ QK Z b .byte (2 * n) (upd (upd f (2 * i) (.int (lo8 x))) (2 * i + 1) (.int (hi8 x))) h0 n0 v_ V_.heap L_ ∧ FrameEnd U_ o_ V_ L_ ({ frames := 0, cells := 0, slots := 0, locals := 0 } : Room).cells ({ frames := 0, cells := 0, slots := 0, locals := 0 } : Room).slots) := by
  refine MetFree.of_bodySF (plainFor_of_name pn_28) hisR ?_
  intro p e s m args below meth c s₁ Bd hml0 hP hK
  obtain ⟨rfl, hZ, hh⟩ := hP
  have hx := Bd.exec
  have hby := Bd.bytes
  have hml : c.maxLocals = 3 := hml0
  have hown : s.vm.findClass "java/lang/StringUTF16" = some m.cls := findClass_of_methodNamed Bd.named
  have hnm := (name_of_methodNamed Bd.named Bd.method).1
  have X0 : Stand p l e ({ frames := 0, cells := 0, slots := 0, locals := 0 } : Room) s m #[(.ref b), (.int (Int32.ofNat i)), (.int x)] below meth c s₁ [] 0 0 := Stand.of_body Bd
  have e0 : s₁.heap = h0 := by rw [← hh, Bd.state]; rfl
  have N0 := Fr.nil n0
  have pre0 : ∀ zz, Steps p.tables e below (s₁.setTop (mkF m 0 #[.val (.ref b), .val (.int (Int32.ofNat i)), .val (.int x)] [])) zz → Steps p.tables e below (s₁.setTop (entryFrame m #[(.ref b), (.int (Int32.ofNat i)), (.int x)] 3)) zz := fun zz k => castTop (ef_28 m b (Int32.ofNat i) x) k
  obtain ⟨T3, X3, e3, st3⟩ := getS2 X0 hx hZ hown (host := "") (Or.inl (hw _ (List.mem_of_getElem? (i := 130) rfl))) Via.refl e0 (Sta.ext O.2 SK.2.1) (g := (mkF m 0 #[.val (.ref b), .val (.int (Int32.ofNat i)), .val (.int x)] [])) rfl (hb hby d28_0)
  obtain ⟨T4, X4, e4, st4⟩ := getS2 X3 hx hZ hown (host := "") (Or.inl (hw _ (List.mem_of_getElem? (i := 131) rfl))) Via.refl e3 (Sta.ext O.2 SK.2.2.1) (g := (mkF m 38 #[.val (.ref b), .val (.int (Int32.ofNat (2 * i + 1))), .val (.int x)] [(.int x), (.int (Int32.ofNat (2 * i))), (.ref b)])) rfl (hb hby d28_38)
  obtain ⟨T5, h5, X5, e5, W5, st5⟩ := stBy X4 hx hZ e4 FB (i := (2 * i)) (by omega) (by omega) (x := ((x >>> ((0 : Int32) &&& 31)).toInt8.toInt32)) (g := (mkF m 43 #[.val (.ref b), .val (.int (Int32.ofNat (2 * i + 1))), .val (.int x)] [(.int ((x >>> ((0 : Int32) &&& 31)).toInt8.toInt32)), (.int (Int32.ofNat (2 * i))), (.ref b)])) rfl rfl (hb hby d28_43)
  have A5 := FB.wr W5
  have N5 := Fr.snoc X5 N0 g_b
  have K5 := (Keep.refl h0 [b]).wr W5 (Or.inl (List.mem_of_getElem? (i := 0) rfl))
  have Z5 : n0 ≤ h5.size := Nat.le_trans Z0 (Keep.of_wr W5).1
  have O5 := O.wr W5 g_b
  obtain ⟨T6, X6, e6, st6⟩ := getS2 X5 hx hZ hown (host := "") (Or.inl (hw _ (List.mem_of_getElem? (i := 132) rfl))) Via.refl e5 (Sta.ext O5.2 SK.2.2.2.1) (g := (mkF m 47 #[.val (.ref b), .val (.int (Int32.ofNat (2 * i + 1))), .val (.int x)] [(.int x), (.int (Int32.ofNat (2 * i + 1))), (.ref b)])) rfl (hb hby d28_47)
  obtain ⟨T7, h7, X7, e7, W7, st7⟩ := stBy X6 hx hZ e6 A5 (i := (2 * i + 1)) (by omega) (by omega) (x := ((x >>> ((8 : Int32) &&& 31)).toInt8.toInt32)) (g := (mkF m 52 #[.val (.ref b), .val (.int (Int32.ofNat (2 * i + 1))), .val (.int x)] [(.int ((x >>> ((8 : Int32) &&& 31)).toInt8.toInt32)), (.int (Int32.ofNat (2 * i + 1))), (.ref b)])) rfl rfl (hb hby d28_52)
  have A7 := A5.wr W7
  have N7 := Fr.snoc X7 N5 g_b
  have K7 := K5.wr W7 (Or.inl (List.mem_of_getElem? (i := 0) rfl))
  have Z7 : n0 ≤ h7.size := Nat.le_trans Z5 (Keep.of_wr W7).1
  have O7 := O5.wr W7 g_b
  obtain ⟨fs, hr, hrun, hended, hW, hsame⟩ := X7.leave (v := none) (fun _ => rfl)
  refine ⟨_, _, pre0 _ ?_, hrun, hended, _, _, rfl, ?_, ⟨_, rfl⟩, hW, hsame.mono (by decide) (by decide)⟩
  · show Steps p.tables e below (s₁.setTop (mkF m 0 #[.val (.ref b), .val (.int (Int32.ofNat i)), .val (.int x)] [])) _
    refine st3 _ ?_
    refine XS.ifYes X3.here hx rfl (pc0 := 3) (pc' := 28) rfl (hb hby d28_3) rfl ((if0 _ _).trans (feq (by decide : ¬ ((1 : Int32) = (0 : Int32)))).2) (by decide) (by decide) ?_
    refine XS.iloadN X3.here hx rfl (hb hby d28_28) rfl ?_
    refine XS.iconst X3.here hx rfl (hb hby d28_29) ?_
    refine XS.ishl X3.here hx rfl (hb hby d28_30) rfl ?_
    show Steps p.tables e below (T3.setTop (mkF m 31 #[.val (.ref b), .val (.int (Int32.ofNat i)), .val (.int x)] [(.int ((Int32.ofNat i) <<< ((1 : Int32) &&& 31)))])) _
    rw [show ((Int32.ofNat i) <<< ((1 : Int32) &&& 31)) = (Int32.ofNat (2 * i)) from shl1N (by omega)]
    show Steps p.tables e below (T3.setTop (mkF m 31 #[.val (.ref b), .val (.int (Int32.ofNat i)), .val (.int x)] [(.int (Int32.ofNat (2 * i)))])) _
    refine XS.istoreN X3.here hx rfl (hb hby d28_31) rfl (l' := #[.val (.ref b), .val (.int (Int32.ofNat (2 * i))), .val (.int x)]) rfl ?_
    refine XS.aloadN X3.here hx rfl (hb hby d28_32) rfl rfl ?_
    refine XS.iloadN X3.here hx rfl (hb hby d28_33) rfl ?_
    refine XS.iinc X3.here hx rfl (hb hby d28_34) rfl (l' := #[.val (.ref b), .val (.int ((Int32.ofNat (2 * i)) + (1 : Int32))), .val (.int x)]) rfl ?_
    show Steps p.tables e below (T3.setTop (mkF m 37 #[.val (.ref b), .val (.int ((Int32.ofNat (2 * i)) + (1 : Int32))), .val (.int x)] [(.int (Int32.ofNat (2 * i))), (.ref b)])) _
    rw [show ((Int32.ofNat (2 * i)) + (1 : Int32)) = (Int32.ofNat (2 * i + 1)) from succN _]
    show Steps p.tables e below (T3.setTop (mkF m 37 #[.val (.ref b), .val (.int (Int32.ofNat (2 * i + 1))), .val (.int x)] [(.int (Int32.ofNat (2 * i))), (.ref b)])) _
    refine XS.iloadN X3.here hx rfl (hb hby d28_37) rfl ?_
    show Steps p.tables e below (T3.setTop (mkF m 38 #[.val (.ref b), .val (.int (Int32.ofNat (2 * i + 1))), .val (.int x)] [(.int x), (.int (Int32.ofNat (2 * i))), (.ref b)])) _
    refine st4 _ ?_
    refine XS.ishr X4.here hx rfl (hb hby d28_41) rfl ?_
    refine XS.i2b X4.here hx rfl (hb hby d28_42) rfl ?_
    show Steps p.tables e below (T4.setTop (mkF m 43 #[.val (.ref b), .val (.int (Int32.ofNat (2 * i + 1))), .val (.int x)] [(.int ((x >>> ((0 : Int32) &&& 31)).toInt8.toInt32)), (.int (Int32.ofNat (2 * i))), (.ref b)])) _
    refine st5 _ ?_
    refine XS.aloadN X5.here hx rfl (hb hby d28_44) rfl rfl ?_
    refine XS.iloadN X5.here hx rfl (hb hby d28_45) rfl ?_
    refine XS.iloadN X5.here hx rfl (hb hby d28_46) rfl ?_
    show Steps p.tables e below (T5.setTop (mkF m 47 #[.val (.ref b), .val (.int (Int32.ofNat (2 * i + 1))), .val (.int x)] [(.int x), (.int (Int32.ofNat (2 * i + 1))), (.ref b)])) _
    refine st6 _ ?_
    refine XS.ishr X6.here hx rfl (hb hby d28_50) rfl ?_
    refine XS.i2b X6.here hx rfl (hb hby d28_51) rfl ?_
    show Steps p.tables e below (T6.setTop (mkF m 52 #[.val (.ref b), .val (.int (Int32.ofNat (2 * i + 1))), .val (.int x)] [(.int ((x >>> ((8 : Int32) &&& 31)).toInt8.toInt32)), (.int (Int32.ofNat (2 * i + 1))), (.ref b)])) _
    refine st7 _ ?_
    show Steps p.tables e below (T7.setTop (mkF m 53 #[.val (.ref b), .val (.int (Int32.ofNat (2 * i + 1))), .val (.int x)] [])) _
    exact X7.returnOut hx Bd.returns (hb hby d28_53) hr
  · show QK Z b .byte (2 * n) (upd (upd f (2 * i) (.int (lo8 x))) (2 * i + 1) (.int (hi8 x))) h0 n0 _ T7.heap _
    exact ⟨rfl, N7, by rw [e7]; exact K7, by rw [e7]; exact A7⟩
theorem d29_0 : decode jdk_52_method_5_code 0 = .ok (.getstatic 44, 3) := by decide +kernel
theorem d29_3 : decode jdk_52_method_5_code 3 = .ok (.ifCond .ne 25, 3) := by decide +kernel
theorem d29_6 : decode jdk_52_method_5_code 6 = .ok (.iload_n 1, 1) := by decide +kernel
theorem d29_7 : decode jdk_52_method_5_code 7 = .ok (.ifCond .lt 11, 3) := by decide +kernel
theorem d29_10 : decode jdk_52_method_5_code 10 = .ok (.iload_n 1, 1) := by decide +kernel
theorem d29_11 : decode jdk_52_method_5_code 11 = .ok (.aload_n 0, 1) := by decide +kernel
theorem d29_12 : decode jdk_52_method_5_code 12 = .ok (.invokestatic 48, 3) := by decide +kernel
theorem d29_15 : decode jdk_52_method_5_code 15 = .ok (.if_icmp .lt 13, 3) := by decide +kernel
theorem d29_18 : decode jdk_52_method_5_code 18 = .ok (.new 52, 3) := by decide +kernel
theorem d29_21 : decode jdk_52_method_5_code 21 = .ok (.dup, 1) := by decide +kernel
theorem d29_22 : decode jdk_52_method_5_code 22 = .ok (.ldc 54, 2) := by decide +kernel
theorem d29_24 : decode jdk_52_method_5_code 24 = .ok (.invokespecial 56, 3) := by decide +kernel
theorem d29_27 : decode jdk_52_method_5_code 27 = .ok (.athrow, 1) := by decide +kernel
theorem d29_28 : decode jdk_52_method_5_code 28 = .ok (.iload_n 1, 1) := by decide +kernel
theorem d29_29 : decode jdk_52_method_5_code 29 = .ok (.iconst 1, 1) := by decide +kernel
theorem d29_30 : decode jdk_52_method_5_code 30 = .ok (.ishl, 1) := by decide +kernel
theorem d29_31 : decode jdk_52_method_5_code 31 = .ok (.istore_n 1, 1) := by decide +kernel
theorem d29_32 : decode jdk_52_method_5_code 32 = .ok (.aload_n 0, 1) := by decide +kernel
theorem d29_33 : decode jdk_52_method_5_code 33 = .ok (.iload_n 1, 1) := by decide +kernel
theorem d29_34 : decode jdk_52_method_5_code 34 = .ok (.iinc 1 1, 3) := by decide +kernel
theorem d29_37 : decode jdk_52_method_5_code 37 = .ok (.baload, 1) := by decide +kernel
theorem d29_38 : decode jdk_52_method_5_code 38 = .ok (.sipush 255, 3) := by decide +kernel
theorem d29_41 : decode jdk_52_method_5_code 41 = .ok (.iand, 1) := by decide +kernel
theorem d29_42 : decode jdk_52_method_5_code 42 = .ok (.getstatic 59, 3) := by decide +kernel
theorem d29_45 : decode jdk_52_method_5_code 45 = .ok (.ishl, 1) := by decide +kernel
theorem d29_46 : decode jdk_52_method_5_code 46 = .ok (.aload_n 0, 1) := by decide +kernel
theorem d29_47 : decode jdk_52_method_5_code 47 = .ok (.iload_n 1, 1) := by decide +kernel
theorem d29_48 : decode jdk_52_method_5_code 48 = .ok (.baload, 1) := by decide +kernel
theorem d29_49 : decode jdk_52_method_5_code 49 = .ok (.sipush 255, 3) := by decide +kernel
theorem d29_52 : decode jdk_52_method_5_code 52 = .ok (.iand, 1) := by decide +kernel
theorem d29_53 : decode jdk_52_method_5_code 53 = .ok (.getstatic 63, 3) := by decide +kernel
theorem d29_56 : decode jdk_52_method_5_code 56 = .ok (.ishl, 1) := by decide +kernel
theorem d29_57 : decode jdk_52_method_5_code 57 = .ok (.ior, 1) := by decide +kernel
theorem d29_58 : decode jdk_52_method_5_code 58 = .ok (.i2c, 1) := by decide +kernel
theorem d29_59 : decode jdk_52_method_5_code 59 = .ok (.ireturn, 1) := by decide +kernel
theorem pn_29 : plainName "java/lang/StringUTF16" = true := by first | (simp [plainName, overriddenIn]; done) | decide +kernel
theorem ef_29 (m : MethodId) (x0 : Addr) (x1 : Int32) : entryFrame m #[(.ref x0), (.int x1)] 2 = mkF m 0 #[.val (.ref x0), .val (.int x1)] [] := by first | (simp [entryFrame, mkF, argsToLocals, Value.category]; done) | rfl
set_option maxRecDepth 65536 in
set_option maxHeartbeats 40000000 in
theorem rmGC (l : Launch) (Z : State) (a0 : Array Value) (hw : ∀ d ∈ tables_1, d.before a0 Z = true) (ws : List Jvm.Cond) (b : Addr) (i n : Nat) (g : Nat → Int32)  (h0 : Heap) (n0 : Nat) (Z0 : n0 ≤ h0.size) (hn : n ≤ 200) (hi : i < n) (O : Old Z n0 h0) (SK : StrSta Z) (FB : AF Z h0 b .byte (2 * n) (Ub g)) (hch : ∀ j, j < n → isCh (g j))  :
    MetFree l (⟨"java/lang/StringUTF16", "getChar", "([BI)C"⟩ : MethodName) (head1 (Jvm.Cond.code (⟨"java/lang/StringUTF16", "getChar", "([BI)C"⟩ : MethodName) jdk_52_method_5_code 2 (some .char) :: ws) ({ frames := 0, cells := 0, slots := 0, locals := 0 } : Room)) (fun aa_ U_ => aa_ = #[(.ref b), (.int (Int32.ofNat i))] ∧ Z.Warmed39 U_.vm ∧ U_.heap = h0) (fun _ _ _ _ _ => True) (fun _ U_ o_ V_ => ∃ v_ L_, o_ = .returned v_ ∧ QI (g i) h0 n0 v_ V_.heap L_ ∧ FrameEnd U_ o_ V_ L_ ({ frames := 0, cells := 0, slots := 0, locals := 0 } : Room).cells ({ frames := 0, cells := 0, slots := 0, locals := 0 } : Room).slots) := by
  refine MetFree.of_bodySF (plainFor_of_name pn_29) hisR ?_
  intro p e s m args below meth c s₁ Bd hml0 hP hK
  obtain ⟨rfl, hZ, hh⟩ := hP
  have hx := Bd.exec
  have hby := Bd.bytes
  have hml : c.maxLocals = 2 := hml0
  have hown : s.vm.findClass "java/lang/StringUTF16" = some m.cls := findClass_of_methodNamed Bd.named
  have hnm := (name_of_methodNamed Bd.named Bd.method).1
  have X0 : Stand p l e ({ frames := 0, cells := 0, slots := 0, locals := 0 } : Room) s m #[(.ref b), (.int (Int32.ofNat i))] below meth c s₁ [] 0 0 := Stand.of_body Bd
  have e0 : s₁.heap = h0 := by rw [← hh, Bd.state]; rfl
  have N0 := Fr.nil n0
  have pre0 : ∀ zz, Steps p.tables e below (s₁.setTop (mkF m 0 #[.val (.ref b), .val (.int (Int32.ofNat i))] [])) zz → Steps p.tables e below (s₁.setTop (entryFrame m #[(.ref b), (.int (Int32.ofNat i))] 2)) zz := fun zz k => castTop (ef_29 m b (Int32.ofNat i)) k
  obtain ⟨T8, X8, e8, st8⟩ := getS2 X0 hx hZ hown (host := "") (Or.inl (hw _ (List.mem_of_getElem? (i := 130) rfl))) Via.refl e0 (Sta.ext O.2 SK.2.1) (g := (mkF m 0 #[.val (.ref b), .val (.int (Int32.ofNat i))] [])) rfl (hb hby d29_0)
  obtain ⟨T9, X9, e9, st9⟩ := getS2 X8 hx hZ hown (host := "") (Or.inl (hw _ (List.mem_of_getElem? (i := 131) rfl))) Via.refl e8 (Sta.ext O.2 SK.2.2.1) (g := (mkF m 42 #[.val (.ref b), .val (.int (Int32.ofNat (2 * i + 1)))] [(.int ((lo8 (g i)) &&& (255 : Int32)))])) rfl (hb hby d29_42)
  obtain ⟨T10, X10, e10, st10⟩ := getS2 X9 hx hZ hown (host := "") (Or.inl (hw _ (List.mem_of_getElem? (i := 132) rfl))) Via.refl e9 (Sta.ext O.2 SK.2.2.2.1) (g := (mkF m 53 #[.val (.ref b), .val (.int (Int32.ofNat (2 * i + 1)))] [(.int ((hi8 (g i)) &&& (255 : Int32))), (.int (((lo8 (g i)) &&& (255 : Int32)) <<< ((0 : Int32) &&& 31)))])) rfl (hb hby d29_53)
  obtain ⟨fs, hr, hrun, hended, hW, hsame⟩ := X10.leave (v := some (.int (nar .char (g i)))) (fun h => by rw [Bd.returns] at h; cases h)
  refine ⟨_, _, pre0 _ ?_, hrun, hended, _, _, rfl, ?_, ⟨_, rfl⟩, hW, hsame.mono (by decide) (by decide)⟩
  · show Steps p.tables e below (s₁.setTop (mkF m 0 #[.val (.ref b), .val (.int (Int32.ofNat i))] [])) _
    refine st8 _ ?_
    refine XS.ifYes X8.here hx rfl (pc0 := 3) (pc' := 28) rfl (hb hby d29_3) rfl ((if0 _ _).trans (feq (by decide : ¬ ((1 : Int32) = (0 : Int32)))).2) (by decide) (by decide) ?_
    refine XS.iloadN X8.here hx rfl (hb hby d29_28) rfl ?_
    refine XS.iconst X8.here hx rfl (hb hby d29_29) ?_
    refine XS.ishl X8.here hx rfl (hb hby d29_30) rfl ?_
    show Steps p.tables e below (T8.setTop (mkF m 31 #[.val (.ref b), .val (.int (Int32.ofNat i))] [(.int ((Int32.ofNat i) <<< ((1 : Int32) &&& 31)))])) _
    rw [show ((Int32.ofNat i) <<< ((1 : Int32) &&& 31)) = (Int32.ofNat (2 * i)) from shl1N (by omega)]
    show Steps p.tables e below (T8.setTop (mkF m 31 #[.val (.ref b), .val (.int (Int32.ofNat i))] [(.int (Int32.ofNat (2 * i)))])) _
    refine XS.istoreN X8.here hx rfl (hb hby d29_31) rfl (l' := #[.val (.ref b), .val (.int (Int32.ofNat (2 * i)))]) rfl ?_
    refine XS.aloadN X8.here hx rfl (hb hby d29_32) rfl rfl ?_
    refine XS.iloadN X8.here hx rfl (hb hby d29_33) rfl ?_
    refine XS.iinc X8.here hx rfl (hb hby d29_34) rfl (l' := #[.val (.ref b), .val (.int ((Int32.ofNat (2 * i)) + (1 : Int32)))]) rfl ?_
    show Steps p.tables e below (T8.setTop (mkF m 37 #[.val (.ref b), .val (.int ((Int32.ofNat (2 * i)) + (1 : Int32)))] [(.int (Int32.ofNat (2 * i))), (.ref b)])) _
    rw [show ((Int32.ofNat (2 * i)) + (1 : Int32)) = (Int32.ofNat (2 * i + 1)) from succN _]
    show Steps p.tables e below (T8.setTop (mkF m 37 #[.val (.ref b), .val (.int (Int32.ofNat (2 * i + 1)))] [(.int (Int32.ofNat (2 * i))), (.ref b)])) _
    refine ldBy X8 hx hZ e8 FB (i := (2 * i)) (by omega) (by omega) (v := (.int (lo8 (g i)))) (Ub_lo g i) (g := (mkF m 37 #[.val (.ref b), .val (.int (Int32.ofNat (2 * i + 1)))] [(.int (Int32.ofNat (2 * i))), (.ref b)])) rfl rfl (hb hby d29_37) ?_
    refine XS.sipush X8.here hx rfl (hb hby d29_38) ?_
    refine XS.iand X8.here hx rfl (hb hby d29_41) rfl ?_
    show Steps p.tables e below (T8.setTop (mkF m 42 #[.val (.ref b), .val (.int (Int32.ofNat (2 * i + 1)))] [(.int ((lo8 (g i)) &&& (255 : Int32)))])) _
    refine st9 _ ?_
    refine XS.ishl X9.here hx rfl (hb hby d29_45) rfl ?_
    refine XS.aloadN X9.here hx rfl (hb hby d29_46) rfl rfl ?_
    refine XS.iloadN X9.here hx rfl (hb hby d29_47) rfl ?_
    show Steps p.tables e below (T9.setTop (mkF m 48 #[.val (.ref b), .val (.int (Int32.ofNat (2 * i + 1)))] [(.int (Int32.ofNat (2 * i + 1))), (.ref b), (.int (((lo8 (g i)) &&& (255 : Int32)) <<< ((0 : Int32) &&& 31)))])) _
    refine ldBy X9 hx hZ e9 FB (i := (2 * i + 1)) (by omega) (by omega) (v := (.int (hi8 (g i)))) (Ub_hi g i) (g := (mkF m 48 #[.val (.ref b), .val (.int (Int32.ofNat (2 * i + 1)))] [(.int (Int32.ofNat (2 * i + 1))), (.ref b), (.int (((lo8 (g i)) &&& (255 : Int32)) <<< ((0 : Int32) &&& 31)))])) rfl rfl (hb hby d29_48) ?_
    refine XS.sipush X9.here hx rfl (hb hby d29_49) ?_
    refine XS.iand X9.here hx rfl (hb hby d29_52) rfl ?_
    show Steps p.tables e below (T9.setTop (mkF m 53 #[.val (.ref b), .val (.int (Int32.ofNat (2 * i + 1)))] [(.int ((hi8 (g i)) &&& (255 : Int32))), (.int (((lo8 (g i)) &&& (255 : Int32)) <<< ((0 : Int32) &&& 31)))])) _
    refine st10 _ ?_
    refine XS.ishl X10.here hx rfl (hb hby d29_56) rfl ?_
    refine XS.ior X10.here hx rfl (hb hby d29_57) rfl ?_
    refine XS.i2c X10.here hx rfl (hb hby d29_58) rfl ?_
    show Steps p.tables e below (T10.setTop (mkF m 59 #[.val (.ref b), .val (.int (Int32.ofNat (2 * i + 1)))] [(.int (((((lo8 (g i)) &&& (255 : Int32)) <<< ((0 : Int32) &&& 31)) ||| (((hi8 (g i)) &&& (255 : Int32)) <<< ((8 : Int32) &&& 31))).toUInt32.toUInt16.toUInt32.toInt32))])) _
    rw [show (((((lo8 (g i)) &&& (255 : Int32)) <<< ((0 : Int32) &&& 31)) ||| (((hi8 (g i)) &&& (255 : Int32)) <<< ((8 : Int32) &&& 31))).toUInt32.toUInt16.toUInt32.toInt32) = (g i) from (u16_eq (hch i hi))]
    show Steps p.tables e below (T10.setTop (mkF m 59 #[.val (.ref b), .val (.int (Int32.ofNat (2 * i + 1)))] [(.int (g i))])) _
    exact retN X10 hx (t := .char) Bd.returns (by simp) (hb hby d29_59) hr
  · show QI (g i) h0 n0 _ T10.heap _
    rw [e10]
    exact ⟨by rw [nar_id (hch i hi)], N0, rfl⟩
theorem d25_0 : decode jdk_52_method_14_code 0 = .ok (.iload_n 2, 1) := by decide +kernel
theorem d25_1 : decode jdk_52_method_14_code 1 = .ok (.invokestatic 107, 3) := by decide +kernel
theorem d25_4 : decode jdk_52_method_14_code 4 = .ok (.astore_n 3, 1) := by decide +kernel
theorem d25_5 : decode jdk_52_method_14_code 5 = .ok (.iconst 0, 1) := by decide +kernel
theorem d25_6 : decode jdk_52_method_14_code 6 = .ok (.istore 4, 2) := by decide +kernel
theorem d25_8 : decode jdk_52_method_14_code 8 = .ok (.iload 4, 2) := by decide +kernel
theorem d25_10 : decode jdk_52_method_14_code 10 = .ok (.iload_n 2, 1) := by decide +kernel
theorem d25_11 : decode jdk_52_method_14_code 11 = .ok (.if_icmp .ge 21, 3) := by decide +kernel
theorem d25_14 : decode jdk_52_method_14_code 14 = .ok (.aload_n 3, 1) := by decide +kernel
theorem d25_15 : decode jdk_52_method_14_code 15 = .ok (.iload 4, 2) := by decide +kernel
theorem d25_17 : decode jdk_52_method_14_code 17 = .ok (.aload_n 0, 1) := by decide +kernel
theorem d25_18 : decode jdk_52_method_14_code 18 = .ok (.iload_n 1, 1) := by decide +kernel
theorem d25_19 : decode jdk_52_method_14_code 19 = .ok (.caload, 1) := by decide +kernel
theorem d25_20 : decode jdk_52_method_14_code 20 = .ok (.invokestatic 111, 3) := by decide +kernel
theorem d25_23 : decode jdk_52_method_14_code 23 = .ok (.iinc 1 1, 3) := by decide +kernel
theorem d25_26 : decode jdk_52_method_14_code 26 = .ok (.iinc 4 1, 3) := by decide +kernel
theorem d25_29 : decode jdk_52_method_14_code 29 = .ok (.goto (-21), 3) := by decide +kernel
theorem d25_32 : decode jdk_52_method_14_code 32 = .ok (.aload_n 3, 1) := by decide +kernel
theorem d25_33 : decode jdk_52_method_14_code 33 = .ok (.areturn, 1) := by decide +kernel
theorem pn_25 : plainName "java/lang/StringUTF16" = true := by first | (simp [plainName, overriddenIn]; done) | decide +kernel
theorem ef_25 (m : MethodId) (x0 : Addr) (x1 : Int32) (x2 : Int32) : entryFrame m #[(.ref x0), (.int x1), (.int x2)] 5 = mkF m 0 #[.val (.ref x0), .val (.int x1), .val (.int x2), .unset, .unset] [] := by first | (simp [entryFrame, mkF, argsToLocals, Value.category]; done) | rfl
set_option maxRecDepth 65536 in
set_option maxHeartbeats 40000000 in
theorem tnTB {p : Program} {l : Launch} {e : Env} {s : State} {m : MethodId} {args : Array Value} {below : List Frame} {meth : Method} {c : Code} {T0 : State} {locs : List Loc} {Z : State} {a0 : Array Value} {h0 : Heap} {n0 : Nat} (a b : Addr) (i n : Nat) (g : Nat → Int32) (f : Nat → Value) (X0 : Stand p l e ({ frames := 2, cells := 1, slots := 400, locals := 36 } : Room) s m args below meth c T0 locs 1 400) (hx : p.tables.exec = Jvm.exec) (hZ : Z.Warmed39 s.vm) (hw : ∀ d ∈ tables_1, d.before a0 Z = true) (hby : c.code = jdk_52_method_14_code) (hml : c.maxLocals = 5) (hown : s.vm.findClass "java/lang/StringUTF16" = some m.cls) (e0 : T0.heap = h0) (Z0 : n0 ≤ h0.size) (N0 : Fr n0 locs) (hn : n ≤ 200) (hi : i < n) (O : Old Z n0 h0) (SK : StrSta Z) (FA : AF Z h0 a .char n (Ca g)) (FB : AF Z h0 b .byte (2 * n) f) (hab : a ≠ b) (g_b : n0 ≤ b) :
    ∃ (T' : State) (locs' : List Loc), Stand p l e ({ frames := 2, cells := 1, slots := 400, locals := 36 } : Room) s m args below meth c T' locs' 1 400 ∧ Fr n0 locs' ∧ Keep h0 T'.heap [b] ∧ AF Z T'.heap b .byte (2 * n) (upd (upd f (2 * i) (.int (lo8 (g i)))) (2 * i + 1) (.int (hi8 (g i)))) ∧ ∀ target, Steps p.tables e below (T'.setTop (mkF m 8 #[.val (.ref a), .val (.int (Int32.ofNat (i + 1))), .val (.int (Int32.ofNat n)), .val (.ref b), .val (.int (Int32.ofNat (i + 1)))] [])) target → Steps p.tables e below (T0.setTop (mkF m 8 #[.val (.ref a), .val (.int (Int32.ofNat i)), .val (.int (Int32.ofNat n)), .val (.ref b), .val (.int (Int32.ofNat i))] [])) target := by
  obtain ⟨_, _, ⟨T11, L11, k11, n11⟩, -, X11, ⟨Lc11, hQ11, l11, y11, z11⟩, st11⟩ := Jvm.LawKit.callS X0 hx (y := (⟨"java/lang/StringUTF16", "putChar", "([BII)V"⟩ : MethodName)) hown (mvT hZ (hw _ (List.mem_of_getElem? (i := 127) rfl))) (mvT hZ (hw _ (List.mem_of_getElem? (i := 128) rfl))) (mvT hZ (hw _ (List.mem_of_getElem? (i := 25) rfl))) (mvT hZ (hw _ (List.mem_of_getElem? (i := 129) rfl))) (by decide) (backOf (W := 0) (rmPC l Z a0 hw [] b i n (g i) f h0 n0 Z0 hn hi O SK FB g_b) hZ (hw _ (List.mem_of_getElem? (i := 129) rfl)) (hw _ (List.mem_of_getElem? (i := 25) rfl)) (by decide) (by decide)) (g := (mkF m 20 #[.val (.ref a), .val (.int (Int32.ofNat i)), .val (.int (Int32.ofNat n)), .val (.ref b), .val (.int (Int32.ofNat i))] [(.int (g i)), (.int (Int32.ofNat i)), (.ref b)])) rfl (by rw [hml]; rfl) (argsL := [(.ref b), (.int (Int32.ofNat i)), (.int (g i))]) (rest := []) (lenOf pd_23 rfl) rfl (by show 2 * 0 + _ ≤ _; exact Nat.le_of_eq rfl) (hb hby d25_20) (fun _ _ => ⟨rfl, e0, (by decide : 1 + 0 ≤ _), (by decide : 400 + 0 ≤ _)⟩)
  dsimp only [Pt.U, Pt.locs, Pt.cells, Pt.slots] at X11 l11 y11 z11 st11 hQ11
  subst l11 y11 z11
  obtain ⟨rfl, N11q, K11, A11⟩ := hQ11
  have N11 := Fr.app N0 N11q
  have FA_e11 := FA.keep K11 (notin1 hab)
  have KK11 := (Keep.refl h0 [b]).trans K11 (fun x r => by cases List.mem_singleton.mp r; exact (Or.inl (List.mem_of_getElem? (i := 0) rfl)))
  have Z11 : n0 ≤ T11.heap.size := Nat.le_trans Z0 K11.1
  have O11 := O.keep K11 (all1 g_b)
  refine ⟨_, _, X11, N11, K11, A11, fun target kt => ?_⟩
  show Steps p.tables e below (T0.setTop (mkF m 8 #[.val (.ref a), .val (.int (Int32.ofNat i)), .val (.int (Int32.ofNat n)), .val (.ref b), .val (.int (Int32.ofNat i))] [])) _
  refine XS.iload X0.here hx rfl (hb hby d25_8) rfl ?_
  refine XS.iloadN X0.here hx rfl (hb hby d25_10) rfl ?_
  refine XS.icmpNo X0.here hx rfl (hb hby d25_11) rfl (tlt ((ltN (by omega) (by omega)).mpr hi)).2.1 ?_
  refine XS.aloadN X0.here hx rfl (hb hby d25_14) rfl rfl ?_
  refine XS.iload X0.here hx rfl (hb hby d25_15) rfl ?_
  refine XS.aloadN X0.here hx rfl (hb hby d25_17) rfl rfl ?_
  show Steps p.tables e below (T0.setTop (mkF m 18 #[.val (.ref a), .val (.int (Int32.ofNat i)), .val (.int (Int32.ofNat n)), .val (.ref b), .val (.int (Int32.ofNat i))] [(.ref a), (.int (Int32.ofNat i)), (.ref b)])) _
  refine XS.iloadN X0.here hx rfl (hb hby d25_18) rfl ?_
  show Steps p.tables e below (T0.setTop (mkF m 19 #[.val (.ref a), .val (.int (Int32.ofNat i)), .val (.int (Int32.ofNat n)), .val (.ref b), .val (.int (Int32.ofNat i))] [(.int (Int32.ofNat i)), (.ref a), (.int (Int32.ofNat i)), (.ref b)])) _
  refine ldCh X0 hx hZ e0 FA (i := i) hi (by omega) (v := (.int (g i))) rfl (g := (mkF m 19 #[.val (.ref a), .val (.int (Int32.ofNat i)), .val (.int (Int32.ofNat n)), .val (.ref b), .val (.int (Int32.ofNat i))] [(.int (Int32.ofNat i)), (.ref a), (.int (Int32.ofNat i)), (.ref b)])) rfl rfl (hb hby d25_19) ?_
  show Steps p.tables e below (T0.setTop (mkF m 20 #[.val (.ref a), .val (.int (Int32.ofNat i)), .val (.int (Int32.ofNat n)), .val (.ref b), .val (.int (Int32.ofNat i))] [(.int (g i)), (.int (Int32.ofNat i)), (.ref b)])) _
  refine st11 _ ?_
  refine XS.iinc X11.here hx rfl (hb hby d25_23) rfl (l' := #[.val (.ref a), .val (.int ((Int32.ofNat i) + (1 : Int32))), .val (.int (Int32.ofNat n)), .val (.ref b), .val (.int (Int32.ofNat i))]) rfl ?_
  refine XS.iinc X11.here hx rfl (hb hby d25_26) rfl (l' := #[.val (.ref a), .val (.int ((Int32.ofNat i) + (1 : Int32))), .val (.int (Int32.ofNat n)), .val (.ref b), .val (.int ((Int32.ofNat i) + (1 : Int32)))]) rfl ?_
  show Steps p.tables e below (T11.setTop (mkF m 29 #[.val (.ref a), .val (.int ((Int32.ofNat i) + (1 : Int32))), .val (.int (Int32.ofNat n)), .val (.ref b), .val (.int ((Int32.ofNat i) + (1 : Int32)))] [])) _
  rw [show ((Int32.ofNat i) + (1 : Int32)) = (Int32.ofNat (i + 1)) from succN i]
  show Steps p.tables e below (T11.setTop (mkF m 29 #[.val (.ref a), .val (.int (Int32.ofNat (i + 1))), .val (.int (Int32.ofNat n)), .val (.ref b), .val (.int (Int32.ofNat (i + 1)))] [])) _
  refine XS.goto X11.here hx rfl (pc0 := 29) (pc' := 8) rfl (hb hby d25_29) (by decide) (by decide) ?_
  exact kt
set_option maxRecDepth 65536 in
set_option maxHeartbeats 40000000 in
theorem exTB {p : Program} {l : Launch} {e : Env} {R : Room} {s : State} {m : MethodId} {args : Array Value} {below : List Frame} {meth : Method} {c : Code} {T0 : State} {locs : List Loc} {cells slots : Nat} {Z : State} {a0 : Array Value} (a b : Addr) (i n : Nat) (X0 : Stand p l e R s m args below meth c T0 locs cells slots) (hx : p.tables.exec = Jvm.exec) (hZ : Z.Warmed39 s.vm) (hw : ∀ d ∈ tables_1, d.before a0 Z = true) (hby : c.code = jdk_52_method_14_code) (hown : s.vm.findClass "java/lang/StringUTF16" = some m.cls)  (hc11 : ¬ ((Int32.ofNat i) < (Int32.ofNat n))) {target : State}
    (kt : Steps p.tables e below (T0.setTop (mkF m 32 #[.val (.ref a), .val (.int (Int32.ofNat i)), .val (.int (Int32.ofNat n)), .val (.ref b), .val (.int (Int32.ofNat i))] [])) target) : Steps p.tables e below (T0.setTop (mkF m 8 #[.val (.ref a), .val (.int (Int32.ofNat i)), .val (.int (Int32.ofNat n)), .val (.ref b), .val (.int (Int32.ofNat i))] [])) target := by
  show Steps p.tables e below (T0.setTop (mkF m 8 #[.val (.ref a), .val (.int (Int32.ofNat i)), .val (.int (Int32.ofNat n)), .val (.ref b), .val (.int (Int32.ofNat i))] [])) _
  refine XS.iload X0.here hx rfl (hb hby d25_8) rfl ?_
  refine XS.iloadN X0.here hx rfl (hb hby d25_10) rfl ?_
  refine XS.icmpYes X0.here hx rfl (pc0 := 11) (pc' := 32) rfl (hb hby d25_11) rfl (flt hc11).2.1 (by decide) (by decide) ?_
  exact kt
set_option maxRecDepth 65536 in
set_option maxHeartbeats 40000000 in
theorem lpTB {p : Program} {l : Launch} {e : Env} {s : State} {m : MethodId} {args : Array Value} {below : List Frame} {meth : Method} {c : Code} {Z : State} {a0 : Array Value} {n0 : Nat} (a b : Addr) (n : Nat) (g : Nat → Int32) (hx : p.tables.exec = Jvm.exec) (hZ : Z.Warmed39 s.vm) (hw : ∀ d ∈ tables_1, d.before a0 Z = true) (hby : c.code = jdk_52_method_14_code) (hml : c.maxLocals = 5) (hown : s.vm.findClass "java/lang/StringUTF16" = some m.cls) (hn : n ≤ 200) (SK : StrSta Z) (hab : a ≠ b) (g_b : n0 ≤ b) :
    ∀ (k i : Nat) (f : Nat → Value) (T0 : State) (locs : List Loc), i + k = n → Stand p l e ({ frames := 2, cells := 1, slots := 400, locals := 36 } : Room) s m args below meth c T0 locs 1 400 → n0 ≤ T0.heap.size → Fr n0 locs → Old Z n0 T0.heap → AF Z T0.heap a .char n (Ca g) → AF Z T0.heap b .byte (2 * n) f → (∀ j, j < 2 * i → f j = Ub g j) →
    ∃ (T' : State) (locs' : List Loc), Stand p l e ({ frames := 2, cells := 1, slots := 400, locals := 36 } : Room) s m args below meth c T' locs' 1 400 ∧ Fr n0 locs' ∧ Keep T0.heap T'.heap [b] ∧ AF Z T'.heap b .byte (2 * n) (Ub g) ∧ ∀ target, Steps p.tables e below (T'.setTop (mkF m 32 #[.val (.ref a), .val (.int (Int32.ofNat n)), .val (.int (Int32.ofNat n)), .val (.ref b), .val (.int (Int32.ofNat n))] [])) target → Steps p.tables e below (T0.setTop (mkF m 8 #[.val (.ref a), .val (.int (Int32.ofNat i)), .val (.int (Int32.ofNat n)), .val (.ref b), .val (.int (Int32.ofNat i))] [])) target := by
  intro k
  induction k with
  | zero =>
    intro i f T0 locs hk X0 Z0 N0 O FA FB hf
    obtain rfl : i = n := by omega
    refine ⟨T0, locs, X0, N0, Keep.refl _ _, FB.congr fun j hj => hf j hj, fun target kt => ?_⟩
    exact exTB a b i i X0 hx hZ hw hby hown (fun q => absurd ((ltN (by omega) (by omega)).mp q) (Nat.lt_irrefl _)) kt
  | succ k ih =>
    intro i f T0 locs hk X0 Z0 N0 O FA FB hf
    obtain ⟨T1, locs1, X1, N1, K1, A1, st1⟩ := tnTB a b i n g f X0 hx hZ hw hby hml hown rfl Z0 N0 hn (by omega) O SK FA FB hab g_b
    obtain ⟨T2, locs2, X2, N2, K2, A2, st2⟩ := ih (i + 1) _ T1 locs1 (by omega) X1 (Nat.le_trans Z0 K1.1) N1 (O.keep K1 (all1 g_b)) (FA.keep K1 (notin1 hab)) A1 (fun j hj => by
      unfold upd
      by_cases q1 : j = 2 * i + 1
      · rw [if_pos q1, q1]; exact (Ub_hi g i).symm
      · rw [if_neg q1]
        by_cases q2 : j = 2 * i
        · rw [if_pos q2, q2]; exact (Ub_lo g i).symm
        · rw [if_neg q2]; exact hf j (by omega))
    exact ⟨T2, locs2, X2, N2, K1.trans K2 (fun x r => Or.inl r), A2, fun target kt => st1 target (st2 target kt)⟩
set_option maxRecDepth 65536 in
set_option maxHeartbeats 40000000 in
theorem rmTB (l : Launch) (Z : State) (a0 : Array Value) (hw : ∀ d ∈ tables_1, d.before a0 Z = true) (ws : List Jvm.Cond) (a : Addr) (n : Nat) (g : Nat → Int32)  (h0 : Heap) (n0 : Nat) (Z0 : n0 ≤ h0.size) (hn : n ≤ 200) (O : Old Z n0 h0) (SK : StrSta Z) (FA : AF Z h0 a .char n (Ca g))  :
    MetFree l (⟨"java/lang/StringUTF16", "toBytes", "([CII)[B"⟩ : MethodName) (head1 (Jvm.Cond.code (⟨"java/lang/StringUTF16", "toBytes", "([CII)[B"⟩ : MethodName) jdk_52_method_14_code 5 (some (.array .byte)) :: ws) ({ frames := 2, cells := 1, slots := 400, locals := 36 } : Room)) (fun aa_ U_ => aa_ = #[(.ref a), (.int (0 : Int32)), (.int (Int32.ofNat n))] ∧ Z.Warmed39 U_.vm ∧ U_.heap = h0) (fun _ _ _ _ _ => True) (fun _ U_ o_ V_ => ∃ v_ L_, o_ = .returned v_ ∧ QA Z .byte (2 * n) (Ub g) h0 n0 v_ V_.heap L_ ∧ FrameEnd U_ o_ V_ L_ ({ frames := 2, cells := 1, slots := 400, locals := 36 } : Room).cells ({ frames := 2, cells := 1, slots := 400, locals := 36 } : Room).slots) := by
  refine MetFree.of_bodySF (plainFor_of_name pn_25) hisR ?_
  intro p e s m args below meth c s₁ Bd hml0 hP hK
  obtain ⟨rfl, hZ, hh⟩ := hP
  have hx := Bd.exec
  have hby := Bd.bytes
  have hml : c.maxLocals = 5 := hml0
  have hown : s.vm.findClass "java/lang/StringUTF16" = some m.cls := findClass_of_methodNamed Bd.named
  have hnm := (name_of_methodNamed Bd.named Bd.method).1
  have X0 : Stand p l e ({ frames := 2, cells := 1, slots := 400, locals := 36 } : Room) s m #[(.ref a), (.int (0 : Int32)), (.int (Int32.ofNat n))] below meth c s₁ [] 0 0 := Stand.of_body Bd
  have e0 : s₁.heap = h0 := by rw [← hh, Bd.state]; rfl
  have N0 := Fr.nil n0
  have pre0 : ∀ zz, Steps p.tables e below (s₁.setTop (mkF m 0 #[.val (.ref a), .val (.int (0 : Int32)), .val (.int (Int32.ofNat n)), .unset, .unset] [])) zz → Steps p.tables e below (s₁.setTop (entryFrame m #[(.ref a), (.int (0 : Int32)), (.int (Int32.ofNat n))] 5)) zz := fun zz k => castTop (ef_25 m a (0 : Int32) (Int32.ofNat n)) k
  obtain ⟨_, _, ⟨T12, L12, k12, n12⟩, -, X12, ⟨Lc12, hQ12, l12, y12, z12⟩, st12⟩ := Jvm.LawKit.callS X0 hx (y := (⟨"java/lang/StringUTF16", "newBytesFor", "(I)[B"⟩ : MethodName)) hown (mvT hZ (hw _ (List.mem_of_getElem? (i := 120) rfl))) (mvT hZ (hw _ (List.mem_of_getElem? (i := 121) rfl))) (mvT hZ (hw _ (List.mem_of_getElem? (i := 25) rfl))) (mvT hZ (hw _ (List.mem_of_getElem? (i := 122) rfl))) (by decide) (backOf (W := 0) (rmNBF l Z a0 hw [] n h0 n0 Z0 hn) hZ (hw _ (List.mem_of_getElem? (i := 122) rfl)) (hw _ (List.mem_of_getElem? (i := 25) rfl)) (by decide) (by decide)) (g := (mkF m 1 #[.val (.ref a), .val (.int (0 : Int32)), .val (.int (Int32.ofNat n)), .unset, .unset] [(.int (Int32.ofNat n))])) rfl (by rw [hml]; rfl) (argsL := [(.int (Int32.ofNat n))]) (rest := []) (lenOf pd_22 rfl) rfl (by show 2 * 0 + _ ≤ _; exact Nat.le_of_eq rfl) (hb hby d25_1) (fun _ _ => ⟨rfl, e0, (by decide : 0 + 1 ≤ _), (by decide : 0 + 400 ≤ _)⟩)
  dsimp only [Pt.U, Pt.locs, Pt.cells, Pt.slots] at X12 l12 y12 z12 st12 hQ12
  subst l12 y12 z12
  obtain ⟨b12, rfl, N12q, K12, zq12, A12⟩ := hQ12
  have N12 := Fr.app N0 N12q
  have ne_a_b12 : a ≠ b12 := Nat.ne_of_lt (Nat.lt_of_lt_of_le FA.lt zq12)
  have g_b12 : n0 ≤ b12 := Nat.le_trans Z0 zq12
  have sz_b12 : h0.size ≤ b12 := Nat.le_trans (Keep.refl h0 []).1 zq12
  have FA_e12 := FA.keep K12 List.not_mem_nil
  have KK12 := (Keep.refl h0 []).trans K12 (fun x r => absurd r List.not_mem_nil)
  have Z12 : n0 ≤ T12.heap.size := Nat.le_trans Z0 K12.1
  have O12 := O.keep K12 all0'
  obtain ⟨T13, L13, X13, N13, Kl13, A13, st13⟩ := lpTB a b12 n g hx hZ hw hby hml hown hn SK ne_a_b12 g_b12 n 0 _ _ _ (by omega) X12 Z12 N12 O12 FA_e12 A12 (fun j hj => absurd hj (by omega))
  have KK13 := KK12.trans Kl13 (fun x r => by cases List.mem_singleton.mp r; exact Or.inr sz_b12)
  obtain ⟨fs, hr, hrun, hended, hW, hsame⟩ := X13.leave (v := some (.ref b12)) (fun h => by rw [Bd.returns] at h; cases h)
  refine ⟨_, _, pre0 _ ?_, hrun, hended, _, _, rfl, ?_, ⟨_, rfl⟩, hW, hsame.mono (by decide) (by decide)⟩
  · show Steps p.tables e below (s₁.setTop (mkF m 0 #[.val (.ref a), .val (.int (0 : Int32)), .val (.int (Int32.ofNat n)), .unset, .unset] [])) _
    refine XS.iloadN X0.here hx rfl (hb hby d25_0) rfl ?_
    show Steps p.tables e below (s₁.setTop (mkF m 1 #[.val (.ref a), .val (.int (0 : Int32)), .val (.int (Int32.ofNat n)), .unset, .unset] [(.int (Int32.ofNat n))])) _
    refine st12 _ ?_
    refine XS.astoreN X12.here hx rfl (hb hby d25_4) rfl rfl (l' := #[.val (.ref a), .val (.int (0 : Int32)), .val (.int (Int32.ofNat n)), .val (.ref b12), .unset]) rfl ?_
    refine XS.iconst X12.here hx rfl (hb hby d25_5) ?_
    refine XS.istore X12.here hx rfl (hb hby d25_6) rfl (l' := #[.val (.ref a), .val (.int (0 : Int32)), .val (.int (Int32.ofNat n)), .val (.ref b12), .val (.int (0 : Int32))]) rfl ?_
    show Steps p.tables e below (T12.setTop (mkF m 8 #[.val (.ref a), .val (.int (Int32.ofNat 0)), .val (.int (Int32.ofNat n)), .val (.ref b12), .val (.int (Int32.ofNat 0))] [])) _
    refine st13 _ ?_
    refine XS.aloadN X13.here hx rfl (hb hby d25_32) rfl rfl ?_
    show Steps p.tables e below (T13.setTop (mkF m 33 #[.val (.ref a), .val (.int (Int32.ofNat n)), .val (.int (Int32.ofNat n)), .val (.ref b12), .val (.int (Int32.ofNat n))] [(.ref b12)])) _
    jvm_step X13.here [X13.here.top, hx, (hb hby d25_33), X13.method', Bd.returns, Value.isRef, FieldType.isReference]
    first | (intro acts; rw [hr _ acts rfl rfl rfl]) | rw [hr _ _ rfl rfl rfl]
    exact Steps.refl _
  · show QA Z .byte (2 * n) (Ub g) h0 n0 _ T13.heap _
    exact ⟨b12, rfl, N13, KK13, sz_b12, A13⟩
theorem d7_0 : decode jdk_52_method_21_code 0 = .ok (.iconst 0, 1) := by decide +kernel
theorem d7_1 : decode jdk_52_method_21_code 1 = .ok (.istore 5, 2) := by decide +kernel
theorem d7_3 : decode jdk_52_method_21_code 3 = .ok (.iload 5, 2) := by decide +kernel
theorem d7_5 : decode jdk_52_method_21_code 5 = .ok (.iload 4, 2) := by decide +kernel
theorem d7_7 : decode jdk_52_method_21_code 7 = .ok (.if_icmp .ge 37, 3) := by decide +kernel
theorem d7_10 : decode jdk_52_method_21_code 10 = .ok (.aload_n 0, 1) := by decide +kernel
theorem d7_11 : decode jdk_52_method_21_code 11 = .ok (.iload_n 1, 1) := by decide +kernel
theorem d7_12 : decode jdk_52_method_21_code 12 = .ok (.caload, 1) := by decide +kernel
theorem d7_13 : decode jdk_52_method_21_code 13 = .ok (.istore 6, 2) := by decide +kernel
theorem d7_15 : decode jdk_52_method_21_code 15 = .ok (.iload 6, 2) := by decide +kernel
theorem d7_17 : decode jdk_52_method_21_code 17 = .ok (.sipush 255, 3) := by decide +kernel
theorem d7_20 : decode jdk_52_method_21_code 20 = .ok (.if_icmp .le 6, 3) := by decide +kernel
theorem d7_23 : decode jdk_52_method_21_code 23 = .ok (.iload 5, 2) := by decide +kernel
theorem d7_25 : decode jdk_52_method_21_code 25 = .ok (.ireturn, 1) := by decide +kernel
theorem d7_26 : decode jdk_52_method_21_code 26 = .ok (.aload_n 2, 1) := by decide +kernel
theorem d7_27 : decode jdk_52_method_21_code 27 = .ok (.iload_n 3, 1) := by decide +kernel
theorem d7_28 : decode jdk_52_method_21_code 28 = .ok (.iload 6, 2) := by decide +kernel
theorem d7_30 : decode jdk_52_method_21_code 30 = .ok (.i2b, 1) := by decide +kernel
theorem d7_31 : decode jdk_52_method_21_code 31 = .ok (.bastore, 1) := by decide +kernel
theorem d7_32 : decode jdk_52_method_21_code 32 = .ok (.iinc 1 1, 3) := by decide +kernel
theorem d7_35 : decode jdk_52_method_21_code 35 = .ok (.iinc 3 1, 3) := by decide +kernel
theorem d7_38 : decode jdk_52_method_21_code 38 = .ok (.iinc 5 1, 3) := by decide +kernel
theorem d7_41 : decode jdk_52_method_21_code 41 = .ok (.goto (-38), 3) := by decide +kernel
theorem d7_44 : decode jdk_52_method_21_code 44 = .ok (.iload 4, 2) := by decide +kernel
theorem d7_46 : decode jdk_52_method_21_code 46 = .ok (.ireturn, 1) := by decide +kernel
theorem pn_7 : plainName "java/lang/StringUTF16" = true := by first | (simp [plainName, overriddenIn]; done) | decide +kernel
theorem ef_7 (m : MethodId) (x0 : Addr) (x1 : Int32) (x2 : Addr) (x3 : Int32) (x4 : Int32) : entryFrame m #[(.ref x0), (.int x1), (.ref x2), (.int x3), (.int x4)] 7 = mkF m 0 #[.val (.ref x0), .val (.int x1), .val (.ref x2), .val (.int x3), .val (.int x4), .unset, .unset] [] := by first | (simp [entryFrame, mkF, argsToLocals, Value.category]; done) | rfl
set_option maxRecDepth 65536 in
set_option maxHeartbeats 40000000 in
theorem tnC5 {p : Program} {l : Launch} {e : Env} {R : Room} {s : State} {m : MethodId} {args : Array Value} {below : List Frame} {meth : Method} {c : Code} {T0 : State} {locs : List Loc} {cells slots : Nat} {Z : State} {a0 : Array Value} {h0 : Heap} {n0 : Nat} (a b : Addr) (i n : Nat) (g : Nat → Int32) (f : Nat → Value) (q : Slot) (hq : q = .unset ∨ ∃ x : Int32, q = .val (.int x)) (X0 : Stand p l e R s m args below meth c T0 locs cells slots) (hx : p.tables.exec = Jvm.exec) (hZ : Z.Warmed39 s.vm) (hw : ∀ d ∈ tables_1, d.before a0 Z = true) (hby : c.code = jdk_52_method_21_code) (hown : s.vm.findClass "java/lang/StringUTF16" = some m.cls) (e0 : T0.heap = h0) (Z0 : n0 ≤ h0.size) (N0 : Fr n0 locs) (hn : n ≤ 200) (hi : i < n) (FA : AF Z h0 a .char n (Ca g)) (FB : AF Z h0 b .byte n f) (hab : a ≠ b) (g_b : n0 ≤ b) (hsm : ¬ ((255 : Int32) < g i)) :
    ∃ (T' : State) (locs' : List Loc), Stand p l e R s m args below meth c T' locs' cells slots ∧ Fr n0 locs' ∧ Keep h0 T'.heap [b] ∧ AF Z T'.heap b .byte n (upd f i (.int (b8 (g i)))) ∧ ∀ target, Steps p.tables e below (T'.setTop (mkF m 3 #[.val (.ref a), .val (.int (Int32.ofNat (i + 1))), .val (.ref b), .val (.int (Int32.ofNat (i + 1))), .val (.int (Int32.ofNat n)), .val (.int (Int32.ofNat (i + 1))), .val (.int (g i))] [])) target → Steps p.tables e below (T0.setTop (mkF m 3 #[.val (.ref a), .val (.int (Int32.ofNat i)), .val (.ref b), .val (.int (Int32.ofNat i)), .val (.int (Int32.ofNat n)), .val (.int (Int32.ofNat i)), q] [])) target := by
  obtain ⟨T14, h14, X14, e14, W14, st14⟩ := stBy X0 hx hZ e0 FB (i := i) hi (by omega) (x := ((g i).toInt8.toInt32)) (g := (mkF m 31 #[.val (.ref a), .val (.int (Int32.ofNat i)), .val (.ref b), .val (.int (Int32.ofNat i)), .val (.int (Int32.ofNat n)), .val (.int (Int32.ofNat i)), .val (.int (g i))] [(.int ((g i).toInt8.toInt32)), (.int (Int32.ofNat i)), (.ref b)])) rfl rfl (hb hby d7_31)
  have A14 := FB.wr W14
  have FA_e14 := FA.other W14 hab
  have N14 := Fr.snoc X14 N0 g_b
  have K14 := (Keep.refl h0 [b]).wr W14 (Or.inl (List.mem_of_getElem? (i := 0) rfl))
  have Z14 : n0 ≤ h14.size := Nat.le_trans Z0 (Keep.of_wr W14).1
  refine ⟨_, _, X14, N14, by rw [e14]; exact K14, by rw [e14]; exact A14, fun target kt => ?_⟩
  show Steps p.tables e below (T0.setTop (mkF m 3 #[.val (.ref a), .val (.int (Int32.ofNat i)), .val (.ref b), .val (.int (Int32.ofNat i)), .val (.int (Int32.ofNat n)), .val (.int (Int32.ofNat i)), q] [])) _
  refine XS.iload X0.here hx rfl (hb hby d7_3) rfl ?_
  refine XS.iload X0.here hx rfl (hb hby d7_5) rfl ?_
  refine XS.icmpNo X0.here hx rfl (hb hby d7_7) rfl (tlt ((ltN (by omega) (by omega)).mpr hi)).2.1 ?_
  refine XS.aloadN X0.here hx rfl (hb hby d7_10) rfl rfl ?_
  refine XS.iloadN X0.here hx rfl (hb hby d7_11) rfl ?_
  show Steps p.tables e below (T0.setTop (mkF m 12 #[.val (.ref a), .val (.int (Int32.ofNat i)), .val (.ref b), .val (.int (Int32.ofNat i)), .val (.int (Int32.ofNat n)), .val (.int (Int32.ofNat i)), q] [(.int (Int32.ofNat i)), (.ref a)])) _
  refine ldCh X0 hx hZ e0 FA (i := i) hi (by omega) (v := (.int (g i))) rfl (g := (mkF m 12 #[.val (.ref a), .val (.int (Int32.ofNat i)), .val (.ref b), .val (.int (Int32.ofNat i)), .val (.int (Int32.ofNat n)), .val (.int (Int32.ofNat i)), q] [(.int (Int32.ofNat i)), (.ref a)])) rfl rfl (hb hby d7_12) ?_
  refine XS.istore X0.here hx rfl (hb hby d7_13) rfl (l' := #[.val (.ref a), .val (.int (Int32.ofNat i)), .val (.ref b), .val (.int (Int32.ofNat i)), .val (.int (Int32.ofNat n)), .val (.int (Int32.ofNat i)), .val (.int (g i))]) (by rcases hq with rfl | ⟨_, rfl⟩ <;> rfl) ?_
  refine XS.iload X0.here hx rfl (hb hby d7_15) rfl ?_
  refine XS.sipush X0.here hx rfl (hb hby d7_17) ?_
  refine XS.icmpYes X0.here hx rfl (pc0 := 20) (pc' := 26) rfl (hb hby d7_20) rfl (flt hsm).2.2.2 (by decide) (by decide) ?_
  refine XS.aloadN X0.here hx rfl (hb hby d7_26) rfl rfl ?_
  show Steps p.tables e below (T0.setTop (mkF m 27 #[.val (.ref a), .val (.int (Int32.ofNat i)), .val (.ref b), .val (.int (Int32.ofNat i)), .val (.int (Int32.ofNat n)), .val (.int (Int32.ofNat i)), .val (.int (g i))] [(.ref b)])) _
  refine XS.iloadN X0.here hx rfl (hb hby d7_27) rfl ?_
  refine XS.iload X0.here hx rfl (hb hby d7_28) rfl ?_
  refine XS.i2b X0.here hx rfl (hb hby d7_30) rfl ?_
  show Steps p.tables e below (T0.setTop (mkF m 31 #[.val (.ref a), .val (.int (Int32.ofNat i)), .val (.ref b), .val (.int (Int32.ofNat i)), .val (.int (Int32.ofNat n)), .val (.int (Int32.ofNat i)), .val (.int (g i))] [(.int ((g i).toInt8.toInt32)), (.int (Int32.ofNat i)), (.ref b)])) _
  refine st14 _ ?_
  refine XS.iinc X14.here hx rfl (hb hby d7_32) rfl (l' := #[.val (.ref a), .val (.int ((Int32.ofNat i) + (1 : Int32))), .val (.ref b), .val (.int (Int32.ofNat i)), .val (.int (Int32.ofNat n)), .val (.int (Int32.ofNat i)), .val (.int (g i))]) rfl ?_
  refine XS.iinc X14.here hx rfl (hb hby d7_35) rfl (l' := #[.val (.ref a), .val (.int ((Int32.ofNat i) + (1 : Int32))), .val (.ref b), .val (.int ((Int32.ofNat i) + (1 : Int32))), .val (.int (Int32.ofNat n)), .val (.int (Int32.ofNat i)), .val (.int (g i))]) rfl ?_
  refine XS.iinc X14.here hx rfl (hb hby d7_38) rfl (l' := #[.val (.ref a), .val (.int ((Int32.ofNat i) + (1 : Int32))), .val (.ref b), .val (.int ((Int32.ofNat i) + (1 : Int32))), .val (.int (Int32.ofNat n)), .val (.int ((Int32.ofNat i) + (1 : Int32))), .val (.int (g i))]) rfl ?_
  show Steps p.tables e below (T14.setTop (mkF m 41 #[.val (.ref a), .val (.int ((Int32.ofNat i) + (1 : Int32))), .val (.ref b), .val (.int ((Int32.ofNat i) + (1 : Int32))), .val (.int (Int32.ofNat n)), .val (.int ((Int32.ofNat i) + (1 : Int32))), .val (.int (g i))] [])) _
  rw [show ((Int32.ofNat i) + (1 : Int32)) = (Int32.ofNat (i + 1)) from succN i]
  show Steps p.tables e below (T14.setTop (mkF m 41 #[.val (.ref a), .val (.int (Int32.ofNat (i + 1))), .val (.ref b), .val (.int (Int32.ofNat (i + 1))), .val (.int (Int32.ofNat n)), .val (.int (Int32.ofNat (i + 1))), .val (.int (g i))] [])) _
  refine XS.goto X14.here hx rfl (pc0 := 41) (pc' := 3) rfl (hb hby d7_41) (by decide) (by decide) ?_
  exact kt
set_option maxRecDepth 65536 in
set_option maxHeartbeats 40000000 in
theorem exC5 {p : Program} {l : Launch} {e : Env} {R : Room} {s : State} {m : MethodId} {args : Array Value} {below : List Frame} {meth : Method} {c : Code} {T0 : State} {locs : List Loc} {cells slots : Nat} {Z : State} {a0 : Array Value} (a b : Addr) (i n : Nat) (q : Slot) (X0 : Stand p l e R s m args below meth c T0 locs cells slots) (hx : p.tables.exec = Jvm.exec) (hZ : Z.Warmed39 s.vm) (hw : ∀ d ∈ tables_1, d.before a0 Z = true) (hby : c.code = jdk_52_method_21_code) (hown : s.vm.findClass "java/lang/StringUTF16" = some m.cls)  (hc7 : ¬ ((Int32.ofNat i) < (Int32.ofNat n))) {target : State}
    (kt : Steps p.tables e below (T0.setTop (mkF m 44 #[.val (.ref a), .val (.int (Int32.ofNat i)), .val (.ref b), .val (.int (Int32.ofNat i)), .val (.int (Int32.ofNat n)), .val (.int (Int32.ofNat i)), q] [])) target) : Steps p.tables e below (T0.setTop (mkF m 3 #[.val (.ref a), .val (.int (Int32.ofNat i)), .val (.ref b), .val (.int (Int32.ofNat i)), .val (.int (Int32.ofNat n)), .val (.int (Int32.ofNat i)), q] [])) target := by
  show Steps p.tables e below (T0.setTop (mkF m 3 #[.val (.ref a), .val (.int (Int32.ofNat i)), .val (.ref b), .val (.int (Int32.ofNat i)), .val (.int (Int32.ofNat n)), .val (.int (Int32.ofNat i)), q] [])) _
  refine XS.iload X0.here hx rfl (hb hby d7_3) rfl ?_
  refine XS.iload X0.here hx rfl (hb hby d7_5) rfl ?_
  refine XS.icmpYes X0.here hx rfl (pc0 := 7) (pc' := 44) rfl (hb hby d7_7) rfl (flt hc7).2.1 (by decide) (by decide) ?_
  exact kt
set_option maxRecDepth 65536 in
set_option maxHeartbeats 40000000 in
theorem bgC5 {p : Program} {l : Launch} {e : Env} {R : Room} {s : State} {m : MethodId} {args : Array Value} {below : List Frame} {meth : Method} {c : Code} {T0 : State} {locs : List Loc} {cells slots : Nat} {Z : State} {a0 : Array Value} {h0 : Heap} {n0 : Nat} (a b : Addr) (i n : Nat) (g : Nat → Int32) (q : Slot) (hq : q = .unset ∨ ∃ x : Int32, q = .val (.int x)) (X0 : Stand p l e R s m args below meth c T0 locs cells slots) (hx : p.tables.exec = Jvm.exec) (hZ : Z.Warmed39 s.vm) (hw : ∀ d ∈ tables_1, d.before a0 Z = true) (hby : c.code = jdk_52_method_21_code) (hown : s.vm.findClass "java/lang/StringUTF16" = some m.cls) (e0 : T0.heap = h0) (Z0 : n0 ≤ h0.size) (N0 : Fr n0 locs) (hn : n ≤ 200) (hi : i < n) (FA : AF Z h0 a .char n (Ca g)) (hbg : (255 : Int32) < g i) {target : State} (kt : Steps p.tables e below (T0.setTop (mkF m 23 #[.val (.ref a), .val (.int (Int32.ofNat i)), .val (.ref b), .val (.int (Int32.ofNat i)), .val (.int (Int32.ofNat n)), .val (.int (Int32.ofNat i)), .val (.int (g i))] [])) target) : Steps p.tables e below (T0.setTop (mkF m 3 #[.val (.ref a), .val (.int (Int32.ofNat i)), .val (.ref b), .val (.int (Int32.ofNat i)), .val (.int (Int32.ofNat n)), .val (.int (Int32.ofNat i)), q] [])) target := by
  show Steps p.tables e below (T0.setTop (mkF m 3 #[.val (.ref a), .val (.int (Int32.ofNat i)), .val (.ref b), .val (.int (Int32.ofNat i)), .val (.int (Int32.ofNat n)), .val (.int (Int32.ofNat i)), q] [])) _
  refine XS.iload X0.here hx rfl (hb hby d7_3) rfl ?_
  refine XS.iload X0.here hx rfl (hb hby d7_5) rfl ?_
  refine XS.icmpNo X0.here hx rfl (hb hby d7_7) rfl (tlt ((ltN (by omega) (by omega)).mpr hi)).2.1 ?_
  refine XS.aloadN X0.here hx rfl (hb hby d7_10) rfl rfl ?_
  refine XS.iloadN X0.here hx rfl (hb hby d7_11) rfl ?_
  show Steps p.tables e below (T0.setTop (mkF m 12 #[.val (.ref a), .val (.int (Int32.ofNat i)), .val (.ref b), .val (.int (Int32.ofNat i)), .val (.int (Int32.ofNat n)), .val (.int (Int32.ofNat i)), q] [(.int (Int32.ofNat i)), (.ref a)])) _
  refine ldCh X0 hx hZ e0 FA (i := i) hi (by omega) (v := (.int (g i))) rfl (g := (mkF m 12 #[.val (.ref a), .val (.int (Int32.ofNat i)), .val (.ref b), .val (.int (Int32.ofNat i)), .val (.int (Int32.ofNat n)), .val (.int (Int32.ofNat i)), q] [(.int (Int32.ofNat i)), (.ref a)])) rfl rfl (hb hby d7_12) ?_
  refine XS.istore X0.here hx rfl (hb hby d7_13) rfl (l' := #[.val (.ref a), .val (.int (Int32.ofNat i)), .val (.ref b), .val (.int (Int32.ofNat i)), .val (.int (Int32.ofNat n)), .val (.int (Int32.ofNat i)), .val (.int (g i))]) (by rcases hq with rfl | ⟨_, rfl⟩ <;> rfl) ?_
  refine XS.iload X0.here hx rfl (hb hby d7_15) rfl ?_
  refine XS.sipush X0.here hx rfl (hb hby d7_17) ?_
  refine XS.icmpNo X0.here hx rfl (hb hby d7_20) rfl (tlt hbg).2.2.2 ?_
  exact kt
set_option maxRecDepth 65536 in
set_option maxHeartbeats 40000000 in
theorem lpC5 {p : Program} {l : Launch} {e : Env} {R : Room} {s : State} {m : MethodId} {args : Array Value} {below : List Frame} {meth : Method} {c : Code} {cells slots : Nat} {Z : State} {a0 : Array Value} {n0 : Nat} (a b : Addr) (n N : Nat) (g : Nat → Int32) (hx : p.tables.exec = Jvm.exec) (hZ : Z.Warmed39 s.vm) (hw : ∀ d ∈ tables_1, d.before a0 Z = true) (hby : c.code = jdk_52_method_21_code) (hown : s.vm.findClass "java/lang/StringUTF16" = some m.cls) (hn : n ≤ 200) (hab : a ≠ b) (g_b : n0 ≤ b) (hN : N ≤ n) (hsm : ∀ j, j < N → ¬ ((255 : Int32) < g j)) :
    ∀ (k i : Nat) (f : Nat → Value) (q : Slot) (T0 : State) (locs : List Loc), (q = .unset ∨ ∃ x : Int32, q = .val (.int x)) → i + k = N → Stand p l e R s m args below meth c T0 locs cells slots → n0 ≤ T0.heap.size → Fr n0 locs → AF Z T0.heap a .char n (Ca g) → AF Z T0.heap b .byte n f → (∀ j, j < i → f j = Lb g j) →
    ∃ (T' : State) (locs' : List Loc) (f' : Nat → Value) (q' : Slot), (q' = .unset ∨ ∃ x : Int32, q' = .val (.int x)) ∧ Stand p l e R s m args below meth c T' locs' cells slots ∧ Fr n0 locs' ∧ Keep T0.heap T'.heap [b] ∧ AF Z T'.heap b .byte n f' ∧ (∀ j, j < N → f' j = Lb g j) ∧ ∀ target, Steps p.tables e below (T'.setTop (mkF m 3 #[.val (.ref a), .val (.int (Int32.ofNat N)), .val (.ref b), .val (.int (Int32.ofNat N)), .val (.int (Int32.ofNat n)), .val (.int (Int32.ofNat N)), q'] [])) target → Steps p.tables e below (T0.setTop (mkF m 3 #[.val (.ref a), .val (.int (Int32.ofNat i)), .val (.ref b), .val (.int (Int32.ofNat i)), .val (.int (Int32.ofNat n)), .val (.int (Int32.ofNat i)), q] [])) target := by
  intro k
  induction k with
  | zero =>
    intro i f q T0 locs hq hk X0 Z0 N0 FA FB hf
    obtain rfl : i = N := by omega
    exact ⟨T0, locs, f, q, hq, X0, N0, Keep.refl _ _, FB, hf, fun target kt => kt⟩
  | succ k ih =>
    intro i f q T0 locs hq hk X0 Z0 N0 FA FB hf
    obtain ⟨T1, locs1, X1, N1, K1, A1, st1⟩ := tnC5 a b i n g f q hq X0 hx hZ hw hby hown rfl Z0 N0 hn (by omega) FA FB hab g_b (hsm i (by omega))
    obtain ⟨T2, locs2, f2, q2, hq2, X2, N2, K2, A2, hf2, st2⟩ := ih (i + 1) _ _ T1 locs1 (Or.inr ⟨_, rfl⟩) (by omega) X1 (Nat.le_trans Z0 K1.1) N1 (FA.keep K1 (notin1 hab)) A1 (fun j hj => by
      unfold upd
      by_cases q1 : j = i
      · rw [if_pos q1, q1]; rfl
      · rw [if_neg q1]; exact hf j (by omega))
    exact ⟨T2, locs2, f2, q2, hq2, X2, N2, K1.trans K2 (fun x r => Or.inl r), A2, hf2, fun target kt => st1 target (st2 target kt)⟩
set_option maxRecDepth 65536 in
set_option maxHeartbeats 40000000 in
theorem rmC5A (l : Launch) (Z : State) (a0 : Array Value) (hw : ∀ d ∈ tables_1, d.before a0 Z = true) (ws : List Jvm.Cond) (a b : Addr) (n : Nat) (g : Nat → Int32) (f : Nat → Value)  (h0 : Heap) (n0 : Nat) (Z0 : n0 ≤ h0.size) (hn : n ≤ 200) (FA : AF Z h0 a .char n (Ca g)) (FB : AF Z h0 b .byte n f) (hab : a ≠ b) (g_b : n0 ≤ b) (hsm : ∀ j, j < n → ¬ ((255 : Int32) < g j))  :
    MetFree l (⟨"java/lang/StringUTF16", "compress", "([CI[BII)I"⟩ : MethodName) (head1 (Jvm.Cond.code (⟨"java/lang/StringUTF16", "compress", "([CI[BII)I"⟩ : MethodName) jdk_52_method_21_code 7 (some .int) :: ws) ({ frames := 0, cells := 0, slots := 0, locals := 0 } : Room)) (fun aa_ U_ => aa_ = #[(.ref a), (.int (0 : Int32)), (.ref b), (.int (0 : Int32)), (.int (Int32.ofNat n))] ∧ Z.Warmed39 U_.vm ∧ U_.heap = h0) (fun _ _ _ _ _ => True) (fun _ U_ o_ V_ => ∃ v_ L_, o_ = .returned v_ ∧ QR Z (Int32.ofNat n) b .byte n (fun f' => ∀ j, j < n → f' j = Lb g j) h0 n0 v_ V_.heap L_ ∧ FrameEnd U_ o_ V_ L_ ({ frames := 0, cells := 0, slots := 0, locals := 0 } : Room).cells ({ frames := 0, cells := 0, slots := 0, locals := 0 } : Room).slots) := by
  refine MetFree.of_bodySF (plainFor_of_name pn_7) hisR ?_
  intro p e s m args below meth c s₁ Bd hml0 hP hK
  obtain ⟨rfl, hZ, hh⟩ := hP
  have hx := Bd.exec
  have hby := Bd.bytes
  have hml : c.maxLocals = 7 := hml0
  have hown : s.vm.findClass "java/lang/StringUTF16" = some m.cls := findClass_of_methodNamed Bd.named
  have hnm := (name_of_methodNamed Bd.named Bd.method).1
  have X0 : Stand p l e ({ frames := 0, cells := 0, slots := 0, locals := 0 } : Room) s m #[(.ref a), (.int (0 : Int32)), (.ref b), (.int (0 : Int32)), (.int (Int32.ofNat n))] below meth c s₁ [] 0 0 := Stand.of_body Bd
  have e0 : s₁.heap = h0 := by rw [← hh, Bd.state]; rfl
  have N0 := Fr.nil n0
  have pre0 : ∀ zz, Steps p.tables e below (s₁.setTop (mkF m 0 #[.val (.ref a), .val (.int (0 : Int32)), .val (.ref b), .val (.int (0 : Int32)), .val (.int (Int32.ofNat n)), .unset, .unset] [])) zz → Steps p.tables e below (s₁.setTop (entryFrame m #[(.ref a), (.int (0 : Int32)), (.ref b), (.int (0 : Int32)), (.int (Int32.ofNat n))] 7)) zz := fun zz k => castTop (ef_7 m a (0 : Int32) b (0 : Int32) (Int32.ofNat n)) k
  have Z0' : n0 ≤ s₁.heap.size := by rw [e0]; exact Z0
  obtain ⟨T15, L15, f15, q15, hq15, X15, N15, Kl15, A15, hf15, st15⟩ := lpC5 a b n n g hx hZ hw hby hown hn hab g_b (by omega) hsm n 0 f .unset _ _ (Or.inl rfl) (by omega) X0 Z0' N0 (by rw [e0]; exact FA) (by rw [e0]; exact FB) (fun j hj => absurd hj (by omega))
  obtain ⟨fs, hr, hrun, hended, hW, hsame⟩ := X15.leave (v := some (.int (Int32.ofNat n))) (fun h => by rw [Bd.returns] at h; cases h)
  refine ⟨_, _, pre0 _ ?_, hrun, hended, _, _, rfl, ?_, ⟨_, rfl⟩, hW, hsame.mono (by decide) (by decide)⟩
  · show Steps p.tables e below (s₁.setTop (mkF m 0 #[.val (.ref a), .val (.int (0 : Int32)), .val (.ref b), .val (.int (0 : Int32)), .val (.int (Int32.ofNat n)), .unset, .unset] [])) _
    refine XS.iconst X0.here hx rfl (hb hby d7_0) ?_
    refine XS.istore X0.here hx rfl (hb hby d7_1) rfl (l' := #[.val (.ref a), .val (.int (0 : Int32)), .val (.ref b), .val (.int (0 : Int32)), .val (.int (Int32.ofNat n)), .val (.int (0 : Int32)), .unset]) rfl ?_
    show Steps p.tables e below (s₁.setTop (mkF m 3 #[.val (.ref a), .val (.int (Int32.ofNat 0)), .val (.ref b), .val (.int (Int32.ofNat 0)), .val (.int (Int32.ofNat n)), .val (.int (Int32.ofNat 0)), .unset] [])) _
    refine st15 _ ?_
    refine exC5 a b n n q15 X15 hx hZ hw hby hown (fun q => absurd ((ltN (by omega) (by omega)).mp q) (Nat.lt_irrefl _)) ?_
    refine XS.iload X15.here hx rfl (hb hby d7_44) rfl ?_
    show Steps p.tables e below (T15.setTop (mkF m 46 #[.val (.ref a), .val (.int (Int32.ofNat n)), .val (.ref b), .val (.int (Int32.ofNat n)), .val (.int (Int32.ofNat n)), .val (.int (Int32.ofNat n)), q15] [(.int (Int32.ofNat n))])) _
    exact retI X15 hx Bd.returns (hb hby d7_46) hr
  · show QR Z (Int32.ofNat n) b .byte n (fun f' => ∀ j, j < n → f' j = Lb g j) h0 n0 _ T15.heap _
    exact ⟨rfl, N15, by have q := Kl15; rw [e0] at q; exact q, f15, A15, hf15⟩
set_option maxRecDepth 65536 in
set_option maxHeartbeats 40000000 in
theorem rmC5B (l : Launch) (Z : State) (a0 : Array Value) (hw : ∀ d ∈ tables_1, d.before a0 Z = true) (ws : List Jvm.Cond) (a b : Addr) (n : Nat) (g : Nat → Int32) (f : Nat → Value) (k : Nat)  (h0 : Heap) (n0 : Nat) (Z0 : n0 ≤ h0.size) (hn : n ≤ 200) (hk : k < n) (hbg : (255 : Int32) < g k) (FA : AF Z h0 a .char n (Ca g)) (FB : AF Z h0 b .byte n f) (hab : a ≠ b) (g_b : n0 ≤ b) (hsm : ∀ j, j < k → ¬ ((255 : Int32) < g j))  :
    MetFree l (⟨"java/lang/StringUTF16", "compress", "([CI[BII)I"⟩ : MethodName) (head1 (Jvm.Cond.code (⟨"java/lang/StringUTF16", "compress", "([CI[BII)I"⟩ : MethodName) jdk_52_method_21_code 7 (some .int) :: ws) ({ frames := 0, cells := 0, slots := 0, locals := 0 } : Room)) (fun aa_ U_ => aa_ = #[(.ref a), (.int (0 : Int32)), (.ref b), (.int (0 : Int32)), (.int (Int32.ofNat n))] ∧ Z.Warmed39 U_.vm ∧ U_.heap = h0) (fun _ _ _ _ _ => True) (fun _ U_ o_ V_ => ∃ v_ L_, o_ = .returned v_ ∧ QR Z (Int32.ofNat k) b .byte n (fun f' => ∀ j, j < k → f' j = Lb g j) h0 n0 v_ V_.heap L_ ∧ FrameEnd U_ o_ V_ L_ ({ frames := 0, cells := 0, slots := 0, locals := 0 } : Room).cells ({ frames := 0, cells := 0, slots := 0, locals := 0 } : Room).slots) := by
  refine MetFree.of_bodySF (plainFor_of_name pn_7) hisR ?_
  intro p e s m args below meth c s₁ Bd hml0 hP hK
  obtain ⟨rfl, hZ, hh⟩ := hP
  have hx := Bd.exec
  have hby := Bd.bytes
  have hml : c.maxLocals = 7 := hml0
  have hown : s.vm.findClass "java/lang/StringUTF16" = some m.cls := findClass_of_methodNamed Bd.named
  have hnm := (name_of_methodNamed Bd.named Bd.method).1
  have X0 : Stand p l e ({ frames := 0, cells := 0, slots := 0, locals := 0 } : Room) s m #[(.ref a), (.int (0 : Int32)), (.ref b), (.int (0 : Int32)), (.int (Int32.ofNat n))] below meth c s₁ [] 0 0 := Stand.of_body Bd
  have e0 : s₁.heap = h0 := by rw [← hh, Bd.state]; rfl
  have N0 := Fr.nil n0
  have pre0 : ∀ zz, Steps p.tables e below (s₁.setTop (mkF m 0 #[.val (.ref a), .val (.int (0 : Int32)), .val (.ref b), .val (.int (0 : Int32)), .val (.int (Int32.ofNat n)), .unset, .unset] [])) zz → Steps p.tables e below (s₁.setTop (entryFrame m #[(.ref a), (.int (0 : Int32)), (.ref b), (.int (0 : Int32)), (.int (Int32.ofNat n))] 7)) zz := fun zz k => castTop (ef_7 m a (0 : Int32) b (0 : Int32) (Int32.ofNat n)) k
  have Z0' : n0 ≤ s₁.heap.size := by rw [e0]; exact Z0
  obtain ⟨T16, L16, f16, q16, hq16, X16, N16, Kl16, A16, hf16, st16⟩ := lpC5 a b n k g hx hZ hw hby hown hn hab g_b (by omega) hsm k 0 f .unset _ _ (Or.inl rfl) (by omega) X0 Z0' N0 (by rw [e0]; exact FA) (by rw [e0]; exact FB) (fun j hj => absurd hj (by omega))
  obtain ⟨fs, hr, hrun, hended, hW, hsame⟩ := X16.leave (v := some (.int (Int32.ofNat k))) (fun h => by rw [Bd.returns] at h; cases h)
  refine ⟨_, _, pre0 _ ?_, hrun, hended, _, _, rfl, ?_, ⟨_, rfl⟩, hW, hsame.mono (by decide) (by decide)⟩
  · show Steps p.tables e below (s₁.setTop (mkF m 0 #[.val (.ref a), .val (.int (0 : Int32)), .val (.ref b), .val (.int (0 : Int32)), .val (.int (Int32.ofNat n)), .unset, .unset] [])) _
    refine XS.iconst X0.here hx rfl (hb hby d7_0) ?_
    refine XS.istore X0.here hx rfl (hb hby d7_1) rfl (l' := #[.val (.ref a), .val (.int (0 : Int32)), .val (.ref b), .val (.int (0 : Int32)), .val (.int (Int32.ofNat n)), .val (.int (0 : Int32)), .unset]) rfl ?_
    show Steps p.tables e below (s₁.setTop (mkF m 3 #[.val (.ref a), .val (.int (Int32.ofNat 0)), .val (.ref b), .val (.int (Int32.ofNat 0)), .val (.int (Int32.ofNat n)), .val (.int (Int32.ofNat 0)), .unset] [])) _
    refine st16 _ ?_
    refine bgC5 (h0 := T16.heap) (n0 := n0) a b k n g q16 hq16 X16 hx hZ hw hby hown rfl (Nat.le_trans Z0' Kl16.1) N16 hn hk (AF.keep (by rw [e0]; exact FA) Kl16 (notin1 hab)) hbg ?_
    refine XS.iload X16.here hx rfl (hb hby d7_23) rfl ?_
    show Steps p.tables e below (T16.setTop (mkF m 25 #[.val (.ref a), .val (.int (Int32.ofNat k)), .val (.ref b), .val (.int (Int32.ofNat k)), .val (.int (Int32.ofNat n)), .val (.int (Int32.ofNat k)), .val (.int (g k))] [(.int (Int32.ofNat k))])) _
    exact retI X16 hx Bd.returns (hb hby d7_25) hr
  · show QR Z (Int32.ofNat k) b .byte n (fun f' => ∀ j, j < k → f' j = Lb g j) h0 n0 _ T16.heap _
    exact ⟨rfl, N16, by have q := Kl16; rw [e0] at q; exact q, f16, A16, hf16⟩
theorem d6_0 : decode jdk_52_method_16_code 0 = .ok (.iload_n 2, 1) := by decide +kernel
theorem d6_1 : decode jdk_52_method_16_code 1 = .ok (.newarray .byte, 2) := by decide +kernel
theorem d6_3 : decode jdk_52_method_16_code 3 = .ok (.astore_n 3, 1) := by decide +kernel
theorem d6_4 : decode jdk_52_method_16_code 4 = .ok (.aload_n 0, 1) := by decide +kernel
theorem d6_5 : decode jdk_52_method_16_code 5 = .ok (.iload_n 1, 1) := by decide +kernel
theorem d6_6 : decode jdk_52_method_16_code 6 = .ok (.aload_n 3, 1) := by decide +kernel
theorem d6_7 : decode jdk_52_method_16_code 7 = .ok (.iconst 0, 1) := by decide +kernel
theorem d6_8 : decode jdk_52_method_16_code 8 = .ok (.iload_n 2, 1) := by decide +kernel
theorem d6_9 : decode jdk_52_method_16_code 9 = .ok (.invokestatic 115, 3) := by decide +kernel
theorem d6_12 : decode jdk_52_method_16_code 12 = .ok (.istore 4, 2) := by decide +kernel
theorem d6_14 : decode jdk_52_method_16_code 14 = .ok (.iload 4, 2) := by decide +kernel
theorem d6_16 : decode jdk_52_method_16_code 16 = .ok (.iload_n 2, 1) := by decide +kernel
theorem d6_17 : decode jdk_52_method_16_code 17 = .ok (.if_icmp .eq 40, 3) := by decide +kernel
theorem d6_20 : decode jdk_52_method_16_code 20 = .ok (.aload_n 0, 1) := by decide +kernel
theorem d6_21 : decode jdk_52_method_16_code 21 = .ok (.iload_n 1, 1) := by decide +kernel
theorem d6_22 : decode jdk_52_method_16_code 22 = .ok (.iload_n 2, 1) := by decide +kernel
theorem d6_23 : decode jdk_52_method_16_code 23 = .ok (.invokestatic 119, 3) := by decide +kernel
theorem d6_26 : decode jdk_52_method_16_code 26 = .ok (.astore 5, 2) := by decide +kernel
theorem d6_28 : decode jdk_52_method_16_code 28 = .ok (.aload 5, 2) := by decide +kernel
theorem d6_30 : decode jdk_52_method_16_code 30 = .ok (.iload 4, 2) := by decide +kernel
theorem d6_32 : decode jdk_52_method_16_code 32 = .ok (.invokestatic 71, 3) := by decide +kernel
theorem d6_35 : decode jdk_52_method_16_code 35 = .ok (.sipush 255, 3) := by decide +kernel
theorem d6_38 : decode jdk_52_method_16_code 38 = .ok (.if_icmp .gt 16, 3) := by decide +kernel
theorem d6_41 : decode jdk_52_method_16_code 41 = .ok (.aload 5, 2) := by decide +kernel
theorem d6_43 : decode jdk_52_method_16_code 43 = .ok (.iconst 0, 1) := by decide +kernel
theorem d6_44 : decode jdk_52_method_16_code 44 = .ok (.aload_n 3, 1) := by decide +kernel
theorem d6_45 : decode jdk_52_method_16_code 45 = .ok (.iconst 0, 1) := by decide +kernel
theorem d6_46 : decode jdk_52_method_16_code 46 = .ok (.iload_n 2, 1) := by decide +kernel
theorem d6_47 : decode jdk_52_method_16_code 47 = .ok (.invokestatic 123, 3) := by decide +kernel
theorem d6_50 : decode jdk_52_method_16_code 50 = .ok (.iload_n 2, 1) := by decide +kernel
theorem d6_51 : decode jdk_52_method_16_code 51 = .ok (.if_icmp .eq 6, 3) := by decide +kernel
theorem d6_54 : decode jdk_52_method_16_code 54 = .ok (.aload 5, 2) := by decide +kernel
theorem d6_56 : decode jdk_52_method_16_code 56 = .ok (.areturn, 1) := by decide +kernel
theorem d6_57 : decode jdk_52_method_16_code 57 = .ok (.aload_n 3, 1) := by decide +kernel
theorem d6_58 : decode jdk_52_method_16_code 58 = .ok (.areturn, 1) := by decide +kernel
theorem pn_6 : plainName "java/lang/StringUTF16" = true := by first | (simp [plainName, overriddenIn]; done) | decide +kernel
theorem ef_6 (m : MethodId) (x0 : Addr) (x1 : Int32) (x2 : Int32) : entryFrame m #[(.ref x0), (.int x1), (.int x2)] 6 = mkF m 0 #[.val (.ref x0), .val (.int x1), .val (.int x2), .unset, .unset, .unset] [] := by first | (simp [entryFrame, mkF, argsToLocals, Value.category]; done) | rfl
set_option maxRecDepth 65536 in
set_option maxHeartbeats 40000000 in
theorem rmC3A (l : Launch) (Z : State) (a0 : Array Value) (hw : ∀ d ∈ tables_1, d.before a0 Z = true) (ws : List Jvm.Cond) (a : Addr) (n : Nat) (g : Nat → Int32)  (h0 : Heap) (n0 : Nat) (Z0 : n0 ≤ h0.size) (hn : n ≤ 200) (O : Old Z n0 h0) (SK : StrSta Z) (FA : AF Z h0 a .char n (Ca g)) (hsm : ∀ j, j < n → ¬ ((255 : Int32) < g j))  :
    MetFree l (⟨"java/lang/StringUTF16", "compress", "([CII)[B"⟩ : MethodName) (head1 (Jvm.Cond.code (⟨"java/lang/StringUTF16", "compress", "([CII)[B"⟩ : MethodName) jdk_52_method_16_code 6 (some (.array .byte)) :: ws) ({ frames := 3, cells := 2, slots := 600, locals := 60 } : Room)) (fun aa_ U_ => aa_ = #[(.ref a), (.int (0 : Int32)), (.int (Int32.ofNat n))] ∧ Z.Warmed39 U_.vm ∧ U_.heap = h0) (fun _ _ _ _ _ => True) (fun _ U_ o_ V_ => ∃ v_ L_, o_ = .returned v_ ∧ QA Z .byte n (Lb g) h0 n0 v_ V_.heap L_ ∧ FrameEnd U_ o_ V_ L_ ({ frames := 3, cells := 2, slots := 600, locals := 60 } : Room).cells ({ frames := 3, cells := 2, slots := 600, locals := 60 } : Room).slots) := by
  refine MetFree.of_bodySF (plainFor_of_name pn_6) hisR ?_
  intro p e s m args below meth c s₁ Bd hml0 hP hK
  obtain ⟨rfl, hZ, hh⟩ := hP
  have hx := Bd.exec
  have hby := Bd.bytes
  have hml : c.maxLocals = 6 := hml0
  have hown : s.vm.findClass "java/lang/StringUTF16" = some m.cls := findClass_of_methodNamed Bd.named
  have hnm := (name_of_methodNamed Bd.named Bd.method).1
  have X0 : Stand p l e ({ frames := 3, cells := 2, slots := 600, locals := 60 } : Room) s m #[(.ref a), (.int (0 : Int32)), (.int (Int32.ofNat n))] below meth c s₁ [] 0 0 := Stand.of_body Bd
  have e0 : s₁.heap = h0 := by rw [← hh, Bd.state]; rfl
  have N0 := Fr.nil n0
  have pre0 : ∀ zz, Steps p.tables e below (s₁.setTop (mkF m 0 #[.val (.ref a), .val (.int (0 : Int32)), .val (.int (Int32.ofNat n)), .unset, .unset, .unset] [])) zz → Steps p.tables e below (s₁.setTop (entryFrame m #[(.ref a), (.int (0 : Int32)), (.int (Int32.ofNat n))] 6)) zz := fun zz k => castTop (ef_6 m a (0 : Int32) (Int32.ofNat n)) k
  obtain ⟨T17, h17, X17, e17, E17, A17, st17⟩ := nwA X0 hx hZ (hw _ (List.mem_of_getElem? (i := 27) rfl)) e0 (g := (mkF m 1 #[.val (.ref a), .val (.int (0 : Int32)), .val (.int (Int32.ofNat n)), .unset, .unset, .unset] [(.int (Int32.ofNat n))])) rfl (hb hby d6_1) (n := n) rfl (cap := 200) (by omega) (by decide) (by decide) (by decide)
  obtain ⟨b17, q17⟩ : ∃ z, z = h0.size := ⟨_, rfl⟩
  rw [← q17] at A17 st17
  have V17 : AF Z h17 b17 .byte n (fun _ => (.int (0 : Int32))) := A17
  have g_b17 : n0 ≤ b17 := Nat.le_trans Z0 (Nat.le_of_eq q17.symm)
  have sz_b17 : h0.size ≤ b17 := Nat.le_trans (Keep.refl h0 []).1 (Nat.le_of_eq q17.symm)
  have K17 := (Keep.refl h0 []).ext E17
  have Z17 : n0 ≤ h17.size := Nat.le_trans Z0 E17.1
  have ne_a_b17 : a ≠ b17 := Nat.ne_of_lt (Nat.lt_of_lt_of_le FA.lt (Nat.le_of_eq q17.symm))
  have FA_e17 := FA.ext E17
  have O17 := O.ext E17
  obtain ⟨_, _, ⟨T18, L18, k18, n18⟩, -, X18, ⟨Lc18, hQ18, l18, y18, z18⟩, st18⟩ := Jvm.LawKit.callS X17 hx (y := (⟨"java/lang/StringUTF16", "compress", "([CI[BII)I"⟩ : MethodName)) hown (mvT hZ (hw _ (List.mem_of_getElem? (i := 28) rfl))) (mvT hZ (hw _ (List.mem_of_getElem? (i := 29) rfl))) (mvT hZ (hw _ (List.mem_of_getElem? (i := 25) rfl))) (mvT hZ (hw _ (List.mem_of_getElem? (i := 30) rfl))) (by decide) (backOf (W := 0) (rmC5A l Z a0 hw [] a b17 n g (fun _ => (.int (0 : Int32))) h17 n0 Z17 hn  FA_e17 V17 ne_a_b17 g_b17 hsm) hZ (hw _ (List.mem_of_getElem? (i := 30) rfl)) (hw _ (List.mem_of_getElem? (i := 25) rfl)) (by decide) (by decide)) (g := (mkF m 9 #[.val (.ref a), .val (.int (0 : Int32)), .val (.int (Int32.ofNat n)), .val (.ref b17), .unset, .unset] [(.int (Int32.ofNat n)), (.int (0 : Int32)), (.ref b17), (.int (0 : Int32)), (.ref a)])) rfl (by rw [hml]; rfl) (argsL := [(.ref a), (.int (0 : Int32)), (.ref b17), (.int (0 : Int32)), (.int (Int32.ofNat n))]) (rest := []) (lenOf pd_6 rfl) rfl (by show 2 * 0 + _ ≤ _; exact Nat.le_of_eq rfl) (hb hby d6_9) (fun _ _ => ⟨rfl, e17, (by decide : 1 + 0 ≤ _), (by decide : 200 + 0 ≤ _)⟩)
  dsimp only [Pt.U, Pt.locs, Pt.cells, Pt.slots] at X18 l18 y18 z18 st18 hQ18
  subst l18 y18 z18
  obtain ⟨rfl, N18q, K18, f18, A18, hf18⟩ := hQ18
  have N18 := Fr.app N0 N18q
  have FA_e18 := FA_e17.keep K18 (notin1 ne_a_b17)
  have KK18 := K17.trans K18 (fun x r => by cases List.mem_singleton.mp r; exact (Or.inr sz_b17))
  have Z18 : n0 ≤ T18.heap.size := Nat.le_trans Z17 K18.1
  have O18 := O17.keep K18 (all1 g_b17)
  obtain ⟨fs, hr, hrun, hended, hW, hsame⟩ := X18.leave (v := some (.ref b17)) (fun h => by rw [Bd.returns] at h; cases h)
  refine ⟨_, _, pre0 _ ?_, hrun, hended, _, _, rfl, ?_, ⟨_, rfl⟩, hW, hsame.mono (by decide) (by decide)⟩
  · show Steps p.tables e below (s₁.setTop (mkF m 0 #[.val (.ref a), .val (.int (0 : Int32)), .val (.int (Int32.ofNat n)), .unset, .unset, .unset] [])) _
    refine XS.iloadN X0.here hx rfl (hb hby d6_0) rfl ?_
    show Steps p.tables e below (s₁.setTop (mkF m 1 #[.val (.ref a), .val (.int (0 : Int32)), .val (.int (Int32.ofNat n)), .unset, .unset, .unset] [(.int (Int32.ofNat n))])) _
    refine st17 _ ?_
    refine XS.astoreN X17.here hx rfl (hb hby d6_3) rfl rfl (l' := #[.val (.ref a), .val (.int (0 : Int32)), .val (.int (Int32.ofNat n)), .val (.ref b17), .unset, .unset]) rfl ?_
    refine XS.aloadN X17.here hx rfl (hb hby d6_4) rfl rfl ?_
    refine XS.iloadN X17.here hx rfl (hb hby d6_5) rfl ?_
    refine XS.aloadN X17.here hx rfl (hb hby d6_6) rfl rfl ?_
    refine XS.iconst X17.here hx rfl (hb hby d6_7) ?_
    show Steps p.tables e below (T17.setTop (mkF m 8 #[.val (.ref a), .val (.int (0 : Int32)), .val (.int (Int32.ofNat n)), .val (.ref b17), .unset, .unset] [(.int (0 : Int32)), (.ref b17), (.int (0 : Int32)), (.ref a)])) _
    refine XS.iloadN X17.here hx rfl (hb hby d6_8) rfl ?_
    show Steps p.tables e below (T17.setTop (mkF m 9 #[.val (.ref a), .val (.int (0 : Int32)), .val (.int (Int32.ofNat n)), .val (.ref b17), .unset, .unset] [(.int (Int32.ofNat n)), (.int (0 : Int32)), (.ref b17), (.int (0 : Int32)), (.ref a)])) _
    refine st18 _ ?_
    refine XS.istore X18.here hx rfl (hb hby d6_12) rfl (l' := #[.val (.ref a), .val (.int (0 : Int32)), .val (.int (Int32.ofNat n)), .val (.ref b17), .val (.int (Int32.ofNat n)), .unset]) rfl ?_
    refine XS.iload X18.here hx rfl (hb hby d6_14) rfl ?_
    refine XS.iloadN X18.here hx rfl (hb hby d6_16) rfl ?_
    refine XS.icmpYes X18.here hx rfl (pc0 := 17) (pc' := 57) rfl (hb hby d6_17) rfl (teq (rfl : (Int32.ofNat n) = (Int32.ofNat n))).1 (by decide) (by decide) ?_
    refine XS.aloadN X18.here hx rfl (hb hby d6_57) rfl rfl ?_
    show Steps p.tables e below (T18.setTop (mkF m 58 #[.val (.ref a), .val (.int (0 : Int32)), .val (.int (Int32.ofNat n)), .val (.ref b17), .val (.int (Int32.ofNat n)), .unset] [(.ref b17)])) _
    jvm_step X18.here [X18.here.top, hx, (hb hby d6_58), X18.method', Bd.returns, Value.isRef, FieldType.isReference]
    first | (intro acts; rw [hr _ acts rfl rfl rfl]) | rw [hr _ _ rfl rfl rfl]
    exact Steps.refl _
  · show QA Z .byte n (Lb g) h0 n0 _ T18.heap _
    exact ⟨b17, rfl, N18, KK18, sz_b17, A18.congr hf18⟩
set_option maxRecDepth 65536 in
set_option maxHeartbeats 40000000 in
theorem rmC3B (l : Launch) (Z : State) (a0 : Array Value) (hw : ∀ d ∈ tables_1, d.before a0 Z = true) (ws : List Jvm.Cond) (a : Addr) (n : Nat) (g : Nat → Int32) (k : Nat)  (h0 : Heap) (n0 : Nat) (Z0 : n0 ≤ h0.size) (hn : n ≤ 200) (O : Old Z n0 h0) (SK : StrSta Z) (FA : AF Z h0 a .char n (Ca g)) (hch : ∀ j, j < n → isCh (g j)) (hk : k < n) (hbg : (255 : Int32) < g k) (hsm : ∀ j, j < k → ¬ ((255 : Int32) < g j))  :
    MetFree l (⟨"java/lang/StringUTF16", "compress", "([CII)[B"⟩ : MethodName) (head1 (Jvm.Cond.code (⟨"java/lang/StringUTF16", "compress", "([CII)[B"⟩ : MethodName) jdk_52_method_16_code 6 (some (.array .byte)) :: ws) ({ frames := 3, cells := 2, slots := 600, locals := 60 } : Room)) (fun aa_ U_ => aa_ = #[(.ref a), (.int (0 : Int32)), (.int (Int32.ofNat n))] ∧ Z.Warmed39 U_.vm ∧ U_.heap = h0) (fun _ _ _ _ _ => True) (fun _ U_ o_ V_ => ∃ v_ L_, o_ = .returned v_ ∧ QA Z .byte (2 * n) (Ub g) h0 n0 v_ V_.heap L_ ∧ FrameEnd U_ o_ V_ L_ ({ frames := 3, cells := 2, slots := 600, locals := 60 } : Room).cells ({ frames := 3, cells := 2, slots := 600, locals := 60 } : Room).slots) := by
  refine MetFree.of_bodySF (plainFor_of_name pn_6) hisR ?_
  intro p e s m args below meth c s₁ Bd hml0 hP hK
  obtain ⟨rfl, hZ, hh⟩ := hP
  have hx := Bd.exec
  have hby := Bd.bytes
  have hml : c.maxLocals = 6 := hml0
  have hown : s.vm.findClass "java/lang/StringUTF16" = some m.cls := findClass_of_methodNamed Bd.named
  have hnm := (name_of_methodNamed Bd.named Bd.method).1
  have X0 : Stand p l e ({ frames := 3, cells := 2, slots := 600, locals := 60 } : Room) s m #[(.ref a), (.int (0 : Int32)), (.int (Int32.ofNat n))] below meth c s₁ [] 0 0 := Stand.of_body Bd
  have e0 : s₁.heap = h0 := by rw [← hh, Bd.state]; rfl
  have N0 := Fr.nil n0
  have pre0 : ∀ zz, Steps p.tables e below (s₁.setTop (mkF m 0 #[.val (.ref a), .val (.int (0 : Int32)), .val (.int (Int32.ofNat n)), .unset, .unset, .unset] [])) zz → Steps p.tables e below (s₁.setTop (entryFrame m #[(.ref a), (.int (0 : Int32)), (.int (Int32.ofNat n))] 6)) zz := fun zz k => castTop (ef_6 m a (0 : Int32) (Int32.ofNat n)) k
  obtain ⟨T19, h19, X19, e19, E19, A19, st19⟩ := nwA X0 hx hZ (hw _ (List.mem_of_getElem? (i := 27) rfl)) e0 (g := (mkF m 1 #[.val (.ref a), .val (.int (0 : Int32)), .val (.int (Int32.ofNat n)), .unset, .unset, .unset] [(.int (Int32.ofNat n))])) rfl (hb hby d6_1) (n := n) rfl (cap := 200) (by omega) (by decide) (by decide) (by decide)
  obtain ⟨b19, q19⟩ : ∃ z, z = h0.size := ⟨_, rfl⟩
  rw [← q19] at A19 st19
  have V19 : AF Z h19 b19 .byte n (fun _ => (.int (0 : Int32))) := A19
  have g_b19 : n0 ≤ b19 := Nat.le_trans Z0 (Nat.le_of_eq q19.symm)
  have sz_b19 : h0.size ≤ b19 := Nat.le_trans (Keep.refl h0 []).1 (Nat.le_of_eq q19.symm)
  have K19 := (Keep.refl h0 []).ext E19
  have Z19 : n0 ≤ h19.size := Nat.le_trans Z0 E19.1
  have ne_a_b19 : a ≠ b19 := Nat.ne_of_lt (Nat.lt_of_lt_of_le FA.lt (Nat.le_of_eq q19.symm))
  have FA_e19 := FA.ext E19
  have O19 := O.ext E19
  obtain ⟨_, _, ⟨T20, L20, k20, n20⟩, -, X20, ⟨Lc20, hQ20, l20, y20, z20⟩, st20⟩ := Jvm.LawKit.callS X19 hx (y := (⟨"java/lang/StringUTF16", "compress", "([CI[BII)I"⟩ : MethodName)) hown (mvT hZ (hw _ (List.mem_of_getElem? (i := 28) rfl))) (mvT hZ (hw _ (List.mem_of_getElem? (i := 29) rfl))) (mvT hZ (hw _ (List.mem_of_getElem? (i := 25) rfl))) (mvT hZ (hw _ (List.mem_of_getElem? (i := 30) rfl))) (by decide) (backOf (W := 0) (rmC5B l Z a0 hw [] a b19 n g (fun _ => (.int (0 : Int32))) k h19 n0 Z19 hn hk hbg FA_e19 V19 ne_a_b19 g_b19 hsm) hZ (hw _ (List.mem_of_getElem? (i := 30) rfl)) (hw _ (List.mem_of_getElem? (i := 25) rfl)) (by decide) (by decide)) (g := (mkF m 9 #[.val (.ref a), .val (.int (0 : Int32)), .val (.int (Int32.ofNat n)), .val (.ref b19), .unset, .unset] [(.int (Int32.ofNat n)), (.int (0 : Int32)), (.ref b19), (.int (0 : Int32)), (.ref a)])) rfl (by rw [hml]; rfl) (argsL := [(.ref a), (.int (0 : Int32)), (.ref b19), (.int (0 : Int32)), (.int (Int32.ofNat n))]) (rest := []) (lenOf pd_6 rfl) rfl (by show 2 * 0 + _ ≤ _; exact Nat.le_of_eq rfl) (hb hby d6_9) (fun _ _ => ⟨rfl, e19, (by decide : 1 + 0 ≤ _), (by decide : 200 + 0 ≤ _)⟩)
  dsimp only [Pt.U, Pt.locs, Pt.cells, Pt.slots] at X20 l20 y20 z20 st20 hQ20
  subst l20 y20 z20
  obtain ⟨rfl, N20q, K20, f20, A20, hf20⟩ := hQ20
  have N20 := Fr.app N0 N20q
  have FA_e20 := FA_e19.keep K20 (notin1 ne_a_b19)
  have KK20 := K19.trans K20 (fun x r => by cases List.mem_singleton.mp r; exact (Or.inr sz_b19))
  have Z20 : n0 ≤ T20.heap.size := Nat.le_trans Z19 K20.1
  have O20 := O19.keep K20 (all1 g_b19)
  obtain ⟨_, _, ⟨T21, L21, k21, n21⟩, -, X21, ⟨Lc21, hQ21, l21, y21, z21⟩, st21⟩ := Jvm.LawKit.callS X20 hx (y := (⟨"java/lang/StringUTF16", "toBytes", "([CII)[B"⟩ : MethodName)) hown (mvT hZ (hw _ (List.mem_of_getElem? (i := 117) rfl))) (mvT hZ (hw _ (List.mem_of_getElem? (i := 118) rfl))) (mvT hZ (hw _ (List.mem_of_getElem? (i := 25) rfl))) (mvT hZ (hw _ (List.mem_of_getElem? (i := 119) rfl))) (by decide) (backOf (W := 0) (rmTB l Z a0 hw [] a n g T20.heap n0 Z20 hn O20 SK FA_e20) hZ (hw _ (List.mem_of_getElem? (i := 119) rfl)) (hw _ (List.mem_of_getElem? (i := 25) rfl)) (by decide) (by decide)) (g := (mkF m 23 #[.val (.ref a), .val (.int (0 : Int32)), .val (.int (Int32.ofNat n)), .val (.ref b19), .val (.int (Int32.ofNat k)), .unset] [(.int (Int32.ofNat n)), (.int (0 : Int32)), (.ref a)])) rfl (by rw [hml]; rfl) (argsL := [(.ref a), (.int (0 : Int32)), (.int (Int32.ofNat n))]) (rest := []) (lenOf pd_5 rfl) rfl (by show 2 * 0 + _ ≤ _; exact Nat.le_of_eq rfl) (hb hby d6_23) (fun _ _ => ⟨rfl, rfl, (by decide : 1 + 1 ≤ _), (by decide : 200 + 400 ≤ _)⟩)
  dsimp only [Pt.U, Pt.locs, Pt.cells, Pt.slots] at X21 l21 y21 z21 st21 hQ21
  subst l21 y21 z21
  obtain ⟨b21, rfl, N21q, K21, zq21, A21⟩ := hQ21
  have N21 := Fr.app N20 N21q
  have ne_a_b21 : a ≠ b21 := Nat.ne_of_lt (Nat.lt_of_lt_of_le FA_e20.lt zq21)
  have ne_b19_b21 : b19 ≠ b21 := Nat.ne_of_lt (Nat.lt_of_lt_of_le A20.lt zq21)
  have g_b21 : n0 ≤ b21 := Nat.le_trans Z20 zq21
  have sz_b21 : h0.size ≤ b21 := Nat.le_trans KK20.1 zq21
  have FA_e21 := FA_e20.keep K21 List.not_mem_nil
  have A20_e21 := A20.keep K21 List.not_mem_nil
  have KK21 := KK20.trans K21 (fun x r => absurd r List.not_mem_nil)
  have Z21 : n0 ≤ T21.heap.size := Nat.le_trans Z20 K21.1
  have O21 := O20.keep K21 all0'
  obtain ⟨_, _, ⟨T22, L22, k22, n22⟩, -, X22, ⟨Lc22, hQ22, l22, y22, z22⟩, st22⟩ := Jvm.LawKit.callS X21 hx (y := (⟨"java/lang/StringUTF16", "getChar", "([BI)C"⟩ : MethodName)) hown (mvT hZ (hw _ (List.mem_of_getElem? (i := 133) rfl))) (mvT hZ (hw _ (List.mem_of_getElem? (i := 134) rfl))) (mvT hZ (hw _ (List.mem_of_getElem? (i := 25) rfl))) (mvT hZ (hw _ (List.mem_of_getElem? (i := 135) rfl))) (by decide) (backOf (W := 0) (rmGC l Z a0 hw [] b21 k n g T21.heap n0 Z21 hn hk O21 SK A21 hch) hZ (hw _ (List.mem_of_getElem? (i := 135) rfl)) (hw _ (List.mem_of_getElem? (i := 25) rfl)) (by decide) (by decide)) (g := (mkF m 32 #[.val (.ref a), .val (.int (0 : Int32)), .val (.int (Int32.ofNat n)), .val (.ref b19), .val (.int (Int32.ofNat k)), .val (.ref b21)] [(.int (Int32.ofNat k)), (.ref b21)])) rfl (by rw [hml]; rfl) (argsL := [(.ref b21), (.int (Int32.ofNat k))]) (rest := []) (lenOf pd_15 rfl) rfl (by show 2 * 0 + _ ≤ _; exact Nat.le_of_eq rfl) (hb hby d6_32) (fun _ _ => ⟨rfl, rfl, (by decide : 2 + 0 ≤ _), (by decide : 600 + 0 ≤ _)⟩)
  dsimp only [Pt.U, Pt.locs, Pt.cells, Pt.slots] at X22 l22 y22 z22 st22 hQ22
  subst l22 y22 z22
  obtain ⟨rfl, N22q, e22⟩ := hQ22
  have N22 := Fr.app N21 N22q
  obtain ⟨fs, hr, hrun, hended, hW, hsame⟩ := X22.leave (v := some (.ref b21)) (fun h => by rw [Bd.returns] at h; cases h)
  refine ⟨_, _, pre0 _ ?_, hrun, hended, _, _, rfl, ?_, ⟨_, rfl⟩, hW, hsame.mono (by decide) (by decide)⟩
  · show Steps p.tables e below (s₁.setTop (mkF m 0 #[.val (.ref a), .val (.int (0 : Int32)), .val (.int (Int32.ofNat n)), .unset, .unset, .unset] [])) _
    refine XS.iloadN X0.here hx rfl (hb hby d6_0) rfl ?_
    show Steps p.tables e below (s₁.setTop (mkF m 1 #[.val (.ref a), .val (.int (0 : Int32)), .val (.int (Int32.ofNat n)), .unset, .unset, .unset] [(.int (Int32.ofNat n))])) _
    refine st19 _ ?_
    refine XS.astoreN X19.here hx rfl (hb hby d6_3) rfl rfl (l' := #[.val (.ref a), .val (.int (0 : Int32)), .val (.int (Int32.ofNat n)), .val (.ref b19), .unset, .unset]) rfl ?_
    refine XS.aloadN X19.here hx rfl (hb hby d6_4) rfl rfl ?_
    refine XS.iloadN X19.here hx rfl (hb hby d6_5) rfl ?_
    refine XS.aloadN X19.here hx rfl (hb hby d6_6) rfl rfl ?_
    refine XS.iconst X19.here hx rfl (hb hby d6_7) ?_
    show Steps p.tables e below (T19.setTop (mkF m 8 #[.val (.ref a), .val (.int (0 : Int32)), .val (.int (Int32.ofNat n)), .val (.ref b19), .unset, .unset] [(.int (0 : Int32)), (.ref b19), (.int (0 : Int32)), (.ref a)])) _
    refine XS.iloadN X19.here hx rfl (hb hby d6_8) rfl ?_
    show Steps p.tables e below (T19.setTop (mkF m 9 #[.val (.ref a), .val (.int (0 : Int32)), .val (.int (Int32.ofNat n)), .val (.ref b19), .unset, .unset] [(.int (Int32.ofNat n)), (.int (0 : Int32)), (.ref b19), (.int (0 : Int32)), (.ref a)])) _
    refine st20 _ ?_
    refine XS.istore X20.here hx rfl (hb hby d6_12) rfl (l' := #[.val (.ref a), .val (.int (0 : Int32)), .val (.int (Int32.ofNat n)), .val (.ref b19), .val (.int (Int32.ofNat k)), .unset]) rfl ?_
    refine XS.iload X20.here hx rfl (hb hby d6_14) rfl ?_
    refine XS.iloadN X20.here hx rfl (hb hby d6_16) rfl ?_
    refine XS.icmpNo X20.here hx rfl (hb hby d6_17) rfl (feq (fun q => absurd ((ltN (by omega) (by omega)).mpr hk) (by rw [q]; exact fun r => absurd r (by rw [Int32.lt_iff_toInt_lt]; omega)))).1 ?_
    refine XS.aloadN X20.here hx rfl (hb hby d6_20) rfl rfl ?_
    show Steps p.tables e below (T20.setTop (mkF m 21 #[.val (.ref a), .val (.int (0 : Int32)), .val (.int (Int32.ofNat n)), .val (.ref b19), .val (.int (Int32.ofNat k)), .unset] [(.ref a)])) _
    refine XS.iloadN X20.here hx rfl (hb hby d6_21) rfl ?_
    refine XS.iloadN X20.here hx rfl (hb hby d6_22) rfl ?_
    show Steps p.tables e below (T20.setTop (mkF m 23 #[.val (.ref a), .val (.int (0 : Int32)), .val (.int (Int32.ofNat n)), .val (.ref b19), .val (.int (Int32.ofNat k)), .unset] [(.int (Int32.ofNat n)), (.int (0 : Int32)), (.ref a)])) _
    refine st21 _ ?_
    refine XS.astore X21.here hx rfl (hb hby d6_26) rfl rfl (l' := #[.val (.ref a), .val (.int (0 : Int32)), .val (.int (Int32.ofNat n)), .val (.ref b19), .val (.int (Int32.ofNat k)), .val (.ref b21)]) rfl ?_
    refine XS.aload X21.here hx rfl (hb hby d6_28) rfl rfl ?_
    refine XS.iload X21.here hx rfl (hb hby d6_30) rfl ?_
    show Steps p.tables e below (T21.setTop (mkF m 32 #[.val (.ref a), .val (.int (0 : Int32)), .val (.int (Int32.ofNat n)), .val (.ref b19), .val (.int (Int32.ofNat k)), .val (.ref b21)] [(.int (Int32.ofNat k)), (.ref b21)])) _
    refine st22 _ ?_
    refine XS.sipush X22.here hx rfl (hb hby d6_35) ?_
    refine XS.icmpYes X22.here hx rfl (pc0 := 38) (pc' := 54) rfl (hb hby d6_38) rfl (tlt hbg).2.2.1 (by decide) (by decide) ?_
    refine XS.aload X22.here hx rfl (hb hby d6_54) rfl rfl ?_
    show Steps p.tables e below (T22.setTop (mkF m 56 #[.val (.ref a), .val (.int (0 : Int32)), .val (.int (Int32.ofNat n)), .val (.ref b19), .val (.int (Int32.ofNat k)), .val (.ref b21)] [(.ref b21)])) _
    jvm_step X22.here [X22.here.top, hx, (hb hby d6_56), X22.method', Bd.returns, Value.isRef, FieldType.isReference]
    first | (intro acts; rw [hr _ acts rfl rfl rfl]) | rw [hr _ _ rfl rfl rfl]
    exact Steps.refl _
  · show QA Z .byte (2 * n) (Ub g) h0 n0 _ T22.heap _
    exact ⟨b21, rfl, N22, by rw [e22]; exact KK21, sz_b21, by rw [e22]; exact A21⟩
theorem d8_0 : decode jdk_52_method_15_code 0 = .ok (.iload_n 1, 1) := by decide +kernel
theorem d8_1 : decode jdk_52_method_15_code 1 = .ok (.aload_n 0, 1) := by decide +kernel
theorem d8_2 : decode jdk_52_method_15_code 2 = .ok (.arraylength, 1) := by decide +kernel
theorem d8_3 : decode jdk_52_method_15_code 3 = .ok (.isub, 1) := by decide +kernel
theorem d8_4 : decode jdk_52_method_15_code 4 = .ok (.bipush 31, 2) := by decide +kernel
theorem d8_6 : decode jdk_52_method_15_code 6 = .ok (.iushr, 1) := by decide +kernel
theorem d8_7 : decode jdk_52_method_15_code 7 = .ok (.i2b, 1) := by decide +kernel
theorem d8_8 : decode jdk_52_method_15_code 8 = .ok (.ireturn, 1) := by decide +kernel
theorem pn_8 : plainName "java/lang/StringUTF16" = true := by first | (simp [plainName, overriddenIn]; done) | decide +kernel
theorem ef_8 (m : MethodId) (x0 : Addr) (x1 : Int32) : entryFrame m #[(.ref x0), (.int x1)] 2 = mkF m 0 #[.val (.ref x0), .val (.int x1)] [] := by first | (simp [entryFrame, mkF, argsToLocals, Value.category]; done) | rfl
set_option maxRecDepth 65536 in
set_option maxHeartbeats 40000000 in
theorem rmCOA (l : Launch) (Z : State) (a0 : Array Value) (hw : ∀ d ∈ tables_1, d.before a0 Z = true) (ws : List Jvm.Cond) (b : Addr) (n : Nat) (f : Nat → Value)  (h0 : Heap) (n0 : Nat) (Z0 : n0 ≤ h0.size) (hn : n ≤ 200)  (FB : AF Z h0 b .byte n f)  :
    MetFree l (⟨"java/lang/StringUTF16", "coderFromArrayLen", "([BI)B"⟩ : MethodName) (head1 (Jvm.Cond.code (⟨"java/lang/StringUTF16", "coderFromArrayLen", "([BI)B"⟩ : MethodName) jdk_52_method_15_code 2 (some .byte) :: ws) ({ frames := 0, cells := 0, slots := 0, locals := 0 } : Room)) (fun aa_ U_ => aa_ = #[(.ref b), (.int (Int32.ofNat n))] ∧ Z.Warmed39 U_.vm ∧ U_.heap = h0) (fun _ _ _ _ _ => True) (fun _ U_ o_ V_ => ∃ v_ L_, o_ = .returned v_ ∧ QI (0 : Int32) h0 n0 v_ V_.heap L_ ∧ FrameEnd U_ o_ V_ L_ ({ frames := 0, cells := 0, slots := 0, locals := 0 } : Room).cells ({ frames := 0, cells := 0, slots := 0, locals := 0 } : Room).slots) := by
  refine MetFree.of_bodySF (plainFor_of_name pn_8) hisR ?_
  intro p e s m args below meth c s₁ Bd hml0 hP hK
  obtain ⟨rfl, hZ, hh⟩ := hP
  have hx := Bd.exec
  have hby := Bd.bytes
  have hml : c.maxLocals = 2 := hml0
  have hown : s.vm.findClass "java/lang/StringUTF16" = some m.cls := findClass_of_methodNamed Bd.named
  have hnm := (name_of_methodNamed Bd.named Bd.method).1
  have X0 : Stand p l e ({ frames := 0, cells := 0, slots := 0, locals := 0 } : Room) s m #[(.ref b), (.int (Int32.ofNat n))] below meth c s₁ [] 0 0 := Stand.of_body Bd
  have e0 : s₁.heap = h0 := by rw [← hh, Bd.state]; rfl
  have N0 := Fr.nil n0
  have pre0 : ∀ zz, Steps p.tables e below (s₁.setTop (mkF m 0 #[.val (.ref b), .val (.int (Int32.ofNat n))] [])) zz → Steps p.tables e below (s₁.setTop (entryFrame m #[(.ref b), (.int (Int32.ofNat n))] 2)) zz := fun zz k => castTop (ef_8 m b (Int32.ofNat n)) k
  obtain ⟨fs, hr, hrun, hended, hW, hsame⟩ := X0.leave (v := some (.int (0 : Int32))) (fun h => by rw [Bd.returns] at h; cases h)
  refine ⟨_, _, pre0 _ ?_, hrun, hended, _, _, rfl, ?_, ⟨_, rfl⟩, hW, hsame.mono (by decide) (by decide)⟩
  · show Steps p.tables e below (s₁.setTop (mkF m 0 #[.val (.ref b), .val (.int (Int32.ofNat n))] [])) _
    refine XS.iloadN X0.here hx rfl (hb hby d8_0) rfl ?_
    refine XS.aloadN X0.here hx rfl (hb hby d8_1) rfl rfl ?_
    show Steps p.tables e below (s₁.setTop (mkF m 2 #[.val (.ref b), .val (.int (Int32.ofNat n))] [(.ref b), (.int (Int32.ofNat n))])) _
    refine lenA X0 hx hZ e0 FB (g := (mkF m 2 #[.val (.ref b), .val (.int (Int32.ofNat n))] [(.ref b), (.int (Int32.ofNat n))])) rfl rfl (hb hby d8_2) ?_
    refine XS.isub X0.here hx rfl (hb hby d8_3) rfl ?_
    refine XS.bipush X0.here hx rfl (hb hby d8_4) ?_
    refine XS.iushr X0.here hx rfl (hb hby d8_6) rfl ?_
    refine XS.i2b X0.here hx rfl (hb hby d8_7) rfl ?_
    show Steps p.tables e below (s₁.setTop (mkF m 8 #[.val (.ref b), .val (.int (Int32.ofNat n))] [(.int (((((Int32.ofNat n) - (Int32.ofNat n)).toUInt32 >>> ((31 : Int32) &&& 31).toUInt32).toInt32).toInt8.toInt32))])) _
    rw [show (((((Int32.ofNat n) - (Int32.ofNat n)).toUInt32 >>> ((31 : Int32) &&& 31).toUInt32).toInt32).toInt8.toInt32) = (0 : Int32) from codA n]
    show Steps p.tables e below (s₁.setTop (mkF m 8 #[.val (.ref b), .val (.int (Int32.ofNat n))] [(.int (0 : Int32))])) _
    exact retN X0 hx (t := .byte) Bd.returns (by simp) (hb hby d8_8) hr
  · show QI (0 : Int32) h0 n0 _ s₁.heap _
    rw [e0]
    exact ⟨rfl, N0, rfl⟩
set_option maxRecDepth 65536 in
set_option maxHeartbeats 40000000 in
theorem rmCOB (l : Launch) (Z : State) (a0 : Array Value) (hw : ∀ d ∈ tables_1, d.before a0 Z = true) (ws : List Jvm.Cond) (b : Addr) (n : Nat) (f : Nat → Value)  (h0 : Heap) (n0 : Nat) (Z0 : n0 ≤ h0.size) (hn : n ≤ 200) (hp : 0 < n) (FB : AF Z h0 b .byte (2 * n) f)  :
    MetFree l (⟨"java/lang/StringUTF16", "coderFromArrayLen", "([BI)B"⟩ : MethodName) (head1 (Jvm.Cond.code (⟨"java/lang/StringUTF16", "coderFromArrayLen", "([BI)B"⟩ : MethodName) jdk_52_method_15_code 2 (some .byte) :: ws) ({ frames := 0, cells := 0, slots := 0, locals := 0 } : Room)) (fun aa_ U_ => aa_ = #[(.ref b), (.int (Int32.ofNat n))] ∧ Z.Warmed39 U_.vm ∧ U_.heap = h0) (fun _ _ _ _ _ => True) (fun _ U_ o_ V_ => ∃ v_ L_, o_ = .returned v_ ∧ QI (1 : Int32) h0 n0 v_ V_.heap L_ ∧ FrameEnd U_ o_ V_ L_ ({ frames := 0, cells := 0, slots := 0, locals := 0 } : Room).cells ({ frames := 0, cells := 0, slots := 0, locals := 0 } : Room).slots) := by
  refine MetFree.of_bodySF (plainFor_of_name pn_8) hisR ?_
  intro p e s m args below meth c s₁ Bd hml0 hP hK
  obtain ⟨rfl, hZ, hh⟩ := hP
  have hx := Bd.exec
  have hby := Bd.bytes
  have hml : c.maxLocals = 2 := hml0
  have hown : s.vm.findClass "java/lang/StringUTF16" = some m.cls := findClass_of_methodNamed Bd.named
  have hnm := (name_of_methodNamed Bd.named Bd.method).1
  have X0 : Stand p l e ({ frames := 0, cells := 0, slots := 0, locals := 0 } : Room) s m #[(.ref b), (.int (Int32.ofNat n))] below meth c s₁ [] 0 0 := Stand.of_body Bd
  have e0 : s₁.heap = h0 := by rw [← hh, Bd.state]; rfl
  have N0 := Fr.nil n0
  have pre0 : ∀ zz, Steps p.tables e below (s₁.setTop (mkF m 0 #[.val (.ref b), .val (.int (Int32.ofNat n))] [])) zz → Steps p.tables e below (s₁.setTop (entryFrame m #[(.ref b), (.int (Int32.ofNat n))] 2)) zz := fun zz k => castTop (ef_8 m b (Int32.ofNat n)) k
  obtain ⟨fs, hr, hrun, hended, hW, hsame⟩ := X0.leave (v := some (.int (1 : Int32))) (fun h => by rw [Bd.returns] at h; cases h)
  refine ⟨_, _, pre0 _ ?_, hrun, hended, _, _, rfl, ?_, ⟨_, rfl⟩, hW, hsame.mono (by decide) (by decide)⟩
  · show Steps p.tables e below (s₁.setTop (mkF m 0 #[.val (.ref b), .val (.int (Int32.ofNat n))] [])) _
    refine XS.iloadN X0.here hx rfl (hb hby d8_0) rfl ?_
    refine XS.aloadN X0.here hx rfl (hb hby d8_1) rfl rfl ?_
    show Steps p.tables e below (s₁.setTop (mkF m 2 #[.val (.ref b), .val (.int (Int32.ofNat n))] [(.ref b), (.int (Int32.ofNat n))])) _
    refine lenA X0 hx hZ e0 FB (g := (mkF m 2 #[.val (.ref b), .val (.int (Int32.ofNat n))] [(.ref b), (.int (Int32.ofNat n))])) rfl rfl (hb hby d8_2) ?_
    refine XS.isub X0.here hx rfl (hb hby d8_3) rfl ?_
    refine XS.bipush X0.here hx rfl (hb hby d8_4) ?_
    refine XS.iushr X0.here hx rfl (hb hby d8_6) rfl ?_
    refine XS.i2b X0.here hx rfl (hb hby d8_7) rfl ?_
    show Steps p.tables e below (s₁.setTop (mkF m 8 #[.val (.ref b), .val (.int (Int32.ofNat n))] [(.int (((((Int32.ofNat n) - (Int32.ofNat (2 * n))).toUInt32 >>> ((31 : Int32) &&& 31).toUInt32).toInt32).toInt8.toInt32))])) _
    rw [show (((((Int32.ofNat n) - (Int32.ofNat (2 * n))).toUInt32 >>> ((31 : Int32) &&& 31).toUInt32).toInt32).toInt8.toInt32) = (1 : Int32) from codB hp (by omega)]
    show Steps p.tables e below (s₁.setTop (mkF m 8 #[.val (.ref b), .val (.int (Int32.ofNat n))] [(.int (1 : Int32))])) _
    exact retN X0 hx (t := .byte) Bd.returns (by simp) (hb hby d8_8) hr
  · show QI (1 : Int32) h0 n0 _ s₁.heap _
    rw [e0]
    exact ⟨rfl, N0, rfl⟩
theorem d4_0 : decode jdk_42_method_149_code 0 = .ok (.aload_n 0, 1) := by decide +kernel
theorem d4_1 : decode jdk_42_method_149_code 1 = .ok (.invokespecial 1, 3) := by decide +kernel
theorem d4_4 : decode jdk_42_method_149_code 4 = .ok (.iload_n 3, 1) := by decide +kernel
theorem d4_5 : decode jdk_42_method_149_code 5 = .ok (.ifCond .ne 22, 3) := by decide +kernel
theorem d4_8 : decode jdk_42_method_149_code 8 = .ok (.aload_n 0, 1) := by decide +kernel
theorem d4_9 : decode jdk_42_method_149_code 9 = .ok (.ldc 7, 2) := by decide +kernel
theorem d4_11 : decode jdk_42_method_149_code 11 = .ok (.getfield 9, 3) := by decide +kernel
theorem d4_14 : decode jdk_42_method_149_code 14 = .ok (.putfield 9, 3) := by decide +kernel
theorem d4_17 : decode jdk_42_method_149_code 17 = .ok (.aload_n 0, 1) := by decide +kernel
theorem d4_18 : decode jdk_42_method_149_code 18 = .ok (.ldc 7, 2) := by decide +kernel
theorem d4_20 : decode jdk_42_method_149_code 20 = .ok (.getfield 15, 3) := by decide +kernel
theorem d4_23 : decode jdk_42_method_149_code 23 = .ok (.putfield 15, 3) := by decide +kernel
theorem d4_26 : decode jdk_42_method_149_code 26 = .ok (.return_, 1) := by decide +kernel
theorem d4_27 : decode jdk_42_method_149_code 27 = .ok (.getstatic 38, 3) := by decide +kernel
theorem d4_30 : decode jdk_42_method_149_code 30 = .ok (.ifCond .eq 28, 3) := by decide +kernel
theorem d4_33 : decode jdk_42_method_149_code 33 = .ok (.aload_n 1, 1) := by decide +kernel
theorem d4_34 : decode jdk_42_method_149_code 34 = .ok (.iload_n 2, 1) := by decide +kernel
theorem d4_35 : decode jdk_42_method_149_code 35 = .ok (.iload_n 3, 1) := by decide +kernel
theorem d4_36 : decode jdk_42_method_149_code 36 = .ok (.invokestatic 177, 3) := by decide +kernel
theorem d4_39 : decode jdk_42_method_149_code 39 = .ok (.astore 5, 2) := by decide +kernel
theorem d4_41 : decode jdk_42_method_149_code 41 = .ok (.aload_n 0, 1) := by decide +kernel
theorem d4_42 : decode jdk_42_method_149_code 42 = .ok (.aload 5, 2) := by decide +kernel
theorem d4_44 : decode jdk_42_method_149_code 44 = .ok (.iload_n 3, 1) := by decide +kernel
theorem d4_45 : decode jdk_42_method_149_code 45 = .ok (.invokestatic 47, 3) := by decide +kernel
theorem d4_48 : decode jdk_42_method_149_code 48 = .ok (.putfield 15, 3) := by decide +kernel
theorem d4_51 : decode jdk_42_method_149_code 51 = .ok (.aload_n 0, 1) := by decide +kernel
theorem d4_52 : decode jdk_42_method_149_code 52 = .ok (.aload 5, 2) := by decide +kernel
theorem d4_54 : decode jdk_42_method_149_code 54 = .ok (.putfield 9, 3) := by decide +kernel
theorem d4_57 : decode jdk_42_method_149_code 57 = .ok (.return_, 1) := by decide +kernel
theorem d4_58 : decode jdk_42_method_149_code 58 = .ok (.aload_n 0, 1) := by decide +kernel
theorem d4_59 : decode jdk_42_method_149_code 59 = .ok (.iconst 1, 1) := by decide +kernel
theorem d4_60 : decode jdk_42_method_149_code 60 = .ok (.putfield 15, 3) := by decide +kernel
theorem d4_63 : decode jdk_42_method_149_code 63 = .ok (.aload_n 0, 1) := by decide +kernel
theorem d4_64 : decode jdk_42_method_149_code 64 = .ok (.aload_n 1, 1) := by decide +kernel
theorem d4_65 : decode jdk_42_method_149_code 65 = .ok (.iload_n 2, 1) := by decide +kernel
theorem d4_66 : decode jdk_42_method_149_code 66 = .ok (.iload_n 3, 1) := by decide +kernel
theorem d4_67 : decode jdk_42_method_149_code 67 = .ok (.invokestatic 180, 3) := by decide +kernel
theorem d4_70 : decode jdk_42_method_149_code 70 = .ok (.putfield 9, 3) := by decide +kernel
theorem d4_73 : decode jdk_42_method_149_code 73 = .ok (.return_, 1) := by decide +kernel
theorem pn_4 : plainName "java/lang/String" = true := by first | (simp [plainName, overriddenIn]; done) | decide +kernel
theorem ef_4 (m : MethodId) (x0 : Addr) (x1 : Addr) (x2 : Int32) (x3 : Int32) : entryFrame m #[(.ref x0), (.ref x1), (.int x2), (.int x3), .null] 6 = mkF m 0 #[.val (.ref x0), .val (.ref x1), .val (.int x2), .val (.int x3), .val .null, .unset] [] := by first | (simp [entryFrame, mkF, argsToLocals, Value.category]; done) | rfl
set_option maxRecDepth 65536 in
set_option maxHeartbeats 40000000 in
theorem rmI4A (l : Launch) (Z : State) (a0 : Array Value) (hw : ∀ d ∈ tables_1, d.before a0 Z = true) (ws : List Jvm.Cond) (o a : Addr) (n : Nat) (g : Nat → Int32)  (h0 : Heap) (n0 : Nat) (Z0 : n0 ≤ h0.size) (hn : n ≤ 200) (hp : 0 < n) (O : Old Z n0 h0) (SK : StrSta Z) (FA : AF Z h0 a .char n (Ca g)) (hch : ∀ j, j < n → isCh (g j)) (EO : Exa Z h0 o "java/lang/String") (FV : Fld Z h0 o "java/lang/String" "value" "[B" .null) (FC : Fld Z h0 o "java/lang/String" "coder" "B" (.int (0 : Int32))) (g_o : n0 ≤ o) (hao : a ≠ o)  (hsm : ∀ j, j < n → ¬ ((255 : Int32) < g j))  :
    MetFree l (⟨"java/lang/String", "<init>", "([CIILjava/lang/Void;)V"⟩ : MethodName) (head1 (Jvm.Cond.code (⟨"java/lang/String", "<init>", "([CIILjava/lang/Void;)V"⟩ : MethodName) jdk_42_method_149_code 6 none :: ws) ({ frames := 4, cells := 2, slots := 600, locals := 100 } : Room)) (fun aa_ U_ => aa_ = #[(.ref o), (.ref a), (.int (0 : Int32)), (.int (Int32.ofNat n)), .null] ∧ Z.Warmed39 U_.vm ∧ U_.heap = h0) (fun _ _ _ _ _ => True) (fun _ U_ o_ V_ => ∃ v_ L_, o_ = .returned v_ ∧ QS Z o n g h0 n0 v_ V_.heap L_ ∧ FrameEnd U_ o_ V_ L_ ({ frames := 4, cells := 2, slots := 600, locals := 100 } : Room).cells ({ frames := 4, cells := 2, slots := 600, locals := 100 } : Room).slots) := by
  refine MetFree.of_bodySF (plainFor_of_name pn_4) hisR ?_
  intro p e s m args below meth c s₁ Bd hml0 hP hK
  obtain ⟨rfl, hZ, hh⟩ := hP
  have hx := Bd.exec
  have hby := Bd.bytes
  have hml : c.maxLocals = 6 := hml0
  have hown : s.vm.findClass "java/lang/String" = some m.cls := findClass_of_methodNamed Bd.named
  have hnm := (name_of_methodNamed Bd.named Bd.method).1
  have X0 : Stand p l e ({ frames := 4, cells := 2, slots := 600, locals := 100 } : Room) s m #[(.ref o), (.ref a), (.int (0 : Int32)), (.int (Int32.ofNat n)), .null] below meth c s₁ [] 0 0 := Stand.of_body Bd
  have e0 : s₁.heap = h0 := by rw [← hh, Bd.state]; rfl
  have N0 := Fr.nil n0
  have pre0 : ∀ zz, Steps p.tables e below (s₁.setTop (mkF m 0 #[.val (.ref o), .val (.ref a), .val (.int (0 : Int32)), .val (.int (Int32.ofNat n)), .val .null, .unset] [])) zz → Steps p.tables e below (s₁.setTop (entryFrame m #[(.ref o), (.ref a), (.int (0 : Int32)), (.int (Int32.ofNat n)), .null] 6)) zz := fun zz k => castTop (ef_4 m o a (0 : Int32) (Int32.ofNat n)) k
  obtain ⟨kc, hkc, hcs⟩ := SK.1
  obtain ⟨T23, X23, e23, st23⟩ := initO X0 hx hZ hown (hw _ (List.mem_of_getElem? (i := 19) rfl)) (hw _ (List.mem_of_getElem? (i := 20) rfl)) (hw _ (List.mem_of_getElem? (i := 21) rfl)) e0 (g := (mkF m 1 #[.val (.ref o), .val (.ref a), .val (.int (0 : Int32)), .val (.int (Int32.ofNat n)), .val .null, .unset] [(.ref o)])) rfl (by rw [hml]; rfl) rfl (hb hby d4_1) (by decide) (W := 0) (by show 2 * 0 + _ ≤ _; exact Nat.le_of_eq rfl) (by decide)
  obtain ⟨T24, X24, e24, st24⟩ := getS2 X23 hx hZ hown (host := "") (Or.inl (hw _ (List.mem_of_getElem? (i := 22) rfl))) Via.refl e23 (Sta.ext O.2 hcs) (g := (mkF m 27 #[.val (.ref o), .val (.ref a), .val (.int (0 : Int32)), .val (.int (Int32.ofNat n)), .val .null, .unset] [])) rfl (hb hby d4_27)
  obtain ⟨_, _, ⟨T25, L25, k25, n25⟩, -, X25, ⟨Lc25, hQ25, l25, y25, z25⟩, st25⟩ := Jvm.LawKit.callS X24 hx (y := (⟨"java/lang/StringUTF16", "compress", "([CII)[B"⟩ : MethodName)) hown (mvT hZ (hw _ (List.mem_of_getElem? (i := 23) rfl))) (mvT hZ (hw _ (List.mem_of_getElem? (i := 24) rfl))) (mvT hZ (hw _ (List.mem_of_getElem? (i := 25) rfl))) (mvT hZ (hw _ (List.mem_of_getElem? (i := 26) rfl))) (by decide) (backOf (W := 0) (rmC3A l Z a0 hw [] a n g h0 n0 Z0 hn O SK FA hsm) hZ (hw _ (List.mem_of_getElem? (i := 26) rfl)) (hw _ (List.mem_of_getElem? (i := 25) rfl)) (by decide) (by decide)) (g := (mkF m 36 #[.val (.ref o), .val (.ref a), .val (.int (0 : Int32)), .val (.int (Int32.ofNat n)), .val .null, .unset] [(.int (Int32.ofNat n)), (.int (0 : Int32)), (.ref a)])) rfl (by rw [hml]; rfl) (argsL := [(.ref a), (.int (0 : Int32)), (.int (Int32.ofNat n))]) (rest := []) (lenOf pd_5 rfl) rfl (by show 2 * 0 + _ ≤ _; exact Nat.le_of_eq rfl) (hb hby d4_36) (fun _ _ => ⟨rfl, e24, (by decide : 0 + 2 ≤ _), (by decide : 0 + 600 ≤ _)⟩)
  dsimp only [Pt.U, Pt.locs, Pt.cells, Pt.slots] at X25 l25 y25 z25 st25 hQ25
  subst l25 y25 z25
  obtain ⟨b25, rfl, N25q, K25, zq25, A25⟩ := hQ25
  have N25 := Fr.app N0 N25q
  have ne_a_b25 : a ≠ b25 := Nat.ne_of_lt (Nat.lt_of_lt_of_le FA.lt zq25)
  have ne_o_b25 : o ≠ b25 := Nat.ne_of_lt (Nat.lt_of_lt_of_le EO.lt zq25)
  have g_b25 : n0 ≤ b25 := Nat.le_trans Z0 zq25
  have sz_b25 : h0.size ≤ b25 := Nat.le_trans (Keep.refl h0 [o]).1 zq25
  have EO_e25 := EO.keep K25
  have FV_e25 := FV.keep K25 List.not_mem_nil
  have FC_e25 := FC.keep K25 List.not_mem_nil
  have FA_e25 := FA.keep K25 List.not_mem_nil
  have KK25 := (Keep.refl h0 [o]).trans K25 (fun x r => absurd r List.not_mem_nil)
  have Z25 : n0 ≤ T25.heap.size := Nat.le_trans Z0 K25.1
  have O25 := O.keep K25 all0'
  obtain ⟨_, _, ⟨T26, L26, k26, n26⟩, -, X26, ⟨Lc26, hQ26, l26, y26, z26⟩, st26⟩ := Jvm.LawKit.callS X25 hx (y := (⟨"java/lang/StringUTF16", "coderFromArrayLen", "([BI)B"⟩ : MethodName)) hown (mvT hZ (hw _ (List.mem_of_getElem? (i := 31) rfl))) (mvT hZ (hw _ (List.mem_of_getElem? (i := 32) rfl))) (mvT hZ (hw _ (List.mem_of_getElem? (i := 25) rfl))) (mvT hZ (hw _ (List.mem_of_getElem? (i := 33) rfl))) (by decide) (backOf (W := 1) (rmCOA l Z a0 hw [] b25 n (Lb g) T25.heap n0 Z25 hn  A25) hZ (hw _ (List.mem_of_getElem? (i := 33) rfl)) (hw _ (List.mem_of_getElem? (i := 25) rfl)) (by decide) (by decide)) (g := (mkF m 45 #[.val (.ref o), .val (.ref a), .val (.int (0 : Int32)), .val (.int (Int32.ofNat n)), .val .null, .val (.ref b25)] [(.int (Int32.ofNat n)), (.ref b25), (.ref o)])) rfl (by rw [hml]; rfl) (argsL := [(.ref b25), (.int (Int32.ofNat n))]) (rest := [(.ref o)]) (lenOf pd_7 rfl) rfl (by show 2 * 0 + _ ≤ _; exact Nat.le_of_eq rfl) (hb hby d4_45) (fun _ _ => ⟨rfl, rfl, (by decide : 2 + 0 ≤ _), (by decide : 600 + 0 ≤ _)⟩)
  dsimp only [Pt.U, Pt.locs, Pt.cells, Pt.slots] at X26 l26 y26 z26 st26 hQ26
  subst l26 y26 z26
  obtain ⟨rfl, N26q, e26⟩ := hQ26
  have N26 := Fr.app N25 N26q
  obtain ⟨T27, h27, X27, e27, W27, st27⟩ := putFN X26 hx hZ hown (hw _ (List.mem_of_getElem? (i := 34) rfl)) Via.refl e26 FC_e25 EO_e25 (Or.inr ⟨(hw _ (List.mem_of_getElem? (i := 35) rfl)), rfl, hnm⟩) (hw _ (List.mem_of_getElem? (i := 10) rfl)) (ty := .byte) (v' := (.int (0 : Int32))) (by decide) rfl (by decide) (g := (mkF m 48 #[.val (.ref o), .val (.ref a), .val (.int (0 : Int32)), .val (.int (Int32.ofNat n)), .val .null, .val (.ref b25)] [(.int (0 : Int32)), (.ref o)])) rfl rfl (hb hby d4_48)
  have Fw27 := FC_e25.same W27
  have EO_e27 := EO_e25.wr W27
  have FV_e27 := FV_e25.other W27 (Or.inr (slot_ne (Or.inr (hw _ (List.mem_of_getElem? (i := 37) rfl))) (Or.inr (hw _ (List.mem_of_getElem? (i := 35) rfl))) (by decide) (t := (.array .byte)) (t' := .byte) (by decide) (by decide)))
  have FA_e27 := FA_e25.other W27 hao
  have A25_e27 := A25.other W27 (Ne.symm ne_o_b25)
  have N27 := Fr.snoc X27 N26 g_o
  have K27 := KK25.wr W27 (Or.inl (List.mem_of_getElem? (i := 0) rfl))
  have Z27 : n0 ≤ h27.size := Nat.le_trans Z25 (Keep.of_wr W27).1
  have O27 := O25.wr W27 g_o
  obtain ⟨T28, h28, X28, e28, W28, st28⟩ := putF X27 hx hZ hown (host := "") (Or.inl (hw _ (List.mem_of_getElem? (i := 36) rfl))) Via.refl e27 FV_e27 EO_e27 (Or.inr ⟨(hw _ (List.mem_of_getElem? (i := 37) rfl)), rfl, hnm⟩) (hw _ (List.mem_of_getElem? (i := 10) rfl)) (ty := (.array .byte)) (by decide) rfl rfl (g := (mkF m 54 #[.val (.ref o), .val (.ref a), .val (.int (0 : Int32)), .val (.int (Int32.ofNat n)), .val .null, .val (.ref b25)] [(.ref b25), (.ref o)])) rfl rfl (hb hby d4_54)
  have Fw28 := FV_e27.same W28
  have EO_e28 := EO_e27.wr W28
  have Fw27_e28 := Fw27.other W28 (Or.inr (slot_ne (Or.inr (hw _ (List.mem_of_getElem? (i := 35) rfl))) (Or.inr (hw _ (List.mem_of_getElem? (i := 37) rfl))) (by decide) (t := .byte) (t' := (.array .byte)) (by decide) (by decide)))
  have FA_e28 := FA_e27.other W28 hao
  have A25_e28 := A25_e27.other W28 (Ne.symm ne_o_b25)
  have N28 := Fr.snoc X28 N27 g_o
  have K28 := K27.wr W28 (Or.inl (List.mem_of_getElem? (i := 0) rfl))
  have Z28 : n0 ≤ h28.size := Nat.le_trans Z27 (Keep.of_wr W28).1
  have O28 := O27.wr W28 g_o
  obtain ⟨fs, hr, hrun, hended, hW, hsame⟩ := X28.leave (v := none) (fun _ => rfl)
  refine ⟨_, _, pre0 _ ?_, hrun, hended, _, _, rfl, ?_, ⟨_, rfl⟩, hW, hsame.mono (by decide) (by decide)⟩
  · show Steps p.tables e below (s₁.setTop (mkF m 0 #[.val (.ref o), .val (.ref a), .val (.int (0 : Int32)), .val (.int (Int32.ofNat n)), .val .null, .unset] [])) _
    refine XS.aloadN X0.here hx rfl (hb hby d4_0) rfl rfl ?_
    show Steps p.tables e below (s₁.setTop (mkF m 1 #[.val (.ref o), .val (.ref a), .val (.int (0 : Int32)), .val (.int (Int32.ofNat n)), .val .null, .unset] [(.ref o)])) _
    refine st23 _ ?_
    refine XS.iloadN X23.here hx rfl (hb hby d4_4) rfl ?_
    refine XS.ifYes X23.here hx rfl (pc0 := 5) (pc' := 27) rfl (hb hby d4_5) rfl ((if0 _ _).trans (feq (fun q => absurd (congrArg Int32.toInt q) (by rw [Int32.toInt_ofNat_small (by omega)]; intro r; change (n : Int) = 0 at r; omega))).2) (by decide) (by decide) ?_
    show Steps p.tables e below (T23.setTop (mkF m 27 #[.val (.ref o), .val (.ref a), .val (.int (0 : Int32)), .val (.int (Int32.ofNat n)), .val .null, .unset] [])) _
    refine st24 _ ?_
    refine XS.ifNo X24.here hx rfl (hb hby d4_30) rfl ((if0 _ _).trans (feq hkc).1) ?_
    refine XS.aloadN X24.here hx rfl (hb hby d4_33) rfl rfl ?_
    refine XS.iloadN X24.here hx rfl (hb hby d4_34) rfl ?_
    refine XS.iloadN X24.here hx rfl (hb hby d4_35) rfl ?_
    show Steps p.tables e below (T24.setTop (mkF m 36 #[.val (.ref o), .val (.ref a), .val (.int (0 : Int32)), .val (.int (Int32.ofNat n)), .val .null, .unset] [(.int (Int32.ofNat n)), (.int (0 : Int32)), (.ref a)])) _
    refine st25 _ ?_
    refine XS.astore X25.here hx rfl (hb hby d4_39) rfl rfl (l' := #[.val (.ref o), .val (.ref a), .val (.int (0 : Int32)), .val (.int (Int32.ofNat n)), .val .null, .val (.ref b25)]) rfl ?_
    refine XS.aloadN X25.here hx rfl (hb hby d4_41) rfl rfl ?_
    refine XS.aload X25.here hx rfl (hb hby d4_42) rfl rfl ?_
    refine XS.iloadN X25.here hx rfl (hb hby d4_44) rfl ?_
    show Steps p.tables e below (T25.setTop (mkF m 45 #[.val (.ref o), .val (.ref a), .val (.int (0 : Int32)), .val (.int (Int32.ofNat n)), .val .null, .val (.ref b25)] [(.int (Int32.ofNat n)), (.ref b25), (.ref o)])) _
    refine st26 _ ?_
    show Steps p.tables e below (T26.setTop (mkF m 48 #[.val (.ref o), .val (.ref a), .val (.int (0 : Int32)), .val (.int (Int32.ofNat n)), .val .null, .val (.ref b25)] [(.int (0 : Int32)), (.ref o)])) _
    refine st27 _ ?_
    refine XS.aloadN X27.here hx rfl (hb hby d4_51) rfl rfl ?_
    refine XS.aload X27.here hx rfl (hb hby d4_52) rfl rfl ?_
    show Steps p.tables e below (T27.setTop (mkF m 54 #[.val (.ref o), .val (.ref a), .val (.int (0 : Int32)), .val (.int (Int32.ofNat n)), .val .null, .val (.ref b25)] [(.ref b25), (.ref o)])) _
    refine st28 _ ?_
    show Steps p.tables e below (T28.setTop (mkF m 57 #[.val (.ref o), .val (.ref a), .val (.int (0 : Int32)), .val (.int (Int32.ofNat n)), .val .null, .val (.ref b25)] [])) _
    exact X28.returnOut hx Bd.returns (hb hby d4_57) hr
  · show QS Z o n g h0 n0 _ T28.heap _
    exact ⟨rfl, N28, by rw [e28]; exact K28, by rw [e28]; exact ⟨EO_e28, b25, Fw28, (Or.inl ⟨Fw27_e28, A25_e28, fun j hj => smB (hch j hj) (hsm j hj)⟩)⟩⟩
set_option maxRecDepth 65536 in
set_option maxHeartbeats 40000000 in
theorem rmI4B (l : Launch) (Z : State) (a0 : Array Value) (hw : ∀ d ∈ tables_1, d.before a0 Z = true) (ws : List Jvm.Cond) (o a : Addr) (n : Nat) (g : Nat → Int32) (k : Nat)  (h0 : Heap) (n0 : Nat) (Z0 : n0 ≤ h0.size) (hn : n ≤ 200) (hp : 0 < n) (O : Old Z n0 h0) (SK : StrSta Z) (FA : AF Z h0 a .char n (Ca g)) (hch : ∀ j, j < n → isCh (g j)) (EO : Exa Z h0 o "java/lang/String") (FV : Fld Z h0 o "java/lang/String" "value" "[B" .null) (FC : Fld Z h0 o "java/lang/String" "coder" "B" (.int (0 : Int32))) (g_o : n0 ≤ o) (hao : a ≠ o) (hk : k < n) (hbg : (255 : Int32) < g k) (hsm : ∀ j, j < k → ¬ ((255 : Int32) < g j))  :
    MetFree l (⟨"java/lang/String", "<init>", "([CIILjava/lang/Void;)V"⟩ : MethodName) (head1 (Jvm.Cond.code (⟨"java/lang/String", "<init>", "([CIILjava/lang/Void;)V"⟩ : MethodName) jdk_42_method_149_code 6 none :: ws) ({ frames := 4, cells := 2, slots := 600, locals := 100 } : Room)) (fun aa_ U_ => aa_ = #[(.ref o), (.ref a), (.int (0 : Int32)), (.int (Int32.ofNat n)), .null] ∧ Z.Warmed39 U_.vm ∧ U_.heap = h0) (fun _ _ _ _ _ => True) (fun _ U_ o_ V_ => ∃ v_ L_, o_ = .returned v_ ∧ QS Z o n g h0 n0 v_ V_.heap L_ ∧ FrameEnd U_ o_ V_ L_ ({ frames := 4, cells := 2, slots := 600, locals := 100 } : Room).cells ({ frames := 4, cells := 2, slots := 600, locals := 100 } : Room).slots) := by
  refine MetFree.of_bodySF (plainFor_of_name pn_4) hisR ?_
  intro p e s m args below meth c s₁ Bd hml0 hP hK
  obtain ⟨rfl, hZ, hh⟩ := hP
  have hx := Bd.exec
  have hby := Bd.bytes
  have hml : c.maxLocals = 6 := hml0
  have hown : s.vm.findClass "java/lang/String" = some m.cls := findClass_of_methodNamed Bd.named
  have hnm := (name_of_methodNamed Bd.named Bd.method).1
  have X0 : Stand p l e ({ frames := 4, cells := 2, slots := 600, locals := 100 } : Room) s m #[(.ref o), (.ref a), (.int (0 : Int32)), (.int (Int32.ofNat n)), .null] below meth c s₁ [] 0 0 := Stand.of_body Bd
  have e0 : s₁.heap = h0 := by rw [← hh, Bd.state]; rfl
  have N0 := Fr.nil n0
  have pre0 : ∀ zz, Steps p.tables e below (s₁.setTop (mkF m 0 #[.val (.ref o), .val (.ref a), .val (.int (0 : Int32)), .val (.int (Int32.ofNat n)), .val .null, .unset] [])) zz → Steps p.tables e below (s₁.setTop (entryFrame m #[(.ref o), (.ref a), (.int (0 : Int32)), (.int (Int32.ofNat n)), .null] 6)) zz := fun zz k => castTop (ef_4 m o a (0 : Int32) (Int32.ofNat n)) k
  obtain ⟨kc, hkc, hcs⟩ := SK.1
  obtain ⟨T29, X29, e29, st29⟩ := initO X0 hx hZ hown (hw _ (List.mem_of_getElem? (i := 19) rfl)) (hw _ (List.mem_of_getElem? (i := 20) rfl)) (hw _ (List.mem_of_getElem? (i := 21) rfl)) e0 (g := (mkF m 1 #[.val (.ref o), .val (.ref a), .val (.int (0 : Int32)), .val (.int (Int32.ofNat n)), .val .null, .unset] [(.ref o)])) rfl (by rw [hml]; rfl) rfl (hb hby d4_1) (by decide) (W := 0) (by show 2 * 0 + _ ≤ _; exact Nat.le_of_eq rfl) (by decide)
  obtain ⟨T30, X30, e30, st30⟩ := getS2 X29 hx hZ hown (host := "") (Or.inl (hw _ (List.mem_of_getElem? (i := 22) rfl))) Via.refl e29 (Sta.ext O.2 hcs) (g := (mkF m 27 #[.val (.ref o), .val (.ref a), .val (.int (0 : Int32)), .val (.int (Int32.ofNat n)), .val .null, .unset] [])) rfl (hb hby d4_27)
  obtain ⟨_, _, ⟨T31, L31, k31, n31⟩, -, X31, ⟨Lc31, hQ31, l31, y31, z31⟩, st31⟩ := Jvm.LawKit.callS X30 hx (y := (⟨"java/lang/StringUTF16", "compress", "([CII)[B"⟩ : MethodName)) hown (mvT hZ (hw _ (List.mem_of_getElem? (i := 23) rfl))) (mvT hZ (hw _ (List.mem_of_getElem? (i := 24) rfl))) (mvT hZ (hw _ (List.mem_of_getElem? (i := 25) rfl))) (mvT hZ (hw _ (List.mem_of_getElem? (i := 26) rfl))) (by decide) (backOf (W := 0) (rmC3B l Z a0 hw [] a n g k h0 n0 Z0 hn O SK FA hch hk hbg hsm) hZ (hw _ (List.mem_of_getElem? (i := 26) rfl)) (hw _ (List.mem_of_getElem? (i := 25) rfl)) (by decide) (by decide)) (g := (mkF m 36 #[.val (.ref o), .val (.ref a), .val (.int (0 : Int32)), .val (.int (Int32.ofNat n)), .val .null, .unset] [(.int (Int32.ofNat n)), (.int (0 : Int32)), (.ref a)])) rfl (by rw [hml]; rfl) (argsL := [(.ref a), (.int (0 : Int32)), (.int (Int32.ofNat n))]) (rest := []) (lenOf pd_5 rfl) rfl (by show 2 * 0 + _ ≤ _; exact Nat.le_of_eq rfl) (hb hby d4_36) (fun _ _ => ⟨rfl, e30, (by decide : 0 + 2 ≤ _), (by decide : 0 + 600 ≤ _)⟩)
  dsimp only [Pt.U, Pt.locs, Pt.cells, Pt.slots] at X31 l31 y31 z31 st31 hQ31
  subst l31 y31 z31
  obtain ⟨b31, rfl, N31q, K31, zq31, A31⟩ := hQ31
  have N31 := Fr.app N0 N31q
  have ne_a_b31 : a ≠ b31 := Nat.ne_of_lt (Nat.lt_of_lt_of_le FA.lt zq31)
  have ne_o_b31 : o ≠ b31 := Nat.ne_of_lt (Nat.lt_of_lt_of_le EO.lt zq31)
  have g_b31 : n0 ≤ b31 := Nat.le_trans Z0 zq31
  have sz_b31 : h0.size ≤ b31 := Nat.le_trans (Keep.refl h0 [o]).1 zq31
  have EO_e31 := EO.keep K31
  have FV_e31 := FV.keep K31 List.not_mem_nil
  have FC_e31 := FC.keep K31 List.not_mem_nil
  have FA_e31 := FA.keep K31 List.not_mem_nil
  have KK31 := (Keep.refl h0 [o]).trans K31 (fun x r => absurd r List.not_mem_nil)
  have Z31 : n0 ≤ T31.heap.size := Nat.le_trans Z0 K31.1
  have O31 := O.keep K31 all0'
  obtain ⟨_, _, ⟨T32, L32, k32, n32⟩, -, X32, ⟨Lc32, hQ32, l32, y32, z32⟩, st32⟩ := Jvm.LawKit.callS X31 hx (y := (⟨"java/lang/StringUTF16", "coderFromArrayLen", "([BI)B"⟩ : MethodName)) hown (mvT hZ (hw _ (List.mem_of_getElem? (i := 31) rfl))) (mvT hZ (hw _ (List.mem_of_getElem? (i := 32) rfl))) (mvT hZ (hw _ (List.mem_of_getElem? (i := 25) rfl))) (mvT hZ (hw _ (List.mem_of_getElem? (i := 33) rfl))) (by decide) (backOf (W := 1) (rmCOB l Z a0 hw [] b31 n (Ub g) T31.heap n0 Z31 hn hp A31) hZ (hw _ (List.mem_of_getElem? (i := 33) rfl)) (hw _ (List.mem_of_getElem? (i := 25) rfl)) (by decide) (by decide)) (g := (mkF m 45 #[.val (.ref o), .val (.ref a), .val (.int (0 : Int32)), .val (.int (Int32.ofNat n)), .val .null, .val (.ref b31)] [(.int (Int32.ofNat n)), (.ref b31), (.ref o)])) rfl (by rw [hml]; rfl) (argsL := [(.ref b31), (.int (Int32.ofNat n))]) (rest := [(.ref o)]) (lenOf pd_7 rfl) rfl (by show 2 * 0 + _ ≤ _; exact Nat.le_of_eq rfl) (hb hby d4_45) (fun _ _ => ⟨rfl, rfl, (by decide : 2 + 0 ≤ _), (by decide : 600 + 0 ≤ _)⟩)
  dsimp only [Pt.U, Pt.locs, Pt.cells, Pt.slots] at X32 l32 y32 z32 st32 hQ32
  subst l32 y32 z32
  obtain ⟨rfl, N32q, e32⟩ := hQ32
  have N32 := Fr.app N31 N32q
  obtain ⟨T33, h33, X33, e33, W33, st33⟩ := putFN X32 hx hZ hown (hw _ (List.mem_of_getElem? (i := 34) rfl)) Via.refl e32 FC_e31 EO_e31 (Or.inr ⟨(hw _ (List.mem_of_getElem? (i := 35) rfl)), rfl, hnm⟩) (hw _ (List.mem_of_getElem? (i := 10) rfl)) (ty := .byte) (v' := (.int (1 : Int32))) (by decide) rfl (by decide) (g := (mkF m 48 #[.val (.ref o), .val (.ref a), .val (.int (0 : Int32)), .val (.int (Int32.ofNat n)), .val .null, .val (.ref b31)] [(.int (1 : Int32)), (.ref o)])) rfl rfl (hb hby d4_48)
  have Fw33 := FC_e31.same W33
  have EO_e33 := EO_e31.wr W33
  have FV_e33 := FV_e31.other W33 (Or.inr (slot_ne (Or.inr (hw _ (List.mem_of_getElem? (i := 37) rfl))) (Or.inr (hw _ (List.mem_of_getElem? (i := 35) rfl))) (by decide) (t := (.array .byte)) (t' := .byte) (by decide) (by decide)))
  have FA_e33 := FA_e31.other W33 hao
  have A31_e33 := A31.other W33 (Ne.symm ne_o_b31)
  have N33 := Fr.snoc X33 N32 g_o
  have K33 := KK31.wr W33 (Or.inl (List.mem_of_getElem? (i := 0) rfl))
  have Z33 : n0 ≤ h33.size := Nat.le_trans Z31 (Keep.of_wr W33).1
  have O33 := O31.wr W33 g_o
  obtain ⟨T34, h34, X34, e34, W34, st34⟩ := putF X33 hx hZ hown (host := "") (Or.inl (hw _ (List.mem_of_getElem? (i := 36) rfl))) Via.refl e33 FV_e33 EO_e33 (Or.inr ⟨(hw _ (List.mem_of_getElem? (i := 37) rfl)), rfl, hnm⟩) (hw _ (List.mem_of_getElem? (i := 10) rfl)) (ty := (.array .byte)) (by decide) rfl rfl (g := (mkF m 54 #[.val (.ref o), .val (.ref a), .val (.int (0 : Int32)), .val (.int (Int32.ofNat n)), .val .null, .val (.ref b31)] [(.ref b31), (.ref o)])) rfl rfl (hb hby d4_54)
  have Fw34 := FV_e33.same W34
  have EO_e34 := EO_e33.wr W34
  have Fw33_e34 := Fw33.other W34 (Or.inr (slot_ne (Or.inr (hw _ (List.mem_of_getElem? (i := 35) rfl))) (Or.inr (hw _ (List.mem_of_getElem? (i := 37) rfl))) (by decide) (t := .byte) (t' := (.array .byte)) (by decide) (by decide)))
  have FA_e34 := FA_e33.other W34 hao
  have A31_e34 := A31_e33.other W34 (Ne.symm ne_o_b31)
  have N34 := Fr.snoc X34 N33 g_o
  have K34 := K33.wr W34 (Or.inl (List.mem_of_getElem? (i := 0) rfl))
  have Z34 : n0 ≤ h34.size := Nat.le_trans Z33 (Keep.of_wr W34).1
  have O34 := O33.wr W34 g_o
  obtain ⟨fs, hr, hrun, hended, hW, hsame⟩ := X34.leave (v := none) (fun _ => rfl)
  refine ⟨_, _, pre0 _ ?_, hrun, hended, _, _, rfl, ?_, ⟨_, rfl⟩, hW, hsame.mono (by decide) (by decide)⟩
  · show Steps p.tables e below (s₁.setTop (mkF m 0 #[.val (.ref o), .val (.ref a), .val (.int (0 : Int32)), .val (.int (Int32.ofNat n)), .val .null, .unset] [])) _
    refine XS.aloadN X0.here hx rfl (hb hby d4_0) rfl rfl ?_
    show Steps p.tables e below (s₁.setTop (mkF m 1 #[.val (.ref o), .val (.ref a), .val (.int (0 : Int32)), .val (.int (Int32.ofNat n)), .val .null, .unset] [(.ref o)])) _
    refine st29 _ ?_
    refine XS.iloadN X29.here hx rfl (hb hby d4_4) rfl ?_
    refine XS.ifYes X29.here hx rfl (pc0 := 5) (pc' := 27) rfl (hb hby d4_5) rfl ((if0 _ _).trans (feq (fun q => absurd (congrArg Int32.toInt q) (by rw [Int32.toInt_ofNat_small (by omega)]; intro r; change (n : Int) = 0 at r; omega))).2) (by decide) (by decide) ?_
    show Steps p.tables e below (T29.setTop (mkF m 27 #[.val (.ref o), .val (.ref a), .val (.int (0 : Int32)), .val (.int (Int32.ofNat n)), .val .null, .unset] [])) _
    refine st30 _ ?_
    refine XS.ifNo X30.here hx rfl (hb hby d4_30) rfl ((if0 _ _).trans (feq hkc).1) ?_
    refine XS.aloadN X30.here hx rfl (hb hby d4_33) rfl rfl ?_
    refine XS.iloadN X30.here hx rfl (hb hby d4_34) rfl ?_
    refine XS.iloadN X30.here hx rfl (hb hby d4_35) rfl ?_
    show Steps p.tables e below (T30.setTop (mkF m 36 #[.val (.ref o), .val (.ref a), .val (.int (0 : Int32)), .val (.int (Int32.ofNat n)), .val .null, .unset] [(.int (Int32.ofNat n)), (.int (0 : Int32)), (.ref a)])) _
    refine st31 _ ?_
    refine XS.astore X31.here hx rfl (hb hby d4_39) rfl rfl (l' := #[.val (.ref o), .val (.ref a), .val (.int (0 : Int32)), .val (.int (Int32.ofNat n)), .val .null, .val (.ref b31)]) rfl ?_
    refine XS.aloadN X31.here hx rfl (hb hby d4_41) rfl rfl ?_
    refine XS.aload X31.here hx rfl (hb hby d4_42) rfl rfl ?_
    refine XS.iloadN X31.here hx rfl (hb hby d4_44) rfl ?_
    show Steps p.tables e below (T31.setTop (mkF m 45 #[.val (.ref o), .val (.ref a), .val (.int (0 : Int32)), .val (.int (Int32.ofNat n)), .val .null, .val (.ref b31)] [(.int (Int32.ofNat n)), (.ref b31), (.ref o)])) _
    refine st32 _ ?_
    show Steps p.tables e below (T32.setTop (mkF m 48 #[.val (.ref o), .val (.ref a), .val (.int (0 : Int32)), .val (.int (Int32.ofNat n)), .val .null, .val (.ref b31)] [(.int (1 : Int32)), (.ref o)])) _
    refine st33 _ ?_
    refine XS.aloadN X33.here hx rfl (hb hby d4_51) rfl rfl ?_
    refine XS.aload X33.here hx rfl (hb hby d4_52) rfl rfl ?_
    show Steps p.tables e below (T33.setTop (mkF m 54 #[.val (.ref o), .val (.ref a), .val (.int (0 : Int32)), .val (.int (Int32.ofNat n)), .val .null, .val (.ref b31)] [(.ref b31), (.ref o)])) _
    refine st34 _ ?_
    show Steps p.tables e below (T34.setTop (mkF m 57 #[.val (.ref o), .val (.ref a), .val (.int (0 : Int32)), .val (.int (Int32.ofNat n)), .val .null, .val (.ref b31)] [])) _
    exact X34.returnOut hx Bd.returns (hb hby d4_57) hr
  · show QS Z o n g h0 n0 _ T34.heap _
    exact ⟨rfl, N34, by rw [e34]; exact K34, by rw [e34]; exact ⟨EO_e34, b31, Fw34, (Or.inr ⟨Fw33_e34, A31_e34, hch⟩)⟩⟩
set_option maxRecDepth 65536 in
set_option maxHeartbeats 40000000 in
theorem rmI4 (l : Launch) (Z : State) (a0 : Array Value) (hw : ∀ d ∈ tables_1, d.before a0 Z = true) (ws : List Jvm.Cond) (o a : Addr) (n : Nat) (g : Nat → Int32)  (h0 : Heap) (n0 : Nat) (Z0 : n0 ≤ h0.size) (hn : n ≤ 200) (hp : 0 < n) (O : Old Z n0 h0) (SK : StrSta Z) (FA : AF Z h0 a .char n (Ca g)) (hch : ∀ j, j < n → isCh (g j)) (EO : Exa Z h0 o "java/lang/String") (FV : Fld Z h0 o "java/lang/String" "value" "[B" .null) (FC : Fld Z h0 o "java/lang/String" "coder" "B" (.int (0 : Int32))) (g_o : n0 ≤ o) (hao : a ≠ o)  :
    MetFree l (⟨"java/lang/String", "<init>", "([CIILjava/lang/Void;)V"⟩ : MethodName) (head1 (Jvm.Cond.code (⟨"java/lang/String", "<init>", "([CIILjava/lang/Void;)V"⟩ : MethodName) jdk_42_method_149_code 6 none :: ws) ({ frames := 4, cells := 2, slots := 600, locals := 100 } : Room)) (fun aa_ U_ => aa_ = #[(.ref o), (.ref a), (.int (0 : Int32)), (.int (Int32.ofNat n)), .null] ∧ Z.Warmed39 U_.vm ∧ U_.heap = h0) (fun _ _ _ _ _ => True) (fun _ U_ o_ V_ => ∃ v_ L_, o_ = .returned v_ ∧ QS Z o n g h0 n0 v_ V_.heap L_ ∧ FrameEnd U_ o_ V_ L_ ({ frames := 4, cells := 2, slots := 600, locals := 100 } : Room).cells ({ frames := 4, cells := 2, slots := 600, locals := 100 } : Room).slots) := by
  rcases firstBig g n with hs | ⟨k, hk, hbg, hs⟩
  · exact rmI4A l Z a0 hw ws o a n g h0 n0 Z0 hn hp O SK FA hch EO FV FC g_o hao hs
  · exact rmI4B l Z a0 hw ws o a n g k h0 n0 Z0 hn hp O SK FA hch EO FV FC g_o hao hk hbg hs
theorem d3_0 : decode jdk_42_method_3_code 0 = .ok (.aload_n 0, 1) := by decide +kernel
theorem d3_1 : decode jdk_42_method_3_code 1 = .ok (.aload_n 1, 1) := by decide +kernel
theorem d3_2 : decode jdk_42_method_3_code 2 = .ok (.iconst 0, 1) := by decide +kernel
theorem d3_3 : decode jdk_42_method_3_code 3 = .ok (.aload_n 1, 1) := by decide +kernel
theorem d3_4 : decode jdk_42_method_3_code 4 = .ok (.arraylength, 1) := by decide +kernel
theorem d3_5 : decode jdk_42_method_3_code 5 = .ok (.aconst_null, 1) := by decide +kernel
theorem d3_6 : decode jdk_42_method_3_code 6 = .ok (.invokespecial 27, 3) := by decide +kernel
theorem d3_9 : decode jdk_42_method_3_code 9 = .ok (.return_, 1) := by decide +kernel
theorem pn_3 : plainName "java/lang/String" = true := by first | (simp [plainName, overriddenIn]; done) | decide +kernel
theorem ef_3 (m : MethodId) (x0 : Addr) (x1 : Addr) : entryFrame m #[(.ref x0), (.ref x1)] 2 = mkF m 0 #[.val (.ref x0), .val (.ref x1)] [] := by first | (simp [entryFrame, mkF, argsToLocals, Value.category]; done) | rfl
set_option maxRecDepth 65536 in
set_option maxHeartbeats 40000000 in
theorem rmI1 (l : Launch) (Z : State) (a0 : Array Value) (hw : ∀ d ∈ tables_1, d.before a0 Z = true) (ws : List Jvm.Cond) (o a : Addr) (n : Nat) (g : Nat → Int32)  (h0 : Heap) (n0 : Nat) (Z0 : n0 ≤ h0.size) (hn : n ≤ 200) (hp : 0 < n) (O : Old Z n0 h0) (SK : StrSta Z) (FA : AF Z h0 a .char n (Ca g)) (hch : ∀ j, j < n → isCh (g j)) (EO : Exa Z h0 o "java/lang/String") (FV : Fld Z h0 o "java/lang/String" "value" "[B" .null) (FC : Fld Z h0 o "java/lang/String" "coder" "B" (.int (0 : Int32))) (g_o : n0 ≤ o) (hao : a ≠ o)  :
    MetFree l (⟨"java/lang/String", "<init>", "([C)V"⟩ : MethodName) (head1 (Jvm.Cond.code (⟨"java/lang/String", "<init>", "([C)V"⟩ : MethodName) jdk_42_method_3_code 2 none :: ws) ({ frames := 5, cells := 2, slots := 600, locals := 124 } : Room)) (fun aa_ U_ => aa_ = #[(.ref o), (.ref a)] ∧ Z.Warmed39 U_.vm ∧ U_.heap = h0) (fun _ _ _ _ _ => True) (fun _ U_ o_ V_ => ∃ v_ L_, o_ = .returned v_ ∧ QS Z o n g h0 n0 v_ V_.heap L_ ∧ FrameEnd U_ o_ V_ L_ ({ frames := 5, cells := 2, slots := 600, locals := 124 } : Room).cells ({ frames := 5, cells := 2, slots := 600, locals := 124 } : Room).slots) := by
  refine MetFree.of_bodySF (plainFor_of_name pn_3) hisR ?_
  intro p e s m args below meth c s₁ Bd hml0 hP hK
  obtain ⟨rfl, hZ, hh⟩ := hP
  have hx := Bd.exec
  have hby := Bd.bytes
  have hml : c.maxLocals = 2 := hml0
  have hown : s.vm.findClass "java/lang/String" = some m.cls := findClass_of_methodNamed Bd.named
  have hnm := (name_of_methodNamed Bd.named Bd.method).1
  have X0 : Stand p l e ({ frames := 5, cells := 2, slots := 600, locals := 124 } : Room) s m #[(.ref o), (.ref a)] below meth c s₁ [] 0 0 := Stand.of_body Bd
  have e0 : s₁.heap = h0 := by rw [← hh, Bd.state]; rfl
  have N0 := Fr.nil n0
  have pre0 : ∀ zz, Steps p.tables e below (s₁.setTop (mkF m 0 #[.val (.ref o), .val (.ref a)] [])) zz → Steps p.tables e below (s₁.setTop (entryFrame m #[(.ref o), (.ref a)] 2)) zz := fun zz k => castTop (ef_3 m o a) k
  obtain ⟨_, _, ⟨T35, L35, k35, n35⟩, -, X35, ⟨Lc35, hQ35, l35, y35, z35⟩, st35⟩ := X0.specialBack hx (y := (⟨"java/lang/String", "<init>", "([CIILjava/lang/Void;)V"⟩ : MethodName)) rfl hown (mvT hZ (hw _ (List.mem_of_getElem? (i := 15) rfl))) (mvT hZ (hw _ (List.mem_of_getElem? (i := 16) rfl))) (mvT hZ (hw _ (List.mem_of_getElem? (i := 18) rfl))) (by decide) (backOf (W := 0) (rmI4 l Z a0 hw [] o a n g h0 n0 Z0 hn hp O SK FA hch EO FV FC g_o hao) hZ (hw _ (List.mem_of_getElem? (i := 18) rfl)) (hw _ (List.mem_of_getElem? (i := 11) rfl)) (by decide) (by decide)) (g := (mkF m 6 #[.val (.ref o), .val (.ref a)] [.null, (.int (Int32.ofNat n)), (.int (0 : Int32)), (.ref a), (.ref o)])) rfl (by rw [hml]; rfl) (Steps.refl _) (a := o) (argsL := [(.ref a), (.int (0 : Int32)), (.int (Int32.ofNat n)), .null]) (rest := []) (lenOf pd_3 rfl) rfl (by show 2 * 0 + _ ≤ _; exact Nat.le_of_eq rfl) (hb hby d3_6) (fun _ _ => ⟨rfl, e0, (by decide : 0 + 2 ≤ _), (by decide : 0 + 600 ≤ _)⟩)
  dsimp only [Pt.U, Pt.locs, Pt.cells, Pt.slots] at X35 l35 y35 z35 st35 hQ35
  subst l35 y35 z35
  obtain ⟨rfl, N35q, K35, S35⟩ := hQ35
  have N35 := Fr.app N0 N35q
  have EO_e35 := EO.keep K35
  have FA_e35 := FA.keep K35 (notin1 hao)
  have KK35 := (Keep.refl h0 [o]).trans K35 (fun x r => by cases List.mem_singleton.mp r; exact (Or.inl (List.mem_of_getElem? (i := 0) rfl)))
  have Z35 : n0 ≤ T35.heap.size := Nat.le_trans Z0 K35.1
  have O35 := O.keep K35 (all1 g_o)
  obtain ⟨fs, hr, hrun, hended, hW, hsame⟩ := X35.leave (v := none) (fun _ => rfl)
  refine ⟨_, _, pre0 _ ?_, hrun, hended, _, _, rfl, ?_, ⟨_, rfl⟩, hW, hsame.mono (by decide) (by decide)⟩
  · show Steps p.tables e below (s₁.setTop (mkF m 0 #[.val (.ref o), .val (.ref a)] [])) _
    refine XS.aloadN X0.here hx rfl (hb hby d3_0) rfl rfl ?_
    refine XS.aloadN X0.here hx rfl (hb hby d3_1) rfl rfl ?_
    refine XS.iconst X0.here hx rfl (hb hby d3_2) ?_
    refine XS.aloadN X0.here hx rfl (hb hby d3_3) rfl rfl ?_
    show Steps p.tables e below (s₁.setTop (mkF m 4 #[.val (.ref o), .val (.ref a)] [(.ref a), (.int (0 : Int32)), (.ref a), (.ref o)])) _
    refine lenA X0 hx hZ e0 FA (g := (mkF m 4 #[.val (.ref o), .val (.ref a)] [(.ref a), (.int (0 : Int32)), (.ref a), (.ref o)])) rfl rfl (hb hby d3_4) ?_
    refine XS.aconstNull X0.here hx rfl (hb hby d3_5) ?_
    show Steps p.tables e below (s₁.setTop (mkF m 6 #[.val (.ref o), .val (.ref a)] [.null, (.int (Int32.ofNat n)), (.int (0 : Int32)), (.ref a), (.ref o)])) _
    refine st35.trans ?_
    show Steps p.tables e below (T35.setTop (mkF m 9 #[.val (.ref o), .val (.ref a)] [])) _
    exact X35.returnOut hx Bd.returns (hb hby d3_9) hr
  · show QS Z o n g h0 n0 _ T35.heap _
    exact ⟨rfl, N35, KK35, S35⟩
theorem d14_0 : decode jdk_42_method_152_code 0 = .ok (.getstatic 38, 3) := by decide +kernel
theorem d14_3 : decode jdk_42_method_152_code 3 = .ok (.ifCond .eq 10, 3) := by decide +kernel
theorem d14_6 : decode jdk_42_method_152_code 6 = .ok (.aload_n 0, 1) := by decide +kernel
theorem d14_7 : decode jdk_42_method_152_code 7 = .ok (.getfield 15, 3) := by decide +kernel
theorem d14_10 : decode jdk_42_method_152_code 10 = .ok (.goto 4, 3) := by decide +kernel
theorem d14_13 : decode jdk_42_method_152_code 13 = .ok (.iconst 1, 1) := by decide +kernel
theorem d14_14 : decode jdk_42_method_152_code 14 = .ok (.ireturn, 1) := by decide +kernel
theorem pn_14 : plainName "java/lang/String" = true := by first | (simp [plainName, overriddenIn]; done) | decide +kernel
theorem ef_14 (m : MethodId) (x0 : Addr) : entryFrame m #[(.ref x0)] 1 = mkF m 0 #[.val (.ref x0)] [] := by first | (simp [entryFrame, mkF, argsToLocals, Value.category]; done) | rfl
set_option maxRecDepth 65536 in
set_option maxHeartbeats 40000000 in
theorem rmCD0 (l : Launch) (Z : State) (a0 : Array Value) (hw : ∀ d ∈ tables_1, d.before a0 Z = true) (ws : List Jvm.Cond) (o : Addr)  (h0 : Heap) (n0 : Nat) (Z0 : n0 ≤ h0.size) (O : Old Z n0 h0) (SK : StrSta Z) (EO : Exa Z h0 o "java/lang/String") (FC : Fld Z h0 o "java/lang/String" "coder" "B" (.int (0 : Int32)))  :
    MetFree l (⟨"java/lang/String", "coder", "()B"⟩ : MethodName) (head1 (Jvm.Cond.code (⟨"java/lang/String", "coder", "()B"⟩ : MethodName) jdk_42_method_152_code 1 (some .byte) :: ws) ({ frames := 0, cells := 0, slots := 0, locals := 0 } : Room)) (fun aa_ U_ => aa_ = #[(.ref o)] ∧ Z.Warmed39 U_.vm ∧ U_.heap = h0) (fun _ _ _ _ _ => True) (fun _ U_ o_ V_ => ∃ v_ L_, o_ = .returned v_ ∧ QI (0 : Int32) h0 n0 v_ V_.heap L_ ∧ FrameEnd U_ o_ V_ L_ ({ frames := 0, cells := 0, slots := 0, locals := 0 } : Room).cells ({ frames := 0, cells := 0, slots := 0, locals := 0 } : Room).slots) := by
  refine MetFree.of_bodySF (plainFor_of_name pn_14) hisR ?_
  intro p e s m args below meth c s₁ Bd hml0 hP hK
  obtain ⟨rfl, hZ, hh⟩ := hP
  have hx := Bd.exec
  have hby := Bd.bytes
  have hml : c.maxLocals = 1 := hml0
  have hown : s.vm.findClass "java/lang/String" = some m.cls := findClass_of_methodNamed Bd.named
  have hnm := (name_of_methodNamed Bd.named Bd.method).1
  have X0 : Stand p l e ({ frames := 0, cells := 0, slots := 0, locals := 0 } : Room) s m #[(.ref o)] below meth c s₁ [] 0 0 := Stand.of_body Bd
  have e0 : s₁.heap = h0 := by rw [← hh, Bd.state]; rfl
  have N0 := Fr.nil n0
  have pre0 : ∀ zz, Steps p.tables e below (s₁.setTop (mkF m 0 #[.val (.ref o)] [])) zz → Steps p.tables e below (s₁.setTop (entryFrame m #[(.ref o)] 1)) zz := fun zz k => castTop (ef_14 m o) k
  obtain ⟨kc, hkc, hcs⟩ := SK.1
  obtain ⟨T36, X36, e36, st36⟩ := getS2 X0 hx hZ hown (host := "") (Or.inl (hw _ (List.mem_of_getElem? (i := 22) rfl))) Via.refl e0 (Sta.ext O.2 hcs) (g := (mkF m 0 #[.val (.ref o)] [])) rfl (hb hby d14_0)
  obtain ⟨T37, X37, e37, st37⟩ := getF X36 hx hZ hown (host := "") (Or.inl (hw _ (List.mem_of_getElem? (i := 34) rfl))) Via.refl e36 FC (g := (mkF m 7 #[.val (.ref o)] [(.ref o)])) rfl rfl (hb hby d14_7)
  obtain ⟨fs, hr, hrun, hended, hW, hsame⟩ := X37.leave (v := some (.int (0 : Int32))) (fun h => by rw [Bd.returns] at h; cases h)
  refine ⟨_, _, pre0 _ ?_, hrun, hended, _, _, rfl, ?_, ⟨_, rfl⟩, hW, hsame.mono (by decide) (by decide)⟩
  · show Steps p.tables e below (s₁.setTop (mkF m 0 #[.val (.ref o)] [])) _
    refine st36 _ ?_
    refine XS.ifNo X36.here hx rfl (hb hby d14_3) rfl ((if0 _ _).trans (feq hkc).1) ?_
    refine XS.aloadN X36.here hx rfl (hb hby d14_6) rfl rfl ?_
    show Steps p.tables e below (T36.setTop (mkF m 7 #[.val (.ref o)] [(.ref o)])) _
    refine st37 _ ?_
    refine XS.goto X37.here hx rfl (pc0 := 10) (pc' := 14) rfl (hb hby d14_10) (by decide) (by decide) ?_
    show Steps p.tables e below (T37.setTop (mkF m 14 #[.val (.ref o)] [(.int (0 : Int32))])) _
    exact retN X37 hx (t := .byte) Bd.returns (by simp) (hb hby d14_14) hr
  · show QI (0 : Int32) h0 n0 _ T37.heap _
    rw [e37]
    exact ⟨rfl, N0, rfl⟩
set_option maxRecDepth 65536 in
set_option maxHeartbeats 40000000 in
theorem rmCD1 (l : Launch) (Z : State) (a0 : Array Value) (hw : ∀ d ∈ tables_1, d.before a0 Z = true) (ws : List Jvm.Cond) (o : Addr)  (h0 : Heap) (n0 : Nat) (Z0 : n0 ≤ h0.size) (O : Old Z n0 h0) (SK : StrSta Z) (EO : Exa Z h0 o "java/lang/String") (FC : Fld Z h0 o "java/lang/String" "coder" "B" (.int (1 : Int32)))  :
    MetFree l (⟨"java/lang/String", "coder", "()B"⟩ : MethodName) (head1 (Jvm.Cond.code (⟨"java/lang/String", "coder", "()B"⟩ : MethodName) jdk_42_method_152_code 1 (some .byte) :: ws) ({ frames := 0, cells := 0, slots := 0, locals := 0 } : Room)) (fun aa_ U_ => aa_ = #[(.ref o)] ∧ Z.Warmed39 U_.vm ∧ U_.heap = h0) (fun _ _ _ _ _ => True) (fun _ U_ o_ V_ => ∃ v_ L_, o_ = .returned v_ ∧ QI (1 : Int32) h0 n0 v_ V_.heap L_ ∧ FrameEnd U_ o_ V_ L_ ({ frames := 0, cells := 0, slots := 0, locals := 0 } : Room).cells ({ frames := 0, cells := 0, slots := 0, locals := 0 } : Room).slots) := by
  refine MetFree.of_bodySF (plainFor_of_name pn_14) hisR ?_
  intro p e s m args below meth c s₁ Bd hml0 hP hK
  obtain ⟨rfl, hZ, hh⟩ := hP
  have hx := Bd.exec
  have hby := Bd.bytes
  have hml : c.maxLocals = 1 := hml0
  have hown : s.vm.findClass "java/lang/String" = some m.cls := findClass_of_methodNamed Bd.named
  have hnm := (name_of_methodNamed Bd.named Bd.method).1
  have X0 : Stand p l e ({ frames := 0, cells := 0, slots := 0, locals := 0 } : Room) s m #[(.ref o)] below meth c s₁ [] 0 0 := Stand.of_body Bd
  have e0 : s₁.heap = h0 := by rw [← hh, Bd.state]; rfl
  have N0 := Fr.nil n0
  have pre0 : ∀ zz, Steps p.tables e below (s₁.setTop (mkF m 0 #[.val (.ref o)] [])) zz → Steps p.tables e below (s₁.setTop (entryFrame m #[(.ref o)] 1)) zz := fun zz k => castTop (ef_14 m o) k
  obtain ⟨kc, hkc, hcs⟩ := SK.1
  obtain ⟨T38, X38, e38, st38⟩ := getS2 X0 hx hZ hown (host := "") (Or.inl (hw _ (List.mem_of_getElem? (i := 22) rfl))) Via.refl e0 (Sta.ext O.2 hcs) (g := (mkF m 0 #[.val (.ref o)] [])) rfl (hb hby d14_0)
  obtain ⟨T39, X39, e39, st39⟩ := getF X38 hx hZ hown (host := "") (Or.inl (hw _ (List.mem_of_getElem? (i := 34) rfl))) Via.refl e38 FC (g := (mkF m 7 #[.val (.ref o)] [(.ref o)])) rfl rfl (hb hby d14_7)
  obtain ⟨fs, hr, hrun, hended, hW, hsame⟩ := X39.leave (v := some (.int (1 : Int32))) (fun h => by rw [Bd.returns] at h; cases h)
  refine ⟨_, _, pre0 _ ?_, hrun, hended, _, _, rfl, ?_, ⟨_, rfl⟩, hW, hsame.mono (by decide) (by decide)⟩
  · show Steps p.tables e below (s₁.setTop (mkF m 0 #[.val (.ref o)] [])) _
    refine st38 _ ?_
    refine XS.ifNo X38.here hx rfl (hb hby d14_3) rfl ((if0 _ _).trans (feq hkc).1) ?_
    refine XS.aloadN X38.here hx rfl (hb hby d14_6) rfl rfl ?_
    show Steps p.tables e below (T38.setTop (mkF m 7 #[.val (.ref o)] [(.ref o)])) _
    refine st39 _ ?_
    refine XS.goto X39.here hx rfl (pc0 := 10) (pc' := 14) rfl (hb hby d14_10) (by decide) (by decide) ?_
    show Steps p.tables e below (T39.setTop (mkF m 14 #[.val (.ref o)] [(.int (1 : Int32))])) _
    exact retN X39 hx (t := .byte) Bd.returns (by simp) (hb hby d14_14) hr
  · show QI (1 : Int32) h0 n0 _ T39.heap _
    rw [e39]
    exact ⟨rfl, N0, rfl⟩
theorem d16_0 : decode jdk_42_method_154_code 0 = .ok (.getstatic 38, 3) := by decide +kernel
theorem d16_3 : decode jdk_42_method_154_code 3 = .ok (.ifCond .eq 14, 3) := by decide +kernel
theorem d16_6 : decode jdk_42_method_154_code 6 = .ok (.aload_n 0, 1) := by decide +kernel
theorem d16_7 : decode jdk_42_method_154_code 7 = .ok (.getfield 15, 3) := by decide +kernel
theorem d16_10 : decode jdk_42_method_154_code 10 = .ok (.ifCond .ne 7, 3) := by decide +kernel
theorem d16_13 : decode jdk_42_method_154_code 13 = .ok (.iconst 1, 1) := by decide +kernel
theorem d16_14 : decode jdk_42_method_154_code 14 = .ok (.goto 4, 3) := by decide +kernel
theorem d16_17 : decode jdk_42_method_154_code 17 = .ok (.iconst 0, 1) := by decide +kernel
theorem d16_18 : decode jdk_42_method_154_code 18 = .ok (.ireturn, 1) := by decide +kernel
theorem pn_16 : plainName "java/lang/String" = true := by first | (simp [plainName, overriddenIn]; done) | decide +kernel
theorem ef_16 (m : MethodId) (x0 : Addr) : entryFrame m #[(.ref x0)] 1 = mkF m 0 #[.val (.ref x0)] [] := by first | (simp [entryFrame, mkF, argsToLocals, Value.category]; done) | rfl
set_option maxRecDepth 65536 in
set_option maxHeartbeats 40000000 in
theorem rmIL0 (l : Launch) (Z : State) (a0 : Array Value) (hw : ∀ d ∈ tables_1, d.before a0 Z = true) (ws : List Jvm.Cond) (o : Addr)  (h0 : Heap) (n0 : Nat) (Z0 : n0 ≤ h0.size) (O : Old Z n0 h0) (SK : StrSta Z) (EO : Exa Z h0 o "java/lang/String") (FC : Fld Z h0 o "java/lang/String" "coder" "B" (.int (0 : Int32)))  :
    MetFree l (⟨"java/lang/String", "isLatin1", "()Z"⟩ : MethodName) (head1 (Jvm.Cond.code (⟨"java/lang/String", "isLatin1", "()Z"⟩ : MethodName) jdk_42_method_154_code 1 (some .boolean) :: ws) ({ frames := 0, cells := 0, slots := 0, locals := 0 } : Room)) (fun aa_ U_ => aa_ = #[(.ref o)] ∧ Z.Warmed39 U_.vm ∧ U_.heap = h0) (fun _ _ _ _ _ => True) (fun _ U_ o_ V_ => ∃ v_ L_, o_ = .returned v_ ∧ QI (1 : Int32) h0 n0 v_ V_.heap L_ ∧ FrameEnd U_ o_ V_ L_ ({ frames := 0, cells := 0, slots := 0, locals := 0 } : Room).cells ({ frames := 0, cells := 0, slots := 0, locals := 0 } : Room).slots) := by
  refine MetFree.of_bodySF (plainFor_of_name pn_16) hisR ?_
  intro p e s m args below meth c s₁ Bd hml0 hP hK
  obtain ⟨rfl, hZ, hh⟩ := hP
  have hx := Bd.exec
  have hby := Bd.bytes
  have hml : c.maxLocals = 1 := hml0
  have hown : s.vm.findClass "java/lang/String" = some m.cls := findClass_of_methodNamed Bd.named
  have hnm := (name_of_methodNamed Bd.named Bd.method).1
  have X0 : Stand p l e ({ frames := 0, cells := 0, slots := 0, locals := 0 } : Room) s m #[(.ref o)] below meth c s₁ [] 0 0 := Stand.of_body Bd
  have e0 : s₁.heap = h0 := by rw [← hh, Bd.state]; rfl
  have N0 := Fr.nil n0
  have pre0 : ∀ zz, Steps p.tables e below (s₁.setTop (mkF m 0 #[.val (.ref o)] [])) zz → Steps p.tables e below (s₁.setTop (entryFrame m #[(.ref o)] 1)) zz := fun zz k => castTop (ef_16 m o) k
  obtain ⟨kc, hkc, hcs⟩ := SK.1
  obtain ⟨T40, X40, e40, st40⟩ := getS2 X0 hx hZ hown (host := "") (Or.inl (hw _ (List.mem_of_getElem? (i := 22) rfl))) Via.refl e0 (Sta.ext O.2 hcs) (g := (mkF m 0 #[.val (.ref o)] [])) rfl (hb hby d16_0)
  obtain ⟨T41, X41, e41, st41⟩ := getF X40 hx hZ hown (host := "") (Or.inl (hw _ (List.mem_of_getElem? (i := 34) rfl))) Via.refl e40 FC (g := (mkF m 7 #[.val (.ref o)] [(.ref o)])) rfl rfl (hb hby d16_7)
  obtain ⟨fs, hr, hrun, hended, hW, hsame⟩ := X41.leave (v := some (.int (1 : Int32))) (fun h => by rw [Bd.returns] at h; cases h)
  refine ⟨_, _, pre0 _ ?_, hrun, hended, _, _, rfl, ?_, ⟨_, rfl⟩, hW, hsame.mono (by decide) (by decide)⟩
  · show Steps p.tables e below (s₁.setTop (mkF m 0 #[.val (.ref o)] [])) _
    refine st40 _ ?_
    refine XS.ifNo X40.here hx rfl (hb hby d16_3) rfl ((if0 _ _).trans (feq hkc).1) ?_
    refine XS.aloadN X40.here hx rfl (hb hby d16_6) rfl rfl ?_
    show Steps p.tables e below (T40.setTop (mkF m 7 #[.val (.ref o)] [(.ref o)])) _
    refine st41 _ ?_
    refine XS.ifNo X41.here hx rfl (hb hby d16_10) rfl ((if0 _ _).trans (teq (rfl : (0 : Int32) = (0 : Int32))).2) ?_
    refine XS.iconst X41.here hx rfl (hb hby d16_13) ?_
    refine XS.goto X41.here hx rfl (pc0 := 14) (pc' := 18) rfl (hb hby d16_14) (by decide) (by decide) ?_
    show Steps p.tables e below (T41.setTop (mkF m 18 #[.val (.ref o)] [(.int (1 : Int32))])) _
    exact retN X41 hx (t := .boolean) Bd.returns (by simp) (hb hby d16_18) hr
  · show QI (1 : Int32) h0 n0 _ T41.heap _
    rw [e41]
    exact ⟨rfl, N0, rfl⟩
set_option maxRecDepth 65536 in
set_option maxHeartbeats 40000000 in
theorem rmIL1 (l : Launch) (Z : State) (a0 : Array Value) (hw : ∀ d ∈ tables_1, d.before a0 Z = true) (ws : List Jvm.Cond) (o : Addr)  (h0 : Heap) (n0 : Nat) (Z0 : n0 ≤ h0.size) (O : Old Z n0 h0) (SK : StrSta Z) (EO : Exa Z h0 o "java/lang/String") (FC : Fld Z h0 o "java/lang/String" "coder" "B" (.int (1 : Int32)))  :
    MetFree l (⟨"java/lang/String", "isLatin1", "()Z"⟩ : MethodName) (head1 (Jvm.Cond.code (⟨"java/lang/String", "isLatin1", "()Z"⟩ : MethodName) jdk_42_method_154_code 1 (some .boolean) :: ws) ({ frames := 0, cells := 0, slots := 0, locals := 0 } : Room)) (fun aa_ U_ => aa_ = #[(.ref o)] ∧ Z.Warmed39 U_.vm ∧ U_.heap = h0) (fun _ _ _ _ _ => True) (fun _ U_ o_ V_ => ∃ v_ L_, o_ = .returned v_ ∧ QI (0 : Int32) h0 n0 v_ V_.heap L_ ∧ FrameEnd U_ o_ V_ L_ ({ frames := 0, cells := 0, slots := 0, locals := 0 } : Room).cells ({ frames := 0, cells := 0, slots := 0, locals := 0 } : Room).slots) := by
  refine MetFree.of_bodySF (plainFor_of_name pn_16) hisR ?_
  intro p e s m args below meth c s₁ Bd hml0 hP hK
  obtain ⟨rfl, hZ, hh⟩ := hP
  have hx := Bd.exec
  have hby := Bd.bytes
  have hml : c.maxLocals = 1 := hml0
  have hown : s.vm.findClass "java/lang/String" = some m.cls := findClass_of_methodNamed Bd.named
  have hnm := (name_of_methodNamed Bd.named Bd.method).1
  have X0 : Stand p l e ({ frames := 0, cells := 0, slots := 0, locals := 0 } : Room) s m #[(.ref o)] below meth c s₁ [] 0 0 := Stand.of_body Bd
  have e0 : s₁.heap = h0 := by rw [← hh, Bd.state]; rfl
  have N0 := Fr.nil n0
  have pre0 : ∀ zz, Steps p.tables e below (s₁.setTop (mkF m 0 #[.val (.ref o)] [])) zz → Steps p.tables e below (s₁.setTop (entryFrame m #[(.ref o)] 1)) zz := fun zz k => castTop (ef_16 m o) k
  obtain ⟨kc, hkc, hcs⟩ := SK.1
  obtain ⟨T42, X42, e42, st42⟩ := getS2 X0 hx hZ hown (host := "") (Or.inl (hw _ (List.mem_of_getElem? (i := 22) rfl))) Via.refl e0 (Sta.ext O.2 hcs) (g := (mkF m 0 #[.val (.ref o)] [])) rfl (hb hby d16_0)
  obtain ⟨T43, X43, e43, st43⟩ := getF X42 hx hZ hown (host := "") (Or.inl (hw _ (List.mem_of_getElem? (i := 34) rfl))) Via.refl e42 FC (g := (mkF m 7 #[.val (.ref o)] [(.ref o)])) rfl rfl (hb hby d16_7)
  obtain ⟨fs, hr, hrun, hended, hW, hsame⟩ := X43.leave (v := some (.int (0 : Int32))) (fun h => by rw [Bd.returns] at h; cases h)
  refine ⟨_, _, pre0 _ ?_, hrun, hended, _, _, rfl, ?_, ⟨_, rfl⟩, hW, hsame.mono (by decide) (by decide)⟩
  · show Steps p.tables e below (s₁.setTop (mkF m 0 #[.val (.ref o)] [])) _
    refine st42 _ ?_
    refine XS.ifNo X42.here hx rfl (hb hby d16_3) rfl ((if0 _ _).trans (feq hkc).1) ?_
    refine XS.aloadN X42.here hx rfl (hb hby d16_6) rfl rfl ?_
    show Steps p.tables e below (T42.setTop (mkF m 7 #[.val (.ref o)] [(.ref o)])) _
    refine st43 _ ?_
    refine XS.ifYes X43.here hx rfl (pc0 := 10) (pc' := 17) rfl (hb hby d16_10) rfl ((if0 _ _).trans (feq (by decide : ¬ ((1 : Int32) = (0 : Int32)))).2) (by decide) (by decide) ?_
    refine XS.iconst X43.here hx rfl (hb hby d16_17) ?_
    show Steps p.tables e below (T43.setTop (mkF m 18 #[.val (.ref o)] [(.int (0 : Int32))])) _
    exact retN X43 hx (t := .boolean) Bd.returns (by simp) (hb hby d16_18) hr
  · show QI (0 : Int32) h0 n0 _ T43.heap _
    rw [e43]
    exact ⟨rfl, N0, rfl⟩
theorem d13_0 : decode jdk_42_method_54_code 0 = .ok (.aload_n 0, 1) := by decide +kernel
theorem d13_1 : decode jdk_42_method_54_code 1 = .ok (.getfield 9, 3) := by decide +kernel
theorem d13_4 : decode jdk_42_method_54_code 4 = .ok (.arraylength, 1) := by decide +kernel
theorem d13_5 : decode jdk_42_method_54_code 5 = .ok (.aload_n 0, 1) := by decide +kernel
theorem d13_6 : decode jdk_42_method_54_code 6 = .ok (.invokevirtual 335, 3) := by decide +kernel
theorem d13_9 : decode jdk_42_method_54_code 9 = .ok (.ishr, 1) := by decide +kernel
theorem d13_10 : decode jdk_42_method_54_code 10 = .ok (.ireturn, 1) := by decide +kernel
theorem pn_13 : plainName "java/lang/String" = true := by first | (simp [plainName, overriddenIn]; done) | decide +kernel
theorem ef_13 (m : MethodId) (x0 : Addr) : entryFrame m #[(.ref x0)] 1 = mkF m 0 #[.val (.ref x0)] [] := by first | (simp [entryFrame, mkF, argsToLocals, Value.category]; done) | rfl
set_option maxRecDepth 65536 in
set_option maxHeartbeats 40000000 in
theorem rmLEN0 (l : Launch) (Z : State) (a0 : Array Value) (hw : ∀ d ∈ tables_1, d.before a0 Z = true) (ws : List Jvm.Cond) (o b : Addr) (n : Nat) (g : Nat → Int32)  (h0 : Heap) (n0 : Nat) (Z0 : n0 ≤ h0.size) (hn : n ≤ 200) (O : Old Z n0 h0) (SK : StrSta Z) (EO : Exa Z h0 o "java/lang/String") (FC : Fld Z h0 o "java/lang/String" "coder" "B" (.int (0 : Int32))) (FV : Fld Z h0 o "java/lang/String" "value" "[B" (.ref b)) (FB : AF Z h0 b .byte n (Lb g))  :
    MetFree l (⟨"java/lang/String", "length", "()I"⟩ : MethodName) (head1 (Jvm.Cond.code (⟨"java/lang/String", "length", "()I"⟩ : MethodName) jdk_42_method_54_code 1 (some .int) :: ws) ({ frames := 1, cells := 0, slots := 0, locals := 14 } : Room)) (fun aa_ U_ => aa_ = #[(.ref o)] ∧ Z.Warmed39 U_.vm ∧ U_.heap = h0) (fun _ _ _ _ _ => True) (fun _ U_ o_ V_ => ∃ v_ L_, o_ = .returned v_ ∧ QI (Int32.ofNat n) h0 n0 v_ V_.heap L_ ∧ FrameEnd U_ o_ V_ L_ ({ frames := 1, cells := 0, slots := 0, locals := 14 } : Room).cells ({ frames := 1, cells := 0, slots := 0, locals := 14 } : Room).slots) := by
  refine MetFree.of_bodySF (plainFor_of_name pn_13) hisR ?_
  intro p e s m args below meth c s₁ Bd hml0 hP hK
  obtain ⟨rfl, hZ, hh⟩ := hP
  have hx := Bd.exec
  have hby := Bd.bytes
  have hml : c.maxLocals = 1 := hml0
  have hown : s.vm.findClass "java/lang/String" = some m.cls := findClass_of_methodNamed Bd.named
  have hnm := (name_of_methodNamed Bd.named Bd.method).1
  have X0 : Stand p l e ({ frames := 1, cells := 0, slots := 0, locals := 14 } : Room) s m #[(.ref o)] below meth c s₁ [] 0 0 := Stand.of_body Bd
  have e0 : s₁.heap = h0 := by rw [← hh, Bd.state]; rfl
  have N0 := Fr.nil n0
  have pre0 : ∀ zz, Steps p.tables e below (s₁.setTop (mkF m 0 #[.val (.ref o)] [])) zz → Steps p.tables e below (s₁.setTop (entryFrame m #[(.ref o)] 1)) zz := fun zz k => castTop (ef_13 m o) k
  obtain ⟨T44, X44, e44, st44⟩ := getF X0 hx hZ hown (host := "") (Or.inl (hw _ (List.mem_of_getElem? (i := 36) rfl))) Via.refl e0 FV (g := (mkF m 1 #[.val (.ref o)] [(.ref o)])) rfl rfl (hb hby d13_1)
  obtain ⟨cq45, kq45, q45a, q45b, q45c⟩ := isOf hZ e44 EO
  obtain ⟨_, _, ⟨T45, L45, k45, n45⟩, -, X45, ⟨Lc45, hQ45, l45, y45, z45⟩, st45⟩ := X44.virtualBack hx (y := (⟨"java/lang/String", "coder", "()B"⟩ : MethodName)) (z := (⟨"java/lang/String", "coder", "()B"⟩ : MethodName)) hown (mvT hZ (hw _ (List.mem_of_getElem? (i := 62) rfl))) (mvT hZ (hw _ (List.mem_of_getElem? (i := 63) rfl))) (notFace_of_selects (args := #[]) (mvT hZ (hw _ (List.mem_of_getElem? (i := 65) rfl)))) (mvT hZ (hw _ (List.mem_of_getElem? (i := 65) rfl))) (mvT hZ (hw _ (List.mem_of_getElem? (i := 64) rfl))) (by decide) (backOf (W := 1) (rmCD0 l Z a0 hw [] o h0 n0 Z0 O SK EO FC) hZ (hw _ (List.mem_of_getElem? (i := 66) rfl)) (hw _ (List.mem_of_getElem? (i := 11) rfl)) (by decide) (by decide)) q45a q45c (g := (mkF m 6 #[.val (.ref o)] [(.ref o), (.int (Int32.ofNat n))])) rfl (by rw [hml]; rfl) (Steps.refl _) (argsL := []) (rest := [(.int (Int32.ofNat n))]) (lenOf pd_13 rfl) rfl (by show 2 * 0 + _ ≤ _; exact Nat.le_of_eq rfl) (hb hby d13_6) (fun _ _ => ⟨rfl, e44, (by decide : 0 + 0 ≤ _), (by decide : 0 + 0 ≤ _)⟩)
  dsimp only [Pt.U, Pt.locs, Pt.cells, Pt.slots] at X45 l45 y45 z45 st45 hQ45
  subst l45 y45 z45
  obtain ⟨rfl, N45q, e45⟩ := hQ45
  have N45 := Fr.app N0 N45q
  obtain ⟨fs, hr, hrun, hended, hW, hsame⟩ := X45.leave (v := some (.int (Int32.ofNat n))) (fun h => by rw [Bd.returns] at h; cases h)
  refine ⟨_, _, pre0 _ ?_, hrun, hended, _, _, rfl, ?_, ⟨_, rfl⟩, hW, hsame.mono (by decide) (by decide)⟩
  · show Steps p.tables e below (s₁.setTop (mkF m 0 #[.val (.ref o)] [])) _
    refine XS.aloadN X0.here hx rfl (hb hby d13_0) rfl rfl ?_
    show Steps p.tables e below (s₁.setTop (mkF m 1 #[.val (.ref o)] [(.ref o)])) _
    refine st44 _ ?_
    show Steps p.tables e below (T44.setTop (mkF m 4 #[.val (.ref o)] [(.ref b)])) _
    refine lenA X44 hx hZ e44 FB (g := (mkF m 4 #[.val (.ref o)] [(.ref b)])) rfl rfl (hb hby d13_4) ?_
    refine XS.aloadN X44.here hx rfl (hb hby d13_5) rfl rfl ?_
    show Steps p.tables e below (T44.setTop (mkF m 6 #[.val (.ref o)] [(.ref o), (.int (Int32.ofNat n))])) _
    refine st45.trans ?_
    refine XS.ishr X45.here hx rfl (hb hby d13_9) rfl ?_
    show Steps p.tables e below (T45.setTop (mkF m 10 #[.val (.ref o)] [(.int ((Int32.ofNat n) >>> ((0 : Int32) &&& 31)))])) _
    rw [show ((Int32.ofNat n) >>> ((0 : Int32) &&& 31)) = (Int32.ofNat n) from shr0 _]
    show Steps p.tables e below (T45.setTop (mkF m 10 #[.val (.ref o)] [(.int (Int32.ofNat n))])) _
    exact retI X45 hx Bd.returns (hb hby d13_10) hr
  · show QI (Int32.ofNat n) h0 n0 _ T45.heap _
    rw [e45]
    exact ⟨rfl, N45, rfl⟩
set_option maxRecDepth 65536 in
set_option maxHeartbeats 40000000 in
theorem rmLEN1 (l : Launch) (Z : State) (a0 : Array Value) (hw : ∀ d ∈ tables_1, d.before a0 Z = true) (ws : List Jvm.Cond) (o b : Addr) (n : Nat) (g : Nat → Int32)  (h0 : Heap) (n0 : Nat) (Z0 : n0 ≤ h0.size) (hn : n ≤ 200) (O : Old Z n0 h0) (SK : StrSta Z) (EO : Exa Z h0 o "java/lang/String") (FC : Fld Z h0 o "java/lang/String" "coder" "B" (.int (1 : Int32))) (FV : Fld Z h0 o "java/lang/String" "value" "[B" (.ref b)) (FB : AF Z h0 b .byte (2 * n) (Ub g))  :
    MetFree l (⟨"java/lang/String", "length", "()I"⟩ : MethodName) (head1 (Jvm.Cond.code (⟨"java/lang/String", "length", "()I"⟩ : MethodName) jdk_42_method_54_code 1 (some .int) :: ws) ({ frames := 1, cells := 0, slots := 0, locals := 14 } : Room)) (fun aa_ U_ => aa_ = #[(.ref o)] ∧ Z.Warmed39 U_.vm ∧ U_.heap = h0) (fun _ _ _ _ _ => True) (fun _ U_ o_ V_ => ∃ v_ L_, o_ = .returned v_ ∧ QI (Int32.ofNat n) h0 n0 v_ V_.heap L_ ∧ FrameEnd U_ o_ V_ L_ ({ frames := 1, cells := 0, slots := 0, locals := 14 } : Room).cells ({ frames := 1, cells := 0, slots := 0, locals := 14 } : Room).slots) := by
  refine MetFree.of_bodySF (plainFor_of_name pn_13) hisR ?_
  intro p e s m args below meth c s₁ Bd hml0 hP hK
  obtain ⟨rfl, hZ, hh⟩ := hP
  have hx := Bd.exec
  have hby := Bd.bytes
  have hml : c.maxLocals = 1 := hml0
  have hown : s.vm.findClass "java/lang/String" = some m.cls := findClass_of_methodNamed Bd.named
  have hnm := (name_of_methodNamed Bd.named Bd.method).1
  have X0 : Stand p l e ({ frames := 1, cells := 0, slots := 0, locals := 14 } : Room) s m #[(.ref o)] below meth c s₁ [] 0 0 := Stand.of_body Bd
  have e0 : s₁.heap = h0 := by rw [← hh, Bd.state]; rfl
  have N0 := Fr.nil n0
  have pre0 : ∀ zz, Steps p.tables e below (s₁.setTop (mkF m 0 #[.val (.ref o)] [])) zz → Steps p.tables e below (s₁.setTop (entryFrame m #[(.ref o)] 1)) zz := fun zz k => castTop (ef_13 m o) k
  obtain ⟨T46, X46, e46, st46⟩ := getF X0 hx hZ hown (host := "") (Or.inl (hw _ (List.mem_of_getElem? (i := 36) rfl))) Via.refl e0 FV (g := (mkF m 1 #[.val (.ref o)] [(.ref o)])) rfl rfl (hb hby d13_1)
  obtain ⟨cq47, kq47, q47a, q47b, q47c⟩ := isOf hZ e46 EO
  obtain ⟨_, _, ⟨T47, L47, k47, n47⟩, -, X47, ⟨Lc47, hQ47, l47, y47, z47⟩, st47⟩ := X46.virtualBack hx (y := (⟨"java/lang/String", "coder", "()B"⟩ : MethodName)) (z := (⟨"java/lang/String", "coder", "()B"⟩ : MethodName)) hown (mvT hZ (hw _ (List.mem_of_getElem? (i := 62) rfl))) (mvT hZ (hw _ (List.mem_of_getElem? (i := 63) rfl))) (notFace_of_selects (args := #[]) (mvT hZ (hw _ (List.mem_of_getElem? (i := 65) rfl)))) (mvT hZ (hw _ (List.mem_of_getElem? (i := 65) rfl))) (mvT hZ (hw _ (List.mem_of_getElem? (i := 64) rfl))) (by decide) (backOf (W := 1) (rmCD1 l Z a0 hw [] o h0 n0 Z0 O SK EO FC) hZ (hw _ (List.mem_of_getElem? (i := 66) rfl)) (hw _ (List.mem_of_getElem? (i := 11) rfl)) (by decide) (by decide)) q47a q47c (g := (mkF m 6 #[.val (.ref o)] [(.ref o), (.int (Int32.ofNat (2 * n)))])) rfl (by rw [hml]; rfl) (Steps.refl _) (argsL := []) (rest := [(.int (Int32.ofNat (2 * n)))]) (lenOf pd_13 rfl) rfl (by show 2 * 0 + _ ≤ _; exact Nat.le_of_eq rfl) (hb hby d13_6) (fun _ _ => ⟨rfl, e46, (by decide : 0 + 0 ≤ _), (by decide : 0 + 0 ≤ _)⟩)
  dsimp only [Pt.U, Pt.locs, Pt.cells, Pt.slots] at X47 l47 y47 z47 st47 hQ47
  subst l47 y47 z47
  obtain ⟨rfl, N47q, e47⟩ := hQ47
  have N47 := Fr.app N0 N47q
  obtain ⟨fs, hr, hrun, hended, hW, hsame⟩ := X47.leave (v := some (.int (Int32.ofNat n))) (fun h => by rw [Bd.returns] at h; cases h)
  refine ⟨_, _, pre0 _ ?_, hrun, hended, _, _, rfl, ?_, ⟨_, rfl⟩, hW, hsame.mono (by decide) (by decide)⟩
  · show Steps p.tables e below (s₁.setTop (mkF m 0 #[.val (.ref o)] [])) _
    refine XS.aloadN X0.here hx rfl (hb hby d13_0) rfl rfl ?_
    show Steps p.tables e below (s₁.setTop (mkF m 1 #[.val (.ref o)] [(.ref o)])) _
    refine st46 _ ?_
    show Steps p.tables e below (T46.setTop (mkF m 4 #[.val (.ref o)] [(.ref b)])) _
    refine lenA X46 hx hZ e46 FB (g := (mkF m 4 #[.val (.ref o)] [(.ref b)])) rfl rfl (hb hby d13_4) ?_
    refine XS.aloadN X46.here hx rfl (hb hby d13_5) rfl rfl ?_
    show Steps p.tables e below (T46.setTop (mkF m 6 #[.val (.ref o)] [(.ref o), (.int (Int32.ofNat (2 * n)))])) _
    refine st47.trans ?_
    refine XS.ishr X47.here hx rfl (hb hby d13_9) rfl ?_
    show Steps p.tables e below (T47.setTop (mkF m 10 #[.val (.ref o)] [(.int ((Int32.ofNat (2 * n)) >>> ((1 : Int32) &&& 31)))])) _
    rw [show ((Int32.ofNat (2 * n)) >>> ((1 : Int32) &&& 31)) = (Int32.ofNat n) from shr1N (by omega)]
    show Steps p.tables e below (T47.setTop (mkF m 10 #[.val (.ref o)] [(.int (Int32.ofNat n))])) _
    exact retI X47 hx Bd.returns (hb hby d13_10) hr
  · show QI (Int32.ofNat n) h0 n0 _ T47.heap _
    rw [e47]
    exact ⟨rfl, N47, rfl⟩
set_option maxRecDepth 65536 in
set_option maxHeartbeats 40000000 in
theorem rmLEN (l : Launch) (Z : State) (a0 : Array Value) (hw : ∀ d ∈ tables_1, d.before a0 Z = true) (ws : List Jvm.Cond) (o : Addr) (n : Nat) (g : Nat → Int32)  (h0 : Heap) (n0 : Nat) (Z0 : n0 ≤ h0.size) (hn : n ≤ 200) (O : Old Z n0 h0) (SK : StrSta Z) (S : Str Z h0 o n g)  :
    MetFree l (⟨"java/lang/String", "length", "()I"⟩ : MethodName) (head1 (Jvm.Cond.code (⟨"java/lang/String", "length", "()I"⟩ : MethodName) jdk_42_method_54_code 1 (some .int) :: ws) ({ frames := 1, cells := 0, slots := 0, locals := 14 } : Room)) (fun aa_ U_ => aa_ = #[(.ref o)] ∧ Z.Warmed39 U_.vm ∧ U_.heap = h0) (fun _ _ _ _ _ => True) (fun _ U_ o_ V_ => ∃ v_ L_, o_ = .returned v_ ∧ QI (Int32.ofNat n) h0 n0 v_ V_.heap L_ ∧ FrameEnd U_ o_ V_ L_ ({ frames := 1, cells := 0, slots := 0, locals := 14 } : Room).cells ({ frames := 1, cells := 0, slots := 0, locals := 14 } : Room).slots) := by
  obtain ⟨EO, b, FV, ⟨FC, FB, hB⟩ | ⟨FC, FB, hB⟩⟩ := S
  · exact rmLEN0 l Z a0 hw ws o b n g h0 n0 Z0 hn O SK EO FC FV FB
  · exact rmLEN1 l Z a0 hw ws o b n g h0 n0 Z0 hn O SK EO FC FV FB
theorem d19_0 : decode jdk_41_method_11_code 0 = .ok (.iload_n 0, 1) := by decide +kernel
theorem d19_1 : decode jdk_41_method_11_code 1 = .ok (.ifCond .lt 8, 3) := by decide +kernel
theorem d19_4 : decode jdk_41_method_11_code 4 = .ok (.iload_n 0, 1) := by decide +kernel
theorem d19_5 : decode jdk_41_method_11_code 5 = .ok (.iload_n 1, 1) := by decide +kernel
theorem d19_6 : decode jdk_41_method_11_code 6 = .ok (.if_icmp .lt 10, 3) := by decide +kernel
theorem d19_9 : decode jdk_41_method_11_code 9 = .ok (.aload_n 2, 1) := by decide +kernel
theorem d19_10 : decode jdk_41_method_11_code 10 = .ok (.iload_n 0, 1) := by decide +kernel
theorem d19_11 : decode jdk_41_method_11_code 11 = .ok (.iload_n 1, 1) := by decide +kernel
theorem d19_12 : decode jdk_41_method_11_code 12 = .ok (.invokestatic 95, 3) := by decide +kernel
theorem d19_15 : decode jdk_41_method_11_code 15 = .ok (.athrow, 1) := by decide +kernel
theorem d19_16 : decode jdk_41_method_11_code 16 = .ok (.iload_n 0, 1) := by decide +kernel
theorem d19_17 : decode jdk_41_method_11_code 17 = .ok (.ireturn, 1) := by decide +kernel
theorem pn_19 : plainName "jdk/internal/util/Preconditions" = true := by first | (simp [plainName, overriddenIn]; done) | decide +kernel
theorem ef_19 (m : MethodId) (x0 : Int32) (x1 : Int32) (x2 : Addr) : entryFrame m #[(.int x0), (.int x1), (.ref x2)] 3 = mkF m 0 #[.val (.int x0), .val (.int x1), .val (.ref x2)] [] := by first | (simp [entryFrame, mkF, argsToLocals, Value.category]; done) | rfl
theorem ef_19n (m : MethodId) (x0 : Int32) (x1 : Int32) : entryFrame m #[(.int x0), (.int x1), .null] 3 = mkF m 0 #[.val (.int x0), .val (.int x1), .val .null] [] := by first | (simp [entryFrame, mkF, argsToLocals, Value.category]; done) | rfl
set_option maxRecDepth 65536 in
set_option maxHeartbeats 40000000 in
theorem rmPCI0 (l : Launch) (Z : State) (a0 : Array Value) (hw : ∀ d ∈ tables_1, d.before a0 Z = true) (ws : List Jvm.Cond) (i n : Nat)  (h0 : Heap) (n0 : Nat) (Z0 : n0 ≤ h0.size) (hn : n ≤ 400) (hi : i < n)  :
    MetFree l (⟨"jdk/internal/util/Preconditions", "checkIndex", "(IILjava/util/function/BiFunction;)I"⟩ : MethodName) (head1 (Jvm.Cond.code (⟨"jdk/internal/util/Preconditions", "checkIndex", "(IILjava/util/function/BiFunction;)I"⟩ : MethodName) jdk_41_method_11_code 3 (some .int) :: ws) ({ frames := 0, cells := 0, slots := 0, locals := 0 } : Room)) (fun aa_ U_ => aa_ = #[(.int (Int32.ofNat i)), (.int (Int32.ofNat n)), .null] ∧ Z.Warmed39 U_.vm ∧ U_.heap = h0) (fun _ _ _ _ _ => True) (fun _ U_ o_ V_ => ∃ v_ L_, o_ = .returned v_ ∧ QI (Int32.ofNat i) h0 n0 v_ V_.heap L_ ∧ FrameEnd U_ o_ V_ L_ ({ frames := 0, cells := 0, slots := 0, locals := 0 } : Room).cells ({ frames := 0, cells := 0, slots := 0, locals := 0 } : Room).slots) := by
  refine MetFree.of_bodySF (plainFor_of_name pn_19) hisR ?_
  intro p e s m args below meth c s₁ Bd hml0 hP hK
  obtain ⟨rfl, hZ, hh⟩ := hP
  have hx := Bd.exec
  have hby := Bd.bytes
  have hml : c.maxLocals = 3 := hml0
  have hown : s.vm.findClass "jdk/internal/util/Preconditions" = some m.cls := findClass_of_methodNamed Bd.named
  have hnm := (name_of_methodNamed Bd.named Bd.method).1
  have X0 : Stand p l e ({ frames := 0, cells := 0, slots := 0, locals := 0 } : Room) s m #[(.int (Int32.ofNat i)), (.int (Int32.ofNat n)), .null] below meth c s₁ [] 0 0 := Stand.of_body Bd
  have e0 : s₁.heap = h0 := by rw [← hh, Bd.state]; rfl
  have N0 := Fr.nil n0
  have pre0 : ∀ zz, Steps p.tables e below (s₁.setTop (mkF m 0 #[.val (.int (Int32.ofNat i)), .val (.int (Int32.ofNat n)), .val .null] [])) zz → Steps p.tables e below (s₁.setTop (entryFrame m #[(.int (Int32.ofNat i)), (.int (Int32.ofNat n)), .null] 3)) zz := fun zz k => castTop (ef_19n m (Int32.ofNat i) (Int32.ofNat n)) k
  obtain ⟨fs, hr, hrun, hended, hW, hsame⟩ := X0.leave (v := some (.int (Int32.ofNat i))) (fun h => by rw [Bd.returns] at h; cases h)
  refine ⟨_, _, pre0 _ ?_, hrun, hended, _, _, rfl, ?_, ⟨_, rfl⟩, hW, hsame.mono (by decide) (by decide)⟩
  · show Steps p.tables e below (s₁.setTop (mkF m 0 #[.val (.int (Int32.ofNat i)), .val (.int (Int32.ofNat n)), .val .null] [])) _
    refine XS.iloadN X0.here hx rfl (hb hby d19_0) rfl ?_
    refine XS.ifNo X0.here hx rfl (hb hby d19_1) rfl ((if0 _ _).trans (flt (nnN (by omega))).1) ?_
    refine XS.iloadN X0.here hx rfl (hb hby d19_4) rfl ?_
    refine XS.iloadN X0.here hx rfl (hb hby d19_5) rfl ?_
    refine XS.icmpYes X0.here hx rfl (pc0 := 6) (pc' := 16) rfl (hb hby d19_6) rfl (tlt ((ltN (by omega) (by omega)).mpr hi)).1 (by decide) (by decide) ?_
    refine XS.iloadN X0.here hx rfl (hb hby d19_16) rfl ?_
    show Steps p.tables e below (s₁.setTop (mkF m 17 #[.val (.int (Int32.ofNat i)), .val (.int (Int32.ofNat n)), .val .null] [(.int (Int32.ofNat i))])) _
    exact retI X0 hx Bd.returns (hb hby d19_17) hr
  · show QI (Int32.ofNat i) h0 n0 _ s₁.heap _
    rw [e0]
    exact ⟨rfl, N0, rfl⟩
set_option maxRecDepth 65536 in
set_option maxHeartbeats 40000000 in
theorem rmPCI1 (l : Launch) (Z : State) (a0 : Array Value) (hw : ∀ d ∈ tables_1, d.before a0 Z = true) (ws : List Jvm.Cond) (i n : Nat) (fa : Addr)  (h0 : Heap) (n0 : Nat) (Z0 : n0 ≤ h0.size) (hn : n ≤ 400) (hi : i < n)  :
    MetFree l (⟨"jdk/internal/util/Preconditions", "checkIndex", "(IILjava/util/function/BiFunction;)I"⟩ : MethodName) (head1 (Jvm.Cond.code (⟨"jdk/internal/util/Preconditions", "checkIndex", "(IILjava/util/function/BiFunction;)I"⟩ : MethodName) jdk_41_method_11_code 3 (some .int) :: ws) ({ frames := 0, cells := 0, slots := 0, locals := 0 } : Room)) (fun aa_ U_ => aa_ = #[(.int (Int32.ofNat i)), (.int (Int32.ofNat n)), (.ref fa)] ∧ Z.Warmed39 U_.vm ∧ U_.heap = h0) (fun _ _ _ _ _ => True) (fun _ U_ o_ V_ => ∃ v_ L_, o_ = .returned v_ ∧ QI (Int32.ofNat i) h0 n0 v_ V_.heap L_ ∧ FrameEnd U_ o_ V_ L_ ({ frames := 0, cells := 0, slots := 0, locals := 0 } : Room).cells ({ frames := 0, cells := 0, slots := 0, locals := 0 } : Room).slots) := by
  refine MetFree.of_bodySF (plainFor_of_name pn_19) hisR ?_
  intro p e s m args below meth c s₁ Bd hml0 hP hK
  obtain ⟨rfl, hZ, hh⟩ := hP
  have hx := Bd.exec
  have hby := Bd.bytes
  have hml : c.maxLocals = 3 := hml0
  have hown : s.vm.findClass "jdk/internal/util/Preconditions" = some m.cls := findClass_of_methodNamed Bd.named
  have hnm := (name_of_methodNamed Bd.named Bd.method).1
  have X0 : Stand p l e ({ frames := 0, cells := 0, slots := 0, locals := 0 } : Room) s m #[(.int (Int32.ofNat i)), (.int (Int32.ofNat n)), (.ref fa)] below meth c s₁ [] 0 0 := Stand.of_body Bd
  have e0 : s₁.heap = h0 := by rw [← hh, Bd.state]; rfl
  have N0 := Fr.nil n0
  have pre0 : ∀ zz, Steps p.tables e below (s₁.setTop (mkF m 0 #[.val (.int (Int32.ofNat i)), .val (.int (Int32.ofNat n)), .val (.ref fa)] [])) zz → Steps p.tables e below (s₁.setTop (entryFrame m #[(.int (Int32.ofNat i)), (.int (Int32.ofNat n)), (.ref fa)] 3)) zz := fun zz k => castTop (ef_19 m (Int32.ofNat i) (Int32.ofNat n) fa) k
  obtain ⟨fs, hr, hrun, hended, hW, hsame⟩ := X0.leave (v := some (.int (Int32.ofNat i))) (fun h => by rw [Bd.returns] at h; cases h)
  refine ⟨_, _, pre0 _ ?_, hrun, hended, _, _, rfl, ?_, ⟨_, rfl⟩, hW, hsame.mono (by decide) (by decide)⟩
  · show Steps p.tables e below (s₁.setTop (mkF m 0 #[.val (.int (Int32.ofNat i)), .val (.int (Int32.ofNat n)), .val (.ref fa)] [])) _
    refine XS.iloadN X0.here hx rfl (hb hby d19_0) rfl ?_
    refine XS.ifNo X0.here hx rfl (hb hby d19_1) rfl ((if0 _ _).trans (flt (nnN (by omega))).1) ?_
    refine XS.iloadN X0.here hx rfl (hb hby d19_4) rfl ?_
    refine XS.iloadN X0.here hx rfl (hb hby d19_5) rfl ?_
    refine XS.icmpYes X0.here hx rfl (pc0 := 6) (pc' := 16) rfl (hb hby d19_6) rfl (tlt ((ltN (by omega) (by omega)).mpr hi)).1 (by decide) (by decide) ?_
    refine XS.iloadN X0.here hx rfl (hb hby d19_16) rfl ?_
    show Steps p.tables e below (s₁.setTop (mkF m 17 #[.val (.int (Int32.ofNat i)), .val (.int (Int32.ofNat n)), .val (.ref fa)] [(.int (Int32.ofNat i))])) _
    exact retI X0 hx Bd.returns (hb hby d19_17) hr
  · show QI (Int32.ofNat i) h0 n0 _ s₁.heap _
    rw [e0]
    exact ⟨rfl, N0, rfl⟩
theorem d18_0 : decode jdk_42_method_155_code 0 = .ok (.iload_n 0, 1) := by decide +kernel
theorem d18_1 : decode jdk_42_method_155_code 1 = .ok (.iload_n 1, 1) := by decide +kernel
theorem d18_2 : decode jdk_42_method_155_code 2 = .ok (.getstatic 1053, 3) := by decide +kernel
theorem d18_5 : decode jdk_42_method_155_code 5 = .ok (.invokestatic 1059, 3) := by decide +kernel
theorem d18_8 : decode jdk_42_method_155_code 8 = .ok (.pop, 1) := by decide +kernel
theorem d18_9 : decode jdk_42_method_155_code 9 = .ok (.return_, 1) := by decide +kernel
theorem pn_18 : plainName "java/lang/String" = true := by first | (simp [plainName, overriddenIn]; done) | decide +kernel
theorem ef_18 (m : MethodId) (x0 : Int32) (x1 : Int32) : entryFrame m #[(.int x0), (.int x1)] 2 = mkF m 0 #[.val (.int x0), .val (.int x1)] [] := by first | (simp [entryFrame, mkF, argsToLocals, Value.category]; done) | rfl
set_option maxRecDepth 65536 in
set_option maxHeartbeats 40000000 in
theorem rmSCI0 (l : Launch) (Z : State) (a0 : Array Value) (hw : ∀ d ∈ tables_1, d.before a0 Z = true) (ws : List Jvm.Cond) (i n : Nat)  (h0 : Heap) (n0 : Nat) (Z0 : n0 ≤ h0.size) (hn : n ≤ 400) (hi : i < n) (O : Old Z n0 h0) (hfm : Sta Z Z.heap "jdk/internal/util/Preconditions" "SIOOBE_FORMATTER" "Ljava/util/function/BiFunction;" .null)  :
    MetFree l (⟨"java/lang/String", "checkIndex", "(II)V"⟩ : MethodName) (head1 (Jvm.Cond.code (⟨"java/lang/String", "checkIndex", "(II)V"⟩ : MethodName) jdk_42_method_155_code 2 none :: ws) ({ frames := 1, cells := 0, slots := 0, locals := 16 } : Room)) (fun aa_ U_ => aa_ = #[(.int (Int32.ofNat i)), (.int (Int32.ofNat n))] ∧ Z.Warmed39 U_.vm ∧ U_.heap = h0) (fun _ _ _ _ _ => True) (fun _ U_ o_ V_ => ∃ v_ L_, o_ = .returned v_ ∧ QN  h0 n0 v_ V_.heap L_ ∧ FrameEnd U_ o_ V_ L_ ({ frames := 1, cells := 0, slots := 0, locals := 16 } : Room).cells ({ frames := 1, cells := 0, slots := 0, locals := 16 } : Room).slots) := by
  refine MetFree.of_bodySF (plainFor_of_name pn_18) hisR ?_
  intro p e s m args below meth c s₁ Bd hml0 hP hK
  obtain ⟨rfl, hZ, hh⟩ := hP
  have hx := Bd.exec
  have hby := Bd.bytes
  have hml : c.maxLocals = 2 := hml0
  have hown : s.vm.findClass "java/lang/String" = some m.cls := findClass_of_methodNamed Bd.named
  have hnm := (name_of_methodNamed Bd.named Bd.method).1
  have X0 : Stand p l e ({ frames := 1, cells := 0, slots := 0, locals := 16 } : Room) s m #[(.int (Int32.ofNat i)), (.int (Int32.ofNat n))] below meth c s₁ [] 0 0 := Stand.of_body Bd
  have e0 : s₁.heap = h0 := by rw [← hh, Bd.state]; rfl
  have N0 := Fr.nil n0
  have pre0 : ∀ zz, Steps p.tables e below (s₁.setTop (mkF m 0 #[.val (.int (Int32.ofNat i)), .val (.int (Int32.ofNat n))] [])) zz → Steps p.tables e below (s₁.setTop (entryFrame m #[(.int (Int32.ofNat i)), (.int (Int32.ofNat n))] 2)) zz := fun zz k => castTop (ef_18 m (Int32.ofNat i) (Int32.ofNat n)) k
  obtain ⟨T48, X48, e48, st48⟩ := getS2 X0 hx hZ hown (host := "") (Or.inl (hw _ (List.mem_of_getElem? (i := 84) rfl))) Via.refl e0 (Sta.ext O.2 hfm) (g := (mkF m 2 #[.val (.int (Int32.ofNat i)), .val (.int (Int32.ofNat n))] [(.int (Int32.ofNat n)), (.int (Int32.ofNat i))])) rfl (hb hby d18_2)
  obtain ⟨_, _, ⟨T49, L49, k49, n49⟩, -, X49, ⟨Lc49, hQ49, l49, y49, z49⟩, st49⟩ := Jvm.LawKit.callS X48 hx (y := (⟨"jdk/internal/util/Preconditions", "checkIndex", "(IILjava/util/function/BiFunction;)I"⟩ : MethodName)) hown (mvT hZ (hw _ (List.mem_of_getElem? (i := 86) rfl))) (mvT hZ (hw _ (List.mem_of_getElem? (i := 87) rfl))) (mvT hZ (hw _ (List.mem_of_getElem? (i := 85) rfl))) (mvT hZ (hw _ (List.mem_of_getElem? (i := 88) rfl))) (by decide) (backOf (W := 0) (rmPCI0 l Z a0 hw [] i n h0 n0 Z0 hn hi) hZ (hw _ (List.mem_of_getElem? (i := 88) rfl)) (hw _ (List.mem_of_getElem? (i := 85) rfl)) (by decide) (by decide)) (g := (mkF m 5 #[.val (.int (Int32.ofNat i)), .val (.int (Int32.ofNat n))] [.null, (.int (Int32.ofNat n)), (.int (Int32.ofNat i))])) rfl (by rw [hml]; rfl) (argsL := [(.int (Int32.ofNat i)), (.int (Int32.ofNat n)), .null]) (rest := []) (lenOf pd_17 rfl) rfl (by show 2 * 0 + _ ≤ _; exact Nat.le_of_eq rfl) (hb hby d18_5) (fun _ _ => ⟨rfl, e48, (by decide : 0 + 0 ≤ _), (by decide : 0 + 0 ≤ _)⟩)
  dsimp only [Pt.U, Pt.locs, Pt.cells, Pt.slots] at X49 l49 y49 z49 st49 hQ49
  subst l49 y49 z49
  obtain ⟨rfl, N49q, e49⟩ := hQ49
  have N49 := Fr.app N0 N49q
  obtain ⟨fs, hr, hrun, hended, hW, hsame⟩ := X49.leave (v := none) (fun _ => rfl)
  refine ⟨_, _, pre0 _ ?_, hrun, hended, _, _, rfl, ?_, ⟨_, rfl⟩, hW, hsame.mono (by decide) (by decide)⟩
  · show Steps p.tables e below (s₁.setTop (mkF m 0 #[.val (.int (Int32.ofNat i)), .val (.int (Int32.ofNat n))] [])) _
    refine XS.iloadN X0.here hx rfl (hb hby d18_0) rfl ?_
    refine XS.iloadN X0.here hx rfl (hb hby d18_1) rfl ?_
    show Steps p.tables e below (s₁.setTop (mkF m 2 #[.val (.int (Int32.ofNat i)), .val (.int (Int32.ofNat n))] [(.int (Int32.ofNat n)), (.int (Int32.ofNat i))])) _
    refine st48 _ ?_
    show Steps p.tables e below (T48.setTop (mkF m 5 #[.val (.int (Int32.ofNat i)), .val (.int (Int32.ofNat n))] [.null, (.int (Int32.ofNat n)), (.int (Int32.ofNat i))])) _
    refine st49 _ ?_
    refine XS.pop X49.here hx rfl (hb hby d18_8) rfl rfl ?_
    show Steps p.tables e below (T49.setTop (mkF m 9 #[.val (.int (Int32.ofNat i)), .val (.int (Int32.ofNat n))] [])) _
    exact X49.returnOut hx Bd.returns (hb hby d18_9) hr
  · show QN  h0 n0 _ T49.heap _
    rw [e49]
    exact ⟨rfl, N49, rfl⟩
set_option maxRecDepth 65536 in
set_option maxHeartbeats 40000000 in
theorem rmSCI1 (l : Launch) (Z : State) (a0 : Array Value) (hw : ∀ d ∈ tables_1, d.before a0 Z = true) (ws : List Jvm.Cond) (i n : Nat) (fa : Addr)  (h0 : Heap) (n0 : Nat) (Z0 : n0 ≤ h0.size) (hn : n ≤ 400) (hi : i < n) (O : Old Z n0 h0) (hfm : Sta Z Z.heap "jdk/internal/util/Preconditions" "SIOOBE_FORMATTER" "Ljava/util/function/BiFunction;" (.ref fa))  :
    MetFree l (⟨"java/lang/String", "checkIndex", "(II)V"⟩ : MethodName) (head1 (Jvm.Cond.code (⟨"java/lang/String", "checkIndex", "(II)V"⟩ : MethodName) jdk_42_method_155_code 2 none :: ws) ({ frames := 1, cells := 0, slots := 0, locals := 16 } : Room)) (fun aa_ U_ => aa_ = #[(.int (Int32.ofNat i)), (.int (Int32.ofNat n))] ∧ Z.Warmed39 U_.vm ∧ U_.heap = h0) (fun _ _ _ _ _ => True) (fun _ U_ o_ V_ => ∃ v_ L_, o_ = .returned v_ ∧ QN  h0 n0 v_ V_.heap L_ ∧ FrameEnd U_ o_ V_ L_ ({ frames := 1, cells := 0, slots := 0, locals := 16 } : Room).cells ({ frames := 1, cells := 0, slots := 0, locals := 16 } : Room).slots) := by
  refine MetFree.of_bodySF (plainFor_of_name pn_18) hisR ?_
  intro p e s m args below meth c s₁ Bd hml0 hP hK
  obtain ⟨rfl, hZ, hh⟩ := hP
  have hx := Bd.exec
  have hby := Bd.bytes
  have hml : c.maxLocals = 2 := hml0
  have hown : s.vm.findClass "java/lang/String" = some m.cls := findClass_of_methodNamed Bd.named
  have hnm := (name_of_methodNamed Bd.named Bd.method).1
  have X0 : Stand p l e ({ frames := 1, cells := 0, slots := 0, locals := 16 } : Room) s m #[(.int (Int32.ofNat i)), (.int (Int32.ofNat n))] below meth c s₁ [] 0 0 := Stand.of_body Bd
  have e0 : s₁.heap = h0 := by rw [← hh, Bd.state]; rfl
  have N0 := Fr.nil n0
  have pre0 : ∀ zz, Steps p.tables e below (s₁.setTop (mkF m 0 #[.val (.int (Int32.ofNat i)), .val (.int (Int32.ofNat n))] [])) zz → Steps p.tables e below (s₁.setTop (entryFrame m #[(.int (Int32.ofNat i)), (.int (Int32.ofNat n))] 2)) zz := fun zz k => castTop (ef_18 m (Int32.ofNat i) (Int32.ofNat n)) k
  obtain ⟨T50, X50, e50, st50⟩ := getS2 X0 hx hZ hown (host := "") (Or.inl (hw _ (List.mem_of_getElem? (i := 84) rfl))) Via.refl e0 (Sta.ext O.2 hfm) (g := (mkF m 2 #[.val (.int (Int32.ofNat i)), .val (.int (Int32.ofNat n))] [(.int (Int32.ofNat n)), (.int (Int32.ofNat i))])) rfl (hb hby d18_2)
  obtain ⟨_, _, ⟨T51, L51, k51, n51⟩, -, X51, ⟨Lc51, hQ51, l51, y51, z51⟩, st51⟩ := Jvm.LawKit.callS X50 hx (y := (⟨"jdk/internal/util/Preconditions", "checkIndex", "(IILjava/util/function/BiFunction;)I"⟩ : MethodName)) hown (mvT hZ (hw _ (List.mem_of_getElem? (i := 86) rfl))) (mvT hZ (hw _ (List.mem_of_getElem? (i := 87) rfl))) (mvT hZ (hw _ (List.mem_of_getElem? (i := 85) rfl))) (mvT hZ (hw _ (List.mem_of_getElem? (i := 88) rfl))) (by decide) (backOf (W := 0) (rmPCI1 l Z a0 hw [] i n fa h0 n0 Z0 hn hi) hZ (hw _ (List.mem_of_getElem? (i := 88) rfl)) (hw _ (List.mem_of_getElem? (i := 85) rfl)) (by decide) (by decide)) (g := (mkF m 5 #[.val (.int (Int32.ofNat i)), .val (.int (Int32.ofNat n))] [(.ref fa), (.int (Int32.ofNat n)), (.int (Int32.ofNat i))])) rfl (by rw [hml]; rfl) (argsL := [(.int (Int32.ofNat i)), (.int (Int32.ofNat n)), (.ref fa)]) (rest := []) (lenOf pd_17 rfl) rfl (by show 2 * 0 + _ ≤ _; exact Nat.le_of_eq rfl) (hb hby d18_5) (fun _ _ => ⟨rfl, e50, (by decide : 0 + 0 ≤ _), (by decide : 0 + 0 ≤ _)⟩)
  dsimp only [Pt.U, Pt.locs, Pt.cells, Pt.slots] at X51 l51 y51 z51 st51 hQ51
  subst l51 y51 z51
  obtain ⟨rfl, N51q, e51⟩ := hQ51
  have N51 := Fr.app N0 N51q
  obtain ⟨fs, hr, hrun, hended, hW, hsame⟩ := X51.leave (v := none) (fun _ => rfl)
  refine ⟨_, _, pre0 _ ?_, hrun, hended, _, _, rfl, ?_, ⟨_, rfl⟩, hW, hsame.mono (by decide) (by decide)⟩
  · show Steps p.tables e below (s₁.setTop (mkF m 0 #[.val (.int (Int32.ofNat i)), .val (.int (Int32.ofNat n))] [])) _
    refine XS.iloadN X0.here hx rfl (hb hby d18_0) rfl ?_
    refine XS.iloadN X0.here hx rfl (hb hby d18_1) rfl ?_
    show Steps p.tables e below (s₁.setTop (mkF m 2 #[.val (.int (Int32.ofNat i)), .val (.int (Int32.ofNat n))] [(.int (Int32.ofNat n)), (.int (Int32.ofNat i))])) _
    refine st50 _ ?_
    show Steps p.tables e below (T50.setTop (mkF m 5 #[.val (.int (Int32.ofNat i)), .val (.int (Int32.ofNat n))] [(.ref fa), (.int (Int32.ofNat n)), (.int (Int32.ofNat i))])) _
    refine st51 _ ?_
    refine XS.pop X51.here hx rfl (hb hby d18_8) rfl rfl ?_
    show Steps p.tables e below (T51.setTop (mkF m 9 #[.val (.int (Int32.ofNat i)), .val (.int (Int32.ofNat n))] [])) _
    exact X51.returnOut hx Bd.returns (hb hby d18_9) hr
  · show QN  h0 n0 _ T51.heap _
    rw [e51]
    exact ⟨rfl, N51, rfl⟩
set_option maxRecDepth 65536 in
set_option maxHeartbeats 40000000 in
theorem rmSCI (l : Launch) (Z : State) (a0 : Array Value) (hw : ∀ d ∈ tables_1, d.before a0 Z = true) (ws : List Jvm.Cond) (i n : Nat)  (h0 : Heap) (n0 : Nat) (Z0 : n0 ≤ h0.size) (hn : n ≤ 400) (hi : i < n) (O : Old Z n0 h0) (SK : StrSta Z)  :
    MetFree l (⟨"java/lang/String", "checkIndex", "(II)V"⟩ : MethodName) (head1 (Jvm.Cond.code (⟨"java/lang/String", "checkIndex", "(II)V"⟩ : MethodName) jdk_42_method_155_code 2 none :: ws) ({ frames := 1, cells := 0, slots := 0, locals := 16 } : Room)) (fun aa_ U_ => aa_ = #[(.int (Int32.ofNat i)), (.int (Int32.ofNat n))] ∧ Z.Warmed39 U_.vm ∧ U_.heap = h0) (fun _ _ _ _ _ => True) (fun _ U_ o_ V_ => ∃ v_ L_, o_ = .returned v_ ∧ QN  h0 n0 v_ V_.heap L_ ∧ FrameEnd U_ o_ V_ L_ ({ frames := 1, cells := 0, slots := 0, locals := 16 } : Room).cells ({ frames := 1, cells := 0, slots := 0, locals := 16 } : Room).slots) := by
  obtain hfm | ⟨fa, hfm⟩ := SK.2.2.2.2
  · exact rmSCI0 l Z a0 hw ws i n h0 n0 Z0 hn hi O hfm
  · exact rmSCI1 l Z a0 hw ws i n fa h0 n0 Z0 hn hi O hfm
theorem d17_0 : decode jdk_43_method_2_code 0 = .ok (.iload_n 1, 1) := by decide +kernel
theorem d17_1 : decode jdk_43_method_2_code 1 = .ok (.aload_n 0, 1) := by decide +kernel
theorem d17_2 : decode jdk_43_method_2_code 2 = .ok (.arraylength, 1) := by decide +kernel
theorem d17_3 : decode jdk_43_method_2_code 3 = .ok (.invokestatic 9, 3) := by decide +kernel
theorem d17_6 : decode jdk_43_method_2_code 6 = .ok (.aload_n 0, 1) := by decide +kernel
theorem d17_7 : decode jdk_43_method_2_code 7 = .ok (.iload_n 1, 1) := by decide +kernel
theorem d17_8 : decode jdk_43_method_2_code 8 = .ok (.baload, 1) := by decide +kernel
theorem d17_9 : decode jdk_43_method_2_code 9 = .ok (.sipush 255, 3) := by decide +kernel
theorem d17_12 : decode jdk_43_method_2_code 12 = .ok (.iand, 1) := by decide +kernel
theorem d17_13 : decode jdk_43_method_2_code 13 = .ok (.i2c, 1) := by decide +kernel
theorem d17_14 : decode jdk_43_method_2_code 14 = .ok (.ireturn, 1) := by decide +kernel
theorem pn_17 : plainName "java/lang/StringLatin1" = true := by first | (simp [plainName, overriddenIn]; done) | decide +kernel
theorem ef_17 (m : MethodId) (x0 : Addr) (x1 : Int32) : entryFrame m #[(.ref x0), (.int x1)] 2 = mkF m 0 #[.val (.ref x0), .val (.int x1)] [] := by first | (simp [entryFrame, mkF, argsToLocals, Value.category]; done) | rfl
set_option maxRecDepth 65536 in
set_option maxHeartbeats 40000000 in
theorem rmLCA (l : Launch) (Z : State) (a0 : Array Value) (hw : ∀ d ∈ tables_1, d.before a0 Z = true) (ws : List Jvm.Cond) (b : Addr) (i n : Nat) (g : Nat → Int32)  (h0 : Heap) (n0 : Nat) (Z0 : n0 ≤ h0.size) (hn : n ≤ 200) (hi : i < n) (O : Old Z n0 h0) (SK : StrSta Z) (FB : AF Z h0 b .byte n (Lb g)) (hB : ∀ j, j < n → isB (g j))  :
    MetFree l (⟨"java/lang/StringLatin1", "charAt", "([BI)C"⟩ : MethodName) (head1 (Jvm.Cond.code (⟨"java/lang/StringLatin1", "charAt", "([BI)C"⟩ : MethodName) jdk_43_method_2_code 2 (some .char) :: ws) ({ frames := 2, cells := 0, slots := 0, locals := 30 } : Room)) (fun aa_ U_ => aa_ = #[(.ref b), (.int (Int32.ofNat i))] ∧ Z.Warmed39 U_.vm ∧ U_.heap = h0) (fun _ _ _ _ _ => True) (fun _ U_ o_ V_ => ∃ v_ L_, o_ = .returned v_ ∧ QI (g i) h0 n0 v_ V_.heap L_ ∧ FrameEnd U_ o_ V_ L_ ({ frames := 2, cells := 0, slots := 0, locals := 30 } : Room).cells ({ frames := 2, cells := 0, slots := 0, locals := 30 } : Room).slots) := by
  refine MetFree.of_bodySF (plainFor_of_name pn_17) hisR ?_
  intro p e s m args below meth c s₁ Bd hml0 hP hK
  obtain ⟨rfl, hZ, hh⟩ := hP
  have hx := Bd.exec
  have hby := Bd.bytes
  have hml : c.maxLocals = 2 := hml0
  have hown : s.vm.findClass "java/lang/StringLatin1" = some m.cls := findClass_of_methodNamed Bd.named
  have hnm := (name_of_methodNamed Bd.named Bd.method).1
  have X0 : Stand p l e ({ frames := 2, cells := 0, slots := 0, locals := 30 } : Room) s m #[(.ref b), (.int (Int32.ofNat i))] below meth c s₁ [] 0 0 := Stand.of_body Bd
  have e0 : s₁.heap = h0 := by rw [← hh, Bd.state]; rfl
  have N0 := Fr.nil n0
  have pre0 : ∀ zz, Steps p.tables e below (s₁.setTop (mkF m 0 #[.val (.ref b), .val (.int (Int32.ofNat i))] [])) zz → Steps p.tables e below (s₁.setTop (entryFrame m #[(.ref b), (.int (Int32.ofNat i))] 2)) zz := fun zz k => castTop (ef_17 m b (Int32.ofNat i)) k
  obtain ⟨_, _, ⟨T52, L52, k52, n52⟩, -, X52, ⟨Lc52, hQ52, l52, y52, z52⟩, st52⟩ := Jvm.LawKit.callS X0 hx (y := (⟨"java/lang/String", "checkIndex", "(II)V"⟩ : MethodName)) hown (mvT hZ (hw _ (List.mem_of_getElem? (i := 81) rfl))) (mvT hZ (hw _ (List.mem_of_getElem? (i := 82) rfl))) (mvT hZ (hw _ (List.mem_of_getElem? (i := 11) rfl))) (mvT hZ (hw _ (List.mem_of_getElem? (i := 83) rfl))) (by decide) (backOf (W := 0) (rmSCI l Z a0 hw [] i n h0 n0 Z0 (by omega) hi O SK) hZ (hw _ (List.mem_of_getElem? (i := 83) rfl)) (hw _ (List.mem_of_getElem? (i := 11) rfl)) (by decide) (by decide)) (g := (mkF m 3 #[.val (.ref b), .val (.int (Int32.ofNat i))] [(.int (Int32.ofNat n)), (.int (Int32.ofNat i))])) rfl (by rw [hml]; rfl) (argsL := [(.int (Int32.ofNat i)), (.int (Int32.ofNat n))]) (rest := []) (lenOf pd_16 rfl) rfl (by show 2 * 0 + _ ≤ _; exact Nat.le_of_eq rfl) (hb hby d17_3) (fun _ _ => ⟨rfl, e0, (by decide : 0 + 0 ≤ _), (by decide : 0 + 0 ≤ _)⟩)
  dsimp only [Pt.U, Pt.locs, Pt.cells, Pt.slots] at X52 l52 y52 z52 st52 hQ52
  subst l52 y52 z52
  obtain ⟨rfl, N52q, e52⟩ := hQ52
  have N52 := Fr.app N0 N52q
  obtain ⟨fs, hr, hrun, hended, hW, hsame⟩ := X52.leave (v := some (.int (nar .char (g i)))) (fun h => by rw [Bd.returns] at h; cases h)
  refine ⟨_, _, pre0 _ ?_, hrun, hended, _, _, rfl, ?_, ⟨_, rfl⟩, hW, hsame.mono (by decide) (by decide)⟩
  · show Steps p.tables e below (s₁.setTop (mkF m 0 #[.val (.ref b), .val (.int (Int32.ofNat i))] [])) _
    refine XS.iloadN X0.here hx rfl (hb hby d17_0) rfl ?_
    refine XS.aloadN X0.here hx rfl (hb hby d17_1) rfl rfl ?_
    show Steps p.tables e below (s₁.setTop (mkF m 2 #[.val (.ref b), .val (.int (Int32.ofNat i))] [(.ref b), (.int (Int32.ofNat i))])) _
    refine lenA X0 hx hZ e0 FB (g := (mkF m 2 #[.val (.ref b), .val (.int (Int32.ofNat i))] [(.ref b), (.int (Int32.ofNat i))])) rfl rfl (hb hby d17_2) ?_
    show Steps p.tables e below (s₁.setTop (mkF m 3 #[.val (.ref b), .val (.int (Int32.ofNat i))] [(.int (Int32.ofNat n)), (.int (Int32.ofNat i))])) _
    refine st52 _ ?_
    refine XS.aloadN X52.here hx rfl (hb hby d17_6) rfl rfl ?_
    refine XS.iloadN X52.here hx rfl (hb hby d17_7) rfl ?_
    show Steps p.tables e below (T52.setTop (mkF m 8 #[.val (.ref b), .val (.int (Int32.ofNat i))] [(.int (Int32.ofNat i)), (.ref b)])) _
    refine ldBy X52 hx hZ e52 FB (i := i) hi (by omega) (v := (.int (b8 (g i)))) rfl (g := (mkF m 8 #[.val (.ref b), .val (.int (Int32.ofNat i))] [(.int (Int32.ofNat i)), (.ref b)])) rfl rfl (hb hby d17_8) ?_
    refine XS.sipush X52.here hx rfl (hb hby d17_9) ?_
    refine XS.iand X52.here hx rfl (hb hby d17_12) rfl ?_
    refine XS.i2c X52.here hx rfl (hb hby d17_13) rfl ?_
    show Steps p.tables e below (T52.setTop (mkF m 14 #[.val (.ref b), .val (.int (Int32.ofNat i))] [(.int (((b8 (g i)) &&& (255 : Int32)).toUInt32.toUInt16.toUInt32.toInt32))])) _
    rw [show (((b8 (g i)) &&& (255 : Int32)).toUInt32.toUInt16.toUInt32.toInt32) = (g i) from (l16_eq (hB i hi))]
    show Steps p.tables e below (T52.setTop (mkF m 14 #[.val (.ref b), .val (.int (Int32.ofNat i))] [(.int (g i))])) _
    exact retN X52 hx (t := .char) Bd.returns (by simp) (hb hby d17_14) hr
  · show QI (g i) h0 n0 _ T52.heap _
    rw [e52]
    exact ⟨by rw [nar_id (isCh_of (hB i hi))], N52, rfl⟩
theorem d32_0 : decode jdk_52_method_6_code 0 = .ok (.aload_n 0, 1) := by decide +kernel
theorem d32_1 : decode jdk_52_method_6_code 1 = .ok (.arraylength, 1) := by decide +kernel
theorem d32_2 : decode jdk_52_method_6_code 2 = .ok (.iconst 1, 1) := by decide +kernel
theorem d32_3 : decode jdk_52_method_6_code 3 = .ok (.ishr, 1) := by decide +kernel
theorem d32_4 : decode jdk_52_method_6_code 4 = .ok (.ireturn, 1) := by decide +kernel
theorem pn_32 : plainName "java/lang/StringUTF16" = true := by first | (simp [plainName, overriddenIn]; done) | decide +kernel
theorem ef_32 (m : MethodId) (x0 : Addr) : entryFrame m #[(.ref x0)] 1 = mkF m 0 #[.val (.ref x0)] [] := by first | (simp [entryFrame, mkF, argsToLocals, Value.category]; done) | rfl
set_option maxRecDepth 65536 in
set_option maxHeartbeats 40000000 in
theorem rmUL (l : Launch) (Z : State) (a0 : Array Value) (hw : ∀ d ∈ tables_1, d.before a0 Z = true) (ws : List Jvm.Cond) (b : Addr) (n : Nat) (g : Nat → Int32)  (h0 : Heap) (n0 : Nat) (Z0 : n0 ≤ h0.size) (hn : n ≤ 200) (FB : AF Z h0 b .byte (2 * n) (Ub g))  :
    MetFree l (⟨"java/lang/StringUTF16", "length", "([B)I"⟩ : MethodName) (head1 (Jvm.Cond.code (⟨"java/lang/StringUTF16", "length", "([B)I"⟩ : MethodName) jdk_52_method_6_code 1 (some .int) :: ws) ({ frames := 0, cells := 0, slots := 0, locals := 0 } : Room)) (fun aa_ U_ => aa_ = #[(.ref b)] ∧ Z.Warmed39 U_.vm ∧ U_.heap = h0) (fun _ _ _ _ _ => True) (fun _ U_ o_ V_ => ∃ v_ L_, o_ = .returned v_ ∧ QI (Int32.ofNat n) h0 n0 v_ V_.heap L_ ∧ FrameEnd U_ o_ V_ L_ ({ frames := 0, cells := 0, slots := 0, locals := 0 } : Room).cells ({ frames := 0, cells := 0, slots := 0, locals := 0 } : Room).slots) := by
  refine MetFree.of_bodySF (plainFor_of_name pn_32) hisR ?_
  intro p e s m args below meth c s₁ Bd hml0 hP hK
  obtain ⟨rfl, hZ, hh⟩ := hP
  have hx := Bd.exec
  have hby := Bd.bytes
  have hml : c.maxLocals = 1 := hml0
  have hown : s.vm.findClass "java/lang/StringUTF16" = some m.cls := findClass_of_methodNamed Bd.named
  have hnm := (name_of_methodNamed Bd.named Bd.method).1
  have X0 : Stand p l e ({ frames := 0, cells := 0, slots := 0, locals := 0 } : Room) s m #[(.ref b)] below meth c s₁ [] 0 0 := Stand.of_body Bd
  have e0 : s₁.heap = h0 := by rw [← hh, Bd.state]; rfl
  have N0 := Fr.nil n0
  have pre0 : ∀ zz, Steps p.tables e below (s₁.setTop (mkF m 0 #[.val (.ref b)] [])) zz → Steps p.tables e below (s₁.setTop (entryFrame m #[(.ref b)] 1)) zz := fun zz k => castTop (ef_32 m b) k
  obtain ⟨fs, hr, hrun, hended, hW, hsame⟩ := X0.leave (v := some (.int (Int32.ofNat n))) (fun h => by rw [Bd.returns] at h; cases h)
  refine ⟨_, _, pre0 _ ?_, hrun, hended, _, _, rfl, ?_, ⟨_, rfl⟩, hW, hsame.mono (by decide) (by decide)⟩
  · show Steps p.tables e below (s₁.setTop (mkF m 0 #[.val (.ref b)] [])) _
    refine XS.aloadN X0.here hx rfl (hb hby d32_0) rfl rfl ?_
    show Steps p.tables e below (s₁.setTop (mkF m 1 #[.val (.ref b)] [(.ref b)])) _
    refine lenA X0 hx hZ e0 FB (g := (mkF m 1 #[.val (.ref b)] [(.ref b)])) rfl rfl (hb hby d32_1) ?_
    refine XS.iconst X0.here hx rfl (hb hby d32_2) ?_
    refine XS.ishr X0.here hx rfl (hb hby d32_3) rfl ?_
    show Steps p.tables e below (s₁.setTop (mkF m 4 #[.val (.ref b)] [(.int ((Int32.ofNat (2 * n)) >>> ((1 : Int32) &&& 31)))])) _
    rw [show ((Int32.ofNat (2 * n)) >>> ((1 : Int32) &&& 31)) = (Int32.ofNat n) from shr1N (by omega)]
    show Steps p.tables e below (s₁.setTop (mkF m 4 #[.val (.ref b)] [(.int (Int32.ofNat n))])) _
    exact retI X0 hx Bd.returns (hb hby d32_4) hr
  · show QI (Int32.ofNat n) h0 n0 _ s₁.heap _
    rw [e0]
    exact ⟨rfl, N0, rfl⟩
theorem d31_0 : decode jdk_52_method_91_code 0 = .ok (.iload_n 0, 1) := by decide +kernel
theorem d31_1 : decode jdk_52_method_91_code 1 = .ok (.aload_n 1, 1) := by decide +kernel
theorem d31_2 : decode jdk_52_method_91_code 2 = .ok (.invokestatic 48, 3) := by decide +kernel
theorem d31_5 : decode jdk_52_method_91_code 5 = .ok (.invokestatic 414, 3) := by decide +kernel
theorem d31_8 : decode jdk_52_method_91_code 8 = .ok (.return_, 1) := by decide +kernel
theorem pn_31 : plainName "java/lang/StringUTF16" = true := by first | (simp [plainName, overriddenIn]; done) | decide +kernel
theorem ef_31 (m : MethodId) (x0 : Int32) (x1 : Addr) : entryFrame m #[(.int x0), (.ref x1)] 2 = mkF m 0 #[.val (.int x0), .val (.ref x1)] [] := by first | (simp [entryFrame, mkF, argsToLocals, Value.category]; done) | rfl
set_option maxRecDepth 65536 in
set_option maxHeartbeats 40000000 in
theorem rmUCI (l : Launch) (Z : State) (a0 : Array Value) (hw : ∀ d ∈ tables_1, d.before a0 Z = true) (ws : List Jvm.Cond) (i : Nat) (b : Addr) (n : Nat) (g : Nat → Int32)  (h0 : Heap) (n0 : Nat) (Z0 : n0 ≤ h0.size) (hn : n ≤ 200) (hi : i < n) (O : Old Z n0 h0) (SK : StrSta Z) (FB : AF Z h0 b .byte (2 * n) (Ub g))  :
    MetFree l (⟨"java/lang/StringUTF16", "checkIndex", "(I[B)V"⟩ : MethodName) (head1 (Jvm.Cond.code (⟨"java/lang/StringUTF16", "checkIndex", "(I[B)V"⟩ : MethodName) jdk_52_method_91_code 2 none :: ws) ({ frames := 2, cells := 0, slots := 0, locals := 30 } : Room)) (fun aa_ U_ => aa_ = #[(.int (Int32.ofNat i)), (.ref b)] ∧ Z.Warmed39 U_.vm ∧ U_.heap = h0) (fun _ _ _ _ _ => True) (fun _ U_ o_ V_ => ∃ v_ L_, o_ = .returned v_ ∧ QN  h0 n0 v_ V_.heap L_ ∧ FrameEnd U_ o_ V_ L_ ({ frames := 2, cells := 0, slots := 0, locals := 30 } : Room).cells ({ frames := 2, cells := 0, slots := 0, locals := 30 } : Room).slots) := by
  refine MetFree.of_bodySF (plainFor_of_name pn_31) hisR ?_
  intro p e s m args below meth c s₁ Bd hml0 hP hK
  obtain ⟨rfl, hZ, hh⟩ := hP
  have hx := Bd.exec
  have hby := Bd.bytes
  have hml : c.maxLocals = 2 := hml0
  have hown : s.vm.findClass "java/lang/StringUTF16" = some m.cls := findClass_of_methodNamed Bd.named
  have hnm := (name_of_methodNamed Bd.named Bd.method).1
  have X0 : Stand p l e ({ frames := 2, cells := 0, slots := 0, locals := 30 } : Room) s m #[(.int (Int32.ofNat i)), (.ref b)] below meth c s₁ [] 0 0 := Stand.of_body Bd
  have e0 : s₁.heap = h0 := by rw [← hh, Bd.state]; rfl
  have N0 := Fr.nil n0
  have pre0 : ∀ zz, Steps p.tables e below (s₁.setTop (mkF m 0 #[.val (.int (Int32.ofNat i)), .val (.ref b)] [])) zz → Steps p.tables e below (s₁.setTop (entryFrame m #[(.int (Int32.ofNat i)), (.ref b)] 2)) zz := fun zz k => castTop (ef_31 m (Int32.ofNat i) b) k
  obtain ⟨_, _, ⟨T53, L53, k53, n53⟩, -, X53, ⟨Lc53, hQ53, l53, y53, z53⟩, st53⟩ := Jvm.LawKit.callS X0 hx (y := (⟨"java/lang/StringUTF16", "length", "([B)I"⟩ : MethodName)) hown (mvT hZ (hw _ (List.mem_of_getElem? (i := 142) rfl))) (mvT hZ (hw _ (List.mem_of_getElem? (i := 143) rfl))) (mvT hZ (hw _ (List.mem_of_getElem? (i := 25) rfl))) (mvT hZ (hw _ (List.mem_of_getElem? (i := 144) rfl))) (by decide) (backOf (W := 1) (rmUL l Z a0 hw [] b n g h0 n0 Z0 hn FB) hZ (hw _ (List.mem_of_getElem? (i := 144) rfl)) (hw _ (List.mem_of_getElem? (i := 25) rfl)) (by decide) (by decide)) (g := (mkF m 2 #[.val (.int (Int32.ofNat i)), .val (.ref b)] [(.ref b), (.int (Int32.ofNat i))])) rfl (by rw [hml]; rfl) (argsL := [(.ref b)]) (rest := [(.int (Int32.ofNat i))]) (lenOf pd_25 rfl) rfl (by show 2 * 0 + _ ≤ _; exact Nat.le_of_eq rfl) (hb hby d31_2) (fun _ _ => ⟨rfl, e0, (by decide : 0 + 0 ≤ _), (by decide : 0 + 0 ≤ _)⟩)
  dsimp only [Pt.U, Pt.locs, Pt.cells, Pt.slots] at X53 l53 y53 z53 st53 hQ53
  subst l53 y53 z53
  obtain ⟨rfl, N53q, e53⟩ := hQ53
  have N53 := Fr.app N0 N53q
  obtain ⟨_, _, ⟨T54, L54, k54, n54⟩, -, X54, ⟨Lc54, hQ54, l54, y54, z54⟩, st54⟩ := Jvm.LawKit.callS X53 hx (y := (⟨"java/lang/String", "checkIndex", "(II)V"⟩ : MethodName)) hown (mvT hZ (hw _ (List.mem_of_getElem? (i := 145) rfl))) (mvT hZ (hw _ (List.mem_of_getElem? (i := 82) rfl))) (mvT hZ (hw _ (List.mem_of_getElem? (i := 11) rfl))) (mvT hZ (hw _ (List.mem_of_getElem? (i := 83) rfl))) (by decide) (backOf (W := 0) (rmSCI l Z a0 hw [] i n h0 n0 Z0 (by omega) hi O SK) hZ (hw _ (List.mem_of_getElem? (i := 83) rfl)) (hw _ (List.mem_of_getElem? (i := 11) rfl)) (by decide) (by decide)) (g := (mkF m 5 #[.val (.int (Int32.ofNat i)), .val (.ref b)] [(.int (Int32.ofNat n)), (.int (Int32.ofNat i))])) rfl (by rw [hml]; rfl) (argsL := [(.int (Int32.ofNat i)), (.int (Int32.ofNat n))]) (rest := []) (lenOf pd_16 rfl) rfl (by show 2 * 0 + _ ≤ _; exact Nat.le_of_eq rfl) (hb hby d31_5) (fun _ _ => ⟨rfl, e53, (by decide : 0 + 0 ≤ _), (by decide : 0 + 0 ≤ _)⟩)
  dsimp only [Pt.U, Pt.locs, Pt.cells, Pt.slots] at X54 l54 y54 z54 st54 hQ54
  subst l54 y54 z54
  obtain ⟨rfl, N54q, e54⟩ := hQ54
  have N54 := Fr.app N53 N54q
  obtain ⟨fs, hr, hrun, hended, hW, hsame⟩ := X54.leave (v := none) (fun _ => rfl)
  refine ⟨_, _, pre0 _ ?_, hrun, hended, _, _, rfl, ?_, ⟨_, rfl⟩, hW, hsame.mono (by decide) (by decide)⟩
  · show Steps p.tables e below (s₁.setTop (mkF m 0 #[.val (.int (Int32.ofNat i)), .val (.ref b)] [])) _
    refine XS.iloadN X0.here hx rfl (hb hby d31_0) rfl ?_
    refine XS.aloadN X0.here hx rfl (hb hby d31_1) rfl rfl ?_
    show Steps p.tables e below (s₁.setTop (mkF m 2 #[.val (.int (Int32.ofNat i)), .val (.ref b)] [(.ref b), (.int (Int32.ofNat i))])) _
    refine st53 _ ?_
    show Steps p.tables e below (T53.setTop (mkF m 5 #[.val (.int (Int32.ofNat i)), .val (.ref b)] [(.int (Int32.ofNat n)), (.int (Int32.ofNat i))])) _
    refine st54 _ ?_
    show Steps p.tables e below (T54.setTop (mkF m 8 #[.val (.int (Int32.ofNat i)), .val (.ref b)] [])) _
    exact X54.returnOut hx Bd.returns (hb hby d31_8) hr
  · show QN  h0 n0 _ T54.heap _
    rw [e54]
    exact ⟨rfl, N54, rfl⟩
theorem d30_0 : decode jdk_52_method_83_code 0 = .ok (.iload_n 1, 1) := by decide +kernel
theorem d30_1 : decode jdk_52_method_83_code 1 = .ok (.aload_n 0, 1) := by decide +kernel
theorem d30_2 : decode jdk_52_method_83_code 2 = .ok (.invokestatic 67, 3) := by decide +kernel
theorem d30_5 : decode jdk_52_method_83_code 5 = .ok (.aload_n 0, 1) := by decide +kernel
theorem d30_6 : decode jdk_52_method_83_code 6 = .ok (.iload_n 1, 1) := by decide +kernel
theorem d30_7 : decode jdk_52_method_83_code 7 = .ok (.invokestatic 71, 3) := by decide +kernel
theorem d30_10 : decode jdk_52_method_83_code 10 = .ok (.ireturn, 1) := by decide +kernel
theorem pn_30 : plainName "java/lang/StringUTF16" = true := by first | (simp [plainName, overriddenIn]; done) | decide +kernel
theorem ef_30 (m : MethodId) (x0 : Addr) (x1 : Int32) : entryFrame m #[(.ref x0), (.int x1)] 2 = mkF m 0 #[.val (.ref x0), .val (.int x1)] [] := by first | (simp [entryFrame, mkF, argsToLocals, Value.category]; done) | rfl
set_option maxRecDepth 65536 in
set_option maxHeartbeats 40000000 in
theorem rmUCA (l : Launch) (Z : State) (a0 : Array Value) (hw : ∀ d ∈ tables_1, d.before a0 Z = true) (ws : List Jvm.Cond) (b : Addr) (i n : Nat) (g : Nat → Int32)  (h0 : Heap) (n0 : Nat) (Z0 : n0 ≤ h0.size) (hn : n ≤ 200) (hi : i < n) (O : Old Z n0 h0) (SK : StrSta Z) (FB : AF Z h0 b .byte (2 * n) (Ub g)) (hB : ∀ j, j < n → isCh (g j))  :
    MetFree l (⟨"java/lang/StringUTF16", "charAt", "([BI)C"⟩ : MethodName) (head1 (Jvm.Cond.code (⟨"java/lang/StringUTF16", "charAt", "([BI)C"⟩ : MethodName) jdk_52_method_83_code 2 (some .char) :: ws) ({ frames := 3, cells := 0, slots := 0, locals := 44 } : Room)) (fun aa_ U_ => aa_ = #[(.ref b), (.int (Int32.ofNat i))] ∧ Z.Warmed39 U_.vm ∧ U_.heap = h0) (fun _ _ _ _ _ => True) (fun _ U_ o_ V_ => ∃ v_ L_, o_ = .returned v_ ∧ QI (g i) h0 n0 v_ V_.heap L_ ∧ FrameEnd U_ o_ V_ L_ ({ frames := 3, cells := 0, slots := 0, locals := 44 } : Room).cells ({ frames := 3, cells := 0, slots := 0, locals := 44 } : Room).slots) := by
  refine MetFree.of_bodySF (plainFor_of_name pn_30) hisR ?_
  intro p e s m args below meth c s₁ Bd hml0 hP hK
  obtain ⟨rfl, hZ, hh⟩ := hP
  have hx := Bd.exec
  have hby := Bd.bytes
  have hml : c.maxLocals = 2 := hml0
  have hown : s.vm.findClass "java/lang/StringUTF16" = some m.cls := findClass_of_methodNamed Bd.named
  have hnm := (name_of_methodNamed Bd.named Bd.method).1
  have X0 : Stand p l e ({ frames := 3, cells := 0, slots := 0, locals := 44 } : Room) s m #[(.ref b), (.int (Int32.ofNat i))] below meth c s₁ [] 0 0 := Stand.of_body Bd
  have e0 : s₁.heap = h0 := by rw [← hh, Bd.state]; rfl
  have N0 := Fr.nil n0
  have pre0 : ∀ zz, Steps p.tables e below (s₁.setTop (mkF m 0 #[.val (.ref b), .val (.int (Int32.ofNat i))] [])) zz → Steps p.tables e below (s₁.setTop (entryFrame m #[(.ref b), (.int (Int32.ofNat i))] 2)) zz := fun zz k => castTop (ef_30 m b (Int32.ofNat i)) k
  obtain ⟨_, _, ⟨T55, L55, k55, n55⟩, -, X55, ⟨Lc55, hQ55, l55, y55, z55⟩, st55⟩ := Jvm.LawKit.callS X0 hx (y := (⟨"java/lang/StringUTF16", "checkIndex", "(I[B)V"⟩ : MethodName)) hown (mvT hZ (hw _ (List.mem_of_getElem? (i := 139) rfl))) (mvT hZ (hw _ (List.mem_of_getElem? (i := 140) rfl))) (mvT hZ (hw _ (List.mem_of_getElem? (i := 25) rfl))) (mvT hZ (hw _ (List.mem_of_getElem? (i := 141) rfl))) (by decide) (backOf (W := 0) (rmUCI l Z a0 hw [] i b n g h0 n0 Z0 hn hi O SK FB) hZ (hw _ (List.mem_of_getElem? (i := 141) rfl)) (hw _ (List.mem_of_getElem? (i := 25) rfl)) (by decide) (by decide)) (g := (mkF m 2 #[.val (.ref b), .val (.int (Int32.ofNat i))] [(.ref b), (.int (Int32.ofNat i))])) rfl (by rw [hml]; rfl) (argsL := [(.int (Int32.ofNat i)), (.ref b)]) (rest := []) (lenOf pd_24 rfl) rfl (by show 2 * 0 + _ ≤ _; exact Nat.le_of_eq rfl) (hb hby d30_2) (fun _ _ => ⟨rfl, e0, (by decide : 0 + 0 ≤ _), (by decide : 0 + 0 ≤ _)⟩)
  dsimp only [Pt.U, Pt.locs, Pt.cells, Pt.slots] at X55 l55 y55 z55 st55 hQ55
  subst l55 y55 z55
  obtain ⟨rfl, N55q, e55⟩ := hQ55
  have N55 := Fr.app N0 N55q
  obtain ⟨_, _, ⟨T56, L56, k56, n56⟩, -, X56, ⟨Lc56, hQ56, l56, y56, z56⟩, st56⟩ := Jvm.LawKit.callS X55 hx (y := (⟨"java/lang/StringUTF16", "getChar", "([BI)C"⟩ : MethodName)) hown (mvT hZ (hw _ (List.mem_of_getElem? (i := 133) rfl))) (mvT hZ (hw _ (List.mem_of_getElem? (i := 134) rfl))) (mvT hZ (hw _ (List.mem_of_getElem? (i := 25) rfl))) (mvT hZ (hw _ (List.mem_of_getElem? (i := 135) rfl))) (by decide) (backOf (W := 0) (rmGC l Z a0 hw [] b i n g h0 n0 Z0 hn hi O SK FB hB) hZ (hw _ (List.mem_of_getElem? (i := 135) rfl)) (hw _ (List.mem_of_getElem? (i := 25) rfl)) (by decide) (by decide)) (g := (mkF m 7 #[.val (.ref b), .val (.int (Int32.ofNat i))] [(.int (Int32.ofNat i)), (.ref b)])) rfl (by rw [hml]; rfl) (argsL := [(.ref b), (.int (Int32.ofNat i))]) (rest := []) (lenOf pd_15 rfl) rfl (by show 2 * 0 + _ ≤ _; exact Nat.le_of_eq rfl) (hb hby d30_7) (fun _ _ => ⟨rfl, e55, (by decide : 0 + 0 ≤ _), (by decide : 0 + 0 ≤ _)⟩)
  dsimp only [Pt.U, Pt.locs, Pt.cells, Pt.slots] at X56 l56 y56 z56 st56 hQ56
  subst l56 y56 z56
  obtain ⟨rfl, N56q, e56⟩ := hQ56
  have N56 := Fr.app N55 N56q
  obtain ⟨fs, hr, hrun, hended, hW, hsame⟩ := X56.leave (v := some (.int (nar .char (g i)))) (fun h => by rw [Bd.returns] at h; cases h)
  refine ⟨_, _, pre0 _ ?_, hrun, hended, _, _, rfl, ?_, ⟨_, rfl⟩, hW, hsame.mono (by decide) (by decide)⟩
  · show Steps p.tables e below (s₁.setTop (mkF m 0 #[.val (.ref b), .val (.int (Int32.ofNat i))] [])) _
    refine XS.iloadN X0.here hx rfl (hb hby d30_0) rfl ?_
    refine XS.aloadN X0.here hx rfl (hb hby d30_1) rfl rfl ?_
    show Steps p.tables e below (s₁.setTop (mkF m 2 #[.val (.ref b), .val (.int (Int32.ofNat i))] [(.ref b), (.int (Int32.ofNat i))])) _
    refine st55 _ ?_
    refine XS.aloadN X55.here hx rfl (hb hby d30_5) rfl rfl ?_
    refine XS.iloadN X55.here hx rfl (hb hby d30_6) rfl ?_
    show Steps p.tables e below (T55.setTop (mkF m 7 #[.val (.ref b), .val (.int (Int32.ofNat i))] [(.int (Int32.ofNat i)), (.ref b)])) _
    refine st56 _ ?_
    show Steps p.tables e below (T56.setTop (mkF m 10 #[.val (.ref b), .val (.int (Int32.ofNat i))] [(.int (g i))])) _
    exact retN X56 hx (t := .char) Bd.returns (by simp) (hb hby d30_10) hr
  · show QI (g i) h0 n0 _ T56.heap _
    rw [e56]
    exact ⟨by rw [nar_id (hB i hi)], N56, rfl⟩
theorem d15_0 : decode jdk_42_method_56_code 0 = .ok (.aload_n 0, 1) := by decide +kernel
theorem d15_1 : decode jdk_42_method_56_code 1 = .ok (.invokevirtual 492, 3) := by decide +kernel
theorem d15_4 : decode jdk_42_method_56_code 4 = .ok (.ifCond .eq 12, 3) := by decide +kernel
theorem d15_7 : decode jdk_42_method_56_code 7 = .ok (.aload_n 0, 1) := by decide +kernel
theorem d15_8 : decode jdk_42_method_56_code 8 = .ok (.getfield 9, 3) := by decide +kernel
theorem d15_11 : decode jdk_42_method_56_code 11 = .ok (.iload_n 1, 1) := by decide +kernel
theorem d15_12 : decode jdk_42_method_56_code 12 = .ok (.invokestatic 495, 3) := by decide +kernel
theorem d15_15 : decode jdk_42_method_56_code 15 = .ok (.ireturn, 1) := by decide +kernel
theorem d15_16 : decode jdk_42_method_56_code 16 = .ok (.aload_n 0, 1) := by decide +kernel
theorem d15_17 : decode jdk_42_method_56_code 17 = .ok (.getfield 9, 3) := by decide +kernel
theorem d15_20 : decode jdk_42_method_56_code 20 = .ok (.iload_n 1, 1) := by decide +kernel
theorem d15_21 : decode jdk_42_method_56_code 21 = .ok (.invokestatic 498, 3) := by decide +kernel
theorem d15_24 : decode jdk_42_method_56_code 24 = .ok (.ireturn, 1) := by decide +kernel
theorem pn_15 : plainName "java/lang/String" = true := by first | (simp [plainName, overriddenIn]; done) | decide +kernel
theorem ef_15 (m : MethodId) (x0 : Addr) (x1 : Int32) : entryFrame m #[(.ref x0), (.int x1)] 2 = mkF m 0 #[.val (.ref x0), .val (.int x1)] [] := by first | (simp [entryFrame, mkF, argsToLocals, Value.category]; done) | rfl
set_option maxRecDepth 65536 in
set_option maxHeartbeats 40000000 in
theorem rmCA0 (l : Launch) (Z : State) (a0 : Array Value) (hw : ∀ d ∈ tables_1, d.before a0 Z = true) (ws : List Jvm.Cond) (o b : Addr) (i n : Nat) (g : Nat → Int32)  (h0 : Heap) (n0 : Nat) (Z0 : n0 ≤ h0.size) (hn : n ≤ 200) (hi : i < n) (O : Old Z n0 h0) (SK : StrSta Z) (EO : Exa Z h0 o "java/lang/String") (FC : Fld Z h0 o "java/lang/String" "coder" "B" (.int (0 : Int32))) (FV : Fld Z h0 o "java/lang/String" "value" "[B" (.ref b)) (FB : AF Z h0 b .byte n (Lb g)) (hB : ∀ j, j < n → isB (g j))  :
    MetFree l (⟨"java/lang/String", "charAt", "(I)C"⟩ : MethodName) (head1 (Jvm.Cond.code (⟨"java/lang/String", "charAt", "(I)C"⟩ : MethodName) jdk_42_method_56_code 2 (some .char) :: ws) ({ frames := 4, cells := 0, slots := 0, locals := 60 } : Room)) (fun aa_ U_ => aa_ = #[(.ref o), (.int (Int32.ofNat i))] ∧ Z.Warmed39 U_.vm ∧ U_.heap = h0) (fun _ _ _ _ _ => True) (fun _ U_ o_ V_ => ∃ v_ L_, o_ = .returned v_ ∧ QI (g i) h0 n0 v_ V_.heap L_ ∧ FrameEnd U_ o_ V_ L_ ({ frames := 4, cells := 0, slots := 0, locals := 60 } : Room).cells ({ frames := 4, cells := 0, slots := 0, locals := 60 } : Room).slots) := by
  refine MetFree.of_bodySF (plainFor_of_name pn_15) hisR ?_
  intro p e s m args below meth c s₁ Bd hml0 hP hK
  obtain ⟨rfl, hZ, hh⟩ := hP
  have hx := Bd.exec
  have hby := Bd.bytes
  have hml : c.maxLocals = 2 := hml0
  have hown : s.vm.findClass "java/lang/String" = some m.cls := findClass_of_methodNamed Bd.named
  have hnm := (name_of_methodNamed Bd.named Bd.method).1
  have X0 : Stand p l e ({ frames := 4, cells := 0, slots := 0, locals := 60 } : Room) s m #[(.ref o), (.int (Int32.ofNat i))] below meth c s₁ [] 0 0 := Stand.of_body Bd
  have e0 : s₁.heap = h0 := by rw [← hh, Bd.state]; rfl
  have N0 := Fr.nil n0
  have pre0 : ∀ zz, Steps p.tables e below (s₁.setTop (mkF m 0 #[.val (.ref o), .val (.int (Int32.ofNat i))] [])) zz → Steps p.tables e below (s₁.setTop (entryFrame m #[(.ref o), (.int (Int32.ofNat i))] 2)) zz := fun zz k => castTop (ef_15 m o (Int32.ofNat i)) k
  obtain ⟨cq57, kq57, q57a, q57b, q57c⟩ := isOf hZ e0 EO
  obtain ⟨_, _, ⟨T57, L57, k57, n57⟩, -, X57, ⟨Lc57, hQ57, l57, y57, z57⟩, st57⟩ := X0.virtualBack hx (y := (⟨"java/lang/String", "isLatin1", "()Z"⟩ : MethodName)) (z := (⟨"java/lang/String", "isLatin1", "()Z"⟩ : MethodName)) hown (mvT hZ (hw _ (List.mem_of_getElem? (i := 72) rfl))) (mvT hZ (hw _ (List.mem_of_getElem? (i := 73) rfl))) (notFace_of_selects (args := #[]) (mvT hZ (hw _ (List.mem_of_getElem? (i := 75) rfl)))) (mvT hZ (hw _ (List.mem_of_getElem? (i := 75) rfl))) (mvT hZ (hw _ (List.mem_of_getElem? (i := 74) rfl))) (by decide) (backOf (W := 0) (rmIL0 l Z a0 hw [] o h0 n0 Z0 O SK EO FC) hZ (hw _ (List.mem_of_getElem? (i := 76) rfl)) (hw _ (List.mem_of_getElem? (i := 11) rfl)) (by decide) (by decide)) q57a q57c (g := (mkF m 1 #[.val (.ref o), .val (.int (Int32.ofNat i))] [(.ref o)])) rfl (by rw [hml]; rfl) (Steps.refl _) (argsL := []) (rest := []) (lenOf pd_10 rfl) rfl (by show 2 * 0 + _ ≤ _; exact Nat.le_of_eq rfl) (hb hby d15_1) (fun _ _ => ⟨rfl, e0, (by decide : 0 + 0 ≤ _), (by decide : 0 + 0 ≤ _)⟩)
  dsimp only [Pt.U, Pt.locs, Pt.cells, Pt.slots] at X57 l57 y57 z57 st57 hQ57
  subst l57 y57 z57
  obtain ⟨rfl, N57q, e57⟩ := hQ57
  have N57 := Fr.app N0 N57q
  obtain ⟨T58, X58, e58, st58⟩ := getF X57 hx hZ hown (host := "") (Or.inl (hw _ (List.mem_of_getElem? (i := 36) rfl))) Via.refl e57 FV (g := (mkF m 8 #[.val (.ref o), .val (.int (Int32.ofNat i))] [(.ref o)])) rfl rfl (hb hby d15_8)
  obtain ⟨_, _, ⟨T59, L59, k59, n59⟩, -, X59, ⟨Lc59, hQ59, l59, y59, z59⟩, st59⟩ := Jvm.LawKit.callS X58 hx (y := (⟨"java/lang/StringLatin1", "charAt", "([BI)C"⟩ : MethodName)) hown (mvT hZ (hw _ (List.mem_of_getElem? (i := 77) rfl))) (mvT hZ (hw _ (List.mem_of_getElem? (i := 78) rfl))) (mvT hZ (hw _ (List.mem_of_getElem? (i := 79) rfl))) (mvT hZ (hw _ (List.mem_of_getElem? (i := 80) rfl))) (by decide) (backOf (W := 0) (rmLCA l Z a0 hw [] b i n g h0 n0 Z0 hn hi O SK FB hB) hZ (hw _ (List.mem_of_getElem? (i := 80) rfl)) (hw _ (List.mem_of_getElem? (i := 79) rfl)) (by decide) (by decide)) (g := (mkF m 12 #[.val (.ref o), .val (.int (Int32.ofNat i))] [(.int (Int32.ofNat i)), (.ref b)])) rfl (by rw [hml]; rfl) (argsL := [(.ref b), (.int (Int32.ofNat i))]) (rest := []) (lenOf pd_15 rfl) rfl (by show 2 * 0 + _ ≤ _; exact Nat.le_of_eq rfl) (hb hby d15_12) (fun _ _ => ⟨rfl, e58, (by decide : 0 + 0 ≤ _), (by decide : 0 + 0 ≤ _)⟩)
  dsimp only [Pt.U, Pt.locs, Pt.cells, Pt.slots] at X59 l59 y59 z59 st59 hQ59
  subst l59 y59 z59
  obtain ⟨rfl, N59q, e59⟩ := hQ59
  have N59 := Fr.app N57 N59q
  obtain ⟨fs, hr, hrun, hended, hW, hsame⟩ := X59.leave (v := some (.int (nar .char (g i)))) (fun h => by rw [Bd.returns] at h; cases h)
  refine ⟨_, _, pre0 _ ?_, hrun, hended, _, _, rfl, ?_, ⟨_, rfl⟩, hW, hsame.mono (by decide) (by decide)⟩
  · show Steps p.tables e below (s₁.setTop (mkF m 0 #[.val (.ref o), .val (.int (Int32.ofNat i))] [])) _
    refine XS.aloadN X0.here hx rfl (hb hby d15_0) rfl rfl ?_
    show Steps p.tables e below (s₁.setTop (mkF m 1 #[.val (.ref o), .val (.int (Int32.ofNat i))] [(.ref o)])) _
    refine st57.trans ?_
    refine XS.ifNo X57.here hx rfl (hb hby d15_4) rfl ((if0 _ _).trans (feq (by decide : ¬ ((1 : Int32) = (0 : Int32)))).1) ?_
    refine XS.aloadN X57.here hx rfl (hb hby d15_7) rfl rfl ?_
    show Steps p.tables e below (T57.setTop (mkF m 8 #[.val (.ref o), .val (.int (Int32.ofNat i))] [(.ref o)])) _
    refine st58 _ ?_
    refine XS.iloadN X58.here hx rfl (hb hby d15_11) rfl ?_
    show Steps p.tables e below (T58.setTop (mkF m 12 #[.val (.ref o), .val (.int (Int32.ofNat i))] [(.int (Int32.ofNat i)), (.ref b)])) _
    refine st59 _ ?_
    show Steps p.tables e below (T59.setTop (mkF m 15 #[.val (.ref o), .val (.int (Int32.ofNat i))] [(.int (g i))])) _
    exact retN X59 hx (t := .char) Bd.returns (by simp) (hb hby d15_15) hr
  · show QI (g i) h0 n0 _ T59.heap _
    rw [e59]
    exact ⟨by rw [nar_id (isCh_of (hB i hi))], N59, rfl⟩
set_option maxRecDepth 65536 in
set_option maxHeartbeats 40000000 in
theorem rmCA1 (l : Launch) (Z : State) (a0 : Array Value) (hw : ∀ d ∈ tables_1, d.before a0 Z = true) (ws : List Jvm.Cond) (o b : Addr) (i n : Nat) (g : Nat → Int32)  (h0 : Heap) (n0 : Nat) (Z0 : n0 ≤ h0.size) (hn : n ≤ 200) (hi : i < n) (O : Old Z n0 h0) (SK : StrSta Z) (EO : Exa Z h0 o "java/lang/String") (FC : Fld Z h0 o "java/lang/String" "coder" "B" (.int (1 : Int32))) (FV : Fld Z h0 o "java/lang/String" "value" "[B" (.ref b)) (FB : AF Z h0 b .byte (2 * n) (Ub g)) (hB : ∀ j, j < n → isCh (g j))  :
    MetFree l (⟨"java/lang/String", "charAt", "(I)C"⟩ : MethodName) (head1 (Jvm.Cond.code (⟨"java/lang/String", "charAt", "(I)C"⟩ : MethodName) jdk_42_method_56_code 2 (some .char) :: ws) ({ frames := 4, cells := 0, slots := 0, locals := 60 } : Room)) (fun aa_ U_ => aa_ = #[(.ref o), (.int (Int32.ofNat i))] ∧ Z.Warmed39 U_.vm ∧ U_.heap = h0) (fun _ _ _ _ _ => True) (fun _ U_ o_ V_ => ∃ v_ L_, o_ = .returned v_ ∧ QI (g i) h0 n0 v_ V_.heap L_ ∧ FrameEnd U_ o_ V_ L_ ({ frames := 4, cells := 0, slots := 0, locals := 60 } : Room).cells ({ frames := 4, cells := 0, slots := 0, locals := 60 } : Room).slots) := by
  refine MetFree.of_bodySF (plainFor_of_name pn_15) hisR ?_
  intro p e s m args below meth c s₁ Bd hml0 hP hK
  obtain ⟨rfl, hZ, hh⟩ := hP
  have hx := Bd.exec
  have hby := Bd.bytes
  have hml : c.maxLocals = 2 := hml0
  have hown : s.vm.findClass "java/lang/String" = some m.cls := findClass_of_methodNamed Bd.named
  have hnm := (name_of_methodNamed Bd.named Bd.method).1
  have X0 : Stand p l e ({ frames := 4, cells := 0, slots := 0, locals := 60 } : Room) s m #[(.ref o), (.int (Int32.ofNat i))] below meth c s₁ [] 0 0 := Stand.of_body Bd
  have e0 : s₁.heap = h0 := by rw [← hh, Bd.state]; rfl
  have N0 := Fr.nil n0
  have pre0 : ∀ zz, Steps p.tables e below (s₁.setTop (mkF m 0 #[.val (.ref o), .val (.int (Int32.ofNat i))] [])) zz → Steps p.tables e below (s₁.setTop (entryFrame m #[(.ref o), (.int (Int32.ofNat i))] 2)) zz := fun zz k => castTop (ef_15 m o (Int32.ofNat i)) k
  obtain ⟨cq60, kq60, q60a, q60b, q60c⟩ := isOf hZ e0 EO
  obtain ⟨_, _, ⟨T60, L60, k60, n60⟩, -, X60, ⟨Lc60, hQ60, l60, y60, z60⟩, st60⟩ := X0.virtualBack hx (y := (⟨"java/lang/String", "isLatin1", "()Z"⟩ : MethodName)) (z := (⟨"java/lang/String", "isLatin1", "()Z"⟩ : MethodName)) hown (mvT hZ (hw _ (List.mem_of_getElem? (i := 72) rfl))) (mvT hZ (hw _ (List.mem_of_getElem? (i := 73) rfl))) (notFace_of_selects (args := #[]) (mvT hZ (hw _ (List.mem_of_getElem? (i := 75) rfl)))) (mvT hZ (hw _ (List.mem_of_getElem? (i := 75) rfl))) (mvT hZ (hw _ (List.mem_of_getElem? (i := 74) rfl))) (by decide) (backOf (W := 0) (rmIL1 l Z a0 hw [] o h0 n0 Z0 O SK EO FC) hZ (hw _ (List.mem_of_getElem? (i := 76) rfl)) (hw _ (List.mem_of_getElem? (i := 11) rfl)) (by decide) (by decide)) q60a q60c (g := (mkF m 1 #[.val (.ref o), .val (.int (Int32.ofNat i))] [(.ref o)])) rfl (by rw [hml]; rfl) (Steps.refl _) (argsL := []) (rest := []) (lenOf pd_10 rfl) rfl (by show 2 * 0 + _ ≤ _; exact Nat.le_of_eq rfl) (hb hby d15_1) (fun _ _ => ⟨rfl, e0, (by decide : 0 + 0 ≤ _), (by decide : 0 + 0 ≤ _)⟩)
  dsimp only [Pt.U, Pt.locs, Pt.cells, Pt.slots] at X60 l60 y60 z60 st60 hQ60
  subst l60 y60 z60
  obtain ⟨rfl, N60q, e60⟩ := hQ60
  have N60 := Fr.app N0 N60q
  obtain ⟨T61, X61, e61, st61⟩ := getF X60 hx hZ hown (host := "") (Or.inl (hw _ (List.mem_of_getElem? (i := 36) rfl))) Via.refl e60 FV (g := (mkF m 17 #[.val (.ref o), .val (.int (Int32.ofNat i))] [(.ref o)])) rfl rfl (hb hby d15_17)
  obtain ⟨_, _, ⟨T62, L62, k62, n62⟩, -, X62, ⟨Lc62, hQ62, l62, y62, z62⟩, st62⟩ := Jvm.LawKit.callS X61 hx (y := (⟨"java/lang/StringUTF16", "charAt", "([BI)C"⟩ : MethodName)) hown (mvT hZ (hw _ (List.mem_of_getElem? (i := 136) rfl))) (mvT hZ (hw _ (List.mem_of_getElem? (i := 137) rfl))) (mvT hZ (hw _ (List.mem_of_getElem? (i := 25) rfl))) (mvT hZ (hw _ (List.mem_of_getElem? (i := 138) rfl))) (by decide) (backOf (W := 0) (rmUCA l Z a0 hw [] b i n g h0 n0 Z0 hn hi O SK FB hB) hZ (hw _ (List.mem_of_getElem? (i := 138) rfl)) (hw _ (List.mem_of_getElem? (i := 25) rfl)) (by decide) (by decide)) (g := (mkF m 21 #[.val (.ref o), .val (.int (Int32.ofNat i))] [(.int (Int32.ofNat i)), (.ref b)])) rfl (by rw [hml]; rfl) (argsL := [(.ref b), (.int (Int32.ofNat i))]) (rest := []) (lenOf pd_15 rfl) rfl (by show 2 * 0 + _ ≤ _; exact Nat.le_of_eq rfl) (hb hby d15_21) (fun _ _ => ⟨rfl, e61, (by decide : 0 + 0 ≤ _), (by decide : 0 + 0 ≤ _)⟩)
  dsimp only [Pt.U, Pt.locs, Pt.cells, Pt.slots] at X62 l62 y62 z62 st62 hQ62
  subst l62 y62 z62
  obtain ⟨rfl, N62q, e62⟩ := hQ62
  have N62 := Fr.app N60 N62q
  obtain ⟨fs, hr, hrun, hended, hW, hsame⟩ := X62.leave (v := some (.int (nar .char (g i)))) (fun h => by rw [Bd.returns] at h; cases h)
  refine ⟨_, _, pre0 _ ?_, hrun, hended, _, _, rfl, ?_, ⟨_, rfl⟩, hW, hsame.mono (by decide) (by decide)⟩
  · show Steps p.tables e below (s₁.setTop (mkF m 0 #[.val (.ref o), .val (.int (Int32.ofNat i))] [])) _
    refine XS.aloadN X0.here hx rfl (hb hby d15_0) rfl rfl ?_
    show Steps p.tables e below (s₁.setTop (mkF m 1 #[.val (.ref o), .val (.int (Int32.ofNat i))] [(.ref o)])) _
    refine st60.trans ?_
    refine XS.ifYes X60.here hx rfl (pc0 := 4) (pc' := 16) rfl (hb hby d15_4) rfl ((if0 _ _).trans (teq (rfl : (0 : Int32) = (0 : Int32))).1) (by decide) (by decide) ?_
    refine XS.aloadN X60.here hx rfl (hb hby d15_16) rfl rfl ?_
    show Steps p.tables e below (T60.setTop (mkF m 17 #[.val (.ref o), .val (.int (Int32.ofNat i))] [(.ref o)])) _
    refine st61 _ ?_
    refine XS.iloadN X61.here hx rfl (hb hby d15_20) rfl ?_
    show Steps p.tables e below (T61.setTop (mkF m 21 #[.val (.ref o), .val (.int (Int32.ofNat i))] [(.int (Int32.ofNat i)), (.ref b)])) _
    refine st62 _ ?_
    show Steps p.tables e below (T62.setTop (mkF m 24 #[.val (.ref o), .val (.int (Int32.ofNat i))] [(.int (g i))])) _
    exact retN X62 hx (t := .char) Bd.returns (by simp) (hb hby d15_24) hr
  · show QI (g i) h0 n0 _ T62.heap _
    rw [e62]
    exact ⟨by rw [nar_id (hB i hi)], N62, rfl⟩
set_option maxRecDepth 65536 in
set_option maxHeartbeats 40000000 in
theorem rmCA (l : Launch) (Z : State) (a0 : Array Value) (hw : ∀ d ∈ tables_1, d.before a0 Z = true) (ws : List Jvm.Cond) (o : Addr) (i n : Nat) (g : Nat → Int32)  (h0 : Heap) (n0 : Nat) (Z0 : n0 ≤ h0.size) (hn : n ≤ 200) (hi : i < n) (O : Old Z n0 h0) (SK : StrSta Z) (S : Str Z h0 o n g)  :
    MetFree l (⟨"java/lang/String", "charAt", "(I)C"⟩ : MethodName) (head1 (Jvm.Cond.code (⟨"java/lang/String", "charAt", "(I)C"⟩ : MethodName) jdk_42_method_56_code 2 (some .char) :: ws) ({ frames := 4, cells := 0, slots := 0, locals := 60 } : Room)) (fun aa_ U_ => aa_ = #[(.ref o), (.int (Int32.ofNat i))] ∧ Z.Warmed39 U_.vm ∧ U_.heap = h0) (fun _ _ _ _ _ => True) (fun _ U_ o_ V_ => ∃ v_ L_, o_ = .returned v_ ∧ QI (g i) h0 n0 v_ V_.heap L_ ∧ FrameEnd U_ o_ V_ L_ ({ frames := 4, cells := 0, slots := 0, locals := 60 } : Room).cells ({ frames := 4, cells := 0, slots := 0, locals := 60 } : Room).slots) := by
  obtain ⟨EO, b, FV, ⟨FC, FB, hB⟩ | ⟨FC, FB, hB⟩⟩ := S
  · exact rmCA0 l Z a0 hw ws o b i n g h0 n0 Z0 hn hi O SK EO FC FV FB hB
  · exact rmCA1 l Z a0 hw ws o b i n g h0 n0 Z0 hn hi O SK EO FC FV FB hB
theorem d11_0 : decode jdk_42_method_55_code 0 = .ok (.aload_n 0, 1) := by decide +kernel
theorem d11_1 : decode jdk_42_method_55_code 1 = .ok (.getfield 9, 3) := by decide +kernel
theorem d11_4 : decode jdk_42_method_55_code 4 = .ok (.arraylength, 1) := by decide +kernel
theorem d11_5 : decode jdk_42_method_55_code 5 = .ok (.ifCond .ne 7, 3) := by decide +kernel
theorem d11_8 : decode jdk_42_method_55_code 8 = .ok (.iconst 1, 1) := by decide +kernel
theorem d11_9 : decode jdk_42_method_55_code 9 = .ok (.goto 4, 3) := by decide +kernel
theorem d11_12 : decode jdk_42_method_55_code 12 = .ok (.iconst 0, 1) := by decide +kernel
theorem d11_13 : decode jdk_42_method_55_code 13 = .ok (.ireturn, 1) := by decide +kernel
theorem pn_11 : plainName "java/lang/String" = true := by first | (simp [plainName, overriddenIn]; done) | decide +kernel
theorem ef_11 (m : MethodId) (x0 : Addr) : entryFrame m #[(.ref x0)] 1 = mkF m 0 #[.val (.ref x0)] [] := by first | (simp [entryFrame, mkF, argsToLocals, Value.category]; done) | rfl
set_option maxRecDepth 65536 in
set_option maxHeartbeats 40000000 in
theorem rmEMP0 (l : Launch) (Z : State) (a0 : Array Value) (hw : ∀ d ∈ tables_1, d.before a0 Z = true) (ws : List Jvm.Cond) (o b : Addr) (n : Nat) (g : Nat → Int32)  (h0 : Heap) (n0 : Nat) (Z0 : n0 ≤ h0.size) (hn : n ≤ 200) (hp : 0 < n) (EO : Exa Z h0 o "java/lang/String") (FC : Fld Z h0 o "java/lang/String" "coder" "B" (.int (0 : Int32))) (FV : Fld Z h0 o "java/lang/String" "value" "[B" (.ref b)) (FB : AF Z h0 b .byte n (Lb g))  :
    MetFree l (⟨"java/lang/String", "isEmpty", "()Z"⟩ : MethodName) (head1 (Jvm.Cond.code (⟨"java/lang/String", "isEmpty", "()Z"⟩ : MethodName) jdk_42_method_55_code 1 (some .boolean) :: ws) ({ frames := 0, cells := 0, slots := 0, locals := 0 } : Room)) (fun aa_ U_ => aa_ = #[(.ref o)] ∧ Z.Warmed39 U_.vm ∧ U_.heap = h0) (fun _ _ _ _ _ => True) (fun _ U_ o_ V_ => ∃ v_ L_, o_ = .returned v_ ∧ QI (0 : Int32) h0 n0 v_ V_.heap L_ ∧ FrameEnd U_ o_ V_ L_ ({ frames := 0, cells := 0, slots := 0, locals := 0 } : Room).cells ({ frames := 0, cells := 0, slots := 0, locals := 0 } : Room).slots) := by
  refine MetFree.of_bodySF (plainFor_of_name pn_11) hisR ?_
  intro p e s m args below meth c s₁ Bd hml0 hP hK
  obtain ⟨rfl, hZ, hh⟩ := hP
  have hx := Bd.exec
  have hby := Bd.bytes
  have hml : c.maxLocals = 1 := hml0
  have hown : s.vm.findClass "java/lang/String" = some m.cls := findClass_of_methodNamed Bd.named
  have hnm := (name_of_methodNamed Bd.named Bd.method).1
  have X0 : Stand p l e ({ frames := 0, cells := 0, slots := 0, locals := 0 } : Room) s m #[(.ref o)] below meth c s₁ [] 0 0 := Stand.of_body Bd
  have e0 : s₁.heap = h0 := by rw [← hh, Bd.state]; rfl
  have N0 := Fr.nil n0
  have pre0 : ∀ zz, Steps p.tables e below (s₁.setTop (mkF m 0 #[.val (.ref o)] [])) zz → Steps p.tables e below (s₁.setTop (entryFrame m #[(.ref o)] 1)) zz := fun zz k => castTop (ef_11 m o) k
  obtain ⟨T63, X63, e63, st63⟩ := getF X0 hx hZ hown (host := "") (Or.inl (hw _ (List.mem_of_getElem? (i := 36) rfl))) Via.refl e0 FV (g := (mkF m 1 #[.val (.ref o)] [(.ref o)])) rfl rfl (hb hby d11_1)
  obtain ⟨fs, hr, hrun, hended, hW, hsame⟩ := X63.leave (v := some (.int (0 : Int32))) (fun h => by rw [Bd.returns] at h; cases h)
  refine ⟨_, _, pre0 _ ?_, hrun, hended, _, _, rfl, ?_, ⟨_, rfl⟩, hW, hsame.mono (by decide) (by decide)⟩
  · show Steps p.tables e below (s₁.setTop (mkF m 0 #[.val (.ref o)] [])) _
    refine XS.aloadN X0.here hx rfl (hb hby d11_0) rfl rfl ?_
    show Steps p.tables e below (s₁.setTop (mkF m 1 #[.val (.ref o)] [(.ref o)])) _
    refine st63 _ ?_
    show Steps p.tables e below (T63.setTop (mkF m 4 #[.val (.ref o)] [(.ref b)])) _
    refine lenA X63 hx hZ e63 FB (g := (mkF m 4 #[.val (.ref o)] [(.ref b)])) rfl rfl (hb hby d11_4) ?_
    refine XS.ifYes X63.here hx rfl (pc0 := 5) (pc' := 12) rfl (hb hby d11_5) rfl ((if0 _ _).trans (feq (fun q => absurd (congrArg Int32.toInt q) (by rw [Int32.toInt_ofNat_small (by omega)]; intro r; change ((n : Nat) : Int) = 0 at r; omega))).2) (by decide) (by decide) ?_
    refine XS.iconst X63.here hx rfl (hb hby d11_12) ?_
    show Steps p.tables e below (T63.setTop (mkF m 13 #[.val (.ref o)] [(.int (0 : Int32))])) _
    exact retN X63 hx (t := .boolean) Bd.returns (by simp) (hb hby d11_13) hr
  · show QI (0 : Int32) h0 n0 _ T63.heap _
    rw [e63]
    exact ⟨rfl, N0, rfl⟩
set_option maxRecDepth 65536 in
set_option maxHeartbeats 40000000 in
theorem rmEMP1 (l : Launch) (Z : State) (a0 : Array Value) (hw : ∀ d ∈ tables_1, d.before a0 Z = true) (ws : List Jvm.Cond) (o b : Addr) (n : Nat) (g : Nat → Int32)  (h0 : Heap) (n0 : Nat) (Z0 : n0 ≤ h0.size) (hn : n ≤ 200) (hp : 0 < n) (EO : Exa Z h0 o "java/lang/String") (FC : Fld Z h0 o "java/lang/String" "coder" "B" (.int (1 : Int32))) (FV : Fld Z h0 o "java/lang/String" "value" "[B" (.ref b)) (FB : AF Z h0 b .byte (2 * n) (Ub g))  :
    MetFree l (⟨"java/lang/String", "isEmpty", "()Z"⟩ : MethodName) (head1 (Jvm.Cond.code (⟨"java/lang/String", "isEmpty", "()Z"⟩ : MethodName) jdk_42_method_55_code 1 (some .boolean) :: ws) ({ frames := 0, cells := 0, slots := 0, locals := 0 } : Room)) (fun aa_ U_ => aa_ = #[(.ref o)] ∧ Z.Warmed39 U_.vm ∧ U_.heap = h0) (fun _ _ _ _ _ => True) (fun _ U_ o_ V_ => ∃ v_ L_, o_ = .returned v_ ∧ QI (0 : Int32) h0 n0 v_ V_.heap L_ ∧ FrameEnd U_ o_ V_ L_ ({ frames := 0, cells := 0, slots := 0, locals := 0 } : Room).cells ({ frames := 0, cells := 0, slots := 0, locals := 0 } : Room).slots) := by
  refine MetFree.of_bodySF (plainFor_of_name pn_11) hisR ?_
  intro p e s m args below meth c s₁ Bd hml0 hP hK
  obtain ⟨rfl, hZ, hh⟩ := hP
  have hx := Bd.exec
  have hby := Bd.bytes
  have hml : c.maxLocals = 1 := hml0
  have hown : s.vm.findClass "java/lang/String" = some m.cls := findClass_of_methodNamed Bd.named
  have hnm := (name_of_methodNamed Bd.named Bd.method).1
  have X0 : Stand p l e ({ frames := 0, cells := 0, slots := 0, locals := 0 } : Room) s m #[(.ref o)] below meth c s₁ [] 0 0 := Stand.of_body Bd
  have e0 : s₁.heap = h0 := by rw [← hh, Bd.state]; rfl
  have N0 := Fr.nil n0
  have pre0 : ∀ zz, Steps p.tables e below (s₁.setTop (mkF m 0 #[.val (.ref o)] [])) zz → Steps p.tables e below (s₁.setTop (entryFrame m #[(.ref o)] 1)) zz := fun zz k => castTop (ef_11 m o) k
  obtain ⟨T64, X64, e64, st64⟩ := getF X0 hx hZ hown (host := "") (Or.inl (hw _ (List.mem_of_getElem? (i := 36) rfl))) Via.refl e0 FV (g := (mkF m 1 #[.val (.ref o)] [(.ref o)])) rfl rfl (hb hby d11_1)
  obtain ⟨fs, hr, hrun, hended, hW, hsame⟩ := X64.leave (v := some (.int (0 : Int32))) (fun h => by rw [Bd.returns] at h; cases h)
  refine ⟨_, _, pre0 _ ?_, hrun, hended, _, _, rfl, ?_, ⟨_, rfl⟩, hW, hsame.mono (by decide) (by decide)⟩
  · show Steps p.tables e below (s₁.setTop (mkF m 0 #[.val (.ref o)] [])) _
    refine XS.aloadN X0.here hx rfl (hb hby d11_0) rfl rfl ?_
    show Steps p.tables e below (s₁.setTop (mkF m 1 #[.val (.ref o)] [(.ref o)])) _
    refine st64 _ ?_
    show Steps p.tables e below (T64.setTop (mkF m 4 #[.val (.ref o)] [(.ref b)])) _
    refine lenA X64 hx hZ e64 FB (g := (mkF m 4 #[.val (.ref o)] [(.ref b)])) rfl rfl (hb hby d11_4) ?_
    refine XS.ifYes X64.here hx rfl (pc0 := 5) (pc' := 12) rfl (hb hby d11_5) rfl ((if0 _ _).trans (feq (fun q => absurd (congrArg Int32.toInt q) (by rw [Int32.toInt_ofNat_small (by omega)]; intro r; change (((2 * n) : Nat) : Int) = 0 at r; omega))).2) (by decide) (by decide) ?_
    refine XS.iconst X64.here hx rfl (hb hby d11_12) ?_
    show Steps p.tables e below (T64.setTop (mkF m 13 #[.val (.ref o)] [(.int (0 : Int32))])) _
    exact retN X64 hx (t := .boolean) Bd.returns (by simp) (hb hby d11_13) hr
  · show QI (0 : Int32) h0 n0 _ T64.heap _
    rw [e64]
    exact ⟨rfl, N0, rfl⟩
set_option maxRecDepth 65536 in
set_option maxHeartbeats 40000000 in
theorem rmEMP (l : Launch) (Z : State) (a0 : Array Value) (hw : ∀ d ∈ tables_1, d.before a0 Z = true) (ws : List Jvm.Cond) (o : Addr) (n : Nat) (g : Nat → Int32)  (h0 : Heap) (n0 : Nat) (Z0 : n0 ≤ h0.size) (hn : n ≤ 200) (hp : 0 < n) (S : Str Z h0 o n g)  :
    MetFree l (⟨"java/lang/String", "isEmpty", "()Z"⟩ : MethodName) (head1 (Jvm.Cond.code (⟨"java/lang/String", "isEmpty", "()Z"⟩ : MethodName) jdk_42_method_55_code 1 (some .boolean) :: ws) ({ frames := 0, cells := 0, slots := 0, locals := 0 } : Room)) (fun aa_ U_ => aa_ = #[(.ref o)] ∧ Z.Warmed39 U_.vm ∧ U_.heap = h0) (fun _ _ _ _ _ => True) (fun _ U_ o_ V_ => ∃ v_ L_, o_ = .returned v_ ∧ QI (0 : Int32) h0 n0 v_ V_.heap L_ ∧ FrameEnd U_ o_ V_ L_ ({ frames := 0, cells := 0, slots := 0, locals := 0 } : Room).cells ({ frames := 0, cells := 0, slots := 0, locals := 0 } : Room).slots) := by
  obtain ⟨EO, b, FV, ⟨FC, FB, hB⟩ | ⟨FC, FB, hB⟩⟩ := S
  · exact rmEMP0 l Z a0 hw ws o b n g h0 n0 Z0 hn hp EO FC FV FB
  · exact rmEMP1 l Z a0 hw ws o b n g h0 n0 Z0 hn hp EO FC FV FB
theorem d23_0 : decode method_3_code 0 = .ok (.iload_n 0, 1) := by decide +kernel
theorem d23_1 : decode method_3_code 1 = .ok (.ldc 8, 2) := by decide +kernel
theorem d23_3 : decode method_3_code 3 = .ok (.if_icmp .lt 13, 3) := by decide +kernel
theorem d23_6 : decode method_3_code 6 = .ok (.iload_n 0, 1) := by decide +kernel
theorem d23_7 : decode method_3_code 7 = .ok (.ldc 9, 2) := by decide +kernel
theorem d23_9 : decode method_3_code 9 = .ok (.if_icmp .gt 7, 3) := by decide +kernel
theorem d23_12 : decode method_3_code 12 = .ok (.iconst 1, 1) := by decide +kernel
theorem d23_13 : decode method_3_code 13 = .ok (.goto 4, 3) := by decide +kernel
theorem d23_16 : decode method_3_code 16 = .ok (.iconst 0, 1) := by decide +kernel
theorem d23_17 : decode method_3_code 17 = .ok (.ireturn, 1) := by decide +kernel
theorem pn_23 : plainName "com/example/orderly_latch/orderlylatch/name/LatchNameOfPinLaw" = true := by first | (simp [plainName, overriddenIn]; done) | decide +kernel
theorem ef_23 (m : MethodId) (x0 : Int32) : entryFrame m #[(.int x0)] 1 = mkF m 0 #[.val (.int x0)] [] := by first | (simp [entryFrame, mkF, argsToLocals, Value.category]; done) | rfl
def f_high (x : Int32) : Int32 := if x < (55296 : Int32) then (0 : Int32) else if (56319 : Int32) < x then (0 : Int32) else (1 : Int32)
set_option maxRecDepth 65536 in
set_option maxHeartbeats 40000000 in
theorem rm_high_t (l : Launch) (Z : State) (a0 : Array Value) (hw : ∀ d ∈ tables_1, d.before a0 Z = true) (ws : List Jvm.Cond) (x : Int32)  (h0 : Heap) (n0 : Nat) (Z0 : n0 ≤ h0.size)  (hc3 : x < (55296 : Int32)) :
    MetFree l (⟨"com/example/orderly_latch/orderlylatch/name/LatchNameOfPinLaw", "isHigh", "(I)Z"⟩ : MethodName) (head1 (Jvm.Cond.code (⟨"com/example/orderly_latch/orderlylatch/name/LatchNameOfPinLaw", "isHigh", "(I)Z"⟩ : MethodName) method_3_code 1 (some .boolean) :: ws) ({ frames := 0, cells := 0, slots := 0, locals := 0 } : Room)) (fun aa_ U_ => aa_ = #[(.int x)] ∧ Z.Warmed39 U_.vm ∧ U_.heap = h0) (fun _ _ _ _ _ => True) (fun _ U_ o_ V_ => ∃ v_ L_, o_ = .returned v_ ∧ QI (f_high x) h0 n0 v_ V_.heap L_ ∧ FrameEnd U_ o_ V_ L_ ({ frames := 0, cells := 0, slots := 0, locals := 0 } : Room).cells ({ frames := 0, cells := 0, slots := 0, locals := 0 } : Room).slots) := by
  refine MetFree.of_bodySF (plainFor_of_name pn_23) hisR ?_
  intro p e s m args below meth c s₁ Bd hml0 hP hK
  obtain ⟨rfl, hZ, hh⟩ := hP
  have hx := Bd.exec
  have hby := Bd.bytes
  have hml : c.maxLocals = 1 := hml0
  have hown : s.vm.findClass "com/example/orderly_latch/orderlylatch/name/LatchNameOfPinLaw" = some m.cls := findClass_of_methodNamed Bd.named
  have hnm := (name_of_methodNamed Bd.named Bd.method).1
  have X0 : Stand p l e ({ frames := 0, cells := 0, slots := 0, locals := 0 } : Room) s m #[(.int x)] below meth c s₁ [] 0 0 := Stand.of_body Bd
  have e0 : s₁.heap = h0 := by rw [← hh, Bd.state]; rfl
  have N0 := Fr.nil n0
  have pre0 : ∀ zz, Steps p.tables e below (s₁.setTop (mkF m 0 #[.val (.int x)] [])) zz → Steps p.tables e below (s₁.setTop (entryFrame m #[(.int x)] 1)) zz := fun zz k => castTop (ef_23 m x) k
  obtain ⟨fs, hr, hrun, hended, hW, hsame⟩ := X0.leave (v := some (.int (0 : Int32))) (fun h => by rw [Bd.returns] at h; cases h)
  refine ⟨_, _, pre0 _ ?_, hrun, hended, _, _, rfl, ?_, ⟨_, rfl⟩, hW, hsame.mono (by decide) (by decide)⟩
  · show Steps p.tables e below (s₁.setTop (mkF m 0 #[.val (.int x)] [])) _
    refine XS.iloadN X0.here hx rfl (hb hby d23_0) rfl ?_
    refine X0.ldcInt hx hown (mvT hZ (hw _ (List.mem_of_getElem? (i := 107) rfl))) (g := (mkF m 1 #[.val (.int x)] [(.int x)])) rfl (hb hby d23_1) _ ?_
    refine XS.icmpYes X0.here hx rfl (pc0 := 3) (pc' := 16) rfl (hb hby d23_3) rfl (tlt hc3).1 (by decide) (by decide) ?_
    refine XS.iconst X0.here hx rfl (hb hby d23_16) ?_
    show Steps p.tables e below (s₁.setTop (mkF m 17 #[.val (.int x)] [(.int (0 : Int32))])) _
    exact retN X0 hx (t := .boolean) Bd.returns (by simp) (hb hby d23_17) hr
  · show QI (f_high x) h0 n0 _ s₁.heap _
    rw [e0]
    exact ⟨by rw [f_high, if_pos hc3], N0, rfl⟩
set_option maxRecDepth 65536 in
set_option maxHeartbeats 40000000 in
theorem rm_high_ft (l : Launch) (Z : State) (a0 : Array Value) (hw : ∀ d ∈ tables_1, d.before a0 Z = true) (ws : List Jvm.Cond) (x : Int32)  (h0 : Heap) (n0 : Nat) (Z0 : n0 ≤ h0.size)  (hc3 : ¬ (x < (55296 : Int32))) (hc9 : (56319 : Int32) < x) :
    MetFree l (⟨"com/example/orderly_latch/orderlylatch/name/LatchNameOfPinLaw", "isHigh", "(I)Z"⟩ : MethodName) (head1 (Jvm.Cond.code (⟨"com/example/orderly_latch/orderlylatch/name/LatchNameOfPinLaw", "isHigh", "(I)Z"⟩ : MethodName) method_3_code 1 (some .boolean) :: ws) ({ frames := 0, cells := 0, slots := 0, locals := 0 } : Room)) (fun aa_ U_ => aa_ = #[(.int x)] ∧ Z.Warmed39 U_.vm ∧ U_.heap = h0) (fun _ _ _ _ _ => True) (fun _ U_ o_ V_ => ∃ v_ L_, o_ = .returned v_ ∧ QI (f_high x) h0 n0 v_ V_.heap L_ ∧ FrameEnd U_ o_ V_ L_ ({ frames := 0, cells := 0, slots := 0, locals := 0 } : Room).cells ({ frames := 0, cells := 0, slots := 0, locals := 0 } : Room).slots) := by
  refine MetFree.of_bodySF (plainFor_of_name pn_23) hisR ?_
  intro p e s m args below meth c s₁ Bd hml0 hP hK
  obtain ⟨rfl, hZ, hh⟩ := hP
  have hx := Bd.exec
  have hby := Bd.bytes
  have hml : c.maxLocals = 1 := hml0
  have hown : s.vm.findClass "com/example/orderly_latch/orderlylatch/name/LatchNameOfPinLaw" = some m.cls := findClass_of_methodNamed Bd.named
  have hnm := (name_of_methodNamed Bd.named Bd.method).1
  have X0 : Stand p l e ({ frames := 0, cells := 0, slots := 0, locals := 0 } : Room) s m #[(.int x)] below meth c s₁ [] 0 0 := Stand.of_body Bd
  have e0 : s₁.heap = h0 := by rw [← hh, Bd.state]; rfl
  have N0 := Fr.nil n0
  have pre0 : ∀ zz, Steps p.tables e below (s₁.setTop (mkF m 0 #[.val (.int x)] [])) zz → Steps p.tables e below (s₁.setTop (entryFrame m #[(.int x)] 1)) zz := fun zz k => castTop (ef_23 m x) k
  obtain ⟨fs, hr, hrun, hended, hW, hsame⟩ := X0.leave (v := some (.int (0 : Int32))) (fun h => by rw [Bd.returns] at h; cases h)
  refine ⟨_, _, pre0 _ ?_, hrun, hended, _, _, rfl, ?_, ⟨_, rfl⟩, hW, hsame.mono (by decide) (by decide)⟩
  · show Steps p.tables e below (s₁.setTop (mkF m 0 #[.val (.int x)] [])) _
    refine XS.iloadN X0.here hx rfl (hb hby d23_0) rfl ?_
    refine X0.ldcInt hx hown (mvT hZ (hw _ (List.mem_of_getElem? (i := 107) rfl))) (g := (mkF m 1 #[.val (.int x)] [(.int x)])) rfl (hb hby d23_1) _ ?_
    refine XS.icmpNo X0.here hx rfl (hb hby d23_3) rfl (flt hc3).1 ?_
    refine XS.iloadN X0.here hx rfl (hb hby d23_6) rfl ?_
    refine X0.ldcInt hx hown (mvT hZ (hw _ (List.mem_of_getElem? (i := 111) rfl))) (g := (mkF m 7 #[.val (.int x)] [(.int x)])) rfl (hb hby d23_7) _ ?_
    refine XS.icmpYes X0.here hx rfl (pc0 := 9) (pc' := 16) rfl (hb hby d23_9) rfl (tlt hc9).2.2.1 (by decide) (by decide) ?_
    show Steps p.tables e below (s₁.setTop (mkF m 16 #[.val (.int x)] [])) _
    refine XS.iconst X0.here hx rfl (hb hby d23_16) ?_
    show Steps p.tables e below (s₁.setTop (mkF m 17 #[.val (.int x)] [(.int (0 : Int32))])) _
    exact retN X0 hx (t := .boolean) Bd.returns (by simp) (hb hby d23_17) hr
  · show QI (f_high x) h0 n0 _ s₁.heap _
    rw [e0]
    exact ⟨by rw [f_high, if_neg hc3, if_pos hc9], N0, rfl⟩
set_option maxRecDepth 65536 in
set_option maxHeartbeats 40000000 in
theorem rm_high_ff (l : Launch) (Z : State) (a0 : Array Value) (hw : ∀ d ∈ tables_1, d.before a0 Z = true) (ws : List Jvm.Cond) (x : Int32)  (h0 : Heap) (n0 : Nat) (Z0 : n0 ≤ h0.size)  (hc3 : ¬ (x < (55296 : Int32))) (hc9 : ¬ ((56319 : Int32) < x)) :
    MetFree l (⟨"com/example/orderly_latch/orderlylatch/name/LatchNameOfPinLaw", "isHigh", "(I)Z"⟩ : MethodName) (head1 (Jvm.Cond.code (⟨"com/example/orderly_latch/orderlylatch/name/LatchNameOfPinLaw", "isHigh", "(I)Z"⟩ : MethodName) method_3_code 1 (some .boolean) :: ws) ({ frames := 0, cells := 0, slots := 0, locals := 0 } : Room)) (fun aa_ U_ => aa_ = #[(.int x)] ∧ Z.Warmed39 U_.vm ∧ U_.heap = h0) (fun _ _ _ _ _ => True) (fun _ U_ o_ V_ => ∃ v_ L_, o_ = .returned v_ ∧ QI (f_high x) h0 n0 v_ V_.heap L_ ∧ FrameEnd U_ o_ V_ L_ ({ frames := 0, cells := 0, slots := 0, locals := 0 } : Room).cells ({ frames := 0, cells := 0, slots := 0, locals := 0 } : Room).slots) := by
  refine MetFree.of_bodySF (plainFor_of_name pn_23) hisR ?_
  intro p e s m args below meth c s₁ Bd hml0 hP hK
  obtain ⟨rfl, hZ, hh⟩ := hP
  have hx := Bd.exec
  have hby := Bd.bytes
  have hml : c.maxLocals = 1 := hml0
  have hown : s.vm.findClass "com/example/orderly_latch/orderlylatch/name/LatchNameOfPinLaw" = some m.cls := findClass_of_methodNamed Bd.named
  have hnm := (name_of_methodNamed Bd.named Bd.method).1
  have X0 : Stand p l e ({ frames := 0, cells := 0, slots := 0, locals := 0 } : Room) s m #[(.int x)] below meth c s₁ [] 0 0 := Stand.of_body Bd
  have e0 : s₁.heap = h0 := by rw [← hh, Bd.state]; rfl
  have N0 := Fr.nil n0
  have pre0 : ∀ zz, Steps p.tables e below (s₁.setTop (mkF m 0 #[.val (.int x)] [])) zz → Steps p.tables e below (s₁.setTop (entryFrame m #[(.int x)] 1)) zz := fun zz k => castTop (ef_23 m x) k
  obtain ⟨fs, hr, hrun, hended, hW, hsame⟩ := X0.leave (v := some (.int (1 : Int32))) (fun h => by rw [Bd.returns] at h; cases h)
  refine ⟨_, _, pre0 _ ?_, hrun, hended, _, _, rfl, ?_, ⟨_, rfl⟩, hW, hsame.mono (by decide) (by decide)⟩
  · show Steps p.tables e below (s₁.setTop (mkF m 0 #[.val (.int x)] [])) _
    refine XS.iloadN X0.here hx rfl (hb hby d23_0) rfl ?_
    refine X0.ldcInt hx hown (mvT hZ (hw _ (List.mem_of_getElem? (i := 107) rfl))) (g := (mkF m 1 #[.val (.int x)] [(.int x)])) rfl (hb hby d23_1) _ ?_
    refine XS.icmpNo X0.here hx rfl (hb hby d23_3) rfl (flt hc3).1 ?_
    refine XS.iloadN X0.here hx rfl (hb hby d23_6) rfl ?_
    refine X0.ldcInt hx hown (mvT hZ (hw _ (List.mem_of_getElem? (i := 111) rfl))) (g := (mkF m 7 #[.val (.int x)] [(.int x)])) rfl (hb hby d23_7) _ ?_
    refine XS.icmpNo X0.here hx rfl (hb hby d23_9) rfl (flt hc9).2.2.1 ?_
    show Steps p.tables e below (s₁.setTop (mkF m 12 #[.val (.int x)] [])) _
    refine XS.iconst X0.here hx rfl (hb hby d23_12) ?_
    refine XS.goto X0.here hx rfl (pc0 := 13) (pc' := 17) rfl (hb hby d23_13) (by decide) (by decide) ?_
    show Steps p.tables e below (s₁.setTop (mkF m 17 #[.val (.int x)] [(.int (1 : Int32))])) _
    exact retN X0 hx (t := .boolean) Bd.returns (by simp) (hb hby d23_17) hr
  · show QI (f_high x) h0 n0 _ s₁.heap _
    rw [e0]
    exact ⟨by rw [f_high, if_neg hc3, if_neg hc9], N0, rfl⟩
set_option maxRecDepth 65536 in
set_option maxHeartbeats 40000000 in
theorem rm_high (l : Launch) (Z : State) (a0 : Array Value) (hw : ∀ d ∈ tables_1, d.before a0 Z = true) (ws : List Jvm.Cond) (x : Int32)  (h0 : Heap) (n0 : Nat) (Z0 : n0 ≤ h0.size)   :
    MetFree l (⟨"com/example/orderly_latch/orderlylatch/name/LatchNameOfPinLaw", "isHigh", "(I)Z"⟩ : MethodName) (head1 (Jvm.Cond.code (⟨"com/example/orderly_latch/orderlylatch/name/LatchNameOfPinLaw", "isHigh", "(I)Z"⟩ : MethodName) method_3_code 1 (some .boolean) :: ws) ({ frames := 0, cells := 0, slots := 0, locals := 0 } : Room)) (fun aa_ U_ => aa_ = #[(.int x)] ∧ Z.Warmed39 U_.vm ∧ U_.heap = h0) (fun _ _ _ _ _ => True) (fun _ U_ o_ V_ => ∃ v_ L_, o_ = .returned v_ ∧ QI (f_high x) h0 n0 v_ V_.heap L_ ∧ FrameEnd U_ o_ V_ L_ ({ frames := 0, cells := 0, slots := 0, locals := 0 } : Room).cells ({ frames := 0, cells := 0, slots := 0, locals := 0 } : Room).slots) := by
  by_cases g0 : x < (55296 : Int32)
  · exact rm_high_t l Z a0 hw ws x h0 n0 Z0  g0
  · by_cases g1 : (56319 : Int32) < x
    · exact rm_high_ft l Z a0 hw ws x h0 n0 Z0  g0 g1
    · exact rm_high_ff l Z a0 hw ws x h0 n0 Z0  g0 g1
theorem d24_0 : decode method_4_code 0 = .ok (.iload_n 0, 1) := by decide +kernel
theorem d24_1 : decode method_4_code 1 = .ok (.ldc 10, 2) := by decide +kernel
theorem d24_3 : decode method_4_code 3 = .ok (.if_icmp .lt 13, 3) := by decide +kernel
theorem d24_6 : decode method_4_code 6 = .ok (.iload_n 0, 1) := by decide +kernel
theorem d24_7 : decode method_4_code 7 = .ok (.ldc 11, 2) := by decide +kernel
theorem d24_9 : decode method_4_code 9 = .ok (.if_icmp .gt 7, 3) := by decide +kernel
theorem d24_12 : decode method_4_code 12 = .ok (.iconst 1, 1) := by decide +kernel
theorem d24_13 : decode method_4_code 13 = .ok (.goto 4, 3) := by decide +kernel
theorem d24_16 : decode method_4_code 16 = .ok (.iconst 0, 1) := by decide +kernel
theorem d24_17 : decode method_4_code 17 = .ok (.ireturn, 1) := by decide +kernel
theorem pn_24 : plainName "com/example/orderly_latch/orderlylatch/name/LatchNameOfPinLaw" = true := by first | (simp [plainName, overriddenIn]; done) | decide +kernel
theorem ef_24 (m : MethodId) (x0 : Int32) : entryFrame m #[(.int x0)] 1 = mkF m 0 #[.val (.int x0)] [] := by first | (simp [entryFrame, mkF, argsToLocals, Value.category]; done) | rfl
def f_low (x : Int32) : Int32 := if x < (56320 : Int32) then (0 : Int32) else if (57343 : Int32) < x then (0 : Int32) else (1 : Int32)
set_option maxRecDepth 65536 in
set_option maxHeartbeats 40000000 in
theorem rm_low_t (l : Launch) (Z : State) (a0 : Array Value) (hw : ∀ d ∈ tables_1, d.before a0 Z = true) (ws : List Jvm.Cond) (x : Int32)  (h0 : Heap) (n0 : Nat) (Z0 : n0 ≤ h0.size)  (hc3 : x < (56320 : Int32)) :
    MetFree l (⟨"com/example/orderly_latch/orderlylatch/name/LatchNameOfPinLaw", "isLow", "(I)Z"⟩ : MethodName) (head1 (Jvm.Cond.code (⟨"com/example/orderly_latch/orderlylatch/name/LatchNameOfPinLaw", "isLow", "(I)Z"⟩ : MethodName) method_4_code 1 (some .boolean) :: ws) ({ frames := 0, cells := 0, slots := 0, locals := 0 } : Room)) (fun aa_ U_ => aa_ = #[(.int x)] ∧ Z.Warmed39 U_.vm ∧ U_.heap = h0) (fun _ _ _ _ _ => True) (fun _ U_ o_ V_ => ∃ v_ L_, o_ = .returned v_ ∧ QI (f_low x) h0 n0 v_ V_.heap L_ ∧ FrameEnd U_ o_ V_ L_ ({ frames := 0, cells := 0, slots := 0, locals := 0 } : Room).cells ({ frames := 0, cells := 0, slots := 0, locals := 0 } : Room).slots) := by
  refine MetFree.of_bodySF (plainFor_of_name pn_24) hisR ?_
  intro p e s m args below meth c s₁ Bd hml0 hP hK
  obtain ⟨rfl, hZ, hh⟩ := hP
  have hx := Bd.exec
  have hby := Bd.bytes
  have hml : c.maxLocals = 1 := hml0
  have hown : s.vm.findClass "com/example/orderly_latch/orderlylatch/name/LatchNameOfPinLaw" = some m.cls := findClass_of_methodNamed Bd.named
  have hnm := (name_of_methodNamed Bd.named Bd.method).1
  have X0 : Stand p l e ({ frames := 0, cells := 0, slots := 0, locals := 0 } : Room) s m #[(.int x)] below meth c s₁ [] 0 0 := Stand.of_body Bd
  have e0 : s₁.heap = h0 := by rw [← hh, Bd.state]; rfl
  have N0 := Fr.nil n0
  have pre0 : ∀ zz, Steps p.tables e below (s₁.setTop (mkF m 0 #[.val (.int x)] [])) zz → Steps p.tables e below (s₁.setTop (entryFrame m #[(.int x)] 1)) zz := fun zz k => castTop (ef_24 m x) k
  obtain ⟨fs, hr, hrun, hended, hW, hsame⟩ := X0.leave (v := some (.int (0 : Int32))) (fun h => by rw [Bd.returns] at h; cases h)
  refine ⟨_, _, pre0 _ ?_, hrun, hended, _, _, rfl, ?_, ⟨_, rfl⟩, hW, hsame.mono (by decide) (by decide)⟩
  · show Steps p.tables e below (s₁.setTop (mkF m 0 #[.val (.int x)] [])) _
    refine XS.iloadN X0.here hx rfl (hb hby d24_0) rfl ?_
    refine X0.ldcInt hx hown (mvT hZ (hw _ (List.mem_of_getElem? (i := 115) rfl))) (g := (mkF m 1 #[.val (.int x)] [(.int x)])) rfl (hb hby d24_1) _ ?_
    refine XS.icmpYes X0.here hx rfl (pc0 := 3) (pc' := 16) rfl (hb hby d24_3) rfl (tlt hc3).1 (by decide) (by decide) ?_
    refine XS.iconst X0.here hx rfl (hb hby d24_16) ?_
    show Steps p.tables e below (s₁.setTop (mkF m 17 #[.val (.int x)] [(.int (0 : Int32))])) _
    exact retN X0 hx (t := .boolean) Bd.returns (by simp) (hb hby d24_17) hr
  · show QI (f_low x) h0 n0 _ s₁.heap _
    rw [e0]
    exact ⟨by rw [f_low, if_pos hc3], N0, rfl⟩
set_option maxRecDepth 65536 in
set_option maxHeartbeats 40000000 in
theorem rm_low_ft (l : Launch) (Z : State) (a0 : Array Value) (hw : ∀ d ∈ tables_1, d.before a0 Z = true) (ws : List Jvm.Cond) (x : Int32)  (h0 : Heap) (n0 : Nat) (Z0 : n0 ≤ h0.size)  (hc3 : ¬ (x < (56320 : Int32))) (hc9 : (57343 : Int32) < x) :
    MetFree l (⟨"com/example/orderly_latch/orderlylatch/name/LatchNameOfPinLaw", "isLow", "(I)Z"⟩ : MethodName) (head1 (Jvm.Cond.code (⟨"com/example/orderly_latch/orderlylatch/name/LatchNameOfPinLaw", "isLow", "(I)Z"⟩ : MethodName) method_4_code 1 (some .boolean) :: ws) ({ frames := 0, cells := 0, slots := 0, locals := 0 } : Room)) (fun aa_ U_ => aa_ = #[(.int x)] ∧ Z.Warmed39 U_.vm ∧ U_.heap = h0) (fun _ _ _ _ _ => True) (fun _ U_ o_ V_ => ∃ v_ L_, o_ = .returned v_ ∧ QI (f_low x) h0 n0 v_ V_.heap L_ ∧ FrameEnd U_ o_ V_ L_ ({ frames := 0, cells := 0, slots := 0, locals := 0 } : Room).cells ({ frames := 0, cells := 0, slots := 0, locals := 0 } : Room).slots) := by
  refine MetFree.of_bodySF (plainFor_of_name pn_24) hisR ?_
  intro p e s m args below meth c s₁ Bd hml0 hP hK
  obtain ⟨rfl, hZ, hh⟩ := hP
  have hx := Bd.exec
  have hby := Bd.bytes
  have hml : c.maxLocals = 1 := hml0
  have hown : s.vm.findClass "com/example/orderly_latch/orderlylatch/name/LatchNameOfPinLaw" = some m.cls := findClass_of_methodNamed Bd.named
  have hnm := (name_of_methodNamed Bd.named Bd.method).1
  have X0 : Stand p l e ({ frames := 0, cells := 0, slots := 0, locals := 0 } : Room) s m #[(.int x)] below meth c s₁ [] 0 0 := Stand.of_body Bd
  have e0 : s₁.heap = h0 := by rw [← hh, Bd.state]; rfl
  have N0 := Fr.nil n0
  have pre0 : ∀ zz, Steps p.tables e below (s₁.setTop (mkF m 0 #[.val (.int x)] [])) zz → Steps p.tables e below (s₁.setTop (entryFrame m #[(.int x)] 1)) zz := fun zz k => castTop (ef_24 m x) k
  obtain ⟨fs, hr, hrun, hended, hW, hsame⟩ := X0.leave (v := some (.int (0 : Int32))) (fun h => by rw [Bd.returns] at h; cases h)
  refine ⟨_, _, pre0 _ ?_, hrun, hended, _, _, rfl, ?_, ⟨_, rfl⟩, hW, hsame.mono (by decide) (by decide)⟩
  · show Steps p.tables e below (s₁.setTop (mkF m 0 #[.val (.int x)] [])) _
    refine XS.iloadN X0.here hx rfl (hb hby d24_0) rfl ?_
    refine X0.ldcInt hx hown (mvT hZ (hw _ (List.mem_of_getElem? (i := 115) rfl))) (g := (mkF m 1 #[.val (.int x)] [(.int x)])) rfl (hb hby d24_1) _ ?_
    refine XS.icmpNo X0.here hx rfl (hb hby d24_3) rfl (flt hc3).1 ?_
    refine XS.iloadN X0.here hx rfl (hb hby d24_6) rfl ?_
    refine X0.ldcInt hx hown (mvT hZ (hw _ (List.mem_of_getElem? (i := 116) rfl))) (g := (mkF m 7 #[.val (.int x)] [(.int x)])) rfl (hb hby d24_7) _ ?_
    refine XS.icmpYes X0.here hx rfl (pc0 := 9) (pc' := 16) rfl (hb hby d24_9) rfl (tlt hc9).2.2.1 (by decide) (by decide) ?_
    show Steps p.tables e below (s₁.setTop (mkF m 16 #[.val (.int x)] [])) _
    refine XS.iconst X0.here hx rfl (hb hby d24_16) ?_
    show Steps p.tables e below (s₁.setTop (mkF m 17 #[.val (.int x)] [(.int (0 : Int32))])) _
    exact retN X0 hx (t := .boolean) Bd.returns (by simp) (hb hby d24_17) hr
  · show QI (f_low x) h0 n0 _ s₁.heap _
    rw [e0]
    exact ⟨by rw [f_low, if_neg hc3, if_pos hc9], N0, rfl⟩
set_option maxRecDepth 65536 in
set_option maxHeartbeats 40000000 in
theorem rm_low_ff (l : Launch) (Z : State) (a0 : Array Value) (hw : ∀ d ∈ tables_1, d.before a0 Z = true) (ws : List Jvm.Cond) (x : Int32)  (h0 : Heap) (n0 : Nat) (Z0 : n0 ≤ h0.size)  (hc3 : ¬ (x < (56320 : Int32))) (hc9 : ¬ ((57343 : Int32) < x)) :
    MetFree l (⟨"com/example/orderly_latch/orderlylatch/name/LatchNameOfPinLaw", "isLow", "(I)Z"⟩ : MethodName) (head1 (Jvm.Cond.code (⟨"com/example/orderly_latch/orderlylatch/name/LatchNameOfPinLaw", "isLow", "(I)Z"⟩ : MethodName) method_4_code 1 (some .boolean) :: ws) ({ frames := 0, cells := 0, slots := 0, locals := 0 } : Room)) (fun aa_ U_ => aa_ = #[(.int x)] ∧ Z.Warmed39 U_.vm ∧ U_.heap = h0) (fun _ _ _ _ _ => True) (fun _ U_ o_ V_ => ∃ v_ L_, o_ = .returned v_ ∧ QI (f_low x) h0 n0 v_ V_.heap L_ ∧ FrameEnd U_ o_ V_ L_ ({ frames := 0, cells := 0, slots := 0, locals := 0 } : Room).cells ({ frames := 0, cells := 0, slots := 0, locals := 0 } : Room).slots) := by
  refine MetFree.of_bodySF (plainFor_of_name pn_24) hisR ?_
  intro p e s m args below meth c s₁ Bd hml0 hP hK
  obtain ⟨rfl, hZ, hh⟩ := hP
  have hx := Bd.exec
  have hby := Bd.bytes
  have hml : c.maxLocals = 1 := hml0
  have hown : s.vm.findClass "com/example/orderly_latch/orderlylatch/name/LatchNameOfPinLaw" = some m.cls := findClass_of_methodNamed Bd.named
  have hnm := (name_of_methodNamed Bd.named Bd.method).1
  have X0 : Stand p l e ({ frames := 0, cells := 0, slots := 0, locals := 0 } : Room) s m #[(.int x)] below meth c s₁ [] 0 0 := Stand.of_body Bd
  have e0 : s₁.heap = h0 := by rw [← hh, Bd.state]; rfl
  have N0 := Fr.nil n0
  have pre0 : ∀ zz, Steps p.tables e below (s₁.setTop (mkF m 0 #[.val (.int x)] [])) zz → Steps p.tables e below (s₁.setTop (entryFrame m #[(.int x)] 1)) zz := fun zz k => castTop (ef_24 m x) k
  obtain ⟨fs, hr, hrun, hended, hW, hsame⟩ := X0.leave (v := some (.int (1 : Int32))) (fun h => by rw [Bd.returns] at h; cases h)
  refine ⟨_, _, pre0 _ ?_, hrun, hended, _, _, rfl, ?_, ⟨_, rfl⟩, hW, hsame.mono (by decide) (by decide)⟩
  · show Steps p.tables e below (s₁.setTop (mkF m 0 #[.val (.int x)] [])) _
    refine XS.iloadN X0.here hx rfl (hb hby d24_0) rfl ?_
    refine X0.ldcInt hx hown (mvT hZ (hw _ (List.mem_of_getElem? (i := 115) rfl))) (g := (mkF m 1 #[.val (.int x)] [(.int x)])) rfl (hb hby d24_1) _ ?_
    refine XS.icmpNo X0.here hx rfl (hb hby d24_3) rfl (flt hc3).1 ?_
    refine XS.iloadN X0.here hx rfl (hb hby d24_6) rfl ?_
    refine X0.ldcInt hx hown (mvT hZ (hw _ (List.mem_of_getElem? (i := 116) rfl))) (g := (mkF m 7 #[.val (.int x)] [(.int x)])) rfl (hb hby d24_7) _ ?_
    refine XS.icmpNo X0.here hx rfl (hb hby d24_9) rfl (flt hc9).2.2.1 ?_
    show Steps p.tables e below (s₁.setTop (mkF m 12 #[.val (.int x)] [])) _
    refine XS.iconst X0.here hx rfl (hb hby d24_12) ?_
    refine XS.goto X0.here hx rfl (pc0 := 13) (pc' := 17) rfl (hb hby d24_13) (by decide) (by decide) ?_
    show Steps p.tables e below (s₁.setTop (mkF m 17 #[.val (.int x)] [(.int (1 : Int32))])) _
    exact retN X0 hx (t := .boolean) Bd.returns (by simp) (hb hby d24_17) hr
  · show QI (f_low x) h0 n0 _ s₁.heap _
    rw [e0]
    exact ⟨by rw [f_low, if_neg hc3, if_neg hc9], N0, rfl⟩
set_option maxRecDepth 65536 in
set_option maxHeartbeats 40000000 in
theorem rm_low (l : Launch) (Z : State) (a0 : Array Value) (hw : ∀ d ∈ tables_1, d.before a0 Z = true) (ws : List Jvm.Cond) (x : Int32)  (h0 : Heap) (n0 : Nat) (Z0 : n0 ≤ h0.size)   :
    MetFree l (⟨"com/example/orderly_latch/orderlylatch/name/LatchNameOfPinLaw", "isLow", "(I)Z"⟩ : MethodName) (head1 (Jvm.Cond.code (⟨"com/example/orderly_latch/orderlylatch/name/LatchNameOfPinLaw", "isLow", "(I)Z"⟩ : MethodName) method_4_code 1 (some .boolean) :: ws) ({ frames := 0, cells := 0, slots := 0, locals := 0 } : Room)) (fun aa_ U_ => aa_ = #[(.int x)] ∧ Z.Warmed39 U_.vm ∧ U_.heap = h0) (fun _ _ _ _ _ => True) (fun _ U_ o_ V_ => ∃ v_ L_, o_ = .returned v_ ∧ QI (f_low x) h0 n0 v_ V_.heap L_ ∧ FrameEnd U_ o_ V_ L_ ({ frames := 0, cells := 0, slots := 0, locals := 0 } : Room).cells ({ frames := 0, cells := 0, slots := 0, locals := 0 } : Room).slots) := by
  by_cases g0 : x < (56320 : Int32)
  · exact rm_low_t l Z a0 hw ws x h0 n0 Z0  g0
  · by_cases g1 : (57343 : Int32) < x
    · exact rm_low_ft l Z a0 hw ws x h0 n0 Z0  g0 g1
    · exact rm_low_ff l Z a0 hw ws x h0 n0 Z0  g0 g1
theorem d33_0 : decode jdk_89_method_14_code 0 = .ok (.iload_n 0, 1) := by decide +kernel
theorem d33_1 : decode jdk_89_method_14_code 1 = .ok (.ldc 75, 2) := by decide +kernel
theorem d33_3 : decode jdk_89_method_14_code 3 = .ok (.if_icmp .lt 13, 3) := by decide +kernel
theorem d33_6 : decode jdk_89_method_14_code 6 = .ok (.iload_n 0, 1) := by decide +kernel
theorem d33_7 : decode jdk_89_method_14_code 7 = .ok (.ldc 76, 2) := by decide +kernel
theorem d33_9 : decode jdk_89_method_14_code 9 = .ok (.if_icmp .ge 7, 3) := by decide +kernel
theorem d33_12 : decode jdk_89_method_14_code 12 = .ok (.iconst 1, 1) := by decide +kernel
theorem d33_13 : decode jdk_89_method_14_code 13 = .ok (.goto 4, 3) := by decide +kernel
theorem d33_16 : decode jdk_89_method_14_code 16 = .ok (.iconst 0, 1) := by decide +kernel
theorem d33_17 : decode jdk_89_method_14_code 17 = .ok (.ireturn, 1) := by decide +kernel
theorem pn_33 : plainName "java/lang/Character" = true := by first | (simp [plainName, overriddenIn]; done) | decide +kernel
theorem ef_33 (m : MethodId) (x0 : Int32) : entryFrame m #[(.int x0)] 1 = mkF m 0 #[.val (.int x0)] [] := by first | (simp [entryFrame, mkF, argsToLocals, Value.category]; done) | rfl
def f_ihs (x : Int32) : Int32 := if x < (55296 : Int32) then (0 : Int32) else if x < (56320 : Int32) then (1 : Int32) else (0 : Int32)
set_option maxRecDepth 65536 in
set_option maxHeartbeats 40000000 in
theorem rm_ihs_t (l : Launch) (Z : State) (a0 : Array Value) (hw : ∀ d ∈ tables_1, d.before a0 Z = true) (ws : List Jvm.Cond) (x : Int32)  (h0 : Heap) (n0 : Nat) (Z0 : n0 ≤ h0.size)  (hc3 : x < (55296 : Int32)) :
    MetFree l (⟨"java/lang/Character", "isHighSurrogate", "(C)Z"⟩ : MethodName) (head1 (Jvm.Cond.code (⟨"java/lang/Character", "isHighSurrogate", "(C)Z"⟩ : MethodName) jdk_89_method_14_code 1 (some .boolean) :: ws) ({ frames := 0, cells := 0, slots := 0, locals := 0 } : Room)) (fun aa_ U_ => aa_ = #[(.int x)] ∧ Z.Warmed39 U_.vm ∧ U_.heap = h0) (fun _ _ _ _ _ => True) (fun _ U_ o_ V_ => ∃ v_ L_, o_ = .returned v_ ∧ QI (f_ihs x) h0 n0 v_ V_.heap L_ ∧ FrameEnd U_ o_ V_ L_ ({ frames := 0, cells := 0, slots := 0, locals := 0 } : Room).cells ({ frames := 0, cells := 0, slots := 0, locals := 0 } : Room).slots) := by
  refine MetFree.of_bodySF (plainFor_of_name pn_33) hisR ?_
  intro p e s m args below meth c s₁ Bd hml0 hP hK
  obtain ⟨rfl, hZ, hh⟩ := hP
  have hx := Bd.exec
  have hby := Bd.bytes
  have hml : c.maxLocals = 1 := hml0
  have hown : s.vm.findClass "java/lang/Character" = some m.cls := findClass_of_methodNamed Bd.named
  have hnm := (name_of_methodNamed Bd.named Bd.method).1
  have X0 : Stand p l e ({ frames := 0, cells := 0, slots := 0, locals := 0 } : Room) s m #[(.int x)] below meth c s₁ [] 0 0 := Stand.of_body Bd
  have e0 : s₁.heap = h0 := by rw [← hh, Bd.state]; rfl
  have N0 := Fr.nil n0
  have pre0 : ∀ zz, Steps p.tables e below (s₁.setTop (mkF m 0 #[.val (.int x)] [])) zz → Steps p.tables e below (s₁.setTop (entryFrame m #[(.int x)] 1)) zz := fun zz k => castTop (ef_33 m x) k
  obtain ⟨fs, hr, hrun, hended, hW, hsame⟩ := X0.leave (v := some (.int (0 : Int32))) (fun h => by rw [Bd.returns] at h; cases h)
  refine ⟨_, _, pre0 _ ?_, hrun, hended, _, _, rfl, ?_, ⟨_, rfl⟩, hW, hsame.mono (by decide) (by decide)⟩
  · show Steps p.tables e below (s₁.setTop (mkF m 0 #[.val (.int x)] [])) _
    refine XS.iloadN X0.here hx rfl (hb hby d33_0) rfl ?_
    refine X0.ldcInt hx hown (mvT hZ (hw _ (List.mem_of_getElem? (i := 150) rfl))) (g := (mkF m 1 #[.val (.int x)] [(.int x)])) rfl (hb hby d33_1) _ ?_
    refine XS.icmpYes X0.here hx rfl (pc0 := 3) (pc' := 16) rfl (hb hby d33_3) rfl (tlt hc3).1 (by decide) (by decide) ?_
    refine XS.iconst X0.here hx rfl (hb hby d33_16) ?_
    show Steps p.tables e below (s₁.setTop (mkF m 17 #[.val (.int x)] [(.int (0 : Int32))])) _
    exact retN X0 hx (t := .boolean) Bd.returns (by simp) (hb hby d33_17) hr
  · show QI (f_ihs x) h0 n0 _ s₁.heap _
    rw [e0]
    exact ⟨by rw [f_ihs, if_pos hc3], N0, rfl⟩
set_option maxRecDepth 65536 in
set_option maxHeartbeats 40000000 in
theorem rm_ihs_ff (l : Launch) (Z : State) (a0 : Array Value) (hw : ∀ d ∈ tables_1, d.before a0 Z = true) (ws : List Jvm.Cond) (x : Int32)  (h0 : Heap) (n0 : Nat) (Z0 : n0 ≤ h0.size)  (hc3 : ¬ (x < (55296 : Int32))) (hc9 : x < (56320 : Int32)) :
    MetFree l (⟨"java/lang/Character", "isHighSurrogate", "(C)Z"⟩ : MethodName) (head1 (Jvm.Cond.code (⟨"java/lang/Character", "isHighSurrogate", "(C)Z"⟩ : MethodName) jdk_89_method_14_code 1 (some .boolean) :: ws) ({ frames := 0, cells := 0, slots := 0, locals := 0 } : Room)) (fun aa_ U_ => aa_ = #[(.int x)] ∧ Z.Warmed39 U_.vm ∧ U_.heap = h0) (fun _ _ _ _ _ => True) (fun _ U_ o_ V_ => ∃ v_ L_, o_ = .returned v_ ∧ QI (f_ihs x) h0 n0 v_ V_.heap L_ ∧ FrameEnd U_ o_ V_ L_ ({ frames := 0, cells := 0, slots := 0, locals := 0 } : Room).cells ({ frames := 0, cells := 0, slots := 0, locals := 0 } : Room).slots) := by
  refine MetFree.of_bodySF (plainFor_of_name pn_33) hisR ?_
  intro p e s m args below meth c s₁ Bd hml0 hP hK
  obtain ⟨rfl, hZ, hh⟩ := hP
  have hx := Bd.exec
  have hby := Bd.bytes
  have hml : c.maxLocals = 1 := hml0
  have hown : s.vm.findClass "java/lang/Character" = some m.cls := findClass_of_methodNamed Bd.named
  have hnm := (name_of_methodNamed Bd.named Bd.method).1
  have X0 : Stand p l e ({ frames := 0, cells := 0, slots := 0, locals := 0 } : Room) s m #[(.int x)] below meth c s₁ [] 0 0 := Stand.of_body Bd
  have e0 : s₁.heap = h0 := by rw [← hh, Bd.state]; rfl
  have N0 := Fr.nil n0
  have pre0 : ∀ zz, Steps p.tables e below (s₁.setTop (mkF m 0 #[.val (.int x)] [])) zz → Steps p.tables e below (s₁.setTop (entryFrame m #[(.int x)] 1)) zz := fun zz k => castTop (ef_33 m x) k
  obtain ⟨fs, hr, hrun, hended, hW, hsame⟩ := X0.leave (v := some (.int (1 : Int32))) (fun h => by rw [Bd.returns] at h; cases h)
  refine ⟨_, _, pre0 _ ?_, hrun, hended, _, _, rfl, ?_, ⟨_, rfl⟩, hW, hsame.mono (by decide) (by decide)⟩
  · show Steps p.tables e below (s₁.setTop (mkF m 0 #[.val (.int x)] [])) _
    refine XS.iloadN X0.here hx rfl (hb hby d33_0) rfl ?_
    refine X0.ldcInt hx hown (mvT hZ (hw _ (List.mem_of_getElem? (i := 150) rfl))) (g := (mkF m 1 #[.val (.int x)] [(.int x)])) rfl (hb hby d33_1) _ ?_
    refine XS.icmpNo X0.here hx rfl (hb hby d33_3) rfl (flt hc3).1 ?_
    refine XS.iloadN X0.here hx rfl (hb hby d33_6) rfl ?_
    refine X0.ldcInt hx hown (mvT hZ (hw _ (List.mem_of_getElem? (i := 151) rfl))) (g := (mkF m 7 #[.val (.int x)] [(.int x)])) rfl (hb hby d33_7) _ ?_
    refine XS.icmpNo X0.here hx rfl (hb hby d33_9) rfl (tlt hc9).2.1 ?_
    show Steps p.tables e below (s₁.setTop (mkF m 12 #[.val (.int x)] [])) _
    refine XS.iconst X0.here hx rfl (hb hby d33_12) ?_
    refine XS.goto X0.here hx rfl (pc0 := 13) (pc' := 17) rfl (hb hby d33_13) (by decide) (by decide) ?_
    show Steps p.tables e below (s₁.setTop (mkF m 17 #[.val (.int x)] [(.int (1 : Int32))])) _
    exact retN X0 hx (t := .boolean) Bd.returns (by simp) (hb hby d33_17) hr
  · show QI (f_ihs x) h0 n0 _ s₁.heap _
    rw [e0]
    exact ⟨by rw [f_ihs, if_neg hc3, if_pos hc9], N0, rfl⟩
set_option maxRecDepth 65536 in
set_option maxHeartbeats 40000000 in
theorem rm_ihs_ft (l : Launch) (Z : State) (a0 : Array Value) (hw : ∀ d ∈ tables_1, d.before a0 Z = true) (ws : List Jvm.Cond) (x : Int32)  (h0 : Heap) (n0 : Nat) (Z0 : n0 ≤ h0.size)  (hc3 : ¬ (x < (55296 : Int32))) (hc9 : ¬ (x < (56320 : Int32))) :
    MetFree l (⟨"java/lang/Character", "isHighSurrogate", "(C)Z"⟩ : MethodName) (head1 (Jvm.Cond.code (⟨"java/lang/Character", "isHighSurrogate", "(C)Z"⟩ : MethodName) jdk_89_method_14_code 1 (some .boolean) :: ws) ({ frames := 0, cells := 0, slots := 0, locals := 0 } : Room)) (fun aa_ U_ => aa_ = #[(.int x)] ∧ Z.Warmed39 U_.vm ∧ U_.heap = h0) (fun _ _ _ _ _ => True) (fun _ U_ o_ V_ => ∃ v_ L_, o_ = .returned v_ ∧ QI (f_ihs x) h0 n0 v_ V_.heap L_ ∧ FrameEnd U_ o_ V_ L_ ({ frames := 0, cells := 0, slots := 0, locals := 0 } : Room).cells ({ frames := 0, cells := 0, slots := 0, locals := 0 } : Room).slots) := by
  refine MetFree.of_bodySF (plainFor_of_name pn_33) hisR ?_
  intro p e s m args below meth c s₁ Bd hml0 hP hK
  obtain ⟨rfl, hZ, hh⟩ := hP
  have hx := Bd.exec
  have hby := Bd.bytes
  have hml : c.maxLocals = 1 := hml0
  have hown : s.vm.findClass "java/lang/Character" = some m.cls := findClass_of_methodNamed Bd.named
  have hnm := (name_of_methodNamed Bd.named Bd.method).1
  have X0 : Stand p l e ({ frames := 0, cells := 0, slots := 0, locals := 0 } : Room) s m #[(.int x)] below meth c s₁ [] 0 0 := Stand.of_body Bd
  have e0 : s₁.heap = h0 := by rw [← hh, Bd.state]; rfl
  have N0 := Fr.nil n0
  have pre0 : ∀ zz, Steps p.tables e below (s₁.setTop (mkF m 0 #[.val (.int x)] [])) zz → Steps p.tables e below (s₁.setTop (entryFrame m #[(.int x)] 1)) zz := fun zz k => castTop (ef_33 m x) k
  obtain ⟨fs, hr, hrun, hended, hW, hsame⟩ := X0.leave (v := some (.int (0 : Int32))) (fun h => by rw [Bd.returns] at h; cases h)
  refine ⟨_, _, pre0 _ ?_, hrun, hended, _, _, rfl, ?_, ⟨_, rfl⟩, hW, hsame.mono (by decide) (by decide)⟩
  · show Steps p.tables e below (s₁.setTop (mkF m 0 #[.val (.int x)] [])) _
    refine XS.iloadN X0.here hx rfl (hb hby d33_0) rfl ?_
    refine X0.ldcInt hx hown (mvT hZ (hw _ (List.mem_of_getElem? (i := 150) rfl))) (g := (mkF m 1 #[.val (.int x)] [(.int x)])) rfl (hb hby d33_1) _ ?_
    refine XS.icmpNo X0.here hx rfl (hb hby d33_3) rfl (flt hc3).1 ?_
    refine XS.iloadN X0.here hx rfl (hb hby d33_6) rfl ?_
    refine X0.ldcInt hx hown (mvT hZ (hw _ (List.mem_of_getElem? (i := 151) rfl))) (g := (mkF m 7 #[.val (.int x)] [(.int x)])) rfl (hb hby d33_7) _ ?_
    refine XS.icmpYes X0.here hx rfl (pc0 := 9) (pc' := 16) rfl (hb hby d33_9) rfl (flt hc9).2.1 (by decide) (by decide) ?_
    show Steps p.tables e below (s₁.setTop (mkF m 16 #[.val (.int x)] [])) _
    refine XS.iconst X0.here hx rfl (hb hby d33_16) ?_
    show Steps p.tables e below (s₁.setTop (mkF m 17 #[.val (.int x)] [(.int (0 : Int32))])) _
    exact retN X0 hx (t := .boolean) Bd.returns (by simp) (hb hby d33_17) hr
  · show QI (f_ihs x) h0 n0 _ s₁.heap _
    rw [e0]
    exact ⟨by rw [f_ihs, if_neg hc3, if_neg hc9], N0, rfl⟩
set_option maxRecDepth 65536 in
set_option maxHeartbeats 40000000 in
theorem rm_ihs (l : Launch) (Z : State) (a0 : Array Value) (hw : ∀ d ∈ tables_1, d.before a0 Z = true) (ws : List Jvm.Cond) (x : Int32)  (h0 : Heap) (n0 : Nat) (Z0 : n0 ≤ h0.size)   :
    MetFree l (⟨"java/lang/Character", "isHighSurrogate", "(C)Z"⟩ : MethodName) (head1 (Jvm.Cond.code (⟨"java/lang/Character", "isHighSurrogate", "(C)Z"⟩ : MethodName) jdk_89_method_14_code 1 (some .boolean) :: ws) ({ frames := 0, cells := 0, slots := 0, locals := 0 } : Room)) (fun aa_ U_ => aa_ = #[(.int x)] ∧ Z.Warmed39 U_.vm ∧ U_.heap = h0) (fun _ _ _ _ _ => True) (fun _ U_ o_ V_ => ∃ v_ L_, o_ = .returned v_ ∧ QI (f_ihs x) h0 n0 v_ V_.heap L_ ∧ FrameEnd U_ o_ V_ L_ ({ frames := 0, cells := 0, slots := 0, locals := 0 } : Room).cells ({ frames := 0, cells := 0, slots := 0, locals := 0 } : Room).slots) := by
  by_cases g0 : x < (55296 : Int32)
  · exact rm_ihs_t l Z a0 hw ws x h0 n0 Z0  g0
  · by_cases g1 : x < (56320 : Int32)
    · exact rm_ihs_ff l Z a0 hw ws x h0 n0 Z0  g0 g1
    · exact rm_ihs_ft l Z a0 hw ws x h0 n0 Z0  g0 g1
theorem d35_0 : decode jdk_89_method_15_code 0 = .ok (.iload_n 0, 1) := by decide +kernel
theorem d35_1 : decode jdk_89_method_15_code 1 = .ok (.ldc 76, 2) := by decide +kernel
theorem d35_3 : decode jdk_89_method_15_code 3 = .ok (.if_icmp .lt 13, 3) := by decide +kernel
theorem d35_6 : decode jdk_89_method_15_code 6 = .ok (.iload_n 0, 1) := by decide +kernel
theorem d35_7 : decode jdk_89_method_15_code 7 = .ok (.ldc 77, 2) := by decide +kernel
theorem d35_9 : decode jdk_89_method_15_code 9 = .ok (.if_icmp .ge 7, 3) := by decide +kernel
theorem d35_12 : decode jdk_89_method_15_code 12 = .ok (.iconst 1, 1) := by decide +kernel
theorem d35_13 : decode jdk_89_method_15_code 13 = .ok (.goto 4, 3) := by decide +kernel
theorem d35_16 : decode jdk_89_method_15_code 16 = .ok (.iconst 0, 1) := by decide +kernel
theorem d35_17 : decode jdk_89_method_15_code 17 = .ok (.ireturn, 1) := by decide +kernel
theorem pn_35 : plainName "java/lang/Character" = true := by first | (simp [plainName, overriddenIn]; done) | decide +kernel
theorem ef_35 (m : MethodId) (x0 : Int32) : entryFrame m #[(.int x0)] 1 = mkF m 0 #[.val (.int x0)] [] := by first | (simp [entryFrame, mkF, argsToLocals, Value.category]; done) | rfl
def f_ils (x : Int32) : Int32 := if x < (56320 : Int32) then (0 : Int32) else if x < (57344 : Int32) then (1 : Int32) else (0 : Int32)
set_option maxRecDepth 65536 in
set_option maxHeartbeats 40000000 in
theorem rm_ils_t (l : Launch) (Z : State) (a0 : Array Value) (hw : ∀ d ∈ tables_1, d.before a0 Z = true) (ws : List Jvm.Cond) (x : Int32)  (h0 : Heap) (n0 : Nat) (Z0 : n0 ≤ h0.size)  (hc3 : x < (56320 : Int32)) :
    MetFree l (⟨"java/lang/Character", "isLowSurrogate", "(C)Z"⟩ : MethodName) (head1 (Jvm.Cond.code (⟨"java/lang/Character", "isLowSurrogate", "(C)Z"⟩ : MethodName) jdk_89_method_15_code 1 (some .boolean) :: ws) ({ frames := 0, cells := 0, slots := 0, locals := 0 } : Room)) (fun aa_ U_ => aa_ = #[(.int x)] ∧ Z.Warmed39 U_.vm ∧ U_.heap = h0) (fun _ _ _ _ _ => True) (fun _ U_ o_ V_ => ∃ v_ L_, o_ = .returned v_ ∧ QI (f_ils x) h0 n0 v_ V_.heap L_ ∧ FrameEnd U_ o_ V_ L_ ({ frames := 0, cells := 0, slots := 0, locals := 0 } : Room).cells ({ frames := 0, cells := 0, slots := 0, locals := 0 } : Room).slots) := by
  refine MetFree.of_bodySF (plainFor_of_name pn_35) hisR ?_
  intro p e s m args below meth c s₁ Bd hml0 hP hK
  obtain ⟨rfl, hZ, hh⟩ := hP
  have hx := Bd.exec
  have hby := Bd.bytes
  have hml : c.maxLocals = 1 := hml0
  have hown : s.vm.findClass "java/lang/Character" = some m.cls := findClass_of_methodNamed Bd.named
  have hnm := (name_of_methodNamed Bd.named Bd.method).1
  have X0 : Stand p l e ({ frames := 0, cells := 0, slots := 0, locals := 0 } : Room) s m #[(.int x)] below meth c s₁ [] 0 0 := Stand.of_body Bd
  have e0 : s₁.heap = h0 := by rw [← hh, Bd.state]; rfl
  have N0 := Fr.nil n0
  have pre0 : ∀ zz, Steps p.tables e below (s₁.setTop (mkF m 0 #[.val (.int x)] [])) zz → Steps p.tables e below (s₁.setTop (entryFrame m #[(.int x)] 1)) zz := fun zz k => castTop (ef_35 m x) k
  obtain ⟨fs, hr, hrun, hended, hW, hsame⟩ := X0.leave (v := some (.int (0 : Int32))) (fun h => by rw [Bd.returns] at h; cases h)
  refine ⟨_, _, pre0 _ ?_, hrun, hended, _, _, rfl, ?_, ⟨_, rfl⟩, hW, hsame.mono (by decide) (by decide)⟩
  · show Steps p.tables e below (s₁.setTop (mkF m 0 #[.val (.int x)] [])) _
    refine XS.iloadN X0.here hx rfl (hb hby d35_0) rfl ?_
    refine X0.ldcInt hx hown (mvT hZ (hw _ (List.mem_of_getElem? (i := 151) rfl))) (g := (mkF m 1 #[.val (.int x)] [(.int x)])) rfl (hb hby d35_1) _ ?_
    refine XS.icmpYes X0.here hx rfl (pc0 := 3) (pc' := 16) rfl (hb hby d35_3) rfl (tlt hc3).1 (by decide) (by decide) ?_
    refine XS.iconst X0.here hx rfl (hb hby d35_16) ?_
    show Steps p.tables e below (s₁.setTop (mkF m 17 #[.val (.int x)] [(.int (0 : Int32))])) _
    exact retN X0 hx (t := .boolean) Bd.returns (by simp) (hb hby d35_17) hr
  · show QI (f_ils x) h0 n0 _ s₁.heap _
    rw [e0]
    exact ⟨by rw [f_ils, if_pos hc3], N0, rfl⟩
set_option maxRecDepth 65536 in
set_option maxHeartbeats 40000000 in
theorem rm_ils_ff (l : Launch) (Z : State) (a0 : Array Value) (hw : ∀ d ∈ tables_1, d.before a0 Z = true) (ws : List Jvm.Cond) (x : Int32)  (h0 : Heap) (n0 : Nat) (Z0 : n0 ≤ h0.size)  (hc3 : ¬ (x < (56320 : Int32))) (hc9 : x < (57344 : Int32)) :
    MetFree l (⟨"java/lang/Character", "isLowSurrogate", "(C)Z"⟩ : MethodName) (head1 (Jvm.Cond.code (⟨"java/lang/Character", "isLowSurrogate", "(C)Z"⟩ : MethodName) jdk_89_method_15_code 1 (some .boolean) :: ws) ({ frames := 0, cells := 0, slots := 0, locals := 0 } : Room)) (fun aa_ U_ => aa_ = #[(.int x)] ∧ Z.Warmed39 U_.vm ∧ U_.heap = h0) (fun _ _ _ _ _ => True) (fun _ U_ o_ V_ => ∃ v_ L_, o_ = .returned v_ ∧ QI (f_ils x) h0 n0 v_ V_.heap L_ ∧ FrameEnd U_ o_ V_ L_ ({ frames := 0, cells := 0, slots := 0, locals := 0 } : Room).cells ({ frames := 0, cells := 0, slots := 0, locals := 0 } : Room).slots) := by
  refine MetFree.of_bodySF (plainFor_of_name pn_35) hisR ?_
  intro p e s m args below meth c s₁ Bd hml0 hP hK
  obtain ⟨rfl, hZ, hh⟩ := hP
  have hx := Bd.exec
  have hby := Bd.bytes
  have hml : c.maxLocals = 1 := hml0
  have hown : s.vm.findClass "java/lang/Character" = some m.cls := findClass_of_methodNamed Bd.named
  have hnm := (name_of_methodNamed Bd.named Bd.method).1
  have X0 : Stand p l e ({ frames := 0, cells := 0, slots := 0, locals := 0 } : Room) s m #[(.int x)] below meth c s₁ [] 0 0 := Stand.of_body Bd
  have e0 : s₁.heap = h0 := by rw [← hh, Bd.state]; rfl
  have N0 := Fr.nil n0
  have pre0 : ∀ zz, Steps p.tables e below (s₁.setTop (mkF m 0 #[.val (.int x)] [])) zz → Steps p.tables e below (s₁.setTop (entryFrame m #[(.int x)] 1)) zz := fun zz k => castTop (ef_35 m x) k
  obtain ⟨fs, hr, hrun, hended, hW, hsame⟩ := X0.leave (v := some (.int (1 : Int32))) (fun h => by rw [Bd.returns] at h; cases h)
  refine ⟨_, _, pre0 _ ?_, hrun, hended, _, _, rfl, ?_, ⟨_, rfl⟩, hW, hsame.mono (by decide) (by decide)⟩
  · show Steps p.tables e below (s₁.setTop (mkF m 0 #[.val (.int x)] [])) _
    refine XS.iloadN X0.here hx rfl (hb hby d35_0) rfl ?_
    refine X0.ldcInt hx hown (mvT hZ (hw _ (List.mem_of_getElem? (i := 151) rfl))) (g := (mkF m 1 #[.val (.int x)] [(.int x)])) rfl (hb hby d35_1) _ ?_
    refine XS.icmpNo X0.here hx rfl (hb hby d35_3) rfl (flt hc3).1 ?_
    refine XS.iloadN X0.here hx rfl (hb hby d35_6) rfl ?_
    refine X0.ldcInt hx hown (mvT hZ (hw _ (List.mem_of_getElem? (i := 155) rfl))) (g := (mkF m 7 #[.val (.int x)] [(.int x)])) rfl (hb hby d35_7) _ ?_
    refine XS.icmpNo X0.here hx rfl (hb hby d35_9) rfl (tlt hc9).2.1 ?_
    show Steps p.tables e below (s₁.setTop (mkF m 12 #[.val (.int x)] [])) _
    refine XS.iconst X0.here hx rfl (hb hby d35_12) ?_
    refine XS.goto X0.here hx rfl (pc0 := 13) (pc' := 17) rfl (hb hby d35_13) (by decide) (by decide) ?_
    show Steps p.tables e below (s₁.setTop (mkF m 17 #[.val (.int x)] [(.int (1 : Int32))])) _
    exact retN X0 hx (t := .boolean) Bd.returns (by simp) (hb hby d35_17) hr
  · show QI (f_ils x) h0 n0 _ s₁.heap _
    rw [e0]
    exact ⟨by rw [f_ils, if_neg hc3, if_pos hc9], N0, rfl⟩
set_option maxRecDepth 65536 in
set_option maxHeartbeats 40000000 in
theorem rm_ils_ft (l : Launch) (Z : State) (a0 : Array Value) (hw : ∀ d ∈ tables_1, d.before a0 Z = true) (ws : List Jvm.Cond) (x : Int32)  (h0 : Heap) (n0 : Nat) (Z0 : n0 ≤ h0.size)  (hc3 : ¬ (x < (56320 : Int32))) (hc9 : ¬ (x < (57344 : Int32))) :
    MetFree l (⟨"java/lang/Character", "isLowSurrogate", "(C)Z"⟩ : MethodName) (head1 (Jvm.Cond.code (⟨"java/lang/Character", "isLowSurrogate", "(C)Z"⟩ : MethodName) jdk_89_method_15_code 1 (some .boolean) :: ws) ({ frames := 0, cells := 0, slots := 0, locals := 0 } : Room)) (fun aa_ U_ => aa_ = #[(.int x)] ∧ Z.Warmed39 U_.vm ∧ U_.heap = h0) (fun _ _ _ _ _ => True) (fun _ U_ o_ V_ => ∃ v_ L_, o_ = .returned v_ ∧ QI (f_ils x) h0 n0 v_ V_.heap L_ ∧ FrameEnd U_ o_ V_ L_ ({ frames := 0, cells := 0, slots := 0, locals := 0 } : Room).cells ({ frames := 0, cells := 0, slots := 0, locals := 0 } : Room).slots) := by
  refine MetFree.of_bodySF (plainFor_of_name pn_35) hisR ?_
  intro p e s m args below meth c s₁ Bd hml0 hP hK
  obtain ⟨rfl, hZ, hh⟩ := hP
  have hx := Bd.exec
  have hby := Bd.bytes
  have hml : c.maxLocals = 1 := hml0
  have hown : s.vm.findClass "java/lang/Character" = some m.cls := findClass_of_methodNamed Bd.named
  have hnm := (name_of_methodNamed Bd.named Bd.method).1
  have X0 : Stand p l e ({ frames := 0, cells := 0, slots := 0, locals := 0 } : Room) s m #[(.int x)] below meth c s₁ [] 0 0 := Stand.of_body Bd
  have e0 : s₁.heap = h0 := by rw [← hh, Bd.state]; rfl
  have N0 := Fr.nil n0
  have pre0 : ∀ zz, Steps p.tables e below (s₁.setTop (mkF m 0 #[.val (.int x)] [])) zz → Steps p.tables e below (s₁.setTop (entryFrame m #[(.int x)] 1)) zz := fun zz k => castTop (ef_35 m x) k
  obtain ⟨fs, hr, hrun, hended, hW, hsame⟩ := X0.leave (v := some (.int (0 : Int32))) (fun h => by rw [Bd.returns] at h; cases h)
  refine ⟨_, _, pre0 _ ?_, hrun, hended, _, _, rfl, ?_, ⟨_, rfl⟩, hW, hsame.mono (by decide) (by decide)⟩
  · show Steps p.tables e below (s₁.setTop (mkF m 0 #[.val (.int x)] [])) _
    refine XS.iloadN X0.here hx rfl (hb hby d35_0) rfl ?_
    refine X0.ldcInt hx hown (mvT hZ (hw _ (List.mem_of_getElem? (i := 151) rfl))) (g := (mkF m 1 #[.val (.int x)] [(.int x)])) rfl (hb hby d35_1) _ ?_
    refine XS.icmpNo X0.here hx rfl (hb hby d35_3) rfl (flt hc3).1 ?_
    refine XS.iloadN X0.here hx rfl (hb hby d35_6) rfl ?_
    refine X0.ldcInt hx hown (mvT hZ (hw _ (List.mem_of_getElem? (i := 155) rfl))) (g := (mkF m 7 #[.val (.int x)] [(.int x)])) rfl (hb hby d35_7) _ ?_
    refine XS.icmpYes X0.here hx rfl (pc0 := 9) (pc' := 16) rfl (hb hby d35_9) rfl (flt hc9).2.1 (by decide) (by decide) ?_
    show Steps p.tables e below (s₁.setTop (mkF m 16 #[.val (.int x)] [])) _
    refine XS.iconst X0.here hx rfl (hb hby d35_16) ?_
    show Steps p.tables e below (s₁.setTop (mkF m 17 #[.val (.int x)] [(.int (0 : Int32))])) _
    exact retN X0 hx (t := .boolean) Bd.returns (by simp) (hb hby d35_17) hr
  · show QI (f_ils x) h0 n0 _ s₁.heap _
    rw [e0]
    exact ⟨by rw [f_ils, if_neg hc3, if_neg hc9], N0, rfl⟩
set_option maxRecDepth 65536 in
set_option maxHeartbeats 40000000 in
theorem rm_ils (l : Launch) (Z : State) (a0 : Array Value) (hw : ∀ d ∈ tables_1, d.before a0 Z = true) (ws : List Jvm.Cond) (x : Int32)  (h0 : Heap) (n0 : Nat) (Z0 : n0 ≤ h0.size)   :
    MetFree l (⟨"java/lang/Character", "isLowSurrogate", "(C)Z"⟩ : MethodName) (head1 (Jvm.Cond.code (⟨"java/lang/Character", "isLowSurrogate", "(C)Z"⟩ : MethodName) jdk_89_method_15_code 1 (some .boolean) :: ws) ({ frames := 0, cells := 0, slots := 0, locals := 0 } : Room)) (fun aa_ U_ => aa_ = #[(.int x)] ∧ Z.Warmed39 U_.vm ∧ U_.heap = h0) (fun _ _ _ _ _ => True) (fun _ U_ o_ V_ => ∃ v_ L_, o_ = .returned v_ ∧ QI (f_ils x) h0 n0 v_ V_.heap L_ ∧ FrameEnd U_ o_ V_ L_ ({ frames := 0, cells := 0, slots := 0, locals := 0 } : Room).cells ({ frames := 0, cells := 0, slots := 0, locals := 0 } : Room).slots) := by
  by_cases g0 : x < (56320 : Int32)
  · exact rm_ils_t l Z a0 hw ws x h0 n0 Z0  g0
  · by_cases g1 : x < (57344 : Int32)
    · exact rm_ils_ff l Z a0 hw ws x h0 n0 Z0  g0 g1
    · exact rm_ils_ft l Z a0 hw ws x h0 n0 Z0  g0 g1
theorem d34_0 : decode jdk_89_method_16_code 0 = .ok (.iload_n 0, 1) := by decide +kernel
theorem d34_1 : decode jdk_89_method_16_code 1 = .ok (.ldc 75, 2) := by decide +kernel
theorem d34_3 : decode jdk_89_method_16_code 3 = .ok (.if_icmp .lt 13, 3) := by decide +kernel
theorem d34_6 : decode jdk_89_method_16_code 6 = .ok (.iload_n 0, 1) := by decide +kernel
theorem d34_7 : decode jdk_89_method_16_code 7 = .ok (.ldc 77, 2) := by decide +kernel
theorem d34_9 : decode jdk_89_method_16_code 9 = .ok (.if_icmp .ge 7, 3) := by decide +kernel
theorem d34_12 : decode jdk_89_method_16_code 12 = .ok (.iconst 1, 1) := by decide +kernel
theorem d34_13 : decode jdk_89_method_16_code 13 = .ok (.goto 4, 3) := by decide +kernel
theorem d34_16 : decode jdk_89_method_16_code 16 = .ok (.iconst 0, 1) := by decide +kernel
theorem d34_17 : decode jdk_89_method_16_code 17 = .ok (.ireturn, 1) := by decide +kernel
theorem pn_34 : plainName "java/lang/Character" = true := by first | (simp [plainName, overriddenIn]; done) | decide +kernel
theorem ef_34 (m : MethodId) (x0 : Int32) : entryFrame m #[(.int x0)] 1 = mkF m 0 #[.val (.int x0)] [] := by first | (simp [entryFrame, mkF, argsToLocals, Value.category]; done) | rfl
def f_isu (x : Int32) : Int32 := if x < (55296 : Int32) then (0 : Int32) else if x < (57344 : Int32) then (1 : Int32) else (0 : Int32)
set_option maxRecDepth 65536 in
set_option maxHeartbeats 40000000 in
theorem rm_isu_t (l : Launch) (Z : State) (a0 : Array Value) (hw : ∀ d ∈ tables_1, d.before a0 Z = true) (ws : List Jvm.Cond) (x : Int32)  (h0 : Heap) (n0 : Nat) (Z0 : n0 ≤ h0.size)  (hc3 : x < (55296 : Int32)) :
    MetFree l (⟨"java/lang/Character", "isSurrogate", "(C)Z"⟩ : MethodName) (head1 (Jvm.Cond.code (⟨"java/lang/Character", "isSurrogate", "(C)Z"⟩ : MethodName) jdk_89_method_16_code 1 (some .boolean) :: ws) ({ frames := 0, cells := 0, slots := 0, locals := 0 } : Room)) (fun aa_ U_ => aa_ = #[(.int x)] ∧ Z.Warmed39 U_.vm ∧ U_.heap = h0) (fun _ _ _ _ _ => True) (fun _ U_ o_ V_ => ∃ v_ L_, o_ = .returned v_ ∧ QI (f_isu x) h0 n0 v_ V_.heap L_ ∧ FrameEnd U_ o_ V_ L_ ({ frames := 0, cells := 0, slots := 0, locals := 0 } : Room).cells ({ frames := 0, cells := 0, slots := 0, locals := 0 } : Room).slots) := by
  refine MetFree.of_bodySF (plainFor_of_name pn_34) hisR ?_
  intro p e s m args below meth c s₁ Bd hml0 hP hK
  obtain ⟨rfl, hZ, hh⟩ := hP
  have hx := Bd.exec
  have hby := Bd.bytes
  have hml : c.maxLocals = 1 := hml0
  have hown : s.vm.findClass "java/lang/Character" = some m.cls := findClass_of_methodNamed Bd.named
  have hnm := (name_of_methodNamed Bd.named Bd.method).1
  have X0 : Stand p l e ({ frames := 0, cells := 0, slots := 0, locals := 0 } : Room) s m #[(.int x)] below meth c s₁ [] 0 0 := Stand.of_body Bd
  have e0 : s₁.heap = h0 := by rw [← hh, Bd.state]; rfl
  have N0 := Fr.nil n0
  have pre0 : ∀ zz, Steps p.tables e below (s₁.setTop (mkF m 0 #[.val (.int x)] [])) zz → Steps p.tables e below (s₁.setTop (entryFrame m #[(.int x)] 1)) zz := fun zz k => castTop (ef_34 m x) k
  obtain ⟨fs, hr, hrun, hended, hW, hsame⟩ := X0.leave (v := some (.int (0 : Int32))) (fun h => by rw [Bd.returns] at h; cases h)
  refine ⟨_, _, pre0 _ ?_, hrun, hended, _, _, rfl, ?_, ⟨_, rfl⟩, hW, hsame.mono (by decide) (by decide)⟩
  · show Steps p.tables e below (s₁.setTop (mkF m 0 #[.val (.int x)] [])) _
    refine XS.iloadN X0.here hx rfl (hb hby d34_0) rfl ?_
    refine X0.ldcInt hx hown (mvT hZ (hw _ (List.mem_of_getElem? (i := 150) rfl))) (g := (mkF m 1 #[.val (.int x)] [(.int x)])) rfl (hb hby d34_1) _ ?_
    refine XS.icmpYes X0.here hx rfl (pc0 := 3) (pc' := 16) rfl (hb hby d34_3) rfl (tlt hc3).1 (by decide) (by decide) ?_
    refine XS.iconst X0.here hx rfl (hb hby d34_16) ?_
    show Steps p.tables e below (s₁.setTop (mkF m 17 #[.val (.int x)] [(.int (0 : Int32))])) _
    exact retN X0 hx (t := .boolean) Bd.returns (by simp) (hb hby d34_17) hr
  · show QI (f_isu x) h0 n0 _ s₁.heap _
    rw [e0]
    exact ⟨by rw [f_isu, if_pos hc3], N0, rfl⟩
set_option maxRecDepth 65536 in
set_option maxHeartbeats 40000000 in
theorem rm_isu_ff (l : Launch) (Z : State) (a0 : Array Value) (hw : ∀ d ∈ tables_1, d.before a0 Z = true) (ws : List Jvm.Cond) (x : Int32)  (h0 : Heap) (n0 : Nat) (Z0 : n0 ≤ h0.size)  (hc3 : ¬ (x < (55296 : Int32))) (hc9 : x < (57344 : Int32)) :
    MetFree l (⟨"java/lang/Character", "isSurrogate", "(C)Z"⟩ : MethodName) (head1 (Jvm.Cond.code (⟨"java/lang/Character", "isSurrogate", "(C)Z"⟩ : MethodName) jdk_89_method_16_code 1 (some .boolean) :: ws) ({ frames := 0, cells := 0, slots := 0, locals := 0 } : Room)) (fun aa_ U_ => aa_ = #[(.int x)] ∧ Z.Warmed39 U_.vm ∧ U_.heap = h0) (fun _ _ _ _ _ => True) (fun _ U_ o_ V_ => ∃ v_ L_, o_ = .returned v_ ∧ QI (f_isu x) h0 n0 v_ V_.heap L_ ∧ FrameEnd U_ o_ V_ L_ ({ frames := 0, cells := 0, slots := 0, locals := 0 } : Room).cells ({ frames := 0, cells := 0, slots := 0, locals := 0 } : Room).slots) := by
  refine MetFree.of_bodySF (plainFor_of_name pn_34) hisR ?_
  intro p e s m args below meth c s₁ Bd hml0 hP hK
  obtain ⟨rfl, hZ, hh⟩ := hP
  have hx := Bd.exec
  have hby := Bd.bytes
  have hml : c.maxLocals = 1 := hml0
  have hown : s.vm.findClass "java/lang/Character" = some m.cls := findClass_of_methodNamed Bd.named
  have hnm := (name_of_methodNamed Bd.named Bd.method).1
  have X0 : Stand p l e ({ frames := 0, cells := 0, slots := 0, locals := 0 } : Room) s m #[(.int x)] below meth c s₁ [] 0 0 := Stand.of_body Bd
  have e0 : s₁.heap = h0 := by rw [← hh, Bd.state]; rfl
  have N0 := Fr.nil n0
  have pre0 : ∀ zz, Steps p.tables e below (s₁.setTop (mkF m 0 #[.val (.int x)] [])) zz → Steps p.tables e below (s₁.setTop (entryFrame m #[(.int x)] 1)) zz := fun zz k => castTop (ef_34 m x) k
  obtain ⟨fs, hr, hrun, hended, hW, hsame⟩ := X0.leave (v := some (.int (1 : Int32))) (fun h => by rw [Bd.returns] at h; cases h)
  refine ⟨_, _, pre0 _ ?_, hrun, hended, _, _, rfl, ?_, ⟨_, rfl⟩, hW, hsame.mono (by decide) (by decide)⟩
  · show Steps p.tables e below (s₁.setTop (mkF m 0 #[.val (.int x)] [])) _
    refine XS.iloadN X0.here hx rfl (hb hby d34_0) rfl ?_
    refine X0.ldcInt hx hown (mvT hZ (hw _ (List.mem_of_getElem? (i := 150) rfl))) (g := (mkF m 1 #[.val (.int x)] [(.int x)])) rfl (hb hby d34_1) _ ?_
    refine XS.icmpNo X0.here hx rfl (hb hby d34_3) rfl (flt hc3).1 ?_
    refine XS.iloadN X0.here hx rfl (hb hby d34_6) rfl ?_
    refine X0.ldcInt hx hown (mvT hZ (hw _ (List.mem_of_getElem? (i := 155) rfl))) (g := (mkF m 7 #[.val (.int x)] [(.int x)])) rfl (hb hby d34_7) _ ?_
    refine XS.icmpNo X0.here hx rfl (hb hby d34_9) rfl (tlt hc9).2.1 ?_
    show Steps p.tables e below (s₁.setTop (mkF m 12 #[.val (.int x)] [])) _
    refine XS.iconst X0.here hx rfl (hb hby d34_12) ?_
    refine XS.goto X0.here hx rfl (pc0 := 13) (pc' := 17) rfl (hb hby d34_13) (by decide) (by decide) ?_
    show Steps p.tables e below (s₁.setTop (mkF m 17 #[.val (.int x)] [(.int (1 : Int32))])) _
    exact retN X0 hx (t := .boolean) Bd.returns (by simp) (hb hby d34_17) hr
  · show QI (f_isu x) h0 n0 _ s₁.heap _
    rw [e0]
    exact ⟨by rw [f_isu, if_neg hc3, if_pos hc9], N0, rfl⟩
set_option maxRecDepth 65536 in
set_option maxHeartbeats 40000000 in
theorem rm_isu_ft (l : Launch) (Z : State) (a0 : Array Value) (hw : ∀ d ∈ tables_1, d.before a0 Z = true) (ws : List Jvm.Cond) (x : Int32)  (h0 : Heap) (n0 : Nat) (Z0 : n0 ≤ h0.size)  (hc3 : ¬ (x < (55296 : Int32))) (hc9 : ¬ (x < (57344 : Int32))) :
    MetFree l (⟨"java/lang/Character", "isSurrogate", "(C)Z"⟩ : MethodName) (head1 (Jvm.Cond.code (⟨"java/lang/Character", "isSurrogate", "(C)Z"⟩ : MethodName) jdk_89_method_16_code 1 (some .boolean) :: ws) ({ frames := 0, cells := 0, slots := 0, locals := 0 } : Room)) (fun aa_ U_ => aa_ = #[(.int x)] ∧ Z.Warmed39 U_.vm ∧ U_.heap = h0) (fun _ _ _ _ _ => True) (fun _ U_ o_ V_ => ∃ v_ L_, o_ = .returned v_ ∧ QI (f_isu x) h0 n0 v_ V_.heap L_ ∧ FrameEnd U_ o_ V_ L_ ({ frames := 0, cells := 0, slots := 0, locals := 0 } : Room).cells ({ frames := 0, cells := 0, slots := 0, locals := 0 } : Room).slots) := by
  refine MetFree.of_bodySF (plainFor_of_name pn_34) hisR ?_
  intro p e s m args below meth c s₁ Bd hml0 hP hK
  obtain ⟨rfl, hZ, hh⟩ := hP
  have hx := Bd.exec
  have hby := Bd.bytes
  have hml : c.maxLocals = 1 := hml0
  have hown : s.vm.findClass "java/lang/Character" = some m.cls := findClass_of_methodNamed Bd.named
  have hnm := (name_of_methodNamed Bd.named Bd.method).1
  have X0 : Stand p l e ({ frames := 0, cells := 0, slots := 0, locals := 0 } : Room) s m #[(.int x)] below meth c s₁ [] 0 0 := Stand.of_body Bd
  have e0 : s₁.heap = h0 := by rw [← hh, Bd.state]; rfl
  have N0 := Fr.nil n0
  have pre0 : ∀ zz, Steps p.tables e below (s₁.setTop (mkF m 0 #[.val (.int x)] [])) zz → Steps p.tables e below (s₁.setTop (entryFrame m #[(.int x)] 1)) zz := fun zz k => castTop (ef_34 m x) k
  obtain ⟨fs, hr, hrun, hended, hW, hsame⟩ := X0.leave (v := some (.int (0 : Int32))) (fun h => by rw [Bd.returns] at h; cases h)
  refine ⟨_, _, pre0 _ ?_, hrun, hended, _, _, rfl, ?_, ⟨_, rfl⟩, hW, hsame.mono (by decide) (by decide)⟩
  · show Steps p.tables e below (s₁.setTop (mkF m 0 #[.val (.int x)] [])) _
    refine XS.iloadN X0.here hx rfl (hb hby d34_0) rfl ?_
    refine X0.ldcInt hx hown (mvT hZ (hw _ (List.mem_of_getElem? (i := 150) rfl))) (g := (mkF m 1 #[.val (.int x)] [(.int x)])) rfl (hb hby d34_1) _ ?_
    refine XS.icmpNo X0.here hx rfl (hb hby d34_3) rfl (flt hc3).1 ?_
    refine XS.iloadN X0.here hx rfl (hb hby d34_6) rfl ?_
    refine X0.ldcInt hx hown (mvT hZ (hw _ (List.mem_of_getElem? (i := 155) rfl))) (g := (mkF m 7 #[.val (.int x)] [(.int x)])) rfl (hb hby d34_7) _ ?_
    refine XS.icmpYes X0.here hx rfl (pc0 := 9) (pc' := 16) rfl (hb hby d34_9) rfl (flt hc9).2.1 (by decide) (by decide) ?_
    show Steps p.tables e below (s₁.setTop (mkF m 16 #[.val (.int x)] [])) _
    refine XS.iconst X0.here hx rfl (hb hby d34_16) ?_
    show Steps p.tables e below (s₁.setTop (mkF m 17 #[.val (.int x)] [(.int (0 : Int32))])) _
    exact retN X0 hx (t := .boolean) Bd.returns (by simp) (hb hby d34_17) hr
  · show QI (f_isu x) h0 n0 _ s₁.heap _
    rw [e0]
    exact ⟨by rw [f_isu, if_neg hc3, if_neg hc9], N0, rfl⟩
set_option maxRecDepth 65536 in
set_option maxHeartbeats 40000000 in
theorem rm_isu (l : Launch) (Z : State) (a0 : Array Value) (hw : ∀ d ∈ tables_1, d.before a0 Z = true) (ws : List Jvm.Cond) (x : Int32)  (h0 : Heap) (n0 : Nat) (Z0 : n0 ≤ h0.size)   :
    MetFree l (⟨"java/lang/Character", "isSurrogate", "(C)Z"⟩ : MethodName) (head1 (Jvm.Cond.code (⟨"java/lang/Character", "isSurrogate", "(C)Z"⟩ : MethodName) jdk_89_method_16_code 1 (some .boolean) :: ws) ({ frames := 0, cells := 0, slots := 0, locals := 0 } : Room)) (fun aa_ U_ => aa_ = #[(.int x)] ∧ Z.Warmed39 U_.vm ∧ U_.heap = h0) (fun _ _ _ _ _ => True) (fun _ U_ o_ V_ => ∃ v_ L_, o_ = .returned v_ ∧ QI (f_isu x) h0 n0 v_ V_.heap L_ ∧ FrameEnd U_ o_ V_ L_ ({ frames := 0, cells := 0, slots := 0, locals := 0 } : Room).cells ({ frames := 0, cells := 0, slots := 0, locals := 0 } : Room).slots) := by
  by_cases g0 : x < (55296 : Int32)
  · exact rm_isu_t l Z a0 hw ws x h0 n0 Z0  g0
  · by_cases g1 : x < (57344 : Int32)
    · exact rm_isu_ff l Z a0 hw ws x h0 n0 Z0  g0 g1
    · exact rm_isu_ft l Z a0 hw ws x h0 n0 Z0  g0 g1
theorem d1_0 : decode method_2_code 0 = .ok (.iload_n 0, 1) := by decide +kernel
theorem d1_1 : decode method_2_code 1 = .ok (.ldc 7, 2) := by decide +kernel
theorem d1_3 : decode method_2_code 3 = .ok (.iand, 1) := by decide +kernel
theorem d1_4 : decode method_2_code 4 = .ok (.istore_n 1, 1) := by decide +kernel
theorem d1_5 : decode method_2_code 5 = .ok (.iload_n 0, 1) := by decide +kernel
theorem d1_6 : decode method_2_code 6 = .ok (.bipush 16, 2) := by decide +kernel
theorem d1_8 : decode method_2_code 8 = .ok (.iushr, 1) := by decide +kernel
theorem d1_9 : decode method_2_code 9 = .ok (.iconst 3, 1) := by decide +kernel
theorem d1_10 : decode method_2_code 10 = .ok (.iand, 1) := by decide +kernel
theorem d1_11 : decode method_2_code 11 = .ok (.istore_n 2, 1) := by decide +kernel
theorem d1_12 : decode method_2_code 12 = .ok (.iload_n 2, 1) := by decide +kernel
theorem d1_13 : decode method_2_code 13 = .ok (.ifCond .ne 5, 3) := by decide +kernel
theorem d1_16 : decode method_2_code 16 = .ok (.iload_n 1, 1) := by decide +kernel
theorem d1_17 : decode method_2_code 17 = .ok (.ireturn, 1) := by decide +kernel
theorem d1_18 : decode method_2_code 18 = .ok (.iload_n 2, 1) := by decide +kernel
theorem d1_19 : decode method_2_code 19 = .ok (.iconst 1, 1) := by decide +kernel
theorem d1_20 : decode method_2_code 20 = .ok (.if_icmp .ne 12, 3) := by decide +kernel
theorem d1_23 : decode method_2_code 23 = .ok (.ldc 8, 2) := by decide +kernel
theorem d1_25 : decode method_2_code 25 = .ok (.iload_n 1, 1) := by decide +kernel
theorem d1_26 : decode method_2_code 26 = .ok (.sipush 2047, 3) := by decide +kernel
theorem d1_29 : decode method_2_code 29 = .ok (.iand, 1) := by decide +kernel
theorem d1_30 : decode method_2_code 30 = .ok (.ior, 1) := by decide +kernel
theorem d1_31 : decode method_2_code 31 = .ok (.ireturn, 1) := by decide +kernel
theorem d1_32 : decode method_2_code 32 = .ok (.iload_n 2, 1) := by decide +kernel
theorem d1_33 : decode method_2_code 33 = .ok (.iconst 2, 1) := by decide +kernel
theorem d1_34 : decode method_2_code 34 = .ok (.if_icmp .ne 8, 3) := by decide +kernel
theorem d1_37 : decode method_2_code 37 = .ok (.iload_n 1, 1) := by decide +kernel
theorem d1_38 : decode method_2_code 38 = .ok (.bipush 127, 2) := by decide +kernel
theorem d1_40 : decode method_2_code 40 = .ok (.iand, 1) := by decide +kernel
theorem d1_41 : decode method_2_code 41 = .ok (.ireturn, 1) := by decide +kernel
theorem d1_42 : decode method_2_code 42 = .ok (.iload_n 1, 1) := by decide +kernel
theorem d1_43 : decode method_2_code 43 = .ok (.sipush 2047, 3) := by decide +kernel
theorem d1_46 : decode method_2_code 46 = .ok (.iand, 1) := by decide +kernel
theorem d1_47 : decode method_2_code 47 = .ok (.ireturn, 1) := by decide +kernel
theorem pn_1 : plainName "com/example/orderly_latch/orderlylatch/name/LatchNameOfPinLaw" = true := by first | (simp [plainName, overriddenIn]; done) | decide +kernel
theorem ef_1 (m : MethodId) (x0 : Int32) : entryFrame m #[(.int x0)] 3 = mkF m 0 #[.val (.int x0), .unset, .unset] [] := by first | (simp [entryFrame, mkF, argsToLocals, Value.category]; done) | rfl
def f_draw (x : Int32) : Int32 := if (((x.toUInt32 >>> ((16 : Int32) &&& 31).toUInt32).toInt32) &&& (3 : Int32)) = (0 : Int32) then (x &&& (65535 : Int32)) else if (((x.toUInt32 >>> ((16 : Int32) &&& 31).toUInt32).toInt32) &&& (3 : Int32)) = (1 : Int32) then ((55296 : Int32) ||| ((x &&& (65535 : Int32)) &&& (2047 : Int32))) else if (((x.toUInt32 >>> ((16 : Int32) &&& 31).toUInt32).toInt32) &&& (3 : Int32)) = (2 : Int32) then ((x &&& (65535 : Int32)) &&& (127 : Int32)) else ((x &&& (65535 : Int32)) &&& (2047 : Int32))
set_option maxRecDepth 65536 in
set_option maxHeartbeats 40000000 in
theorem rm_draw_f (l : Launch) (Z : State) (a0 : Array Value) (hw : ∀ d ∈ tables_1, d.before a0 Z = true) (ws : List Jvm.Cond) (x : Int32)  (h0 : Heap) (n0 : Nat) (Z0 : n0 ≤ h0.size)  (hc13 : (((x.toUInt32 >>> ((16 : Int32) &&& 31).toUInt32).toInt32) &&& (3 : Int32)) = (0 : Int32)) :
    MetFree l (⟨"com/example/orderly_latch/orderlylatch/name/LatchNameOfPinLaw", "draw", "(I)I"⟩ : MethodName) (head1 (Jvm.Cond.code (⟨"com/example/orderly_latch/orderlylatch/name/LatchNameOfPinLaw", "draw", "(I)I"⟩ : MethodName) method_2_code 3 (some .int) :: ws) ({ frames := 0, cells := 0, slots := 0, locals := 0 } : Room)) (fun aa_ U_ => aa_ = #[(.int x)] ∧ Z.Warmed39 U_.vm ∧ U_.heap = h0) (fun _ _ _ _ _ => True) (fun _ U_ o_ V_ => ∃ v_ L_, o_ = .returned v_ ∧ QI (f_draw x) h0 n0 v_ V_.heap L_ ∧ FrameEnd U_ o_ V_ L_ ({ frames := 0, cells := 0, slots := 0, locals := 0 } : Room).cells ({ frames := 0, cells := 0, slots := 0, locals := 0 } : Room).slots) := by
  refine MetFree.of_bodySF (plainFor_of_name pn_1) hisR ?_
  intro p e s m args below meth c s₁ Bd hml0 hP hK
  obtain ⟨rfl, hZ, hh⟩ := hP
  have hx := Bd.exec
  have hby := Bd.bytes
  have hml : c.maxLocals = 3 := hml0
  have hown : s.vm.findClass "com/example/orderly_latch/orderlylatch/name/LatchNameOfPinLaw" = some m.cls := findClass_of_methodNamed Bd.named
  have hnm := (name_of_methodNamed Bd.named Bd.method).1
  have X0 : Stand p l e ({ frames := 0, cells := 0, slots := 0, locals := 0 } : Room) s m #[(.int x)] below meth c s₁ [] 0 0 := Stand.of_body Bd
  have e0 : s₁.heap = h0 := by rw [← hh, Bd.state]; rfl
  have N0 := Fr.nil n0
  have pre0 : ∀ zz, Steps p.tables e below (s₁.setTop (mkF m 0 #[.val (.int x), .unset, .unset] [])) zz → Steps p.tables e below (s₁.setTop (entryFrame m #[(.int x)] 3)) zz := fun zz k => castTop (ef_1 m x) k
  obtain ⟨fs, hr, hrun, hended, hW, hsame⟩ := X0.leave (v := some (.int (x &&& (65535 : Int32)))) (fun h => by rw [Bd.returns] at h; cases h)
  refine ⟨_, _, pre0 _ ?_, hrun, hended, _, _, rfl, ?_, ⟨_, rfl⟩, hW, hsame.mono (by decide) (by decide)⟩
  · show Steps p.tables e below (s₁.setTop (mkF m 0 #[.val (.int x), .unset, .unset] [])) _
    refine XS.iloadN X0.here hx rfl (hb hby d1_0) rfl ?_
    refine X0.ldcInt hx hown (mvT hZ (hw _ (List.mem_of_getElem? (i := 4) rfl))) (g := (mkF m 1 #[.val (.int x), .unset, .unset] [(.int x)])) rfl (hb hby d1_1) _ ?_
    refine XS.iand X0.here hx rfl (hb hby d1_3) rfl ?_
    refine XS.istoreN X0.here hx rfl (hb hby d1_4) rfl (l' := #[.val (.int x), .val (.int (x &&& (65535 : Int32))), .unset]) rfl ?_
    refine XS.iloadN X0.here hx rfl (hb hby d1_5) rfl ?_
    refine XS.bipush X0.here hx rfl (hb hby d1_6) ?_
    show Steps p.tables e below (s₁.setTop (mkF m 8 #[.val (.int x), .val (.int (x &&& (65535 : Int32))), .unset] [(.int (16 : Int32)), (.int x)])) _
    refine XS.iushr X0.here hx rfl (hb hby d1_8) rfl ?_
    refine XS.iconst X0.here hx rfl (hb hby d1_9) ?_
    refine XS.iand X0.here hx rfl (hb hby d1_10) rfl ?_
    refine XS.istoreN X0.here hx rfl (hb hby d1_11) rfl (l' := #[.val (.int x), .val (.int (x &&& (65535 : Int32))), .val (.int (((x.toUInt32 >>> ((16 : Int32) &&& 31).toUInt32).toInt32) &&& (3 : Int32)))]) rfl ?_
    refine XS.iloadN X0.here hx rfl (hb hby d1_12) rfl ?_
    refine XS.ifNo X0.here hx rfl (hb hby d1_13) rfl ((if0 _ _).trans (teq hc13).2) ?_
    show Steps p.tables e below (s₁.setTop (mkF m 16 #[.val (.int x), .val (.int (x &&& (65535 : Int32))), .val (.int (((x.toUInt32 >>> ((16 : Int32) &&& 31).toUInt32).toInt32) &&& (3 : Int32)))] [])) _
    refine XS.iloadN X0.here hx rfl (hb hby d1_16) rfl ?_
    show Steps p.tables e below (s₁.setTop (mkF m 17 #[.val (.int x), .val (.int (x &&& (65535 : Int32))), .val (.int (((x.toUInt32 >>> ((16 : Int32) &&& 31).toUInt32).toInt32) &&& (3 : Int32)))] [(.int (x &&& (65535 : Int32)))])) _
    exact retI X0 hx Bd.returns (hb hby d1_17) hr
  · show QI (f_draw x) h0 n0 _ s₁.heap _
    rw [e0]
    exact ⟨by rw [f_draw, if_pos hc13], N0, rfl⟩
set_option maxRecDepth 65536 in
set_option maxHeartbeats 40000000 in
theorem rm_draw_tf (l : Launch) (Z : State) (a0 : Array Value) (hw : ∀ d ∈ tables_1, d.before a0 Z = true) (ws : List Jvm.Cond) (x : Int32)  (h0 : Heap) (n0 : Nat) (Z0 : n0 ≤ h0.size)  (hc13 : ¬ ((((x.toUInt32 >>> ((16 : Int32) &&& 31).toUInt32).toInt32) &&& (3 : Int32)) = (0 : Int32))) (hc20 : (((x.toUInt32 >>> ((16 : Int32) &&& 31).toUInt32).toInt32) &&& (3 : Int32)) = (1 : Int32)) :
    MetFree l (⟨"com/example/orderly_latch/orderlylatch/name/LatchNameOfPinLaw", "draw", "(I)I"⟩ : MethodName) (head1 (Jvm.Cond.code (⟨"com/example/orderly_latch/orderlylatch/name/LatchNameOfPinLaw", "draw", "(I)I"⟩ : MethodName) method_2_code 3 (some .int) :: ws) ({ frames := 0, cells := 0, slots := 0, locals := 0 } : Room)) (fun aa_ U_ => aa_ = #[(.int x)] ∧ Z.Warmed39 U_.vm ∧ U_.heap = h0) (fun _ _ _ _ _ => True) (fun _ U_ o_ V_ => ∃ v_ L_, o_ = .returned v_ ∧ QI (f_draw x) h0 n0 v_ V_.heap L_ ∧ FrameEnd U_ o_ V_ L_ ({ frames := 0, cells := 0, slots := 0, locals := 0 } : Room).cells ({ frames := 0, cells := 0, slots := 0, locals := 0 } : Room).slots) := by
  refine MetFree.of_bodySF (plainFor_of_name pn_1) hisR ?_
  intro p e s m args below meth c s₁ Bd hml0 hP hK
  obtain ⟨rfl, hZ, hh⟩ := hP
  have hx := Bd.exec
  have hby := Bd.bytes
  have hml : c.maxLocals = 3 := hml0
  have hown : s.vm.findClass "com/example/orderly_latch/orderlylatch/name/LatchNameOfPinLaw" = some m.cls := findClass_of_methodNamed Bd.named
  have hnm := (name_of_methodNamed Bd.named Bd.method).1
  have X0 : Stand p l e ({ frames := 0, cells := 0, slots := 0, locals := 0 } : Room) s m #[(.int x)] below meth c s₁ [] 0 0 := Stand.of_body Bd
  have e0 : s₁.heap = h0 := by rw [← hh, Bd.state]; rfl
  have N0 := Fr.nil n0
  have pre0 : ∀ zz, Steps p.tables e below (s₁.setTop (mkF m 0 #[.val (.int x), .unset, .unset] [])) zz → Steps p.tables e below (s₁.setTop (entryFrame m #[(.int x)] 3)) zz := fun zz k => castTop (ef_1 m x) k
  obtain ⟨fs, hr, hrun, hended, hW, hsame⟩ := X0.leave (v := some (.int ((55296 : Int32) ||| ((x &&& (65535 : Int32)) &&& (2047 : Int32))))) (fun h => by rw [Bd.returns] at h; cases h)
  refine ⟨_, _, pre0 _ ?_, hrun, hended, _, _, rfl, ?_, ⟨_, rfl⟩, hW, hsame.mono (by decide) (by decide)⟩
  · show Steps p.tables e below (s₁.setTop (mkF m 0 #[.val (.int x), .unset, .unset] [])) _
    refine XS.iloadN X0.here hx rfl (hb hby d1_0) rfl ?_
    refine X0.ldcInt hx hown (mvT hZ (hw _ (List.mem_of_getElem? (i := 4) rfl))) (g := (mkF m 1 #[.val (.int x), .unset, .unset] [(.int x)])) rfl (hb hby d1_1) _ ?_
    refine XS.iand X0.here hx rfl (hb hby d1_3) rfl ?_
    refine XS.istoreN X0.here hx rfl (hb hby d1_4) rfl (l' := #[.val (.int x), .val (.int (x &&& (65535 : Int32))), .unset]) rfl ?_
    refine XS.iloadN X0.here hx rfl (hb hby d1_5) rfl ?_
    refine XS.bipush X0.here hx rfl (hb hby d1_6) ?_
    show Steps p.tables e below (s₁.setTop (mkF m 8 #[.val (.int x), .val (.int (x &&& (65535 : Int32))), .unset] [(.int (16 : Int32)), (.int x)])) _
    refine XS.iushr X0.here hx rfl (hb hby d1_8) rfl ?_
    refine XS.iconst X0.here hx rfl (hb hby d1_9) ?_
    refine XS.iand X0.here hx rfl (hb hby d1_10) rfl ?_
    refine XS.istoreN X0.here hx rfl (hb hby d1_11) rfl (l' := #[.val (.int x), .val (.int (x &&& (65535 : Int32))), .val (.int (((x.toUInt32 >>> ((16 : Int32) &&& 31).toUInt32).toInt32) &&& (3 : Int32)))]) rfl ?_
    refine XS.iloadN X0.here hx rfl (hb hby d1_12) rfl ?_
    refine XS.ifYes X0.here hx rfl (pc0 := 13) (pc' := 18) rfl (hb hby d1_13) rfl ((if0 _ _).trans (feq hc13).2) (by decide) (by decide) ?_
    show Steps p.tables e below (s₁.setTop (mkF m 18 #[.val (.int x), .val (.int (x &&& (65535 : Int32))), .val (.int (((x.toUInt32 >>> ((16 : Int32) &&& 31).toUInt32).toInt32) &&& (3 : Int32)))] [])) _
    refine XS.iloadN X0.here hx rfl (hb hby d1_18) rfl ?_
    refine XS.iconst X0.here hx rfl (hb hby d1_19) ?_
    refine XS.icmpNo X0.here hx rfl (hb hby d1_20) rfl (teq hc20).2 ?_
    refine X0.ldcInt hx hown (mvT hZ (hw _ (List.mem_of_getElem? (i := 107) rfl))) (g := (mkF m 23 #[.val (.int x), .val (.int (x &&& (65535 : Int32))), .val (.int (((x.toUInt32 >>> ((16 : Int32) &&& 31).toUInt32).toInt32) &&& (3 : Int32)))] [])) rfl (hb hby d1_23) _ ?_
    refine XS.iloadN X0.here hx rfl (hb hby d1_25) rfl ?_
    refine XS.sipush X0.here hx rfl (hb hby d1_26) ?_
    show Steps p.tables e below (s₁.setTop (mkF m 29 #[.val (.int x), .val (.int (x &&& (65535 : Int32))), .val (.int (((x.toUInt32 >>> ((16 : Int32) &&& 31).toUInt32).toInt32) &&& (3 : Int32)))] [(.int (2047 : Int32)), (.int (x &&& (65535 : Int32))), (.int (55296 : Int32))])) _
    refine XS.iand X0.here hx rfl (hb hby d1_29) rfl ?_
    refine XS.ior X0.here hx rfl (hb hby d1_30) rfl ?_
    show Steps p.tables e below (s₁.setTop (mkF m 31 #[.val (.int x), .val (.int (x &&& (65535 : Int32))), .val (.int (((x.toUInt32 >>> ((16 : Int32) &&& 31).toUInt32).toInt32) &&& (3 : Int32)))] [(.int ((55296 : Int32) ||| ((x &&& (65535 : Int32)) &&& (2047 : Int32))))])) _
    exact retI X0 hx Bd.returns (hb hby d1_31) hr
  · show QI (f_draw x) h0 n0 _ s₁.heap _
    rw [e0]
    exact ⟨by rw [f_draw, if_neg hc13, if_pos hc20], N0, rfl⟩
set_option maxRecDepth 65536 in
set_option maxHeartbeats 40000000 in
theorem rm_draw_ttf (l : Launch) (Z : State) (a0 : Array Value) (hw : ∀ d ∈ tables_1, d.before a0 Z = true) (ws : List Jvm.Cond) (x : Int32)  (h0 : Heap) (n0 : Nat) (Z0 : n0 ≤ h0.size)  (hc13 : ¬ ((((x.toUInt32 >>> ((16 : Int32) &&& 31).toUInt32).toInt32) &&& (3 : Int32)) = (0 : Int32))) (hc20 : ¬ ((((x.toUInt32 >>> ((16 : Int32) &&& 31).toUInt32).toInt32) &&& (3 : Int32)) = (1 : Int32))) (hc34 : (((x.toUInt32 >>> ((16 : Int32) &&& 31).toUInt32).toInt32) &&& (3 : Int32)) = (2 : Int32)) :
    MetFree l (⟨"com/example/orderly_latch/orderlylatch/name/LatchNameOfPinLaw", "draw", "(I)I"⟩ : MethodName) (head1 (Jvm.Cond.code (⟨"com/example/orderly_latch/orderlylatch/name/LatchNameOfPinLaw", "draw", "(I)I"⟩ : MethodName) method_2_code 3 (some .int) :: ws) ({ frames := 0, cells := 0, slots := 0, locals := 0 } : Room)) (fun aa_ U_ => aa_ = #[(.int x)] ∧ Z.Warmed39 U_.vm ∧ U_.heap = h0) (fun _ _ _ _ _ => True) (fun _ U_ o_ V_ => ∃ v_ L_, o_ = .returned v_ ∧ QI (f_draw x) h0 n0 v_ V_.heap L_ ∧ FrameEnd U_ o_ V_ L_ ({ frames := 0, cells := 0, slots := 0, locals := 0 } : Room).cells ({ frames := 0, cells := 0, slots := 0, locals := 0 } : Room).slots) := by
  refine MetFree.of_bodySF (plainFor_of_name pn_1) hisR ?_
  intro p e s m args below meth c s₁ Bd hml0 hP hK
  obtain ⟨rfl, hZ, hh⟩ := hP
  have hx := Bd.exec
  have hby := Bd.bytes
  have hml : c.maxLocals = 3 := hml0
  have hown : s.vm.findClass "com/example/orderly_latch/orderlylatch/name/LatchNameOfPinLaw" = some m.cls := findClass_of_methodNamed Bd.named
  have hnm := (name_of_methodNamed Bd.named Bd.method).1
  have X0 : Stand p l e ({ frames := 0, cells := 0, slots := 0, locals := 0 } : Room) s m #[(.int x)] below meth c s₁ [] 0 0 := Stand.of_body Bd
  have e0 : s₁.heap = h0 := by rw [← hh, Bd.state]; rfl
  have N0 := Fr.nil n0
  have pre0 : ∀ zz, Steps p.tables e below (s₁.setTop (mkF m 0 #[.val (.int x), .unset, .unset] [])) zz → Steps p.tables e below (s₁.setTop (entryFrame m #[(.int x)] 3)) zz := fun zz k => castTop (ef_1 m x) k
  obtain ⟨fs, hr, hrun, hended, hW, hsame⟩ := X0.leave (v := some (.int ((x &&& (65535 : Int32)) &&& (127 : Int32)))) (fun h => by rw [Bd.returns] at h; cases h)
  refine ⟨_, _, pre0 _ ?_, hrun, hended, _, _, rfl, ?_, ⟨_, rfl⟩, hW, hsame.mono (by decide) (by decide)⟩
  · show Steps p.tables e below (s₁.setTop (mkF m 0 #[.val (.int x), .unset, .unset] [])) _
    refine XS.iloadN X0.here hx rfl (hb hby d1_0) rfl ?_
    refine X0.ldcInt hx hown (mvT hZ (hw _ (List.mem_of_getElem? (i := 4) rfl))) (g := (mkF m 1 #[.val (.int x), .unset, .unset] [(.int x)])) rfl (hb hby d1_1) _ ?_
    refine XS.iand X0.here hx rfl (hb hby d1_3) rfl ?_
    refine XS.istoreN X0.here hx rfl (hb hby d1_4) rfl (l' := #[.val (.int x), .val (.int (x &&& (65535 : Int32))), .unset]) rfl ?_
    refine XS.iloadN X0.here hx rfl (hb hby d1_5) rfl ?_
    refine XS.bipush X0.here hx rfl (hb hby d1_6) ?_
    show Steps p.tables e below (s₁.setTop (mkF m 8 #[.val (.int x), .val (.int (x &&& (65535 : Int32))), .unset] [(.int (16 : Int32)), (.int x)])) _
    refine XS.iushr X0.here hx rfl (hb hby d1_8) rfl ?_
    refine XS.iconst X0.here hx rfl (hb hby d1_9) ?_
    refine XS.iand X0.here hx rfl (hb hby d1_10) rfl ?_
    refine XS.istoreN X0.here hx rfl (hb hby d1_11) rfl (l' := #[.val (.int x), .val (.int (x &&& (65535 : Int32))), .val (.int (((x.toUInt32 >>> ((16 : Int32) &&& 31).toUInt32).toInt32) &&& (3 : Int32)))]) rfl ?_
    refine XS.iloadN X0.here hx rfl (hb hby d1_12) rfl ?_
    refine XS.ifYes X0.here hx rfl (pc0 := 13) (pc' := 18) rfl (hb hby d1_13) rfl ((if0 _ _).trans (feq hc13).2) (by decide) (by decide) ?_
    show Steps p.tables e below (s₁.setTop (mkF m 18 #[.val (.int x), .val (.int (x &&& (65535 : Int32))), .val (.int (((x.toUInt32 >>> ((16 : Int32) &&& 31).toUInt32).toInt32) &&& (3 : Int32)))] [])) _
    refine XS.iloadN X0.here hx rfl (hb hby d1_18) rfl ?_
    refine XS.iconst X0.here hx rfl (hb hby d1_19) ?_
    refine XS.icmpYes X0.here hx rfl (pc0 := 20) (pc' := 32) rfl (hb hby d1_20) rfl (feq hc20).2 (by decide) (by decide) ?_
    refine XS.iloadN X0.here hx rfl (hb hby d1_32) rfl ?_
    refine XS.iconst X0.here hx rfl (hb hby d1_33) ?_
    refine XS.icmpNo X0.here hx rfl (hb hby d1_34) rfl (teq hc34).2 ?_
    show Steps p.tables e below (s₁.setTop (mkF m 37 #[.val (.int x), .val (.int (x &&& (65535 : Int32))), .val (.int (((x.toUInt32 >>> ((16 : Int32) &&& 31).toUInt32).toInt32) &&& (3 : Int32)))] [])) _
    refine XS.iloadN X0.here hx rfl (hb hby d1_37) rfl ?_
    refine XS.bipush X0.here hx rfl (hb hby d1_38) ?_
    refine XS.iand X0.here hx rfl (hb hby d1_40) rfl ?_
    show Steps p.tables e below (s₁.setTop (mkF m 41 #[.val (.int x), .val (.int (x &&& (65535 : Int32))), .val (.int (((x.toUInt32 >>> ((16 : Int32) &&& 31).toUInt32).toInt32) &&& (3 : Int32)))] [(.int ((x &&& (65535 : Int32)) &&& (127 : Int32)))])) _
    exact retI X0 hx Bd.returns (hb hby d1_41) hr
  · show QI (f_draw x) h0 n0 _ s₁.heap _
    rw [e0]
    exact ⟨by rw [f_draw, if_neg hc13, if_neg hc20, if_pos hc34], N0, rfl⟩
set_option maxRecDepth 65536 in
set_option maxHeartbeats 40000000 in
theorem rm_draw_ttt (l : Launch) (Z : State) (a0 : Array Value) (hw : ∀ d ∈ tables_1, d.before a0 Z = true) (ws : List Jvm.Cond) (x : Int32)  (h0 : Heap) (n0 : Nat) (Z0 : n0 ≤ h0.size)  (hc13 : ¬ ((((x.toUInt32 >>> ((16 : Int32) &&& 31).toUInt32).toInt32) &&& (3 : Int32)) = (0 : Int32))) (hc20 : ¬ ((((x.toUInt32 >>> ((16 : Int32) &&& 31).toUInt32).toInt32) &&& (3 : Int32)) = (1 : Int32))) (hc34 : ¬ ((((x.toUInt32 >>> ((16 : Int32) &&& 31).toUInt32).toInt32) &&& (3 : Int32)) = (2 : Int32))) :
    MetFree l (⟨"com/example/orderly_latch/orderlylatch/name/LatchNameOfPinLaw", "draw", "(I)I"⟩ : MethodName) (head1 (Jvm.Cond.code (⟨"com/example/orderly_latch/orderlylatch/name/LatchNameOfPinLaw", "draw", "(I)I"⟩ : MethodName) method_2_code 3 (some .int) :: ws) ({ frames := 0, cells := 0, slots := 0, locals := 0 } : Room)) (fun aa_ U_ => aa_ = #[(.int x)] ∧ Z.Warmed39 U_.vm ∧ U_.heap = h0) (fun _ _ _ _ _ => True) (fun _ U_ o_ V_ => ∃ v_ L_, o_ = .returned v_ ∧ QI (f_draw x) h0 n0 v_ V_.heap L_ ∧ FrameEnd U_ o_ V_ L_ ({ frames := 0, cells := 0, slots := 0, locals := 0 } : Room).cells ({ frames := 0, cells := 0, slots := 0, locals := 0 } : Room).slots) := by
  refine MetFree.of_bodySF (plainFor_of_name pn_1) hisR ?_
  intro p e s m args below meth c s₁ Bd hml0 hP hK
  obtain ⟨rfl, hZ, hh⟩ := hP
  have hx := Bd.exec
  have hby := Bd.bytes
  have hml : c.maxLocals = 3 := hml0
  have hown : s.vm.findClass "com/example/orderly_latch/orderlylatch/name/LatchNameOfPinLaw" = some m.cls := findClass_of_methodNamed Bd.named
  have hnm := (name_of_methodNamed Bd.named Bd.method).1
  have X0 : Stand p l e ({ frames := 0, cells := 0, slots := 0, locals := 0 } : Room) s m #[(.int x)] below meth c s₁ [] 0 0 := Stand.of_body Bd
  have e0 : s₁.heap = h0 := by rw [← hh, Bd.state]; rfl
  have N0 := Fr.nil n0
  have pre0 : ∀ zz, Steps p.tables e below (s₁.setTop (mkF m 0 #[.val (.int x), .unset, .unset] [])) zz → Steps p.tables e below (s₁.setTop (entryFrame m #[(.int x)] 3)) zz := fun zz k => castTop (ef_1 m x) k
  obtain ⟨fs, hr, hrun, hended, hW, hsame⟩ := X0.leave (v := some (.int ((x &&& (65535 : Int32)) &&& (2047 : Int32)))) (fun h => by rw [Bd.returns] at h; cases h)
  refine ⟨_, _, pre0 _ ?_, hrun, hended, _, _, rfl, ?_, ⟨_, rfl⟩, hW, hsame.mono (by decide) (by decide)⟩
  · show Steps p.tables e below (s₁.setTop (mkF m 0 #[.val (.int x), .unset, .unset] [])) _
    refine XS.iloadN X0.here hx rfl (hb hby d1_0) rfl ?_
    refine X0.ldcInt hx hown (mvT hZ (hw _ (List.mem_of_getElem? (i := 4) rfl))) (g := (mkF m 1 #[.val (.int x), .unset, .unset] [(.int x)])) rfl (hb hby d1_1) _ ?_
    refine XS.iand X0.here hx rfl (hb hby d1_3) rfl ?_
    refine XS.istoreN X0.here hx rfl (hb hby d1_4) rfl (l' := #[.val (.int x), .val (.int (x &&& (65535 : Int32))), .unset]) rfl ?_
    refine XS.iloadN X0.here hx rfl (hb hby d1_5) rfl ?_
    refine XS.bipush X0.here hx rfl (hb hby d1_6) ?_
    show Steps p.tables e below (s₁.setTop (mkF m 8 #[.val (.int x), .val (.int (x &&& (65535 : Int32))), .unset] [(.int (16 : Int32)), (.int x)])) _
    refine XS.iushr X0.here hx rfl (hb hby d1_8) rfl ?_
    refine XS.iconst X0.here hx rfl (hb hby d1_9) ?_
    refine XS.iand X0.here hx rfl (hb hby d1_10) rfl ?_
    refine XS.istoreN X0.here hx rfl (hb hby d1_11) rfl (l' := #[.val (.int x), .val (.int (x &&& (65535 : Int32))), .val (.int (((x.toUInt32 >>> ((16 : Int32) &&& 31).toUInt32).toInt32) &&& (3 : Int32)))]) rfl ?_
    refine XS.iloadN X0.here hx rfl (hb hby d1_12) rfl ?_
    refine XS.ifYes X0.here hx rfl (pc0 := 13) (pc' := 18) rfl (hb hby d1_13) rfl ((if0 _ _).trans (feq hc13).2) (by decide) (by decide) ?_
    show Steps p.tables e below (s₁.setTop (mkF m 18 #[.val (.int x), .val (.int (x &&& (65535 : Int32))), .val (.int (((x.toUInt32 >>> ((16 : Int32) &&& 31).toUInt32).toInt32) &&& (3 : Int32)))] [])) _
    refine XS.iloadN X0.here hx rfl (hb hby d1_18) rfl ?_
    refine XS.iconst X0.here hx rfl (hb hby d1_19) ?_
    refine XS.icmpYes X0.here hx rfl (pc0 := 20) (pc' := 32) rfl (hb hby d1_20) rfl (feq hc20).2 (by decide) (by decide) ?_
    refine XS.iloadN X0.here hx rfl (hb hby d1_32) rfl ?_
    refine XS.iconst X0.here hx rfl (hb hby d1_33) ?_
    refine XS.icmpYes X0.here hx rfl (pc0 := 34) (pc' := 42) rfl (hb hby d1_34) rfl (feq hc34).2 (by decide) (by decide) ?_
    show Steps p.tables e below (s₁.setTop (mkF m 42 #[.val (.int x), .val (.int (x &&& (65535 : Int32))), .val (.int (((x.toUInt32 >>> ((16 : Int32) &&& 31).toUInt32).toInt32) &&& (3 : Int32)))] [])) _
    refine XS.iloadN X0.here hx rfl (hb hby d1_42) rfl ?_
    refine XS.sipush X0.here hx rfl (hb hby d1_43) ?_
    refine XS.iand X0.here hx rfl (hb hby d1_46) rfl ?_
    show Steps p.tables e below (s₁.setTop (mkF m 47 #[.val (.int x), .val (.int (x &&& (65535 : Int32))), .val (.int (((x.toUInt32 >>> ((16 : Int32) &&& 31).toUInt32).toInt32) &&& (3 : Int32)))] [(.int ((x &&& (65535 : Int32)) &&& (2047 : Int32)))])) _
    exact retI X0 hx Bd.returns (hb hby d1_47) hr
  · show QI (f_draw x) h0 n0 _ s₁.heap _
    rw [e0]
    exact ⟨by rw [f_draw, if_neg hc13, if_neg hc20, if_neg hc34], N0, rfl⟩
set_option maxRecDepth 65536 in
set_option maxHeartbeats 40000000 in
theorem rm_draw (l : Launch) (Z : State) (a0 : Array Value) (hw : ∀ d ∈ tables_1, d.before a0 Z = true) (ws : List Jvm.Cond) (x : Int32)  (h0 : Heap) (n0 : Nat) (Z0 : n0 ≤ h0.size)   :
    MetFree l (⟨"com/example/orderly_latch/orderlylatch/name/LatchNameOfPinLaw", "draw", "(I)I"⟩ : MethodName) (head1 (Jvm.Cond.code (⟨"com/example/orderly_latch/orderlylatch/name/LatchNameOfPinLaw", "draw", "(I)I"⟩ : MethodName) method_2_code 3 (some .int) :: ws) ({ frames := 0, cells := 0, slots := 0, locals := 0 } : Room)) (fun aa_ U_ => aa_ = #[(.int x)] ∧ Z.Warmed39 U_.vm ∧ U_.heap = h0) (fun _ _ _ _ _ => True) (fun _ U_ o_ V_ => ∃ v_ L_, o_ = .returned v_ ∧ QI (f_draw x) h0 n0 v_ V_.heap L_ ∧ FrameEnd U_ o_ V_ L_ ({ frames := 0, cells := 0, slots := 0, locals := 0 } : Room).cells ({ frames := 0, cells := 0, slots := 0, locals := 0 } : Room).slots) := by
  by_cases g0 : (((x.toUInt32 >>> ((16 : Int32) &&& 31).toUInt32).toInt32) &&& (3 : Int32)) = (0 : Int32)
  · exact rm_draw_f l Z a0 hw ws x h0 n0 Z0  g0
  · by_cases g1 : (((x.toUInt32 >>> ((16 : Int32) &&& 31).toUInt32).toInt32) &&& (3 : Int32)) = (1 : Int32)
    · exact rm_draw_tf l Z a0 hw ws x h0 n0 Z0  g0 g1
    · by_cases g2 : (((x.toUInt32 >>> ((16 : Int32) &&& 31).toUInt32).toInt32) &&& (3 : Int32)) = (2 : Int32)
      · exact rm_draw_ttf l Z a0 hw ws x h0 n0 Z0  g0 g1 g2
      · exact rm_draw_ttt l Z a0 hw ws x h0 n0 Z0  g0 g1 g2
theorem d2_0 : decode method_5_code 0 = .ok (.iload_n 0, 1) := by decide +kernel
theorem d2_1 : decode method_5_code 1 = .ok (.sipush 128, 3) := by decide +kernel
theorem d2_4 : decode method_5_code 4 = .ok (.if_icmp .ge 5, 3) := by decide +kernel
theorem d2_7 : decode method_5_code 7 = .ok (.iconst 1, 1) := by decide +kernel
theorem d2_8 : decode method_5_code 8 = .ok (.ireturn, 1) := by decide +kernel
theorem d2_9 : decode method_5_code 9 = .ok (.iload_n 0, 1) := by decide +kernel
theorem d2_10 : decode method_5_code 10 = .ok (.sipush 2048, 3) := by decide +kernel
theorem d2_13 : decode method_5_code 13 = .ok (.if_icmp .ge 5, 3) := by decide +kernel
theorem d2_16 : decode method_5_code 16 = .ok (.iconst 2, 1) := by decide +kernel
theorem d2_17 : decode method_5_code 17 = .ok (.ireturn, 1) := by decide +kernel
theorem d2_18 : decode method_5_code 18 = .ok (.iload_n 0, 1) := by decide +kernel
theorem d2_19 : decode method_5_code 19 = .ok (.invokestatic 12, 3) := by decide +kernel
theorem d2_22 : decode method_5_code 22 = .ok (.ifCond .eq 16, 3) := by decide +kernel
theorem d2_25 : decode method_5_code 25 = .ok (.iload_n 2, 1) := by decide +kernel
theorem d2_26 : decode method_5_code 26 = .ok (.invokestatic 18, 3) := by decide +kernel
theorem d2_29 : decode method_5_code 29 = .ok (.ifCond .eq 7, 3) := by decide +kernel
theorem d2_32 : decode method_5_code 32 = .ok (.iconst 2, 1) := by decide +kernel
theorem d2_33 : decode method_5_code 33 = .ok (.goto 4, 3) := by decide +kernel
theorem d2_36 : decode method_5_code 36 = .ok (.iconst (-1), 1) := by decide +kernel
theorem d2_37 : decode method_5_code 37 = .ok (.ireturn, 1) := by decide +kernel
theorem d2_38 : decode method_5_code 38 = .ok (.iload_n 0, 1) := by decide +kernel
theorem d2_39 : decode method_5_code 39 = .ok (.invokestatic 18, 3) := by decide +kernel
theorem d2_42 : decode method_5_code 42 = .ok (.ifCond .eq 16, 3) := by decide +kernel
theorem d2_45 : decode method_5_code 45 = .ok (.iload_n 1, 1) := by decide +kernel
theorem d2_46 : decode method_5_code 46 = .ok (.invokestatic 12, 3) := by decide +kernel
theorem d2_49 : decode method_5_code 49 = .ok (.ifCond .eq 7, 3) := by decide +kernel
theorem d2_52 : decode method_5_code 52 = .ok (.iconst 2, 1) := by decide +kernel
theorem d2_53 : decode method_5_code 53 = .ok (.goto 4, 3) := by decide +kernel
theorem d2_56 : decode method_5_code 56 = .ok (.iconst (-1), 1) := by decide +kernel
theorem d2_57 : decode method_5_code 57 = .ok (.ireturn, 1) := by decide +kernel
theorem d2_58 : decode method_5_code 58 = .ok (.iconst 3, 1) := by decide +kernel
theorem d2_59 : decode method_5_code 59 = .ok (.ireturn, 1) := by decide +kernel
theorem pn_2 : plainName "com/example/orderly_latch/orderlylatch/name/LatchNameOfPinLaw" = true := by first | (simp [plainName, overriddenIn]; done) | decide +kernel
theorem ef_2 (m : MethodId) (x0 : Int32) (x1 : Int32) (x2 : Int32) : entryFrame m #[(.int x0), (.int x1), (.int x2)] 3 = mkF m 0 #[.val (.int x0), .val (.int x1), .val (.int x2)] [] := by first | (simp [entryFrame, mkF, argsToLocals, Value.category]; done) | rfl
def f_share (x y z : Int32) : Int32 := if x < (128 : Int32) then (1 : Int32) else if x < (2048 : Int32) then (2 : Int32) else if (f_high x) = (0 : Int32) then if (f_low x) = (0 : Int32) then (3 : Int32) else if (f_high y) = (0 : Int32) then (-1 : Int32) else (2 : Int32) else if (f_low z) = (0 : Int32) then (-1 : Int32) else (2 : Int32)
set_option maxRecDepth 65536 in
set_option maxHeartbeats 40000000 in
theorem rm_share_f (l : Launch) (Z : State) (a0 : Array Value) (hw : ∀ d ∈ tables_1, d.before a0 Z = true) (ws : List Jvm.Cond) (x y z : Int32)  (h0 : Heap) (n0 : Nat) (Z0 : n0 ≤ h0.size)  (hc4 : x < (128 : Int32)) :
    MetFree l (⟨"com/example/orderly_latch/orderlylatch/name/LatchNameOfPinLaw", "share", "(III)I"⟩ : MethodName) (head1 (Jvm.Cond.code (⟨"com/example/orderly_latch/orderlylatch/name/LatchNameOfPinLaw", "share", "(III)I"⟩ : MethodName) method_5_code 3 (some .int) :: ws) ({ frames := 1, cells := 0, slots := 0, locals := 14 } : Room)) (fun aa_ U_ => aa_ = #[(.int x), (.int y), (.int z)] ∧ Z.Warmed39 U_.vm ∧ U_.heap = h0) (fun _ _ _ _ _ => True) (fun _ U_ o_ V_ => ∃ v_ L_, o_ = .returned v_ ∧ QI (f_share x y z) h0 n0 v_ V_.heap L_ ∧ FrameEnd U_ o_ V_ L_ ({ frames := 1, cells := 0, slots := 0, locals := 14 } : Room).cells ({ frames := 1, cells := 0, slots := 0, locals := 14 } : Room).slots) := by
  refine MetFree.of_bodySF (plainFor_of_name pn_2) hisR ?_
  intro p e s m args below meth c s₁ Bd hml0 hP hK
  obtain ⟨rfl, hZ, hh⟩ := hP
  have hx := Bd.exec
  have hby := Bd.bytes
  have hml : c.maxLocals = 3 := hml0
  have hown : s.vm.findClass "com/example/orderly_latch/orderlylatch/name/LatchNameOfPinLaw" = some m.cls := findClass_of_methodNamed Bd.named
  have hnm := (name_of_methodNamed Bd.named Bd.method).1
  have X0 : Stand p l e ({ frames := 1, cells := 0, slots := 0, locals := 14 } : Room) s m #[(.int x), (.int y), (.int z)] below meth c s₁ [] 0 0 := Stand.of_body Bd
  have e0 : s₁.heap = h0 := by rw [← hh, Bd.state]; rfl
  have N0 := Fr.nil n0
  have pre0 : ∀ zz, Steps p.tables e below (s₁.setTop (mkF m 0 #[.val (.int x), .val (.int y), .val (.int z)] [])) zz → Steps p.tables e below (s₁.setTop (entryFrame m #[(.int x), (.int y), (.int z)] 3)) zz := fun zz k => castTop (ef_2 m x y z) k
  obtain ⟨fs, hr, hrun, hended, hW, hsame⟩ := X0.leave (v := some (.int (1 : Int32))) (fun h => by rw [Bd.returns] at h; cases h)
  refine ⟨_, _, pre0 _ ?_, hrun, hended, _, _, rfl, ?_, ⟨_, rfl⟩, hW, hsame.mono (by decide) (by decide)⟩
  · show Steps p.tables e below (s₁.setTop (mkF m 0 #[.val (.int x), .val (.int y), .val (.int z)] [])) _
    refine XS.iloadN X0.here hx rfl (hb hby d2_0) rfl ?_
    refine XS.sipush X0.here hx rfl (hb hby d2_1) ?_
    refine XS.icmpNo X0.here hx rfl (hb hby d2_4) rfl (tlt hc4).2.1 ?_
    refine XS.iconst X0.here hx rfl (hb hby d2_7) ?_
    show Steps p.tables e below (s₁.setTop (mkF m 8 #[.val (.int x), .val (.int y), .val (.int z)] [(.int (1 : Int32))])) _
    exact retI X0 hx Bd.returns (hb hby d2_8) hr
  · show QI (f_share x y z) h0 n0 _ s₁.heap _
    rw [e0]
    exact ⟨by rw [f_share, if_pos hc4], N0, rfl⟩
set_option maxRecDepth 65536 in
set_option maxHeartbeats 40000000 in
theorem rm_share_tf (l : Launch) (Z : State) (a0 : Array Value) (hw : ∀ d ∈ tables_1, d.before a0 Z = true) (ws : List Jvm.Cond) (x y z : Int32)  (h0 : Heap) (n0 : Nat) (Z0 : n0 ≤ h0.size)  (hc4 : ¬ (x < (128 : Int32))) (hc13 : x < (2048 : Int32)) :
    MetFree l (⟨"com/example/orderly_latch/orderlylatch/name/LatchNameOfPinLaw", "share", "(III)I"⟩ : MethodName) (head1 (Jvm.Cond.code (⟨"com/example/orderly_latch/orderlylatch/name/LatchNameOfPinLaw", "share", "(III)I"⟩ : MethodName) method_5_code 3 (some .int) :: ws) ({ frames := 1, cells := 0, slots := 0, locals := 14 } : Room)) (fun aa_ U_ => aa_ = #[(.int x), (.int y), (.int z)] ∧ Z.Warmed39 U_.vm ∧ U_.heap = h0) (fun _ _ _ _ _ => True) (fun _ U_ o_ V_ => ∃ v_ L_, o_ = .returned v_ ∧ QI (f_share x y z) h0 n0 v_ V_.heap L_ ∧ FrameEnd U_ o_ V_ L_ ({ frames := 1, cells := 0, slots := 0, locals := 14 } : Room).cells ({ frames := 1, cells := 0, slots := 0, locals := 14 } : Room).slots) := by
  refine MetFree.of_bodySF (plainFor_of_name pn_2) hisR ?_
  intro p e s m args below meth c s₁ Bd hml0 hP hK
  obtain ⟨rfl, hZ, hh⟩ := hP
  have hx := Bd.exec
  have hby := Bd.bytes
  have hml : c.maxLocals = 3 := hml0
  have hown : s.vm.findClass "com/example/orderly_latch/orderlylatch/name/LatchNameOfPinLaw" = some m.cls := findClass_of_methodNamed Bd.named
  have hnm := (name_of_methodNamed Bd.named Bd.method).1
  have X0 : Stand p l e ({ frames := 1, cells := 0, slots := 0, locals := 14 } : Room) s m #[(.int x), (.int y), (.int z)] below meth c s₁ [] 0 0 := Stand.of_body Bd
  have e0 : s₁.heap = h0 := by rw [← hh, Bd.state]; rfl
  have N0 := Fr.nil n0
  have pre0 : ∀ zz, Steps p.tables e below (s₁.setTop (mkF m 0 #[.val (.int x), .val (.int y), .val (.int z)] [])) zz → Steps p.tables e below (s₁.setTop (entryFrame m #[(.int x), (.int y), (.int z)] 3)) zz := fun zz k => castTop (ef_2 m x y z) k
  obtain ⟨fs, hr, hrun, hended, hW, hsame⟩ := X0.leave (v := some (.int (2 : Int32))) (fun h => by rw [Bd.returns] at h; cases h)
  refine ⟨_, _, pre0 _ ?_, hrun, hended, _, _, rfl, ?_, ⟨_, rfl⟩, hW, hsame.mono (by decide) (by decide)⟩
  · show Steps p.tables e below (s₁.setTop (mkF m 0 #[.val (.int x), .val (.int y), .val (.int z)] [])) _
    refine XS.iloadN X0.here hx rfl (hb hby d2_0) rfl ?_
    refine XS.sipush X0.here hx rfl (hb hby d2_1) ?_
    refine XS.icmpYes X0.here hx rfl (pc0 := 4) (pc' := 9) rfl (hb hby d2_4) rfl (flt hc4).2.1 (by decide) (by decide) ?_
    refine XS.iloadN X0.here hx rfl (hb hby d2_9) rfl ?_
    refine XS.sipush X0.here hx rfl (hb hby d2_10) ?_
    refine XS.icmpNo X0.here hx rfl (hb hby d2_13) rfl (tlt hc13).2.1 ?_
    show Steps p.tables e below (s₁.setTop (mkF m 16 #[.val (.int x), .val (.int y), .val (.int z)] [])) _
    refine XS.iconst X0.here hx rfl (hb hby d2_16) ?_
    show Steps p.tables e below (s₁.setTop (mkF m 17 #[.val (.int x), .val (.int y), .val (.int z)] [(.int (2 : Int32))])) _
    exact retI X0 hx Bd.returns (hb hby d2_17) hr
  · show QI (f_share x y z) h0 n0 _ s₁.heap _
    rw [e0]
    exact ⟨by rw [f_share, if_neg hc4, if_pos hc13], N0, rfl⟩
set_option maxRecDepth 65536 in
set_option maxHeartbeats 40000000 in
theorem rm_share_tttt (l : Launch) (Z : State) (a0 : Array Value) (hw : ∀ d ∈ tables_1, d.before a0 Z = true) (ws : List Jvm.Cond) (x y z : Int32)  (h0 : Heap) (n0 : Nat) (Z0 : n0 ≤ h0.size)  (hc4 : ¬ (x < (128 : Int32))) (hc13 : ¬ (x < (2048 : Int32))) (hc22 : (f_high x) = (0 : Int32)) (hc42 : (f_low x) = (0 : Int32)) :
    MetFree l (⟨"com/example/orderly_latch/orderlylatch/name/LatchNameOfPinLaw", "share", "(III)I"⟩ : MethodName) (head1 (Jvm.Cond.code (⟨"com/example/orderly_latch/orderlylatch/name/LatchNameOfPinLaw", "share", "(III)I"⟩ : MethodName) method_5_code 3 (some .int) :: ws) ({ frames := 1, cells := 0, slots := 0, locals := 14 } : Room)) (fun aa_ U_ => aa_ = #[(.int x), (.int y), (.int z)] ∧ Z.Warmed39 U_.vm ∧ U_.heap = h0) (fun _ _ _ _ _ => True) (fun _ U_ o_ V_ => ∃ v_ L_, o_ = .returned v_ ∧ QI (f_share x y z) h0 n0 v_ V_.heap L_ ∧ FrameEnd U_ o_ V_ L_ ({ frames := 1, cells := 0, slots := 0, locals := 14 } : Room).cells ({ frames := 1, cells := 0, slots := 0, locals := 14 } : Room).slots) := by
  refine MetFree.of_bodySF (plainFor_of_name pn_2) hisR ?_
  intro p e s m args below meth c s₁ Bd hml0 hP hK
  obtain ⟨rfl, hZ, hh⟩ := hP
  have hx := Bd.exec
  have hby := Bd.bytes
  have hml : c.maxLocals = 3 := hml0
  have hown : s.vm.findClass "com/example/orderly_latch/orderlylatch/name/LatchNameOfPinLaw" = some m.cls := findClass_of_methodNamed Bd.named
  have hnm := (name_of_methodNamed Bd.named Bd.method).1
  have X0 : Stand p l e ({ frames := 1, cells := 0, slots := 0, locals := 14 } : Room) s m #[(.int x), (.int y), (.int z)] below meth c s₁ [] 0 0 := Stand.of_body Bd
  have e0 : s₁.heap = h0 := by rw [← hh, Bd.state]; rfl
  have N0 := Fr.nil n0
  have pre0 : ∀ zz, Steps p.tables e below (s₁.setTop (mkF m 0 #[.val (.int x), .val (.int y), .val (.int z)] [])) zz → Steps p.tables e below (s₁.setTop (entryFrame m #[(.int x), (.int y), (.int z)] 3)) zz := fun zz k => castTop (ef_2 m x y z) k
  obtain ⟨_, _, ⟨T65, L65, k65, n65⟩, -, X65, ⟨Lc65, hQ65, l65, y65, z65⟩, st65⟩ := Jvm.LawKit.callS X0 hx (y := (⟨"com/example/orderly_latch/orderlylatch/name/LatchNameOfPinLaw", "isHigh", "(I)Z"⟩ : MethodName)) hown (mvT hZ (hw _ (List.mem_of_getElem? (i := 108) rfl))) (mvT hZ (hw _ (List.mem_of_getElem? (i := 109) rfl))) (mvT hZ (hw _ (List.mem_of_getElem? (i := 2) rfl))) (mvT hZ (hw _ (List.mem_of_getElem? (i := 110) rfl))) (by decide) (backOf (W := 0) (rm_high l Z a0 hw [] x h0 n0 Z0) hZ (hw _ (List.mem_of_getElem? (i := 110) rfl)) (hw _ (List.mem_of_getElem? (i := 2) rfl)) (by decide) (by decide)) (g := (mkF m 19 #[.val (.int x), .val (.int y), .val (.int z)] [(.int x)])) rfl (by rw [hml]; rfl) (argsL := [(.int x)]) (rest := []) (lenOf pd_21 rfl) rfl (by show 2 * 0 + _ ≤ _; exact Nat.le_of_eq rfl) (hb hby d2_19) (fun _ _ => ⟨rfl, e0, (by decide : 0 + 0 ≤ _), (by decide : 0 + 0 ≤ _)⟩)
  dsimp only [Pt.U, Pt.locs, Pt.cells, Pt.slots] at X65 l65 y65 z65 st65 hQ65
  subst l65 y65 z65
  obtain ⟨rfl, N65q, e65⟩ := hQ65
  have N65 := Fr.app N0 N65q
  obtain ⟨_, _, ⟨T66, L66, k66, n66⟩, -, X66, ⟨Lc66, hQ66, l66, y66, z66⟩, st66⟩ := Jvm.LawKit.callS X65 hx (y := (⟨"com/example/orderly_latch/orderlylatch/name/LatchNameOfPinLaw", "isLow", "(I)Z"⟩ : MethodName)) hown (mvT hZ (hw _ (List.mem_of_getElem? (i := 112) rfl))) (mvT hZ (hw _ (List.mem_of_getElem? (i := 113) rfl))) (mvT hZ (hw _ (List.mem_of_getElem? (i := 2) rfl))) (mvT hZ (hw _ (List.mem_of_getElem? (i := 114) rfl))) (by decide) (backOf (W := 0) (rm_low l Z a0 hw [] x h0 n0 Z0) hZ (hw _ (List.mem_of_getElem? (i := 114) rfl)) (hw _ (List.mem_of_getElem? (i := 2) rfl)) (by decide) (by decide)) (g := (mkF m 39 #[.val (.int x), .val (.int y), .val (.int z)] [(.int x)])) rfl (by rw [hml]; rfl) (argsL := [(.int x)]) (rest := []) (lenOf pd_21 rfl) rfl (by show 2 * 0 + _ ≤ _; exact Nat.le_of_eq rfl) (hb hby d2_39) (fun _ _ => ⟨rfl, e65, (by decide : 0 + 0 ≤ _), (by decide : 0 + 0 ≤ _)⟩)
  dsimp only [Pt.U, Pt.locs, Pt.cells, Pt.slots] at X66 l66 y66 z66 st66 hQ66
  subst l66 y66 z66
  obtain ⟨rfl, N66q, e66⟩ := hQ66
  have N66 := Fr.app N65 N66q
  obtain ⟨fs, hr, hrun, hended, hW, hsame⟩ := X66.leave (v := some (.int (3 : Int32))) (fun h => by rw [Bd.returns] at h; cases h)
  refine ⟨_, _, pre0 _ ?_, hrun, hended, _, _, rfl, ?_, ⟨_, rfl⟩, hW, hsame.mono (by decide) (by decide)⟩
  · show Steps p.tables e below (s₁.setTop (mkF m 0 #[.val (.int x), .val (.int y), .val (.int z)] [])) _
    refine XS.iloadN X0.here hx rfl (hb hby d2_0) rfl ?_
    refine XS.sipush X0.here hx rfl (hb hby d2_1) ?_
    refine XS.icmpYes X0.here hx rfl (pc0 := 4) (pc' := 9) rfl (hb hby d2_4) rfl (flt hc4).2.1 (by decide) (by decide) ?_
    refine XS.iloadN X0.here hx rfl (hb hby d2_9) rfl ?_
    refine XS.sipush X0.here hx rfl (hb hby d2_10) ?_
    refine XS.icmpYes X0.here hx rfl (pc0 := 13) (pc' := 18) rfl (hb hby d2_13) rfl (flt hc13).2.1 (by decide) (by decide) ?_
    show Steps p.tables e below (s₁.setTop (mkF m 18 #[.val (.int x), .val (.int y), .val (.int z)] [])) _
    refine XS.iloadN X0.here hx rfl (hb hby d2_18) rfl ?_
    show Steps p.tables e below (s₁.setTop (mkF m 19 #[.val (.int x), .val (.int y), .val (.int z)] [(.int x)])) _
    refine st65 _ ?_
    refine XS.ifYes X65.here hx rfl (pc0 := 22) (pc' := 38) rfl (hb hby d2_22) rfl ((if0 _ _).trans (teq hc22).1) (by decide) (by decide) ?_
    refine XS.iloadN X65.here hx rfl (hb hby d2_38) rfl ?_
    show Steps p.tables e below (T65.setTop (mkF m 39 #[.val (.int x), .val (.int y), .val (.int z)] [(.int x)])) _
    refine st66 _ ?_
    refine XS.ifYes X66.here hx rfl (pc0 := 42) (pc' := 58) rfl (hb hby d2_42) rfl ((if0 _ _).trans (teq hc42).1) (by decide) (by decide) ?_
    refine XS.iconst X66.here hx rfl (hb hby d2_58) ?_
    show Steps p.tables e below (T66.setTop (mkF m 59 #[.val (.int x), .val (.int y), .val (.int z)] [(.int (3 : Int32))])) _
    exact retI X66 hx Bd.returns (hb hby d2_59) hr
  · show QI (f_share x y z) h0 n0 _ T66.heap _
    rw [e66]
    exact ⟨by rw [f_share, if_neg hc4, if_neg hc13, if_pos hc22, if_pos hc42], N66, rfl⟩
set_option maxRecDepth 65536 in
set_option maxHeartbeats 40000000 in
theorem rm_share_tttft (l : Launch) (Z : State) (a0 : Array Value) (hw : ∀ d ∈ tables_1, d.before a0 Z = true) (ws : List Jvm.Cond) (x y z : Int32)  (h0 : Heap) (n0 : Nat) (Z0 : n0 ≤ h0.size)  (hc4 : ¬ (x < (128 : Int32))) (hc13 : ¬ (x < (2048 : Int32))) (hc22 : (f_high x) = (0 : Int32)) (hc42 : ¬ ((f_low x) = (0 : Int32))) (hc49 : (f_high y) = (0 : Int32)) :
    MetFree l (⟨"com/example/orderly_latch/orderlylatch/name/LatchNameOfPinLaw", "share", "(III)I"⟩ : MethodName) (head1 (Jvm.Cond.code (⟨"com/example/orderly_latch/orderlylatch/name/LatchNameOfPinLaw", "share", "(III)I"⟩ : MethodName) method_5_code 3 (some .int) :: ws) ({ frames := 1, cells := 0, slots := 0, locals := 14 } : Room)) (fun aa_ U_ => aa_ = #[(.int x), (.int y), (.int z)] ∧ Z.Warmed39 U_.vm ∧ U_.heap = h0) (fun _ _ _ _ _ => True) (fun _ U_ o_ V_ => ∃ v_ L_, o_ = .returned v_ ∧ QI (f_share x y z) h0 n0 v_ V_.heap L_ ∧ FrameEnd U_ o_ V_ L_ ({ frames := 1, cells := 0, slots := 0, locals := 14 } : Room).cells ({ frames := 1, cells := 0, slots := 0, locals := 14 } : Room).slots) := by
  refine MetFree.of_bodySF (plainFor_of_name pn_2) hisR ?_
  intro p e s m args below meth c s₁ Bd hml0 hP hK
  obtain ⟨rfl, hZ, hh⟩ := hP
  have hx := Bd.exec
  have hby := Bd.bytes
  have hml : c.maxLocals = 3 := hml0
  have hown : s.vm.findClass "com/example/orderly_latch/orderlylatch/name/LatchNameOfPinLaw" = some m.cls := findClass_of_methodNamed Bd.named
  have hnm := (name_of_methodNamed Bd.named Bd.method).1
  have X0 : Stand p l e ({ frames := 1, cells := 0, slots := 0, locals := 14 } : Room) s m #[(.int x), (.int y), (.int z)] below meth c s₁ [] 0 0 := Stand.of_body Bd
  have e0 : s₁.heap = h0 := by rw [← hh, Bd.state]; rfl
  have N0 := Fr.nil n0
  have pre0 : ∀ zz, Steps p.tables e below (s₁.setTop (mkF m 0 #[.val (.int x), .val (.int y), .val (.int z)] [])) zz → Steps p.tables e below (s₁.setTop (entryFrame m #[(.int x), (.int y), (.int z)] 3)) zz := fun zz k => castTop (ef_2 m x y z) k
  obtain ⟨_, _, ⟨T67, L67, k67, n67⟩, -, X67, ⟨Lc67, hQ67, l67, y67, z67⟩, st67⟩ := Jvm.LawKit.callS X0 hx (y := (⟨"com/example/orderly_latch/orderlylatch/name/LatchNameOfPinLaw", "isHigh", "(I)Z"⟩ : MethodName)) hown (mvT hZ (hw _ (List.mem_of_getElem? (i := 108) rfl))) (mvT hZ (hw _ (List.mem_of_getElem? (i := 109) rfl))) (mvT hZ (hw _ (List.mem_of_getElem? (i := 2) rfl))) (mvT hZ (hw _ (List.mem_of_getElem? (i := 110) rfl))) (by decide) (backOf (W := 0) (rm_high l Z a0 hw [] x h0 n0 Z0) hZ (hw _ (List.mem_of_getElem? (i := 110) rfl)) (hw _ (List.mem_of_getElem? (i := 2) rfl)) (by decide) (by decide)) (g := (mkF m 19 #[.val (.int x), .val (.int y), .val (.int z)] [(.int x)])) rfl (by rw [hml]; rfl) (argsL := [(.int x)]) (rest := []) (lenOf pd_21 rfl) rfl (by show 2 * 0 + _ ≤ _; exact Nat.le_of_eq rfl) (hb hby d2_19) (fun _ _ => ⟨rfl, e0, (by decide : 0 + 0 ≤ _), (by decide : 0 + 0 ≤ _)⟩)
  dsimp only [Pt.U, Pt.locs, Pt.cells, Pt.slots] at X67 l67 y67 z67 st67 hQ67
  subst l67 y67 z67
  obtain ⟨rfl, N67q, e67⟩ := hQ67
  have N67 := Fr.app N0 N67q
  obtain ⟨_, _, ⟨T68, L68, k68, n68⟩, -, X68, ⟨Lc68, hQ68, l68, y68, z68⟩, st68⟩ := Jvm.LawKit.callS X67 hx (y := (⟨"com/example/orderly_latch/orderlylatch/name/LatchNameOfPinLaw", "isLow", "(I)Z"⟩ : MethodName)) hown (mvT hZ (hw _ (List.mem_of_getElem? (i := 112) rfl))) (mvT hZ (hw _ (List.mem_of_getElem? (i := 113) rfl))) (mvT hZ (hw _ (List.mem_of_getElem? (i := 2) rfl))) (mvT hZ (hw _ (List.mem_of_getElem? (i := 114) rfl))) (by decide) (backOf (W := 0) (rm_low l Z a0 hw [] x h0 n0 Z0) hZ (hw _ (List.mem_of_getElem? (i := 114) rfl)) (hw _ (List.mem_of_getElem? (i := 2) rfl)) (by decide) (by decide)) (g := (mkF m 39 #[.val (.int x), .val (.int y), .val (.int z)] [(.int x)])) rfl (by rw [hml]; rfl) (argsL := [(.int x)]) (rest := []) (lenOf pd_21 rfl) rfl (by show 2 * 0 + _ ≤ _; exact Nat.le_of_eq rfl) (hb hby d2_39) (fun _ _ => ⟨rfl, e67, (by decide : 0 + 0 ≤ _), (by decide : 0 + 0 ≤ _)⟩)
  dsimp only [Pt.U, Pt.locs, Pt.cells, Pt.slots] at X68 l68 y68 z68 st68 hQ68
  subst l68 y68 z68
  obtain ⟨rfl, N68q, e68⟩ := hQ68
  have N68 := Fr.app N67 N68q
  obtain ⟨_, _, ⟨T69, L69, k69, n69⟩, -, X69, ⟨Lc69, hQ69, l69, y69, z69⟩, st69⟩ := Jvm.LawKit.callS X68 hx (y := (⟨"com/example/orderly_latch/orderlylatch/name/LatchNameOfPinLaw", "isHigh", "(I)Z"⟩ : MethodName)) hown (mvT hZ (hw _ (List.mem_of_getElem? (i := 108) rfl))) (mvT hZ (hw _ (List.mem_of_getElem? (i := 109) rfl))) (mvT hZ (hw _ (List.mem_of_getElem? (i := 2) rfl))) (mvT hZ (hw _ (List.mem_of_getElem? (i := 110) rfl))) (by decide) (backOf (W := 0) (rm_high l Z a0 hw [] y h0 n0 Z0) hZ (hw _ (List.mem_of_getElem? (i := 110) rfl)) (hw _ (List.mem_of_getElem? (i := 2) rfl)) (by decide) (by decide)) (g := (mkF m 46 #[.val (.int x), .val (.int y), .val (.int z)] [(.int y)])) rfl (by rw [hml]; rfl) (argsL := [(.int y)]) (rest := []) (lenOf pd_21 rfl) rfl (by show 2 * 0 + _ ≤ _; exact Nat.le_of_eq rfl) (hb hby d2_46) (fun _ _ => ⟨rfl, e68, (by decide : 0 + 0 ≤ _), (by decide : 0 + 0 ≤ _)⟩)
  dsimp only [Pt.U, Pt.locs, Pt.cells, Pt.slots] at X69 l69 y69 z69 st69 hQ69
  subst l69 y69 z69
  obtain ⟨rfl, N69q, e69⟩ := hQ69
  have N69 := Fr.app N68 N69q
  obtain ⟨fs, hr, hrun, hended, hW, hsame⟩ := X69.leave (v := some (.int (-1 : Int32))) (fun h => by rw [Bd.returns] at h; cases h)
  refine ⟨_, _, pre0 _ ?_, hrun, hended, _, _, rfl, ?_, ⟨_, rfl⟩, hW, hsame.mono (by decide) (by decide)⟩
  · show Steps p.tables e below (s₁.setTop (mkF m 0 #[.val (.int x), .val (.int y), .val (.int z)] [])) _
    refine XS.iloadN X0.here hx rfl (hb hby d2_0) rfl ?_
    refine XS.sipush X0.here hx rfl (hb hby d2_1) ?_
    refine XS.icmpYes X0.here hx rfl (pc0 := 4) (pc' := 9) rfl (hb hby d2_4) rfl (flt hc4).2.1 (by decide) (by decide) ?_
    refine XS.iloadN X0.here hx rfl (hb hby d2_9) rfl ?_
    refine XS.sipush X0.here hx rfl (hb hby d2_10) ?_
    refine XS.icmpYes X0.here hx rfl (pc0 := 13) (pc' := 18) rfl (hb hby d2_13) rfl (flt hc13).2.1 (by decide) (by decide) ?_
    show Steps p.tables e below (s₁.setTop (mkF m 18 #[.val (.int x), .val (.int y), .val (.int z)] [])) _
    refine XS.iloadN X0.here hx rfl (hb hby d2_18) rfl ?_
    show Steps p.tables e below (s₁.setTop (mkF m 19 #[.val (.int x), .val (.int y), .val (.int z)] [(.int x)])) _
    refine st67 _ ?_
    refine XS.ifYes X67.here hx rfl (pc0 := 22) (pc' := 38) rfl (hb hby d2_22) rfl ((if0 _ _).trans (teq hc22).1) (by decide) (by decide) ?_
    refine XS.iloadN X67.here hx rfl (hb hby d2_38) rfl ?_
    show Steps p.tables e below (T67.setTop (mkF m 39 #[.val (.int x), .val (.int y), .val (.int z)] [(.int x)])) _
    refine st68 _ ?_
    refine XS.ifNo X68.here hx rfl (hb hby d2_42) rfl ((if0 _ _).trans (feq hc42).1) ?_
    refine XS.iloadN X68.here hx rfl (hb hby d2_45) rfl ?_
    show Steps p.tables e below (T68.setTop (mkF m 46 #[.val (.int x), .val (.int y), .val (.int z)] [(.int y)])) _
    refine st69 _ ?_
    refine XS.ifYes X69.here hx rfl (pc0 := 49) (pc' := 56) rfl (hb hby d2_49) rfl ((if0 _ _).trans (teq hc49).1) (by decide) (by decide) ?_
    refine XS.iconst X69.here hx rfl (hb hby d2_56) ?_
    show Steps p.tables e below (T69.setTop (mkF m 57 #[.val (.int x), .val (.int y), .val (.int z)] [(.int (-1 : Int32))])) _
    exact retI X69 hx Bd.returns (hb hby d2_57) hr
  · show QI (f_share x y z) h0 n0 _ T69.heap _
    rw [e69]
    exact ⟨by rw [f_share, if_neg hc4, if_neg hc13, if_pos hc22, if_neg hc42, if_pos hc49], N69, rfl⟩
set_option maxRecDepth 65536 in
set_option maxHeartbeats 40000000 in
theorem rm_share_tttff (l : Launch) (Z : State) (a0 : Array Value) (hw : ∀ d ∈ tables_1, d.before a0 Z = true) (ws : List Jvm.Cond) (x y z : Int32)  (h0 : Heap) (n0 : Nat) (Z0 : n0 ≤ h0.size)  (hc4 : ¬ (x < (128 : Int32))) (hc13 : ¬ (x < (2048 : Int32))) (hc22 : (f_high x) = (0 : Int32)) (hc42 : ¬ ((f_low x) = (0 : Int32))) (hc49 : ¬ ((f_high y) = (0 : Int32))) :
    MetFree l (⟨"com/example/orderly_latch/orderlylatch/name/LatchNameOfPinLaw", "share", "(III)I"⟩ : MethodName) (head1 (Jvm.Cond.code (⟨"com/example/orderly_latch/orderlylatch/name/LatchNameOfPinLaw", "share", "(III)I"⟩ : MethodName) method_5_code 3 (some .int) :: ws) ({ frames := 1, cells := 0, slots := 0, locals := 14 } : Room)) (fun aa_ U_ => aa_ = #[(.int x), (.int y), (.int z)] ∧ Z.Warmed39 U_.vm ∧ U_.heap = h0) (fun _ _ _ _ _ => True) (fun _ U_ o_ V_ => ∃ v_ L_, o_ = .returned v_ ∧ QI (f_share x y z) h0 n0 v_ V_.heap L_ ∧ FrameEnd U_ o_ V_ L_ ({ frames := 1, cells := 0, slots := 0, locals := 14 } : Room).cells ({ frames := 1, cells := 0, slots := 0, locals := 14 } : Room).slots) := by
  refine MetFree.of_bodySF (plainFor_of_name pn_2) hisR ?_
  intro p e s m args below meth c s₁ Bd hml0 hP hK
  obtain ⟨rfl, hZ, hh⟩ := hP
  have hx := Bd.exec
  have hby := Bd.bytes
  have hml : c.maxLocals = 3 := hml0
  have hown : s.vm.findClass "com/example/orderly_latch/orderlylatch/name/LatchNameOfPinLaw" = some m.cls := findClass_of_methodNamed Bd.named
  have hnm := (name_of_methodNamed Bd.named Bd.method).1
  have X0 : Stand p l e ({ frames := 1, cells := 0, slots := 0, locals := 14 } : Room) s m #[(.int x), (.int y), (.int z)] below meth c s₁ [] 0 0 := Stand.of_body Bd
  have e0 : s₁.heap = h0 := by rw [← hh, Bd.state]; rfl
  have N0 := Fr.nil n0
  have pre0 : ∀ zz, Steps p.tables e below (s₁.setTop (mkF m 0 #[.val (.int x), .val (.int y), .val (.int z)] [])) zz → Steps p.tables e below (s₁.setTop (entryFrame m #[(.int x), (.int y), (.int z)] 3)) zz := fun zz k => castTop (ef_2 m x y z) k
  obtain ⟨_, _, ⟨T70, L70, k70, n70⟩, -, X70, ⟨Lc70, hQ70, l70, y70, z70⟩, st70⟩ := Jvm.LawKit.callS X0 hx (y := (⟨"com/example/orderly_latch/orderlylatch/name/LatchNameOfPinLaw", "isHigh", "(I)Z"⟩ : MethodName)) hown (mvT hZ (hw _ (List.mem_of_getElem? (i := 108) rfl))) (mvT hZ (hw _ (List.mem_of_getElem? (i := 109) rfl))) (mvT hZ (hw _ (List.mem_of_getElem? (i := 2) rfl))) (mvT hZ (hw _ (List.mem_of_getElem? (i := 110) rfl))) (by decide) (backOf (W := 0) (rm_high l Z a0 hw [] x h0 n0 Z0) hZ (hw _ (List.mem_of_getElem? (i := 110) rfl)) (hw _ (List.mem_of_getElem? (i := 2) rfl)) (by decide) (by decide)) (g := (mkF m 19 #[.val (.int x), .val (.int y), .val (.int z)] [(.int x)])) rfl (by rw [hml]; rfl) (argsL := [(.int x)]) (rest := []) (lenOf pd_21 rfl) rfl (by show 2 * 0 + _ ≤ _; exact Nat.le_of_eq rfl) (hb hby d2_19) (fun _ _ => ⟨rfl, e0, (by decide : 0 + 0 ≤ _), (by decide : 0 + 0 ≤ _)⟩)
  dsimp only [Pt.U, Pt.locs, Pt.cells, Pt.slots] at X70 l70 y70 z70 st70 hQ70
  subst l70 y70 z70
  obtain ⟨rfl, N70q, e70⟩ := hQ70
  have N70 := Fr.app N0 N70q
  obtain ⟨_, _, ⟨T71, L71, k71, n71⟩, -, X71, ⟨Lc71, hQ71, l71, y71, z71⟩, st71⟩ := Jvm.LawKit.callS X70 hx (y := (⟨"com/example/orderly_latch/orderlylatch/name/LatchNameOfPinLaw", "isLow", "(I)Z"⟩ : MethodName)) hown (mvT hZ (hw _ (List.mem_of_getElem? (i := 112) rfl))) (mvT hZ (hw _ (List.mem_of_getElem? (i := 113) rfl))) (mvT hZ (hw _ (List.mem_of_getElem? (i := 2) rfl))) (mvT hZ (hw _ (List.mem_of_getElem? (i := 114) rfl))) (by decide) (backOf (W := 0) (rm_low l Z a0 hw [] x h0 n0 Z0) hZ (hw _ (List.mem_of_getElem? (i := 114) rfl)) (hw _ (List.mem_of_getElem? (i := 2) rfl)) (by decide) (by decide)) (g := (mkF m 39 #[.val (.int x), .val (.int y), .val (.int z)] [(.int x)])) rfl (by rw [hml]; rfl) (argsL := [(.int x)]) (rest := []) (lenOf pd_21 rfl) rfl (by show 2 * 0 + _ ≤ _; exact Nat.le_of_eq rfl) (hb hby d2_39) (fun _ _ => ⟨rfl, e70, (by decide : 0 + 0 ≤ _), (by decide : 0 + 0 ≤ _)⟩)
  dsimp only [Pt.U, Pt.locs, Pt.cells, Pt.slots] at X71 l71 y71 z71 st71 hQ71
  subst l71 y71 z71
  obtain ⟨rfl, N71q, e71⟩ := hQ71
  have N71 := Fr.app N70 N71q
  obtain ⟨_, _, ⟨T72, L72, k72, n72⟩, -, X72, ⟨Lc72, hQ72, l72, y72, z72⟩, st72⟩ := Jvm.LawKit.callS X71 hx (y := (⟨"com/example/orderly_latch/orderlylatch/name/LatchNameOfPinLaw", "isHigh", "(I)Z"⟩ : MethodName)) hown (mvT hZ (hw _ (List.mem_of_getElem? (i := 108) rfl))) (mvT hZ (hw _ (List.mem_of_getElem? (i := 109) rfl))) (mvT hZ (hw _ (List.mem_of_getElem? (i := 2) rfl))) (mvT hZ (hw _ (List.mem_of_getElem? (i := 110) rfl))) (by decide) (backOf (W := 0) (rm_high l Z a0 hw [] y h0 n0 Z0) hZ (hw _ (List.mem_of_getElem? (i := 110) rfl)) (hw _ (List.mem_of_getElem? (i := 2) rfl)) (by decide) (by decide)) (g := (mkF m 46 #[.val (.int x), .val (.int y), .val (.int z)] [(.int y)])) rfl (by rw [hml]; rfl) (argsL := [(.int y)]) (rest := []) (lenOf pd_21 rfl) rfl (by show 2 * 0 + _ ≤ _; exact Nat.le_of_eq rfl) (hb hby d2_46) (fun _ _ => ⟨rfl, e71, (by decide : 0 + 0 ≤ _), (by decide : 0 + 0 ≤ _)⟩)
  dsimp only [Pt.U, Pt.locs, Pt.cells, Pt.slots] at X72 l72 y72 z72 st72 hQ72
  subst l72 y72 z72
  obtain ⟨rfl, N72q, e72⟩ := hQ72
  have N72 := Fr.app N71 N72q
  obtain ⟨fs, hr, hrun, hended, hW, hsame⟩ := X72.leave (v := some (.int (2 : Int32))) (fun h => by rw [Bd.returns] at h; cases h)
  refine ⟨_, _, pre0 _ ?_, hrun, hended, _, _, rfl, ?_, ⟨_, rfl⟩, hW, hsame.mono (by decide) (by decide)⟩
  · show Steps p.tables e below (s₁.setTop (mkF m 0 #[.val (.int x), .val (.int y), .val (.int z)] [])) _
    refine XS.iloadN X0.here hx rfl (hb hby d2_0) rfl ?_
    refine XS.sipush X0.here hx rfl (hb hby d2_1) ?_
    refine XS.icmpYes X0.here hx rfl (pc0 := 4) (pc' := 9) rfl (hb hby d2_4) rfl (flt hc4).2.1 (by decide) (by decide) ?_
    refine XS.iloadN X0.here hx rfl (hb hby d2_9) rfl ?_
    refine XS.sipush X0.here hx rfl (hb hby d2_10) ?_
    refine XS.icmpYes X0.here hx rfl (pc0 := 13) (pc' := 18) rfl (hb hby d2_13) rfl (flt hc13).2.1 (by decide) (by decide) ?_
    show Steps p.tables e below (s₁.setTop (mkF m 18 #[.val (.int x), .val (.int y), .val (.int z)] [])) _
    refine XS.iloadN X0.here hx rfl (hb hby d2_18) rfl ?_
    show Steps p.tables e below (s₁.setTop (mkF m 19 #[.val (.int x), .val (.int y), .val (.int z)] [(.int x)])) _
    refine st70 _ ?_
    refine XS.ifYes X70.here hx rfl (pc0 := 22) (pc' := 38) rfl (hb hby d2_22) rfl ((if0 _ _).trans (teq hc22).1) (by decide) (by decide) ?_
    refine XS.iloadN X70.here hx rfl (hb hby d2_38) rfl ?_
    show Steps p.tables e below (T70.setTop (mkF m 39 #[.val (.int x), .val (.int y), .val (.int z)] [(.int x)])) _
    refine st71 _ ?_
    refine XS.ifNo X71.here hx rfl (hb hby d2_42) rfl ((if0 _ _).trans (feq hc42).1) ?_
    refine XS.iloadN X71.here hx rfl (hb hby d2_45) rfl ?_
    show Steps p.tables e below (T71.setTop (mkF m 46 #[.val (.int x), .val (.int y), .val (.int z)] [(.int y)])) _
    refine st72 _ ?_
    refine XS.ifNo X72.here hx rfl (hb hby d2_49) rfl ((if0 _ _).trans (feq hc49).1) ?_
    refine XS.iconst X72.here hx rfl (hb hby d2_52) ?_
    refine XS.goto X72.here hx rfl (pc0 := 53) (pc' := 57) rfl (hb hby d2_53) (by decide) (by decide) ?_
    show Steps p.tables e below (T72.setTop (mkF m 57 #[.val (.int x), .val (.int y), .val (.int z)] [(.int (2 : Int32))])) _
    exact retI X72 hx Bd.returns (hb hby d2_57) hr
  · show QI (f_share x y z) h0 n0 _ T72.heap _
    rw [e72]
    exact ⟨by rw [f_share, if_neg hc4, if_neg hc13, if_pos hc22, if_neg hc42, if_neg hc49], N72, rfl⟩
set_option maxRecDepth 65536 in
set_option maxHeartbeats 40000000 in
theorem rm_share_ttft (l : Launch) (Z : State) (a0 : Array Value) (hw : ∀ d ∈ tables_1, d.before a0 Z = true) (ws : List Jvm.Cond) (x y z : Int32)  (h0 : Heap) (n0 : Nat) (Z0 : n0 ≤ h0.size)  (hc4 : ¬ (x < (128 : Int32))) (hc13 : ¬ (x < (2048 : Int32))) (hc22 : ¬ ((f_high x) = (0 : Int32))) (hc29 : (f_low z) = (0 : Int32)) :
    MetFree l (⟨"com/example/orderly_latch/orderlylatch/name/LatchNameOfPinLaw", "share", "(III)I"⟩ : MethodName) (head1 (Jvm.Cond.code (⟨"com/example/orderly_latch/orderlylatch/name/LatchNameOfPinLaw", "share", "(III)I"⟩ : MethodName) method_5_code 3 (some .int) :: ws) ({ frames := 1, cells := 0, slots := 0, locals := 14 } : Room)) (fun aa_ U_ => aa_ = #[(.int x), (.int y), (.int z)] ∧ Z.Warmed39 U_.vm ∧ U_.heap = h0) (fun _ _ _ _ _ => True) (fun _ U_ o_ V_ => ∃ v_ L_, o_ = .returned v_ ∧ QI (f_share x y z) h0 n0 v_ V_.heap L_ ∧ FrameEnd U_ o_ V_ L_ ({ frames := 1, cells := 0, slots := 0, locals := 14 } : Room).cells ({ frames := 1, cells := 0, slots := 0, locals := 14 } : Room).slots) := by
  refine MetFree.of_bodySF (plainFor_of_name pn_2) hisR ?_
  intro p e s m args below meth c s₁ Bd hml0 hP hK
  obtain ⟨rfl, hZ, hh⟩ := hP
  have hx := Bd.exec
  have hby := Bd.bytes
  have hml : c.maxLocals = 3 := hml0
  have hown : s.vm.findClass "com/example/orderly_latch/orderlylatch/name/LatchNameOfPinLaw" = some m.cls := findClass_of_methodNamed Bd.named
  have hnm := (name_of_methodNamed Bd.named Bd.method).1
  have X0 : Stand p l e ({ frames := 1, cells := 0, slots := 0, locals := 14 } : Room) s m #[(.int x), (.int y), (.int z)] below meth c s₁ [] 0 0 := Stand.of_body Bd
  have e0 : s₁.heap = h0 := by rw [← hh, Bd.state]; rfl
  have N0 := Fr.nil n0
  have pre0 : ∀ zz, Steps p.tables e below (s₁.setTop (mkF m 0 #[.val (.int x), .val (.int y), .val (.int z)] [])) zz → Steps p.tables e below (s₁.setTop (entryFrame m #[(.int x), (.int y), (.int z)] 3)) zz := fun zz k => castTop (ef_2 m x y z) k
  obtain ⟨_, _, ⟨T73, L73, k73, n73⟩, -, X73, ⟨Lc73, hQ73, l73, y73, z73⟩, st73⟩ := Jvm.LawKit.callS X0 hx (y := (⟨"com/example/orderly_latch/orderlylatch/name/LatchNameOfPinLaw", "isHigh", "(I)Z"⟩ : MethodName)) hown (mvT hZ (hw _ (List.mem_of_getElem? (i := 108) rfl))) (mvT hZ (hw _ (List.mem_of_getElem? (i := 109) rfl))) (mvT hZ (hw _ (List.mem_of_getElem? (i := 2) rfl))) (mvT hZ (hw _ (List.mem_of_getElem? (i := 110) rfl))) (by decide) (backOf (W := 0) (rm_high l Z a0 hw [] x h0 n0 Z0) hZ (hw _ (List.mem_of_getElem? (i := 110) rfl)) (hw _ (List.mem_of_getElem? (i := 2) rfl)) (by decide) (by decide)) (g := (mkF m 19 #[.val (.int x), .val (.int y), .val (.int z)] [(.int x)])) rfl (by rw [hml]; rfl) (argsL := [(.int x)]) (rest := []) (lenOf pd_21 rfl) rfl (by show 2 * 0 + _ ≤ _; exact Nat.le_of_eq rfl) (hb hby d2_19) (fun _ _ => ⟨rfl, e0, (by decide : 0 + 0 ≤ _), (by decide : 0 + 0 ≤ _)⟩)
  dsimp only [Pt.U, Pt.locs, Pt.cells, Pt.slots] at X73 l73 y73 z73 st73 hQ73
  subst l73 y73 z73
  obtain ⟨rfl, N73q, e73⟩ := hQ73
  have N73 := Fr.app N0 N73q
  obtain ⟨_, _, ⟨T74, L74, k74, n74⟩, -, X74, ⟨Lc74, hQ74, l74, y74, z74⟩, st74⟩ := Jvm.LawKit.callS X73 hx (y := (⟨"com/example/orderly_latch/orderlylatch/name/LatchNameOfPinLaw", "isLow", "(I)Z"⟩ : MethodName)) hown (mvT hZ (hw _ (List.mem_of_getElem? (i := 112) rfl))) (mvT hZ (hw _ (List.mem_of_getElem? (i := 113) rfl))) (mvT hZ (hw _ (List.mem_of_getElem? (i := 2) rfl))) (mvT hZ (hw _ (List.mem_of_getElem? (i := 114) rfl))) (by decide) (backOf (W := 0) (rm_low l Z a0 hw [] z h0 n0 Z0) hZ (hw _ (List.mem_of_getElem? (i := 114) rfl)) (hw _ (List.mem_of_getElem? (i := 2) rfl)) (by decide) (by decide)) (g := (mkF m 26 #[.val (.int x), .val (.int y), .val (.int z)] [(.int z)])) rfl (by rw [hml]; rfl) (argsL := [(.int z)]) (rest := []) (lenOf pd_21 rfl) rfl (by show 2 * 0 + _ ≤ _; exact Nat.le_of_eq rfl) (hb hby d2_26) (fun _ _ => ⟨rfl, e73, (by decide : 0 + 0 ≤ _), (by decide : 0 + 0 ≤ _)⟩)
  dsimp only [Pt.U, Pt.locs, Pt.cells, Pt.slots] at X74 l74 y74 z74 st74 hQ74
  subst l74 y74 z74
  obtain ⟨rfl, N74q, e74⟩ := hQ74
  have N74 := Fr.app N73 N74q
  obtain ⟨fs, hr, hrun, hended, hW, hsame⟩ := X74.leave (v := some (.int (-1 : Int32))) (fun h => by rw [Bd.returns] at h; cases h)
  refine ⟨_, _, pre0 _ ?_, hrun, hended, _, _, rfl, ?_, ⟨_, rfl⟩, hW, hsame.mono (by decide) (by decide)⟩
  · show Steps p.tables e below (s₁.setTop (mkF m 0 #[.val (.int x), .val (.int y), .val (.int z)] [])) _
    refine XS.iloadN X0.here hx rfl (hb hby d2_0) rfl ?_
    refine XS.sipush X0.here hx rfl (hb hby d2_1) ?_
    refine XS.icmpYes X0.here hx rfl (pc0 := 4) (pc' := 9) rfl (hb hby d2_4) rfl (flt hc4).2.1 (by decide) (by decide) ?_
    refine XS.iloadN X0.here hx rfl (hb hby d2_9) rfl ?_
    refine XS.sipush X0.here hx rfl (hb hby d2_10) ?_
    refine XS.icmpYes X0.here hx rfl (pc0 := 13) (pc' := 18) rfl (hb hby d2_13) rfl (flt hc13).2.1 (by decide) (by decide) ?_
    show Steps p.tables e below (s₁.setTop (mkF m 18 #[.val (.int x), .val (.int y), .val (.int z)] [])) _
    refine XS.iloadN X0.here hx rfl (hb hby d2_18) rfl ?_
    show Steps p.tables e below (s₁.setTop (mkF m 19 #[.val (.int x), .val (.int y), .val (.int z)] [(.int x)])) _
    refine st73 _ ?_
    refine XS.ifNo X73.here hx rfl (hb hby d2_22) rfl ((if0 _ _).trans (feq hc22).1) ?_
    refine XS.iloadN X73.here hx rfl (hb hby d2_25) rfl ?_
    show Steps p.tables e below (T73.setTop (mkF m 26 #[.val (.int x), .val (.int y), .val (.int z)] [(.int z)])) _
    refine st74 _ ?_
    refine XS.ifYes X74.here hx rfl (pc0 := 29) (pc' := 36) rfl (hb hby d2_29) rfl ((if0 _ _).trans (teq hc29).1) (by decide) (by decide) ?_
    refine XS.iconst X74.here hx rfl (hb hby d2_36) ?_
    show Steps p.tables e below (T74.setTop (mkF m 37 #[.val (.int x), .val (.int y), .val (.int z)] [(.int (-1 : Int32))])) _
    exact retI X74 hx Bd.returns (hb hby d2_37) hr
  · show QI (f_share x y z) h0 n0 _ T74.heap _
    rw [e74]
    exact ⟨by rw [f_share, if_neg hc4, if_neg hc13, if_neg hc22, if_pos hc29], N74, rfl⟩
set_option maxRecDepth 65536 in
set_option maxHeartbeats 40000000 in
theorem rm_share_ttff (l : Launch) (Z : State) (a0 : Array Value) (hw : ∀ d ∈ tables_1, d.before a0 Z = true) (ws : List Jvm.Cond) (x y z : Int32)  (h0 : Heap) (n0 : Nat) (Z0 : n0 ≤ h0.size)  (hc4 : ¬ (x < (128 : Int32))) (hc13 : ¬ (x < (2048 : Int32))) (hc22 : ¬ ((f_high x) = (0 : Int32))) (hc29 : ¬ ((f_low z) = (0 : Int32))) :
    MetFree l (⟨"com/example/orderly_latch/orderlylatch/name/LatchNameOfPinLaw", "share", "(III)I"⟩ : MethodName) (head1 (Jvm.Cond.code (⟨"com/example/orderly_latch/orderlylatch/name/LatchNameOfPinLaw", "share", "(III)I"⟩ : MethodName) method_5_code 3 (some .int) :: ws) ({ frames := 1, cells := 0, slots := 0, locals := 14 } : Room)) (fun aa_ U_ => aa_ = #[(.int x), (.int y), (.int z)] ∧ Z.Warmed39 U_.vm ∧ U_.heap = h0) (fun _ _ _ _ _ => True) (fun _ U_ o_ V_ => ∃ v_ L_, o_ = .returned v_ ∧ QI (f_share x y z) h0 n0 v_ V_.heap L_ ∧ FrameEnd U_ o_ V_ L_ ({ frames := 1, cells := 0, slots := 0, locals := 14 } : Room).cells ({ frames := 1, cells := 0, slots := 0, locals := 14 } : Room).slots) := by
  refine MetFree.of_bodySF (plainFor_of_name pn_2) hisR ?_
  intro p e s m args below meth c s₁ Bd hml0 hP hK
  obtain ⟨rfl, hZ, hh⟩ := hP
  have hx := Bd.exec
  have hby := Bd.bytes
  have hml : c.maxLocals = 3 := hml0
  have hown : s.vm.findClass "com/example/orderly_latch/orderlylatch/name/LatchNameOfPinLaw" = some m.cls := findClass_of_methodNamed Bd.named
  have hnm := (name_of_methodNamed Bd.named Bd.method).1
  have X0 : Stand p l e ({ frames := 1, cells := 0, slots := 0, locals := 14 } : Room) s m #[(.int x), (.int y), (.int z)] below meth c s₁ [] 0 0 := Stand.of_body Bd
  have e0 : s₁.heap = h0 := by rw [← hh, Bd.state]; rfl
  have N0 := Fr.nil n0
  have pre0 : ∀ zz, Steps p.tables e below (s₁.setTop (mkF m 0 #[.val (.int x), .val (.int y), .val (.int z)] [])) zz → Steps p.tables e below (s₁.setTop (entryFrame m #[(.int x), (.int y), (.int z)] 3)) zz := fun zz k => castTop (ef_2 m x y z) k
  obtain ⟨_, _, ⟨T75, L75, k75, n75⟩, -, X75, ⟨Lc75, hQ75, l75, y75, z75⟩, st75⟩ := Jvm.LawKit.callS X0 hx (y := (⟨"com/example/orderly_latch/orderlylatch/name/LatchNameOfPinLaw", "isHigh", "(I)Z"⟩ : MethodName)) hown (mvT hZ (hw _ (List.mem_of_getElem? (i := 108) rfl))) (mvT hZ (hw _ (List.mem_of_getElem? (i := 109) rfl))) (mvT hZ (hw _ (List.mem_of_getElem? (i := 2) rfl))) (mvT hZ (hw _ (List.mem_of_getElem? (i := 110) rfl))) (by decide) (backOf (W := 0) (rm_high l Z a0 hw [] x h0 n0 Z0) hZ (hw _ (List.mem_of_getElem? (i := 110) rfl)) (hw _ (List.mem_of_getElem? (i := 2) rfl)) (by decide) (by decide)) (g := (mkF m 19 #[.val (.int x), .val (.int y), .val (.int z)] [(.int x)])) rfl (by rw [hml]; rfl) (argsL := [(.int x)]) (rest := []) (lenOf pd_21 rfl) rfl (by show 2 * 0 + _ ≤ _; exact Nat.le_of_eq rfl) (hb hby d2_19) (fun _ _ => ⟨rfl, e0, (by decide : 0 + 0 ≤ _), (by decide : 0 + 0 ≤ _)⟩)
  dsimp only [Pt.U, Pt.locs, Pt.cells, Pt.slots] at X75 l75 y75 z75 st75 hQ75
  subst l75 y75 z75
  obtain ⟨rfl, N75q, e75⟩ := hQ75
  have N75 := Fr.app N0 N75q
  obtain ⟨_, _, ⟨T76, L76, k76, n76⟩, -, X76, ⟨Lc76, hQ76, l76, y76, z76⟩, st76⟩ := Jvm.LawKit.callS X75 hx (y := (⟨"com/example/orderly_latch/orderlylatch/name/LatchNameOfPinLaw", "isLow", "(I)Z"⟩ : MethodName)) hown (mvT hZ (hw _ (List.mem_of_getElem? (i := 112) rfl))) (mvT hZ (hw _ (List.mem_of_getElem? (i := 113) rfl))) (mvT hZ (hw _ (List.mem_of_getElem? (i := 2) rfl))) (mvT hZ (hw _ (List.mem_of_getElem? (i := 114) rfl))) (by decide) (backOf (W := 0) (rm_low l Z a0 hw [] z h0 n0 Z0) hZ (hw _ (List.mem_of_getElem? (i := 114) rfl)) (hw _ (List.mem_of_getElem? (i := 2) rfl)) (by decide) (by decide)) (g := (mkF m 26 #[.val (.int x), .val (.int y), .val (.int z)] [(.int z)])) rfl (by rw [hml]; rfl) (argsL := [(.int z)]) (rest := []) (lenOf pd_21 rfl) rfl (by show 2 * 0 + _ ≤ _; exact Nat.le_of_eq rfl) (hb hby d2_26) (fun _ _ => ⟨rfl, e75, (by decide : 0 + 0 ≤ _), (by decide : 0 + 0 ≤ _)⟩)
  dsimp only [Pt.U, Pt.locs, Pt.cells, Pt.slots] at X76 l76 y76 z76 st76 hQ76
  subst l76 y76 z76
  obtain ⟨rfl, N76q, e76⟩ := hQ76
  have N76 := Fr.app N75 N76q
  obtain ⟨fs, hr, hrun, hended, hW, hsame⟩ := X76.leave (v := some (.int (2 : Int32))) (fun h => by rw [Bd.returns] at h; cases h)
  refine ⟨_, _, pre0 _ ?_, hrun, hended, _, _, rfl, ?_, ⟨_, rfl⟩, hW, hsame.mono (by decide) (by decide)⟩
  · show Steps p.tables e below (s₁.setTop (mkF m 0 #[.val (.int x), .val (.int y), .val (.int z)] [])) _
    refine XS.iloadN X0.here hx rfl (hb hby d2_0) rfl ?_
    refine XS.sipush X0.here hx rfl (hb hby d2_1) ?_
    refine XS.icmpYes X0.here hx rfl (pc0 := 4) (pc' := 9) rfl (hb hby d2_4) rfl (flt hc4).2.1 (by decide) (by decide) ?_
    refine XS.iloadN X0.here hx rfl (hb hby d2_9) rfl ?_
    refine XS.sipush X0.here hx rfl (hb hby d2_10) ?_
    refine XS.icmpYes X0.here hx rfl (pc0 := 13) (pc' := 18) rfl (hb hby d2_13) rfl (flt hc13).2.1 (by decide) (by decide) ?_
    show Steps p.tables e below (s₁.setTop (mkF m 18 #[.val (.int x), .val (.int y), .val (.int z)] [])) _
    refine XS.iloadN X0.here hx rfl (hb hby d2_18) rfl ?_
    show Steps p.tables e below (s₁.setTop (mkF m 19 #[.val (.int x), .val (.int y), .val (.int z)] [(.int x)])) _
    refine st75 _ ?_
    refine XS.ifNo X75.here hx rfl (hb hby d2_22) rfl ((if0 _ _).trans (feq hc22).1) ?_
    refine XS.iloadN X75.here hx rfl (hb hby d2_25) rfl ?_
    show Steps p.tables e below (T75.setTop (mkF m 26 #[.val (.int x), .val (.int y), .val (.int z)] [(.int z)])) _
    refine st76 _ ?_
    refine XS.ifNo X76.here hx rfl (hb hby d2_29) rfl ((if0 _ _).trans (feq hc29).1) ?_
    refine XS.iconst X76.here hx rfl (hb hby d2_32) ?_
    refine XS.goto X76.here hx rfl (pc0 := 33) (pc' := 37) rfl (hb hby d2_33) (by decide) (by decide) ?_
    show Steps p.tables e below (T76.setTop (mkF m 37 #[.val (.int x), .val (.int y), .val (.int z)] [(.int (2 : Int32))])) _
    exact retI X76 hx Bd.returns (hb hby d2_37) hr
  · show QI (f_share x y z) h0 n0 _ T76.heap _
    rw [e76]
    exact ⟨by rw [f_share, if_neg hc4, if_neg hc13, if_neg hc22, if_neg hc29], N76, rfl⟩
set_option maxRecDepth 65536 in
set_option maxHeartbeats 40000000 in
theorem rm_share (l : Launch) (Z : State) (a0 : Array Value) (hw : ∀ d ∈ tables_1, d.before a0 Z = true) (ws : List Jvm.Cond) (x y z : Int32)  (h0 : Heap) (n0 : Nat) (Z0 : n0 ≤ h0.size)   :
    MetFree l (⟨"com/example/orderly_latch/orderlylatch/name/LatchNameOfPinLaw", "share", "(III)I"⟩ : MethodName) (head1 (Jvm.Cond.code (⟨"com/example/orderly_latch/orderlylatch/name/LatchNameOfPinLaw", "share", "(III)I"⟩ : MethodName) method_5_code 3 (some .int) :: ws) ({ frames := 1, cells := 0, slots := 0, locals := 14 } : Room)) (fun aa_ U_ => aa_ = #[(.int x), (.int y), (.int z)] ∧ Z.Warmed39 U_.vm ∧ U_.heap = h0) (fun _ _ _ _ _ => True) (fun _ U_ o_ V_ => ∃ v_ L_, o_ = .returned v_ ∧ QI (f_share x y z) h0 n0 v_ V_.heap L_ ∧ FrameEnd U_ o_ V_ L_ ({ frames := 1, cells := 0, slots := 0, locals := 14 } : Room).cells ({ frames := 1, cells := 0, slots := 0, locals := 14 } : Room).slots) := by
  by_cases g0 : x < (128 : Int32)
  · exact rm_share_f l Z a0 hw ws x y z h0 n0 Z0  g0
  · by_cases g1 : x < (2048 : Int32)
    · exact rm_share_tf l Z a0 hw ws x y z h0 n0 Z0  g0 g1
    · by_cases g2 : (f_high x) = (0 : Int32)
      · by_cases g3 : (f_low x) = (0 : Int32)
        · exact rm_share_tttt l Z a0 hw ws x y z h0 n0 Z0  g0 g1 g2 g3
        · by_cases g4 : (f_high y) = (0 : Int32)
          · exact rm_share_tttft l Z a0 hw ws x y z h0 n0 Z0  g0 g1 g2 g3 g4
          · exact rm_share_tttff l Z a0 hw ws x y z h0 n0 Z0  g0 g1 g2 g3 g4
      · by_cases g3 : (f_low z) = (0 : Int32)
        · exact rm_share_ttft l Z a0 hw ws x y z h0 n0 Z0  g0 g1 g2 g3
        · exact rm_share_ttff l Z a0 hw ws x y z h0 n0 Z0  g0 g1 g2 g3
theorem ltK {x k : Int32} {n : Int} (hk : k.toInt = n) : x < k ↔ x.toInt < n := by rw [Int32.lt_iff_toInt_lt, hk]
theorem gtK {x k : Int32} {n : Int} (hk : k.toInt = n) : k < x ↔ n < x.toInt := by rw [Int32.lt_iff_toInt_lt, hk]
def HI (x : Int32) : Prop := 55296 ≤ x.toInt ∧ x.toInt ≤ 56319
def LO (x : Int32) : Prop := 56320 ≤ x.toInt ∧ x.toInt ≤ 57343
theorem high1 {x : Int32} (h : HI x) : f_high x = 1 := by
  have := h.1; have := h.2
  rw [f_high, if_neg (by rw [ltK (n := 55296) rfl]; omega), if_neg (by rw [gtK (n := 56319) rfl]; omega)]
theorem high0 {x : Int32} (h : ¬ HI x) : f_high x = 0 := by
  unfold HI at h
  rw [f_high]
  by_cases q : x < 55296
  · rw [if_pos q]
  · rw [if_neg q, if_pos]
    rw [gtK (n := 56319) rfl]
    rw [ltK (n := 55296) rfl] at q
    omega
theorem low1 {x : Int32} (h : LO x) : f_low x = 1 := by
  have := h.1; have := h.2
  rw [f_low, if_neg (by rw [ltK (n := 56320) rfl]; omega), if_neg (by rw [gtK (n := 57343) rfl]; omega)]
theorem low0 {x : Int32} (h : ¬ LO x) : f_low x = 0 := by
  unfold LO at h
  rw [f_low]
  by_cases q : x < 56320
  · rw [if_pos q]
  · rw [if_neg q, if_pos]
    rw [gtK (n := 57343) rfl]
    rw [ltK (n := 56320) rfl] at q
    omega
theorem ihs1 {x : Int32} (h : HI x) : f_ihs x = 1 := by
  have := h.1; have := h.2
  rw [f_ihs, if_neg (by rw [ltK (n := 55296) rfl]; omega), if_pos (by rw [ltK (n := 56320) rfl]; omega)]
theorem ihs0 {x : Int32} (h : ¬ HI x) : f_ihs x = 0 := by
  unfold HI at h
  rw [f_ihs]
  by_cases q : x < 55296
  · rw [if_pos q]
  · rw [if_neg q, if_neg]
    rw [ltK (n := 56320) rfl]
    rw [ltK (n := 55296) rfl] at q
    omega
theorem ils1 {x : Int32} (h : LO x) : f_ils x = 1 := by
  have := h.1; have := h.2
  rw [f_ils, if_neg (by rw [ltK (n := 56320) rfl]; omega), if_pos (by rw [ltK (n := 57344) rfl]; omega)]
theorem isu0 {x : Int32} (h1 : ¬ HI x) (h2 : ¬ LO x) : f_isu x = 0 := by
  unfold HI at h1
  unfold LO at h2
  rw [f_isu]
  by_cases q : x < 55296
  · rw [if_pos q]
  · rw [if_neg q, if_neg]
    rw [ltK (n := 57344) rfl]
    rw [ltK (n := 55296) rfl] at q
    omega
theorem draw_ch (x : Int32) : isCh (f_draw x) := by
  have m1 := c_mask x 65535 16 (by decide) (by decide)
  have e16 : ((2 ^ 16 : Nat) : Int) = 65536 := by decide
  rw [e16] at m1
  unfold f_draw
  split
  · exact ⟨by omega, by omega⟩
  · split
    · have a := c_and (x &&& (65535 : Int32)) 2047 (by decide)
      have b := c_or' (x &&& (65535 : Int32) &&& (2047 : Int32)) 0 0 (by decide) 1 (by decide)
      have q := c_or (55296 : Int32) (x &&& (65535 : Int32) &&& (2047 : Int32)) 11 (by decide) 2048 (by decide) (by decide) a.1 (by have := a.2; rw [show (2047 : Int32).toInt = 2047 from rfl] at this; omega)
      have h1 := ((55296 : Int32) ||| (x &&& (65535 : Int32) &&& (2047 : Int32))).toInt_lt
      have h2 := ((55296 : Int32) ||| (x &&& (65535 : Int32) &&& (2047 : Int32))).le_toInt
      rw [show (55296 : Int32).toInt = 55296 from rfl] at q
      have a2 := a.2
      rw [show (2047 : Int32).toInt = 2047 from rfl] at a2
      exact ⟨by omega, by omega⟩
    · split
      · have a := c_and (x &&& (65535 : Int32)) 127 (by decide)
        rw [show (127 : Int32).toInt = 127 from rfl] at a
        exact ⟨by omega, by omega⟩
      · have a := c_and (x &&& (65535 : Int32)) 2047 (by decide)
        rw [show (2047 : Int32).toInt = 2047 from rfl] at a
        exact ⟨by omega, by omega⟩
def prv (g : Nat → Int32) (i : Nat) : Int32 := if i = 0 then 0 else g (i - 1)
def nxt (g : Nat → Int32) (n i : Nat) : Int32 := if i + 1 < n then g (i + 1) else 0
def wS (g : Nat → Int32) (n i : Nat) : Int32 := f_share (g i) (prv g i) (nxt g n i)
def sumW (g : Nat → Int32) (n : Nat) : Nat → Int32
  | 0 => 0
  | i + 1 => sumW g n i + wS g n i
theorem share_a {x y z : Int32} (h : x < 128) : f_share x y z = 1 := by rw [f_share, if_pos h]
theorem share_b {x y z : Int32} (h : ¬ x < 128) (h2 : x < 2048) : f_share x y z = 2 := by rw [f_share, if_neg h, if_pos h2]
theorem share_hi {x y z : Int32} (h : HI x) : f_share x y z = if f_low z = 0 then -1 else 2 := by
  have := h.1; have := h.2
  rw [f_share, if_neg (by rw [ltK (n := 128) rfl]; omega), if_neg (by rw [ltK (n := 2048) rfl]; omega), if_neg (by rw [high1 h]; decide)]
theorem share_lo {x y z : Int32} (h : LO x) : f_share x y z = if f_high y = 0 then -1 else 2 := by
  have := h.1; have := h.2
  rw [f_share, if_neg (by rw [ltK (n := 128) rfl]; omega), if_neg (by rw [ltK (n := 2048) rfl]; omega), if_pos (high0 (by unfold HI; omega)), if_neg (by rw [low1 h]; decide)]
theorem share_d {x y z : Int32} (h : ¬ x < 2048) (h1 : ¬ HI x) (h2 : ¬ LO x) : f_share x y z = 3 := by
  rw [f_share, if_neg (by rw [ltK (n := 2048) rfl] at h; rw [ltK (n := 128) rfl]; omega), if_neg h, if_pos (high0 h1), if_pos (low0 h2)]
/-- what the loop meets at a head -/
theorem meet {g : Nat → Int32} {n i : Nat} (hnn : ∀ j, j < n → ¬ (wS g n j < 0)) (hi : i < n) (inv : i = 0 ∨ ¬ HI (g (i - 1))) :
    (g i < 128 ∧ wS g n i = 1 ∧ ¬ HI (g i)) ∨ (¬ g i < 128 ∧ g i < 2048 ∧ wS g n i = 2 ∧ ¬ HI (g i)) ∨
    (¬ g i < 128 ∧ ¬ g i < 2048 ∧ HI (g i) ∧ i + 1 < n ∧ LO (g (i + 1)) ∧ wS g n i = 2 ∧ wS g n (i + 1) = 2 ∧ ¬ HI (g (i + 1))) ∨
    (¬ g i < 128 ∧ ¬ g i < 2048 ∧ ¬ HI (g i) ∧ ¬ LO (g i) ∧ wS g n i = 3) := by
  have N := hnn i hi
  by_cases h1 : g i < 128
  · refine Or.inl ⟨h1, share_a h1, ?_⟩
    rw [ltK (n := 128) rfl] at h1
    unfold HI; omega
  · by_cases h2 : g i < 2048
    · refine Or.inr (Or.inl ⟨h1, h2, share_b h1 h2, ?_⟩)
      rw [ltK (n := 2048) rfl] at h2
      unfold HI; omega
    · by_cases h3 : HI (g i)
      · refine Or.inr (Or.inr (Or.inl ?_))
        unfold wS at N
        rw [share_hi h3] at N
        by_cases q : f_low (nxt g n i) = 0
        · rw [if_pos q] at N; exact absurd (by decide) N
        · have hl : LO (nxt g n i) := Classical.byContradiction fun r => q (low0 r)
          have hn : i + 1 < n := Classical.byContradiction fun r => by
            unfold nxt at hl; rw [if_neg r] at hl
            exact absurd hl.1 (by decide)
          have hl' : LO (g (i + 1)) := by unfold nxt at hl; rw [if_pos hn] at hl; exact hl
          refine ⟨h1, h2, h3, hn, hl', ?_, ?_, ?_⟩
          · unfold wS; rw [share_hi h3, if_neg q]
          · unfold wS; rw [share_lo hl', if_neg]
            have : prv g (i + 1) = g i := by unfold prv; rw [if_neg (by omega)]; rfl
            rw [this, high1 h3]; decide
          · have := hl'.1; unfold HI; omega
      · have h4 : ¬ LO (g i) := fun h4 => by
          unfold wS at N
          rw [share_lo h4] at N
          have : f_high (prv g i) = 0 := by
            unfold prv
            rcases inv with r | r
            · rw [if_pos r]; exact high0 (by unfold HI; decide)
            · by_cases r0 : i = 0
              · rw [if_pos r0]; exact high0 (by unfold HI; decide)
              · rw [if_neg r0]; exact high0 r
          rw [if_pos this] at N
          exact absurd (by decide) N
        exact Or.inr (Or.inr (Or.inr ⟨h1, h2, h3, h4, share_d h2 h3 h4⟩))
def gL (a b d f : Int32) : Nat → Int32
  | 0 => a
  | 1 => b
  | 2 => d
  | 3 => f
  | _ + 4 => 0
theorem gL_ch {a b d f : Int32} (ha : isCh a) (hb : isCh b) (hd : isCh d) (hf : isCh f) : ∀ j, isCh (gL a b d f j)
  | 0 => ha
  | 1 => hb
  | 2 => hd
  | 3 => hf
  | _ + 4 => (⟨by decide, by decide⟩ : isCh (0 : Int32))
theorem fill4 {a b d f : Int32} (ha : isCh a) (hb : isCh b) (hd : isCh d) (hf : isCh f) : ∀ j, upd (upd (upd (upd (fun _ => (.int (0 : Int32))) 0 (.int (nar .char (a.toUInt32.toUInt16.toUInt32.toInt32)))) 1 (.int (nar .char (b.toUInt32.toUInt16.toUInt32.toInt32)))) 2 (.int (nar .char (d.toUInt32.toUInt16.toUInt32.toInt32)))) 3 (.int (nar .char (f.toUInt32.toUInt16.toUInt32.toInt32))) j = Ca (gL a b d f) j := by
  rw [i2c_eq ha, i2c_eq hb, i2c_eq hd, i2c_eq hf, nar_id ha, nar_id hb, nar_id hd, nar_id hf]
  intro j
  match j with
  | 0 => rfl
  | 1 => rfl
  | 2 => rfl
  | 3 => rfl
  | k + 4 => unfold upd; rw [if_neg (by omega), if_neg (by omega), if_neg (by omega), if_neg (by omega)]; rfl
theorem wS_tail {a b d f : Int32} (n k : Nat) : wS (gL a b d f) n (4 + k) = 1 := by
  unfold wS
  rw [Nat.add_comm 4 k]
  exact share_a (by show (0 : Int32) < 128; decide)
theorem sumW_tail {a b d f : Int32} (n : Nat) : ∀ k, sumW (gL a b d f) n (4 + k) = sumW (gL a b d f) n 4 + Int32.ofNat k
  | 0 => by show _ = _ + (0 : Int32); rw [Int32.add_zero]
  | k + 1 => by
    show sumW (gL a b d f) n (4 + k) + wS (gL a b d f) n (4 + k) = _
    rw [sumW_tail n k, wS_tail, Int32.add_assoc, succN]
def tot4 (w0 w1 w2 w3 z : Int32) : Int32 := (((w0 + w1) + w2) + w3) + z
theorem sum4 (a b d f : Int32) : sumW (gL a b d f) 4 4 = tot4 (f_share a 0 b) (f_share b a d) (f_share d b f) (f_share f d 0) 0 := by
  show (((0 + f_share a 0 b) + f_share b a d) + f_share d b f) + f_share f d 0 = _
  unfold tot4
  rw [Int32.zero_add, Int32.add_zero]
theorem sum196 (a b d f : Int32) : sumW (gL a b d f) 196 196 = tot4 (f_share a 0 b) (f_share b a d) (f_share d b f) (f_share f d 0) 192 := by
  rw [show sumW (gL a b d f) 196 196 = sumW (gL a b d f) 196 (4 + 192) from rfl, sumW_tail]
  show ((((0 + f_share a 0 b) + f_share b a d) + f_share d b f) + f_share f d 0) + 192 = _
  unfold tot4
  rw [Int32.zero_add]
theorem nn4 {a b d f : Int32} {n : Nat} (hn : n = 4 ∨ n = 196) (h0 : ¬ (f_share a 0 b < 0)) (h1 : ¬ (f_share b a d < 0)) (h2 : ¬ (f_share d b f < 0)) (h3 : ¬ (f_share f d 0 < 0)) : ∀ j, j < n → ¬ (wS (gL a b d f) n j < 0) := by
  intro j hj
  match j with
  | 0 => rcases hn with rfl | rfl <;> exact h0
  | 1 => rcases hn with rfl | rfl <;> exact h1
  | 2 => rcases hn with rfl | rfl <;> exact h2
  | 3 => rcases hn with rfl | rfl <;> exact h3
  | k + 4 => rw [Nat.add_comm k 4, wS_tail]; decide
theorem eqI_v {args : Array Value} {first s : State} {o : Option Outcome} {idx : List Nat} {t : Term} {k : Int32} (h : (Cond.eq t (.int k)).value args first o s idx = some true) : t.eval args first o idx s = some (.int k) := by
  simp only [Cond.value, Term.eval] at h
  cases ht : t.eval args first o idx s with
  | none => simp [ht] at h
  | some x => cases x <;> simp [ht] at h ⊢; exact h

theorem d12_0 : decode prog_8_method_7_code 0 = .ok (.iconst 0, 1) := by decide +kernel
theorem d12_1 : decode prog_8_method_7_code 1 = .ok (.istore_n 1, 1) := by decide +kernel
theorem d12_2 : decode prog_8_method_7_code 2 = .ok (.iconst 0, 1) := by decide +kernel
theorem d12_3 : decode prog_8_method_7_code 3 = .ok (.istore_n 2, 1) := by decide +kernel
theorem d12_4 : decode prog_8_method_7_code 4 = .ok (.iload_n 2, 1) := by decide +kernel
theorem d12_5 : decode prog_8_method_7_code 5 = .ok (.aload_n 0, 1) := by decide +kernel
theorem d12_6 : decode prog_8_method_7_code 6 = .ok (.invokevirtual 55, 3) := by decide +kernel
theorem d12_9 : decode prog_8_method_7_code 9 = .ok (.if_icmp .ge 104, 3) := by decide +kernel
theorem d12_12 : decode prog_8_method_7_code 12 = .ok (.aload_n 0, 1) := by decide +kernel
theorem d12_13 : decode prog_8_method_7_code 13 = .ok (.iload_n 2, 1) := by decide +kernel
theorem d12_14 : decode prog_8_method_7_code 14 = .ok (.invokevirtual 58, 3) := by decide +kernel
theorem d12_17 : decode prog_8_method_7_code 17 = .ok (.istore_n 3, 1) := by decide +kernel
theorem d12_18 : decode prog_8_method_7_code 18 = .ok (.iload_n 3, 1) := by decide +kernel
theorem d12_19 : decode prog_8_method_7_code 19 = .ok (.sipush 128, 3) := by decide +kernel
theorem d12_22 : decode prog_8_method_7_code 22 = .ok (.if_icmp .ge 9, 3) := by decide +kernel
theorem d12_25 : decode prog_8_method_7_code 25 = .ok (.iinc 1 1, 3) := by decide +kernel
theorem d12_28 : decode prog_8_method_7_code 28 = .ok (.goto 79, 3) := by decide +kernel
theorem d12_31 : decode prog_8_method_7_code 31 = .ok (.iload_n 3, 1) := by decide +kernel
theorem d12_32 : decode prog_8_method_7_code 32 = .ok (.sipush 2048, 3) := by decide +kernel
theorem d12_35 : decode prog_8_method_7_code 35 = .ok (.if_icmp .ge 9, 3) := by decide +kernel
theorem d12_38 : decode prog_8_method_7_code 38 = .ok (.iinc 1 2, 3) := by decide +kernel
theorem d12_41 : decode prog_8_method_7_code 41 = .ok (.goto 66, 3) := by decide +kernel
theorem d12_44 : decode prog_8_method_7_code 44 = .ok (.iload_n 3, 1) := by decide +kernel
theorem d12_45 : decode prog_8_method_7_code 45 = .ok (.invokestatic 62, 3) := by decide +kernel
theorem d12_48 : decode prog_8_method_7_code 48 = .ok (.ifCond .eq 35, 3) := by decide +kernel
theorem d12_51 : decode prog_8_method_7_code 51 = .ok (.iload_n 2, 1) := by decide +kernel
theorem d12_52 : decode prog_8_method_7_code 52 = .ok (.iconst 1, 1) := by decide +kernel
theorem d12_53 : decode prog_8_method_7_code 53 = .ok (.iadd, 1) := by decide +kernel
theorem d12_54 : decode prog_8_method_7_code 54 = .ok (.aload_n 0, 1) := by decide +kernel
theorem d12_55 : decode prog_8_method_7_code 55 = .ok (.invokevirtual 55, 3) := by decide +kernel
theorem d12_58 : decode prog_8_method_7_code 58 = .ok (.if_icmp .ge 25, 3) := by decide +kernel
theorem d12_61 : decode prog_8_method_7_code 61 = .ok (.aload_n 0, 1) := by decide +kernel
theorem d12_62 : decode prog_8_method_7_code 62 = .ok (.iload_n 2, 1) := by decide +kernel
theorem d12_63 : decode prog_8_method_7_code 63 = .ok (.iconst 1, 1) := by decide +kernel
theorem d12_64 : decode prog_8_method_7_code 64 = .ok (.iadd, 1) := by decide +kernel
theorem d12_65 : decode prog_8_method_7_code 65 = .ok (.invokevirtual 58, 3) := by decide +kernel
theorem d12_68 : decode prog_8_method_7_code 68 = .ok (.invokestatic 68, 3) := by decide +kernel
theorem d12_71 : decode prog_8_method_7_code 71 = .ok (.ifCond .eq 12, 3) := by decide +kernel
theorem d12_74 : decode prog_8_method_7_code 74 = .ok (.iinc 1 4, 3) := by decide +kernel
theorem d12_77 : decode prog_8_method_7_code 77 = .ok (.iinc 2 1, 3) := by decide +kernel
theorem d12_80 : decode prog_8_method_7_code 80 = .ok (.goto 27, 3) := by decide +kernel
theorem d12_83 : decode prog_8_method_7_code 83 = .ok (.iload_n 3, 1) := by decide +kernel
theorem d12_84 : decode prog_8_method_7_code 84 = .ok (.invokestatic 71, 3) := by decide +kernel
theorem d12_87 : decode prog_8_method_7_code 87 = .ok (.ifCond .eq 17, 3) := by decide +kernel
theorem d12_90 : decode prog_8_method_7_code 90 = .ok (.new 27, 3) := by decide +kernel
theorem d12_93 : decode prog_8_method_7_code 93 = .ok (.dup, 1) := by decide +kernel
theorem d12_94 : decode prog_8_method_7_code 94 = .ok (.iload_n 2, 1) := by decide +kernel
theorem d12_95 : decode prog_8_method_7_code 95 = .ok (.invokedynamic 74, 5) := by decide +kernel
theorem d12_100 : decode prog_8_method_7_code 100 = .ok (.invokespecial 31, 3) := by decide +kernel
theorem d12_103 : decode prog_8_method_7_code 103 = .ok (.athrow, 1) := by decide +kernel
theorem d12_104 : decode prog_8_method_7_code 104 = .ok (.iinc 1 3, 3) := by decide +kernel
theorem d12_107 : decode prog_8_method_7_code 107 = .ok (.iinc 2 1, 3) := by decide +kernel
theorem d12_110 : decode prog_8_method_7_code 110 = .ok (.goto (-106), 3) := by decide +kernel
theorem d12_113 : decode prog_8_method_7_code 113 = .ok (.iload_n 1, 1) := by decide +kernel
theorem d12_114 : decode prog_8_method_7_code 114 = .ok (.ireturn, 1) := by decide +kernel
theorem pn_12 : plainName "com/example/orderly_latch/orderlylatch/name/LatchName" = true := by first | (simp [plainName, overriddenIn]; done) | decide +kernel
theorem ef_12 (m : MethodId) (x0 : Addr) : entryFrame m #[(.ref x0)] 4 = mkF m 0 #[.val (.ref x0), .unset, .unset, .unset] [] := by first | (simp [entryFrame, mkF, argsToLocals, Value.category]; done) | rfl
set_option maxRecDepth 65536 in
set_option maxHeartbeats 40000000 in
theorem tnA {p : Program} {l : Launch} {e : Env} {s : State} {m : MethodId} {args : Array Value} {below : List Frame} {meth : Method} {c : Code} {T0 : State} {locs : List Loc} {Z : State} {a0 : Array Value} {h0 : Heap} {n0 : Nat} (o : Addr) (i n : Nat) (g : Nat → Int32) (r : Int32) (q : Slot) (hq : q = .unset ∨ ∃ x : Int32, q = .val (.int x)) (X0 : Stand p l e ({ frames := 5, cells := 0, slots := 0, locals := 80 } : Room) s m args below meth c T0 locs 0 0) (hx : p.tables.exec = Jvm.exec) (hZ : Z.Warmed39 s.vm) (hw : ∀ d ∈ tables_1, d.before a0 Z = true) (hby : c.code = prog_8_method_7_code) (hml : c.maxLocals = 4) (hown : s.vm.findClass "com/example/orderly_latch/orderlylatch/name/LatchName" = some m.cls) (e0 : T0.heap = h0) (Z0 : n0 ≤ h0.size) (N0 : Fr n0 locs) (hn : n ≤ 200) (hi : i < n) (O : Old Z n0 h0) (SK : StrSta Z) (SS : Str Z h0 o n g) (hc22 : (g i) < (128 : Int32)) :
    ∃ (T' : State) (locs' : List Loc), Stand p l e ({ frames := 5, cells := 0, slots := 0, locals := 80 } : Room) s m args below meth c T' locs' 0 0 ∧ T'.heap = h0 ∧ Fr n0 locs' ∧ ∀ target, Steps p.tables e below (T'.setTop (mkF m 4 #[.val (.ref o), .val (.int (r + (1 : Int32))), .val (.int (Int32.ofNat (i + 1))), .val (.int (g i))] [])) target → Steps p.tables e below (T0.setTop (mkF m 4 #[.val (.ref o), .val (.int r), .val (.int (Int32.ofNat i)), q] [])) target := by
  obtain ⟨cq77, kq77, q77a, q77b, q77c⟩ := isOf hZ e0 SS.1
  obtain ⟨_, _, ⟨T77, L77, k77, n77⟩, -, X77, ⟨Lc77, hQ77, l77, y77, z77⟩, st77⟩ := X0.virtualBack hx (y := (⟨"java/lang/String", "length", "()I"⟩ : MethodName)) (z := (⟨"java/lang/String", "length", "()I"⟩ : MethodName)) hown (mvT hZ (hw _ (List.mem_of_getElem? (i := 57) rfl))) (mvT hZ (hw _ (List.mem_of_getElem? (i := 58) rfl))) (notFace_of_selects (args := #[]) (mvT hZ (hw _ (List.mem_of_getElem? (i := 60) rfl)))) (mvT hZ (hw _ (List.mem_of_getElem? (i := 60) rfl))) (mvT hZ (hw _ (List.mem_of_getElem? (i := 59) rfl))) (by decide) (backOf (W := 1) (rmLEN l Z a0 hw [] o n g h0 n0 Z0 hn O SK SS) hZ (hw _ (List.mem_of_getElem? (i := 61) rfl)) (hw _ (List.mem_of_getElem? (i := 11) rfl)) (by decide) (by decide)) q77a q77c (g := (mkF m 6 #[.val (.ref o), .val (.int r), .val (.int (Int32.ofNat i)), q] [(.ref o), (.int (Int32.ofNat i))])) rfl (by rw [hml]; rfl) (Steps.refl _) (argsL := []) (rest := [(.int (Int32.ofNat i))]) (lenOf pd_12 rfl) rfl (by show 2 * 0 + _ ≤ _; exact Nat.le_of_eq rfl) (hb hby d12_6) (fun _ _ => ⟨rfl, e0, (by decide : 0 + 0 ≤ _), (by decide : 0 + 0 ≤ _)⟩)
  dsimp only [Pt.U, Pt.locs, Pt.cells, Pt.slots] at X77 l77 y77 z77 st77 hQ77
  subst l77 y77 z77
  obtain ⟨rfl, N77q, e77⟩ := hQ77
  have N77 := Fr.app N0 N77q
  obtain ⟨cq78, kq78, q78a, q78b, q78c⟩ := isOf hZ e77 SS.1
  obtain ⟨_, _, ⟨T78, L78, k78, n78⟩, -, X78, ⟨Lc78, hQ78, l78, y78, z78⟩, st78⟩ := X77.virtualBack hx (y := (⟨"java/lang/String", "charAt", "(I)C"⟩ : MethodName)) (z := (⟨"java/lang/String", "charAt", "(I)C"⟩ : MethodName)) hown (mvT hZ (hw _ (List.mem_of_getElem? (i := 67) rfl))) (mvT hZ (hw _ (List.mem_of_getElem? (i := 68) rfl))) (notFace_of_selects (args := #[]) (mvT hZ (hw _ (List.mem_of_getElem? (i := 70) rfl)))) (mvT hZ (hw _ (List.mem_of_getElem? (i := 70) rfl))) (mvT hZ (hw _ (List.mem_of_getElem? (i := 69) rfl))) (by decide) (backOf (W := 0) (rmCA l Z a0 hw [] o i n g h0 n0 Z0 hn hi O SK SS) hZ (hw _ (List.mem_of_getElem? (i := 71) rfl)) (hw _ (List.mem_of_getElem? (i := 11) rfl)) (by decide) (by decide)) q78a q78c (g := (mkF m 14 #[.val (.ref o), .val (.int r), .val (.int (Int32.ofNat i)), q] [(.int (Int32.ofNat i)), (.ref o)])) rfl (by rw [hml]; rfl) (Steps.refl _) (argsL := [(.int (Int32.ofNat i))]) (rest := []) (lenOf pd_14 rfl) rfl (by show 2 * 0 + _ ≤ _; exact Nat.le_of_eq rfl) (hb hby d12_14) (fun _ _ => ⟨rfl, e77, (by decide : 0 + 0 ≤ _), (by decide : 0 + 0 ≤ _)⟩)
  dsimp only [Pt.U, Pt.locs, Pt.cells, Pt.slots] at X78 l78 y78 z78 st78 hQ78
  subst l78 y78 z78
  obtain ⟨rfl, N78q, e78⟩ := hQ78
  have N78 := Fr.app N77 N78q
  refine ⟨_, _, X78, e78, N78, fun target kt => ?_⟩
  show Steps p.tables e below (T0.setTop (mkF m 4 #[.val (.ref o), .val (.int r), .val (.int (Int32.ofNat i)), q] [])) _
  refine XS.iloadN X0.here hx rfl (hb hby d12_4) rfl ?_
  refine XS.aloadN X0.here hx rfl (hb hby d12_5) rfl rfl ?_
  show Steps p.tables e below (T0.setTop (mkF m 6 #[.val (.ref o), .val (.int r), .val (.int (Int32.ofNat i)), q] [(.ref o), (.int (Int32.ofNat i))])) _
  refine st77.trans ?_
  refine XS.icmpNo X77.here hx rfl (hb hby d12_9) rfl (tlt ((ltN (by omega) (by omega)).mpr hi)).2.1 ?_
  refine XS.aloadN X77.here hx rfl (hb hby d12_12) rfl rfl ?_
  refine XS.iloadN X77.here hx rfl (hb hby d12_13) rfl ?_
  show Steps p.tables e below (T77.setTop (mkF m 14 #[.val (.ref o), .val (.int r), .val (.int (Int32.ofNat i)), q] [(.int (Int32.ofNat i)), (.ref o)])) _
  refine st78.trans ?_
  refine XS.istoreN X78.here hx rfl (hb hby d12_17) rfl (l' := #[.val (.ref o), .val (.int r), .val (.int (Int32.ofNat i)), .val (.int (g i))]) (by rcases hq with rfl | ⟨_, rfl⟩ <;> rfl) ?_
  refine XS.iloadN X78.here hx rfl (hb hby d12_18) rfl ?_
  refine XS.sipush X78.here hx rfl (hb hby d12_19) ?_
  refine XS.icmpNo X78.here hx rfl (hb hby d12_22) rfl (tlt hc22).2.1 ?_
  refine XS.iinc X78.here hx rfl (hb hby d12_25) rfl (l' := #[.val (.ref o), .val (.int (r + (1 : Int32))), .val (.int (Int32.ofNat i)), .val (.int (g i))]) rfl ?_
  show Steps p.tables e below (T78.setTop (mkF m 28 #[.val (.ref o), .val (.int (r + (1 : Int32))), .val (.int (Int32.ofNat i)), .val (.int (g i))] [])) _
  refine XS.goto X78.here hx rfl (pc0 := 28) (pc' := 107) rfl (hb hby d12_28) (by decide) (by decide) ?_
  refine XS.iinc X78.here hx rfl (hb hby d12_107) rfl (l' := #[.val (.ref o), .val (.int (r + (1 : Int32))), .val (.int ((Int32.ofNat i) + (1 : Int32))), .val (.int (g i))]) rfl ?_
  show Steps p.tables e below (T78.setTop (mkF m 110 #[.val (.ref o), .val (.int (r + (1 : Int32))), .val (.int ((Int32.ofNat i) + (1 : Int32))), .val (.int (g i))] [])) _
  rw [show ((Int32.ofNat i) + (1 : Int32)) = (Int32.ofNat (i + 1)) from succN i]
  show Steps p.tables e below (T78.setTop (mkF m 110 #[.val (.ref o), .val (.int (r + (1 : Int32))), .val (.int (Int32.ofNat (i + 1))), .val (.int (g i))] [])) _
  refine XS.goto X78.here hx rfl (pc0 := 110) (pc' := 4) rfl (hb hby d12_110) (by decide) (by decide) ?_
  exact kt
set_option maxRecDepth 65536 in
set_option maxHeartbeats 40000000 in
theorem tnB {p : Program} {l : Launch} {e : Env} {s : State} {m : MethodId} {args : Array Value} {below : List Frame} {meth : Method} {c : Code} {T0 : State} {locs : List Loc} {Z : State} {a0 : Array Value} {h0 : Heap} {n0 : Nat} (o : Addr) (i n : Nat) (g : Nat → Int32) (r : Int32) (q : Slot) (hq : q = .unset ∨ ∃ x : Int32, q = .val (.int x)) (X0 : Stand p l e ({ frames := 5, cells := 0, slots := 0, locals := 80 } : Room) s m args below meth c T0 locs 0 0) (hx : p.tables.exec = Jvm.exec) (hZ : Z.Warmed39 s.vm) (hw : ∀ d ∈ tables_1, d.before a0 Z = true) (hby : c.code = prog_8_method_7_code) (hml : c.maxLocals = 4) (hown : s.vm.findClass "com/example/orderly_latch/orderlylatch/name/LatchName" = some m.cls) (e0 : T0.heap = h0) (Z0 : n0 ≤ h0.size) (N0 : Fr n0 locs) (hn : n ≤ 200) (hi : i < n) (O : Old Z n0 h0) (SK : StrSta Z) (SS : Str Z h0 o n g) (hc22 : ¬ ((g i) < (128 : Int32))) (hc35 : (g i) < (2048 : Int32)) :
    ∃ (T' : State) (locs' : List Loc), Stand p l e ({ frames := 5, cells := 0, slots := 0, locals := 80 } : Room) s m args below meth c T' locs' 0 0 ∧ T'.heap = h0 ∧ Fr n0 locs' ∧ ∀ target, Steps p.tables e below (T'.setTop (mkF m 4 #[.val (.ref o), .val (.int (r + (2 : Int32))), .val (.int (Int32.ofNat (i + 1))), .val (.int (g i))] [])) target → Steps p.tables e below (T0.setTop (mkF m 4 #[.val (.ref o), .val (.int r), .val (.int (Int32.ofNat i)), q] [])) target := by
  obtain ⟨cq79, kq79, q79a, q79b, q79c⟩ := isOf hZ e0 SS.1
  obtain ⟨_, _, ⟨T79, L79, k79, n79⟩, -, X79, ⟨Lc79, hQ79, l79, y79, z79⟩, st79⟩ := X0.virtualBack hx (y := (⟨"java/lang/String", "length", "()I"⟩ : MethodName)) (z := (⟨"java/lang/String", "length", "()I"⟩ : MethodName)) hown (mvT hZ (hw _ (List.mem_of_getElem? (i := 57) rfl))) (mvT hZ (hw _ (List.mem_of_getElem? (i := 58) rfl))) (notFace_of_selects (args := #[]) (mvT hZ (hw _ (List.mem_of_getElem? (i := 60) rfl)))) (mvT hZ (hw _ (List.mem_of_getElem? (i := 60) rfl))) (mvT hZ (hw _ (List.mem_of_getElem? (i := 59) rfl))) (by decide) (backOf (W := 1) (rmLEN l Z a0 hw [] o n g h0 n0 Z0 hn O SK SS) hZ (hw _ (List.mem_of_getElem? (i := 61) rfl)) (hw _ (List.mem_of_getElem? (i := 11) rfl)) (by decide) (by decide)) q79a q79c (g := (mkF m 6 #[.val (.ref o), .val (.int r), .val (.int (Int32.ofNat i)), q] [(.ref o), (.int (Int32.ofNat i))])) rfl (by rw [hml]; rfl) (Steps.refl _) (argsL := []) (rest := [(.int (Int32.ofNat i))]) (lenOf pd_12 rfl) rfl (by show 2 * 0 + _ ≤ _; exact Nat.le_of_eq rfl) (hb hby d12_6) (fun _ _ => ⟨rfl, e0, (by decide : 0 + 0 ≤ _), (by decide : 0 + 0 ≤ _)⟩)
  dsimp only [Pt.U, Pt.locs, Pt.cells, Pt.slots] at X79 l79 y79 z79 st79 hQ79
  subst l79 y79 z79
  obtain ⟨rfl, N79q, e79⟩ := hQ79
  have N79 := Fr.app N0 N79q
  obtain ⟨cq80, kq80, q80a, q80b, q80c⟩ := isOf hZ e79 SS.1
  obtain ⟨_, _, ⟨T80, L80, k80, n80⟩, -, X80, ⟨Lc80, hQ80, l80, y80, z80⟩, st80⟩ := X79.virtualBack hx (y := (⟨"java/lang/String", "charAt", "(I)C"⟩ : MethodName)) (z := (⟨"java/lang/String", "charAt", "(I)C"⟩ : MethodName)) hown (mvT hZ (hw _ (List.mem_of_getElem? (i := 67) rfl))) (mvT hZ (hw _ (List.mem_of_getElem? (i := 68) rfl))) (notFace_of_selects (args := #[]) (mvT hZ (hw _ (List.mem_of_getElem? (i := 70) rfl)))) (mvT hZ (hw _ (List.mem_of_getElem? (i := 70) rfl))) (mvT hZ (hw _ (List.mem_of_getElem? (i := 69) rfl))) (by decide) (backOf (W := 0) (rmCA l Z a0 hw [] o i n g h0 n0 Z0 hn hi O SK SS) hZ (hw _ (List.mem_of_getElem? (i := 71) rfl)) (hw _ (List.mem_of_getElem? (i := 11) rfl)) (by decide) (by decide)) q80a q80c (g := (mkF m 14 #[.val (.ref o), .val (.int r), .val (.int (Int32.ofNat i)), q] [(.int (Int32.ofNat i)), (.ref o)])) rfl (by rw [hml]; rfl) (Steps.refl _) (argsL := [(.int (Int32.ofNat i))]) (rest := []) (lenOf pd_14 rfl) rfl (by show 2 * 0 + _ ≤ _; exact Nat.le_of_eq rfl) (hb hby d12_14) (fun _ _ => ⟨rfl, e79, (by decide : 0 + 0 ≤ _), (by decide : 0 + 0 ≤ _)⟩)
  dsimp only [Pt.U, Pt.locs, Pt.cells, Pt.slots] at X80 l80 y80 z80 st80 hQ80
  subst l80 y80 z80
  obtain ⟨rfl, N80q, e80⟩ := hQ80
  have N80 := Fr.app N79 N80q
  refine ⟨_, _, X80, e80, N80, fun target kt => ?_⟩
  show Steps p.tables e below (T0.setTop (mkF m 4 #[.val (.ref o), .val (.int r), .val (.int (Int32.ofNat i)), q] [])) _
  refine XS.iloadN X0.here hx rfl (hb hby d12_4) rfl ?_
  refine XS.aloadN X0.here hx rfl (hb hby d12_5) rfl rfl ?_
  show Steps p.tables e below (T0.setTop (mkF m 6 #[.val (.ref o), .val (.int r), .val (.int (Int32.ofNat i)), q] [(.ref o), (.int (Int32.ofNat i))])) _
  refine st79.trans ?_
  refine XS.icmpNo X79.here hx rfl (hb hby d12_9) rfl (tlt ((ltN (by omega) (by omega)).mpr hi)).2.1 ?_
  refine XS.aloadN X79.here hx rfl (hb hby d12_12) rfl rfl ?_
  refine XS.iloadN X79.here hx rfl (hb hby d12_13) rfl ?_
  show Steps p.tables e below (T79.setTop (mkF m 14 #[.val (.ref o), .val (.int r), .val (.int (Int32.ofNat i)), q] [(.int (Int32.ofNat i)), (.ref o)])) _
  refine st80.trans ?_
  refine XS.istoreN X80.here hx rfl (hb hby d12_17) rfl (l' := #[.val (.ref o), .val (.int r), .val (.int (Int32.ofNat i)), .val (.int (g i))]) (by rcases hq with rfl | ⟨_, rfl⟩ <;> rfl) ?_
  refine XS.iloadN X80.here hx rfl (hb hby d12_18) rfl ?_
  refine XS.sipush X80.here hx rfl (hb hby d12_19) ?_
  refine XS.icmpYes X80.here hx rfl (pc0 := 22) (pc' := 31) rfl (hb hby d12_22) rfl (flt hc22).2.1 (by decide) (by decide) ?_
  refine XS.iloadN X80.here hx rfl (hb hby d12_31) rfl ?_
  show Steps p.tables e below (T80.setTop (mkF m 32 #[.val (.ref o), .val (.int r), .val (.int (Int32.ofNat i)), .val (.int (g i))] [(.int (g i))])) _
  refine XS.sipush X80.here hx rfl (hb hby d12_32) ?_
  refine XS.icmpNo X80.here hx rfl (hb hby d12_35) rfl (tlt hc35).2.1 ?_
  refine XS.iinc X80.here hx rfl (hb hby d12_38) rfl (l' := #[.val (.ref o), .val (.int (r + (2 : Int32))), .val (.int (Int32.ofNat i)), .val (.int (g i))]) rfl ?_
  refine XS.goto X80.here hx rfl (pc0 := 41) (pc' := 107) rfl (hb hby d12_41) (by decide) (by decide) ?_
  refine XS.iinc X80.here hx rfl (hb hby d12_107) rfl (l' := #[.val (.ref o), .val (.int (r + (2 : Int32))), .val (.int ((Int32.ofNat i) + (1 : Int32))), .val (.int (g i))]) rfl ?_
  show Steps p.tables e below (T80.setTop (mkF m 110 #[.val (.ref o), .val (.int (r + (2 : Int32))), .val (.int ((Int32.ofNat i) + (1 : Int32))), .val (.int (g i))] [])) _
  rw [show ((Int32.ofNat i) + (1 : Int32)) = (Int32.ofNat (i + 1)) from succN i]
  show Steps p.tables e below (T80.setTop (mkF m 110 #[.val (.ref o), .val (.int (r + (2 : Int32))), .val (.int (Int32.ofNat (i + 1))), .val (.int (g i))] [])) _
  refine XS.goto X80.here hx rfl (pc0 := 110) (pc' := 4) rfl (hb hby d12_110) (by decide) (by decide) ?_
  exact kt
set_option maxRecDepth 65536 in
set_option maxHeartbeats 40000000 in
theorem tnC {p : Program} {l : Launch} {e : Env} {s : State} {m : MethodId} {args : Array Value} {below : List Frame} {meth : Method} {c : Code} {T0 : State} {locs : List Loc} {Z : State} {a0 : Array Value} {h0 : Heap} {n0 : Nat} (o : Addr) (i n : Nat) (g : Nat → Int32) (r : Int32) (q : Slot) (hq : q = .unset ∨ ∃ x : Int32, q = .val (.int x)) (X0 : Stand p l e ({ frames := 5, cells := 0, slots := 0, locals := 80 } : Room) s m args below meth c T0 locs 0 0) (hx : p.tables.exec = Jvm.exec) (hZ : Z.Warmed39 s.vm) (hw : ∀ d ∈ tables_1, d.before a0 Z = true) (hby : c.code = prog_8_method_7_code) (hml : c.maxLocals = 4) (hown : s.vm.findClass "com/example/orderly_latch/orderlylatch/name/LatchName" = some m.cls) (e0 : T0.heap = h0) (Z0 : n0 ≤ h0.size) (N0 : Fr n0 locs) (hn : n ≤ 200) (hi : i < n) (hi1 : i + 1 < n) (O : Old Z n0 h0) (SK : StrSta Z) (SS : Str Z h0 o n g) (hc22 : ¬ ((g i) < (128 : Int32))) (hc35 : ¬ ((g i) < (2048 : Int32))) (hc48 : ¬ ((f_ihs (g i)) = (0 : Int32))) (hc71 : ¬ ((f_ils (g (i + 1))) = (0 : Int32))) :
    ∃ (T' : State) (locs' : List Loc), Stand p l e ({ frames := 5, cells := 0, slots := 0, locals := 80 } : Room) s m args below meth c T' locs' 0 0 ∧ T'.heap = h0 ∧ Fr n0 locs' ∧ ∀ target, Steps p.tables e below (T'.setTop (mkF m 4 #[.val (.ref o), .val (.int (r + (4 : Int32))), .val (.int (Int32.ofNat (i + 1 + 1))), .val (.int (g i))] [])) target → Steps p.tables e below (T0.setTop (mkF m 4 #[.val (.ref o), .val (.int r), .val (.int (Int32.ofNat i)), q] [])) target := by
  obtain ⟨cq81, kq81, q81a, q81b, q81c⟩ := isOf hZ e0 SS.1
  obtain ⟨_, _, ⟨T81, L81, k81, n81⟩, -, X81, ⟨Lc81, hQ81, l81, y81, z81⟩, st81⟩ := X0.virtualBack hx (y := (⟨"java/lang/String", "length", "()I"⟩ : MethodName)) (z := (⟨"java/lang/String", "length", "()I"⟩ : MethodName)) hown (mvT hZ (hw _ (List.mem_of_getElem? (i := 57) rfl))) (mvT hZ (hw _ (List.mem_of_getElem? (i := 58) rfl))) (notFace_of_selects (args := #[]) (mvT hZ (hw _ (List.mem_of_getElem? (i := 60) rfl)))) (mvT hZ (hw _ (List.mem_of_getElem? (i := 60) rfl))) (mvT hZ (hw _ (List.mem_of_getElem? (i := 59) rfl))) (by decide) (backOf (W := 1) (rmLEN l Z a0 hw [] o n g h0 n0 Z0 hn O SK SS) hZ (hw _ (List.mem_of_getElem? (i := 61) rfl)) (hw _ (List.mem_of_getElem? (i := 11) rfl)) (by decide) (by decide)) q81a q81c (g := (mkF m 6 #[.val (.ref o), .val (.int r), .val (.int (Int32.ofNat i)), q] [(.ref o), (.int (Int32.ofNat i))])) rfl (by rw [hml]; rfl) (Steps.refl _) (argsL := []) (rest := [(.int (Int32.ofNat i))]) (lenOf pd_12 rfl) rfl (by show 2 * 0 + _ ≤ _; exact Nat.le_of_eq rfl) (hb hby d12_6) (fun _ _ => ⟨rfl, e0, (by decide : 0 + 0 ≤ _), (by decide : 0 + 0 ≤ _)⟩)
  dsimp only [Pt.U, Pt.locs, Pt.cells, Pt.slots] at X81 l81 y81 z81 st81 hQ81
  subst l81 y81 z81
  obtain ⟨rfl, N81q, e81⟩ := hQ81
  have N81 := Fr.app N0 N81q
  obtain ⟨cq82, kq82, q82a, q82b, q82c⟩ := isOf hZ e81 SS.1
  obtain ⟨_, _, ⟨T82, L82, k82, n82⟩, -, X82, ⟨Lc82, hQ82, l82, y82, z82⟩, st82⟩ := X81.virtualBack hx (y := (⟨"java/lang/String", "charAt", "(I)C"⟩ : MethodName)) (z := (⟨"java/lang/String", "charAt", "(I)C"⟩ : MethodName)) hown (mvT hZ (hw _ (List.mem_of_getElem? (i := 67) rfl))) (mvT hZ (hw _ (List.mem_of_getElem? (i := 68) rfl))) (notFace_of_selects (args := #[]) (mvT hZ (hw _ (List.mem_of_getElem? (i := 70) rfl)))) (mvT hZ (hw _ (List.mem_of_getElem? (i := 70) rfl))) (mvT hZ (hw _ (List.mem_of_getElem? (i := 69) rfl))) (by decide) (backOf (W := 0) (rmCA l Z a0 hw [] o i n g h0 n0 Z0 hn hi O SK SS) hZ (hw _ (List.mem_of_getElem? (i := 71) rfl)) (hw _ (List.mem_of_getElem? (i := 11) rfl)) (by decide) (by decide)) q82a q82c (g := (mkF m 14 #[.val (.ref o), .val (.int r), .val (.int (Int32.ofNat i)), q] [(.int (Int32.ofNat i)), (.ref o)])) rfl (by rw [hml]; rfl) (Steps.refl _) (argsL := [(.int (Int32.ofNat i))]) (rest := []) (lenOf pd_14 rfl) rfl (by show 2 * 0 + _ ≤ _; exact Nat.le_of_eq rfl) (hb hby d12_14) (fun _ _ => ⟨rfl, e81, (by decide : 0 + 0 ≤ _), (by decide : 0 + 0 ≤ _)⟩)
  dsimp only [Pt.U, Pt.locs, Pt.cells, Pt.slots] at X82 l82 y82 z82 st82 hQ82
  subst l82 y82 z82
  obtain ⟨rfl, N82q, e82⟩ := hQ82
  have N82 := Fr.app N81 N82q
  obtain ⟨_, _, ⟨T83, L83, k83, n83⟩, -, X83, ⟨Lc83, hQ83, l83, y83, z83⟩, st83⟩ := Jvm.LawKit.callS X82 hx (y := (⟨"java/lang/Character", "isHighSurrogate", "(C)Z"⟩ : MethodName)) hown (mvT hZ (hw _ (List.mem_of_getElem? (i := 146) rfl))) (mvT hZ (hw _ (List.mem_of_getElem? (i := 147) rfl))) (mvT hZ (hw _ (List.mem_of_getElem? (i := 148) rfl))) (mvT hZ (hw _ (List.mem_of_getElem? (i := 149) rfl))) (by decide) (backOf (W := 0) (rm_ihs l Z a0 hw [] (g i) h0 n0 Z0) hZ (hw _ (List.mem_of_getElem? (i := 149) rfl)) (hw _ (List.mem_of_getElem? (i := 148) rfl)) (by decide) (by decide)) (g := (mkF m 45 #[.val (.ref o), .val (.int r), .val (.int (Int32.ofNat i)), .val (.int (g i))] [(.int (g i))])) rfl (by rw [hml]; rfl) (argsL := [(.int (g i))]) (rest := []) (lenOf pd_26 rfl) rfl (by show 2 * 0 + _ ≤ _; exact Nat.le_of_eq rfl) (hb hby d12_45) (fun _ _ => ⟨rfl, e82, (by decide : 0 + 0 ≤ _), (by decide : 0 + 0 ≤ _)⟩)
  dsimp only [Pt.U, Pt.locs, Pt.cells, Pt.slots] at X83 l83 y83 z83 st83 hQ83
  subst l83 y83 z83
  obtain ⟨rfl, N83q, e83⟩ := hQ83
  have N83 := Fr.app N82 N83q
  obtain ⟨cq84, kq84, q84a, q84b, q84c⟩ := isOf hZ e83 SS.1
  obtain ⟨_, _, ⟨T84, L84, k84, n84⟩, -, X84, ⟨Lc84, hQ84, l84, y84, z84⟩, st84⟩ := X83.virtualBack hx (y := (⟨"java/lang/String", "length", "()I"⟩ : MethodName)) (z := (⟨"java/lang/String", "length", "()I"⟩ : MethodName)) hown (mvT hZ (hw _ (List.mem_of_getElem? (i := 57) rfl))) (mvT hZ (hw _ (List.mem_of_getElem? (i := 58) rfl))) (notFace_of_selects (args := #[]) (mvT hZ (hw _ (List.mem_of_getElem? (i := 60) rfl)))) (mvT hZ (hw _ (List.mem_of_getElem? (i := 60) rfl))) (mvT hZ (hw _ (List.mem_of_getElem? (i := 59) rfl))) (by decide) (backOf (W := 1) (rmLEN l Z a0 hw [] o n g h0 n0 Z0 hn O SK SS) hZ (hw _ (List.mem_of_getElem? (i := 61) rfl)) (hw _ (List.mem_of_getElem? (i := 11) rfl)) (by decide) (by decide)) q84a q84c (g := (mkF m 55 #[.val (.ref o), .val (.int r), .val (.int (Int32.ofNat i)), .val (.int (g i))] [(.ref o), (.int (Int32.ofNat (i + 1)))])) rfl (by rw [hml]; rfl) (Steps.refl _) (argsL := []) (rest := [(.int (Int32.ofNat (i + 1)))]) (lenOf pd_12 rfl) rfl (by show 2 * 0 + _ ≤ _; exact Nat.le_of_eq rfl) (hb hby d12_55) (fun _ _ => ⟨rfl, e83, (by decide : 0 + 0 ≤ _), (by decide : 0 + 0 ≤ _)⟩)
  dsimp only [Pt.U, Pt.locs, Pt.cells, Pt.slots] at X84 l84 y84 z84 st84 hQ84
  subst l84 y84 z84
  obtain ⟨rfl, N84q, e84⟩ := hQ84
  have N84 := Fr.app N83 N84q
  obtain ⟨cq85, kq85, q85a, q85b, q85c⟩ := isOf hZ e84 SS.1
  obtain ⟨_, _, ⟨T85, L85, k85, n85⟩, -, X85, ⟨Lc85, hQ85, l85, y85, z85⟩, st85⟩ := X84.virtualBack hx (y := (⟨"java/lang/String", "charAt", "(I)C"⟩ : MethodName)) (z := (⟨"java/lang/String", "charAt", "(I)C"⟩ : MethodName)) hown (mvT hZ (hw _ (List.mem_of_getElem? (i := 67) rfl))) (mvT hZ (hw _ (List.mem_of_getElem? (i := 68) rfl))) (notFace_of_selects (args := #[]) (mvT hZ (hw _ (List.mem_of_getElem? (i := 70) rfl)))) (mvT hZ (hw _ (List.mem_of_getElem? (i := 70) rfl))) (mvT hZ (hw _ (List.mem_of_getElem? (i := 69) rfl))) (by decide) (backOf (W := 0) (rmCA l Z a0 hw [] o (i + 1) n g h0 n0 Z0 hn hi1 O SK SS) hZ (hw _ (List.mem_of_getElem? (i := 71) rfl)) (hw _ (List.mem_of_getElem? (i := 11) rfl)) (by decide) (by decide)) q85a q85c (g := (mkF m 65 #[.val (.ref o), .val (.int r), .val (.int (Int32.ofNat i)), .val (.int (g i))] [(.int (Int32.ofNat (i + 1))), (.ref o)])) rfl (by rw [hml]; rfl) (Steps.refl _) (argsL := [(.int (Int32.ofNat (i + 1)))]) (rest := []) (lenOf pd_14 rfl) rfl (by show 2 * 0 + _ ≤ _; exact Nat.le_of_eq rfl) (hb hby d12_65) (fun _ _ => ⟨rfl, e84, (by decide : 0 + 0 ≤ _), (by decide : 0 + 0 ≤ _)⟩)
  dsimp only [Pt.U, Pt.locs, Pt.cells, Pt.slots] at X85 l85 y85 z85 st85 hQ85
  subst l85 y85 z85
  obtain ⟨rfl, N85q, e85⟩ := hQ85
  have N85 := Fr.app N84 N85q
  obtain ⟨_, _, ⟨T86, L86, k86, n86⟩, -, X86, ⟨Lc86, hQ86, l86, y86, z86⟩, st86⟩ := Jvm.LawKit.callS X85 hx (y := (⟨"java/lang/Character", "isLowSurrogate", "(C)Z"⟩ : MethodName)) hown (mvT hZ (hw _ (List.mem_of_getElem? (i := 156) rfl))) (mvT hZ (hw _ (List.mem_of_getElem? (i := 157) rfl))) (mvT hZ (hw _ (List.mem_of_getElem? (i := 148) rfl))) (mvT hZ (hw _ (List.mem_of_getElem? (i := 158) rfl))) (by decide) (backOf (W := 0) (rm_ils l Z a0 hw [] (g (i + 1)) h0 n0 Z0) hZ (hw _ (List.mem_of_getElem? (i := 158) rfl)) (hw _ (List.mem_of_getElem? (i := 148) rfl)) (by decide) (by decide)) (g := (mkF m 68 #[.val (.ref o), .val (.int r), .val (.int (Int32.ofNat i)), .val (.int (g i))] [(.int (g (i + 1)))])) rfl (by rw [hml]; rfl) (argsL := [(.int (g (i + 1)))]) (rest := []) (lenOf pd_26 rfl) rfl (by show 2 * 0 + _ ≤ _; exact Nat.le_of_eq rfl) (hb hby d12_68) (fun _ _ => ⟨rfl, e85, (by decide : 0 + 0 ≤ _), (by decide : 0 + 0 ≤ _)⟩)
  dsimp only [Pt.U, Pt.locs, Pt.cells, Pt.slots] at X86 l86 y86 z86 st86 hQ86
  subst l86 y86 z86
  obtain ⟨rfl, N86q, e86⟩ := hQ86
  have N86 := Fr.app N85 N86q
  refine ⟨_, _, X86, e86, N86, fun target kt => ?_⟩
  show Steps p.tables e below (T0.setTop (mkF m 4 #[.val (.ref o), .val (.int r), .val (.int (Int32.ofNat i)), q] [])) _
  refine XS.iloadN X0.here hx rfl (hb hby d12_4) rfl ?_
  refine XS.aloadN X0.here hx rfl (hb hby d12_5) rfl rfl ?_
  show Steps p.tables e below (T0.setTop (mkF m 6 #[.val (.ref o), .val (.int r), .val (.int (Int32.ofNat i)), q] [(.ref o), (.int (Int32.ofNat i))])) _
  refine st81.trans ?_
  refine XS.icmpNo X81.here hx rfl (hb hby d12_9) rfl (tlt ((ltN (by omega) (by omega)).mpr hi)).2.1 ?_
  refine XS.aloadN X81.here hx rfl (hb hby d12_12) rfl rfl ?_
  refine XS.iloadN X81.here hx rfl (hb hby d12_13) rfl ?_
  show Steps p.tables e below (T81.setTop (mkF m 14 #[.val (.ref o), .val (.int r), .val (.int (Int32.ofNat i)), q] [(.int (Int32.ofNat i)), (.ref o)])) _
  refine st82.trans ?_
  refine XS.istoreN X82.here hx rfl (hb hby d12_17) rfl (l' := #[.val (.ref o), .val (.int r), .val (.int (Int32.ofNat i)), .val (.int (g i))]) (by rcases hq with rfl | ⟨_, rfl⟩ <;> rfl) ?_
  refine XS.iloadN X82.here hx rfl (hb hby d12_18) rfl ?_
  refine XS.sipush X82.here hx rfl (hb hby d12_19) ?_
  refine XS.icmpYes X82.here hx rfl (pc0 := 22) (pc' := 31) rfl (hb hby d12_22) rfl (flt hc22).2.1 (by decide) (by decide) ?_
  refine XS.iloadN X82.here hx rfl (hb hby d12_31) rfl ?_
  show Steps p.tables e below (T82.setTop (mkF m 32 #[.val (.ref o), .val (.int r), .val (.int (Int32.ofNat i)), .val (.int (g i))] [(.int (g i))])) _
  refine XS.sipush X82.here hx rfl (hb hby d12_32) ?_
  refine XS.icmpYes X82.here hx rfl (pc0 := 35) (pc' := 44) rfl (hb hby d12_35) rfl (flt hc35).2.1 (by decide) (by decide) ?_
  refine XS.iloadN X82.here hx rfl (hb hby d12_44) rfl ?_
  show Steps p.tables e below (T82.setTop (mkF m 45 #[.val (.ref o), .val (.int r), .val (.int (Int32.ofNat i)), .val (.int (g i))] [(.int (g i))])) _
  refine st83 _ ?_
  refine XS.ifNo X83.here hx rfl (hb hby d12_48) rfl ((if0 _ _).trans (feq hc48).1) ?_
  refine XS.iloadN X83.here hx rfl (hb hby d12_51) rfl ?_
  refine XS.iconst X83.here hx rfl (hb hby d12_52) ?_
  refine XS.iadd X83.here hx rfl (hb hby d12_53) rfl ?_
  show Steps p.tables e below (T83.setTop (mkF m 54 #[.val (.ref o), .val (.int r), .val (.int (Int32.ofNat i)), .val (.int (g i))] [(.int ((Int32.ofNat i) + (1 : Int32)))])) _
  rw [show ((Int32.ofNat i) + (1 : Int32)) = (Int32.ofNat (i + 1)) from succN i]
  show Steps p.tables e below (T83.setTop (mkF m 54 #[.val (.ref o), .val (.int r), .val (.int (Int32.ofNat i)), .val (.int (g i))] [(.int (Int32.ofNat (i + 1)))])) _
  refine XS.aloadN X83.here hx rfl (hb hby d12_54) rfl rfl ?_
  show Steps p.tables e below (T83.setTop (mkF m 55 #[.val (.ref o), .val (.int r), .val (.int (Int32.ofNat i)), .val (.int (g i))] [(.ref o), (.int (Int32.ofNat (i + 1)))])) _
  refine st84.trans ?_
  refine XS.icmpNo X84.here hx rfl (hb hby d12_58) rfl (tlt ((ltN (by omega) (by omega)).mpr hi1)).2.1 ?_
  refine XS.aloadN X84.here hx rfl (hb hby d12_61) rfl rfl ?_
  refine XS.iloadN X84.here hx rfl (hb hby d12_62) rfl ?_
  refine XS.iconst X84.here hx rfl (hb hby d12_63) ?_
  refine XS.iadd X84.here hx rfl (hb hby d12_64) rfl ?_
  show Steps p.tables e below (T84.setTop (mkF m 65 #[.val (.ref o), .val (.int r), .val (.int (Int32.ofNat i)), .val (.int (g i))] [(.int ((Int32.ofNat i) + (1 : Int32))), (.ref o)])) _
  rw [show ((Int32.ofNat i) + (1 : Int32)) = (Int32.ofNat (i + 1)) from succN i]
  show Steps p.tables e below (T84.setTop (mkF m 65 #[.val (.ref o), .val (.int r), .val (.int (Int32.ofNat i)), .val (.int (g i))] [(.int (Int32.ofNat (i + 1))), (.ref o)])) _
  refine st85.trans ?_
  show Steps p.tables e below (T85.setTop (mkF m 68 #[.val (.ref o), .val (.int r), .val (.int (Int32.ofNat i)), .val (.int (g i))] [(.int (g (i + 1)))])) _
  refine st86 _ ?_
  refine XS.ifNo X86.here hx rfl (hb hby d12_71) rfl ((if0 _ _).trans (feq hc71).1) ?_
  refine XS.iinc X86.here hx rfl (hb hby d12_74) rfl (l' := #[.val (.ref o), .val (.int (r + (4 : Int32))), .val (.int (Int32.ofNat i)), .val (.int (g i))]) rfl ?_
  refine XS.iinc X86.here hx rfl (hb hby d12_77) rfl (l' := #[.val (.ref o), .val (.int (r + (4 : Int32))), .val (.int ((Int32.ofNat i) + (1 : Int32))), .val (.int (g i))]) rfl ?_
  show Steps p.tables e below (T86.setTop (mkF m 80 #[.val (.ref o), .val (.int (r + (4 : Int32))), .val (.int ((Int32.ofNat i) + (1 : Int32))), .val (.int (g i))] [])) _
  rw [show ((Int32.ofNat i) + (1 : Int32)) = (Int32.ofNat (i + 1)) from succN i]
  show Steps p.tables e below (T86.setTop (mkF m 80 #[.val (.ref o), .val (.int (r + (4 : Int32))), .val (.int (Int32.ofNat (i + 1))), .val (.int (g i))] [])) _
  refine XS.goto X86.here hx rfl (pc0 := 80) (pc' := 107) rfl (hb hby d12_80) (by decide) (by decide) ?_
  refine XS.iinc X86.here hx rfl (hb hby d12_107) rfl (l' := #[.val (.ref o), .val (.int (r + (4 : Int32))), .val (.int ((Int32.ofNat (i + 1)) + (1 : Int32))), .val (.int (g i))]) rfl ?_
  show Steps p.tables e below (T86.setTop (mkF m 110 #[.val (.ref o), .val (.int (r + (4 : Int32))), .val (.int ((Int32.ofNat (i + 1)) + (1 : Int32))), .val (.int (g i))] [])) _
  rw [show ((Int32.ofNat (i + 1)) + (1 : Int32)) = (Int32.ofNat (i + 1 + 1)) from succN (i + 1)]
  show Steps p.tables e below (T86.setTop (mkF m 110 #[.val (.ref o), .val (.int (r + (4 : Int32))), .val (.int (Int32.ofNat (i + 1 + 1))), .val (.int (g i))] [])) _
  refine XS.goto X86.here hx rfl (pc0 := 110) (pc' := 4) rfl (hb hby d12_110) (by decide) (by decide) ?_
  exact kt
set_option maxRecDepth 65536 in
set_option maxHeartbeats 40000000 in
theorem tnD {p : Program} {l : Launch} {e : Env} {s : State} {m : MethodId} {args : Array Value} {below : List Frame} {meth : Method} {c : Code} {T0 : State} {locs : List Loc} {Z : State} {a0 : Array Value} {h0 : Heap} {n0 : Nat} (o : Addr) (i n : Nat) (g : Nat → Int32) (r : Int32) (q : Slot) (hq : q = .unset ∨ ∃ x : Int32, q = .val (.int x)) (X0 : Stand p l e ({ frames := 5, cells := 0, slots := 0, locals := 80 } : Room) s m args below meth c T0 locs 0 0) (hx : p.tables.exec = Jvm.exec) (hZ : Z.Warmed39 s.vm) (hw : ∀ d ∈ tables_1, d.before a0 Z = true) (hby : c.code = prog_8_method_7_code) (hml : c.maxLocals = 4) (hown : s.vm.findClass "com/example/orderly_latch/orderlylatch/name/LatchName" = some m.cls) (e0 : T0.heap = h0) (Z0 : n0 ≤ h0.size) (N0 : Fr n0 locs) (hn : n ≤ 200) (hi : i < n) (O : Old Z n0 h0) (SK : StrSta Z) (SS : Str Z h0 o n g) (hc22 : ¬ ((g i) < (128 : Int32))) (hc35 : ¬ ((g i) < (2048 : Int32))) (hc48 : (f_ihs (g i)) = (0 : Int32)) (hc87 : (f_isu (g i)) = (0 : Int32)) :
    ∃ (T' : State) (locs' : List Loc), Stand p l e ({ frames := 5, cells := 0, slots := 0, locals := 80 } : Room) s m args below meth c T' locs' 0 0 ∧ T'.heap = h0 ∧ Fr n0 locs' ∧ ∀ target, Steps p.tables e below (T'.setTop (mkF m 4 #[.val (.ref o), .val (.int (r + (3 : Int32))), .val (.int (Int32.ofNat (i + 1))), .val (.int (g i))] [])) target → Steps p.tables e below (T0.setTop (mkF m 4 #[.val (.ref o), .val (.int r), .val (.int (Int32.ofNat i)), q] [])) target := by
  obtain ⟨cq87, kq87, q87a, q87b, q87c⟩ := isOf hZ e0 SS.1
  obtain ⟨_, _, ⟨T87, L87, k87, n87⟩, -, X87, ⟨Lc87, hQ87, l87, y87, z87⟩, st87⟩ := X0.virtualBack hx (y := (⟨"java/lang/String", "length", "()I"⟩ : MethodName)) (z := (⟨"java/lang/String", "length", "()I"⟩ : MethodName)) hown (mvT hZ (hw _ (List.mem_of_getElem? (i := 57) rfl))) (mvT hZ (hw _ (List.mem_of_getElem? (i := 58) rfl))) (notFace_of_selects (args := #[]) (mvT hZ (hw _ (List.mem_of_getElem? (i := 60) rfl)))) (mvT hZ (hw _ (List.mem_of_getElem? (i := 60) rfl))) (mvT hZ (hw _ (List.mem_of_getElem? (i := 59) rfl))) (by decide) (backOf (W := 1) (rmLEN l Z a0 hw [] o n g h0 n0 Z0 hn O SK SS) hZ (hw _ (List.mem_of_getElem? (i := 61) rfl)) (hw _ (List.mem_of_getElem? (i := 11) rfl)) (by decide) (by decide)) q87a q87c (g := (mkF m 6 #[.val (.ref o), .val (.int r), .val (.int (Int32.ofNat i)), q] [(.ref o), (.int (Int32.ofNat i))])) rfl (by rw [hml]; rfl) (Steps.refl _) (argsL := []) (rest := [(.int (Int32.ofNat i))]) (lenOf pd_12 rfl) rfl (by show 2 * 0 + _ ≤ _; exact Nat.le_of_eq rfl) (hb hby d12_6) (fun _ _ => ⟨rfl, e0, (by decide : 0 + 0 ≤ _), (by decide : 0 + 0 ≤ _)⟩)
  dsimp only [Pt.U, Pt.locs, Pt.cells, Pt.slots] at X87 l87 y87 z87 st87 hQ87
  subst l87 y87 z87
  obtain ⟨rfl, N87q, e87⟩ := hQ87
  have N87 := Fr.app N0 N87q
  obtain ⟨cq88, kq88, q88a, q88b, q88c⟩ := isOf hZ e87 SS.1
  obtain ⟨_, _, ⟨T88, L88, k88, n88⟩, -, X88, ⟨Lc88, hQ88, l88, y88, z88⟩, st88⟩ := X87.virtualBack hx (y := (⟨"java/lang/String", "charAt", "(I)C"⟩ : MethodName)) (z := (⟨"java/lang/String", "charAt", "(I)C"⟩ : MethodName)) hown (mvT hZ (hw _ (List.mem_of_getElem? (i := 67) rfl))) (mvT hZ (hw _ (List.mem_of_getElem? (i := 68) rfl))) (notFace_of_selects (args := #[]) (mvT hZ (hw _ (List.mem_of_getElem? (i := 70) rfl)))) (mvT hZ (hw _ (List.mem_of_getElem? (i := 70) rfl))) (mvT hZ (hw _ (List.mem_of_getElem? (i := 69) rfl))) (by decide) (backOf (W := 0) (rmCA l Z a0 hw [] o i n g h0 n0 Z0 hn hi O SK SS) hZ (hw _ (List.mem_of_getElem? (i := 71) rfl)) (hw _ (List.mem_of_getElem? (i := 11) rfl)) (by decide) (by decide)) q88a q88c (g := (mkF m 14 #[.val (.ref o), .val (.int r), .val (.int (Int32.ofNat i)), q] [(.int (Int32.ofNat i)), (.ref o)])) rfl (by rw [hml]; rfl) (Steps.refl _) (argsL := [(.int (Int32.ofNat i))]) (rest := []) (lenOf pd_14 rfl) rfl (by show 2 * 0 + _ ≤ _; exact Nat.le_of_eq rfl) (hb hby d12_14) (fun _ _ => ⟨rfl, e87, (by decide : 0 + 0 ≤ _), (by decide : 0 + 0 ≤ _)⟩)
  dsimp only [Pt.U, Pt.locs, Pt.cells, Pt.slots] at X88 l88 y88 z88 st88 hQ88
  subst l88 y88 z88
  obtain ⟨rfl, N88q, e88⟩ := hQ88
  have N88 := Fr.app N87 N88q
  obtain ⟨_, _, ⟨T89, L89, k89, n89⟩, -, X89, ⟨Lc89, hQ89, l89, y89, z89⟩, st89⟩ := Jvm.LawKit.callS X88 hx (y := (⟨"java/lang/Character", "isHighSurrogate", "(C)Z"⟩ : MethodName)) hown (mvT hZ (hw _ (List.mem_of_getElem? (i := 146) rfl))) (mvT hZ (hw _ (List.mem_of_getElem? (i := 147) rfl))) (mvT hZ (hw _ (List.mem_of_getElem? (i := 148) rfl))) (mvT hZ (hw _ (List.mem_of_getElem? (i := 149) rfl))) (by decide) (backOf (W := 0) (rm_ihs l Z a0 hw [] (g i) h0 n0 Z0) hZ (hw _ (List.mem_of_getElem? (i := 149) rfl)) (hw _ (List.mem_of_getElem? (i := 148) rfl)) (by decide) (by decide)) (g := (mkF m 45 #[.val (.ref o), .val (.int r), .val (.int (Int32.ofNat i)), .val (.int (g i))] [(.int (g i))])) rfl (by rw [hml]; rfl) (argsL := [(.int (g i))]) (rest := []) (lenOf pd_26 rfl) rfl (by show 2 * 0 + _ ≤ _; exact Nat.le_of_eq rfl) (hb hby d12_45) (fun _ _ => ⟨rfl, e88, (by decide : 0 + 0 ≤ _), (by decide : 0 + 0 ≤ _)⟩)
  dsimp only [Pt.U, Pt.locs, Pt.cells, Pt.slots] at X89 l89 y89 z89 st89 hQ89
  subst l89 y89 z89
  obtain ⟨rfl, N89q, e89⟩ := hQ89
  have N89 := Fr.app N88 N89q
  obtain ⟨_, _, ⟨T90, L90, k90, n90⟩, -, X90, ⟨Lc90, hQ90, l90, y90, z90⟩, st90⟩ := Jvm.LawKit.callS X89 hx (y := (⟨"java/lang/Character", "isSurrogate", "(C)Z"⟩ : MethodName)) hown (mvT hZ (hw _ (List.mem_of_getElem? (i := 152) rfl))) (mvT hZ (hw _ (List.mem_of_getElem? (i := 153) rfl))) (mvT hZ (hw _ (List.mem_of_getElem? (i := 148) rfl))) (mvT hZ (hw _ (List.mem_of_getElem? (i := 154) rfl))) (by decide) (backOf (W := 0) (rm_isu l Z a0 hw [] (g i) h0 n0 Z0) hZ (hw _ (List.mem_of_getElem? (i := 154) rfl)) (hw _ (List.mem_of_getElem? (i := 148) rfl)) (by decide) (by decide)) (g := (mkF m 84 #[.val (.ref o), .val (.int r), .val (.int (Int32.ofNat i)), .val (.int (g i))] [(.int (g i))])) rfl (by rw [hml]; rfl) (argsL := [(.int (g i))]) (rest := []) (lenOf pd_26 rfl) rfl (by show 2 * 0 + _ ≤ _; exact Nat.le_of_eq rfl) (hb hby d12_84) (fun _ _ => ⟨rfl, e89, (by decide : 0 + 0 ≤ _), (by decide : 0 + 0 ≤ _)⟩)
  dsimp only [Pt.U, Pt.locs, Pt.cells, Pt.slots] at X90 l90 y90 z90 st90 hQ90
  subst l90 y90 z90
  obtain ⟨rfl, N90q, e90⟩ := hQ90
  have N90 := Fr.app N89 N90q
  refine ⟨_, _, X90, e90, N90, fun target kt => ?_⟩
  show Steps p.tables e below (T0.setTop (mkF m 4 #[.val (.ref o), .val (.int r), .val (.int (Int32.ofNat i)), q] [])) _
  refine XS.iloadN X0.here hx rfl (hb hby d12_4) rfl ?_
  refine XS.aloadN X0.here hx rfl (hb hby d12_5) rfl rfl ?_
  show Steps p.tables e below (T0.setTop (mkF m 6 #[.val (.ref o), .val (.int r), .val (.int (Int32.ofNat i)), q] [(.ref o), (.int (Int32.ofNat i))])) _
  refine st87.trans ?_
  refine XS.icmpNo X87.here hx rfl (hb hby d12_9) rfl (tlt ((ltN (by omega) (by omega)).mpr hi)).2.1 ?_
  refine XS.aloadN X87.here hx rfl (hb hby d12_12) rfl rfl ?_
  refine XS.iloadN X87.here hx rfl (hb hby d12_13) rfl ?_
  show Steps p.tables e below (T87.setTop (mkF m 14 #[.val (.ref o), .val (.int r), .val (.int (Int32.ofNat i)), q] [(.int (Int32.ofNat i)), (.ref o)])) _
  refine st88.trans ?_
  refine XS.istoreN X88.here hx rfl (hb hby d12_17) rfl (l' := #[.val (.ref o), .val (.int r), .val (.int (Int32.ofNat i)), .val (.int (g i))]) (by rcases hq with rfl | ⟨_, rfl⟩ <;> rfl) ?_
  refine XS.iloadN X88.here hx rfl (hb hby d12_18) rfl ?_
  refine XS.sipush X88.here hx rfl (hb hby d12_19) ?_
  refine XS.icmpYes X88.here hx rfl (pc0 := 22) (pc' := 31) rfl (hb hby d12_22) rfl (flt hc22).2.1 (by decide) (by decide) ?_
  refine XS.iloadN X88.here hx rfl (hb hby d12_31) rfl ?_
  show Steps p.tables e below (T88.setTop (mkF m 32 #[.val (.ref o), .val (.int r), .val (.int (Int32.ofNat i)), .val (.int (g i))] [(.int (g i))])) _
  refine XS.sipush X88.here hx rfl (hb hby d12_32) ?_
  refine XS.icmpYes X88.here hx rfl (pc0 := 35) (pc' := 44) rfl (hb hby d12_35) rfl (flt hc35).2.1 (by decide) (by decide) ?_
  refine XS.iloadN X88.here hx rfl (hb hby d12_44) rfl ?_
  show Steps p.tables e below (T88.setTop (mkF m 45 #[.val (.ref o), .val (.int r), .val (.int (Int32.ofNat i)), .val (.int (g i))] [(.int (g i))])) _
  refine st89 _ ?_
  refine XS.ifYes X89.here hx rfl (pc0 := 48) (pc' := 83) rfl (hb hby d12_48) rfl ((if0 _ _).trans (teq hc48).1) (by decide) (by decide) ?_
  refine XS.iloadN X89.here hx rfl (hb hby d12_83) rfl ?_
  show Steps p.tables e below (T89.setTop (mkF m 84 #[.val (.ref o), .val (.int r), .val (.int (Int32.ofNat i)), .val (.int (g i))] [(.int (g i))])) _
  refine st90 _ ?_
  refine XS.ifYes X90.here hx rfl (pc0 := 87) (pc' := 104) rfl (hb hby d12_87) rfl ((if0 _ _).trans (teq hc87).1) (by decide) (by decide) ?_
  refine XS.iinc X90.here hx rfl (hb hby d12_104) rfl (l' := #[.val (.ref o), .val (.int (r + (3 : Int32))), .val (.int (Int32.ofNat i)), .val (.int (g i))]) rfl ?_
  refine XS.iinc X90.here hx rfl (hb hby d12_107) rfl (l' := #[.val (.ref o), .val (.int (r + (3 : Int32))), .val (.int ((Int32.ofNat i) + (1 : Int32))), .val (.int (g i))]) rfl ?_
  show Steps p.tables e below (T90.setTop (mkF m 110 #[.val (.ref o), .val (.int (r + (3 : Int32))), .val (.int ((Int32.ofNat i) + (1 : Int32))), .val (.int (g i))] [])) _
  rw [show ((Int32.ofNat i) + (1 : Int32)) = (Int32.ofNat (i + 1)) from succN i]
  show Steps p.tables e below (T90.setTop (mkF m 110 #[.val (.ref o), .val (.int (r + (3 : Int32))), .val (.int (Int32.ofNat (i + 1))), .val (.int (g i))] [])) _
  refine XS.goto X90.here hx rfl (pc0 := 110) (pc' := 4) rfl (hb hby d12_110) (by decide) (by decide) ?_
  exact kt
set_option maxRecDepth 65536 in
set_option maxHeartbeats 40000000 in
theorem tnE {p : Program} {l : Launch} {e : Env} {s : State} {m : MethodId} {args : Array Value} {below : List Frame} {meth : Method} {c : Code} {T0 : State} {locs : List Loc} {Z : State} {a0 : Array Value} {h0 : Heap} {n0 : Nat} (o : Addr) (i n : Nat) (g : Nat → Int32) (r : Int32) (q : Slot) (hq : q = .unset ∨ ∃ x : Int32, q = .val (.int x)) (X0 : Stand p l e ({ frames := 5, cells := 0, slots := 0, locals := 80 } : Room) s m args below meth c T0 locs 0 0) (hx : p.tables.exec = Jvm.exec) (hZ : Z.Warmed39 s.vm) (hw : ∀ d ∈ tables_1, d.before a0 Z = true) (hby : c.code = prog_8_method_7_code) (hml : c.maxLocals = 4) (hown : s.vm.findClass "com/example/orderly_latch/orderlylatch/name/LatchName" = some m.cls) (e0 : T0.heap = h0) (Z0 : n0 ≤ h0.size) (N0 : Fr n0 locs) (hn : n ≤ 200) (hi : ¬ (i < n)) (hi0 : i ≤ n) (O : Old Z n0 h0) (SK : StrSta Z) (SS : Str Z h0 o n g)  :
    ∃ (T' : State) (locs' : List Loc), Stand p l e ({ frames := 5, cells := 0, slots := 0, locals := 80 } : Room) s m args below meth c T' locs' 0 0 ∧ T'.heap = h0 ∧ Fr n0 locs' ∧ ∀ target, Steps p.tables e below (T'.setTop (mkF m 113 #[.val (.ref o), .val (.int r), .val (.int (Int32.ofNat i)), q] [])) target → Steps p.tables e below (T0.setTop (mkF m 4 #[.val (.ref o), .val (.int r), .val (.int (Int32.ofNat i)), q] [])) target := by
  obtain ⟨cq91, kq91, q91a, q91b, q91c⟩ := isOf hZ e0 SS.1
  obtain ⟨_, _, ⟨T91, L91, k91, n91⟩, -, X91, ⟨Lc91, hQ91, l91, y91, z91⟩, st91⟩ := X0.virtualBack hx (y := (⟨"java/lang/String", "length", "()I"⟩ : MethodName)) (z := (⟨"java/lang/String", "length", "()I"⟩ : MethodName)) hown (mvT hZ (hw _ (List.mem_of_getElem? (i := 57) rfl))) (mvT hZ (hw _ (List.mem_of_getElem? (i := 58) rfl))) (notFace_of_selects (args := #[]) (mvT hZ (hw _ (List.mem_of_getElem? (i := 60) rfl)))) (mvT hZ (hw _ (List.mem_of_getElem? (i := 60) rfl))) (mvT hZ (hw _ (List.mem_of_getElem? (i := 59) rfl))) (by decide) (backOf (W := 1) (rmLEN l Z a0 hw [] o n g h0 n0 Z0 hn O SK SS) hZ (hw _ (List.mem_of_getElem? (i := 61) rfl)) (hw _ (List.mem_of_getElem? (i := 11) rfl)) (by decide) (by decide)) q91a q91c (g := (mkF m 6 #[.val (.ref o), .val (.int r), .val (.int (Int32.ofNat i)), q] [(.ref o), (.int (Int32.ofNat i))])) rfl (by rw [hml]; rfl) (Steps.refl _) (argsL := []) (rest := [(.int (Int32.ofNat i))]) (lenOf pd_12 rfl) rfl (by show 2 * 0 + _ ≤ _; exact Nat.le_of_eq rfl) (hb hby d12_6) (fun _ _ => ⟨rfl, e0, (by decide : 0 + 0 ≤ _), (by decide : 0 + 0 ≤ _)⟩)
  dsimp only [Pt.U, Pt.locs, Pt.cells, Pt.slots] at X91 l91 y91 z91 st91 hQ91
  subst l91 y91 z91
  obtain ⟨rfl, N91q, e91⟩ := hQ91
  have N91 := Fr.app N0 N91q
  refine ⟨_, _, X91, e91, N91, fun target kt => ?_⟩
  show Steps p.tables e below (T0.setTop (mkF m 4 #[.val (.ref o), .val (.int r), .val (.int (Int32.ofNat i)), q] [])) _
  refine XS.iloadN X0.here hx rfl (hb hby d12_4) rfl ?_
  refine XS.aloadN X0.here hx rfl (hb hby d12_5) rfl rfl ?_
  show Steps p.tables e below (T0.setTop (mkF m 6 #[.val (.ref o), .val (.int r), .val (.int (Int32.ofNat i)), q] [(.ref o), (.int (Int32.ofNat i))])) _
  refine st91.trans ?_
  refine XS.icmpYes X91.here hx rfl (pc0 := 9) (pc' := 113) rfl (hb hby d12_9) rfl (flt (fun q => hi ((ltN (by omega) (by omega)).mp q))).2.1 (by decide) (by decide) ?_
  exact kt
set_option maxRecDepth 65536 in
set_option maxHeartbeats 40000000 in
theorem lpU {p : Program} {l : Launch} {e : Env} {s : State} {m : MethodId} {args : Array Value} {below : List Frame} {meth : Method} {c : Code} {Z : State} {a0 : Array Value} {h0 : Heap} {n0 : Nat} (o : Addr) (n : Nat) (g : Nat → Int32) (hx : p.tables.exec = Jvm.exec) (hZ : Z.Warmed39 s.vm) (hw : ∀ d ∈ tables_1, d.before a0 Z = true) (hby : c.code = prog_8_method_7_code) (hml : c.maxLocals = 4) (hown : s.vm.findClass "com/example/orderly_latch/orderlylatch/name/LatchName" = some m.cls) (Z0 : n0 ≤ h0.size) (hn : n ≤ 200) (O : Old Z n0 h0) (SK : StrSta Z) (SS : Str Z h0 o n g) (hnn : ∀ j, j < n → ¬ (wS g n j < 0)) :
    ∀ (k i : Nat) (q : Slot) (T0 : State) (locs : List Loc), (q = .unset ∨ ∃ x : Int32, q = .val (.int x)) → i ≤ n → n - i ≤ k → (i = 0 ∨ ¬ HI (g (i - 1))) → Stand p l e ({ frames := 5, cells := 0, slots := 0, locals := 80 } : Room) s m args below meth c T0 locs 0 0 → T0.heap = h0 → Fr n0 locs →
    ∃ (T' : State) (locs' : List Loc) (q' : Slot), Stand p l e ({ frames := 5, cells := 0, slots := 0, locals := 80 } : Room) s m args below meth c T' locs' 0 0 ∧ T'.heap = h0 ∧ Fr n0 locs' ∧ ∀ target, Steps p.tables e below (T'.setTop (mkF m 113 #[.val (.ref o), .val (.int (sumW g n n)), .val (.int (Int32.ofNat n)), q'] [])) target → Steps p.tables e below (T0.setTop (mkF m 4 #[.val (.ref o), .val (.int (sumW g n i)), .val (.int (Int32.ofNat i)), q] [])) target := by
  intro k
  induction k with
  | zero =>
    intro i q T0 locs hq hi0 hk inv X0 e0 N0
    obtain ⟨T1, locs1, X1, e1, N1, st1⟩ := tnE o i n g (sumW g n i) q hq X0 hx hZ hw hby hml hown e0 Z0 N0 hn (by omega) (by omega) O SK SS
    obtain rfl : i = n := by omega
    exact ⟨T1, locs1, q, X1, e1, N1, st1⟩
  | succ k ih =>
    intro i q T0 locs hq hi0 hk inv X0 e0 N0
    by_cases hi : i < n
    · rcases meet hnn hi inv with ⟨h1, h2, h3⟩ | ⟨h1, h2, h3, h4⟩ | ⟨h1, h2, h3, h4, h5, h6, h7, h8⟩ | ⟨h1, h2, h3, h4, h5⟩
      · obtain ⟨T1, locs1, X1, e1, N1, st1⟩ := tnA o i n g (sumW g n i) q hq X0 hx hZ hw hby hml hown e0 Z0 N0 hn hi  O SK SS h1
        obtain ⟨T2, locs2, q2, X2, e2, N2, st2⟩ := ih (i + 1) _ T1 locs1 (Or.inr ⟨_, rfl⟩) (by omega) (by omega) (Or.inr h3) X1 e1 N1
        refine ⟨T2, locs2, q2, X2, e2, N2, fun target kt => st1 target ?_⟩
        have e := st2 target kt
        rw [show sumW g n (i + 1) = sumW g n i + 1 from by rw [sumW, h2]] at e
        exact e
      · obtain ⟨T1, locs1, X1, e1, N1, st1⟩ := tnB o i n g (sumW g n i) q hq X0 hx hZ hw hby hml hown e0 Z0 N0 hn hi  O SK SS h1 h2
        obtain ⟨T2, locs2, q2, X2, e2, N2, st2⟩ := ih (i + 1) _ T1 locs1 (Or.inr ⟨_, rfl⟩) (by omega) (by omega) (Or.inr h4) X1 e1 N1
        refine ⟨T2, locs2, q2, X2, e2, N2, fun target kt => st1 target ?_⟩
        have e := st2 target kt
        rw [show sumW g n (i + 1) = sumW g n i + 2 from by rw [sumW, h3]] at e
        exact e
      · obtain ⟨T1, locs1, X1, e1, N1, st1⟩ := tnC o i n g (sumW g n i) q hq X0 hx hZ hw hby hml hown e0 Z0 N0 hn hi h4 O SK SS h1 h2 (by rw [ihs1 h3]; decide) (by rw [ils1 h5]; decide)
        obtain ⟨T2, locs2, q2, X2, e2, N2, st2⟩ := ih (i + 1 + 1) _ T1 locs1 (Or.inr ⟨_, rfl⟩) (by omega) (by omega) (Or.inr h8) X1 e1 N1
        refine ⟨T2, locs2, q2, X2, e2, N2, fun target kt => st1 target ?_⟩
        have e := st2 target kt
        rw [show sumW g n (i + 1 + 1) = sumW g n i + 4 from by rw [sumW, sumW, h6, h7, Int32.add_assoc]; rfl] at e
        exact e
      · obtain ⟨T1, locs1, X1, e1, N1, st1⟩ := tnD o i n g (sumW g n i) q hq X0 hx hZ hw hby hml hown e0 Z0 N0 hn hi  O SK SS h1 h2 (ihs0 h3) (isu0 h3 h4)
        obtain ⟨T2, locs2, q2, X2, e2, N2, st2⟩ := ih (i + 1) _ T1 locs1 (Or.inr ⟨_, rfl⟩) (by omega) (by omega) (Or.inr h3) X1 e1 N1
        refine ⟨T2, locs2, q2, X2, e2, N2, fun target kt => st1 target ?_⟩
        have e := st2 target kt
        rw [show sumW g n (i + 1) = sumW g n i + 3 from by rw [sumW, h5]] at e
        exact e
    · obtain ⟨T1, locs1, X1, e1, N1, st1⟩ := tnE o i n g (sumW g n i) q hq X0 hx hZ hw hby hml hown e0 Z0 N0 hn (by omega) (by omega) O SK SS
      obtain rfl : i = n := by omega
      exact ⟨T1, locs1, q, X1, e1, N1, st1⟩
set_option maxRecDepth 65536 in
set_option maxHeartbeats 40000000 in
theorem rmU8 (l : Launch) (Z : State) (a0 : Array Value) (hw : ∀ d ∈ tables_1, d.before a0 Z = true) (ws : List Jvm.Cond) (o : Addr) (n : Nat) (g : Nat → Int32)  (h0 : Heap) (n0 : Nat) (Z0 : n0 ≤ h0.size) (hn : n ≤ 200) (O : Old Z n0 h0) (SK : StrSta Z) (SS : Str Z h0 o n g) (hnn : ∀ j, j < n → ¬ (wS g n j < 0))  :
    MetFree l (⟨"com/example/orderly_latch/orderlylatch/name/LatchName", "utf8Length", "(Ljava/lang/String;)I"⟩ : MethodName) (head1 (Jvm.Cond.code (⟨"com/example/orderly_latch/orderlylatch/name/LatchName", "utf8Length", "(Ljava/lang/String;)I"⟩ : MethodName) prog_8_method_7_code 4 (some .int) :: ws) ({ frames := 5, cells := 0, slots := 0, locals := 80 } : Room)) (fun aa_ U_ => aa_ = #[(.ref o)] ∧ Z.Warmed39 U_.vm ∧ U_.heap = h0) (fun _ _ _ _ _ => True) (fun _ U_ o_ V_ => ∃ v_ L_, o_ = .returned v_ ∧ QI (sumW g n n) h0 n0 v_ V_.heap L_ ∧ FrameEnd U_ o_ V_ L_ ({ frames := 5, cells := 0, slots := 0, locals := 80 } : Room).cells ({ frames := 5, cells := 0, slots := 0, locals := 80 } : Room).slots) := by
  refine MetFree.of_bodySF (plainFor_of_name pn_12) hisR ?_
  intro p e s m args below meth c s₁ Bd hml0 hP hK
  obtain ⟨rfl, hZ, hh⟩ := hP
  have hx := Bd.exec
  have hby := Bd.bytes
  have hml : c.maxLocals = 4 := hml0
  have hown : s.vm.findClass "com/example/orderly_latch/orderlylatch/name/LatchName" = some m.cls := findClass_of_methodNamed Bd.named
  have hnm := (name_of_methodNamed Bd.named Bd.method).1
  have X0 : Stand p l e ({ frames := 5, cells := 0, slots := 0, locals := 80 } : Room) s m #[(.ref o)] below meth c s₁ [] 0 0 := Stand.of_body Bd
  have e0 : s₁.heap = h0 := by rw [← hh, Bd.state]; rfl
  have N0 := Fr.nil n0
  have pre0 : ∀ zz, Steps p.tables e below (s₁.setTop (mkF m 0 #[.val (.ref o), .unset, .unset, .unset] [])) zz → Steps p.tables e below (s₁.setTop (entryFrame m #[(.ref o)] 4)) zz := fun zz k => castTop (ef_12 m o) k
  obtain ⟨T92, L92, q92, X92, e92, N92, st92⟩ := lpU o n g hx hZ hw hby hml hown Z0 hn O SK SS hnn n 0 .unset _ _ (Or.inl rfl) (by omega) (by omega) (Or.inl rfl) X0 e0 N0
  obtain ⟨fs, hr, hrun, hended, hW, hsame⟩ := X92.leave (v := some (.int (sumW g n n))) (fun h => by rw [Bd.returns] at h; cases h)
  refine ⟨_, _, pre0 _ ?_, hrun, hended, _, _, rfl, ?_, ⟨_, rfl⟩, hW, hsame.mono (by decide) (by decide)⟩
  · show Steps p.tables e below (s₁.setTop (mkF m 0 #[.val (.ref o), .unset, .unset, .unset] [])) _
    refine XS.iconst X0.here hx rfl (hb hby d12_0) ?_
    refine XS.istoreN X0.here hx rfl (hb hby d12_1) rfl (l' := #[.val (.ref o), .val (.int (0 : Int32)), .unset, .unset]) rfl ?_
    refine XS.iconst X0.here hx rfl (hb hby d12_2) ?_
    refine XS.istoreN X0.here hx rfl (hb hby d12_3) rfl (l' := #[.val (.ref o), .val (.int (0 : Int32)), .val (.int (0 : Int32)), .unset]) rfl ?_
    show Steps p.tables e below (s₁.setTop (mkF m 4 #[.val (.ref o), .val (.int (sumW g n 0)), .val (.int (Int32.ofNat 0)), .unset] [])) _
    refine st92 _ ?_
    refine XS.iloadN X92.here hx rfl (hb hby d12_113) rfl ?_
    show Steps p.tables e below (T92.setTop (mkF m 114 #[.val (.ref o), .val (.int (sumW g n n)), .val (.int (Int32.ofNat n)), q92] [(.int (sumW g n n))])) _
    exact retI X92 hx Bd.returns (hb hby d12_114) hr
  · show QI (sumW g n n) h0 n0 _ T92.heap _
    rw [e92]
    exact ⟨rfl, N92, rfl⟩
def QRf (r : Addr) (h0 : Heap) (n0 : Nat) (v : Option Value) (h : Heap) (L : List Loc) : Prop := v = some (.ref r) ∧ Fr n0 L ∧ h = h0
theorem d10_0 : decode jdk_31_method_11_code 0 = .ok (.aload_n 0, 1) := by decide +kernel
theorem d10_1 : decode jdk_31_method_11_code 1 = .ok (.ifnonnull 12, 3) := by decide +kernel
theorem d10_4 : decode jdk_31_method_11_code 4 = .ok (.new 84, 3) := by decide +kernel
theorem d10_7 : decode jdk_31_method_11_code 7 = .ok (.dup, 1) := by decide +kernel
theorem d10_8 : decode jdk_31_method_11_code 8 = .ok (.aload_n 1, 1) := by decide +kernel
theorem d10_9 : decode jdk_31_method_11_code 9 = .ok (.invokespecial 87, 3) := by decide +kernel
theorem d10_12 : decode jdk_31_method_11_code 12 = .ok (.athrow, 1) := by decide +kernel
theorem d10_13 : decode jdk_31_method_11_code 13 = .ok (.aload_n 0, 1) := by decide +kernel
theorem d10_14 : decode jdk_31_method_11_code 14 = .ok (.areturn, 1) := by decide +kernel
theorem pn_10 : plainName "java/util/Objects" = true := by first | (simp [plainName, overriddenIn]; done) | decide +kernel
theorem ef_10 (m : MethodId) (x0 : Addr) (x1 : Addr) : entryFrame m #[(.ref x0), (.ref x1)] 2 = mkF m 0 #[.val (.ref x0), .val (.ref x1)] [] := by first | (simp [entryFrame, mkF, argsToLocals, Value.category]; done) | rfl
set_option maxRecDepth 65536 in
set_option maxHeartbeats 40000000 in
theorem rmRNN (l : Launch) (Z : State) (a0 : Array Value) (hw : ∀ d ∈ tables_1, d.before a0 Z = true) (ws : List Jvm.Cond) (o : Addr) (u : Addr)  (h0 : Heap) (n0 : Nat) (Z0 : n0 ≤ h0.size)   :
    MetFree l (⟨"java/util/Objects", "requireNonNull", "(Ljava/lang/Object;Ljava/lang/String;)Ljava/lang/Object;"⟩ : MethodName) (head1 (Jvm.Cond.code (⟨"java/util/Objects", "requireNonNull", "(Ljava/lang/Object;Ljava/lang/String;)Ljava/lang/Object;"⟩ : MethodName) jdk_31_method_11_code 2 (some (.object "java/lang/Object")) :: ws) ({ frames := 0, cells := 0, slots := 0, locals := 0 } : Room)) (fun aa_ U_ => aa_ = #[(.ref o), (.ref u)] ∧ Z.Warmed39 U_.vm ∧ U_.heap = h0) (fun _ _ _ _ _ => True) (fun _ U_ o_ V_ => ∃ v_ L_, o_ = .returned v_ ∧ QRf o h0 n0 v_ V_.heap L_ ∧ FrameEnd U_ o_ V_ L_ ({ frames := 0, cells := 0, slots := 0, locals := 0 } : Room).cells ({ frames := 0, cells := 0, slots := 0, locals := 0 } : Room).slots) := by
  refine MetFree.of_bodySF (plainFor_of_name pn_10) hisR ?_
  intro p e s m args below meth c s₁ Bd hml0 hP hK
  obtain ⟨rfl, hZ, hh⟩ := hP
  have hx := Bd.exec
  have hby := Bd.bytes
  have hml : c.maxLocals = 2 := hml0
  have hown : s.vm.findClass "java/util/Objects" = some m.cls := findClass_of_methodNamed Bd.named
  have hnm := (name_of_methodNamed Bd.named Bd.method).1
  have X0 : Stand p l e ({ frames := 0, cells := 0, slots := 0, locals := 0 } : Room) s m #[(.ref o), (.ref u)] below meth c s₁ [] 0 0 := Stand.of_body Bd
  have e0 : s₁.heap = h0 := by rw [← hh, Bd.state]; rfl
  have N0 := Fr.nil n0
  have pre0 : ∀ zz, Steps p.tables e below (s₁.setTop (mkF m 0 #[.val (.ref o), .val (.ref u)] [])) zz → Steps p.tables e below (s₁.setTop (entryFrame m #[(.ref o), (.ref u)] 2)) zz := fun zz k => castTop (ef_10 m o u) k
  obtain ⟨fs, hr, hrun, hended, hW, hsame⟩ := X0.leave (v := some (.ref o)) (fun h => by rw [Bd.returns] at h; cases h)
  refine ⟨_, _, pre0 _ ?_, hrun, hended, _, _, rfl, ?_, ⟨_, rfl⟩, hW, hsame.mono (by decide) (by decide)⟩
  · show Steps p.tables e below (s₁.setTop (mkF m 0 #[.val (.ref o), .val (.ref u)] [])) _
    refine XS.aloadN X0.here hx rfl (hb hby d10_0) rfl rfl ?_
    refine XS.ifnonnullYes X0.here hx rfl (pc0 := 1) (pc' := 13) rfl (hb hby d10_1) rfl (by decide) (by decide) ?_
    refine XS.aloadN X0.here hx rfl (hb hby d10_13) rfl rfl ?_
    show Steps p.tables e below (s₁.setTop (mkF m 14 #[.val (.ref o), .val (.ref u)] [(.ref o)])) _
    jvm_step X0.here [X0.here.top, hx, (hb hby d10_14), X0.method', Bd.returns, Value.isRef, FieldType.isReference]
    first | (intro acts; rw [hr _ acts rfl rfl rfl]) | rw [hr _ _ rfl rfl rfl]
    exact Steps.refl _
  · show QRf o h0 n0 _ s₁.heap _
    rw [e0]
    exact ⟨rfl, N0, rfl⟩
def QLN (Z : State) (b o : Addr) (h0 : Heap) (n0 : Nat) (v : Option Value) (h : Heap) (L : List Loc) : Prop := v = none ∧ Fr n0 L ∧ Keep h0 h [b] ∧ Exa Z h b "com/example/orderly_latch/orderlylatch/name/LatchName" ∧ Fld Z h b "com/example/orderly_latch/orderlylatch/name/LatchName" "value" "Ljava/lang/String;" (.ref o)
theorem d20_0 : decode prog_8_method_1_code 0 = .ok (.aload_n 0, 1) := by decide +kernel
theorem d20_1 : decode prog_8_method_1_code 1 = .ok (.invokespecial 1, 3) := by decide +kernel
theorem d20_4 : decode prog_8_method_1_code 4 = .ok (.aload_n 0, 1) := by decide +kernel
theorem d20_5 : decode prog_8_method_1_code 5 = .ok (.aload_n 1, 1) := by decide +kernel
theorem d20_6 : decode prog_8_method_1_code 6 = .ok (.putfield 7, 3) := by decide +kernel
theorem d20_9 : decode prog_8_method_1_code 9 = .ok (.return_, 1) := by decide +kernel
theorem pn_20 : plainName "com/example/orderly_latch/orderlylatch/name/LatchName" = true := by first | (simp [plainName, overriddenIn]; done) | decide +kernel
theorem ef_20 (m : MethodId) (x0 : Addr) (x1 : Addr) : entryFrame m #[(.ref x0), (.ref x1)] 2 = mkF m 0 #[.val (.ref x0), .val (.ref x1)] [] := by first | (simp [entryFrame, mkF, argsToLocals, Value.category]; done) | rfl
set_option maxRecDepth 65536 in
set_option maxHeartbeats 40000000 in
theorem rmLNI (l : Launch) (Z : State) (a0 : Array Value) (hw : ∀ d ∈ tables_1, d.before a0 Z = true) (ws : List Jvm.Cond) (b : Addr) (o : Addr)  (h0 : Heap) (n0 : Nat) (Z0 : n0 ≤ h0.size) (g_b : n0 ≤ b) (EB : Exa Z h0 b "com/example/orderly_latch/orderlylatch/name/LatchName") (FV : Fld Z h0 b "com/example/orderly_latch/orderlylatch/name/LatchName" "value" "Ljava/lang/String;" .null)  :
    MetFree l (⟨"com/example/orderly_latch/orderlylatch/name/LatchName", "<init>", "(Ljava/lang/String;)V"⟩ : MethodName) (head1 (Jvm.Cond.code (⟨"com/example/orderly_latch/orderlylatch/name/LatchName", "<init>", "(Ljava/lang/String;)V"⟩ : MethodName) prog_8_method_1_code 2 none :: ws) ({ frames := 1, cells := 0, slots := 0, locals := 13 } : Room)) (fun aa_ U_ => aa_ = #[(.ref b), (.ref o)] ∧ Z.Warmed39 U_.vm ∧ U_.heap = h0) (fun _ _ _ _ _ => True) (fun _ U_ o_ V_ => ∃ v_ L_, o_ = .returned v_ ∧ QLN Z b o h0 n0 v_ V_.heap L_ ∧ FrameEnd U_ o_ V_ L_ ({ frames := 1, cells := 0, slots := 0, locals := 13 } : Room).cells ({ frames := 1, cells := 0, slots := 0, locals := 13 } : Room).slots) := by
  refine MetFree.of_bodySF (plainFor_of_name pn_20) hisR ?_
  intro p e s m args below meth c s₁ Bd hml0 hP hK
  obtain ⟨rfl, hZ, hh⟩ := hP
  have hx := Bd.exec
  have hby := Bd.bytes
  have hml : c.maxLocals = 2 := hml0
  have hown : s.vm.findClass "com/example/orderly_latch/orderlylatch/name/LatchName" = some m.cls := findClass_of_methodNamed Bd.named
  have hnm := (name_of_methodNamed Bd.named Bd.method).1
  have X0 : Stand p l e ({ frames := 1, cells := 0, slots := 0, locals := 13 } : Room) s m #[(.ref b), (.ref o)] below meth c s₁ [] 0 0 := Stand.of_body Bd
  have e0 : s₁.heap = h0 := by rw [← hh, Bd.state]; rfl
  have N0 := Fr.nil n0
  have pre0 : ∀ zz, Steps p.tables e below (s₁.setTop (mkF m 0 #[.val (.ref b), .val (.ref o)] [])) zz → Steps p.tables e below (s₁.setTop (entryFrame m #[(.ref b), (.ref o)] 2)) zz := fun zz k => castTop (ef_20 m b o) k
  obtain ⟨T93, X93, e93, st93⟩ := initO X0 hx hZ hown (hw _ (List.mem_of_getElem? (i := 94) rfl)) (hw _ (List.mem_of_getElem? (i := 20) rfl)) (hw _ (List.mem_of_getElem? (i := 21) rfl)) e0 (g := (mkF m 1 #[.val (.ref b), .val (.ref o)] [(.ref b)])) rfl (by rw [hml]; rfl) rfl (hb hby d20_1) (by decide) (W := 0) (by show 2 * 0 + _ ≤ _; exact Nat.le_of_eq rfl) (by decide)
  obtain ⟨T94, h94, X94, e94, W94, st94⟩ := putF X93 hx hZ hown (host := "") (Or.inl (hw _ (List.mem_of_getElem? (i := 95) rfl))) Via.refl e93 FV EB (Or.inr ⟨(hw _ (List.mem_of_getElem? (i := 96) rfl)), rfl, hnm⟩) (hw _ (List.mem_of_getElem? (i := 90) rfl)) (ty := (.object "java/lang/String")) (by decide) rfl rfl (g := (mkF m 6 #[.val (.ref b), .val (.ref o)] [(.ref o), (.ref b)])) rfl rfl (hb hby d20_6)
  have Fw94 := FV.same W94
  have EB_e94 := EB.wr W94
  have N94 := Fr.snoc X94 N0 g_b
  have K94 := (Keep.refl h0 [b]).wr W94 (Or.inl (List.mem_of_getElem? (i := 0) rfl))
  have Z94 : n0 ≤ h94.size := Nat.le_trans Z0 (Keep.of_wr W94).1
  obtain ⟨fs, hr, hrun, hended, hW, hsame⟩ := X94.leave (v := none) (fun _ => rfl)
  refine ⟨_, _, pre0 _ ?_, hrun, hended, _, _, rfl, ?_, ⟨_, rfl⟩, hW, hsame.mono (by decide) (by decide)⟩
  · show Steps p.tables e below (s₁.setTop (mkF m 0 #[.val (.ref b), .val (.ref o)] [])) _
    refine XS.aloadN X0.here hx rfl (hb hby d20_0) rfl rfl ?_
    show Steps p.tables e below (s₁.setTop (mkF m 1 #[.val (.ref b), .val (.ref o)] [(.ref b)])) _
    refine st93 _ ?_
    refine XS.aloadN X93.here hx rfl (hb hby d20_4) rfl rfl ?_
    refine XS.aloadN X93.here hx rfl (hb hby d20_5) rfl rfl ?_
    show Steps p.tables e below (T93.setTop (mkF m 6 #[.val (.ref b), .val (.ref o)] [(.ref o), (.ref b)])) _
    refine st94 _ ?_
    show Steps p.tables e below (T94.setTop (mkF m 9 #[.val (.ref b), .val (.ref o)] [])) _
    exact X94.returnOut hx Bd.returns (hb hby d20_9) hr
  · show QLN Z b o h0 n0 _ T94.heap _
    rw [e94]
    exact ⟨rfl, N94, K94, EB_e94, Fw94⟩
theorem d21_0 : decode prog_8_method_3_code 0 = .ok (.aload_n 0, 1) := by decide +kernel
theorem d21_1 : decode prog_8_method_3_code 1 = .ok (.getfield 7, 3) := by decide +kernel
theorem d21_4 : decode prog_8_method_3_code 4 = .ok (.areturn, 1) := by decide +kernel
theorem pn_21 : plainName "com/example/orderly_latch/orderlylatch/name/LatchName" = true := by first | (simp [plainName, overriddenIn]; done) | decide +kernel
theorem ef_21 (m : MethodId) (x0 : Addr) : entryFrame m #[(.ref x0)] 1 = mkF m 0 #[.val (.ref x0)] [] := by first | (simp [entryFrame, mkF, argsToLocals, Value.category]; done) | rfl
set_option maxRecDepth 65536 in
set_option maxHeartbeats 40000000 in
theorem rmVAL (l : Launch) (Z : State) (a0 : Array Value) (hw : ∀ d ∈ tables_1, d.before a0 Z = true) (ws : List Jvm.Cond) (b : Addr) (o : Addr) (h0 : Heap) (n0 : Nat) (Z0 : n0 ≤ h0.size) (EB : Exa Z h0 b "com/example/orderly_latch/orderlylatch/name/LatchName") (FV : Fld Z h0 b "com/example/orderly_latch/orderlylatch/name/LatchName" "value" "Ljava/lang/String;" (.ref o))  :
    MetFree l (⟨"com/example/orderly_latch/orderlylatch/name/LatchName", "value", "()Ljava/lang/String;"⟩ : MethodName) (head1 (Jvm.Cond.code (⟨"com/example/orderly_latch/orderlylatch/name/LatchName", "value", "()Ljava/lang/String;"⟩ : MethodName) prog_8_method_3_code 1 (some (.object "java/lang/String")) :: ws) ({ frames := 0, cells := 0, slots := 0, locals := 0 } : Room)) (fun aa_ U_ => aa_ = #[(.ref b)] ∧ Z.Warmed39 U_.vm ∧ U_.heap = h0) (fun _ _ _ _ _ => True) (fun _ U_ o_ V_ => ∃ v_ L_, o_ = .returned v_ ∧ QRf o h0 n0 v_ V_.heap L_ ∧ FrameEnd U_ o_ V_ L_ ({ frames := 0, cells := 0, slots := 0, locals := 0 } : Room).cells ({ frames := 0, cells := 0, slots := 0, locals := 0 } : Room).slots) := by
  refine MetFree.of_bodySF (plainFor_of_name pn_21) hisR ?_
  intro p e s m args below meth c s₁ Bd hml0 hP hK
  obtain ⟨rfl, hZ, hh⟩ := hP
  have hx := Bd.exec
  have hby := Bd.bytes
  have hml : c.maxLocals = 1 := hml0
  have hown : s.vm.findClass "com/example/orderly_latch/orderlylatch/name/LatchName" = some m.cls := findClass_of_methodNamed Bd.named
  have hnm := (name_of_methodNamed Bd.named Bd.method).1
  have X0 : Stand p l e ({ frames := 0, cells := 0, slots := 0, locals := 0 } : Room) s m #[(.ref b)] below meth c s₁ [] 0 0 := Stand.of_body Bd
  have e0 : s₁.heap = h0 := by rw [← hh, Bd.state]; rfl
  have N0 := Fr.nil n0
  have pre0 : ∀ zz, Steps p.tables e below (s₁.setTop (mkF m 0 #[.val (.ref b)] [])) zz → Steps p.tables e below (s₁.setTop (entryFrame m #[(.ref b)] 1)) zz := fun zz k => castTop (ef_21 m b) k
  obtain ⟨T95, X95, e95, st95⟩ := getF X0 hx hZ hown (host := "") (Or.inl (hw _ (List.mem_of_getElem? (i := 95) rfl))) Via.refl e0 FV (g := (mkF m 1 #[.val (.ref b)] [(.ref b)])) rfl rfl (hb hby d21_1)
  obtain ⟨fs, hr, hrun, hended, hW, hsame⟩ := X95.leave (v := some (.ref o)) (fun h => by rw [Bd.returns] at h; cases h)
  refine ⟨_, _, pre0 _ ?_, hrun, hended, _, _, rfl, ?_, ⟨_, rfl⟩, hW, hsame.mono (by decide) (by decide)⟩
  · show Steps p.tables e below (s₁.setTop (mkF m 0 #[.val (.ref b)] [])) _
    refine XS.aloadN X0.here hx rfl (hb hby d21_0) rfl rfl ?_
    show Steps p.tables e below (s₁.setTop (mkF m 1 #[.val (.ref b)] [(.ref b)])) _
    refine st95 _ ?_
    show Steps p.tables e below (T95.setTop (mkF m 4 #[.val (.ref b)] [(.ref o)])) _
    jvm_step X95.here [X95.here.top, hx, (hb hby d21_4), X95.method', Bd.returns, Value.isRef, FieldType.isReference]
    first | (intro acts; rw [hr _ acts rfl rfl rfl]) | rw [hr _ _ rfl rfl rfl]
    exact Steps.refl _
  · show QRf o h0 n0 _ T95.heap _
    rw [e95]
    exact ⟨rfl, N0, rfl⟩
theorem d22_0 : decode jdk_42_method_66_code 0 = .ok (.aload_n 0, 1) := by decide +kernel
theorem d22_1 : decode jdk_42_method_66_code 1 = .ok (.aload_n 1, 1) := by decide +kernel
theorem d22_2 : decode jdk_42_method_66_code 2 = .ok (.if_acmp .ne 5, 3) := by decide +kernel
theorem d22_5 : decode jdk_42_method_66_code 5 = .ok (.iconst 1, 1) := by decide +kernel
theorem d22_6 : decode jdk_42_method_66_code 6 = .ok (.ireturn, 1) := by decide +kernel
theorem d22_7 : decode jdk_42_method_66_code 7 = .ok (.aload_n 1, 1) := by decide +kernel
theorem d22_8 : decode jdk_42_method_66_code 8 = .ok (.instanceof 10, 3) := by decide +kernel
theorem d22_11 : decode jdk_42_method_66_code 11 = .ok (.ifCond .eq 43, 3) := by decide +kernel
theorem d22_14 : decode jdk_42_method_66_code 14 = .ok (.aload_n 1, 1) := by decide +kernel
theorem d22_15 : decode jdk_42_method_66_code 15 = .ok (.checkcast 10, 3) := by decide +kernel
theorem d22_18 : decode jdk_42_method_66_code 18 = .ok (.astore_n 2, 1) := by decide +kernel
theorem d22_19 : decode jdk_42_method_66_code 19 = .ok (.getstatic 38, 3) := by decide +kernel
theorem d22_22 : decode jdk_42_method_66_code 22 = .ok (.ifCond .eq 14, 3) := by decide +kernel
theorem d22_25 : decode jdk_42_method_66_code 25 = .ok (.aload_n 0, 1) := by decide +kernel
theorem d22_26 : decode jdk_42_method_66_code 26 = .ok (.getfield 15, 3) := by decide +kernel
theorem d22_29 : decode jdk_42_method_66_code 29 = .ok (.aload_n 2, 1) := by decide +kernel
theorem d22_30 : decode jdk_42_method_66_code 30 = .ok (.getfield 15, 3) := by decide +kernel
theorem d22_33 : decode jdk_42_method_66_code 33 = .ok (.if_icmp .ne 21, 3) := by decide +kernel
theorem d22_36 : decode jdk_42_method_66_code 36 = .ok (.aload_n 0, 1) := by decide +kernel
theorem d22_37 : decode jdk_42_method_66_code 37 = .ok (.getfield 9, 3) := by decide +kernel
theorem d22_40 : decode jdk_42_method_66_code 40 = .ok (.aload_n 2, 1) := by decide +kernel
theorem d22_41 : decode jdk_42_method_66_code 41 = .ok (.getfield 9, 3) := by decide +kernel
theorem d22_44 : decode jdk_42_method_66_code 44 = .ok (.invokestatic 541, 3) := by decide +kernel
theorem d22_47 : decode jdk_42_method_66_code 47 = .ok (.ifCond .eq 7, 3) := by decide +kernel
theorem d22_50 : decode jdk_42_method_66_code 50 = .ok (.iconst 1, 1) := by decide +kernel
theorem d22_51 : decode jdk_42_method_66_code 51 = .ok (.goto 4, 3) := by decide +kernel
theorem d22_54 : decode jdk_42_method_66_code 54 = .ok (.iconst 0, 1) := by decide +kernel
theorem d22_55 : decode jdk_42_method_66_code 55 = .ok (.ireturn, 1) := by decide +kernel
theorem pn_22 : plainName "java/lang/String" = true := by first | (simp [plainName, overriddenIn]; done) | decide +kernel
theorem ef_22 (m : MethodId) (x0 : Addr) (x1 : Addr) : entryFrame m #[(.ref x0), (.ref x1)] 3 = mkF m 0 #[.val (.ref x0), .val (.ref x1), .unset] [] := by first | (simp [entryFrame, mkF, argsToLocals, Value.category]; done) | rfl
set_option maxRecDepth 65536 in
set_option maxHeartbeats 40000000 in
theorem rmEQ (l : Launch) (Z : State) (a0 : Array Value) (hw : ∀ d ∈ tables_1, d.before a0 Z = true) (ws : List Jvm.Cond) (o : Addr)  (h0 : Heap) (n0 : Nat) (Z0 : n0 ≤ h0.size)   :
    MetFree l (⟨"java/lang/String", "equals", "(Ljava/lang/Object;)Z"⟩ : MethodName) (head1 (Jvm.Cond.code (⟨"java/lang/String", "equals", "(Ljava/lang/Object;)Z"⟩ : MethodName) jdk_42_method_66_code 3 (some .boolean) :: ws) ({ frames := 0, cells := 0, slots := 0, locals := 0 } : Room)) (fun aa_ U_ => aa_ = #[(.ref o), (.ref o)] ∧ Z.Warmed39 U_.vm ∧ U_.heap = h0) (fun _ _ _ _ _ => True) (fun _ U_ o_ V_ => ∃ v_ L_, o_ = .returned v_ ∧ QI (1 : Int32) h0 n0 v_ V_.heap L_ ∧ FrameEnd U_ o_ V_ L_ ({ frames := 0, cells := 0, slots := 0, locals := 0 } : Room).cells ({ frames := 0, cells := 0, slots := 0, locals := 0 } : Room).slots) := by
  refine MetFree.of_bodySF (plainFor_of_name pn_22) hisR ?_
  intro p e s m args below meth c s₁ Bd hml0 hP hK
  obtain ⟨rfl, hZ, hh⟩ := hP
  have hx := Bd.exec
  have hby := Bd.bytes
  have hml : c.maxLocals = 3 := hml0
  have hown : s.vm.findClass "java/lang/String" = some m.cls := findClass_of_methodNamed Bd.named
  have hnm := (name_of_methodNamed Bd.named Bd.method).1
  have X0 : Stand p l e ({ frames := 0, cells := 0, slots := 0, locals := 0 } : Room) s m #[(.ref o), (.ref o)] below meth c s₁ [] 0 0 := Stand.of_body Bd
  have e0 : s₁.heap = h0 := by rw [← hh, Bd.state]; rfl
  have N0 := Fr.nil n0
  have pre0 : ∀ zz, Steps p.tables e below (s₁.setTop (mkF m 0 #[.val (.ref o), .val (.ref o), .unset] [])) zz → Steps p.tables e below (s₁.setTop (entryFrame m #[(.ref o), (.ref o)] 3)) zz := fun zz k => castTop (ef_22 m o o) k
  obtain ⟨fs, hr, hrun, hended, hW, hsame⟩ := X0.leave (v := some (.int (1 : Int32))) (fun h => by rw [Bd.returns] at h; cases h)
  refine ⟨_, _, pre0 _ ?_, hrun, hended, _, _, rfl, ?_, ⟨_, rfl⟩, hW, hsame.mono (by decide) (by decide)⟩
  · show Steps p.tables e below (s₁.setTop (mkF m 0 #[.val (.ref o), .val (.ref o), .unset] [])) _
    refine XS.aloadN X0.here hx rfl (hb hby d22_0) rfl rfl ?_
    refine XS.aloadN X0.here hx rfl (hb hby d22_1) rfl rfl ?_
    refine Jvm.RoadKit.acmp (g := (mkF m 2 #[.val (.ref o), .val (.ref o), .unset] [(.ref o), (.ref o)])) X0 hx rfl rfl rfl (pc0 := 2) (pc' := 5) (same := true) rfl (hb hby d22_2) rfl (decide_eq_true rfl) (by decide) (by decide) ?_
    refine XS.iconst X0.here hx rfl (hb hby d22_5) ?_
    show Steps p.tables e below (s₁.setTop (mkF m 6 #[.val (.ref o), .val (.ref o), .unset] [(.int (1 : Int32))])) _
    exact retN X0 hx (t := .boolean) Bd.returns (by simp) (hb hby d22_6) hr
  · show QI (1 : Int32) h0 n0 _ s₁.heap _
    rw [e0]
    exact ⟨rfl, N0, rfl⟩
def QOF (Z : State) (o : Addr) (h0 : Heap) (n0 : Nat) (v : Option Value) (h : Heap) (L : List Loc) : Prop := ∃ b : Addr, v = some (.ref b) ∧ Fr n0 L ∧ Keep h0 h [] ∧ Exa Z h b "com/example/orderly_latch/orderlylatch/name/LatchName" ∧ Fld Z h b "com/example/orderly_latch/orderlylatch/name/LatchName" "value" "Ljava/lang/String;" (.ref o)
theorem d9_0 : decode prog_8_method_2_code 0 = .ok (.aload_n 0, 1) := by decide +kernel
theorem d9_1 : decode prog_8_method_2_code 1 = .ok (.ldc 13, 2) := by decide +kernel
theorem d9_3 : decode prog_8_method_2_code 3 = .ok (.invokestatic 15, 3) := by decide +kernel
theorem d9_6 : decode prog_8_method_2_code 6 = .ok (.pop, 1) := by decide +kernel
theorem d9_7 : decode prog_8_method_2_code 7 = .ok (.aload_n 0, 1) := by decide +kernel
theorem d9_8 : decode prog_8_method_2_code 8 = .ok (.invokevirtual 21, 3) := by decide +kernel
theorem d9_11 : decode prog_8_method_2_code 11 = .ok (.ifCond .eq 13, 3) := by decide +kernel
theorem d9_14 : decode prog_8_method_2_code 14 = .ok (.new 27, 3) := by decide +kernel
theorem d9_17 : decode prog_8_method_2_code 17 = .ok (.dup, 1) := by decide +kernel
theorem d9_18 : decode prog_8_method_2_code 18 = .ok (.ldc 29, 2) := by decide +kernel
theorem d9_20 : decode prog_8_method_2_code 20 = .ok (.invokespecial 31, 3) := by decide +kernel
theorem d9_23 : decode prog_8_method_2_code 23 = .ok (.athrow, 1) := by decide +kernel
theorem d9_24 : decode prog_8_method_2_code 24 = .ok (.aload_n 0, 1) := by decide +kernel
theorem d9_25 : decode prog_8_method_2_code 25 = .ok (.invokestatic 34, 3) := by decide +kernel
theorem d9_28 : decode prog_8_method_2_code 28 = .ok (.istore_n 1, 1) := by decide +kernel
theorem d9_29 : decode prog_8_method_2_code 29 = .ok (.iload_n 1, 1) := by decide +kernel
theorem d9_30 : decode prog_8_method_2_code 30 = .ok (.sipush 200, 3) := by decide +kernel
theorem d9_33 : decode prog_8_method_2_code 33 = .ok (.if_icmp .le 21, 3) := by decide +kernel
theorem d9_36 : decode prog_8_method_2_code 36 = .ok (.new 27, 3) := by decide +kernel
theorem d9_39 : decode prog_8_method_2_code 39 = .ok (.dup, 1) := by decide +kernel
theorem d9_40 : decode prog_8_method_2_code 40 = .ok (.iload_n 1, 1) := by decide +kernel
theorem d9_41 : decode prog_8_method_2_code 41 = .ok (.aload_n 0, 1) := by decide +kernel
theorem d9_42 : decode prog_8_method_2_code 42 = .ok (.invokestatic 38, 3) := by decide +kernel
theorem d9_45 : decode prog_8_method_2_code 45 = .ok (.invokedynamic 42, 5) := by decide +kernel
theorem d9_50 : decode prog_8_method_2_code 50 = .ok (.invokespecial 31, 3) := by decide +kernel
theorem d9_53 : decode prog_8_method_2_code 53 = .ok (.athrow, 1) := by decide +kernel
theorem d9_54 : decode prog_8_method_2_code 54 = .ok (.new 8, 3) := by decide +kernel
theorem d9_57 : decode prog_8_method_2_code 57 = .ok (.dup, 1) := by decide +kernel
theorem d9_58 : decode prog_8_method_2_code 58 = .ok (.aload_n 0, 1) := by decide +kernel
theorem d9_59 : decode prog_8_method_2_code 59 = .ok (.invokespecial 46, 3) := by decide +kernel
theorem d9_62 : decode prog_8_method_2_code 62 = .ok (.areturn, 1) := by decide +kernel
theorem pn_9 : plainName "com/example/orderly_latch/orderlylatch/name/LatchName" = true := by first | (simp [plainName, overriddenIn]; done) | decide +kernel
theorem ef_9 (m : MethodId) (x0 : Addr) : entryFrame m #[(.ref x0)] 2 = mkF m 0 #[.val (.ref x0), .unset] [] := by first | (simp [entryFrame, mkF, argsToLocals, Value.category]; done) | rfl
set_option maxRecDepth 65536 in
set_option maxHeartbeats 40000000 in
theorem rmOF (l : Launch) (Z : State) (a0 : Array Value) (hw : ∀ d ∈ tables_1, d.before a0 Z = true) (ws : List Jvm.Cond) (o : Addr) (n : Nat) (g : Nat → Int32)  (h0 : Heap) (n0 : Nat) (Z0 : n0 ≤ h0.size) (hn : n ≤ 200) (hp : 0 < n) (O : Old Z n0 h0) (SK : StrSta Z) (SS : Str Z h0 o n g) (hnn : ∀ j, j < n → ¬ (wS g n j < 0)) (hle : ¬ ((200 : Int32) < sumW g n n))  :
    MetFree l (⟨"com/example/orderly_latch/orderlylatch/name/LatchName", "of", "(Ljava/lang/String;)Lcom/example/orderly_latch/orderlylatch/name/LatchName;"⟩ : MethodName) (head1 (Jvm.Cond.code (⟨"com/example/orderly_latch/orderlylatch/name/LatchName", "of", "(Ljava/lang/String;)Lcom/example/orderly_latch/orderlylatch/name/LatchName;"⟩ : MethodName) prog_8_method_2_code 2 (some (.object "com/example/orderly_latch/orderlylatch/name/LatchName")) :: ws) ({ frames := 6, cells := 3, slots := 41, locals := 110 } : Room)) (fun aa_ U_ => aa_ = #[(.ref o)] ∧ Z.Warmed39 U_.vm ∧ U_.heap = h0) (fun _ _ _ _ _ => True) (fun _ U_ o_ V_ => ∃ v_ L_, o_ = .returned v_ ∧ QOF Z o h0 n0 v_ V_.heap L_ ∧ ReturnedEndW U_ o_ V_ L_ ({ frames := 6, cells := 3, slots := 41, locals := 110 } : Room).cells ({ frames := 6, cells := 3, slots := 41, locals := 110 } : Room).slots) := by
  refine MetFree.of_bodySF (plainFor_of_name pn_9) hisR ?_
  intro p e s m args below meth c s₁ Bd hml0 hP hK
  obtain ⟨rfl, hZ, hh⟩ := hP
  have hx := Bd.exec
  have hby := Bd.bytes
  have hml : c.maxLocals = 2 := hml0
  have hown : s.vm.findClass "com/example/orderly_latch/orderlylatch/name/LatchName" = some m.cls := findClass_of_methodNamed Bd.named
  have hnm := (name_of_methodNamed Bd.named Bd.method).1
  have X0 : Stand p l e ({ frames := 6, cells := 3, slots := 41, locals := 110 } : Room) s m #[(.ref o)] below meth c s₁ [] 0 0 := Stand.of_body Bd
  have e0 : s₁.heap = h0 := by rw [← hh, Bd.state]; rfl
  have N0 := Fr.nil n0
  have pre0 : ∀ zz, Steps p.tables e below (s₁.setTop (mkF m 0 #[.val (.ref o), .unset] [])) zz → Steps p.tables e below (s₁.setTop (entryFrame m #[(.ref o)] 2)) zz := fun zz k => castTop (ef_9 m o) k
  have hwS : ∀ a ∈ Bundle.stringAtoms, a.before a0 Z = true := fun d hd => hw d (by simpa using (List.all_eq_true.mp (by decide +kernel : (Bundle.stringAtoms.all fun c => tables_1.contains c) = true)) d hd)
  have EO := SS.1
  obtain ⟨a96, T96, h96, k96, X96, e96, E96, hS96, hk96, hZ96, hown96, st96⟩ := ldcS (s := s) (vm0 := s.vm) X0 hx hZ hown (hw _ (List.mem_of_getElem? (i := 42) rfl)) hwS e0 ((State.WarmedH.refl s).since 0) (Nat.zero_le _) (g := (mkF m 1 #[.val (.ref o), .unset] [(.ref o)])) rfl (hb hby d9_1) (n := 36) (by decide) (by decide) (by decide) (by decide)
  have EO_e96 := EO.ext E96
  have SS_e96 := SS.ext E96
  have O96 := O.ext E96
  have K96 := (Keep.refl h0 []).ext E96
  have Z96 : n0 ≤ h96.size := Nat.le_trans Z0 E96.1
  obtain ⟨_, _, ⟨T97, L97, k97, n97⟩, -, X97, ⟨Lc97, hQ97, l97, y97, z97⟩, st97⟩ := Jvm.LawKit.callS X96 hx (y := (⟨"java/util/Objects", "requireNonNull", "(Ljava/lang/Object;Ljava/lang/String;)Ljava/lang/Object;"⟩ : MethodName)) hown96 (mvT hZ96 (hw _ (List.mem_of_getElem? (i := 45) rfl))) (mvT hZ96 (hw _ (List.mem_of_getElem? (i := 46) rfl))) (mvT hZ96 (hw _ (List.mem_of_getElem? (i := 47) rfl))) (mvT hZ96 (hw _ (List.mem_of_getElem? (i := 48) rfl))) (by decide) (backOf (W := 0) (rmRNN l Z a0 hw [] o a96 h96 n0 Z96) hZ96 (hw _ (List.mem_of_getElem? (i := 48) rfl)) (hw _ (List.mem_of_getElem? (i := 47) rfl)) (by decide) (by decide)) (g := (mkF m 3 #[.val (.ref o), .unset] [(.ref a96), (.ref o)])) rfl (by rw [hml]; rfl) (argsL := [(.ref o), (.ref a96)]) (rest := []) (lenOf pd_9 rfl) rfl (by show 2 * 0 + _ ≤ _; exact Nat.le_of_eq rfl) (hb hby d9_3) (fun _ _ => ⟨rfl, e96, (by decide : 2 + 0 ≤ _), (by decide : 40 + 0 ≤ _)⟩)
  dsimp only [Pt.U, Pt.locs, Pt.cells, Pt.slots] at X97 l97 y97 z97 st97 hQ97
  subst l97 y97 z97
  obtain ⟨rfl, N97q, e97⟩ := hQ97
  have N97 := Fr.app N0 N97q
  obtain ⟨cq98, kq98, q98a, q98b, q98c⟩ := isOf hZ96 e97 EO_e96
  obtain ⟨_, _, ⟨T98, L98, k98, n98⟩, -, X98, ⟨Lc98, hQ98, l98, y98, z98⟩, st98⟩ := X97.virtualBack hx (y := (⟨"java/lang/String", "isEmpty", "()Z"⟩ : MethodName)) (z := (⟨"java/lang/String", "isEmpty", "()Z"⟩ : MethodName)) hown96 (mvT hZ96 (hw _ (List.mem_of_getElem? (i := 49) rfl))) (mvT hZ96 (hw _ (List.mem_of_getElem? (i := 50) rfl))) (notFace_of_selects (args := #[]) (mvT hZ96 (hw _ (List.mem_of_getElem? (i := 52) rfl)))) (mvT hZ96 (hw _ (List.mem_of_getElem? (i := 52) rfl))) (mvT hZ96 (hw _ (List.mem_of_getElem? (i := 51) rfl))) (by decide) (backOf (W := 0) (rmEMP l Z a0 hw [] o n g h96 n0 Z96 hn hp SS_e96) hZ96 (hw _ (List.mem_of_getElem? (i := 53) rfl)) (hw _ (List.mem_of_getElem? (i := 11) rfl)) (by decide) (by decide)) q98a q98c (g := (mkF m 8 #[.val (.ref o), .unset] [(.ref o)])) rfl (by rw [hml]; rfl) (Steps.refl _) (argsL := []) (rest := []) (lenOf pd_10 rfl) rfl (by show 2 * 0 + _ ≤ _; exact Nat.le_of_eq rfl) (hb hby d9_8) (fun _ _ => ⟨rfl, e97, (by decide : 2 + 0 ≤ _), (by decide : 40 + 0 ≤ _)⟩)
  dsimp only [Pt.U, Pt.locs, Pt.cells, Pt.slots] at X98 l98 y98 z98 st98 hQ98
  subst l98 y98 z98
  obtain ⟨rfl, N98q, e98⟩ := hQ98
  have N98 := Fr.app N97 N98q
  obtain ⟨_, _, ⟨T99, L99, k99, n99⟩, -, X99, ⟨Lc99, hQ99, l99, y99, z99⟩, st99⟩ := Jvm.LawKit.callS X98 hx (y := (⟨"com/example/orderly_latch/orderlylatch/name/LatchName", "utf8Length", "(Ljava/lang/String;)I"⟩ : MethodName)) hown96 (mvT hZ96 (hw _ (List.mem_of_getElem? (i := 54) rfl))) (mvT hZ96 (hw _ (List.mem_of_getElem? (i := 55) rfl))) (mvT hZ96 (hw _ (List.mem_of_getElem? (i := 40) rfl))) (mvT hZ96 (hw _ (List.mem_of_getElem? (i := 56) rfl))) (by decide) (backOf (W := 0) (rmU8 l Z a0 hw [] o n g h96 n0 Z96 hn O96 SK SS_e96 hnn) hZ96 (hw _ (List.mem_of_getElem? (i := 56) rfl)) (hw _ (List.mem_of_getElem? (i := 40) rfl)) (by decide) (by decide)) (g := (mkF m 25 #[.val (.ref o), .unset] [(.ref o)])) rfl (by rw [hml]; rfl) (argsL := [(.ref o)]) (rest := []) (lenOf pd_11 rfl) rfl (by show 2 * 0 + _ ≤ _; exact Nat.le_of_eq rfl) (hb hby d9_25) (fun _ _ => ⟨rfl, e98, (by decide : 2 + 0 ≤ _), (by decide : 40 + 0 ≤ _)⟩)
  dsimp only [Pt.U, Pt.locs, Pt.cells, Pt.slots] at X99 l99 y99 z99 st99 hQ99
  subst l99 y99 z99
  obtain ⟨rfl, N99q, e99⟩ := hQ99
  have N99 := Fr.app N98 N99q
  obtain ⟨T100, h100, X100, e100, E100, A100, D100, -, st100⟩ := newO X99 hx hZ96 hown96 (hw _ (List.mem_of_getElem? (i := 89) rfl)) (hw _ (List.mem_of_getElem? (i := 90) rfl)) (hw _ (List.mem_of_getElem? (i := 40) rfl)) e99 (g := (mkF m 54 #[.val (.ref o), .val (.int (sumW g n n))] [])) rfl (hb hby d9_54) (by decide) (by decide)
  obtain ⟨b100, g100⟩ : ∃ z, z = h96.size := ⟨_, rfl⟩
  rw [← g100] at A100 D100 st100
  have ne_o_b100 : o ≠ b100 := Nat.ne_of_lt (Nat.lt_of_lt_of_le EO_e96.lt (Nat.le_of_eq g100.symm))
  have EO_e100 := EO_e96.ext E100
  have SS_e100 := SS_e96.ext E100
  have E_b100 := A100
  have g_b100 : n0 ≤ b100 := Nat.le_trans Z96 (Nat.le_of_eq g100.symm)
  have sz_b100 : h0.size ≤ b100 := Nat.le_trans K96.1 (Nat.le_of_eq g100.symm)
  have K100 := K96.ext E100
  have Z100 : n0 ≤ h100.size := Nat.le_trans Z96 E100.1
  have F_value_b100 : Fld Z h100 b100 "com/example/orderly_latch/orderlylatch/name/LatchName" "value" "Ljava/lang/String;" .null := D100 (Or.inr (hw _ (List.mem_of_getElem? (i := 96) rfl))) (ty := (.object "java/lang/String")) (by decide)
  have hk100 := Nat.le_trans hk96 E100.1
  have O100 := O96.ext E100
  obtain ⟨_, _, ⟨T101, L101, k101, n101⟩, -, X101, ⟨Lc101, hQ101, l101, y101, z101⟩, st101⟩ := X100.specialBack hx (y := (⟨"com/example/orderly_latch/orderlylatch/name/LatchName", "<init>", "(Ljava/lang/String;)V"⟩ : MethodName)) rfl hown96 (mvT hZ96 (hw _ (List.mem_of_getElem? (i := 91) rfl))) (mvT hZ96 (hw _ (List.mem_of_getElem? (i := 92) rfl))) (mvT hZ96 (hw _ (List.mem_of_getElem? (i := 93) rfl))) (by decide) (backOf (W := 1) (rmLNI l Z a0 hw [] b100 o h100 n0 Z100 g_b100 E_b100 F_value_b100) hZ96 (hw _ (List.mem_of_getElem? (i := 93) rfl)) (hw _ (List.mem_of_getElem? (i := 40) rfl)) (by decide) (by decide)) (g := (mkF m 59 #[.val (.ref o), .val (.int (sumW g n n))] [(.ref o), (.ref b100), (.ref b100)])) rfl (by rw [hml]; rfl) (Steps.refl _) (a := b100) (argsL := [(.ref o)]) (rest := [(.ref b100)]) (lenOf pd_18 rfl) rfl (by show 2 * 0 + _ ≤ _; exact Nat.le_of_eq rfl) (hb hby d9_59) (fun _ _ => ⟨rfl, e100, (by decide : 3 + 0 ≤ _), (by decide : 41 + 0 ≤ _)⟩)
  dsimp only [Pt.U, Pt.locs, Pt.cells, Pt.slots] at X101 l101 y101 z101 st101 hQ101
  subst l101 y101 z101
  obtain ⟨rfl, N101q, K101, Ex101, Fx101⟩ := hQ101
  have N101 := Fr.app N99 N101q
  have KK101 := K100.trans K101 (fun x r => by cases List.mem_singleton.mp r; exact (Or.inr sz_b100))
  have Z101 : n0 ≤ T101.heap.size := Nat.le_trans Z100 K101.1
  have O101 := O100.keep K101 (all1 g_b100)
  have hk101 := Nat.le_trans hk100 K101.1
  obtain ⟨fs, hr, hrun, hended, -, hWW, hBB, hSS⟩ := Stand.leaveW (s := s) (vm₁ := T96.vm) X101 hS96 (by exact hk101) (v := some (.ref b100)) (fun h => by rw [Bd.returns] at h; cases h)
  refine ⟨_, _, pre0 _ ?_, hrun, hended, _, _, rfl, ?_, ⟨_, rfl⟩, hWW, hBB, hSS.mono (by decide) (by decide)⟩
  · show Steps p.tables e below (s₁.setTop (mkF m 0 #[.val (.ref o), .unset] [])) _
    refine XS.aloadN X0.here hx rfl (hb hby d9_0) rfl rfl ?_
    show Steps p.tables e below (s₁.setTop (mkF m 1 #[.val (.ref o), .unset] [(.ref o)])) _
    refine st96 _ ?_
    show Steps p.tables e below (T96.setTop (mkF m 3 #[.val (.ref o), .unset] [(.ref a96), (.ref o)])) _
    refine st97 _ ?_
    refine XS.pop X97.here hx rfl (hb hby d9_6) rfl rfl ?_
    refine XS.aloadN X97.here hx rfl (hb hby d9_7) rfl rfl ?_
    show Steps p.tables e below (T97.setTop (mkF m 8 #[.val (.ref o), .unset] [(.ref o)])) _
    refine st98.trans ?_
    refine XS.ifYes X98.here hx rfl (pc0 := 11) (pc' := 24) rfl (hb hby d9_11) rfl ((if0 _ _).trans (teq (rfl : (0 : Int32) = (0 : Int32))).1) (by decide) (by decide) ?_
    refine XS.aloadN X98.here hx rfl (hb hby d9_24) rfl rfl ?_
    show Steps p.tables e below (T98.setTop (mkF m 25 #[.val (.ref o), .unset] [(.ref o)])) _
    refine st99 _ ?_
    refine XS.istoreN X99.here hx rfl (hb hby d9_28) rfl (l' := #[.val (.ref o), .val (.int (sumW g n n))]) rfl ?_
    refine XS.iloadN X99.here hx rfl (hb hby d9_29) rfl ?_
    refine XS.sipush X99.here hx rfl (hb hby d9_30) ?_
    refine XS.icmpYes X99.here hx rfl (pc0 := 33) (pc' := 54) rfl (hb hby d9_33) rfl (flt hle).2.2.2 (by decide) (by decide) ?_
    show Steps p.tables e below (T99.setTop (mkF m 54 #[.val (.ref o), .val (.int (sumW g n n))] [])) _
    refine st100 _ ?_
    refine XS.dup X100.here hx rfl (hb hby d9_57) rfl rfl ?_
    refine XS.aloadN X100.here hx rfl (hb hby d9_58) rfl rfl ?_
    show Steps p.tables e below (T100.setTop (mkF m 59 #[.val (.ref o), .val (.int (sumW g n n))] [(.ref o), (.ref b100), (.ref b100)])) _
    refine st101.trans ?_
    show Steps p.tables e below (T101.setTop (mkF m 62 #[.val (.ref o), .val (.int (sumW g n n))] [(.ref b100)])) _
    jvm_step X101.here [X101.here.top, hx, (hb hby d9_62), X101.method', Bd.returns, Value.isRef, FieldType.isReference]
    first | (intro acts; rw [hr _ acts rfl rfl rfl]) | rw [hr _ _ rfl rfl rfl]
    exact Steps.refl _
  · show QOF Z o h0 n0 _ T101.heap _
    exact ⟨b100, rfl, N101, KK101, Ex101, Fx101⟩
theorem pn_0 : plainName "com/example/orderly_latch/orderlylatch/name/LatchNameOfPinLaw" = true := by first | (simp [plainName, overriddenIn]; done) | decide +kernel
theorem ef_0 (m : MethodId) (x0 : Int32) (x1 : Int32) (x2 : Int32) (x3 : Int32) (x4 : Int32) : entryFrame m #[(.int x0), (.int x1), (.int x2), (.int x3), (.int x4)] maxLocals = mkF m 0 #[.val (.int x0), .val (.int x1), .val (.int x2), .val (.int x3), .val (.int x4), .unset, .unset, .unset, .unset, .unset, .unset, .unset, .unset, .unset, .unset, .unset, .unset, .unset] [] := by first | (simp [entryFrame, mkF, argsToLocals, Value.category, maxLocals]; done) | rfl
def Q0 (h0 : Heap) (n0 : Nat) (v : Option Value) (h : Heap) (L : List Loc) : Prop := v = some (.int 1) ∧ Fr n0 L
set_option maxRecDepth 65536 in
set_option maxHeartbeats 40000000 in
theorem fill0 {p : Program} {l : Launch} {e : Env} {s : State} {m : MethodId} {args : Array Value} {below : List Frame} {meth : Method} {c : Code} {T0 : State} {Z : State} {a0 : Array Value} {h0 : Heap} {n0 : Nat} (k0 p0 p1 p2 p3 : Int32) (X0 : Stand p l e room_1 s m args below meth c T0 [] 0 0) (hx : p.tables.exec = Jvm.exec) (hZ : Z.Warmed39 s.vm) (hw : ∀ d ∈ tables_1, d.before a0 Z = true) (hby : c.code = code) (hml : c.maxLocals = 18) (hown : s.vm.findClass "com/example/orderly_latch/orderlylatch/name/LatchNameOfPinLaw" = some m.cls) (e0 : T0.heap = h0) (Z0 : n0 ≤ h0.size) (O : Old Z n0 h0) (hc3 : (k0 &&& (1 : Int32)) = (0 : Int32)) :
    ∃ (T' : State) (h' : Heap) (b : Addr) (locs' : List Loc), Stand p l e room_1 s m args below meth c T' locs' 1 4 ∧ T'.heap = h' ∧ n0 ≤ h'.size ∧ Old Z n0 h' ∧ Keep h0 h' [] ∧ AF Z h' b .char 4 (Ca (gL (f_draw p0) (f_draw p1) (f_draw p2) (f_draw p3))) ∧ Fr n0 locs' ∧ ∀ target, Steps p.tables e below (T'.setTop (mkF m 126 #[.val (.int k0), .val (.int p0), .val (.int p1), .val (.int p2), .val (.int p3), .val (.int (0 : Int32)), .val (.int (f_draw p0)), .val (.int (f_draw p1)), .val (.int (f_draw p2)), .val (.int (f_draw p3)), .val (.ref b), .val (.int (f_share (f_draw p0) (0 : Int32) (f_draw p1))), .val (.int (f_share (f_draw p1) (f_draw p0) (f_draw p2))), .val (.int (f_share (f_draw p2) (f_draw p1) (f_draw p3))), .val (.int (f_share (f_draw p3) (f_draw p2) (0 : Int32))), .unset, .unset, .unset] [])) target → Steps p.tables e below (T0.setTop (mkF m 0 #[.val (.int k0), .val (.int p0), .val (.int p1), .val (.int p2), .val (.int p3), .unset, .unset, .unset, .unset, .unset, .unset, .unset, .unset, .unset, .unset, .unset, .unset, .unset] [])) target := by
  have N0 := Fr.nil n0
  obtain ⟨_, _, ⟨T102, L102, k102, n102⟩, -, X102, ⟨Lc102, hQ102, l102, y102, z102⟩, st102⟩ := Jvm.LawKit.callS X0 hx (y := (⟨"com/example/orderly_latch/orderlylatch/name/LatchNameOfPinLaw", "draw", "(I)I"⟩ : MethodName)) hown (mvT hZ (hw _ (List.mem_of_getElem? (i := 0) rfl))) (mvT hZ (hw _ (List.mem_of_getElem? (i := 1) rfl))) (mvT hZ (hw _ (List.mem_of_getElem? (i := 2) rfl))) (mvT hZ (hw _ (List.mem_of_getElem? (i := 3) rfl))) (by decide) (backOf (W := 0) (rm_draw l Z a0 hw [] p0 h0 n0 Z0) hZ (hw _ (List.mem_of_getElem? (i := 3) rfl)) (hw _ (List.mem_of_getElem? (i := 2) rfl)) (by decide) (by decide)) (g := (mkF m 14 #[.val (.int k0), .val (.int p0), .val (.int p1), .val (.int p2), .val (.int p3), .val (.int (0 : Int32)), .unset, .unset, .unset, .unset, .unset, .unset, .unset, .unset, .unset, .unset, .unset, .unset] [(.int p0)])) rfl (by rw [hml]; rfl) (argsL := [(.int p0)]) (rest := []) (lenOf pd_0 rfl) rfl (by show 2 * 0 + _ ≤ _; exact Nat.le_of_eq rfl) (hb hby at_14) (fun _ _ => ⟨rfl, e0, (by decide : 0 + 0 ≤ _), (by decide : 0 + 0 ≤ _)⟩)
  dsimp only [Pt.U, Pt.locs, Pt.cells, Pt.slots] at X102 l102 y102 z102 st102 hQ102
  subst l102 y102 z102
  obtain ⟨rfl, N102q, e102⟩ := hQ102
  have N102 := Fr.app N0 N102q
  obtain ⟨_, _, ⟨T103, L103, k103, n103⟩, -, X103, ⟨Lc103, hQ103, l103, y103, z103⟩, st103⟩ := Jvm.LawKit.callS X102 hx (y := (⟨"com/example/orderly_latch/orderlylatch/name/LatchNameOfPinLaw", "draw", "(I)I"⟩ : MethodName)) hown (mvT hZ (hw _ (List.mem_of_getElem? (i := 0) rfl))) (mvT hZ (hw _ (List.mem_of_getElem? (i := 1) rfl))) (mvT hZ (hw _ (List.mem_of_getElem? (i := 2) rfl))) (mvT hZ (hw _ (List.mem_of_getElem? (i := 3) rfl))) (by decide) (backOf (W := 0) (rm_draw l Z a0 hw [] p1 h0 n0 Z0) hZ (hw _ (List.mem_of_getElem? (i := 3) rfl)) (hw _ (List.mem_of_getElem? (i := 2) rfl)) (by decide) (by decide)) (g := (mkF m 20 #[.val (.int k0), .val (.int p0), .val (.int p1), .val (.int p2), .val (.int p3), .val (.int (0 : Int32)), .val (.int (f_draw p0)), .unset, .unset, .unset, .unset, .unset, .unset, .unset, .unset, .unset, .unset, .unset] [(.int p1)])) rfl (by rw [hml]; rfl) (argsL := [(.int p1)]) (rest := []) (lenOf pd_0 rfl) rfl (by show 2 * 0 + _ ≤ _; exact Nat.le_of_eq rfl) (hb hby at_20) (fun _ _ => ⟨rfl, e102, (by decide : 0 + 0 ≤ _), (by decide : 0 + 0 ≤ _)⟩)
  dsimp only [Pt.U, Pt.locs, Pt.cells, Pt.slots] at X103 l103 y103 z103 st103 hQ103
  subst l103 y103 z103
  obtain ⟨rfl, N103q, e103⟩ := hQ103
  have N103 := Fr.app N102 N103q
  obtain ⟨_, _, ⟨T104, L104, k104, n104⟩, -, X104, ⟨Lc104, hQ104, l104, y104, z104⟩, st104⟩ := Jvm.LawKit.callS X103 hx (y := (⟨"com/example/orderly_latch/orderlylatch/name/LatchNameOfPinLaw", "draw", "(I)I"⟩ : MethodName)) hown (mvT hZ (hw _ (List.mem_of_getElem? (i := 0) rfl))) (mvT hZ (hw _ (List.mem_of_getElem? (i := 1) rfl))) (mvT hZ (hw _ (List.mem_of_getElem? (i := 2) rfl))) (mvT hZ (hw _ (List.mem_of_getElem? (i := 3) rfl))) (by decide) (backOf (W := 0) (rm_draw l Z a0 hw [] p2 h0 n0 Z0) hZ (hw _ (List.mem_of_getElem? (i := 3) rfl)) (hw _ (List.mem_of_getElem? (i := 2) rfl)) (by decide) (by decide)) (g := (mkF m 26 #[.val (.int k0), .val (.int p0), .val (.int p1), .val (.int p2), .val (.int p3), .val (.int (0 : Int32)), .val (.int (f_draw p0)), .val (.int (f_draw p1)), .unset, .unset, .unset, .unset, .unset, .unset, .unset, .unset, .unset, .unset] [(.int p2)])) rfl (by rw [hml]; rfl) (argsL := [(.int p2)]) (rest := []) (lenOf pd_0 rfl) rfl (by show 2 * 0 + _ ≤ _; exact Nat.le_of_eq rfl) (hb hby at_26) (fun _ _ => ⟨rfl, e103, (by decide : 0 + 0 ≤ _), (by decide : 0 + 0 ≤ _)⟩)
  dsimp only [Pt.U, Pt.locs, Pt.cells, Pt.slots] at X104 l104 y104 z104 st104 hQ104
  subst l104 y104 z104
  obtain ⟨rfl, N104q, e104⟩ := hQ104
  have N104 := Fr.app N103 N104q
  obtain ⟨_, _, ⟨T105, L105, k105, n105⟩, -, X105, ⟨Lc105, hQ105, l105, y105, z105⟩, st105⟩ := Jvm.LawKit.callS X104 hx (y := (⟨"com/example/orderly_latch/orderlylatch/name/LatchNameOfPinLaw", "draw", "(I)I"⟩ : MethodName)) hown (mvT hZ (hw _ (List.mem_of_getElem? (i := 0) rfl))) (mvT hZ (hw _ (List.mem_of_getElem? (i := 1) rfl))) (mvT hZ (hw _ (List.mem_of_getElem? (i := 2) rfl))) (mvT hZ (hw _ (List.mem_of_getElem? (i := 3) rfl))) (by decide) (backOf (W := 0) (rm_draw l Z a0 hw [] p3 h0 n0 Z0) hZ (hw _ (List.mem_of_getElem? (i := 3) rfl)) (hw _ (List.mem_of_getElem? (i := 2) rfl)) (by decide) (by decide)) (g := (mkF m 33 #[.val (.int k0), .val (.int p0), .val (.int p1), .val (.int p2), .val (.int p3), .val (.int (0 : Int32)), .val (.int (f_draw p0)), .val (.int (f_draw p1)), .val (.int (f_draw p2)), .unset, .unset, .unset, .unset, .unset, .unset, .unset, .unset, .unset] [(.int p3)])) rfl (by rw [hml]; rfl) (argsL := [(.int p3)]) (rest := []) (lenOf pd_0 rfl) rfl (by show 2 * 0 + _ ≤ _; exact Nat.le_of_eq rfl) (hb hby at_33) (fun _ _ => ⟨rfl, e104, (by decide : 0 + 0 ≤ _), (by decide : 0 + 0 ≤ _)⟩)
  dsimp only [Pt.U, Pt.locs, Pt.cells, Pt.slots] at X105 l105 y105 z105 st105 hQ105
  subst l105 y105 z105
  obtain ⟨rfl, N105q, e105⟩ := hQ105
  have N105 := Fr.app N104 N105q
  obtain ⟨T106, h106, X106, e106, E106, A106, st106⟩ := nwA X105 hx hZ (hw _ (List.mem_of_getElem? (i := 5) rfl)) e105 (g := (mkF m 52 #[.val (.int k0), .val (.int p0), .val (.int p1), .val (.int p2), .val (.int p3), .val (.int (0 : Int32)), .val (.int (f_draw p0)), .val (.int (f_draw p1)), .val (.int (f_draw p2)), .val (.int (f_draw p3)), .unset, .unset, .unset, .unset, .unset, .unset, .unset, .unset] [(.int (4 : Int32))])) rfl (hb hby at_52) (n := 4) rfl (cap := 4) (by decide) (by decide) (by decide) (by decide)
  obtain ⟨b106, q106⟩ : ∃ z, z = h0.size := ⟨_, rfl⟩
  rw [← q106] at A106 st106
  have V106 : AF Z h106 b106 .char 4 (fun _ => (.int (0 : Int32))) := A106
  have g_b106 : n0 ≤ b106 := Nat.le_trans Z0 (Nat.le_of_eq q106.symm)
  have sz_b106 : h0.size ≤ b106 := Nat.le_trans (Keep.refl h0 []).1 (Nat.le_of_eq q106.symm)
  have K106 := (Keep.refl h0 []).ext E106
  have Z106 : n0 ≤ h106.size := Nat.le_trans Z0 E106.1
  have O106 := O.ext E106
  obtain ⟨T107, h107, X107, e107, W107, st107⟩ := stCh X106 hx hZ e106 V106 (i := 0) (by decide) (by decide) (x := ((f_draw p0).toUInt32.toUInt16.toUInt32.toInt32)) (g := (mkF m 62 #[.val (.int k0), .val (.int p0), .val (.int p1), .val (.int p2), .val (.int p3), .val (.int (0 : Int32)), .val (.int (f_draw p0)), .val (.int (f_draw p1)), .val (.int (f_draw p2)), .val (.int (f_draw p3)), .val (.ref b106), .unset, .unset, .unset, .unset, .unset, .unset, .unset] [(.int ((f_draw p0).toUInt32.toUInt16.toUInt32.toInt32)), (.int (0 : Int32)), (.ref b106)])) rfl rfl (hb hby at_62)
  have A107 := V106.wr W107
  have N107 := Fr.snoc X107 N105 g_b106
  have K107 := K106.wr W107 (Or.inr sz_b106)
  have Z107 : n0 ≤ h107.size := Nat.le_trans Z106 (Keep.of_wr W107).1
  have O107 := O106.wr W107 g_b106
  obtain ⟨T108, h108, X108, e108, W108, st108⟩ := stCh X107 hx hZ e107 A107 (i := 1) (by decide) (by decide) (x := ((f_draw p1).toUInt32.toUInt16.toUInt32.toInt32)) (g := (mkF m 69 #[.val (.int k0), .val (.int p0), .val (.int p1), .val (.int p2), .val (.int p3), .val (.int (0 : Int32)), .val (.int (f_draw p0)), .val (.int (f_draw p1)), .val (.int (f_draw p2)), .val (.int (f_draw p3)), .val (.ref b106), .unset, .unset, .unset, .unset, .unset, .unset, .unset] [(.int ((f_draw p1).toUInt32.toUInt16.toUInt32.toInt32)), (.int (1 : Int32)), (.ref b106)])) rfl rfl (hb hby at_69)
  have A108 := A107.wr W108
  have N108 := Fr.snoc X108 N107 g_b106
  have K108 := K107.wr W108 (Or.inr sz_b106)
  have Z108 : n0 ≤ h108.size := Nat.le_trans Z107 (Keep.of_wr W108).1
  have O108 := O107.wr W108 g_b106
  obtain ⟨T109, h109, X109, e109, W109, st109⟩ := stCh X108 hx hZ e108 A108 (i := 2) (by decide) (by decide) (x := ((f_draw p2).toUInt32.toUInt16.toUInt32.toInt32)) (g := (mkF m 76 #[.val (.int k0), .val (.int p0), .val (.int p1), .val (.int p2), .val (.int p3), .val (.int (0 : Int32)), .val (.int (f_draw p0)), .val (.int (f_draw p1)), .val (.int (f_draw p2)), .val (.int (f_draw p3)), .val (.ref b106), .unset, .unset, .unset, .unset, .unset, .unset, .unset] [(.int ((f_draw p2).toUInt32.toUInt16.toUInt32.toInt32)), (.int (2 : Int32)), (.ref b106)])) rfl rfl (hb hby at_76)
  have A109 := A108.wr W109
  have N109 := Fr.snoc X109 N108 g_b106
  have K109 := K108.wr W109 (Or.inr sz_b106)
  have Z109 : n0 ≤ h109.size := Nat.le_trans Z108 (Keep.of_wr W109).1
  have O109 := O108.wr W109 g_b106
  obtain ⟨T110, h110, X110, e110, W110, st110⟩ := stCh X109 hx hZ e109 A109 (i := 3) (by decide) (by decide) (x := ((f_draw p3).toUInt32.toUInt16.toUInt32.toInt32)) (g := (mkF m 83 #[.val (.int k0), .val (.int p0), .val (.int p1), .val (.int p2), .val (.int p3), .val (.int (0 : Int32)), .val (.int (f_draw p0)), .val (.int (f_draw p1)), .val (.int (f_draw p2)), .val (.int (f_draw p3)), .val (.ref b106), .unset, .unset, .unset, .unset, .unset, .unset, .unset] [(.int ((f_draw p3).toUInt32.toUInt16.toUInt32.toInt32)), (.int (3 : Int32)), (.ref b106)])) rfl rfl (hb hby at_83)
  have A110 := A109.wr W110
  have N110 := Fr.snoc X110 N109 g_b106
  have K110 := K109.wr W110 (Or.inr sz_b106)
  have Z110 : n0 ≤ h110.size := Nat.le_trans Z109 (Keep.of_wr W110).1
  have O110 := O109.wr W110 g_b106
  obtain ⟨_, _, ⟨T111, L111, k111, n111⟩, -, X111, ⟨Lc111, hQ111, l111, y111, z111⟩, st111⟩ := Jvm.LawKit.callS X110 hx (y := (⟨"com/example/orderly_latch/orderlylatch/name/LatchNameOfPinLaw", "share", "(III)I"⟩ : MethodName)) hown (mvT hZ (hw _ (List.mem_of_getElem? (i := 6) rfl))) (mvT hZ (hw _ (List.mem_of_getElem? (i := 7) rfl))) (mvT hZ (hw _ (List.mem_of_getElem? (i := 2) rfl))) (mvT hZ (hw _ (List.mem_of_getElem? (i := 8) rfl))) (by decide) (backOf (W := 0) (rm_share l Z a0 hw [] (f_draw p0) (0 : Int32) (f_draw p1) h110 n0 Z110) hZ (hw _ (List.mem_of_getElem? (i := 8) rfl)) (hw _ (List.mem_of_getElem? (i := 2) rfl)) (by decide) (by decide)) (g := (mkF m 89 #[.val (.int k0), .val (.int p0), .val (.int p1), .val (.int p2), .val (.int p3), .val (.int (0 : Int32)), .val (.int (f_draw p0)), .val (.int (f_draw p1)), .val (.int (f_draw p2)), .val (.int (f_draw p3)), .val (.ref b106), .unset, .unset, .unset, .unset, .unset, .unset, .unset] [(.int (f_draw p1)), (.int (0 : Int32)), (.int (f_draw p0))])) rfl (by rw [hml]; rfl) (argsL := [(.int (f_draw p0)), (.int (0 : Int32)), (.int (f_draw p1))]) (rest := []) (lenOf pd_1 rfl) rfl (by show 2 * 0 + _ ≤ _; exact Nat.le_of_eq rfl) (hb hby at_89) (fun _ _ => ⟨rfl, e110, (by decide : 1 + 0 ≤ _), (by decide : 4 + 0 ≤ _)⟩)
  dsimp only [Pt.U, Pt.locs, Pt.cells, Pt.slots] at X111 l111 y111 z111 st111 hQ111
  subst l111 y111 z111
  obtain ⟨rfl, N111q, e111⟩ := hQ111
  have N111 := Fr.app N110 N111q
  obtain ⟨_, _, ⟨T112, L112, k112, n112⟩, -, X112, ⟨Lc112, hQ112, l112, y112, z112⟩, st112⟩ := Jvm.LawKit.callS X111 hx (y := (⟨"com/example/orderly_latch/orderlylatch/name/LatchNameOfPinLaw", "share", "(III)I"⟩ : MethodName)) hown (mvT hZ (hw _ (List.mem_of_getElem? (i := 6) rfl))) (mvT hZ (hw _ (List.mem_of_getElem? (i := 7) rfl))) (mvT hZ (hw _ (List.mem_of_getElem? (i := 2) rfl))) (mvT hZ (hw _ (List.mem_of_getElem? (i := 8) rfl))) (by decide) (backOf (W := 0) (rm_share l Z a0 hw [] (f_draw p1) (f_draw p0) (f_draw p2) h110 n0 Z110) hZ (hw _ (List.mem_of_getElem? (i := 8) rfl)) (hw _ (List.mem_of_getElem? (i := 2) rfl)) (by decide) (by decide)) (g := (mkF m 100 #[.val (.int k0), .val (.int p0), .val (.int p1), .val (.int p2), .val (.int p3), .val (.int (0 : Int32)), .val (.int (f_draw p0)), .val (.int (f_draw p1)), .val (.int (f_draw p2)), .val (.int (f_draw p3)), .val (.ref b106), .val (.int (f_share (f_draw p0) (0 : Int32) (f_draw p1))), .unset, .unset, .unset, .unset, .unset, .unset] [(.int (f_draw p2)), (.int (f_draw p0)), (.int (f_draw p1))])) rfl (by rw [hml]; rfl) (argsL := [(.int (f_draw p1)), (.int (f_draw p0)), (.int (f_draw p2))]) (rest := []) (lenOf pd_1 rfl) rfl (by show 2 * 0 + _ ≤ _; exact Nat.le_of_eq rfl) (hb hby at_100) (fun _ _ => ⟨rfl, e111, (by decide : 1 + 0 ≤ _), (by decide : 4 + 0 ≤ _)⟩)
  dsimp only [Pt.U, Pt.locs, Pt.cells, Pt.slots] at X112 l112 y112 z112 st112 hQ112
  subst l112 y112 z112
  obtain ⟨rfl, N112q, e112⟩ := hQ112
  have N112 := Fr.app N111 N112q
  obtain ⟨_, _, ⟨T113, L113, k113, n113⟩, -, X113, ⟨Lc113, hQ113, l113, y113, z113⟩, st113⟩ := Jvm.LawKit.callS X112 hx (y := (⟨"com/example/orderly_latch/orderlylatch/name/LatchNameOfPinLaw", "share", "(III)I"⟩ : MethodName)) hown (mvT hZ (hw _ (List.mem_of_getElem? (i := 6) rfl))) (mvT hZ (hw _ (List.mem_of_getElem? (i := 7) rfl))) (mvT hZ (hw _ (List.mem_of_getElem? (i := 2) rfl))) (mvT hZ (hw _ (List.mem_of_getElem? (i := 8) rfl))) (by decide) (backOf (W := 0) (rm_share l Z a0 hw [] (f_draw p2) (f_draw p1) (f_draw p3) h110 n0 Z110) hZ (hw _ (List.mem_of_getElem? (i := 8) rfl)) (hw _ (List.mem_of_getElem? (i := 2) rfl)) (by decide) (by decide)) (g := (mkF m 111 #[.val (.int k0), .val (.int p0), .val (.int p1), .val (.int p2), .val (.int p3), .val (.int (0 : Int32)), .val (.int (f_draw p0)), .val (.int (f_draw p1)), .val (.int (f_draw p2)), .val (.int (f_draw p3)), .val (.ref b106), .val (.int (f_share (f_draw p0) (0 : Int32) (f_draw p1))), .val (.int (f_share (f_draw p1) (f_draw p0) (f_draw p2))), .unset, .unset, .unset, .unset, .unset] [(.int (f_draw p3)), (.int (f_draw p1)), (.int (f_draw p2))])) rfl (by rw [hml]; rfl) (argsL := [(.int (f_draw p2)), (.int (f_draw p1)), (.int (f_draw p3))]) (rest := []) (lenOf pd_1 rfl) rfl (by show 2 * 0 + _ ≤ _; exact Nat.le_of_eq rfl) (hb hby at_111) (fun _ _ => ⟨rfl, e112, (by decide : 1 + 0 ≤ _), (by decide : 4 + 0 ≤ _)⟩)
  dsimp only [Pt.U, Pt.locs, Pt.cells, Pt.slots] at X113 l113 y113 z113 st113 hQ113
  subst l113 y113 z113
  obtain ⟨rfl, N113q, e113⟩ := hQ113
  have N113 := Fr.app N112 N113q
  obtain ⟨_, _, ⟨T114, L114, k114, n114⟩, -, X114, ⟨Lc114, hQ114, l114, y114, z114⟩, st114⟩ := Jvm.LawKit.callS X113 hx (y := (⟨"com/example/orderly_latch/orderlylatch/name/LatchNameOfPinLaw", "share", "(III)I"⟩ : MethodName)) hown (mvT hZ (hw _ (List.mem_of_getElem? (i := 6) rfl))) (mvT hZ (hw _ (List.mem_of_getElem? (i := 7) rfl))) (mvT hZ (hw _ (List.mem_of_getElem? (i := 2) rfl))) (mvT hZ (hw _ (List.mem_of_getElem? (i := 8) rfl))) (by decide) (backOf (W := 0) (rm_share l Z a0 hw [] (f_draw p3) (f_draw p2) (0 : Int32) h110 n0 Z110) hZ (hw _ (List.mem_of_getElem? (i := 8) rfl)) (hw _ (List.mem_of_getElem? (i := 2) rfl)) (by decide) (by decide)) (g := (mkF m 121 #[.val (.int k0), .val (.int p0), .val (.int p1), .val (.int p2), .val (.int p3), .val (.int (0 : Int32)), .val (.int (f_draw p0)), .val (.int (f_draw p1)), .val (.int (f_draw p2)), .val (.int (f_draw p3)), .val (.ref b106), .val (.int (f_share (f_draw p0) (0 : Int32) (f_draw p1))), .val (.int (f_share (f_draw p1) (f_draw p0) (f_draw p2))), .val (.int (f_share (f_draw p2) (f_draw p1) (f_draw p3))), .unset, .unset, .unset, .unset] [(.int (0 : Int32)), (.int (f_draw p2)), (.int (f_draw p3))])) rfl (by rw [hml]; rfl) (argsL := [(.int (f_draw p3)), (.int (f_draw p2)), (.int (0 : Int32))]) (rest := []) (lenOf pd_1 rfl) rfl (by show 2 * 0 + _ ≤ _; exact Nat.le_of_eq rfl) (hb hby at_121) (fun _ _ => ⟨rfl, e113, (by decide : 1 + 0 ≤ _), (by decide : 4 + 0 ≤ _)⟩)
  dsimp only [Pt.U, Pt.locs, Pt.cells, Pt.slots] at X114 l114 y114 z114 st114 hQ114
  subst l114 y114 z114
  obtain ⟨rfl, N114q, e114⟩ := hQ114
  have N114 := Fr.app N113 N114q
  refine ⟨_, _, _, _, X114, e114, Z110, O110, K110, A110.congr fun j _ => fill4 (draw_ch _) (draw_ch _) (draw_ch _) (draw_ch _) j, N114, fun target kt => ?_⟩
  show Steps p.tables e below (T0.setTop (mkF m 0 #[.val (.int k0), .val (.int p0), .val (.int p1), .val (.int p2), .val (.int p3), .unset, .unset, .unset, .unset, .unset, .unset, .unset, .unset, .unset, .unset, .unset, .unset, .unset] [])) _
  refine XS.iloadN X0.here hx rfl (hb hby at_0) rfl ?_
  refine XS.iconst X0.here hx rfl (hb hby at_1) ?_
  refine XS.iand X0.here hx rfl (hb hby at_2) rfl ?_
  refine XS.ifYes X0.here hx rfl (pc0 := 3) (pc' := 10) rfl (hb hby at_3) rfl ((if0 _ _).trans (teq hc3).1) (by decide) (by decide) ?_
  refine XS.iconst X0.here hx rfl (hb hby at_10) ?_
  refine XS.istore X0.here hx rfl (hb hby at_11) rfl (l' := #[.val (.int k0), .val (.int p0), .val (.int p1), .val (.int p2), .val (.int p3), .val (.int (0 : Int32)), .unset, .unset, .unset, .unset, .unset, .unset, .unset, .unset, .unset, .unset, .unset, .unset]) rfl ?_
  show Steps p.tables e below (T0.setTop (mkF m 13 #[.val (.int k0), .val (.int p0), .val (.int p1), .val (.int p2), .val (.int p3), .val (.int (0 : Int32)), .unset, .unset, .unset, .unset, .unset, .unset, .unset, .unset, .unset, .unset, .unset, .unset] [])) _
  refine XS.iloadN X0.here hx rfl (hb hby at_13) rfl ?_
  show Steps p.tables e below (T0.setTop (mkF m 14 #[.val (.int k0), .val (.int p0), .val (.int p1), .val (.int p2), .val (.int p3), .val (.int (0 : Int32)), .unset, .unset, .unset, .unset, .unset, .unset, .unset, .unset, .unset, .unset, .unset, .unset] [(.int p0)])) _
  refine st102 _ ?_
  refine XS.istore X102.here hx rfl (hb hby at_17) rfl (l' := #[.val (.int k0), .val (.int p0), .val (.int p1), .val (.int p2), .val (.int p3), .val (.int (0 : Int32)), .val (.int (f_draw p0)), .unset, .unset, .unset, .unset, .unset, .unset, .unset, .unset, .unset, .unset, .unset]) rfl ?_
  refine XS.iloadN X102.here hx rfl (hb hby at_19) rfl ?_
  show Steps p.tables e below (T102.setTop (mkF m 20 #[.val (.int k0), .val (.int p0), .val (.int p1), .val (.int p2), .val (.int p3), .val (.int (0 : Int32)), .val (.int (f_draw p0)), .unset, .unset, .unset, .unset, .unset, .unset, .unset, .unset, .unset, .unset, .unset] [(.int p1)])) _
  refine st103 _ ?_
  refine XS.istore X103.here hx rfl (hb hby at_23) rfl (l' := #[.val (.int k0), .val (.int p0), .val (.int p1), .val (.int p2), .val (.int p3), .val (.int (0 : Int32)), .val (.int (f_draw p0)), .val (.int (f_draw p1)), .unset, .unset, .unset, .unset, .unset, .unset, .unset, .unset, .unset, .unset]) rfl ?_
  refine XS.iloadN X103.here hx rfl (hb hby at_25) rfl ?_
  show Steps p.tables e below (T103.setTop (mkF m 26 #[.val (.int k0), .val (.int p0), .val (.int p1), .val (.int p2), .val (.int p3), .val (.int (0 : Int32)), .val (.int (f_draw p0)), .val (.int (f_draw p1)), .unset, .unset, .unset, .unset, .unset, .unset, .unset, .unset, .unset, .unset] [(.int p2)])) _
  refine st104 _ ?_
  refine XS.istore X104.here hx rfl (hb hby at_29) rfl (l' := #[.val (.int k0), .val (.int p0), .val (.int p1), .val (.int p2), .val (.int p3), .val (.int (0 : Int32)), .val (.int (f_draw p0)), .val (.int (f_draw p1)), .val (.int (f_draw p2)), .unset, .unset, .unset, .unset, .unset, .unset, .unset, .unset, .unset]) rfl ?_
  refine XS.iload X104.here hx rfl (hb hby at_31) rfl ?_
  show Steps p.tables e below (T104.setTop (mkF m 33 #[.val (.int k0), .val (.int p0), .val (.int p1), .val (.int p2), .val (.int p3), .val (.int (0 : Int32)), .val (.int (f_draw p0)), .val (.int (f_draw p1)), .val (.int (f_draw p2)), .unset, .unset, .unset, .unset, .unset, .unset, .unset, .unset, .unset] [(.int p3)])) _
  refine st105 _ ?_
  refine XS.istore X105.here hx rfl (hb hby at_36) rfl (l' := #[.val (.int k0), .val (.int p0), .val (.int p1), .val (.int p2), .val (.int p3), .val (.int (0 : Int32)), .val (.int (f_draw p0)), .val (.int (f_draw p1)), .val (.int (f_draw p2)), .val (.int (f_draw p3)), .unset, .unset, .unset, .unset, .unset, .unset, .unset, .unset]) rfl ?_
  refine XS.iload X105.here hx rfl (hb hby at_38) rfl ?_
  refine XS.ifYes X105.here hx rfl (pc0 := 40) (pc' := 51) rfl (hb hby at_40) rfl ((if0 _ _).trans (teq (rfl : (0 : Int32) = (0 : Int32))).1) (by decide) (by decide) ?_
  refine XS.iconst X105.here hx rfl (hb hby at_51) ?_
  show Steps p.tables e below (T105.setTop (mkF m 52 #[.val (.int k0), .val (.int p0), .val (.int p1), .val (.int p2), .val (.int p3), .val (.int (0 : Int32)), .val (.int (f_draw p0)), .val (.int (f_draw p1)), .val (.int (f_draw p2)), .val (.int (f_draw p3)), .unset, .unset, .unset, .unset, .unset, .unset, .unset, .unset] [(.int (4 : Int32))])) _
  refine st106 _ ?_
  refine XS.astore X106.here hx rfl (hb hby at_54) rfl rfl (l' := #[.val (.int k0), .val (.int p0), .val (.int p1), .val (.int p2), .val (.int p3), .val (.int (0 : Int32)), .val (.int (f_draw p0)), .val (.int (f_draw p1)), .val (.int (f_draw p2)), .val (.int (f_draw p3)), .val (.ref b106), .unset, .unset, .unset, .unset, .unset, .unset, .unset]) rfl ?_
  refine XS.aload X106.here hx rfl (hb hby at_56) rfl rfl ?_
  refine XS.iconst X106.here hx rfl (hb hby at_58) ?_
  refine XS.iload X106.here hx rfl (hb hby at_59) rfl ?_
  refine XS.i2c X106.here hx rfl (hb hby at_61) rfl ?_
  show Steps p.tables e below (T106.setTop (mkF m 62 #[.val (.int k0), .val (.int p0), .val (.int p1), .val (.int p2), .val (.int p3), .val (.int (0 : Int32)), .val (.int (f_draw p0)), .val (.int (f_draw p1)), .val (.int (f_draw p2)), .val (.int (f_draw p3)), .val (.ref b106), .unset, .unset, .unset, .unset, .unset, .unset, .unset] [(.int ((f_draw p0).toUInt32.toUInt16.toUInt32.toInt32)), (.int (0 : Int32)), (.ref b106)])) _
  refine st107 _ ?_
  refine XS.aload X107.here hx rfl (hb hby at_63) rfl rfl ?_
  refine XS.iconst X107.here hx rfl (hb hby at_65) ?_
  refine XS.iload X107.here hx rfl (hb hby at_66) rfl ?_
  refine XS.i2c X107.here hx rfl (hb hby at_68) rfl ?_
  show Steps p.tables e below (T107.setTop (mkF m 69 #[.val (.int k0), .val (.int p0), .val (.int p1), .val (.int p2), .val (.int p3), .val (.int (0 : Int32)), .val (.int (f_draw p0)), .val (.int (f_draw p1)), .val (.int (f_draw p2)), .val (.int (f_draw p3)), .val (.ref b106), .unset, .unset, .unset, .unset, .unset, .unset, .unset] [(.int ((f_draw p1).toUInt32.toUInt16.toUInt32.toInt32)), (.int (1 : Int32)), (.ref b106)])) _
  refine st108 _ ?_
  refine XS.aload X108.here hx rfl (hb hby at_70) rfl rfl ?_
  refine XS.iconst X108.here hx rfl (hb hby at_72) ?_
  refine XS.iload X108.here hx rfl (hb hby at_73) rfl ?_
  refine XS.i2c X108.here hx rfl (hb hby at_75) rfl ?_
  show Steps p.tables e below (T108.setTop (mkF m 76 #[.val (.int k0), .val (.int p0), .val (.int p1), .val (.int p2), .val (.int p3), .val (.int (0 : Int32)), .val (.int (f_draw p0)), .val (.int (f_draw p1)), .val (.int (f_draw p2)), .val (.int (f_draw p3)), .val (.ref b106), .unset, .unset, .unset, .unset, .unset, .unset, .unset] [(.int ((f_draw p2).toUInt32.toUInt16.toUInt32.toInt32)), (.int (2 : Int32)), (.ref b106)])) _
  refine st109 _ ?_
  refine XS.aload X109.here hx rfl (hb hby at_77) rfl rfl ?_
  refine XS.iconst X109.here hx rfl (hb hby at_79) ?_
  refine XS.iload X109.here hx rfl (hb hby at_80) rfl ?_
  refine XS.i2c X109.here hx rfl (hb hby at_82) rfl ?_
  show Steps p.tables e below (T109.setTop (mkF m 83 #[.val (.int k0), .val (.int p0), .val (.int p1), .val (.int p2), .val (.int p3), .val (.int (0 : Int32)), .val (.int (f_draw p0)), .val (.int (f_draw p1)), .val (.int (f_draw p2)), .val (.int (f_draw p3)), .val (.ref b106), .unset, .unset, .unset, .unset, .unset, .unset, .unset] [(.int ((f_draw p3).toUInt32.toUInt16.toUInt32.toInt32)), (.int (3 : Int32)), (.ref b106)])) _
  refine st110 _ ?_
  refine XS.iload X110.here hx rfl (hb hby at_84) rfl ?_
  refine XS.iconst X110.here hx rfl (hb hby at_86) ?_
  refine XS.iload X110.here hx rfl (hb hby at_87) rfl ?_
  show Steps p.tables e below (T110.setTop (mkF m 89 #[.val (.int k0), .val (.int p0), .val (.int p1), .val (.int p2), .val (.int p3), .val (.int (0 : Int32)), .val (.int (f_draw p0)), .val (.int (f_draw p1)), .val (.int (f_draw p2)), .val (.int (f_draw p3)), .val (.ref b106), .unset, .unset, .unset, .unset, .unset, .unset, .unset] [(.int (f_draw p1)), (.int (0 : Int32)), (.int (f_draw p0))])) _
  refine st111 _ ?_
  refine XS.istore X111.here hx rfl (hb hby at_92) rfl (l' := #[.val (.int k0), .val (.int p0), .val (.int p1), .val (.int p2), .val (.int p3), .val (.int (0 : Int32)), .val (.int (f_draw p0)), .val (.int (f_draw p1)), .val (.int (f_draw p2)), .val (.int (f_draw p3)), .val (.ref b106), .val (.int (f_share (f_draw p0) (0 : Int32) (f_draw p1))), .unset, .unset, .unset, .unset, .unset, .unset]) rfl ?_
  refine XS.iload X111.here hx rfl (hb hby at_94) rfl ?_
  refine XS.iload X111.here hx rfl (hb hby at_96) rfl ?_
  refine XS.iload X111.here hx rfl (hb hby at_98) rfl ?_
  show Steps p.tables e below (T111.setTop (mkF m 100 #[.val (.int k0), .val (.int p0), .val (.int p1), .val (.int p2), .val (.int p3), .val (.int (0 : Int32)), .val (.int (f_draw p0)), .val (.int (f_draw p1)), .val (.int (f_draw p2)), .val (.int (f_draw p3)), .val (.ref b106), .val (.int (f_share (f_draw p0) (0 : Int32) (f_draw p1))), .unset, .unset, .unset, .unset, .unset, .unset] [(.int (f_draw p2)), (.int (f_draw p0)), (.int (f_draw p1))])) _
  refine st112 _ ?_
  refine XS.istore X112.here hx rfl (hb hby at_103) rfl (l' := #[.val (.int k0), .val (.int p0), .val (.int p1), .val (.int p2), .val (.int p3), .val (.int (0 : Int32)), .val (.int (f_draw p0)), .val (.int (f_draw p1)), .val (.int (f_draw p2)), .val (.int (f_draw p3)), .val (.ref b106), .val (.int (f_share (f_draw p0) (0 : Int32) (f_draw p1))), .val (.int (f_share (f_draw p1) (f_draw p0) (f_draw p2))), .unset, .unset, .unset, .unset, .unset]) rfl ?_
  refine XS.iload X112.here hx rfl (hb hby at_105) rfl ?_
  refine XS.iload X112.here hx rfl (hb hby at_107) rfl ?_
  refine XS.iload X112.here hx rfl (hb hby at_109) rfl ?_
  show Steps p.tables e below (T112.setTop (mkF m 111 #[.val (.int k0), .val (.int p0), .val (.int p1), .val (.int p2), .val (.int p3), .val (.int (0 : Int32)), .val (.int (f_draw p0)), .val (.int (f_draw p1)), .val (.int (f_draw p2)), .val (.int (f_draw p3)), .val (.ref b106), .val (.int (f_share (f_draw p0) (0 : Int32) (f_draw p1))), .val (.int (f_share (f_draw p1) (f_draw p0) (f_draw p2))), .unset, .unset, .unset, .unset, .unset] [(.int (f_draw p3)), (.int (f_draw p1)), (.int (f_draw p2))])) _
  refine st113 _ ?_
  refine XS.istore X113.here hx rfl (hb hby at_114) rfl (l' := #[.val (.int k0), .val (.int p0), .val (.int p1), .val (.int p2), .val (.int p3), .val (.int (0 : Int32)), .val (.int (f_draw p0)), .val (.int (f_draw p1)), .val (.int (f_draw p2)), .val (.int (f_draw p3)), .val (.ref b106), .val (.int (f_share (f_draw p0) (0 : Int32) (f_draw p1))), .val (.int (f_share (f_draw p1) (f_draw p0) (f_draw p2))), .val (.int (f_share (f_draw p2) (f_draw p1) (f_draw p3))), .unset, .unset, .unset, .unset]) rfl ?_
  refine XS.iload X113.here hx rfl (hb hby at_116) rfl ?_
  refine XS.iload X113.here hx rfl (hb hby at_118) rfl ?_
  refine XS.iconst X113.here hx rfl (hb hby at_120) ?_
  show Steps p.tables e below (T113.setTop (mkF m 121 #[.val (.int k0), .val (.int p0), .val (.int p1), .val (.int p2), .val (.int p3), .val (.int (0 : Int32)), .val (.int (f_draw p0)), .val (.int (f_draw p1)), .val (.int (f_draw p2)), .val (.int (f_draw p3)), .val (.ref b106), .val (.int (f_share (f_draw p0) (0 : Int32) (f_draw p1))), .val (.int (f_share (f_draw p1) (f_draw p0) (f_draw p2))), .val (.int (f_share (f_draw p2) (f_draw p1) (f_draw p3))), .unset, .unset, .unset, .unset] [(.int (0 : Int32)), (.int (f_draw p2)), (.int (f_draw p3))])) _
  refine st114 _ ?_
  refine XS.istore X114.here hx rfl (hb hby at_124) rfl (l' := #[.val (.int k0), .val (.int p0), .val (.int p1), .val (.int p2), .val (.int p3), .val (.int (0 : Int32)), .val (.int (f_draw p0)), .val (.int (f_draw p1)), .val (.int (f_draw p2)), .val (.int (f_draw p3)), .val (.ref b106), .val (.int (f_share (f_draw p0) (0 : Int32) (f_draw p1))), .val (.int (f_share (f_draw p1) (f_draw p0) (f_draw p2))), .val (.int (f_share (f_draw p2) (f_draw p1) (f_draw p3))), .val (.int (f_share (f_draw p3) (f_draw p2) (0 : Int32))), .unset, .unset, .unset]) rfl ?_
  exact kt
set_option maxRecDepth 65536 in
set_option maxHeartbeats 40000000 in
theorem fill1 {p : Program} {l : Launch} {e : Env} {s : State} {m : MethodId} {args : Array Value} {below : List Frame} {meth : Method} {c : Code} {T0 : State} {Z : State} {a0 : Array Value} {h0 : Heap} {n0 : Nat} (k0 p0 p1 p2 p3 : Int32) (X0 : Stand p l e room_1 s m args below meth c T0 [] 0 0) (hx : p.tables.exec = Jvm.exec) (hZ : Z.Warmed39 s.vm) (hw : ∀ d ∈ tables_1, d.before a0 Z = true) (hby : c.code = code) (hml : c.maxLocals = 18) (hown : s.vm.findClass "com/example/orderly_latch/orderlylatch/name/LatchNameOfPinLaw" = some m.cls) (e0 : T0.heap = h0) (Z0 : n0 ≤ h0.size) (O : Old Z n0 h0) (hc3 : ¬ ((k0 &&& (1 : Int32)) = (0 : Int32))) :
    ∃ (T' : State) (h' : Heap) (b : Addr) (locs' : List Loc), Stand p l e room_1 s m args below meth c T' locs' 1 196 ∧ T'.heap = h' ∧ n0 ≤ h'.size ∧ Old Z n0 h' ∧ Keep h0 h' [] ∧ AF Z h' b .char 196 (Ca (gL (f_draw p0) (f_draw p1) (f_draw p2) (f_draw p3))) ∧ Fr n0 locs' ∧ ∀ target, Steps p.tables e below (T'.setTop (mkF m 126 #[.val (.int k0), .val (.int p0), .val (.int p1), .val (.int p2), .val (.int p3), .val (.int (1 : Int32)), .val (.int (f_draw p0)), .val (.int (f_draw p1)), .val (.int (f_draw p2)), .val (.int (f_draw p3)), .val (.ref b), .val (.int (f_share (f_draw p0) (0 : Int32) (f_draw p1))), .val (.int (f_share (f_draw p1) (f_draw p0) (f_draw p2))), .val (.int (f_share (f_draw p2) (f_draw p1) (f_draw p3))), .val (.int (f_share (f_draw p3) (f_draw p2) (0 : Int32))), .unset, .unset, .unset] [])) target → Steps p.tables e below (T0.setTop (mkF m 0 #[.val (.int k0), .val (.int p0), .val (.int p1), .val (.int p2), .val (.int p3), .unset, .unset, .unset, .unset, .unset, .unset, .unset, .unset, .unset, .unset, .unset, .unset, .unset] [])) target := by
  have N0 := Fr.nil n0
  obtain ⟨_, _, ⟨T115, L115, k115, n115⟩, -, X115, ⟨Lc115, hQ115, l115, y115, z115⟩, st115⟩ := Jvm.LawKit.callS X0 hx (y := (⟨"com/example/orderly_latch/orderlylatch/name/LatchNameOfPinLaw", "draw", "(I)I"⟩ : MethodName)) hown (mvT hZ (hw _ (List.mem_of_getElem? (i := 0) rfl))) (mvT hZ (hw _ (List.mem_of_getElem? (i := 1) rfl))) (mvT hZ (hw _ (List.mem_of_getElem? (i := 2) rfl))) (mvT hZ (hw _ (List.mem_of_getElem? (i := 3) rfl))) (by decide) (backOf (W := 0) (rm_draw l Z a0 hw [] p0 h0 n0 Z0) hZ (hw _ (List.mem_of_getElem? (i := 3) rfl)) (hw _ (List.mem_of_getElem? (i := 2) rfl)) (by decide) (by decide)) (g := (mkF m 14 #[.val (.int k0), .val (.int p0), .val (.int p1), .val (.int p2), .val (.int p3), .val (.int (1 : Int32)), .unset, .unset, .unset, .unset, .unset, .unset, .unset, .unset, .unset, .unset, .unset, .unset] [(.int p0)])) rfl (by rw [hml]; rfl) (argsL := [(.int p0)]) (rest := []) (lenOf pd_0 rfl) rfl (by show 2 * 0 + _ ≤ _; exact Nat.le_of_eq rfl) (hb hby at_14) (fun _ _ => ⟨rfl, e0, (by decide : 0 + 0 ≤ _), (by decide : 0 + 0 ≤ _)⟩)
  dsimp only [Pt.U, Pt.locs, Pt.cells, Pt.slots] at X115 l115 y115 z115 st115 hQ115
  subst l115 y115 z115
  obtain ⟨rfl, N115q, e115⟩ := hQ115
  have N115 := Fr.app N0 N115q
  obtain ⟨_, _, ⟨T116, L116, k116, n116⟩, -, X116, ⟨Lc116, hQ116, l116, y116, z116⟩, st116⟩ := Jvm.LawKit.callS X115 hx (y := (⟨"com/example/orderly_latch/orderlylatch/name/LatchNameOfPinLaw", "draw", "(I)I"⟩ : MethodName)) hown (mvT hZ (hw _ (List.mem_of_getElem? (i := 0) rfl))) (mvT hZ (hw _ (List.mem_of_getElem? (i := 1) rfl))) (mvT hZ (hw _ (List.mem_of_getElem? (i := 2) rfl))) (mvT hZ (hw _ (List.mem_of_getElem? (i := 3) rfl))) (by decide) (backOf (W := 0) (rm_draw l Z a0 hw [] p1 h0 n0 Z0) hZ (hw _ (List.mem_of_getElem? (i := 3) rfl)) (hw _ (List.mem_of_getElem? (i := 2) rfl)) (by decide) (by decide)) (g := (mkF m 20 #[.val (.int k0), .val (.int p0), .val (.int p1), .val (.int p2), .val (.int p3), .val (.int (1 : Int32)), .val (.int (f_draw p0)), .unset, .unset, .unset, .unset, .unset, .unset, .unset, .unset, .unset, .unset, .unset] [(.int p1)])) rfl (by rw [hml]; rfl) (argsL := [(.int p1)]) (rest := []) (lenOf pd_0 rfl) rfl (by show 2 * 0 + _ ≤ _; exact Nat.le_of_eq rfl) (hb hby at_20) (fun _ _ => ⟨rfl, e115, (by decide : 0 + 0 ≤ _), (by decide : 0 + 0 ≤ _)⟩)
  dsimp only [Pt.U, Pt.locs, Pt.cells, Pt.slots] at X116 l116 y116 z116 st116 hQ116
  subst l116 y116 z116
  obtain ⟨rfl, N116q, e116⟩ := hQ116
  have N116 := Fr.app N115 N116q
  obtain ⟨_, _, ⟨T117, L117, k117, n117⟩, -, X117, ⟨Lc117, hQ117, l117, y117, z117⟩, st117⟩ := Jvm.LawKit.callS X116 hx (y := (⟨"com/example/orderly_latch/orderlylatch/name/LatchNameOfPinLaw", "draw", "(I)I"⟩ : MethodName)) hown (mvT hZ (hw _ (List.mem_of_getElem? (i := 0) rfl))) (mvT hZ (hw _ (List.mem_of_getElem? (i := 1) rfl))) (mvT hZ (hw _ (List.mem_of_getElem? (i := 2) rfl))) (mvT hZ (hw _ (List.mem_of_getElem? (i := 3) rfl))) (by decide) (backOf (W := 0) (rm_draw l Z a0 hw [] p2 h0 n0 Z0) hZ (hw _ (List.mem_of_getElem? (i := 3) rfl)) (hw _ (List.mem_of_getElem? (i := 2) rfl)) (by decide) (by decide)) (g := (mkF m 26 #[.val (.int k0), .val (.int p0), .val (.int p1), .val (.int p2), .val (.int p3), .val (.int (1 : Int32)), .val (.int (f_draw p0)), .val (.int (f_draw p1)), .unset, .unset, .unset, .unset, .unset, .unset, .unset, .unset, .unset, .unset] [(.int p2)])) rfl (by rw [hml]; rfl) (argsL := [(.int p2)]) (rest := []) (lenOf pd_0 rfl) rfl (by show 2 * 0 + _ ≤ _; exact Nat.le_of_eq rfl) (hb hby at_26) (fun _ _ => ⟨rfl, e116, (by decide : 0 + 0 ≤ _), (by decide : 0 + 0 ≤ _)⟩)
  dsimp only [Pt.U, Pt.locs, Pt.cells, Pt.slots] at X117 l117 y117 z117 st117 hQ117
  subst l117 y117 z117
  obtain ⟨rfl, N117q, e117⟩ := hQ117
  have N117 := Fr.app N116 N117q
  obtain ⟨_, _, ⟨T118, L118, k118, n118⟩, -, X118, ⟨Lc118, hQ118, l118, y118, z118⟩, st118⟩ := Jvm.LawKit.callS X117 hx (y := (⟨"com/example/orderly_latch/orderlylatch/name/LatchNameOfPinLaw", "draw", "(I)I"⟩ : MethodName)) hown (mvT hZ (hw _ (List.mem_of_getElem? (i := 0) rfl))) (mvT hZ (hw _ (List.mem_of_getElem? (i := 1) rfl))) (mvT hZ (hw _ (List.mem_of_getElem? (i := 2) rfl))) (mvT hZ (hw _ (List.mem_of_getElem? (i := 3) rfl))) (by decide) (backOf (W := 0) (rm_draw l Z a0 hw [] p3 h0 n0 Z0) hZ (hw _ (List.mem_of_getElem? (i := 3) rfl)) (hw _ (List.mem_of_getElem? (i := 2) rfl)) (by decide) (by decide)) (g := (mkF m 33 #[.val (.int k0), .val (.int p0), .val (.int p1), .val (.int p2), .val (.int p3), .val (.int (1 : Int32)), .val (.int (f_draw p0)), .val (.int (f_draw p1)), .val (.int (f_draw p2)), .unset, .unset, .unset, .unset, .unset, .unset, .unset, .unset, .unset] [(.int p3)])) rfl (by rw [hml]; rfl) (argsL := [(.int p3)]) (rest := []) (lenOf pd_0 rfl) rfl (by show 2 * 0 + _ ≤ _; exact Nat.le_of_eq rfl) (hb hby at_33) (fun _ _ => ⟨rfl, e117, (by decide : 0 + 0 ≤ _), (by decide : 0 + 0 ≤ _)⟩)
  dsimp only [Pt.U, Pt.locs, Pt.cells, Pt.slots] at X118 l118 y118 z118 st118 hQ118
  subst l118 y118 z118
  obtain ⟨rfl, N118q, e118⟩ := hQ118
  have N118 := Fr.app N117 N118q
  obtain ⟨T119, h119, X119, e119, E119, A119, st119⟩ := nwA X118 hx hZ (hw _ (List.mem_of_getElem? (i := 5) rfl)) e118 (g := (mkF m 46 #[.val (.int k0), .val (.int p0), .val (.int p1), .val (.int p2), .val (.int p3), .val (.int (1 : Int32)), .val (.int (f_draw p0)), .val (.int (f_draw p1)), .val (.int (f_draw p2)), .val (.int (f_draw p3)), .unset, .unset, .unset, .unset, .unset, .unset, .unset, .unset] [(.int (196 : Int32))])) rfl (hb hby at_46) (n := 196) rfl (cap := 196) (by decide) (by decide) (by decide) (by decide)
  obtain ⟨b119, q119⟩ : ∃ z, z = h0.size := ⟨_, rfl⟩
  rw [← q119] at A119 st119
  have V119 : AF Z h119 b119 .char 196 (fun _ => (.int (0 : Int32))) := A119
  have g_b119 : n0 ≤ b119 := Nat.le_trans Z0 (Nat.le_of_eq q119.symm)
  have sz_b119 : h0.size ≤ b119 := Nat.le_trans (Keep.refl h0 []).1 (Nat.le_of_eq q119.symm)
  have K119 := (Keep.refl h0 []).ext E119
  have Z119 : n0 ≤ h119.size := Nat.le_trans Z0 E119.1
  have O119 := O.ext E119
  obtain ⟨T120, h120, X120, e120, W120, st120⟩ := stCh X119 hx hZ e119 V119 (i := 0) (by decide) (by decide) (x := ((f_draw p0).toUInt32.toUInt16.toUInt32.toInt32)) (g := (mkF m 62 #[.val (.int k0), .val (.int p0), .val (.int p1), .val (.int p2), .val (.int p3), .val (.int (1 : Int32)), .val (.int (f_draw p0)), .val (.int (f_draw p1)), .val (.int (f_draw p2)), .val (.int (f_draw p3)), .val (.ref b119), .unset, .unset, .unset, .unset, .unset, .unset, .unset] [(.int ((f_draw p0).toUInt32.toUInt16.toUInt32.toInt32)), (.int (0 : Int32)), (.ref b119)])) rfl rfl (hb hby at_62)
  have A120 := V119.wr W120
  have N120 := Fr.snoc X120 N118 g_b119
  have K120 := K119.wr W120 (Or.inr sz_b119)
  have Z120 : n0 ≤ h120.size := Nat.le_trans Z119 (Keep.of_wr W120).1
  have O120 := O119.wr W120 g_b119
  obtain ⟨T121, h121, X121, e121, W121, st121⟩ := stCh X120 hx hZ e120 A120 (i := 1) (by decide) (by decide) (x := ((f_draw p1).toUInt32.toUInt16.toUInt32.toInt32)) (g := (mkF m 69 #[.val (.int k0), .val (.int p0), .val (.int p1), .val (.int p2), .val (.int p3), .val (.int (1 : Int32)), .val (.int (f_draw p0)), .val (.int (f_draw p1)), .val (.int (f_draw p2)), .val (.int (f_draw p3)), .val (.ref b119), .unset, .unset, .unset, .unset, .unset, .unset, .unset] [(.int ((f_draw p1).toUInt32.toUInt16.toUInt32.toInt32)), (.int (1 : Int32)), (.ref b119)])) rfl rfl (hb hby at_69)
  have A121 := A120.wr W121
  have N121 := Fr.snoc X121 N120 g_b119
  have K121 := K120.wr W121 (Or.inr sz_b119)
  have Z121 : n0 ≤ h121.size := Nat.le_trans Z120 (Keep.of_wr W121).1
  have O121 := O120.wr W121 g_b119
  obtain ⟨T122, h122, X122, e122, W122, st122⟩ := stCh X121 hx hZ e121 A121 (i := 2) (by decide) (by decide) (x := ((f_draw p2).toUInt32.toUInt16.toUInt32.toInt32)) (g := (mkF m 76 #[.val (.int k0), .val (.int p0), .val (.int p1), .val (.int p2), .val (.int p3), .val (.int (1 : Int32)), .val (.int (f_draw p0)), .val (.int (f_draw p1)), .val (.int (f_draw p2)), .val (.int (f_draw p3)), .val (.ref b119), .unset, .unset, .unset, .unset, .unset, .unset, .unset] [(.int ((f_draw p2).toUInt32.toUInt16.toUInt32.toInt32)), (.int (2 : Int32)), (.ref b119)])) rfl rfl (hb hby at_76)
  have A122 := A121.wr W122
  have N122 := Fr.snoc X122 N121 g_b119
  have K122 := K121.wr W122 (Or.inr sz_b119)
  have Z122 : n0 ≤ h122.size := Nat.le_trans Z121 (Keep.of_wr W122).1
  have O122 := O121.wr W122 g_b119
  obtain ⟨T123, h123, X123, e123, W123, st123⟩ := stCh X122 hx hZ e122 A122 (i := 3) (by decide) (by decide) (x := ((f_draw p3).toUInt32.toUInt16.toUInt32.toInt32)) (g := (mkF m 83 #[.val (.int k0), .val (.int p0), .val (.int p1), .val (.int p2), .val (.int p3), .val (.int (1 : Int32)), .val (.int (f_draw p0)), .val (.int (f_draw p1)), .val (.int (f_draw p2)), .val (.int (f_draw p3)), .val (.ref b119), .unset, .unset, .unset, .unset, .unset, .unset, .unset] [(.int ((f_draw p3).toUInt32.toUInt16.toUInt32.toInt32)), (.int (3 : Int32)), (.ref b119)])) rfl rfl (hb hby at_83)
  have A123 := A122.wr W123
  have N123 := Fr.snoc X123 N122 g_b119
  have K123 := K122.wr W123 (Or.inr sz_b119)
  have Z123 : n0 ≤ h123.size := Nat.le_trans Z122 (Keep.of_wr W123).1
  have O123 := O122.wr W123 g_b119
  obtain ⟨_, _, ⟨T124, L124, k124, n124⟩, -, X124, ⟨Lc124, hQ124, l124, y124, z124⟩, st124⟩ := Jvm.LawKit.callS X123 hx (y := (⟨"com/example/orderly_latch/orderlylatch/name/LatchNameOfPinLaw", "share", "(III)I"⟩ : MethodName)) hown (mvT hZ (hw _ (List.mem_of_getElem? (i := 6) rfl))) (mvT hZ (hw _ (List.mem_of_getElem? (i := 7) rfl))) (mvT hZ (hw _ (List.mem_of_getElem? (i := 2) rfl))) (mvT hZ (hw _ (List.mem_of_getElem? (i := 8) rfl))) (by decide) (backOf (W := 0) (rm_share l Z a0 hw [] (f_draw p0) (0 : Int32) (f_draw p1) h123 n0 Z123) hZ (hw _ (List.mem_of_getElem? (i := 8) rfl)) (hw _ (List.mem_of_getElem? (i := 2) rfl)) (by decide) (by decide)) (g := (mkF m 89 #[.val (.int k0), .val (.int p0), .val (.int p1), .val (.int p2), .val (.int p3), .val (.int (1 : Int32)), .val (.int (f_draw p0)), .val (.int (f_draw p1)), .val (.int (f_draw p2)), .val (.int (f_draw p3)), .val (.ref b119), .unset, .unset, .unset, .unset, .unset, .unset, .unset] [(.int (f_draw p1)), (.int (0 : Int32)), (.int (f_draw p0))])) rfl (by rw [hml]; rfl) (argsL := [(.int (f_draw p0)), (.int (0 : Int32)), (.int (f_draw p1))]) (rest := []) (lenOf pd_1 rfl) rfl (by show 2 * 0 + _ ≤ _; exact Nat.le_of_eq rfl) (hb hby at_89) (fun _ _ => ⟨rfl, e123, (by decide : 1 + 0 ≤ _), (by decide : 196 + 0 ≤ _)⟩)
  dsimp only [Pt.U, Pt.locs, Pt.cells, Pt.slots] at X124 l124 y124 z124 st124 hQ124
  subst l124 y124 z124
  obtain ⟨rfl, N124q, e124⟩ := hQ124
  have N124 := Fr.app N123 N124q
  obtain ⟨_, _, ⟨T125, L125, k125, n125⟩, -, X125, ⟨Lc125, hQ125, l125, y125, z125⟩, st125⟩ := Jvm.LawKit.callS X124 hx (y := (⟨"com/example/orderly_latch/orderlylatch/name/LatchNameOfPinLaw", "share", "(III)I"⟩ : MethodName)) hown (mvT hZ (hw _ (List.mem_of_getElem? (i := 6) rfl))) (mvT hZ (hw _ (List.mem_of_getElem? (i := 7) rfl))) (mvT hZ (hw _ (List.mem_of_getElem? (i := 2) rfl))) (mvT hZ (hw _ (List.mem_of_getElem? (i := 8) rfl))) (by decide) (backOf (W := 0) (rm_share l Z a0 hw [] (f_draw p1) (f_draw p0) (f_draw p2) h123 n0 Z123) hZ (hw _ (List.mem_of_getElem? (i := 8) rfl)) (hw _ (List.mem_of_getElem? (i := 2) rfl)) (by decide) (by decide)) (g := (mkF m 100 #[.val (.int k0), .val (.int p0), .val (.int p1), .val (.int p2), .val (.int p3), .val (.int (1 : Int32)), .val (.int (f_draw p0)), .val (.int (f_draw p1)), .val (.int (f_draw p2)), .val (.int (f_draw p3)), .val (.ref b119), .val (.int (f_share (f_draw p0) (0 : Int32) (f_draw p1))), .unset, .unset, .unset, .unset, .unset, .unset] [(.int (f_draw p2)), (.int (f_draw p0)), (.int (f_draw p1))])) rfl (by rw [hml]; rfl) (argsL := [(.int (f_draw p1)), (.int (f_draw p0)), (.int (f_draw p2))]) (rest := []) (lenOf pd_1 rfl) rfl (by show 2 * 0 + _ ≤ _; exact Nat.le_of_eq rfl) (hb hby at_100) (fun _ _ => ⟨rfl, e124, (by decide : 1 + 0 ≤ _), (by decide : 196 + 0 ≤ _)⟩)
  dsimp only [Pt.U, Pt.locs, Pt.cells, Pt.slots] at X125 l125 y125 z125 st125 hQ125
  subst l125 y125 z125
  obtain ⟨rfl, N125q, e125⟩ := hQ125
  have N125 := Fr.app N124 N125q
  obtain ⟨_, _, ⟨T126, L126, k126, n126⟩, -, X126, ⟨Lc126, hQ126, l126, y126, z126⟩, st126⟩ := Jvm.LawKit.callS X125 hx (y := (⟨"com/example/orderly_latch/orderlylatch/name/LatchNameOfPinLaw", "share", "(III)I"⟩ : MethodName)) hown (mvT hZ (hw _ (List.mem_of_getElem? (i := 6) rfl))) (mvT hZ (hw _ (List.mem_of_getElem? (i := 7) rfl))) (mvT hZ (hw _ (List.mem_of_getElem? (i := 2) rfl))) (mvT hZ (hw _ (List.mem_of_getElem? (i := 8) rfl))) (by decide) (backOf (W := 0) (rm_share l Z a0 hw [] (f_draw p2) (f_draw p1) (f_draw p3) h123 n0 Z123) hZ (hw _ (List.mem_of_getElem? (i := 8) rfl)) (hw _ (List.mem_of_getElem? (i := 2) rfl)) (by decide) (by decide)) (g := (mkF m 111 #[.val (.int k0), .val (.int p0), .val (.int p1), .val (.int p2), .val (.int p3), .val (.int (1 : Int32)), .val (.int (f_draw p0)), .val (.int (f_draw p1)), .val (.int (f_draw p2)), .val (.int (f_draw p3)), .val (.ref b119), .val (.int (f_share (f_draw p0) (0 : Int32) (f_draw p1))), .val (.int (f_share (f_draw p1) (f_draw p0) (f_draw p2))), .unset, .unset, .unset, .unset, .unset] [(.int (f_draw p3)), (.int (f_draw p1)), (.int (f_draw p2))])) rfl (by rw [hml]; rfl) (argsL := [(.int (f_draw p2)), (.int (f_draw p1)), (.int (f_draw p3))]) (rest := []) (lenOf pd_1 rfl) rfl (by show 2 * 0 + _ ≤ _; exact Nat.le_of_eq rfl) (hb hby at_111) (fun _ _ => ⟨rfl, e125, (by decide : 1 + 0 ≤ _), (by decide : 196 + 0 ≤ _)⟩)
  dsimp only [Pt.U, Pt.locs, Pt.cells, Pt.slots] at X126 l126 y126 z126 st126 hQ126
  subst l126 y126 z126
  obtain ⟨rfl, N126q, e126⟩ := hQ126
  have N126 := Fr.app N125 N126q
  obtain ⟨_, _, ⟨T127, L127, k127, n127⟩, -, X127, ⟨Lc127, hQ127, l127, y127, z127⟩, st127⟩ := Jvm.LawKit.callS X126 hx (y := (⟨"com/example/orderly_latch/orderlylatch/name/LatchNameOfPinLaw", "share", "(III)I"⟩ : MethodName)) hown (mvT hZ (hw _ (List.mem_of_getElem? (i := 6) rfl))) (mvT hZ (hw _ (List.mem_of_getElem? (i := 7) rfl))) (mvT hZ (hw _ (List.mem_of_getElem? (i := 2) rfl))) (mvT hZ (hw _ (List.mem_of_getElem? (i := 8) rfl))) (by decide) (backOf (W := 0) (rm_share l Z a0 hw [] (f_draw p3) (f_draw p2) (0 : Int32) h123 n0 Z123) hZ (hw _ (List.mem_of_getElem? (i := 8) rfl)) (hw _ (List.mem_of_getElem? (i := 2) rfl)) (by decide) (by decide)) (g := (mkF m 121 #[.val (.int k0), .val (.int p0), .val (.int p1), .val (.int p2), .val (.int p3), .val (.int (1 : Int32)), .val (.int (f_draw p0)), .val (.int (f_draw p1)), .val (.int (f_draw p2)), .val (.int (f_draw p3)), .val (.ref b119), .val (.int (f_share (f_draw p0) (0 : Int32) (f_draw p1))), .val (.int (f_share (f_draw p1) (f_draw p0) (f_draw p2))), .val (.int (f_share (f_draw p2) (f_draw p1) (f_draw p3))), .unset, .unset, .unset, .unset] [(.int (0 : Int32)), (.int (f_draw p2)), (.int (f_draw p3))])) rfl (by rw [hml]; rfl) (argsL := [(.int (f_draw p3)), (.int (f_draw p2)), (.int (0 : Int32))]) (rest := []) (lenOf pd_1 rfl) rfl (by show 2 * 0 + _ ≤ _; exact Nat.le_of_eq rfl) (hb hby at_121) (fun _ _ => ⟨rfl, e126, (by decide : 1 + 0 ≤ _), (by decide : 196 + 0 ≤ _)⟩)
  dsimp only [Pt.U, Pt.locs, Pt.cells, Pt.slots] at X127 l127 y127 z127 st127 hQ127
  subst l127 y127 z127
  obtain ⟨rfl, N127q, e127⟩ := hQ127
  have N127 := Fr.app N126 N127q
  refine ⟨_, _, _, _, X127, e127, Z123, O123, K123, A123.congr fun j _ => fill4 (draw_ch _) (draw_ch _) (draw_ch _) (draw_ch _) j, N127, fun target kt => ?_⟩
  show Steps p.tables e below (T0.setTop (mkF m 0 #[.val (.int k0), .val (.int p0), .val (.int p1), .val (.int p2), .val (.int p3), .unset, .unset, .unset, .unset, .unset, .unset, .unset, .unset, .unset, .unset, .unset, .unset, .unset] [])) _
  refine XS.iloadN X0.here hx rfl (hb hby at_0) rfl ?_
  refine XS.iconst X0.here hx rfl (hb hby at_1) ?_
  refine XS.iand X0.here hx rfl (hb hby at_2) rfl ?_
  refine XS.ifNo X0.here hx rfl (hb hby at_3) rfl ((if0 _ _).trans (feq hc3).1) ?_
  refine XS.iconst X0.here hx rfl (hb hby at_6) ?_
  refine XS.goto X0.here hx rfl (pc0 := 7) (pc' := 11) rfl (hb hby at_7) (by decide) (by decide) ?_
  show Steps p.tables e below (T0.setTop (mkF m 11 #[.val (.int k0), .val (.int p0), .val (.int p1), .val (.int p2), .val (.int p3), .unset, .unset, .unset, .unset, .unset, .unset, .unset, .unset, .unset, .unset, .unset, .unset, .unset] [(.int (1 : Int32))])) _
  refine XS.istore X0.here hx rfl (hb hby at_11) rfl (l' := #[.val (.int k0), .val (.int p0), .val (.int p1), .val (.int p2), .val (.int p3), .val (.int (1 : Int32)), .unset, .unset, .unset, .unset, .unset, .unset, .unset, .unset, .unset, .unset, .unset, .unset]) rfl ?_
  refine XS.iloadN X0.here hx rfl (hb hby at_13) rfl ?_
  show Steps p.tables e below (T0.setTop (mkF m 14 #[.val (.int k0), .val (.int p0), .val (.int p1), .val (.int p2), .val (.int p3), .val (.int (1 : Int32)), .unset, .unset, .unset, .unset, .unset, .unset, .unset, .unset, .unset, .unset, .unset, .unset] [(.int p0)])) _
  refine st115 _ ?_
  refine XS.istore X115.here hx rfl (hb hby at_17) rfl (l' := #[.val (.int k0), .val (.int p0), .val (.int p1), .val (.int p2), .val (.int p3), .val (.int (1 : Int32)), .val (.int (f_draw p0)), .unset, .unset, .unset, .unset, .unset, .unset, .unset, .unset, .unset, .unset, .unset]) rfl ?_
  refine XS.iloadN X115.here hx rfl (hb hby at_19) rfl ?_
  show Steps p.tables e below (T115.setTop (mkF m 20 #[.val (.int k0), .val (.int p0), .val (.int p1), .val (.int p2), .val (.int p3), .val (.int (1 : Int32)), .val (.int (f_draw p0)), .unset, .unset, .unset, .unset, .unset, .unset, .unset, .unset, .unset, .unset, .unset] [(.int p1)])) _
  refine st116 _ ?_
  refine XS.istore X116.here hx rfl (hb hby at_23) rfl (l' := #[.val (.int k0), .val (.int p0), .val (.int p1), .val (.int p2), .val (.int p3), .val (.int (1 : Int32)), .val (.int (f_draw p0)), .val (.int (f_draw p1)), .unset, .unset, .unset, .unset, .unset, .unset, .unset, .unset, .unset, .unset]) rfl ?_
  refine XS.iloadN X116.here hx rfl (hb hby at_25) rfl ?_
  show Steps p.tables e below (T116.setTop (mkF m 26 #[.val (.int k0), .val (.int p0), .val (.int p1), .val (.int p2), .val (.int p3), .val (.int (1 : Int32)), .val (.int (f_draw p0)), .val (.int (f_draw p1)), .unset, .unset, .unset, .unset, .unset, .unset, .unset, .unset, .unset, .unset] [(.int p2)])) _
  refine st117 _ ?_
  refine XS.istore X117.here hx rfl (hb hby at_29) rfl (l' := #[.val (.int k0), .val (.int p0), .val (.int p1), .val (.int p2), .val (.int p3), .val (.int (1 : Int32)), .val (.int (f_draw p0)), .val (.int (f_draw p1)), .val (.int (f_draw p2)), .unset, .unset, .unset, .unset, .unset, .unset, .unset, .unset, .unset]) rfl ?_
  refine XS.iload X117.here hx rfl (hb hby at_31) rfl ?_
  show Steps p.tables e below (T117.setTop (mkF m 33 #[.val (.int k0), .val (.int p0), .val (.int p1), .val (.int p2), .val (.int p3), .val (.int (1 : Int32)), .val (.int (f_draw p0)), .val (.int (f_draw p1)), .val (.int (f_draw p2)), .unset, .unset, .unset, .unset, .unset, .unset, .unset, .unset, .unset] [(.int p3)])) _
  refine st118 _ ?_
  refine XS.istore X118.here hx rfl (hb hby at_36) rfl (l' := #[.val (.int k0), .val (.int p0), .val (.int p1), .val (.int p2), .val (.int p3), .val (.int (1 : Int32)), .val (.int (f_draw p0)), .val (.int (f_draw p1)), .val (.int (f_draw p2)), .val (.int (f_draw p3)), .unset, .unset, .unset, .unset, .unset, .unset, .unset, .unset]) rfl ?_
  refine XS.iload X118.here hx rfl (hb hby at_38) rfl ?_
  refine XS.ifNo X118.here hx rfl (hb hby at_40) rfl ((if0 _ _).trans (feq (by decide : ¬ ((1 : Int32) = (0 : Int32)))).1) ?_
  refine XS.sipush X118.here hx rfl (hb hby at_43) ?_
  show Steps p.tables e below (T118.setTop (mkF m 46 #[.val (.int k0), .val (.int p0), .val (.int p1), .val (.int p2), .val (.int p3), .val (.int (1 : Int32)), .val (.int (f_draw p0)), .val (.int (f_draw p1)), .val (.int (f_draw p2)), .val (.int (f_draw p3)), .unset, .unset, .unset, .unset, .unset, .unset, .unset, .unset] [(.int (196 : Int32))])) _
  refine st119 _ ?_
  refine XS.goto X119.here hx rfl (pc0 := 48) (pc' := 54) rfl (hb hby at_48) (by decide) (by decide) ?_
  refine XS.astore X119.here hx rfl (hb hby at_54) rfl rfl (l' := #[.val (.int k0), .val (.int p0), .val (.int p1), .val (.int p2), .val (.int p3), .val (.int (1 : Int32)), .val (.int (f_draw p0)), .val (.int (f_draw p1)), .val (.int (f_draw p2)), .val (.int (f_draw p3)), .val (.ref b119), .unset, .unset, .unset, .unset, .unset, .unset, .unset]) rfl ?_
  refine XS.aload X119.here hx rfl (hb hby at_56) rfl rfl ?_
  refine XS.iconst X119.here hx rfl (hb hby at_58) ?_
  refine XS.iload X119.here hx rfl (hb hby at_59) rfl ?_
  show Steps p.tables e below (T119.setTop (mkF m 61 #[.val (.int k0), .val (.int p0), .val (.int p1), .val (.int p2), .val (.int p3), .val (.int (1 : Int32)), .val (.int (f_draw p0)), .val (.int (f_draw p1)), .val (.int (f_draw p2)), .val (.int (f_draw p3)), .val (.ref b119), .unset, .unset, .unset, .unset, .unset, .unset, .unset] [(.int (f_draw p0)), (.int (0 : Int32)), (.ref b119)])) _
  refine XS.i2c X119.here hx rfl (hb hby at_61) rfl ?_
  show Steps p.tables e below (T119.setTop (mkF m 62 #[.val (.int k0), .val (.int p0), .val (.int p1), .val (.int p2), .val (.int p3), .val (.int (1 : Int32)), .val (.int (f_draw p0)), .val (.int (f_draw p1)), .val (.int (f_draw p2)), .val (.int (f_draw p3)), .val (.ref b119), .unset, .unset, .unset, .unset, .unset, .unset, .unset] [(.int ((f_draw p0).toUInt32.toUInt16.toUInt32.toInt32)), (.int (0 : Int32)), (.ref b119)])) _
  refine st120 _ ?_
  refine XS.aload X120.here hx rfl (hb hby at_63) rfl rfl ?_
  refine XS.iconst X120.here hx rfl (hb hby at_65) ?_
  refine XS.iload X120.here hx rfl (hb hby at_66) rfl ?_
  refine XS.i2c X120.here hx rfl (hb hby at_68) rfl ?_
  show Steps p.tables e below (T120.setTop (mkF m 69 #[.val (.int k0), .val (.int p0), .val (.int p1), .val (.int p2), .val (.int p3), .val (.int (1 : Int32)), .val (.int (f_draw p0)), .val (.int (f_draw p1)), .val (.int (f_draw p2)), .val (.int (f_draw p3)), .val (.ref b119), .unset, .unset, .unset, .unset, .unset, .unset, .unset] [(.int ((f_draw p1).toUInt32.toUInt16.toUInt32.toInt32)), (.int (1 : Int32)), (.ref b119)])) _
  refine st121 _ ?_
  refine XS.aload X121.here hx rfl (hb hby at_70) rfl rfl ?_
  refine XS.iconst X121.here hx rfl (hb hby at_72) ?_
  refine XS.iload X121.here hx rfl (hb hby at_73) rfl ?_
  refine XS.i2c X121.here hx rfl (hb hby at_75) rfl ?_
  show Steps p.tables e below (T121.setTop (mkF m 76 #[.val (.int k0), .val (.int p0), .val (.int p1), .val (.int p2), .val (.int p3), .val (.int (1 : Int32)), .val (.int (f_draw p0)), .val (.int (f_draw p1)), .val (.int (f_draw p2)), .val (.int (f_draw p3)), .val (.ref b119), .unset, .unset, .unset, .unset, .unset, .unset, .unset] [(.int ((f_draw p2).toUInt32.toUInt16.toUInt32.toInt32)), (.int (2 : Int32)), (.ref b119)])) _
  refine st122 _ ?_
  refine XS.aload X122.here hx rfl (hb hby at_77) rfl rfl ?_
  refine XS.iconst X122.here hx rfl (hb hby at_79) ?_
  refine XS.iload X122.here hx rfl (hb hby at_80) rfl ?_
  refine XS.i2c X122.here hx rfl (hb hby at_82) rfl ?_
  show Steps p.tables e below (T122.setTop (mkF m 83 #[.val (.int k0), .val (.int p0), .val (.int p1), .val (.int p2), .val (.int p3), .val (.int (1 : Int32)), .val (.int (f_draw p0)), .val (.int (f_draw p1)), .val (.int (f_draw p2)), .val (.int (f_draw p3)), .val (.ref b119), .unset, .unset, .unset, .unset, .unset, .unset, .unset] [(.int ((f_draw p3).toUInt32.toUInt16.toUInt32.toInt32)), (.int (3 : Int32)), (.ref b119)])) _
  refine st123 _ ?_
  refine XS.iload X123.here hx rfl (hb hby at_84) rfl ?_
  refine XS.iconst X123.here hx rfl (hb hby at_86) ?_
  refine XS.iload X123.here hx rfl (hb hby at_87) rfl ?_
  show Steps p.tables e below (T123.setTop (mkF m 89 #[.val (.int k0), .val (.int p0), .val (.int p1), .val (.int p2), .val (.int p3), .val (.int (1 : Int32)), .val (.int (f_draw p0)), .val (.int (f_draw p1)), .val (.int (f_draw p2)), .val (.int (f_draw p3)), .val (.ref b119), .unset, .unset, .unset, .unset, .unset, .unset, .unset] [(.int (f_draw p1)), (.int (0 : Int32)), (.int (f_draw p0))])) _
  refine st124 _ ?_
  refine XS.istore X124.here hx rfl (hb hby at_92) rfl (l' := #[.val (.int k0), .val (.int p0), .val (.int p1), .val (.int p2), .val (.int p3), .val (.int (1 : Int32)), .val (.int (f_draw p0)), .val (.int (f_draw p1)), .val (.int (f_draw p2)), .val (.int (f_draw p3)), .val (.ref b119), .val (.int (f_share (f_draw p0) (0 : Int32) (f_draw p1))), .unset, .unset, .unset, .unset, .unset, .unset]) rfl ?_
  refine XS.iload X124.here hx rfl (hb hby at_94) rfl ?_
  refine XS.iload X124.here hx rfl (hb hby at_96) rfl ?_
  refine XS.iload X124.here hx rfl (hb hby at_98) rfl ?_
  show Steps p.tables e below (T124.setTop (mkF m 100 #[.val (.int k0), .val (.int p0), .val (.int p1), .val (.int p2), .val (.int p3), .val (.int (1 : Int32)), .val (.int (f_draw p0)), .val (.int (f_draw p1)), .val (.int (f_draw p2)), .val (.int (f_draw p3)), .val (.ref b119), .val (.int (f_share (f_draw p0) (0 : Int32) (f_draw p1))), .unset, .unset, .unset, .unset, .unset, .unset] [(.int (f_draw p2)), (.int (f_draw p0)), (.int (f_draw p1))])) _
  refine st125 _ ?_
  refine XS.istore X125.here hx rfl (hb hby at_103) rfl (l' := #[.val (.int k0), .val (.int p0), .val (.int p1), .val (.int p2), .val (.int p3), .val (.int (1 : Int32)), .val (.int (f_draw p0)), .val (.int (f_draw p1)), .val (.int (f_draw p2)), .val (.int (f_draw p3)), .val (.ref b119), .val (.int (f_share (f_draw p0) (0 : Int32) (f_draw p1))), .val (.int (f_share (f_draw p1) (f_draw p0) (f_draw p2))), .unset, .unset, .unset, .unset, .unset]) rfl ?_
  refine XS.iload X125.here hx rfl (hb hby at_105) rfl ?_
  refine XS.iload X125.here hx rfl (hb hby at_107) rfl ?_
  refine XS.iload X125.here hx rfl (hb hby at_109) rfl ?_
  show Steps p.tables e below (T125.setTop (mkF m 111 #[.val (.int k0), .val (.int p0), .val (.int p1), .val (.int p2), .val (.int p3), .val (.int (1 : Int32)), .val (.int (f_draw p0)), .val (.int (f_draw p1)), .val (.int (f_draw p2)), .val (.int (f_draw p3)), .val (.ref b119), .val (.int (f_share (f_draw p0) (0 : Int32) (f_draw p1))), .val (.int (f_share (f_draw p1) (f_draw p0) (f_draw p2))), .unset, .unset, .unset, .unset, .unset] [(.int (f_draw p3)), (.int (f_draw p1)), (.int (f_draw p2))])) _
  refine st126 _ ?_
  refine XS.istore X126.here hx rfl (hb hby at_114) rfl (l' := #[.val (.int k0), .val (.int p0), .val (.int p1), .val (.int p2), .val (.int p3), .val (.int (1 : Int32)), .val (.int (f_draw p0)), .val (.int (f_draw p1)), .val (.int (f_draw p2)), .val (.int (f_draw p3)), .val (.ref b119), .val (.int (f_share (f_draw p0) (0 : Int32) (f_draw p1))), .val (.int (f_share (f_draw p1) (f_draw p0) (f_draw p2))), .val (.int (f_share (f_draw p2) (f_draw p1) (f_draw p3))), .unset, .unset, .unset, .unset]) rfl ?_
  refine XS.iload X126.here hx rfl (hb hby at_116) rfl ?_
  refine XS.iload X126.here hx rfl (hb hby at_118) rfl ?_
  refine XS.iconst X126.here hx rfl (hb hby at_120) ?_
  show Steps p.tables e below (T126.setTop (mkF m 121 #[.val (.int k0), .val (.int p0), .val (.int p1), .val (.int p2), .val (.int p3), .val (.int (1 : Int32)), .val (.int (f_draw p0)), .val (.int (f_draw p1)), .val (.int (f_draw p2)), .val (.int (f_draw p3)), .val (.ref b119), .val (.int (f_share (f_draw p0) (0 : Int32) (f_draw p1))), .val (.int (f_share (f_draw p1) (f_draw p0) (f_draw p2))), .val (.int (f_share (f_draw p2) (f_draw p1) (f_draw p3))), .unset, .unset, .unset, .unset] [(.int (0 : Int32)), (.int (f_draw p2)), (.int (f_draw p3))])) _
  refine st127 _ ?_
  refine XS.istore X127.here hx rfl (hb hby at_124) rfl (l' := #[.val (.int k0), .val (.int p0), .val (.int p1), .val (.int p2), .val (.int p3), .val (.int (1 : Int32)), .val (.int (f_draw p0)), .val (.int (f_draw p1)), .val (.int (f_draw p2)), .val (.int (f_draw p3)), .val (.ref b119), .val (.int (f_share (f_draw p0) (0 : Int32) (f_draw p1))), .val (.int (f_share (f_draw p1) (f_draw p0) (f_draw p2))), .val (.int (f_share (f_draw p2) (f_draw p1) (f_draw p3))), .val (.int (f_share (f_draw p3) (f_draw p2) (0 : Int32))), .unset, .unset, .unset]) rfl ?_
  exact kt
set_option maxRecDepth 65536 in
set_option maxHeartbeats 40000000 in
theorem rm0_00 (l : Launch) (Z : State) (a0 : Array Value) (hw : ∀ d ∈ tables_1, d.before a0 Z = true) (ws : List Jvm.Cond) (k0 : Int32) (p0 : Int32) (p1 : Int32) (p2 : Int32) (p3 : Int32)  (h0 : Heap) (n0 : Nat) (Z0 : n0 ≤ h0.size) (O : Old Z n0 h0) (SK : StrSta Z) (hbg0 : (k0 &&& (1 : Int32)) = (0 : Int32)) (hc128 : (f_share (f_draw p0) (0 : Int32) (f_draw p1)) < (0 : Int32)) :
    MetFree l x (head1 (Jvm.Cond.code x code maxLocals ret :: ws) room_1) (fun aa_ U_ => aa_ = #[(.int k0), (.int p0), (.int p1), (.int p2), (.int p3)] ∧ Z.Warmed39 U_.vm ∧ U_.heap = h0) (fun _ _ _ _ _ => True) (fun _ U_ o_ V_ => ∃ v_ L_, o_ = .returned v_ ∧ Q0  h0 n0 v_ V_.heap L_ ∧ ReturnedEndW U_ o_ V_ L_ room_1.cells room_1.slots) := by
  refine MetFree.of_bodySF (plainFor_of_name pn_0) hisR ?_
  intro p e s m args below meth c s₁ Bd hml0 hP hK
  obtain ⟨rfl, hZ, hh⟩ := hP
  have hx := Bd.exec
  have hby := Bd.bytes
  have hml : c.maxLocals = 18 := hml0
  have hown : s.vm.findClass "com/example/orderly_latch/orderlylatch/name/LatchNameOfPinLaw" = some m.cls := findClass_of_methodNamed Bd.named
  have hnm := (name_of_methodNamed Bd.named Bd.method).1
  have X0 : Stand p l e room_1 s m #[(.int k0), (.int p0), (.int p1), (.int p2), (.int p3)] below meth c s₁ [] 0 0 := Stand.of_body Bd
  have e0 : s₁.heap = h0 := by rw [← hh, Bd.state]; rfl
  have N0 := Fr.nil n0
  have pre0 : ∀ zz, Steps p.tables e below (s₁.setTop (mkF m 0 #[.val (.int k0), .val (.int p0), .val (.int p1), .val (.int p2), .val (.int p3), .unset, .unset, .unset, .unset, .unset, .unset, .unset, .unset, .unset, .unset, .unset, .unset, .unset] [])) zz → Steps p.tables e below (s₁.setTop (entryFrame m #[(.int k0), (.int p0), (.int p1), (.int p2), (.int p3)] maxLocals)) zz := fun zz k => castTop (ef_0 m k0 p0 p1 p2 p3) k
  obtain ⟨Tf, hf1, b, locs1, Xf, ef, Zf, Of, Kf, Vf, Nf, stf⟩ := fill0 (n0 := n0) k0 p0 p1 p2 p3 X0 hx hZ hw hby hml hown e0 Z0 O hbg0
  obtain ⟨fs, hr, hrun, hended, -, hWW, hBB, hSS⟩ := Stand.leaveW (s := s) (vm₁ := s.vm) Xf ((State.WarmedH.refl s).since 0) (by rw [ef]; exact (Nat.zero_le _)) (v := some (.int (1 : Int32))) (fun h => by rw [Bd.returns] at h; cases h)
  refine ⟨_, _, pre0 _ ?_, hrun, hended, _, _, rfl, ?_, ⟨_, rfl⟩, hWW, hBB, hSS.mono (by decide) (by decide)⟩
  · show Steps p.tables e below (s₁.setTop (mkF m 0 #[.val (.int k0), .val (.int p0), .val (.int p1), .val (.int p2), .val (.int p3), .unset, .unset, .unset, .unset, .unset, .unset, .unset, .unset, .unset, .unset, .unset, .unset, .unset] [])) _
    refine stf _ ?_
    show Steps p.tables e below (Tf.setTop (mkF m 126 #[.val (.int k0), .val (.int p0), .val (.int p1), .val (.int p2), .val (.int p3), .val (.int (0 : Int32)), .val (.int (f_draw p0)), .val (.int (f_draw p1)), .val (.int (f_draw p2)), .val (.int (f_draw p3)), .val (.ref b), .val (.int (f_share (f_draw p0) (0 : Int32) (f_draw p1))), .val (.int (f_share (f_draw p1) (f_draw p0) (f_draw p2))), .val (.int (f_share (f_draw p2) (f_draw p1) (f_draw p3))), .val (.int (f_share (f_draw p3) (f_draw p2) (0 : Int32))), .unset, .unset, .unset] [])) _
    refine XS.iload Xf.here hx rfl (hb hby at_126) rfl ?_
    refine XS.ifYes Xf.here hx rfl (pc0 := 128) (pc' := 146) rfl (hb hby at_128) rfl ((if0 _ _).trans (tlt hc128).1) (by decide) (by decide) ?_
    refine XS.iconst Xf.here hx rfl (hb hby at_146) ?_
    show Steps p.tables e below (Tf.setTop (mkF m 147 #[.val (.int k0), .val (.int p0), .val (.int p1), .val (.int p2), .val (.int p3), .val (.int (0 : Int32)), .val (.int (f_draw p0)), .val (.int (f_draw p1)), .val (.int (f_draw p2)), .val (.int (f_draw p3)), .val (.ref b), .val (.int (f_share (f_draw p0) (0 : Int32) (f_draw p1))), .val (.int (f_share (f_draw p1) (f_draw p0) (f_draw p2))), .val (.int (f_share (f_draw p2) (f_draw p1) (f_draw p3))), .val (.int (f_share (f_draw p3) (f_draw p2) (0 : Int32))), .unset, .unset, .unset] [(.int (1 : Int32))])) _
    exact retN Xf hx (t := .boolean) Bd.returns (by simp) (hb hby at_147) hr
  · show Q0  h0 n0 _ Tf.heap _
    exact ⟨rfl, Nf⟩
set_option maxRecDepth 65536 in
set_option maxHeartbeats 40000000 in
theorem rm0_01 (l : Launch) (Z : State) (a0 : Array Value) (hw : ∀ d ∈ tables_1, d.before a0 Z = true) (ws : List Jvm.Cond) (k0 : Int32) (p0 : Int32) (p1 : Int32) (p2 : Int32) (p3 : Int32)  (h0 : Heap) (n0 : Nat) (Z0 : n0 ≤ h0.size) (O : Old Z n0 h0) (SK : StrSta Z) (hbg0 : (k0 &&& (1 : Int32)) = (0 : Int32)) (hc128 : ¬ ((f_share (f_draw p0) (0 : Int32) (f_draw p1)) < (0 : Int32))) (hc133 : (f_share (f_draw p1) (f_draw p0) (f_draw p2)) < (0 : Int32)) :
    MetFree l x (head1 (Jvm.Cond.code x code maxLocals ret :: ws) room_1) (fun aa_ U_ => aa_ = #[(.int k0), (.int p0), (.int p1), (.int p2), (.int p3)] ∧ Z.Warmed39 U_.vm ∧ U_.heap = h0) (fun _ _ _ _ _ => True) (fun _ U_ o_ V_ => ∃ v_ L_, o_ = .returned v_ ∧ Q0  h0 n0 v_ V_.heap L_ ∧ ReturnedEndW U_ o_ V_ L_ room_1.cells room_1.slots) := by
  refine MetFree.of_bodySF (plainFor_of_name pn_0) hisR ?_
  intro p e s m args below meth c s₁ Bd hml0 hP hK
  obtain ⟨rfl, hZ, hh⟩ := hP
  have hx := Bd.exec
  have hby := Bd.bytes
  have hml : c.maxLocals = 18 := hml0
  have hown : s.vm.findClass "com/example/orderly_latch/orderlylatch/name/LatchNameOfPinLaw" = some m.cls := findClass_of_methodNamed Bd.named
  have hnm := (name_of_methodNamed Bd.named Bd.method).1
  have X0 : Stand p l e room_1 s m #[(.int k0), (.int p0), (.int p1), (.int p2), (.int p3)] below meth c s₁ [] 0 0 := Stand.of_body Bd
  have e0 : s₁.heap = h0 := by rw [← hh, Bd.state]; rfl
  have N0 := Fr.nil n0
  have pre0 : ∀ zz, Steps p.tables e below (s₁.setTop (mkF m 0 #[.val (.int k0), .val (.int p0), .val (.int p1), .val (.int p2), .val (.int p3), .unset, .unset, .unset, .unset, .unset, .unset, .unset, .unset, .unset, .unset, .unset, .unset, .unset] [])) zz → Steps p.tables e below (s₁.setTop (entryFrame m #[(.int k0), (.int p0), (.int p1), (.int p2), (.int p3)] maxLocals)) zz := fun zz k => castTop (ef_0 m k0 p0 p1 p2 p3) k
  obtain ⟨Tf, hf1, b, locs1, Xf, ef, Zf, Of, Kf, Vf, Nf, stf⟩ := fill0 (n0 := n0) k0 p0 p1 p2 p3 X0 hx hZ hw hby hml hown e0 Z0 O hbg0
  obtain ⟨fs, hr, hrun, hended, -, hWW, hBB, hSS⟩ := Stand.leaveW (s := s) (vm₁ := s.vm) Xf ((State.WarmedH.refl s).since 0) (by rw [ef]; exact (Nat.zero_le _)) (v := some (.int (1 : Int32))) (fun h => by rw [Bd.returns] at h; cases h)
  refine ⟨_, _, pre0 _ ?_, hrun, hended, _, _, rfl, ?_, ⟨_, rfl⟩, hWW, hBB, hSS.mono (by decide) (by decide)⟩
  · show Steps p.tables e below (s₁.setTop (mkF m 0 #[.val (.int k0), .val (.int p0), .val (.int p1), .val (.int p2), .val (.int p3), .unset, .unset, .unset, .unset, .unset, .unset, .unset, .unset, .unset, .unset, .unset, .unset, .unset] [])) _
    refine stf _ ?_
    show Steps p.tables e below (Tf.setTop (mkF m 126 #[.val (.int k0), .val (.int p0), .val (.int p1), .val (.int p2), .val (.int p3), .val (.int (0 : Int32)), .val (.int (f_draw p0)), .val (.int (f_draw p1)), .val (.int (f_draw p2)), .val (.int (f_draw p3)), .val (.ref b), .val (.int (f_share (f_draw p0) (0 : Int32) (f_draw p1))), .val (.int (f_share (f_draw p1) (f_draw p0) (f_draw p2))), .val (.int (f_share (f_draw p2) (f_draw p1) (f_draw p3))), .val (.int (f_share (f_draw p3) (f_draw p2) (0 : Int32))), .unset, .unset, .unset] [])) _
    refine XS.iload Xf.here hx rfl (hb hby at_126) rfl ?_
    refine XS.ifNo Xf.here hx rfl (hb hby at_128) rfl ((if0 _ _).trans (flt hc128).1) ?_
    refine XS.iload Xf.here hx rfl (hb hby at_131) rfl ?_
    refine XS.ifYes Xf.here hx rfl (pc0 := 133) (pc' := 146) rfl (hb hby at_133) rfl ((if0 _ _).trans (tlt hc133).1) (by decide) (by decide) ?_
    refine XS.iconst Xf.here hx rfl (hb hby at_146) ?_
    show Steps p.tables e below (Tf.setTop (mkF m 147 #[.val (.int k0), .val (.int p0), .val (.int p1), .val (.int p2), .val (.int p3), .val (.int (0 : Int32)), .val (.int (f_draw p0)), .val (.int (f_draw p1)), .val (.int (f_draw p2)), .val (.int (f_draw p3)), .val (.ref b), .val (.int (f_share (f_draw p0) (0 : Int32) (f_draw p1))), .val (.int (f_share (f_draw p1) (f_draw p0) (f_draw p2))), .val (.int (f_share (f_draw p2) (f_draw p1) (f_draw p3))), .val (.int (f_share (f_draw p3) (f_draw p2) (0 : Int32))), .unset, .unset, .unset] [(.int (1 : Int32))])) _
    exact retN Xf hx (t := .boolean) Bd.returns (by simp) (hb hby at_147) hr
  · show Q0  h0 n0 _ Tf.heap _
    exact ⟨rfl, Nf⟩
set_option maxRecDepth 65536 in
set_option maxHeartbeats 40000000 in
theorem rm0_02 (l : Launch) (Z : State) (a0 : Array Value) (hw : ∀ d ∈ tables_1, d.before a0 Z = true) (ws : List Jvm.Cond) (k0 : Int32) (p0 : Int32) (p1 : Int32) (p2 : Int32) (p3 : Int32)  (h0 : Heap) (n0 : Nat) (Z0 : n0 ≤ h0.size) (O : Old Z n0 h0) (SK : StrSta Z) (hbg0 : (k0 &&& (1 : Int32)) = (0 : Int32)) (hc128 : ¬ ((f_share (f_draw p0) (0 : Int32) (f_draw p1)) < (0 : Int32))) (hc133 : ¬ ((f_share (f_draw p1) (f_draw p0) (f_draw p2)) < (0 : Int32))) (hc138 : (f_share (f_draw p2) (f_draw p1) (f_draw p3)) < (0 : Int32)) :
    MetFree l x (head1 (Jvm.Cond.code x code maxLocals ret :: ws) room_1) (fun aa_ U_ => aa_ = #[(.int k0), (.int p0), (.int p1), (.int p2), (.int p3)] ∧ Z.Warmed39 U_.vm ∧ U_.heap = h0) (fun _ _ _ _ _ => True) (fun _ U_ o_ V_ => ∃ v_ L_, o_ = .returned v_ ∧ Q0  h0 n0 v_ V_.heap L_ ∧ ReturnedEndW U_ o_ V_ L_ room_1.cells room_1.slots) := by
  refine MetFree.of_bodySF (plainFor_of_name pn_0) hisR ?_
  intro p e s m args below meth c s₁ Bd hml0 hP hK
  obtain ⟨rfl, hZ, hh⟩ := hP
  have hx := Bd.exec
  have hby := Bd.bytes
  have hml : c.maxLocals = 18 := hml0
  have hown : s.vm.findClass "com/example/orderly_latch/orderlylatch/name/LatchNameOfPinLaw" = some m.cls := findClass_of_methodNamed Bd.named
  have hnm := (name_of_methodNamed Bd.named Bd.method).1
  have X0 : Stand p l e room_1 s m #[(.int k0), (.int p0), (.int p1), (.int p2), (.int p3)] below meth c s₁ [] 0 0 := Stand.of_body Bd
  have e0 : s₁.heap = h0 := by rw [← hh, Bd.state]; rfl
  have N0 := Fr.nil n0
  have pre0 : ∀ zz, Steps p.tables e below (s₁.setTop (mkF m 0 #[.val (.int k0), .val (.int p0), .val (.int p1), .val (.int p2), .val (.int p3), .unset, .unset, .unset, .unset, .unset, .unset, .unset, .unset, .unset, .unset, .unset, .unset, .unset] [])) zz → Steps p.tables e below (s₁.setTop (entryFrame m #[(.int k0), (.int p0), (.int p1), (.int p2), (.int p3)] maxLocals)) zz := fun zz k => castTop (ef_0 m k0 p0 p1 p2 p3) k
  obtain ⟨Tf, hf1, b, locs1, Xf, ef, Zf, Of, Kf, Vf, Nf, stf⟩ := fill0 (n0 := n0) k0 p0 p1 p2 p3 X0 hx hZ hw hby hml hown e0 Z0 O hbg0
  obtain ⟨fs, hr, hrun, hended, -, hWW, hBB, hSS⟩ := Stand.leaveW (s := s) (vm₁ := s.vm) Xf ((State.WarmedH.refl s).since 0) (by rw [ef]; exact (Nat.zero_le _)) (v := some (.int (1 : Int32))) (fun h => by rw [Bd.returns] at h; cases h)
  refine ⟨_, _, pre0 _ ?_, hrun, hended, _, _, rfl, ?_, ⟨_, rfl⟩, hWW, hBB, hSS.mono (by decide) (by decide)⟩
  · show Steps p.tables e below (s₁.setTop (mkF m 0 #[.val (.int k0), .val (.int p0), .val (.int p1), .val (.int p2), .val (.int p3), .unset, .unset, .unset, .unset, .unset, .unset, .unset, .unset, .unset, .unset, .unset, .unset, .unset] [])) _
    refine stf _ ?_
    show Steps p.tables e below (Tf.setTop (mkF m 126 #[.val (.int k0), .val (.int p0), .val (.int p1), .val (.int p2), .val (.int p3), .val (.int (0 : Int32)), .val (.int (f_draw p0)), .val (.int (f_draw p1)), .val (.int (f_draw p2)), .val (.int (f_draw p3)), .val (.ref b), .val (.int (f_share (f_draw p0) (0 : Int32) (f_draw p1))), .val (.int (f_share (f_draw p1) (f_draw p0) (f_draw p2))), .val (.int (f_share (f_draw p2) (f_draw p1) (f_draw p3))), .val (.int (f_share (f_draw p3) (f_draw p2) (0 : Int32))), .unset, .unset, .unset] [])) _
    refine XS.iload Xf.here hx rfl (hb hby at_126) rfl ?_
    refine XS.ifNo Xf.here hx rfl (hb hby at_128) rfl ((if0 _ _).trans (flt hc128).1) ?_
    refine XS.iload Xf.here hx rfl (hb hby at_131) rfl ?_
    refine XS.ifNo Xf.here hx rfl (hb hby at_133) rfl ((if0 _ _).trans (flt hc133).1) ?_
    refine XS.iload Xf.here hx rfl (hb hby at_136) rfl ?_
    refine XS.ifYes Xf.here hx rfl (pc0 := 138) (pc' := 146) rfl (hb hby at_138) rfl ((if0 _ _).trans (tlt hc138).1) (by decide) (by decide) ?_
    show Steps p.tables e below (Tf.setTop (mkF m 146 #[.val (.int k0), .val (.int p0), .val (.int p1), .val (.int p2), .val (.int p3), .val (.int (0 : Int32)), .val (.int (f_draw p0)), .val (.int (f_draw p1)), .val (.int (f_draw p2)), .val (.int (f_draw p3)), .val (.ref b), .val (.int (f_share (f_draw p0) (0 : Int32) (f_draw p1))), .val (.int (f_share (f_draw p1) (f_draw p0) (f_draw p2))), .val (.int (f_share (f_draw p2) (f_draw p1) (f_draw p3))), .val (.int (f_share (f_draw p3) (f_draw p2) (0 : Int32))), .unset, .unset, .unset] [])) _
    refine XS.iconst Xf.here hx rfl (hb hby at_146) ?_
    show Steps p.tables e below (Tf.setTop (mkF m 147 #[.val (.int k0), .val (.int p0), .val (.int p1), .val (.int p2), .val (.int p3), .val (.int (0 : Int32)), .val (.int (f_draw p0)), .val (.int (f_draw p1)), .val (.int (f_draw p2)), .val (.int (f_draw p3)), .val (.ref b), .val (.int (f_share (f_draw p0) (0 : Int32) (f_draw p1))), .val (.int (f_share (f_draw p1) (f_draw p0) (f_draw p2))), .val (.int (f_share (f_draw p2) (f_draw p1) (f_draw p3))), .val (.int (f_share (f_draw p3) (f_draw p2) (0 : Int32))), .unset, .unset, .unset] [(.int (1 : Int32))])) _
    exact retN Xf hx (t := .boolean) Bd.returns (by simp) (hb hby at_147) hr
  · show Q0  h0 n0 _ Tf.heap _
    exact ⟨rfl, Nf⟩
set_option maxRecDepth 65536 in
set_option maxHeartbeats 40000000 in
theorem rm0_03 (l : Launch) (Z : State) (a0 : Array Value) (hw : ∀ d ∈ tables_1, d.before a0 Z = true) (ws : List Jvm.Cond) (k0 : Int32) (p0 : Int32) (p1 : Int32) (p2 : Int32) (p3 : Int32)  (h0 : Heap) (n0 : Nat) (Z0 : n0 ≤ h0.size) (O : Old Z n0 h0) (SK : StrSta Z) (hbg0 : (k0 &&& (1 : Int32)) = (0 : Int32)) (hc128 : ¬ ((f_share (f_draw p0) (0 : Int32) (f_draw p1)) < (0 : Int32))) (hc133 : ¬ ((f_share (f_draw p1) (f_draw p0) (f_draw p2)) < (0 : Int32))) (hc138 : ¬ ((f_share (f_draw p2) (f_draw p1) (f_draw p3)) < (0 : Int32))) (hc143 : (f_share (f_draw p3) (f_draw p2) (0 : Int32)) < (0 : Int32)) :
    MetFree l x (head1 (Jvm.Cond.code x code maxLocals ret :: ws) room_1) (fun aa_ U_ => aa_ = #[(.int k0), (.int p0), (.int p1), (.int p2), (.int p3)] ∧ Z.Warmed39 U_.vm ∧ U_.heap = h0) (fun _ _ _ _ _ => True) (fun _ U_ o_ V_ => ∃ v_ L_, o_ = .returned v_ ∧ Q0  h0 n0 v_ V_.heap L_ ∧ ReturnedEndW U_ o_ V_ L_ room_1.cells room_1.slots) := by
  refine MetFree.of_bodySF (plainFor_of_name pn_0) hisR ?_
  intro p e s m args below meth c s₁ Bd hml0 hP hK
  obtain ⟨rfl, hZ, hh⟩ := hP
  have hx := Bd.exec
  have hby := Bd.bytes
  have hml : c.maxLocals = 18 := hml0
  have hown : s.vm.findClass "com/example/orderly_latch/orderlylatch/name/LatchNameOfPinLaw" = some m.cls := findClass_of_methodNamed Bd.named
  have hnm := (name_of_methodNamed Bd.named Bd.method).1
  have X0 : Stand p l e room_1 s m #[(.int k0), (.int p0), (.int p1), (.int p2), (.int p3)] below meth c s₁ [] 0 0 := Stand.of_body Bd
  have e0 : s₁.heap = h0 := by rw [← hh, Bd.state]; rfl
  have N0 := Fr.nil n0
  have pre0 : ∀ zz, Steps p.tables e below (s₁.setTop (mkF m 0 #[.val (.int k0), .val (.int p0), .val (.int p1), .val (.int p2), .val (.int p3), .unset, .unset, .unset, .unset, .unset, .unset, .unset, .unset, .unset, .unset, .unset, .unset, .unset] [])) zz → Steps p.tables e below (s₁.setTop (entryFrame m #[(.int k0), (.int p0), (.int p1), (.int p2), (.int p3)] maxLocals)) zz := fun zz k => castTop (ef_0 m k0 p0 p1 p2 p3) k
  obtain ⟨Tf, hf1, b, locs1, Xf, ef, Zf, Of, Kf, Vf, Nf, stf⟩ := fill0 (n0 := n0) k0 p0 p1 p2 p3 X0 hx hZ hw hby hml hown e0 Z0 O hbg0
  obtain ⟨fs, hr, hrun, hended, -, hWW, hBB, hSS⟩ := Stand.leaveW (s := s) (vm₁ := s.vm) Xf ((State.WarmedH.refl s).since 0) (by rw [ef]; exact (Nat.zero_le _)) (v := some (.int (1 : Int32))) (fun h => by rw [Bd.returns] at h; cases h)
  refine ⟨_, _, pre0 _ ?_, hrun, hended, _, _, rfl, ?_, ⟨_, rfl⟩, hWW, hBB, hSS.mono (by decide) (by decide)⟩
  · show Steps p.tables e below (s₁.setTop (mkF m 0 #[.val (.int k0), .val (.int p0), .val (.int p1), .val (.int p2), .val (.int p3), .unset, .unset, .unset, .unset, .unset, .unset, .unset, .unset, .unset, .unset, .unset, .unset, .unset] [])) _
    refine stf _ ?_
    show Steps p.tables e below (Tf.setTop (mkF m 126 #[.val (.int k0), .val (.int p0), .val (.int p1), .val (.int p2), .val (.int p3), .val (.int (0 : Int32)), .val (.int (f_draw p0)), .val (.int (f_draw p1)), .val (.int (f_draw p2)), .val (.int (f_draw p3)), .val (.ref b), .val (.int (f_share (f_draw p0) (0 : Int32) (f_draw p1))), .val (.int (f_share (f_draw p1) (f_draw p0) (f_draw p2))), .val (.int (f_share (f_draw p2) (f_draw p1) (f_draw p3))), .val (.int (f_share (f_draw p3) (f_draw p2) (0 : Int32))), .unset, .unset, .unset] [])) _
    refine XS.iload Xf.here hx rfl (hb hby at_126) rfl ?_
    refine XS.ifNo Xf.here hx rfl (hb hby at_128) rfl ((if0 _ _).trans (flt hc128).1) ?_
    refine XS.iload Xf.here hx rfl (hb hby at_131) rfl ?_
    refine XS.ifNo Xf.here hx rfl (hb hby at_133) rfl ((if0 _ _).trans (flt hc133).1) ?_
    refine XS.iload Xf.here hx rfl (hb hby at_136) rfl ?_
    refine XS.ifNo Xf.here hx rfl (hb hby at_138) rfl ((if0 _ _).trans (flt hc138).1) ?_
    show Steps p.tables e below (Tf.setTop (mkF m 141 #[.val (.int k0), .val (.int p0), .val (.int p1), .val (.int p2), .val (.int p3), .val (.int (0 : Int32)), .val (.int (f_draw p0)), .val (.int (f_draw p1)), .val (.int (f_draw p2)), .val (.int (f_draw p3)), .val (.ref b), .val (.int (f_share (f_draw p0) (0 : Int32) (f_draw p1))), .val (.int (f_share (f_draw p1) (f_draw p0) (f_draw p2))), .val (.int (f_share (f_draw p2) (f_draw p1) (f_draw p3))), .val (.int (f_share (f_draw p3) (f_draw p2) (0 : Int32))), .unset, .unset, .unset] [])) _
    refine XS.iload Xf.here hx rfl (hb hby at_141) rfl ?_
    refine XS.ifNo Xf.here hx rfl (hb hby at_143) rfl ((if0 _ _).trans (tlt hc143).2.1) ?_
    refine XS.iconst Xf.here hx rfl (hb hby at_146) ?_
    show Steps p.tables e below (Tf.setTop (mkF m 147 #[.val (.int k0), .val (.int p0), .val (.int p1), .val (.int p2), .val (.int p3), .val (.int (0 : Int32)), .val (.int (f_draw p0)), .val (.int (f_draw p1)), .val (.int (f_draw p2)), .val (.int (f_draw p3)), .val (.ref b), .val (.int (f_share (f_draw p0) (0 : Int32) (f_draw p1))), .val (.int (f_share (f_draw p1) (f_draw p0) (f_draw p2))), .val (.int (f_share (f_draw p2) (f_draw p1) (f_draw p3))), .val (.int (f_share (f_draw p3) (f_draw p2) (0 : Int32))), .unset, .unset, .unset] [(.int (1 : Int32))])) _
    exact retN Xf hx (t := .boolean) Bd.returns (by simp) (hb hby at_147) hr
  · show Q0  h0 n0 _ Tf.heap _
    exact ⟨rfl, Nf⟩
set_option maxRecDepth 65536 in
set_option maxHeartbeats 40000000 in
theorem rm0_04 (l : Launch) (Z : State) (a0 : Array Value) (hw : ∀ d ∈ tables_1, d.before a0 Z = true) (ws : List Jvm.Cond) (k0 : Int32) (p0 : Int32) (p1 : Int32) (p2 : Int32) (p3 : Int32)  (h0 : Heap) (n0 : Nat) (Z0 : n0 ≤ h0.size) (O : Old Z n0 h0) (SK : StrSta Z) (hbg0 : (k0 &&& (1 : Int32)) = (0 : Int32)) (hc128 : ¬ ((f_share (f_draw p0) (0 : Int32) (f_draw p1)) < (0 : Int32))) (hc133 : ¬ ((f_share (f_draw p1) (f_draw p0) (f_draw p2)) < (0 : Int32))) (hc138 : ¬ ((f_share (f_draw p2) (f_draw p1) (f_draw p3)) < (0 : Int32))) (hc143 : ¬ ((f_share (f_draw p3) (f_draw p2) (0 : Int32)) < (0 : Int32))) (hc179 : (200 : Int32) < (tot4 (f_share (f_draw p0) (0 : Int32) (f_draw p1)) (f_share (f_draw p1) (f_draw p0) (f_draw p2)) (f_share (f_draw p2) (f_draw p1) (f_draw p3)) (f_share (f_draw p3) (f_draw p2) (0 : Int32)) (0 : Int32))) :
    MetFree l x (head1 (Jvm.Cond.code x code maxLocals ret :: ws) room_1) (fun aa_ U_ => aa_ = #[(.int k0), (.int p0), (.int p1), (.int p2), (.int p3)] ∧ Z.Warmed39 U_.vm ∧ U_.heap = h0) (fun _ _ _ _ _ => True) (fun _ U_ o_ V_ => ∃ v_ L_, o_ = .returned v_ ∧ Q0  h0 n0 v_ V_.heap L_ ∧ ReturnedEndW U_ o_ V_ L_ room_1.cells room_1.slots) := by
  refine MetFree.of_bodySF (plainFor_of_name pn_0) hisR ?_
  intro p e s m args below meth c s₁ Bd hml0 hP hK
  obtain ⟨rfl, hZ, hh⟩ := hP
  have hx := Bd.exec
  have hby := Bd.bytes
  have hml : c.maxLocals = 18 := hml0
  have hown : s.vm.findClass "com/example/orderly_latch/orderlylatch/name/LatchNameOfPinLaw" = some m.cls := findClass_of_methodNamed Bd.named
  have hnm := (name_of_methodNamed Bd.named Bd.method).1
  have X0 : Stand p l e room_1 s m #[(.int k0), (.int p0), (.int p1), (.int p2), (.int p3)] below meth c s₁ [] 0 0 := Stand.of_body Bd
  have e0 : s₁.heap = h0 := by rw [← hh, Bd.state]; rfl
  have N0 := Fr.nil n0
  have pre0 : ∀ zz, Steps p.tables e below (s₁.setTop (mkF m 0 #[.val (.int k0), .val (.int p0), .val (.int p1), .val (.int p2), .val (.int p3), .unset, .unset, .unset, .unset, .unset, .unset, .unset, .unset, .unset, .unset, .unset, .unset, .unset] [])) zz → Steps p.tables e below (s₁.setTop (entryFrame m #[(.int k0), (.int p0), (.int p1), (.int p2), (.int p3)] maxLocals)) zz := fun zz k => castTop (ef_0 m k0 p0 p1 p2 p3) k
  obtain ⟨Tf, hf1, b, locs1, Xf, ef, Zf, Of, Kf, Vf, Nf, stf⟩ := fill0 (n0 := n0) k0 p0 p1 p2 p3 X0 hx hZ hw hby hml hown e0 Z0 O hbg0
  obtain ⟨fs, hr, hrun, hended, -, hWW, hBB, hSS⟩ := Stand.leaveW (s := s) (vm₁ := s.vm) Xf ((State.WarmedH.refl s).since 0) (by rw [ef]; exact (Nat.zero_le _)) (v := some (.int (1 : Int32))) (fun h => by rw [Bd.returns] at h; cases h)
  refine ⟨_, _, pre0 _ ?_, hrun, hended, _, _, rfl, ?_, ⟨_, rfl⟩, hWW, hBB, hSS.mono (by decide) (by decide)⟩
  · show Steps p.tables e below (s₁.setTop (mkF m 0 #[.val (.int k0), .val (.int p0), .val (.int p1), .val (.int p2), .val (.int p3), .unset, .unset, .unset, .unset, .unset, .unset, .unset, .unset, .unset, .unset, .unset, .unset, .unset] [])) _
    refine stf _ ?_
    show Steps p.tables e below (Tf.setTop (mkF m 126 #[.val (.int k0), .val (.int p0), .val (.int p1), .val (.int p2), .val (.int p3), .val (.int (0 : Int32)), .val (.int (f_draw p0)), .val (.int (f_draw p1)), .val (.int (f_draw p2)), .val (.int (f_draw p3)), .val (.ref b), .val (.int (f_share (f_draw p0) (0 : Int32) (f_draw p1))), .val (.int (f_share (f_draw p1) (f_draw p0) (f_draw p2))), .val (.int (f_share (f_draw p2) (f_draw p1) (f_draw p3))), .val (.int (f_share (f_draw p3) (f_draw p2) (0 : Int32))), .unset, .unset, .unset] [])) _
    refine XS.iload Xf.here hx rfl (hb hby at_126) rfl ?_
    refine XS.ifNo Xf.here hx rfl (hb hby at_128) rfl ((if0 _ _).trans (flt hc128).1) ?_
    refine XS.iload Xf.here hx rfl (hb hby at_131) rfl ?_
    refine XS.ifNo Xf.here hx rfl (hb hby at_133) rfl ((if0 _ _).trans (flt hc133).1) ?_
    refine XS.iload Xf.here hx rfl (hb hby at_136) rfl ?_
    refine XS.ifNo Xf.here hx rfl (hb hby at_138) rfl ((if0 _ _).trans (flt hc138).1) ?_
    show Steps p.tables e below (Tf.setTop (mkF m 141 #[.val (.int k0), .val (.int p0), .val (.int p1), .val (.int p2), .val (.int p3), .val (.int (0 : Int32)), .val (.int (f_draw p0)), .val (.int (f_draw p1)), .val (.int (f_draw p2)), .val (.int (f_draw p3)), .val (.ref b), .val (.int (f_share (f_draw p0) (0 : Int32) (f_draw p1))), .val (.int (f_share (f_draw p1) (f_draw p0) (f_draw p2))), .val (.int (f_share (f_draw p2) (f_draw p1) (f_draw p3))), .val (.int (f_share (f_draw p3) (f_draw p2) (0 : Int32))), .unset, .unset, .unset] [])) _
    refine XS.iload Xf.here hx rfl (hb hby at_141) rfl ?_
    refine XS.ifYes Xf.here hx rfl (pc0 := 143) (pc' := 148) rfl (hb hby at_143) rfl ((if0 _ _).trans (flt hc143).2.1) (by decide) (by decide) ?_
    refine XS.iload Xf.here hx rfl (hb hby at_148) rfl ?_
    refine XS.iload Xf.here hx rfl (hb hby at_150) rfl ?_
    refine XS.iadd Xf.here hx rfl (hb hby at_152) rfl ?_
    refine XS.iload Xf.here hx rfl (hb hby at_153) rfl ?_
    show Steps p.tables e below (Tf.setTop (mkF m 155 #[.val (.int k0), .val (.int p0), .val (.int p1), .val (.int p2), .val (.int p3), .val (.int (0 : Int32)), .val (.int (f_draw p0)), .val (.int (f_draw p1)), .val (.int (f_draw p2)), .val (.int (f_draw p3)), .val (.ref b), .val (.int (f_share (f_draw p0) (0 : Int32) (f_draw p1))), .val (.int (f_share (f_draw p1) (f_draw p0) (f_draw p2))), .val (.int (f_share (f_draw p2) (f_draw p1) (f_draw p3))), .val (.int (f_share (f_draw p3) (f_draw p2) (0 : Int32))), .unset, .unset, .unset] [(.int (f_share (f_draw p2) (f_draw p1) (f_draw p3))), (.int ((f_share (f_draw p0) (0 : Int32) (f_draw p1)) + (f_share (f_draw p1) (f_draw p0) (f_draw p2))))])) _
    refine XS.iadd Xf.here hx rfl (hb hby at_155) rfl ?_
    refine XS.iload Xf.here hx rfl (hb hby at_156) rfl ?_
    refine XS.iadd Xf.here hx rfl (hb hby at_158) rfl ?_
    refine XS.iload Xf.here hx rfl (hb hby at_159) rfl ?_
    refine XS.ifYes Xf.here hx rfl (pc0 := 161) (pc' := 170) rfl (hb hby at_161) rfl ((if0 _ _).trans (teq (rfl : (0 : Int32) = (0 : Int32))).1) (by decide) (by decide) ?_
    refine XS.iconst Xf.here hx rfl (hb hby at_170) ?_
    show Steps p.tables e below (Tf.setTop (mkF m 171 #[.val (.int k0), .val (.int p0), .val (.int p1), .val (.int p2), .val (.int p3), .val (.int (0 : Int32)), .val (.int (f_draw p0)), .val (.int (f_draw p1)), .val (.int (f_draw p2)), .val (.int (f_draw p3)), .val (.ref b), .val (.int (f_share (f_draw p0) (0 : Int32) (f_draw p1))), .val (.int (f_share (f_draw p1) (f_draw p0) (f_draw p2))), .val (.int (f_share (f_draw p2) (f_draw p1) (f_draw p3))), .val (.int (f_share (f_draw p3) (f_draw p2) (0 : Int32))), .unset, .unset, .unset] [(.int (0 : Int32)), (.int ((((f_share (f_draw p0) (0 : Int32) (f_draw p1)) + (f_share (f_draw p1) (f_draw p0) (f_draw p2))) + (f_share (f_draw p2) (f_draw p1) (f_draw p3))) + (f_share (f_draw p3) (f_draw p2) (0 : Int32))))])) _
    refine XS.iadd Xf.here hx rfl (hb hby at_171) rfl ?_
    show Steps p.tables e below (Tf.setTop (mkF m 172 #[.val (.int k0), .val (.int p0), .val (.int p1), .val (.int p2), .val (.int p3), .val (.int (0 : Int32)), .val (.int (f_draw p0)), .val (.int (f_draw p1)), .val (.int (f_draw p2)), .val (.int (f_draw p3)), .val (.ref b), .val (.int (f_share (f_draw p0) (0 : Int32) (f_draw p1))), .val (.int (f_share (f_draw p1) (f_draw p0) (f_draw p2))), .val (.int (f_share (f_draw p2) (f_draw p1) (f_draw p3))), .val (.int (f_share (f_draw p3) (f_draw p2) (0 : Int32))), .unset, .unset, .unset] [(.int (tot4 (f_share (f_draw p0) (0 : Int32) (f_draw p1)) (f_share (f_draw p1) (f_draw p0) (f_draw p2)) (f_share (f_draw p2) (f_draw p1) (f_draw p3)) (f_share (f_draw p3) (f_draw p2) (0 : Int32)) (0 : Int32)))])) _
    refine XS.istore Xf.here hx rfl (hb hby at_172) rfl (l' := #[.val (.int k0), .val (.int p0), .val (.int p1), .val (.int p2), .val (.int p3), .val (.int (0 : Int32)), .val (.int (f_draw p0)), .val (.int (f_draw p1)), .val (.int (f_draw p2)), .val (.int (f_draw p3)), .val (.ref b), .val (.int (f_share (f_draw p0) (0 : Int32) (f_draw p1))), .val (.int (f_share (f_draw p1) (f_draw p0) (f_draw p2))), .val (.int (f_share (f_draw p2) (f_draw p1) (f_draw p3))), .val (.int (f_share (f_draw p3) (f_draw p2) (0 : Int32))), .val (.int (tot4 (f_share (f_draw p0) (0 : Int32) (f_draw p1)) (f_share (f_draw p1) (f_draw p0) (f_draw p2)) (f_share (f_draw p2) (f_draw p1) (f_draw p3)) (f_share (f_draw p3) (f_draw p2) (0 : Int32)) (0 : Int32))), .unset, .unset]) rfl ?_
    refine XS.iload Xf.here hx rfl (hb hby at_174) rfl ?_
    refine XS.sipush Xf.here hx rfl (hb hby at_176) ?_
    refine XS.icmpNo Xf.here hx rfl (hb hby at_179) rfl (tlt hc179).2.2.2 ?_
    refine XS.iconst Xf.here hx rfl (hb hby at_182) ?_
    show Steps p.tables e below (Tf.setTop (mkF m 183 #[.val (.int k0), .val (.int p0), .val (.int p1), .val (.int p2), .val (.int p3), .val (.int (0 : Int32)), .val (.int (f_draw p0)), .val (.int (f_draw p1)), .val (.int (f_draw p2)), .val (.int (f_draw p3)), .val (.ref b), .val (.int (f_share (f_draw p0) (0 : Int32) (f_draw p1))), .val (.int (f_share (f_draw p1) (f_draw p0) (f_draw p2))), .val (.int (f_share (f_draw p2) (f_draw p1) (f_draw p3))), .val (.int (f_share (f_draw p3) (f_draw p2) (0 : Int32))), .val (.int (tot4 (f_share (f_draw p0) (0 : Int32) (f_draw p1)) (f_share (f_draw p1) (f_draw p0) (f_draw p2)) (f_share (f_draw p2) (f_draw p1) (f_draw p3)) (f_share (f_draw p3) (f_draw p2) (0 : Int32)) (0 : Int32))), .unset, .unset] [(.int (1 : Int32))])) _
    exact retN Xf hx (t := .boolean) Bd.returns (by simp) (hb hby at_183) hr
  · show Q0  h0 n0 _ Tf.heap _
    exact ⟨rfl, Nf⟩
set_option maxRecDepth 65536 in
set_option maxHeartbeats 40000000 in
theorem rm0_05 (l : Launch) (Z : State) (a0 : Array Value) (hw : ∀ d ∈ tables_1, d.before a0 Z = true) (ws : List Jvm.Cond) (k0 : Int32) (p0 : Int32) (p1 : Int32) (p2 : Int32) (p3 : Int32)  (h0 : Heap) (n0 : Nat) (Z0 : n0 ≤ h0.size) (O : Old Z n0 h0) (SK : StrSta Z) (hbg0 : (k0 &&& (1 : Int32)) = (0 : Int32)) (hc128 : ¬ ((f_share (f_draw p0) (0 : Int32) (f_draw p1)) < (0 : Int32))) (hc133 : ¬ ((f_share (f_draw p1) (f_draw p0) (f_draw p2)) < (0 : Int32))) (hc138 : ¬ ((f_share (f_draw p2) (f_draw p1) (f_draw p3)) < (0 : Int32))) (hc143 : ¬ ((f_share (f_draw p3) (f_draw p2) (0 : Int32)) < (0 : Int32))) (hc179 : ¬ ((200 : Int32) < (tot4 (f_share (f_draw p0) (0 : Int32) (f_draw p1)) (f_share (f_draw p1) (f_draw p0) (f_draw p2)) (f_share (f_draw p2) (f_draw p1) (f_draw p3)) (f_share (f_draw p3) (f_draw p2) (0 : Int32)) (0 : Int32)))) :
    MetFree l x (head1 (Jvm.Cond.code x code maxLocals ret :: ws) room_1) (fun aa_ U_ => aa_ = #[(.int k0), (.int p0), (.int p1), (.int p2), (.int p3)] ∧ Z.Warmed39 U_.vm ∧ U_.heap = h0) (fun _ _ _ _ _ => True) (fun _ U_ o_ V_ => ∃ v_ L_, o_ = .returned v_ ∧ Q0  h0 n0 v_ V_.heap L_ ∧ ReturnedEndW U_ o_ V_ L_ room_1.cells room_1.slots) := by
  refine MetFree.of_bodySF (plainFor_of_name pn_0) hisR ?_
  intro p e s m args below meth c s₁ Bd hml0 hP hK
  obtain ⟨rfl, hZ, hh⟩ := hP
  have hx := Bd.exec
  have hby := Bd.bytes
  have hml : c.maxLocals = 18 := hml0
  have hown : s.vm.findClass "com/example/orderly_latch/orderlylatch/name/LatchNameOfPinLaw" = some m.cls := findClass_of_methodNamed Bd.named
  have hnm := (name_of_methodNamed Bd.named Bd.method).1
  have X0 : Stand p l e room_1 s m #[(.int k0), (.int p0), (.int p1), (.int p2), (.int p3)] below meth c s₁ [] 0 0 := Stand.of_body Bd
  have e0 : s₁.heap = h0 := by rw [← hh, Bd.state]; rfl
  have N0 := Fr.nil n0
  have pre0 : ∀ zz, Steps p.tables e below (s₁.setTop (mkF m 0 #[.val (.int k0), .val (.int p0), .val (.int p1), .val (.int p2), .val (.int p3), .unset, .unset, .unset, .unset, .unset, .unset, .unset, .unset, .unset, .unset, .unset, .unset, .unset] [])) zz → Steps p.tables e below (s₁.setTop (entryFrame m #[(.int k0), (.int p0), (.int p1), (.int p2), (.int p3)] maxLocals)) zz := fun zz k => castTop (ef_0 m k0 p0 p1 p2 p3) k
  obtain ⟨Tf, hf1, b, locs1, Xf, ef, Zf, Of, Kf, Vf, Nf, stf⟩ := fill0 (n0 := n0) k0 p0 p1 p2 p3 X0 hx hZ hw hby hml hown e0 Z0 O hbg0
  obtain ⟨T128, h128, X128, e128, E128, A128, D128, -, st128⟩ := newO Xf hx hZ hown (hw _ (List.mem_of_getElem? (i := 9) rfl)) (hw _ (List.mem_of_getElem? (i := 10) rfl)) (hw _ (List.mem_of_getElem? (i := 11) rfl)) ef (g := (mkF m 184 #[.val (.int k0), .val (.int p0), .val (.int p1), .val (.int p2), .val (.int p3), .val (.int (0 : Int32)), .val (.int (f_draw p0)), .val (.int (f_draw p1)), .val (.int (f_draw p2)), .val (.int (f_draw p3)), .val (.ref b), .val (.int (f_share (f_draw p0) (0 : Int32) (f_draw p1))), .val (.int (f_share (f_draw p1) (f_draw p0) (f_draw p2))), .val (.int (f_share (f_draw p2) (f_draw p1) (f_draw p3))), .val (.int (f_share (f_draw p3) (f_draw p2) (0 : Int32))), .val (.int (tot4 (f_share (f_draw p0) (0 : Int32) (f_draw p1)) (f_share (f_draw p1) (f_draw p0) (f_draw p2)) (f_share (f_draw p2) (f_draw p1) (f_draw p3)) (f_share (f_draw p3) (f_draw p2) (0 : Int32)) (0 : Int32))), .unset, .unset] [])) rfl (hb hby at_184) (by decide) (by decide)
  obtain ⟨b128, g128⟩ : ∃ z, z = hf1.size := ⟨_, rfl⟩
  rw [← g128] at A128 D128 st128
  have ne_b_b128 : b ≠ b128 := Nat.ne_of_lt (Nat.lt_of_lt_of_le Vf.lt (Nat.le_of_eq g128.symm))
  have Vf_e128 := Vf.ext E128
  have E_b128 := A128
  have g_b128 : n0 ≤ b128 := Nat.le_trans Zf (Nat.le_of_eq g128.symm)
  have sz_b128 : h0.size ≤ b128 := Nat.le_trans Kf.1 (Nat.le_of_eq g128.symm)
  have K128 := Kf.ext E128
  have Z128 : n0 ≤ h128.size := Nat.le_trans Zf E128.1
  have F_coder_b128 : Fld Z h128 b128 "java/lang/String" "coder" "B" (.int (0 : Int32)) := D128 (Or.inr (hw _ (List.mem_of_getElem? (i := 35) rfl))) (ty := .byte) (by decide)
  have F_value_b128 : Fld Z h128 b128 "java/lang/String" "value" "[B" .null := D128 (Or.inr (hw _ (List.mem_of_getElem? (i := 37) rfl))) (ty := (.array .byte)) (by decide)
  have O128 := Of.ext E128
  obtain ⟨_, _, ⟨T129, L129, k129, n129⟩, -, X129, ⟨Lc129, hQ129, l129, y129, z129⟩, st129⟩ := X128.specialBack hx (y := (⟨"java/lang/String", "<init>", "([C)V"⟩ : MethodName)) rfl hown (mvT hZ (hw _ (List.mem_of_getElem? (i := 12) rfl))) (mvT hZ (hw _ (List.mem_of_getElem? (i := 13) rfl))) (mvT hZ (hw _ (List.mem_of_getElem? (i := 14) rfl))) (by decide) (backOf (W := 1) (rmI1 l Z a0 hw [] b128 b 4 (gL (f_draw p0) (f_draw p1) (f_draw p2) (f_draw p3)) h128 n0 Z128 (by decide) (by decide) O128 SK Vf_e128 (fun j _ => gL_ch (draw_ch _) (draw_ch _) (draw_ch _) (draw_ch _) j) E_b128 F_value_b128 F_coder_b128 g_b128 ne_b_b128) hZ (hw _ (List.mem_of_getElem? (i := 14) rfl)) (hw _ (List.mem_of_getElem? (i := 11) rfl)) (by decide) (by decide)) (g := (mkF m 190 #[.val (.int k0), .val (.int p0), .val (.int p1), .val (.int p2), .val (.int p3), .val (.int (0 : Int32)), .val (.int (f_draw p0)), .val (.int (f_draw p1)), .val (.int (f_draw p2)), .val (.int (f_draw p3)), .val (.ref b), .val (.int (f_share (f_draw p0) (0 : Int32) (f_draw p1))), .val (.int (f_share (f_draw p1) (f_draw p0) (f_draw p2))), .val (.int (f_share (f_draw p2) (f_draw p1) (f_draw p3))), .val (.int (f_share (f_draw p3) (f_draw p2) (0 : Int32))), .val (.int (tot4 (f_share (f_draw p0) (0 : Int32) (f_draw p1)) (f_share (f_draw p1) (f_draw p0) (f_draw p2)) (f_share (f_draw p2) (f_draw p1) (f_draw p3)) (f_share (f_draw p3) (f_draw p2) (0 : Int32)) (0 : Int32))), .unset, .unset] [(.ref b), (.ref b128), (.ref b128)])) rfl (by rw [hml]; rfl) (Steps.refl _) (a := b128) (argsL := [(.ref b)]) (rest := [(.ref b128)]) (lenOf pd_2 rfl) rfl (by show 2 * 0 + _ ≤ _; exact Nat.le_of_eq rfl) (hb hby at_190) (fun _ _ => ⟨rfl, e128, (by decide : 2 + 2 ≤ _), (by decide : 8 + 600 ≤ _)⟩)
  dsimp only [Pt.U, Pt.locs, Pt.cells, Pt.slots] at X129 l129 y129 z129 st129 hQ129
  subst l129 y129 z129
  obtain ⟨rfl, N129q, K129, S129⟩ := hQ129
  have N129 := Fr.app Nf N129q
  have KK129 := K128.trans K129 (fun x r => by cases List.mem_singleton.mp r; exact (Or.inr sz_b128))
  have Z129 : n0 ≤ T129.heap.size := Nat.le_trans Z128 K129.1
  have O129 := O128.keep K129 (all1 g_b128)
  obtain ⟨_, _, ⟨T130, L130, k130, n130⟩, -, X130, hS2130, hg130, ⟨Lc130, hQ130, l130, y130, z130⟩, st130⟩ := callSS X129 hx (y := (⟨"com/example/orderly_latch/orderlylatch/name/LatchName", "of", "(Ljava/lang/String;)Lcom/example/orderly_latch/orderlylatch/name/LatchName;"⟩ : MethodName)) hown (mvT hZ (hw _ (List.mem_of_getElem? (i := 38) rfl))) (mvT hZ (hw _ (List.mem_of_getElem? (i := 39) rfl))) (mvT hZ (hw _ (List.mem_of_getElem? (i := 40) rfl))) (mvT hZ (hw _ (List.mem_of_getElem? (i := 41) rfl))) (by decide) (backOfS (W := 0) (rmOF l Z a0 hw [] b128 4 (gL (f_draw p0) (f_draw p1) (f_draw p2) (f_draw p3)) T129.heap n0 Z129 (by decide) (by decide) O129 SK S129 (nn4 (Or.inl rfl) hc128 hc133 hc138 hc143) (by rw [sum4]; exact hc179)) hZ (hw _ (List.mem_of_getElem? (i := 41) rfl)) (hw _ (List.mem_of_getElem? (i := 40) rfl)) (by decide) (by decide)) (g := (mkF m 197 #[.val (.int k0), .val (.int p0), .val (.int p1), .val (.int p2), .val (.int p3), .val (.int (0 : Int32)), .val (.int (f_draw p0)), .val (.int (f_draw p1)), .val (.int (f_draw p2)), .val (.int (f_draw p3)), .val (.ref b), .val (.int (f_share (f_draw p0) (0 : Int32) (f_draw p1))), .val (.int (f_share (f_draw p1) (f_draw p0) (f_draw p2))), .val (.int (f_share (f_draw p2) (f_draw p1) (f_draw p3))), .val (.int (f_share (f_draw p3) (f_draw p2) (0 : Int32))), .val (.int (tot4 (f_share (f_draw p0) (0 : Int32) (f_draw p1)) (f_share (f_draw p1) (f_draw p0) (f_draw p2)) (f_share (f_draw p2) (f_draw p1) (f_draw p3)) (f_share (f_draw p3) (f_draw p2) (0 : Int32)) (0 : Int32))), .val (.ref b128), .unset] [(.ref b128)])) rfl (by rw [hml]; rfl) (argsL := [(.ref b128)]) (rest := []) (lenOf pd_8 rfl) rfl (by show 2 * 0 + _ ≤ _; exact Nat.le_of_eq rfl) (hb hby at_197) (fun _ _ => ⟨rfl, rfl, (by decide : 4 + 3 ≤ _), (by decide : 608 + 41 ≤ _)⟩)
  dsimp only [Pt.U, Pt.locs, Pt.cells, Pt.slots] at X130 l130 y130 z130 st130 hQ130 hS2130 hg130
  subst l130 y130 z130
  obtain ⟨b130, rfl, N130q, K130, Ex130, Fx130⟩ := hQ130
  have N130 := Fr.app N129 N130q
  have hS130 := foldS ((State.WarmedH.refl s).since 0) (by exact (Nat.zero_le _)) hS2130 hg130
  have hZ130 : Z.Warmed39 (s.setVm T130.vm).vm := State.Warmed39.trans hZ hS2130.1
  have hown130 : (s.setVm T130.vm).vm.findClass "com/example/orderly_latch/orderlylatch/name/LatchNameOfPinLaw" = some m.cls := by rw [show (s.setVm T130.vm).vm = T130.vm from rfl, hS2130.1.alike.findClass]; exact hown
  have Es130 := S129.1.keep K130
  have KK130 := KK129.trans K130 (fun x r => absurd r List.not_mem_nil)
  have Z130 : n0 ≤ T130.heap.size := Nat.le_trans Z129 K130.1
  have O130 := O129.keep K130 all0'
  obtain ⟨cq131, kq131, q131a, q131b, q131c⟩ := isOf hZ130 rfl Ex130
  obtain ⟨_, _, ⟨T131, L131, k131, n131⟩, -, X131, ⟨Lc131, hQ131, l131, y131, z131⟩, st131⟩ := X130.virtualBack hx (y := (⟨"com/example/orderly_latch/orderlylatch/name/LatchName", "value", "()Ljava/lang/String;"⟩ : MethodName)) (z := (⟨"com/example/orderly_latch/orderlylatch/name/LatchName", "value", "()Ljava/lang/String;"⟩ : MethodName)) hown130 (mvT hZ130 (hw _ (List.mem_of_getElem? (i := 97) rfl))) (mvT hZ130 (hw _ (List.mem_of_getElem? (i := 98) rfl))) (notFace_of_selects (args := #[]) (mvT hZ130 (hw _ (List.mem_of_getElem? (i := 100) rfl)))) (mvT hZ130 (hw _ (List.mem_of_getElem? (i := 100) rfl))) (mvT hZ130 (hw _ (List.mem_of_getElem? (i := 99) rfl))) (by decide) (backOf (W := 1) (rmVAL l Z a0 hw [] b130 b128 T130.heap n0 Z130 Ex130 Fx130) hZ130 (hw _ (List.mem_of_getElem? (i := 101) rfl)) (hw _ (List.mem_of_getElem? (i := 40) rfl)) (by decide) (by decide)) q131a q131c (g := (mkF m 206 #[.val (.int k0), .val (.int p0), .val (.int p1), .val (.int p2), .val (.int p3), .val (.int (0 : Int32)), .val (.int (f_draw p0)), .val (.int (f_draw p1)), .val (.int (f_draw p2)), .val (.int (f_draw p3)), .val (.ref b), .val (.int (f_share (f_draw p0) (0 : Int32) (f_draw p1))), .val (.int (f_share (f_draw p1) (f_draw p0) (f_draw p2))), .val (.int (f_share (f_draw p2) (f_draw p1) (f_draw p3))), .val (.int (f_share (f_draw p3) (f_draw p2) (0 : Int32))), .val (.int (tot4 (f_share (f_draw p0) (0 : Int32) (f_draw p1)) (f_share (f_draw p1) (f_draw p0) (f_draw p2)) (f_share (f_draw p2) (f_draw p1) (f_draw p3)) (f_share (f_draw p3) (f_draw p2) (0 : Int32)) (0 : Int32))), .val (.ref b128), .val (.ref b130)] [(.ref b130), (.ref b128)])) rfl (by rw [hml]; rfl) (Steps.refl _) (argsL := []) (rest := [(.ref b128)]) (lenOf pd_19 rfl) rfl (by show 2 * 0 + _ ≤ _; exact Nat.le_of_eq rfl) (hb hby at_206) (fun _ _ => ⟨rfl, rfl, (by decide : 7 + 0 ≤ _), (by decide : 649 + 0 ≤ _)⟩)
  dsimp only [Pt.U, Pt.locs, Pt.cells, Pt.slots] at X131 l131 y131 z131 st131 hQ131
  subst l131 y131 z131
  obtain ⟨rfl, N131q, e131⟩ := hQ131
  have N131 := Fr.app N130 N131q
  obtain ⟨cq132, kq132, q132a, q132b, q132c⟩ := isOf hZ130 e131 Es130
  obtain ⟨_, _, ⟨T132, L132, k132, n132⟩, -, X132, ⟨Lc132, hQ132, l132, y132, z132⟩, st132⟩ := X131.virtualBack hx (y := (⟨"java/lang/String", "equals", "(Ljava/lang/Object;)Z"⟩ : MethodName)) (z := (⟨"java/lang/String", "equals", "(Ljava/lang/Object;)Z"⟩ : MethodName)) hown130 (mvT hZ130 (hw _ (List.mem_of_getElem? (i := 102) rfl))) (mvT hZ130 (hw _ (List.mem_of_getElem? (i := 103) rfl))) (notFace_of_selects (args := #[]) (mvT hZ130 (hw _ (List.mem_of_getElem? (i := 105) rfl)))) (mvT hZ130 (hw _ (List.mem_of_getElem? (i := 105) rfl))) (mvT hZ130 (hw _ (List.mem_of_getElem? (i := 104) rfl))) (by decide) (backOf (W := 0) (rmEQ l Z a0 hw [] b128 T130.heap n0 Z130 ) hZ130 (hw _ (List.mem_of_getElem? (i := 106) rfl)) (hw _ (List.mem_of_getElem? (i := 11) rfl)) (by decide) (by decide)) q132a q132c (g := (mkF m 209 #[.val (.int k0), .val (.int p0), .val (.int p1), .val (.int p2), .val (.int p3), .val (.int (0 : Int32)), .val (.int (f_draw p0)), .val (.int (f_draw p1)), .val (.int (f_draw p2)), .val (.int (f_draw p3)), .val (.ref b), .val (.int (f_share (f_draw p0) (0 : Int32) (f_draw p1))), .val (.int (f_share (f_draw p1) (f_draw p0) (f_draw p2))), .val (.int (f_share (f_draw p2) (f_draw p1) (f_draw p3))), .val (.int (f_share (f_draw p3) (f_draw p2) (0 : Int32))), .val (.int (tot4 (f_share (f_draw p0) (0 : Int32) (f_draw p1)) (f_share (f_draw p1) (f_draw p0) (f_draw p2)) (f_share (f_draw p2) (f_draw p1) (f_draw p3)) (f_share (f_draw p3) (f_draw p2) (0 : Int32)) (0 : Int32))), .val (.ref b128), .val (.ref b130)] [(.ref b128), (.ref b128)])) rfl (by rw [hml]; rfl) (Steps.refl _) (argsL := [(.ref b128)]) (rest := []) (lenOf pd_20 rfl) rfl (by show 2 * 0 + _ ≤ _; exact Nat.le_of_eq rfl) (hb hby at_209) (fun _ _ => ⟨rfl, e131, (by decide : 7 + 0 ≤ _), (by decide : 649 + 0 ≤ _)⟩)
  dsimp only [Pt.U, Pt.locs, Pt.cells, Pt.slots] at X132 l132 y132 z132 st132 hQ132
  subst l132 y132 z132
  obtain ⟨rfl, N132q, e132⟩ := hQ132
  have N132 := Fr.app N131 N132q
  obtain ⟨fs, hr, hrun, hended, -, hWW, hBB, hSS⟩ := Stand.leaveW (s := s) (vm₁ := T130.vm) X132 hS130 (by rw [e132]; exact (Nat.le_refl _)) (v := some (.int (1 : Int32))) (fun h => by rw [Bd.returns] at h; cases h)
  refine ⟨_, _, pre0 _ ?_, hrun, hended, _, _, rfl, ?_, ⟨_, rfl⟩, hWW, hBB, hSS.mono (by decide) (by decide)⟩
  · show Steps p.tables e below (s₁.setTop (mkF m 0 #[.val (.int k0), .val (.int p0), .val (.int p1), .val (.int p2), .val (.int p3), .unset, .unset, .unset, .unset, .unset, .unset, .unset, .unset, .unset, .unset, .unset, .unset, .unset] [])) _
    refine stf _ ?_
    show Steps p.tables e below (Tf.setTop (mkF m 126 #[.val (.int k0), .val (.int p0), .val (.int p1), .val (.int p2), .val (.int p3), .val (.int (0 : Int32)), .val (.int (f_draw p0)), .val (.int (f_draw p1)), .val (.int (f_draw p2)), .val (.int (f_draw p3)), .val (.ref b), .val (.int (f_share (f_draw p0) (0 : Int32) (f_draw p1))), .val (.int (f_share (f_draw p1) (f_draw p0) (f_draw p2))), .val (.int (f_share (f_draw p2) (f_draw p1) (f_draw p3))), .val (.int (f_share (f_draw p3) (f_draw p2) (0 : Int32))), .unset, .unset, .unset] [])) _
    refine XS.iload Xf.here hx rfl (hb hby at_126) rfl ?_
    refine XS.ifNo Xf.here hx rfl (hb hby at_128) rfl ((if0 _ _).trans (flt hc128).1) ?_
    refine XS.iload Xf.here hx rfl (hb hby at_131) rfl ?_
    refine XS.ifNo Xf.here hx rfl (hb hby at_133) rfl ((if0 _ _).trans (flt hc133).1) ?_
    refine XS.iload Xf.here hx rfl (hb hby at_136) rfl ?_
    refine XS.ifNo Xf.here hx rfl (hb hby at_138) rfl ((if0 _ _).trans (flt hc138).1) ?_
    show Steps p.tables e below (Tf.setTop (mkF m 141 #[.val (.int k0), .val (.int p0), .val (.int p1), .val (.int p2), .val (.int p3), .val (.int (0 : Int32)), .val (.int (f_draw p0)), .val (.int (f_draw p1)), .val (.int (f_draw p2)), .val (.int (f_draw p3)), .val (.ref b), .val (.int (f_share (f_draw p0) (0 : Int32) (f_draw p1))), .val (.int (f_share (f_draw p1) (f_draw p0) (f_draw p2))), .val (.int (f_share (f_draw p2) (f_draw p1) (f_draw p3))), .val (.int (f_share (f_draw p3) (f_draw p2) (0 : Int32))), .unset, .unset, .unset] [])) _
    refine XS.iload Xf.here hx rfl (hb hby at_141) rfl ?_
    refine XS.ifYes Xf.here hx rfl (pc0 := 143) (pc' := 148) rfl (hb hby at_143) rfl ((if0 _ _).trans (flt hc143).2.1) (by decide) (by decide) ?_
    refine XS.iload Xf.here hx rfl (hb hby at_148) rfl ?_
    refine XS.iload Xf.here hx rfl (hb hby at_150) rfl ?_
    refine XS.iadd Xf.here hx rfl (hb hby at_152) rfl ?_
    refine XS.iload Xf.here hx rfl (hb hby at_153) rfl ?_
    show Steps p.tables e below (Tf.setTop (mkF m 155 #[.val (.int k0), .val (.int p0), .val (.int p1), .val (.int p2), .val (.int p3), .val (.int (0 : Int32)), .val (.int (f_draw p0)), .val (.int (f_draw p1)), .val (.int (f_draw p2)), .val (.int (f_draw p3)), .val (.ref b), .val (.int (f_share (f_draw p0) (0 : Int32) (f_draw p1))), .val (.int (f_share (f_draw p1) (f_draw p0) (f_draw p2))), .val (.int (f_share (f_draw p2) (f_draw p1) (f_draw p3))), .val (.int (f_share (f_draw p3) (f_draw p2) (0 : Int32))), .unset, .unset, .unset] [(.int (f_share (f_draw p2) (f_draw p1) (f_draw p3))), (.int ((f_share (f_draw p0) (0 : Int32) (f_draw p1)) + (f_share (f_draw p1) (f_draw p0) (f_draw p2))))])) _
    refine XS.iadd Xf.here hx rfl (hb hby at_155) rfl ?_
    refine XS.iload Xf.here hx rfl (hb hby at_156) rfl ?_
    refine XS.iadd Xf.here hx rfl (hb hby at_158) rfl ?_
    refine XS.iload Xf.here hx rfl (hb hby at_159) rfl ?_
    refine XS.ifYes Xf.here hx rfl (pc0 := 161) (pc' := 170) rfl (hb hby at_161) rfl ((if0 _ _).trans (teq (rfl : (0 : Int32) = (0 : Int32))).1) (by decide) (by decide) ?_
    refine XS.iconst Xf.here hx rfl (hb hby at_170) ?_
    show Steps p.tables e below (Tf.setTop (mkF m 171 #[.val (.int k0), .val (.int p0), .val (.int p1), .val (.int p2), .val (.int p3), .val (.int (0 : Int32)), .val (.int (f_draw p0)), .val (.int (f_draw p1)), .val (.int (f_draw p2)), .val (.int (f_draw p3)), .val (.ref b), .val (.int (f_share (f_draw p0) (0 : Int32) (f_draw p1))), .val (.int (f_share (f_draw p1) (f_draw p0) (f_draw p2))), .val (.int (f_share (f_draw p2) (f_draw p1) (f_draw p3))), .val (.int (f_share (f_draw p3) (f_draw p2) (0 : Int32))), .unset, .unset, .unset] [(.int (0 : Int32)), (.int ((((f_share (f_draw p0) (0 : Int32) (f_draw p1)) + (f_share (f_draw p1) (f_draw p0) (f_draw p2))) + (f_share (f_draw p2) (f_draw p1) (f_draw p3))) + (f_share (f_draw p3) (f_draw p2) (0 : Int32))))])) _
    refine XS.iadd Xf.here hx rfl (hb hby at_171) rfl ?_
    show Steps p.tables e below (Tf.setTop (mkF m 172 #[.val (.int k0), .val (.int p0), .val (.int p1), .val (.int p2), .val (.int p3), .val (.int (0 : Int32)), .val (.int (f_draw p0)), .val (.int (f_draw p1)), .val (.int (f_draw p2)), .val (.int (f_draw p3)), .val (.ref b), .val (.int (f_share (f_draw p0) (0 : Int32) (f_draw p1))), .val (.int (f_share (f_draw p1) (f_draw p0) (f_draw p2))), .val (.int (f_share (f_draw p2) (f_draw p1) (f_draw p3))), .val (.int (f_share (f_draw p3) (f_draw p2) (0 : Int32))), .unset, .unset, .unset] [(.int (tot4 (f_share (f_draw p0) (0 : Int32) (f_draw p1)) (f_share (f_draw p1) (f_draw p0) (f_draw p2)) (f_share (f_draw p2) (f_draw p1) (f_draw p3)) (f_share (f_draw p3) (f_draw p2) (0 : Int32)) (0 : Int32)))])) _
    refine XS.istore Xf.here hx rfl (hb hby at_172) rfl (l' := #[.val (.int k0), .val (.int p0), .val (.int p1), .val (.int p2), .val (.int p3), .val (.int (0 : Int32)), .val (.int (f_draw p0)), .val (.int (f_draw p1)), .val (.int (f_draw p2)), .val (.int (f_draw p3)), .val (.ref b), .val (.int (f_share (f_draw p0) (0 : Int32) (f_draw p1))), .val (.int (f_share (f_draw p1) (f_draw p0) (f_draw p2))), .val (.int (f_share (f_draw p2) (f_draw p1) (f_draw p3))), .val (.int (f_share (f_draw p3) (f_draw p2) (0 : Int32))), .val (.int (tot4 (f_share (f_draw p0) (0 : Int32) (f_draw p1)) (f_share (f_draw p1) (f_draw p0) (f_draw p2)) (f_share (f_draw p2) (f_draw p1) (f_draw p3)) (f_share (f_draw p3) (f_draw p2) (0 : Int32)) (0 : Int32))), .unset, .unset]) rfl ?_
    refine XS.iload Xf.here hx rfl (hb hby at_174) rfl ?_
    refine XS.sipush Xf.here hx rfl (hb hby at_176) ?_
    refine XS.icmpYes Xf.here hx rfl (pc0 := 179) (pc' := 184) rfl (hb hby at_179) rfl (flt hc179).2.2.2 (by decide) (by decide) ?_
    show Steps p.tables e below (Tf.setTop (mkF m 184 #[.val (.int k0), .val (.int p0), .val (.int p1), .val (.int p2), .val (.int p3), .val (.int (0 : Int32)), .val (.int (f_draw p0)), .val (.int (f_draw p1)), .val (.int (f_draw p2)), .val (.int (f_draw p3)), .val (.ref b), .val (.int (f_share (f_draw p0) (0 : Int32) (f_draw p1))), .val (.int (f_share (f_draw p1) (f_draw p0) (f_draw p2))), .val (.int (f_share (f_draw p2) (f_draw p1) (f_draw p3))), .val (.int (f_share (f_draw p3) (f_draw p2) (0 : Int32))), .val (.int (tot4 (f_share (f_draw p0) (0 : Int32) (f_draw p1)) (f_share (f_draw p1) (f_draw p0) (f_draw p2)) (f_share (f_draw p2) (f_draw p1) (f_draw p3)) (f_share (f_draw p3) (f_draw p2) (0 : Int32)) (0 : Int32))), .unset, .unset] [])) _
    refine st128 _ ?_
    refine XS.dup X128.here hx rfl (hb hby at_187) rfl rfl ?_
    refine XS.aload X128.here hx rfl (hb hby at_188) rfl rfl ?_
    show Steps p.tables e below (T128.setTop (mkF m 190 #[.val (.int k0), .val (.int p0), .val (.int p1), .val (.int p2), .val (.int p3), .val (.int (0 : Int32)), .val (.int (f_draw p0)), .val (.int (f_draw p1)), .val (.int (f_draw p2)), .val (.int (f_draw p3)), .val (.ref b), .val (.int (f_share (f_draw p0) (0 : Int32) (f_draw p1))), .val (.int (f_share (f_draw p1) (f_draw p0) (f_draw p2))), .val (.int (f_share (f_draw p2) (f_draw p1) (f_draw p3))), .val (.int (f_share (f_draw p3) (f_draw p2) (0 : Int32))), .val (.int (tot4 (f_share (f_draw p0) (0 : Int32) (f_draw p1)) (f_share (f_draw p1) (f_draw p0) (f_draw p2)) (f_share (f_draw p2) (f_draw p1) (f_draw p3)) (f_share (f_draw p3) (f_draw p2) (0 : Int32)) (0 : Int32))), .unset, .unset] [(.ref b), (.ref b128), (.ref b128)])) _
    refine st129.trans ?_
    refine XS.astore X129.here hx rfl (hb hby at_193) rfl rfl (l' := #[.val (.int k0), .val (.int p0), .val (.int p1), .val (.int p2), .val (.int p3), .val (.int (0 : Int32)), .val (.int (f_draw p0)), .val (.int (f_draw p1)), .val (.int (f_draw p2)), .val (.int (f_draw p3)), .val (.ref b), .val (.int (f_share (f_draw p0) (0 : Int32) (f_draw p1))), .val (.int (f_share (f_draw p1) (f_draw p0) (f_draw p2))), .val (.int (f_share (f_draw p2) (f_draw p1) (f_draw p3))), .val (.int (f_share (f_draw p3) (f_draw p2) (0 : Int32))), .val (.int (tot4 (f_share (f_draw p0) (0 : Int32) (f_draw p1)) (f_share (f_draw p1) (f_draw p0) (f_draw p2)) (f_share (f_draw p2) (f_draw p1) (f_draw p3)) (f_share (f_draw p3) (f_draw p2) (0 : Int32)) (0 : Int32))), .val (.ref b128), .unset]) rfl ?_
    refine XS.aload X129.here hx rfl (hb hby at_195) rfl rfl ?_
    show Steps p.tables e below (T129.setTop (mkF m 197 #[.val (.int k0), .val (.int p0), .val (.int p1), .val (.int p2), .val (.int p3), .val (.int (0 : Int32)), .val (.int (f_draw p0)), .val (.int (f_draw p1)), .val (.int (f_draw p2)), .val (.int (f_draw p3)), .val (.ref b), .val (.int (f_share (f_draw p0) (0 : Int32) (f_draw p1))), .val (.int (f_share (f_draw p1) (f_draw p0) (f_draw p2))), .val (.int (f_share (f_draw p2) (f_draw p1) (f_draw p3))), .val (.int (f_share (f_draw p3) (f_draw p2) (0 : Int32))), .val (.int (tot4 (f_share (f_draw p0) (0 : Int32) (f_draw p1)) (f_share (f_draw p1) (f_draw p0) (f_draw p2)) (f_share (f_draw p2) (f_draw p1) (f_draw p3)) (f_share (f_draw p3) (f_draw p2) (0 : Int32)) (0 : Int32))), .val (.ref b128), .unset] [(.ref b128)])) _
    refine st130.trans ?_
    refine XS.astore X130.here hx rfl (hb hby at_200) rfl rfl (l' := #[.val (.int k0), .val (.int p0), .val (.int p1), .val (.int p2), .val (.int p3), .val (.int (0 : Int32)), .val (.int (f_draw p0)), .val (.int (f_draw p1)), .val (.int (f_draw p2)), .val (.int (f_draw p3)), .val (.ref b), .val (.int (f_share (f_draw p0) (0 : Int32) (f_draw p1))), .val (.int (f_share (f_draw p1) (f_draw p0) (f_draw p2))), .val (.int (f_share (f_draw p2) (f_draw p1) (f_draw p3))), .val (.int (f_share (f_draw p3) (f_draw p2) (0 : Int32))), .val (.int (tot4 (f_share (f_draw p0) (0 : Int32) (f_draw p1)) (f_share (f_draw p1) (f_draw p0) (f_draw p2)) (f_share (f_draw p2) (f_draw p1) (f_draw p3)) (f_share (f_draw p3) (f_draw p2) (0 : Int32)) (0 : Int32))), .val (.ref b128), .val (.ref b130)]) rfl ?_
    refine XS.aload X130.here hx rfl (hb hby at_202) rfl rfl ?_
    refine XS.aload X130.here hx rfl (hb hby at_204) rfl rfl ?_
    show Steps p.tables e below (T130.setTop (mkF m 206 #[.val (.int k0), .val (.int p0), .val (.int p1), .val (.int p2), .val (.int p3), .val (.int (0 : Int32)), .val (.int (f_draw p0)), .val (.int (f_draw p1)), .val (.int (f_draw p2)), .val (.int (f_draw p3)), .val (.ref b), .val (.int (f_share (f_draw p0) (0 : Int32) (f_draw p1))), .val (.int (f_share (f_draw p1) (f_draw p0) (f_draw p2))), .val (.int (f_share (f_draw p2) (f_draw p1) (f_draw p3))), .val (.int (f_share (f_draw p3) (f_draw p2) (0 : Int32))), .val (.int (tot4 (f_share (f_draw p0) (0 : Int32) (f_draw p1)) (f_share (f_draw p1) (f_draw p0) (f_draw p2)) (f_share (f_draw p2) (f_draw p1) (f_draw p3)) (f_share (f_draw p3) (f_draw p2) (0 : Int32)) (0 : Int32))), .val (.ref b128), .val (.ref b130)] [(.ref b130), (.ref b128)])) _
    refine st131.trans ?_
    show Steps p.tables e below (T131.setTop (mkF m 209 #[.val (.int k0), .val (.int p0), .val (.int p1), .val (.int p2), .val (.int p3), .val (.int (0 : Int32)), .val (.int (f_draw p0)), .val (.int (f_draw p1)), .val (.int (f_draw p2)), .val (.int (f_draw p3)), .val (.ref b), .val (.int (f_share (f_draw p0) (0 : Int32) (f_draw p1))), .val (.int (f_share (f_draw p1) (f_draw p0) (f_draw p2))), .val (.int (f_share (f_draw p2) (f_draw p1) (f_draw p3))), .val (.int (f_share (f_draw p3) (f_draw p2) (0 : Int32))), .val (.int (tot4 (f_share (f_draw p0) (0 : Int32) (f_draw p1)) (f_share (f_draw p1) (f_draw p0) (f_draw p2)) (f_share (f_draw p2) (f_draw p1) (f_draw p3)) (f_share (f_draw p3) (f_draw p2) (0 : Int32)) (0 : Int32))), .val (.ref b128), .val (.ref b130)] [(.ref b128), (.ref b128)])) _
    refine st132.trans ?_
    show Steps p.tables e below (T132.setTop (mkF m 212 #[.val (.int k0), .val (.int p0), .val (.int p1), .val (.int p2), .val (.int p3), .val (.int (0 : Int32)), .val (.int (f_draw p0)), .val (.int (f_draw p1)), .val (.int (f_draw p2)), .val (.int (f_draw p3)), .val (.ref b), .val (.int (f_share (f_draw p0) (0 : Int32) (f_draw p1))), .val (.int (f_share (f_draw p1) (f_draw p0) (f_draw p2))), .val (.int (f_share (f_draw p2) (f_draw p1) (f_draw p3))), .val (.int (f_share (f_draw p3) (f_draw p2) (0 : Int32))), .val (.int (tot4 (f_share (f_draw p0) (0 : Int32) (f_draw p1)) (f_share (f_draw p1) (f_draw p0) (f_draw p2)) (f_share (f_draw p2) (f_draw p1) (f_draw p3)) (f_share (f_draw p3) (f_draw p2) (0 : Int32)) (0 : Int32))), .val (.ref b128), .val (.ref b130)] [(.int (1 : Int32))])) _
    exact retN X132 hx (t := .boolean) Bd.returns (by simp) (hb hby at_212) hr
  · show Q0  h0 n0 _ T132.heap _
    exact ⟨rfl, N132⟩
set_option maxRecDepth 65536 in
set_option maxHeartbeats 40000000 in
theorem rm0_10 (l : Launch) (Z : State) (a0 : Array Value) (hw : ∀ d ∈ tables_1, d.before a0 Z = true) (ws : List Jvm.Cond) (k0 : Int32) (p0 : Int32) (p1 : Int32) (p2 : Int32) (p3 : Int32)  (h0 : Heap) (n0 : Nat) (Z0 : n0 ≤ h0.size) (O : Old Z n0 h0) (SK : StrSta Z) (hbg0 : ¬ ((k0 &&& (1 : Int32)) = (0 : Int32))) (hc128 : (f_share (f_draw p0) (0 : Int32) (f_draw p1)) < (0 : Int32)) :
    MetFree l x (head1 (Jvm.Cond.code x code maxLocals ret :: ws) room_1) (fun aa_ U_ => aa_ = #[(.int k0), (.int p0), (.int p1), (.int p2), (.int p3)] ∧ Z.Warmed39 U_.vm ∧ U_.heap = h0) (fun _ _ _ _ _ => True) (fun _ U_ o_ V_ => ∃ v_ L_, o_ = .returned v_ ∧ Q0  h0 n0 v_ V_.heap L_ ∧ ReturnedEndW U_ o_ V_ L_ room_1.cells room_1.slots) := by
  refine MetFree.of_bodySF (plainFor_of_name pn_0) hisR ?_
  intro p e s m args below meth c s₁ Bd hml0 hP hK
  obtain ⟨rfl, hZ, hh⟩ := hP
  have hx := Bd.exec
  have hby := Bd.bytes
  have hml : c.maxLocals = 18 := hml0
  have hown : s.vm.findClass "com/example/orderly_latch/orderlylatch/name/LatchNameOfPinLaw" = some m.cls := findClass_of_methodNamed Bd.named
  have hnm := (name_of_methodNamed Bd.named Bd.method).1
  have X0 : Stand p l e room_1 s m #[(.int k0), (.int p0), (.int p1), (.int p2), (.int p3)] below meth c s₁ [] 0 0 := Stand.of_body Bd
  have e0 : s₁.heap = h0 := by rw [← hh, Bd.state]; rfl
  have N0 := Fr.nil n0
  have pre0 : ∀ zz, Steps p.tables e below (s₁.setTop (mkF m 0 #[.val (.int k0), .val (.int p0), .val (.int p1), .val (.int p2), .val (.int p3), .unset, .unset, .unset, .unset, .unset, .unset, .unset, .unset, .unset, .unset, .unset, .unset, .unset] [])) zz → Steps p.tables e below (s₁.setTop (entryFrame m #[(.int k0), (.int p0), (.int p1), (.int p2), (.int p3)] maxLocals)) zz := fun zz k => castTop (ef_0 m k0 p0 p1 p2 p3) k
  obtain ⟨Tf, hf1, b, locs1, Xf, ef, Zf, Of, Kf, Vf, Nf, stf⟩ := fill1 (n0 := n0) k0 p0 p1 p2 p3 X0 hx hZ hw hby hml hown e0 Z0 O hbg0
  obtain ⟨fs, hr, hrun, hended, -, hWW, hBB, hSS⟩ := Stand.leaveW (s := s) (vm₁ := s.vm) Xf ((State.WarmedH.refl s).since 0) (by rw [ef]; exact (Nat.zero_le _)) (v := some (.int (1 : Int32))) (fun h => by rw [Bd.returns] at h; cases h)
  refine ⟨_, _, pre0 _ ?_, hrun, hended, _, _, rfl, ?_, ⟨_, rfl⟩, hWW, hBB, hSS.mono (by decide) (by decide)⟩
  · show Steps p.tables e below (s₁.setTop (mkF m 0 #[.val (.int k0), .val (.int p0), .val (.int p1), .val (.int p2), .val (.int p3), .unset, .unset, .unset, .unset, .unset, .unset, .unset, .unset, .unset, .unset, .unset, .unset, .unset] [])) _
    refine stf _ ?_
    show Steps p.tables e below (Tf.setTop (mkF m 126 #[.val (.int k0), .val (.int p0), .val (.int p1), .val (.int p2), .val (.int p3), .val (.int (1 : Int32)), .val (.int (f_draw p0)), .val (.int (f_draw p1)), .val (.int (f_draw p2)), .val (.int (f_draw p3)), .val (.ref b), .val (.int (f_share (f_draw p0) (0 : Int32) (f_draw p1))), .val (.int (f_share (f_draw p1) (f_draw p0) (f_draw p2))), .val (.int (f_share (f_draw p2) (f_draw p1) (f_draw p3))), .val (.int (f_share (f_draw p3) (f_draw p2) (0 : Int32))), .unset, .unset, .unset] [])) _
    refine XS.iload Xf.here hx rfl (hb hby at_126) rfl ?_
    refine XS.ifYes Xf.here hx rfl (pc0 := 128) (pc' := 146) rfl (hb hby at_128) rfl ((if0 _ _).trans (tlt hc128).1) (by decide) (by decide) ?_
    refine XS.iconst Xf.here hx rfl (hb hby at_146) ?_
    show Steps p.tables e below (Tf.setTop (mkF m 147 #[.val (.int k0), .val (.int p0), .val (.int p1), .val (.int p2), .val (.int p3), .val (.int (1 : Int32)), .val (.int (f_draw p0)), .val (.int (f_draw p1)), .val (.int (f_draw p2)), .val (.int (f_draw p3)), .val (.ref b), .val (.int (f_share (f_draw p0) (0 : Int32) (f_draw p1))), .val (.int (f_share (f_draw p1) (f_draw p0) (f_draw p2))), .val (.int (f_share (f_draw p2) (f_draw p1) (f_draw p3))), .val (.int (f_share (f_draw p3) (f_draw p2) (0 : Int32))), .unset, .unset, .unset] [(.int (1 : Int32))])) _
    exact retN Xf hx (t := .boolean) Bd.returns (by simp) (hb hby at_147) hr
  · show Q0  h0 n0 _ Tf.heap _
    exact ⟨rfl, Nf⟩
set_option maxRecDepth 65536 in
set_option maxHeartbeats 40000000 in
theorem rm0_11 (l : Launch) (Z : State) (a0 : Array Value) (hw : ∀ d ∈ tables_1, d.before a0 Z = true) (ws : List Jvm.Cond) (k0 : Int32) (p0 : Int32) (p1 : Int32) (p2 : Int32) (p3 : Int32)  (h0 : Heap) (n0 : Nat) (Z0 : n0 ≤ h0.size) (O : Old Z n0 h0) (SK : StrSta Z) (hbg0 : ¬ ((k0 &&& (1 : Int32)) = (0 : Int32))) (hc128 : ¬ ((f_share (f_draw p0) (0 : Int32) (f_draw p1)) < (0 : Int32))) (hc133 : (f_share (f_draw p1) (f_draw p0) (f_draw p2)) < (0 : Int32)) :
    MetFree l x (head1 (Jvm.Cond.code x code maxLocals ret :: ws) room_1) (fun aa_ U_ => aa_ = #[(.int k0), (.int p0), (.int p1), (.int p2), (.int p3)] ∧ Z.Warmed39 U_.vm ∧ U_.heap = h0) (fun _ _ _ _ _ => True) (fun _ U_ o_ V_ => ∃ v_ L_, o_ = .returned v_ ∧ Q0  h0 n0 v_ V_.heap L_ ∧ ReturnedEndW U_ o_ V_ L_ room_1.cells room_1.slots) := by
  refine MetFree.of_bodySF (plainFor_of_name pn_0) hisR ?_
  intro p e s m args below meth c s₁ Bd hml0 hP hK
  obtain ⟨rfl, hZ, hh⟩ := hP
  have hx := Bd.exec
  have hby := Bd.bytes
  have hml : c.maxLocals = 18 := hml0
  have hown : s.vm.findClass "com/example/orderly_latch/orderlylatch/name/LatchNameOfPinLaw" = some m.cls := findClass_of_methodNamed Bd.named
  have hnm := (name_of_methodNamed Bd.named Bd.method).1
  have X0 : Stand p l e room_1 s m #[(.int k0), (.int p0), (.int p1), (.int p2), (.int p3)] below meth c s₁ [] 0 0 := Stand.of_body Bd
  have e0 : s₁.heap = h0 := by rw [← hh, Bd.state]; rfl
  have N0 := Fr.nil n0
  have pre0 : ∀ zz, Steps p.tables e below (s₁.setTop (mkF m 0 #[.val (.int k0), .val (.int p0), .val (.int p1), .val (.int p2), .val (.int p3), .unset, .unset, .unset, .unset, .unset, .unset, .unset, .unset, .unset, .unset, .unset, .unset, .unset] [])) zz → Steps p.tables e below (s₁.setTop (entryFrame m #[(.int k0), (.int p0), (.int p1), (.int p2), (.int p3)] maxLocals)) zz := fun zz k => castTop (ef_0 m k0 p0 p1 p2 p3) k
  obtain ⟨Tf, hf1, b, locs1, Xf, ef, Zf, Of, Kf, Vf, Nf, stf⟩ := fill1 (n0 := n0) k0 p0 p1 p2 p3 X0 hx hZ hw hby hml hown e0 Z0 O hbg0
  obtain ⟨fs, hr, hrun, hended, -, hWW, hBB, hSS⟩ := Stand.leaveW (s := s) (vm₁ := s.vm) Xf ((State.WarmedH.refl s).since 0) (by rw [ef]; exact (Nat.zero_le _)) (v := some (.int (1 : Int32))) (fun h => by rw [Bd.returns] at h; cases h)
  refine ⟨_, _, pre0 _ ?_, hrun, hended, _, _, rfl, ?_, ⟨_, rfl⟩, hWW, hBB, hSS.mono (by decide) (by decide)⟩
  · show Steps p.tables e below (s₁.setTop (mkF m 0 #[.val (.int k0), .val (.int p0), .val (.int p1), .val (.int p2), .val (.int p3), .unset, .unset, .unset, .unset, .unset, .unset, .unset, .unset, .unset, .unset, .unset, .unset, .unset] [])) _
    refine stf _ ?_
    show Steps p.tables e below (Tf.setTop (mkF m 126 #[.val (.int k0), .val (.int p0), .val (.int p1), .val (.int p2), .val (.int p3), .val (.int (1 : Int32)), .val (.int (f_draw p0)), .val (.int (f_draw p1)), .val (.int (f_draw p2)), .val (.int (f_draw p3)), .val (.ref b), .val (.int (f_share (f_draw p0) (0 : Int32) (f_draw p1))), .val (.int (f_share (f_draw p1) (f_draw p0) (f_draw p2))), .val (.int (f_share (f_draw p2) (f_draw p1) (f_draw p3))), .val (.int (f_share (f_draw p3) (f_draw p2) (0 : Int32))), .unset, .unset, .unset] [])) _
    refine XS.iload Xf.here hx rfl (hb hby at_126) rfl ?_
    refine XS.ifNo Xf.here hx rfl (hb hby at_128) rfl ((if0 _ _).trans (flt hc128).1) ?_
    refine XS.iload Xf.here hx rfl (hb hby at_131) rfl ?_
    refine XS.ifYes Xf.here hx rfl (pc0 := 133) (pc' := 146) rfl (hb hby at_133) rfl ((if0 _ _).trans (tlt hc133).1) (by decide) (by decide) ?_
    refine XS.iconst Xf.here hx rfl (hb hby at_146) ?_
    show Steps p.tables e below (Tf.setTop (mkF m 147 #[.val (.int k0), .val (.int p0), .val (.int p1), .val (.int p2), .val (.int p3), .val (.int (1 : Int32)), .val (.int (f_draw p0)), .val (.int (f_draw p1)), .val (.int (f_draw p2)), .val (.int (f_draw p3)), .val (.ref b), .val (.int (f_share (f_draw p0) (0 : Int32) (f_draw p1))), .val (.int (f_share (f_draw p1) (f_draw p0) (f_draw p2))), .val (.int (f_share (f_draw p2) (f_draw p1) (f_draw p3))), .val (.int (f_share (f_draw p3) (f_draw p2) (0 : Int32))), .unset, .unset, .unset] [(.int (1 : Int32))])) _
    exact retN Xf hx (t := .boolean) Bd.returns (by simp) (hb hby at_147) hr
  · show Q0  h0 n0 _ Tf.heap _
    exact ⟨rfl, Nf⟩
set_option maxRecDepth 65536 in
set_option maxHeartbeats 40000000 in
theorem rm0_12 (l : Launch) (Z : State) (a0 : Array Value) (hw : ∀ d ∈ tables_1, d.before a0 Z = true) (ws : List Jvm.Cond) (k0 : Int32) (p0 : Int32) (p1 : Int32) (p2 : Int32) (p3 : Int32)  (h0 : Heap) (n0 : Nat) (Z0 : n0 ≤ h0.size) (O : Old Z n0 h0) (SK : StrSta Z) (hbg0 : ¬ ((k0 &&& (1 : Int32)) = (0 : Int32))) (hc128 : ¬ ((f_share (f_draw p0) (0 : Int32) (f_draw p1)) < (0 : Int32))) (hc133 : ¬ ((f_share (f_draw p1) (f_draw p0) (f_draw p2)) < (0 : Int32))) (hc138 : (f_share (f_draw p2) (f_draw p1) (f_draw p3)) < (0 : Int32)) :
    MetFree l x (head1 (Jvm.Cond.code x code maxLocals ret :: ws) room_1) (fun aa_ U_ => aa_ = #[(.int k0), (.int p0), (.int p1), (.int p2), (.int p3)] ∧ Z.Warmed39 U_.vm ∧ U_.heap = h0) (fun _ _ _ _ _ => True) (fun _ U_ o_ V_ => ∃ v_ L_, o_ = .returned v_ ∧ Q0  h0 n0 v_ V_.heap L_ ∧ ReturnedEndW U_ o_ V_ L_ room_1.cells room_1.slots) := by
  refine MetFree.of_bodySF (plainFor_of_name pn_0) hisR ?_
  intro p e s m args below meth c s₁ Bd hml0 hP hK
  obtain ⟨rfl, hZ, hh⟩ := hP
  have hx := Bd.exec
  have hby := Bd.bytes
  have hml : c.maxLocals = 18 := hml0
  have hown : s.vm.findClass "com/example/orderly_latch/orderlylatch/name/LatchNameOfPinLaw" = some m.cls := findClass_of_methodNamed Bd.named
  have hnm := (name_of_methodNamed Bd.named Bd.method).1
  have X0 : Stand p l e room_1 s m #[(.int k0), (.int p0), (.int p1), (.int p2), (.int p3)] below meth c s₁ [] 0 0 := Stand.of_body Bd
  have e0 : s₁.heap = h0 := by rw [← hh, Bd.state]; rfl
  have N0 := Fr.nil n0
  have pre0 : ∀ zz, Steps p.tables e below (s₁.setTop (mkF m 0 #[.val (.int k0), .val (.int p0), .val (.int p1), .val (.int p2), .val (.int p3), .unset, .unset, .unset, .unset, .unset, .unset, .unset, .unset, .unset, .unset, .unset, .unset, .unset] [])) zz → Steps p.tables e below (s₁.setTop (entryFrame m #[(.int k0), (.int p0), (.int p1), (.int p2), (.int p3)] maxLocals)) zz := fun zz k => castTop (ef_0 m k0 p0 p1 p2 p3) k
  obtain ⟨Tf, hf1, b, locs1, Xf, ef, Zf, Of, Kf, Vf, Nf, stf⟩ := fill1 (n0 := n0) k0 p0 p1 p2 p3 X0 hx hZ hw hby hml hown e0 Z0 O hbg0
  obtain ⟨fs, hr, hrun, hended, -, hWW, hBB, hSS⟩ := Stand.leaveW (s := s) (vm₁ := s.vm) Xf ((State.WarmedH.refl s).since 0) (by rw [ef]; exact (Nat.zero_le _)) (v := some (.int (1 : Int32))) (fun h => by rw [Bd.returns] at h; cases h)
  refine ⟨_, _, pre0 _ ?_, hrun, hended, _, _, rfl, ?_, ⟨_, rfl⟩, hWW, hBB, hSS.mono (by decide) (by decide)⟩
  · show Steps p.tables e below (s₁.setTop (mkF m 0 #[.val (.int k0), .val (.int p0), .val (.int p1), .val (.int p2), .val (.int p3), .unset, .unset, .unset, .unset, .unset, .unset, .unset, .unset, .unset, .unset, .unset, .unset, .unset] [])) _
    refine stf _ ?_
    show Steps p.tables e below (Tf.setTop (mkF m 126 #[.val (.int k0), .val (.int p0), .val (.int p1), .val (.int p2), .val (.int p3), .val (.int (1 : Int32)), .val (.int (f_draw p0)), .val (.int (f_draw p1)), .val (.int (f_draw p2)), .val (.int (f_draw p3)), .val (.ref b), .val (.int (f_share (f_draw p0) (0 : Int32) (f_draw p1))), .val (.int (f_share (f_draw p1) (f_draw p0) (f_draw p2))), .val (.int (f_share (f_draw p2) (f_draw p1) (f_draw p3))), .val (.int (f_share (f_draw p3) (f_draw p2) (0 : Int32))), .unset, .unset, .unset] [])) _
    refine XS.iload Xf.here hx rfl (hb hby at_126) rfl ?_
    refine XS.ifNo Xf.here hx rfl (hb hby at_128) rfl ((if0 _ _).trans (flt hc128).1) ?_
    refine XS.iload Xf.here hx rfl (hb hby at_131) rfl ?_
    refine XS.ifNo Xf.here hx rfl (hb hby at_133) rfl ((if0 _ _).trans (flt hc133).1) ?_
    refine XS.iload Xf.here hx rfl (hb hby at_136) rfl ?_
    refine XS.ifYes Xf.here hx rfl (pc0 := 138) (pc' := 146) rfl (hb hby at_138) rfl ((if0 _ _).trans (tlt hc138).1) (by decide) (by decide) ?_
    show Steps p.tables e below (Tf.setTop (mkF m 146 #[.val (.int k0), .val (.int p0), .val (.int p1), .val (.int p2), .val (.int p3), .val (.int (1 : Int32)), .val (.int (f_draw p0)), .val (.int (f_draw p1)), .val (.int (f_draw p2)), .val (.int (f_draw p3)), .val (.ref b), .val (.int (f_share (f_draw p0) (0 : Int32) (f_draw p1))), .val (.int (f_share (f_draw p1) (f_draw p0) (f_draw p2))), .val (.int (f_share (f_draw p2) (f_draw p1) (f_draw p3))), .val (.int (f_share (f_draw p3) (f_draw p2) (0 : Int32))), .unset, .unset, .unset] [])) _
    refine XS.iconst Xf.here hx rfl (hb hby at_146) ?_
    show Steps p.tables e below (Tf.setTop (mkF m 147 #[.val (.int k0), .val (.int p0), .val (.int p1), .val (.int p2), .val (.int p3), .val (.int (1 : Int32)), .val (.int (f_draw p0)), .val (.int (f_draw p1)), .val (.int (f_draw p2)), .val (.int (f_draw p3)), .val (.ref b), .val (.int (f_share (f_draw p0) (0 : Int32) (f_draw p1))), .val (.int (f_share (f_draw p1) (f_draw p0) (f_draw p2))), .val (.int (f_share (f_draw p2) (f_draw p1) (f_draw p3))), .val (.int (f_share (f_draw p3) (f_draw p2) (0 : Int32))), .unset, .unset, .unset] [(.int (1 : Int32))])) _
    exact retN Xf hx (t := .boolean) Bd.returns (by simp) (hb hby at_147) hr
  · show Q0  h0 n0 _ Tf.heap _
    exact ⟨rfl, Nf⟩
set_option maxRecDepth 65536 in
set_option maxHeartbeats 40000000 in
theorem rm0_13 (l : Launch) (Z : State) (a0 : Array Value) (hw : ∀ d ∈ tables_1, d.before a0 Z = true) (ws : List Jvm.Cond) (k0 : Int32) (p0 : Int32) (p1 : Int32) (p2 : Int32) (p3 : Int32)  (h0 : Heap) (n0 : Nat) (Z0 : n0 ≤ h0.size) (O : Old Z n0 h0) (SK : StrSta Z) (hbg0 : ¬ ((k0 &&& (1 : Int32)) = (0 : Int32))) (hc128 : ¬ ((f_share (f_draw p0) (0 : Int32) (f_draw p1)) < (0 : Int32))) (hc133 : ¬ ((f_share (f_draw p1) (f_draw p0) (f_draw p2)) < (0 : Int32))) (hc138 : ¬ ((f_share (f_draw p2) (f_draw p1) (f_draw p3)) < (0 : Int32))) (hc143 : (f_share (f_draw p3) (f_draw p2) (0 : Int32)) < (0 : Int32)) :
    MetFree l x (head1 (Jvm.Cond.code x code maxLocals ret :: ws) room_1) (fun aa_ U_ => aa_ = #[(.int k0), (.int p0), (.int p1), (.int p2), (.int p3)] ∧ Z.Warmed39 U_.vm ∧ U_.heap = h0) (fun _ _ _ _ _ => True) (fun _ U_ o_ V_ => ∃ v_ L_, o_ = .returned v_ ∧ Q0  h0 n0 v_ V_.heap L_ ∧ ReturnedEndW U_ o_ V_ L_ room_1.cells room_1.slots) := by
  refine MetFree.of_bodySF (plainFor_of_name pn_0) hisR ?_
  intro p e s m args below meth c s₁ Bd hml0 hP hK
  obtain ⟨rfl, hZ, hh⟩ := hP
  have hx := Bd.exec
  have hby := Bd.bytes
  have hml : c.maxLocals = 18 := hml0
  have hown : s.vm.findClass "com/example/orderly_latch/orderlylatch/name/LatchNameOfPinLaw" = some m.cls := findClass_of_methodNamed Bd.named
  have hnm := (name_of_methodNamed Bd.named Bd.method).1
  have X0 : Stand p l e room_1 s m #[(.int k0), (.int p0), (.int p1), (.int p2), (.int p3)] below meth c s₁ [] 0 0 := Stand.of_body Bd
  have e0 : s₁.heap = h0 := by rw [← hh, Bd.state]; rfl
  have N0 := Fr.nil n0
  have pre0 : ∀ zz, Steps p.tables e below (s₁.setTop (mkF m 0 #[.val (.int k0), .val (.int p0), .val (.int p1), .val (.int p2), .val (.int p3), .unset, .unset, .unset, .unset, .unset, .unset, .unset, .unset, .unset, .unset, .unset, .unset, .unset] [])) zz → Steps p.tables e below (s₁.setTop (entryFrame m #[(.int k0), (.int p0), (.int p1), (.int p2), (.int p3)] maxLocals)) zz := fun zz k => castTop (ef_0 m k0 p0 p1 p2 p3) k
  obtain ⟨Tf, hf1, b, locs1, Xf, ef, Zf, Of, Kf, Vf, Nf, stf⟩ := fill1 (n0 := n0) k0 p0 p1 p2 p3 X0 hx hZ hw hby hml hown e0 Z0 O hbg0
  obtain ⟨fs, hr, hrun, hended, -, hWW, hBB, hSS⟩ := Stand.leaveW (s := s) (vm₁ := s.vm) Xf ((State.WarmedH.refl s).since 0) (by rw [ef]; exact (Nat.zero_le _)) (v := some (.int (1 : Int32))) (fun h => by rw [Bd.returns] at h; cases h)
  refine ⟨_, _, pre0 _ ?_, hrun, hended, _, _, rfl, ?_, ⟨_, rfl⟩, hWW, hBB, hSS.mono (by decide) (by decide)⟩
  · show Steps p.tables e below (s₁.setTop (mkF m 0 #[.val (.int k0), .val (.int p0), .val (.int p1), .val (.int p2), .val (.int p3), .unset, .unset, .unset, .unset, .unset, .unset, .unset, .unset, .unset, .unset, .unset, .unset, .unset] [])) _
    refine stf _ ?_
    show Steps p.tables e below (Tf.setTop (mkF m 126 #[.val (.int k0), .val (.int p0), .val (.int p1), .val (.int p2), .val (.int p3), .val (.int (1 : Int32)), .val (.int (f_draw p0)), .val (.int (f_draw p1)), .val (.int (f_draw p2)), .val (.int (f_draw p3)), .val (.ref b), .val (.int (f_share (f_draw p0) (0 : Int32) (f_draw p1))), .val (.int (f_share (f_draw p1) (f_draw p0) (f_draw p2))), .val (.int (f_share (f_draw p2) (f_draw p1) (f_draw p3))), .val (.int (f_share (f_draw p3) (f_draw p2) (0 : Int32))), .unset, .unset, .unset] [])) _
    refine XS.iload Xf.here hx rfl (hb hby at_126) rfl ?_
    refine XS.ifNo Xf.here hx rfl (hb hby at_128) rfl ((if0 _ _).trans (flt hc128).1) ?_
    refine XS.iload Xf.here hx rfl (hb hby at_131) rfl ?_
    refine XS.ifNo Xf.here hx rfl (hb hby at_133) rfl ((if0 _ _).trans (flt hc133).1) ?_
    refine XS.iload Xf.here hx rfl (hb hby at_136) rfl ?_
    refine XS.ifNo Xf.here hx rfl (hb hby at_138) rfl ((if0 _ _).trans (flt hc138).1) ?_
    show Steps p.tables e below (Tf.setTop (mkF m 141 #[.val (.int k0), .val (.int p0), .val (.int p1), .val (.int p2), .val (.int p3), .val (.int (1 : Int32)), .val (.int (f_draw p0)), .val (.int (f_draw p1)), .val (.int (f_draw p2)), .val (.int (f_draw p3)), .val (.ref b), .val (.int (f_share (f_draw p0) (0 : Int32) (f_draw p1))), .val (.int (f_share (f_draw p1) (f_draw p0) (f_draw p2))), .val (.int (f_share (f_draw p2) (f_draw p1) (f_draw p3))), .val (.int (f_share (f_draw p3) (f_draw p2) (0 : Int32))), .unset, .unset, .unset] [])) _
    refine XS.iload Xf.here hx rfl (hb hby at_141) rfl ?_
    refine XS.ifNo Xf.here hx rfl (hb hby at_143) rfl ((if0 _ _).trans (tlt hc143).2.1) ?_
    refine XS.iconst Xf.here hx rfl (hb hby at_146) ?_
    show Steps p.tables e below (Tf.setTop (mkF m 147 #[.val (.int k0), .val (.int p0), .val (.int p1), .val (.int p2), .val (.int p3), .val (.int (1 : Int32)), .val (.int (f_draw p0)), .val (.int (f_draw p1)), .val (.int (f_draw p2)), .val (.int (f_draw p3)), .val (.ref b), .val (.int (f_share (f_draw p0) (0 : Int32) (f_draw p1))), .val (.int (f_share (f_draw p1) (f_draw p0) (f_draw p2))), .val (.int (f_share (f_draw p2) (f_draw p1) (f_draw p3))), .val (.int (f_share (f_draw p3) (f_draw p2) (0 : Int32))), .unset, .unset, .unset] [(.int (1 : Int32))])) _
    exact retN Xf hx (t := .boolean) Bd.returns (by simp) (hb hby at_147) hr
  · show Q0  h0 n0 _ Tf.heap _
    exact ⟨rfl, Nf⟩
set_option maxRecDepth 65536 in
set_option maxHeartbeats 40000000 in
theorem rm0_14 (l : Launch) (Z : State) (a0 : Array Value) (hw : ∀ d ∈ tables_1, d.before a0 Z = true) (ws : List Jvm.Cond) (k0 : Int32) (p0 : Int32) (p1 : Int32) (p2 : Int32) (p3 : Int32)  (h0 : Heap) (n0 : Nat) (Z0 : n0 ≤ h0.size) (O : Old Z n0 h0) (SK : StrSta Z) (hbg0 : ¬ ((k0 &&& (1 : Int32)) = (0 : Int32))) (hc128 : ¬ ((f_share (f_draw p0) (0 : Int32) (f_draw p1)) < (0 : Int32))) (hc133 : ¬ ((f_share (f_draw p1) (f_draw p0) (f_draw p2)) < (0 : Int32))) (hc138 : ¬ ((f_share (f_draw p2) (f_draw p1) (f_draw p3)) < (0 : Int32))) (hc143 : ¬ ((f_share (f_draw p3) (f_draw p2) (0 : Int32)) < (0 : Int32))) (hc179 : (200 : Int32) < (tot4 (f_share (f_draw p0) (0 : Int32) (f_draw p1)) (f_share (f_draw p1) (f_draw p0) (f_draw p2)) (f_share (f_draw p2) (f_draw p1) (f_draw p3)) (f_share (f_draw p3) (f_draw p2) (0 : Int32)) (192 : Int32))) :
    MetFree l x (head1 (Jvm.Cond.code x code maxLocals ret :: ws) room_1) (fun aa_ U_ => aa_ = #[(.int k0), (.int p0), (.int p1), (.int p2), (.int p3)] ∧ Z.Warmed39 U_.vm ∧ U_.heap = h0) (fun _ _ _ _ _ => True) (fun _ U_ o_ V_ => ∃ v_ L_, o_ = .returned v_ ∧ Q0  h0 n0 v_ V_.heap L_ ∧ ReturnedEndW U_ o_ V_ L_ room_1.cells room_1.slots) := by
  refine MetFree.of_bodySF (plainFor_of_name pn_0) hisR ?_
  intro p e s m args below meth c s₁ Bd hml0 hP hK
  obtain ⟨rfl, hZ, hh⟩ := hP
  have hx := Bd.exec
  have hby := Bd.bytes
  have hml : c.maxLocals = 18 := hml0
  have hown : s.vm.findClass "com/example/orderly_latch/orderlylatch/name/LatchNameOfPinLaw" = some m.cls := findClass_of_methodNamed Bd.named
  have hnm := (name_of_methodNamed Bd.named Bd.method).1
  have X0 : Stand p l e room_1 s m #[(.int k0), (.int p0), (.int p1), (.int p2), (.int p3)] below meth c s₁ [] 0 0 := Stand.of_body Bd
  have e0 : s₁.heap = h0 := by rw [← hh, Bd.state]; rfl
  have N0 := Fr.nil n0
  have pre0 : ∀ zz, Steps p.tables e below (s₁.setTop (mkF m 0 #[.val (.int k0), .val (.int p0), .val (.int p1), .val (.int p2), .val (.int p3), .unset, .unset, .unset, .unset, .unset, .unset, .unset, .unset, .unset, .unset, .unset, .unset, .unset] [])) zz → Steps p.tables e below (s₁.setTop (entryFrame m #[(.int k0), (.int p0), (.int p1), (.int p2), (.int p3)] maxLocals)) zz := fun zz k => castTop (ef_0 m k0 p0 p1 p2 p3) k
  obtain ⟨Tf, hf1, b, locs1, Xf, ef, Zf, Of, Kf, Vf, Nf, stf⟩ := fill1 (n0 := n0) k0 p0 p1 p2 p3 X0 hx hZ hw hby hml hown e0 Z0 O hbg0
  obtain ⟨fs, hr, hrun, hended, -, hWW, hBB, hSS⟩ := Stand.leaveW (s := s) (vm₁ := s.vm) Xf ((State.WarmedH.refl s).since 0) (by rw [ef]; exact (Nat.zero_le _)) (v := some (.int (1 : Int32))) (fun h => by rw [Bd.returns] at h; cases h)
  refine ⟨_, _, pre0 _ ?_, hrun, hended, _, _, rfl, ?_, ⟨_, rfl⟩, hWW, hBB, hSS.mono (by decide) (by decide)⟩
  · show Steps p.tables e below (s₁.setTop (mkF m 0 #[.val (.int k0), .val (.int p0), .val (.int p1), .val (.int p2), .val (.int p3), .unset, .unset, .unset, .unset, .unset, .unset, .unset, .unset, .unset, .unset, .unset, .unset, .unset] [])) _
    refine stf _ ?_
    show Steps p.tables e below (Tf.setTop (mkF m 126 #[.val (.int k0), .val (.int p0), .val (.int p1), .val (.int p2), .val (.int p3), .val (.int (1 : Int32)), .val (.int (f_draw p0)), .val (.int (f_draw p1)), .val (.int (f_draw p2)), .val (.int (f_draw p3)), .val (.ref b), .val (.int (f_share (f_draw p0) (0 : Int32) (f_draw p1))), .val (.int (f_share (f_draw p1) (f_draw p0) (f_draw p2))), .val (.int (f_share (f_draw p2) (f_draw p1) (f_draw p3))), .val (.int (f_share (f_draw p3) (f_draw p2) (0 : Int32))), .unset, .unset, .unset] [])) _
    refine XS.iload Xf.here hx rfl (hb hby at_126) rfl ?_
    refine XS.ifNo Xf.here hx rfl (hb hby at_128) rfl ((if0 _ _).trans (flt hc128).1) ?_
    refine XS.iload Xf.here hx rfl (hb hby at_131) rfl ?_
    refine XS.ifNo Xf.here hx rfl (hb hby at_133) rfl ((if0 _ _).trans (flt hc133).1) ?_
    refine XS.iload Xf.here hx rfl (hb hby at_136) rfl ?_
    refine XS.ifNo Xf.here hx rfl (hb hby at_138) rfl ((if0 _ _).trans (flt hc138).1) ?_
    show Steps p.tables e below (Tf.setTop (mkF m 141 #[.val (.int k0), .val (.int p0), .val (.int p1), .val (.int p2), .val (.int p3), .val (.int (1 : Int32)), .val (.int (f_draw p0)), .val (.int (f_draw p1)), .val (.int (f_draw p2)), .val (.int (f_draw p3)), .val (.ref b), .val (.int (f_share (f_draw p0) (0 : Int32) (f_draw p1))), .val (.int (f_share (f_draw p1) (f_draw p0) (f_draw p2))), .val (.int (f_share (f_draw p2) (f_draw p1) (f_draw p3))), .val (.int (f_share (f_draw p3) (f_draw p2) (0 : Int32))), .unset, .unset, .unset] [])) _
    refine XS.iload Xf.here hx rfl (hb hby at_141) rfl ?_
    refine XS.ifYes Xf.here hx rfl (pc0 := 143) (pc' := 148) rfl (hb hby at_143) rfl ((if0 _ _).trans (flt hc143).2.1) (by decide) (by decide) ?_
    refine XS.iload Xf.here hx rfl (hb hby at_148) rfl ?_
    refine XS.iload Xf.here hx rfl (hb hby at_150) rfl ?_
    refine XS.iadd Xf.here hx rfl (hb hby at_152) rfl ?_
    refine XS.iload Xf.here hx rfl (hb hby at_153) rfl ?_
    show Steps p.tables e below (Tf.setTop (mkF m 155 #[.val (.int k0), .val (.int p0), .val (.int p1), .val (.int p2), .val (.int p3), .val (.int (1 : Int32)), .val (.int (f_draw p0)), .val (.int (f_draw p1)), .val (.int (f_draw p2)), .val (.int (f_draw p3)), .val (.ref b), .val (.int (f_share (f_draw p0) (0 : Int32) (f_draw p1))), .val (.int (f_share (f_draw p1) (f_draw p0) (f_draw p2))), .val (.int (f_share (f_draw p2) (f_draw p1) (f_draw p3))), .val (.int (f_share (f_draw p3) (f_draw p2) (0 : Int32))), .unset, .unset, .unset] [(.int (f_share (f_draw p2) (f_draw p1) (f_draw p3))), (.int ((f_share (f_draw p0) (0 : Int32) (f_draw p1)) + (f_share (f_draw p1) (f_draw p0) (f_draw p2))))])) _
    refine XS.iadd Xf.here hx rfl (hb hby at_155) rfl ?_
    refine XS.iload Xf.here hx rfl (hb hby at_156) rfl ?_
    refine XS.iadd Xf.here hx rfl (hb hby at_158) rfl ?_
    refine XS.iload Xf.here hx rfl (hb hby at_159) rfl ?_
    refine XS.ifNo Xf.here hx rfl (hb hby at_161) rfl ((if0 _ _).trans (feq (by decide : ¬ ((1 : Int32) = (0 : Int32)))).1) ?_
    refine XS.sipush Xf.here hx rfl (hb hby at_164) ?_
    show Steps p.tables e below (Tf.setTop (mkF m 167 #[.val (.int k0), .val (.int p0), .val (.int p1), .val (.int p2), .val (.int p3), .val (.int (1 : Int32)), .val (.int (f_draw p0)), .val (.int (f_draw p1)), .val (.int (f_draw p2)), .val (.int (f_draw p3)), .val (.ref b), .val (.int (f_share (f_draw p0) (0 : Int32) (f_draw p1))), .val (.int (f_share (f_draw p1) (f_draw p0) (f_draw p2))), .val (.int (f_share (f_draw p2) (f_draw p1) (f_draw p3))), .val (.int (f_share (f_draw p3) (f_draw p2) (0 : Int32))), .unset, .unset, .unset] [(.int (192 : Int32)), (.int ((((f_share (f_draw p0) (0 : Int32) (f_draw p1)) + (f_share (f_draw p1) (f_draw p0) (f_draw p2))) + (f_share (f_draw p2) (f_draw p1) (f_draw p3))) + (f_share (f_draw p3) (f_draw p2) (0 : Int32))))])) _
    refine XS.goto Xf.here hx rfl (pc0 := 167) (pc' := 171) rfl (hb hby at_167) (by decide) (by decide) ?_
    refine XS.iadd Xf.here hx rfl (hb hby at_171) rfl ?_
    show Steps p.tables e below (Tf.setTop (mkF m 172 #[.val (.int k0), .val (.int p0), .val (.int p1), .val (.int p2), .val (.int p3), .val (.int (1 : Int32)), .val (.int (f_draw p0)), .val (.int (f_draw p1)), .val (.int (f_draw p2)), .val (.int (f_draw p3)), .val (.ref b), .val (.int (f_share (f_draw p0) (0 : Int32) (f_draw p1))), .val (.int (f_share (f_draw p1) (f_draw p0) (f_draw p2))), .val (.int (f_share (f_draw p2) (f_draw p1) (f_draw p3))), .val (.int (f_share (f_draw p3) (f_draw p2) (0 : Int32))), .unset, .unset, .unset] [(.int (tot4 (f_share (f_draw p0) (0 : Int32) (f_draw p1)) (f_share (f_draw p1) (f_draw p0) (f_draw p2)) (f_share (f_draw p2) (f_draw p1) (f_draw p3)) (f_share (f_draw p3) (f_draw p2) (0 : Int32)) (192 : Int32)))])) _
    refine XS.istore Xf.here hx rfl (hb hby at_172) rfl (l' := #[.val (.int k0), .val (.int p0), .val (.int p1), .val (.int p2), .val (.int p3), .val (.int (1 : Int32)), .val (.int (f_draw p0)), .val (.int (f_draw p1)), .val (.int (f_draw p2)), .val (.int (f_draw p3)), .val (.ref b), .val (.int (f_share (f_draw p0) (0 : Int32) (f_draw p1))), .val (.int (f_share (f_draw p1) (f_draw p0) (f_draw p2))), .val (.int (f_share (f_draw p2) (f_draw p1) (f_draw p3))), .val (.int (f_share (f_draw p3) (f_draw p2) (0 : Int32))), .val (.int (tot4 (f_share (f_draw p0) (0 : Int32) (f_draw p1)) (f_share (f_draw p1) (f_draw p0) (f_draw p2)) (f_share (f_draw p2) (f_draw p1) (f_draw p3)) (f_share (f_draw p3) (f_draw p2) (0 : Int32)) (192 : Int32))), .unset, .unset]) rfl ?_
    refine XS.iload Xf.here hx rfl (hb hby at_174) rfl ?_
    refine XS.sipush Xf.here hx rfl (hb hby at_176) ?_
    refine XS.icmpNo Xf.here hx rfl (hb hby at_179) rfl (tlt hc179).2.2.2 ?_
    refine XS.iconst Xf.here hx rfl (hb hby at_182) ?_
    show Steps p.tables e below (Tf.setTop (mkF m 183 #[.val (.int k0), .val (.int p0), .val (.int p1), .val (.int p2), .val (.int p3), .val (.int (1 : Int32)), .val (.int (f_draw p0)), .val (.int (f_draw p1)), .val (.int (f_draw p2)), .val (.int (f_draw p3)), .val (.ref b), .val (.int (f_share (f_draw p0) (0 : Int32) (f_draw p1))), .val (.int (f_share (f_draw p1) (f_draw p0) (f_draw p2))), .val (.int (f_share (f_draw p2) (f_draw p1) (f_draw p3))), .val (.int (f_share (f_draw p3) (f_draw p2) (0 : Int32))), .val (.int (tot4 (f_share (f_draw p0) (0 : Int32) (f_draw p1)) (f_share (f_draw p1) (f_draw p0) (f_draw p2)) (f_share (f_draw p2) (f_draw p1) (f_draw p3)) (f_share (f_draw p3) (f_draw p2) (0 : Int32)) (192 : Int32))), .unset, .unset] [(.int (1 : Int32))])) _
    exact retN Xf hx (t := .boolean) Bd.returns (by simp) (hb hby at_183) hr
  · show Q0  h0 n0 _ Tf.heap _
    exact ⟨rfl, Nf⟩
set_option maxRecDepth 65536 in
set_option maxHeartbeats 40000000 in
theorem rm0_15 (l : Launch) (Z : State) (a0 : Array Value) (hw : ∀ d ∈ tables_1, d.before a0 Z = true) (ws : List Jvm.Cond) (k0 : Int32) (p0 : Int32) (p1 : Int32) (p2 : Int32) (p3 : Int32)  (h0 : Heap) (n0 : Nat) (Z0 : n0 ≤ h0.size) (O : Old Z n0 h0) (SK : StrSta Z) (hbg0 : ¬ ((k0 &&& (1 : Int32)) = (0 : Int32))) (hc128 : ¬ ((f_share (f_draw p0) (0 : Int32) (f_draw p1)) < (0 : Int32))) (hc133 : ¬ ((f_share (f_draw p1) (f_draw p0) (f_draw p2)) < (0 : Int32))) (hc138 : ¬ ((f_share (f_draw p2) (f_draw p1) (f_draw p3)) < (0 : Int32))) (hc143 : ¬ ((f_share (f_draw p3) (f_draw p2) (0 : Int32)) < (0 : Int32))) (hc179 : ¬ ((200 : Int32) < (tot4 (f_share (f_draw p0) (0 : Int32) (f_draw p1)) (f_share (f_draw p1) (f_draw p0) (f_draw p2)) (f_share (f_draw p2) (f_draw p1) (f_draw p3)) (f_share (f_draw p3) (f_draw p2) (0 : Int32)) (192 : Int32)))) :
    MetFree l x (head1 (Jvm.Cond.code x code maxLocals ret :: ws) room_1) (fun aa_ U_ => aa_ = #[(.int k0), (.int p0), (.int p1), (.int p2), (.int p3)] ∧ Z.Warmed39 U_.vm ∧ U_.heap = h0) (fun _ _ _ _ _ => True) (fun _ U_ o_ V_ => ∃ v_ L_, o_ = .returned v_ ∧ Q0  h0 n0 v_ V_.heap L_ ∧ ReturnedEndW U_ o_ V_ L_ room_1.cells room_1.slots) := by
  refine MetFree.of_bodySF (plainFor_of_name pn_0) hisR ?_
  intro p e s m args below meth c s₁ Bd hml0 hP hK
  obtain ⟨rfl, hZ, hh⟩ := hP
  have hx := Bd.exec
  have hby := Bd.bytes
  have hml : c.maxLocals = 18 := hml0
  have hown : s.vm.findClass "com/example/orderly_latch/orderlylatch/name/LatchNameOfPinLaw" = some m.cls := findClass_of_methodNamed Bd.named
  have hnm := (name_of_methodNamed Bd.named Bd.method).1
  have X0 : Stand p l e room_1 s m #[(.int k0), (.int p0), (.int p1), (.int p2), (.int p3)] below meth c s₁ [] 0 0 := Stand.of_body Bd
  have e0 : s₁.heap = h0 := by rw [← hh, Bd.state]; rfl
  have N0 := Fr.nil n0
  have pre0 : ∀ zz, Steps p.tables e below (s₁.setTop (mkF m 0 #[.val (.int k0), .val (.int p0), .val (.int p1), .val (.int p2), .val (.int p3), .unset, .unset, .unset, .unset, .unset, .unset, .unset, .unset, .unset, .unset, .unset, .unset, .unset] [])) zz → Steps p.tables e below (s₁.setTop (entryFrame m #[(.int k0), (.int p0), (.int p1), (.int p2), (.int p3)] maxLocals)) zz := fun zz k => castTop (ef_0 m k0 p0 p1 p2 p3) k
  obtain ⟨Tf, hf1, b, locs1, Xf, ef, Zf, Of, Kf, Vf, Nf, stf⟩ := fill1 (n0 := n0) k0 p0 p1 p2 p3 X0 hx hZ hw hby hml hown e0 Z0 O hbg0
  obtain ⟨T133, h133, X133, e133, E133, A133, D133, -, st133⟩ := newO Xf hx hZ hown (hw _ (List.mem_of_getElem? (i := 9) rfl)) (hw _ (List.mem_of_getElem? (i := 10) rfl)) (hw _ (List.mem_of_getElem? (i := 11) rfl)) ef (g := (mkF m 184 #[.val (.int k0), .val (.int p0), .val (.int p1), .val (.int p2), .val (.int p3), .val (.int (1 : Int32)), .val (.int (f_draw p0)), .val (.int (f_draw p1)), .val (.int (f_draw p2)), .val (.int (f_draw p3)), .val (.ref b), .val (.int (f_share (f_draw p0) (0 : Int32) (f_draw p1))), .val (.int (f_share (f_draw p1) (f_draw p0) (f_draw p2))), .val (.int (f_share (f_draw p2) (f_draw p1) (f_draw p3))), .val (.int (f_share (f_draw p3) (f_draw p2) (0 : Int32))), .val (.int (tot4 (f_share (f_draw p0) (0 : Int32) (f_draw p1)) (f_share (f_draw p1) (f_draw p0) (f_draw p2)) (f_share (f_draw p2) (f_draw p1) (f_draw p3)) (f_share (f_draw p3) (f_draw p2) (0 : Int32)) (192 : Int32))), .unset, .unset] [])) rfl (hb hby at_184) (by decide) (by decide)
  obtain ⟨b133, g133⟩ : ∃ z, z = hf1.size := ⟨_, rfl⟩
  rw [← g133] at A133 D133 st133
  have ne_b_b133 : b ≠ b133 := Nat.ne_of_lt (Nat.lt_of_lt_of_le Vf.lt (Nat.le_of_eq g133.symm))
  have Vf_e133 := Vf.ext E133
  have E_b133 := A133
  have g_b133 : n0 ≤ b133 := Nat.le_trans Zf (Nat.le_of_eq g133.symm)
  have sz_b133 : h0.size ≤ b133 := Nat.le_trans Kf.1 (Nat.le_of_eq g133.symm)
  have K133 := Kf.ext E133
  have Z133 : n0 ≤ h133.size := Nat.le_trans Zf E133.1
  have F_coder_b133 : Fld Z h133 b133 "java/lang/String" "coder" "B" (.int (0 : Int32)) := D133 (Or.inr (hw _ (List.mem_of_getElem? (i := 35) rfl))) (ty := .byte) (by decide)
  have F_value_b133 : Fld Z h133 b133 "java/lang/String" "value" "[B" .null := D133 (Or.inr (hw _ (List.mem_of_getElem? (i := 37) rfl))) (ty := (.array .byte)) (by decide)
  have O133 := Of.ext E133
  obtain ⟨_, _, ⟨T134, L134, k134, n134⟩, -, X134, ⟨Lc134, hQ134, l134, y134, z134⟩, st134⟩ := X133.specialBack hx (y := (⟨"java/lang/String", "<init>", "([C)V"⟩ : MethodName)) rfl hown (mvT hZ (hw _ (List.mem_of_getElem? (i := 12) rfl))) (mvT hZ (hw _ (List.mem_of_getElem? (i := 13) rfl))) (mvT hZ (hw _ (List.mem_of_getElem? (i := 14) rfl))) (by decide) (backOf (W := 1) (rmI1 l Z a0 hw [] b133 b 196 (gL (f_draw p0) (f_draw p1) (f_draw p2) (f_draw p3)) h133 n0 Z133 (by decide) (by decide) O133 SK Vf_e133 (fun j _ => gL_ch (draw_ch _) (draw_ch _) (draw_ch _) (draw_ch _) j) E_b133 F_value_b133 F_coder_b133 g_b133 ne_b_b133) hZ (hw _ (List.mem_of_getElem? (i := 14) rfl)) (hw _ (List.mem_of_getElem? (i := 11) rfl)) (by decide) (by decide)) (g := (mkF m 190 #[.val (.int k0), .val (.int p0), .val (.int p1), .val (.int p2), .val (.int p3), .val (.int (1 : Int32)), .val (.int (f_draw p0)), .val (.int (f_draw p1)), .val (.int (f_draw p2)), .val (.int (f_draw p3)), .val (.ref b), .val (.int (f_share (f_draw p0) (0 : Int32) (f_draw p1))), .val (.int (f_share (f_draw p1) (f_draw p0) (f_draw p2))), .val (.int (f_share (f_draw p2) (f_draw p1) (f_draw p3))), .val (.int (f_share (f_draw p3) (f_draw p2) (0 : Int32))), .val (.int (tot4 (f_share (f_draw p0) (0 : Int32) (f_draw p1)) (f_share (f_draw p1) (f_draw p0) (f_draw p2)) (f_share (f_draw p2) (f_draw p1) (f_draw p3)) (f_share (f_draw p3) (f_draw p2) (0 : Int32)) (192 : Int32))), .unset, .unset] [(.ref b), (.ref b133), (.ref b133)])) rfl (by rw [hml]; rfl) (Steps.refl _) (a := b133) (argsL := [(.ref b)]) (rest := [(.ref b133)]) (lenOf pd_2 rfl) rfl (by show 2 * 0 + _ ≤ _; exact Nat.le_of_eq rfl) (hb hby at_190) (fun _ _ => ⟨rfl, e133, (by decide : 2 + 2 ≤ _), (by decide : 200 + 600 ≤ _)⟩)
  dsimp only [Pt.U, Pt.locs, Pt.cells, Pt.slots] at X134 l134 y134 z134 st134 hQ134
  subst l134 y134 z134
  obtain ⟨rfl, N134q, K134, S134⟩ := hQ134
  have N134 := Fr.app Nf N134q
  have KK134 := K133.trans K134 (fun x r => by cases List.mem_singleton.mp r; exact (Or.inr sz_b133))
  have Z134 : n0 ≤ T134.heap.size := Nat.le_trans Z133 K134.1
  have O134 := O133.keep K134 (all1 g_b133)
  obtain ⟨_, _, ⟨T135, L135, k135, n135⟩, -, X135, hS2135, hg135, ⟨Lc135, hQ135, l135, y135, z135⟩, st135⟩ := callSS X134 hx (y := (⟨"com/example/orderly_latch/orderlylatch/name/LatchName", "of", "(Ljava/lang/String;)Lcom/example/orderly_latch/orderlylatch/name/LatchName;"⟩ : MethodName)) hown (mvT hZ (hw _ (List.mem_of_getElem? (i := 38) rfl))) (mvT hZ (hw _ (List.mem_of_getElem? (i := 39) rfl))) (mvT hZ (hw _ (List.mem_of_getElem? (i := 40) rfl))) (mvT hZ (hw _ (List.mem_of_getElem? (i := 41) rfl))) (by decide) (backOfS (W := 0) (rmOF l Z a0 hw [] b133 196 (gL (f_draw p0) (f_draw p1) (f_draw p2) (f_draw p3)) T134.heap n0 Z134 (by decide) (by decide) O134 SK S134 (nn4 (Or.inr rfl) hc128 hc133 hc138 hc143) (by rw [sum196]; exact hc179)) hZ (hw _ (List.mem_of_getElem? (i := 41) rfl)) (hw _ (List.mem_of_getElem? (i := 40) rfl)) (by decide) (by decide)) (g := (mkF m 197 #[.val (.int k0), .val (.int p0), .val (.int p1), .val (.int p2), .val (.int p3), .val (.int (1 : Int32)), .val (.int (f_draw p0)), .val (.int (f_draw p1)), .val (.int (f_draw p2)), .val (.int (f_draw p3)), .val (.ref b), .val (.int (f_share (f_draw p0) (0 : Int32) (f_draw p1))), .val (.int (f_share (f_draw p1) (f_draw p0) (f_draw p2))), .val (.int (f_share (f_draw p2) (f_draw p1) (f_draw p3))), .val (.int (f_share (f_draw p3) (f_draw p2) (0 : Int32))), .val (.int (tot4 (f_share (f_draw p0) (0 : Int32) (f_draw p1)) (f_share (f_draw p1) (f_draw p0) (f_draw p2)) (f_share (f_draw p2) (f_draw p1) (f_draw p3)) (f_share (f_draw p3) (f_draw p2) (0 : Int32)) (192 : Int32))), .val (.ref b133), .unset] [(.ref b133)])) rfl (by rw [hml]; rfl) (argsL := [(.ref b133)]) (rest := []) (lenOf pd_8 rfl) rfl (by show 2 * 0 + _ ≤ _; exact Nat.le_of_eq rfl) (hb hby at_197) (fun _ _ => ⟨rfl, rfl, (by decide : 4 + 3 ≤ _), (by decide : 800 + 41 ≤ _)⟩)
  dsimp only [Pt.U, Pt.locs, Pt.cells, Pt.slots] at X135 l135 y135 z135 st135 hQ135 hS2135 hg135
  subst l135 y135 z135
  obtain ⟨b135, rfl, N135q, K135, Ex135, Fx135⟩ := hQ135
  have N135 := Fr.app N134 N135q
  have hS135 := foldS ((State.WarmedH.refl s).since 0) (by exact (Nat.zero_le _)) hS2135 hg135
  have hZ135 : Z.Warmed39 (s.setVm T135.vm).vm := State.Warmed39.trans hZ hS2135.1
  have hown135 : (s.setVm T135.vm).vm.findClass "com/example/orderly_latch/orderlylatch/name/LatchNameOfPinLaw" = some m.cls := by rw [show (s.setVm T135.vm).vm = T135.vm from rfl, hS2135.1.alike.findClass]; exact hown
  have Es135 := S134.1.keep K135
  have KK135 := KK134.trans K135 (fun x r => absurd r List.not_mem_nil)
  have Z135 : n0 ≤ T135.heap.size := Nat.le_trans Z134 K135.1
  have O135 := O134.keep K135 all0'
  obtain ⟨cq136, kq136, q136a, q136b, q136c⟩ := isOf hZ135 rfl Ex135
  obtain ⟨_, _, ⟨T136, L136, k136, n136⟩, -, X136, ⟨Lc136, hQ136, l136, y136, z136⟩, st136⟩ := X135.virtualBack hx (y := (⟨"com/example/orderly_latch/orderlylatch/name/LatchName", "value", "()Ljava/lang/String;"⟩ : MethodName)) (z := (⟨"com/example/orderly_latch/orderlylatch/name/LatchName", "value", "()Ljava/lang/String;"⟩ : MethodName)) hown135 (mvT hZ135 (hw _ (List.mem_of_getElem? (i := 97) rfl))) (mvT hZ135 (hw _ (List.mem_of_getElem? (i := 98) rfl))) (notFace_of_selects (args := #[]) (mvT hZ135 (hw _ (List.mem_of_getElem? (i := 100) rfl)))) (mvT hZ135 (hw _ (List.mem_of_getElem? (i := 100) rfl))) (mvT hZ135 (hw _ (List.mem_of_getElem? (i := 99) rfl))) (by decide) (backOf (W := 1) (rmVAL l Z a0 hw [] b135 b133 T135.heap n0 Z135 Ex135 Fx135) hZ135 (hw _ (List.mem_of_getElem? (i := 101) rfl)) (hw _ (List.mem_of_getElem? (i := 40) rfl)) (by decide) (by decide)) q136a q136c (g := (mkF m 206 #[.val (.int k0), .val (.int p0), .val (.int p1), .val (.int p2), .val (.int p3), .val (.int (1 : Int32)), .val (.int (f_draw p0)), .val (.int (f_draw p1)), .val (.int (f_draw p2)), .val (.int (f_draw p3)), .val (.ref b), .val (.int (f_share (f_draw p0) (0 : Int32) (f_draw p1))), .val (.int (f_share (f_draw p1) (f_draw p0) (f_draw p2))), .val (.int (f_share (f_draw p2) (f_draw p1) (f_draw p3))), .val (.int (f_share (f_draw p3) (f_draw p2) (0 : Int32))), .val (.int (tot4 (f_share (f_draw p0) (0 : Int32) (f_draw p1)) (f_share (f_draw p1) (f_draw p0) (f_draw p2)) (f_share (f_draw p2) (f_draw p1) (f_draw p3)) (f_share (f_draw p3) (f_draw p2) (0 : Int32)) (192 : Int32))), .val (.ref b133), .val (.ref b135)] [(.ref b135), (.ref b133)])) rfl (by rw [hml]; rfl) (Steps.refl _) (argsL := []) (rest := [(.ref b133)]) (lenOf pd_19 rfl) rfl (by show 2 * 0 + _ ≤ _; exact Nat.le_of_eq rfl) (hb hby at_206) (fun _ _ => ⟨rfl, rfl, (by decide : 7 + 0 ≤ _), (by decide : 841 + 0 ≤ _)⟩)
  dsimp only [Pt.U, Pt.locs, Pt.cells, Pt.slots] at X136 l136 y136 z136 st136 hQ136
  subst l136 y136 z136
  obtain ⟨rfl, N136q, e136⟩ := hQ136
  have N136 := Fr.app N135 N136q
  obtain ⟨cq137, kq137, q137a, q137b, q137c⟩ := isOf hZ135 e136 Es135
  obtain ⟨_, _, ⟨T137, L137, k137, n137⟩, -, X137, ⟨Lc137, hQ137, l137, y137, z137⟩, st137⟩ := X136.virtualBack hx (y := (⟨"java/lang/String", "equals", "(Ljava/lang/Object;)Z"⟩ : MethodName)) (z := (⟨"java/lang/String", "equals", "(Ljava/lang/Object;)Z"⟩ : MethodName)) hown135 (mvT hZ135 (hw _ (List.mem_of_getElem? (i := 102) rfl))) (mvT hZ135 (hw _ (List.mem_of_getElem? (i := 103) rfl))) (notFace_of_selects (args := #[]) (mvT hZ135 (hw _ (List.mem_of_getElem? (i := 105) rfl)))) (mvT hZ135 (hw _ (List.mem_of_getElem? (i := 105) rfl))) (mvT hZ135 (hw _ (List.mem_of_getElem? (i := 104) rfl))) (by decide) (backOf (W := 0) (rmEQ l Z a0 hw [] b133 T135.heap n0 Z135 ) hZ135 (hw _ (List.mem_of_getElem? (i := 106) rfl)) (hw _ (List.mem_of_getElem? (i := 11) rfl)) (by decide) (by decide)) q137a q137c (g := (mkF m 209 #[.val (.int k0), .val (.int p0), .val (.int p1), .val (.int p2), .val (.int p3), .val (.int (1 : Int32)), .val (.int (f_draw p0)), .val (.int (f_draw p1)), .val (.int (f_draw p2)), .val (.int (f_draw p3)), .val (.ref b), .val (.int (f_share (f_draw p0) (0 : Int32) (f_draw p1))), .val (.int (f_share (f_draw p1) (f_draw p0) (f_draw p2))), .val (.int (f_share (f_draw p2) (f_draw p1) (f_draw p3))), .val (.int (f_share (f_draw p3) (f_draw p2) (0 : Int32))), .val (.int (tot4 (f_share (f_draw p0) (0 : Int32) (f_draw p1)) (f_share (f_draw p1) (f_draw p0) (f_draw p2)) (f_share (f_draw p2) (f_draw p1) (f_draw p3)) (f_share (f_draw p3) (f_draw p2) (0 : Int32)) (192 : Int32))), .val (.ref b133), .val (.ref b135)] [(.ref b133), (.ref b133)])) rfl (by rw [hml]; rfl) (Steps.refl _) (argsL := [(.ref b133)]) (rest := []) (lenOf pd_20 rfl) rfl (by show 2 * 0 + _ ≤ _; exact Nat.le_of_eq rfl) (hb hby at_209) (fun _ _ => ⟨rfl, e136, (by decide : 7 + 0 ≤ _), (by decide : 841 + 0 ≤ _)⟩)
  dsimp only [Pt.U, Pt.locs, Pt.cells, Pt.slots] at X137 l137 y137 z137 st137 hQ137
  subst l137 y137 z137
  obtain ⟨rfl, N137q, e137⟩ := hQ137
  have N137 := Fr.app N136 N137q
  obtain ⟨fs, hr, hrun, hended, -, hWW, hBB, hSS⟩ := Stand.leaveW (s := s) (vm₁ := T135.vm) X137 hS135 (by rw [e137]; exact (Nat.le_refl _)) (v := some (.int (1 : Int32))) (fun h => by rw [Bd.returns] at h; cases h)
  refine ⟨_, _, pre0 _ ?_, hrun, hended, _, _, rfl, ?_, ⟨_, rfl⟩, hWW, hBB, hSS.mono (by decide) (by decide)⟩
  · show Steps p.tables e below (s₁.setTop (mkF m 0 #[.val (.int k0), .val (.int p0), .val (.int p1), .val (.int p2), .val (.int p3), .unset, .unset, .unset, .unset, .unset, .unset, .unset, .unset, .unset, .unset, .unset, .unset, .unset] [])) _
    refine stf _ ?_
    show Steps p.tables e below (Tf.setTop (mkF m 126 #[.val (.int k0), .val (.int p0), .val (.int p1), .val (.int p2), .val (.int p3), .val (.int (1 : Int32)), .val (.int (f_draw p0)), .val (.int (f_draw p1)), .val (.int (f_draw p2)), .val (.int (f_draw p3)), .val (.ref b), .val (.int (f_share (f_draw p0) (0 : Int32) (f_draw p1))), .val (.int (f_share (f_draw p1) (f_draw p0) (f_draw p2))), .val (.int (f_share (f_draw p2) (f_draw p1) (f_draw p3))), .val (.int (f_share (f_draw p3) (f_draw p2) (0 : Int32))), .unset, .unset, .unset] [])) _
    refine XS.iload Xf.here hx rfl (hb hby at_126) rfl ?_
    refine XS.ifNo Xf.here hx rfl (hb hby at_128) rfl ((if0 _ _).trans (flt hc128).1) ?_
    refine XS.iload Xf.here hx rfl (hb hby at_131) rfl ?_
    refine XS.ifNo Xf.here hx rfl (hb hby at_133) rfl ((if0 _ _).trans (flt hc133).1) ?_
    refine XS.iload Xf.here hx rfl (hb hby at_136) rfl ?_
    refine XS.ifNo Xf.here hx rfl (hb hby at_138) rfl ((if0 _ _).trans (flt hc138).1) ?_
    show Steps p.tables e below (Tf.setTop (mkF m 141 #[.val (.int k0), .val (.int p0), .val (.int p1), .val (.int p2), .val (.int p3), .val (.int (1 : Int32)), .val (.int (f_draw p0)), .val (.int (f_draw p1)), .val (.int (f_draw p2)), .val (.int (f_draw p3)), .val (.ref b), .val (.int (f_share (f_draw p0) (0 : Int32) (f_draw p1))), .val (.int (f_share (f_draw p1) (f_draw p0) (f_draw p2))), .val (.int (f_share (f_draw p2) (f_draw p1) (f_draw p3))), .val (.int (f_share (f_draw p3) (f_draw p2) (0 : Int32))), .unset, .unset, .unset] [])) _
    refine XS.iload Xf.here hx rfl (hb hby at_141) rfl ?_
    refine XS.ifYes Xf.here hx rfl (pc0 := 143) (pc' := 148) rfl (hb hby at_143) rfl ((if0 _ _).trans (flt hc143).2.1) (by decide) (by decide) ?_
    refine XS.iload Xf.here hx rfl (hb hby at_148) rfl ?_
    refine XS.iload Xf.here hx rfl (hb hby at_150) rfl ?_
    refine XS.iadd Xf.here hx rfl (hb hby at_152) rfl ?_
    refine XS.iload Xf.here hx rfl (hb hby at_153) rfl ?_
    show Steps p.tables e below (Tf.setTop (mkF m 155 #[.val (.int k0), .val (.int p0), .val (.int p1), .val (.int p2), .val (.int p3), .val (.int (1 : Int32)), .val (.int (f_draw p0)), .val (.int (f_draw p1)), .val (.int (f_draw p2)), .val (.int (f_draw p3)), .val (.ref b), .val (.int (f_share (f_draw p0) (0 : Int32) (f_draw p1))), .val (.int (f_share (f_draw p1) (f_draw p0) (f_draw p2))), .val (.int (f_share (f_draw p2) (f_draw p1) (f_draw p3))), .val (.int (f_share (f_draw p3) (f_draw p2) (0 : Int32))), .unset, .unset, .unset] [(.int (f_share (f_draw p2) (f_draw p1) (f_draw p3))), (.int ((f_share (f_draw p0) (0 : Int32) (f_draw p1)) + (f_share (f_draw p1) (f_draw p0) (f_draw p2))))])) _
    refine XS.iadd Xf.here hx rfl (hb hby at_155) rfl ?_
    refine XS.iload Xf.here hx rfl (hb hby at_156) rfl ?_
    refine XS.iadd Xf.here hx rfl (hb hby at_158) rfl ?_
    refine XS.iload Xf.here hx rfl (hb hby at_159) rfl ?_
    refine XS.ifNo Xf.here hx rfl (hb hby at_161) rfl ((if0 _ _).trans (feq (by decide : ¬ ((1 : Int32) = (0 : Int32)))).1) ?_
    refine XS.sipush Xf.here hx rfl (hb hby at_164) ?_
    show Steps p.tables e below (Tf.setTop (mkF m 167 #[.val (.int k0), .val (.int p0), .val (.int p1), .val (.int p2), .val (.int p3), .val (.int (1 : Int32)), .val (.int (f_draw p0)), .val (.int (f_draw p1)), .val (.int (f_draw p2)), .val (.int (f_draw p3)), .val (.ref b), .val (.int (f_share (f_draw p0) (0 : Int32) (f_draw p1))), .val (.int (f_share (f_draw p1) (f_draw p0) (f_draw p2))), .val (.int (f_share (f_draw p2) (f_draw p1) (f_draw p3))), .val (.int (f_share (f_draw p3) (f_draw p2) (0 : Int32))), .unset, .unset, .unset] [(.int (192 : Int32)), (.int ((((f_share (f_draw p0) (0 : Int32) (f_draw p1)) + (f_share (f_draw p1) (f_draw p0) (f_draw p2))) + (f_share (f_draw p2) (f_draw p1) (f_draw p3))) + (f_share (f_draw p3) (f_draw p2) (0 : Int32))))])) _
    refine XS.goto Xf.here hx rfl (pc0 := 167) (pc' := 171) rfl (hb hby at_167) (by decide) (by decide) ?_
    refine XS.iadd Xf.here hx rfl (hb hby at_171) rfl ?_
    show Steps p.tables e below (Tf.setTop (mkF m 172 #[.val (.int k0), .val (.int p0), .val (.int p1), .val (.int p2), .val (.int p3), .val (.int (1 : Int32)), .val (.int (f_draw p0)), .val (.int (f_draw p1)), .val (.int (f_draw p2)), .val (.int (f_draw p3)), .val (.ref b), .val (.int (f_share (f_draw p0) (0 : Int32) (f_draw p1))), .val (.int (f_share (f_draw p1) (f_draw p0) (f_draw p2))), .val (.int (f_share (f_draw p2) (f_draw p1) (f_draw p3))), .val (.int (f_share (f_draw p3) (f_draw p2) (0 : Int32))), .unset, .unset, .unset] [(.int (tot4 (f_share (f_draw p0) (0 : Int32) (f_draw p1)) (f_share (f_draw p1) (f_draw p0) (f_draw p2)) (f_share (f_draw p2) (f_draw p1) (f_draw p3)) (f_share (f_draw p3) (f_draw p2) (0 : Int32)) (192 : Int32)))])) _
    refine XS.istore Xf.here hx rfl (hb hby at_172) rfl (l' := #[.val (.int k0), .val (.int p0), .val (.int p1), .val (.int p2), .val (.int p3), .val (.int (1 : Int32)), .val (.int (f_draw p0)), .val (.int (f_draw p1)), .val (.int (f_draw p2)), .val (.int (f_draw p3)), .val (.ref b), .val (.int (f_share (f_draw p0) (0 : Int32) (f_draw p1))), .val (.int (f_share (f_draw p1) (f_draw p0) (f_draw p2))), .val (.int (f_share (f_draw p2) (f_draw p1) (f_draw p3))), .val (.int (f_share (f_draw p3) (f_draw p2) (0 : Int32))), .val (.int (tot4 (f_share (f_draw p0) (0 : Int32) (f_draw p1)) (f_share (f_draw p1) (f_draw p0) (f_draw p2)) (f_share (f_draw p2) (f_draw p1) (f_draw p3)) (f_share (f_draw p3) (f_draw p2) (0 : Int32)) (192 : Int32))), .unset, .unset]) rfl ?_
    refine XS.iload Xf.here hx rfl (hb hby at_174) rfl ?_
    refine XS.sipush Xf.here hx rfl (hb hby at_176) ?_
    refine XS.icmpYes Xf.here hx rfl (pc0 := 179) (pc' := 184) rfl (hb hby at_179) rfl (flt hc179).2.2.2 (by decide) (by decide) ?_
    show Steps p.tables e below (Tf.setTop (mkF m 184 #[.val (.int k0), .val (.int p0), .val (.int p1), .val (.int p2), .val (.int p3), .val (.int (1 : Int32)), .val (.int (f_draw p0)), .val (.int (f_draw p1)), .val (.int (f_draw p2)), .val (.int (f_draw p3)), .val (.ref b), .val (.int (f_share (f_draw p0) (0 : Int32) (f_draw p1))), .val (.int (f_share (f_draw p1) (f_draw p0) (f_draw p2))), .val (.int (f_share (f_draw p2) (f_draw p1) (f_draw p3))), .val (.int (f_share (f_draw p3) (f_draw p2) (0 : Int32))), .val (.int (tot4 (f_share (f_draw p0) (0 : Int32) (f_draw p1)) (f_share (f_draw p1) (f_draw p0) (f_draw p2)) (f_share (f_draw p2) (f_draw p1) (f_draw p3)) (f_share (f_draw p3) (f_draw p2) (0 : Int32)) (192 : Int32))), .unset, .unset] [])) _
    refine st133 _ ?_
    refine XS.dup X133.here hx rfl (hb hby at_187) rfl rfl ?_
    refine XS.aload X133.here hx rfl (hb hby at_188) rfl rfl ?_
    show Steps p.tables e below (T133.setTop (mkF m 190 #[.val (.int k0), .val (.int p0), .val (.int p1), .val (.int p2), .val (.int p3), .val (.int (1 : Int32)), .val (.int (f_draw p0)), .val (.int (f_draw p1)), .val (.int (f_draw p2)), .val (.int (f_draw p3)), .val (.ref b), .val (.int (f_share (f_draw p0) (0 : Int32) (f_draw p1))), .val (.int (f_share (f_draw p1) (f_draw p0) (f_draw p2))), .val (.int (f_share (f_draw p2) (f_draw p1) (f_draw p3))), .val (.int (f_share (f_draw p3) (f_draw p2) (0 : Int32))), .val (.int (tot4 (f_share (f_draw p0) (0 : Int32) (f_draw p1)) (f_share (f_draw p1) (f_draw p0) (f_draw p2)) (f_share (f_draw p2) (f_draw p1) (f_draw p3)) (f_share (f_draw p3) (f_draw p2) (0 : Int32)) (192 : Int32))), .unset, .unset] [(.ref b), (.ref b133), (.ref b133)])) _
    refine st134.trans ?_
    refine XS.astore X134.here hx rfl (hb hby at_193) rfl rfl (l' := #[.val (.int k0), .val (.int p0), .val (.int p1), .val (.int p2), .val (.int p3), .val (.int (1 : Int32)), .val (.int (f_draw p0)), .val (.int (f_draw p1)), .val (.int (f_draw p2)), .val (.int (f_draw p3)), .val (.ref b), .val (.int (f_share (f_draw p0) (0 : Int32) (f_draw p1))), .val (.int (f_share (f_draw p1) (f_draw p0) (f_draw p2))), .val (.int (f_share (f_draw p2) (f_draw p1) (f_draw p3))), .val (.int (f_share (f_draw p3) (f_draw p2) (0 : Int32))), .val (.int (tot4 (f_share (f_draw p0) (0 : Int32) (f_draw p1)) (f_share (f_draw p1) (f_draw p0) (f_draw p2)) (f_share (f_draw p2) (f_draw p1) (f_draw p3)) (f_share (f_draw p3) (f_draw p2) (0 : Int32)) (192 : Int32))), .val (.ref b133), .unset]) rfl ?_
    refine XS.aload X134.here hx rfl (hb hby at_195) rfl rfl ?_
    show Steps p.tables e below (T134.setTop (mkF m 197 #[.val (.int k0), .val (.int p0), .val (.int p1), .val (.int p2), .val (.int p3), .val (.int (1 : Int32)), .val (.int (f_draw p0)), .val (.int (f_draw p1)), .val (.int (f_draw p2)), .val (.int (f_draw p3)), .val (.ref b), .val (.int (f_share (f_draw p0) (0 : Int32) (f_draw p1))), .val (.int (f_share (f_draw p1) (f_draw p0) (f_draw p2))), .val (.int (f_share (f_draw p2) (f_draw p1) (f_draw p3))), .val (.int (f_share (f_draw p3) (f_draw p2) (0 : Int32))), .val (.int (tot4 (f_share (f_draw p0) (0 : Int32) (f_draw p1)) (f_share (f_draw p1) (f_draw p0) (f_draw p2)) (f_share (f_draw p2) (f_draw p1) (f_draw p3)) (f_share (f_draw p3) (f_draw p2) (0 : Int32)) (192 : Int32))), .val (.ref b133), .unset] [(.ref b133)])) _
    refine st135.trans ?_
    refine XS.astore X135.here hx rfl (hb hby at_200) rfl rfl (l' := #[.val (.int k0), .val (.int p0), .val (.int p1), .val (.int p2), .val (.int p3), .val (.int (1 : Int32)), .val (.int (f_draw p0)), .val (.int (f_draw p1)), .val (.int (f_draw p2)), .val (.int (f_draw p3)), .val (.ref b), .val (.int (f_share (f_draw p0) (0 : Int32) (f_draw p1))), .val (.int (f_share (f_draw p1) (f_draw p0) (f_draw p2))), .val (.int (f_share (f_draw p2) (f_draw p1) (f_draw p3))), .val (.int (f_share (f_draw p3) (f_draw p2) (0 : Int32))), .val (.int (tot4 (f_share (f_draw p0) (0 : Int32) (f_draw p1)) (f_share (f_draw p1) (f_draw p0) (f_draw p2)) (f_share (f_draw p2) (f_draw p1) (f_draw p3)) (f_share (f_draw p3) (f_draw p2) (0 : Int32)) (192 : Int32))), .val (.ref b133), .val (.ref b135)]) rfl ?_
    refine XS.aload X135.here hx rfl (hb hby at_202) rfl rfl ?_
    refine XS.aload X135.here hx rfl (hb hby at_204) rfl rfl ?_
    show Steps p.tables e below (T135.setTop (mkF m 206 #[.val (.int k0), .val (.int p0), .val (.int p1), .val (.int p2), .val (.int p3), .val (.int (1 : Int32)), .val (.int (f_draw p0)), .val (.int (f_draw p1)), .val (.int (f_draw p2)), .val (.int (f_draw p3)), .val (.ref b), .val (.int (f_share (f_draw p0) (0 : Int32) (f_draw p1))), .val (.int (f_share (f_draw p1) (f_draw p0) (f_draw p2))), .val (.int (f_share (f_draw p2) (f_draw p1) (f_draw p3))), .val (.int (f_share (f_draw p3) (f_draw p2) (0 : Int32))), .val (.int (tot4 (f_share (f_draw p0) (0 : Int32) (f_draw p1)) (f_share (f_draw p1) (f_draw p0) (f_draw p2)) (f_share (f_draw p2) (f_draw p1) (f_draw p3)) (f_share (f_draw p3) (f_draw p2) (0 : Int32)) (192 : Int32))), .val (.ref b133), .val (.ref b135)] [(.ref b135), (.ref b133)])) _
    refine st136.trans ?_
    show Steps p.tables e below (T136.setTop (mkF m 209 #[.val (.int k0), .val (.int p0), .val (.int p1), .val (.int p2), .val (.int p3), .val (.int (1 : Int32)), .val (.int (f_draw p0)), .val (.int (f_draw p1)), .val (.int (f_draw p2)), .val (.int (f_draw p3)), .val (.ref b), .val (.int (f_share (f_draw p0) (0 : Int32) (f_draw p1))), .val (.int (f_share (f_draw p1) (f_draw p0) (f_draw p2))), .val (.int (f_share (f_draw p2) (f_draw p1) (f_draw p3))), .val (.int (f_share (f_draw p3) (f_draw p2) (0 : Int32))), .val (.int (tot4 (f_share (f_draw p0) (0 : Int32) (f_draw p1)) (f_share (f_draw p1) (f_draw p0) (f_draw p2)) (f_share (f_draw p2) (f_draw p1) (f_draw p3)) (f_share (f_draw p3) (f_draw p2) (0 : Int32)) (192 : Int32))), .val (.ref b133), .val (.ref b135)] [(.ref b133), (.ref b133)])) _
    refine st137.trans ?_
    show Steps p.tables e below (T137.setTop (mkF m 212 #[.val (.int k0), .val (.int p0), .val (.int p1), .val (.int p2), .val (.int p3), .val (.int (1 : Int32)), .val (.int (f_draw p0)), .val (.int (f_draw p1)), .val (.int (f_draw p2)), .val (.int (f_draw p3)), .val (.ref b), .val (.int (f_share (f_draw p0) (0 : Int32) (f_draw p1))), .val (.int (f_share (f_draw p1) (f_draw p0) (f_draw p2))), .val (.int (f_share (f_draw p2) (f_draw p1) (f_draw p3))), .val (.int (f_share (f_draw p3) (f_draw p2) (0 : Int32))), .val (.int (tot4 (f_share (f_draw p0) (0 : Int32) (f_draw p1)) (f_share (f_draw p1) (f_draw p0) (f_draw p2)) (f_share (f_draw p2) (f_draw p1) (f_draw p3)) (f_share (f_draw p3) (f_draw p2) (0 : Int32)) (192 : Int32))), .val (.ref b133), .val (.ref b135)] [(.int (1 : Int32))])) _
    exact retN X137 hx (t := .boolean) Bd.returns (by simp) (hb hby at_212) hr
  · show Q0  h0 n0 _ T137.heap _
    exact ⟨rfl, N137⟩
set_option maxRecDepth 65536 in
set_option maxHeartbeats 40000000 in
theorem rm0 (l : Launch) (Z : State) (a0 : Array Value) (hw : ∀ d ∈ tables_1, d.before a0 Z = true) (ws : List Jvm.Cond) (k0 : Int32) (p0 : Int32) (p1 : Int32) (p2 : Int32) (p3 : Int32)  (h0 : Heap) (n0 : Nat) (Z0 : n0 ≤ h0.size) (O : Old Z n0 h0) (SK : StrSta Z)  :
    MetFree l x (head1 (Jvm.Cond.code x code maxLocals ret :: ws) room_1) (fun aa_ U_ => aa_ = #[(.int k0), (.int p0), (.int p1), (.int p2), (.int p3)] ∧ Z.Warmed39 U_.vm ∧ U_.heap = h0) (fun _ _ _ _ _ => True) (fun _ U_ o_ V_ => ∃ v_ L_, o_ = .returned v_ ∧ Q0  h0 n0 v_ V_.heap L_ ∧ ReturnedEndW U_ o_ V_ L_ room_1.cells room_1.slots) := by
  by_cases hbg0 : (k0 &&& (1 : Int32)) = (0 : Int32)
  · by_cases g0 : (f_share (f_draw p0) (0 : Int32) (f_draw p1)) < (0 : Int32)
    · exact rm0_00 l Z a0 hw ws k0 p0 p1 p2 p3 h0 n0 Z0 O SK hbg0 g0
    by_cases g1 : (f_share (f_draw p1) (f_draw p0) (f_draw p2)) < (0 : Int32)
    · exact rm0_01 l Z a0 hw ws k0 p0 p1 p2 p3 h0 n0 Z0 O SK hbg0 g0 g1
    by_cases g2 : (f_share (f_draw p2) (f_draw p1) (f_draw p3)) < (0 : Int32)
    · exact rm0_02 l Z a0 hw ws k0 p0 p1 p2 p3 h0 n0 Z0 O SK hbg0 g0 g1 g2
    by_cases g3 : (f_share (f_draw p3) (f_draw p2) (0 : Int32)) < (0 : Int32)
    · exact rm0_03 l Z a0 hw ws k0 p0 p1 p2 p3 h0 n0 Z0 O SK hbg0 g0 g1 g2 g3
    by_cases g4 : (200 : Int32) < (tot4 (f_share (f_draw p0) (0 : Int32) (f_draw p1)) (f_share (f_draw p1) (f_draw p0) (f_draw p2)) (f_share (f_draw p2) (f_draw p1) (f_draw p3)) (f_share (f_draw p3) (f_draw p2) (0 : Int32)) (0 : Int32))
    · exact rm0_04 l Z a0 hw ws k0 p0 p1 p2 p3 h0 n0 Z0 O SK hbg0 g0 g1 g2 g3 g4
    · exact rm0_05 l Z a0 hw ws k0 p0 p1 p2 p3 h0 n0 Z0 O SK hbg0 g0 g1 g2 g3 g4
  · by_cases g0 : (f_share (f_draw p0) (0 : Int32) (f_draw p1)) < (0 : Int32)
    · exact rm0_10 l Z a0 hw ws k0 p0 p1 p2 p3 h0 n0 Z0 O SK hbg0 g0
    by_cases g1 : (f_share (f_draw p1) (f_draw p0) (f_draw p2)) < (0 : Int32)
    · exact rm0_11 l Z a0 hw ws k0 p0 p1 p2 p3 h0 n0 Z0 O SK hbg0 g0 g1
    by_cases g2 : (f_share (f_draw p2) (f_draw p1) (f_draw p3)) < (0 : Int32)
    · exact rm0_12 l Z a0 hw ws k0 p0 p1 p2 p3 h0 n0 Z0 O SK hbg0 g0 g1 g2
    by_cases g3 : (f_share (f_draw p3) (f_draw p2) (0 : Int32)) < (0 : Int32)
    · exact rm0_13 l Z a0 hw ws k0 p0 p1 p2 p3 h0 n0 Z0 O SK hbg0 g0 g1 g2 g3
    by_cases g4 : (200 : Int32) < (tot4 (f_share (f_draw p0) (0 : Int32) (f_draw p1)) (f_share (f_draw p1) (f_draw p0) (f_draw p2)) (f_share (f_draw p2) (f_draw p1) (f_draw p3)) (f_share (f_draw p3) (f_draw p2) (0 : Int32)) (192 : Int32))
    · exact rm0_14 l Z a0 hw ws k0 p0 p1 p2 p3 h0 n0 Z0 O SK hbg0 g0 g1 g2 g3 g4
    · exact rm0_15 l Z a0 hw ws k0 p0 p1 p2 p3 h0 n0 Z0 O SK hbg0 g0 g1 g2 g3 g4
set_option maxRecDepth 65536 in
set_option maxHeartbeats 40000000 in
theorem comes_1 {Post : Tables → Env → Array Value → State → Outcome → State → Prop} (hpost : ∀ tb e args s v u, (limb_1_1.after args s (.returned v) u = true ∧ limb_1_2.after args s (.returned v) u = true ∧ True) → FramedW s (.returned v) u (Jvm.fieldLocs frame_1_writes args s ++ Jvm.arrayLocs frame_1_arrays args s ++ Jvm.staticLocs frame_1_statics s) 24 2688 → Post tb e args s (.returned v) u) :
    ArmFor flags0 classFile x code maxLocals ret World_1 tables_1 room_1 Calls_1 rest_1 Pre_1 Post := by
  intro l hfl _ _ p e ha hc hk s m args below hf hA hF happ hP
  obtain ⟨hcalls, hrest, hpre⟩ := hP
  obtain ⟨-, -, -, hnamed, -, -, -, hat⟩ := (Spec.applies_iff hf).mp happ
  obtain ⟨hg, hn⟩ := and_e (Cond.before_iff.mp (show (Jvm.Cond.and given_1 narrow_1).before args s = true from hpre))
  obtain ⟨hcount, hg0⟩ := and_e hg
  obtain ⟨ha0, hg1⟩ := and_e hg0
  obtain ⟨ha1, hg2⟩ := and_e hg1
  obtain ⟨ha2, hg3⟩ := and_e hg2
  obtain ⟨ha3, hg4⟩ := and_e hg3
  have ha4 := hg4
  obtain ⟨w0, w1, w2, w3, w4, rfl⟩ : ∃ w0 w1 w2 w3 w4 : Value, args = #[w0, w1, w2, w3, w4] := by
    have hs : args.size = 5 := by simpa [Cond.value, given_1] using hcount
    obtain ⟨L⟩ := args
    match L, hs with
    | [w0, w1, w2, w3, w4], _ => exact ⟨w0, w1, w2, w3, w4, rfl⟩
  have hw := fun d (hd : d ∈ tables_1) => atoms_spec (ws := Jvm.Cond.code x code maxLocals ret :: tables_1) hat d (List.mem_cons_of_mem _ hd)
  have hfit : Fit s := fun {y c} hc i hi => by
    obtain ⟨ha, rfl⟩ := Array.getElem?_eq_some_iff.mp hc
    have q := List.all_eq_true.mp ((Array.all_eq_true_iff_forall_mem.mp hF) _ (Array.getElem_mem ha)) i (List.mem_range.mpr hi)
    simpa [Array.getElem?_eq_getElem hi] using q
  obtain ⟨hsets, hown0⟩ := atoms_of _ (rest_1_c_eq ▸ (show rest_1_c.before _ s = true from hrest))
  obtain ⟨i0, ei0⟩ := is_v ha0
  obtain rfl : w0 = (.int i0) := Option.some.inj ei0
  obtain ⟨i1, ei1⟩ := is_v ha1
  obtain rfl : w1 = (.int i1) := Option.some.inj ei1
  obtain ⟨i2, ei2⟩ := is_v ha2
  obtain rfl : w2 = (.int i2) := Option.some.inj ei2
  obtain ⟨i3, ei3⟩ := is_v ha3
  obtain rfl : w3 = (.int i3) := Option.some.inj ei3
  obtain ⟨i4, ei4⟩ := is_v ha4
  obtain rfl : w4 = (.int i4) := Option.some.inj ei4
  have n3 := not_v (Cond.before_iff.mp (hsets _ (List.mem_of_getElem? (i := 2) rfl)))
  obtain ⟨i7, e6⟩ := is_v (Cond.before_iff.mp (hsets _ (List.mem_of_getElem? (i := 1) rfl)))
  have S8 : Sta s s.heap "java/lang/String" "COMPACT_STRINGS" "Z" (.int i7) := Sta.start e6 (Or.inl (hsets _ (List.mem_of_getElem? (i := 0) rfl)))
  obtain ⟨v9, e10, r11⟩ := isR_v (Cond.before_iff.mp (hsets _ (List.mem_of_getElem? (i := 8) rfl)))
  have S12 : Sta s s.heap "jdk/internal/util/Preconditions" "SIOOBE_FORMATTER" "Ljava/util/function/BiFunction;" v9 := Sta.start e10 (Or.inl (hsets _ (List.mem_of_getElem? (i := 7) rfl)))
  have c13 : ¬ (i7 = (0 : Int32)) := gotF (Cond.eq_ints e6 (Term.int_eval (0))) n3
  have S13 : Sta s s.heap "java/lang/StringUTF16" "$assertionsDisabled" "Z" (.int (1 : Int32)) := Sta.start (eqI_v (Cond.before_iff.mp (hsets _ (List.mem_of_getElem? (i := 12) rfl)))) (Or.inl (hsets _ (List.mem_of_getElem? (i := 11) rfl)))
  have S14 : Sta s s.heap "java/lang/StringUTF16" "HI_BYTE_SHIFT" "I" (.int (0 : Int32)) := Sta.start (eqI_v (Cond.before_iff.mp (hsets _ (List.mem_of_getElem? (i := 15) rfl)))) (Or.inl (hsets _ (List.mem_of_getElem? (i := 14) rfl)))
  have S15 : Sta s s.heap "java/lang/StringUTF16" "LO_BYTE_SHIFT" "I" (.int (8 : Int32)) := Sta.start (eqI_v (Cond.before_iff.mp (hsets _ (List.mem_of_getElem? (i := 18) rfl)))) (Or.inl (hsets _ (List.mem_of_getElem? (i := 17) rfl)))
  have SK : StrSta s := ⟨⟨i7, c13, S8⟩, S13, S14, S15, by cases v9 <;> first | exact Or.inl S12 | exact Or.inr ⟨_, S12⟩ | (simp [Value.isRef] at r11)⟩
  obtain ⟨n, o, h1, h2, h3, _, L, rfl, ⟨rfl, N⟩, hq⟩ := rm0 l s _ hw tables_1 i0 i1 i2 i3 i4 s.heap s.heap.size (Nat.le_refl _) (Old.start s) SK p e ha hc hk s m _ below hf ((Spec.applies_iff_loose hf).mp happ).1 ⟨rfl, State.Warmed39.refl s, rfl⟩ trivial
  refine ⟨n, _, h1, h2, h3, hpost _ _ _ _ _ _ ⟨Cond.after_iff.mpr rfl, Cond.after_iff.mpr (eq_i res_at (Term.int_eval (1)) rfl), trivial⟩ ⟨hq.1, hq.2.1, hq.2.2.1, (hq.2.2.2.sift fun y hy => Or.inr (N y hy)).mono (by decide) (by decide)⟩⟩
theorem main_1_1 : Claimed_1_1 := comes_1 fun _ _ _ _ _ _ h hF => ⟨h.1, hF⟩
theorem main_1_2 : Claimed_1_2 := comes_1 fun _ _ _ _ _ _ h hF => ⟨h.2.1, hF⟩
end Jvm.Pilot.@@N@@
namespace Jvm.Pilot.@@N@@
open Jvm Jvm.ClassFile Sem Op Lib Jvm.Free Jvm.Stand Jvm.Pilot.@@N@@.Jvm.D
/-! MADE BY PROGRAM (witnessworld.py) out of the Statement's table words and the real class files: 22 classes; the members and pool entries that the words name. The judged class is class 1, her method 5. -/
namespace start1
open Jvm.ClassFile
def u (s : String) : CpInfo := .utf8 (stringToUtf16 s)
/-- a pool by its gaps: so many unusable entries, then the entry; so many at the end -/
def gap : Nat → List CpInfo → List CpInfo
  | 0, r => r
  | n + 1, r => .unusable :: gap n r
def poolList (es : List (Nat × CpInfo)) (last : Nat) : List CpInfo := es.foldr (fun e r => gap e.1 (e.2 :: r)) (gap last [])
def pool (es : List (Nat × CpInfo)) (last : Nat) : Array CpInfo := ⟨poolList es last⟩
def fileOf (pool : Array CpInfo) (this : Nat) (attrs : Array Attribute := #[]) (ms : Array MethodInfo := #[]) (fl : Nat := 33) (sup : Nat := 0) (ifs : Array Nat := #[]) (fds : Array FieldInfo := #[]) : ClassFile where
  minorVersion := 0
  majorVersion := 65
  constantPool := pool
  accessFlags := fl
  thisClass := this
  superClass := sup
  interfaces := ifs
  fields := fds
  methods := ms
  attributes := attrs
def plain (name : String) (sup : Option ClassId) : Class where
  name := name
  kind := .ordinary
  loader := none
  accessFlags := 33
  super := sup
  interfaces := #[]
  cf := none
  fields := #[]
  methods := #[]
  instanceTypes := #[]
  staticTypes := #[]
  resolved := #[]
  callSites := []
  init := .initialized
  statics := none
  mirror := none

def pool0 : Array CpInfo := pool [(5, u "<init>"), (0, u "()V"), (1, .class_ 10), (1, u "java/lang/Object")] 113

def k0c0 : Code := { maxStack := 0, maxLocals := 1, code := object_method_1_code, exceptionTable := #[], attributes := #[] }
def k0m0 : Method := { name := "<init>", desc := "()V", sig := { parameters := [], returnType := none }, accessFlags := 1, code := some k0c0 }
/-- java/lang/Object -/
def k0 : Class := { plain "java/lang/Object" none with
  accessFlags := 33
  interfaces := #[]
  cf := some (fileOf pool0 8 #[] #[{ accessFlags := 1, nameIndex := 5, descriptorIndex := 6, attributes := #[] }] 33 0 #[] #[])
  fields := #[]
  methods := #[k0m0]
  instanceTypes := #[]
  staticTypes := #[]
  resolved := Array.replicate 124 none
  statics := none }

def pool1 : Array CpInfo := pool [(2, .class_ 4), (1, u "java/lang/Object"), (0, u "<init>"), (0, u "()V"), (0, .integer 65535), (0, .integer 55296), (0, .integer 56319), (0, .integer 56320), (0, .integer 57343), (0, .methodref 13 14), (0, .class_ 15), (0, .nameAndType 16 17), (0, u "com/example/orderly_latch/orderlylatch/name/LatchNameOfPinLaw"), (0, u "isHigh"), (0, u "(I)Z"), (0, .methodref 13 19), (0, .nameAndType 20 17), (0, u "isLow"), (0, .methodref 13 22), (0, .nameAndType 23 24), (0, u "draw"), (0, u "(I)I"), (0, .methodref 13 26), (0, .nameAndType 27 28), (0, u "share"), (0, u "(III)I"), (0, .class_ 30), (0, u "java/lang/String"), (0, .methodref 29 32), (0, .nameAndType 5 33), (0, u "([C)V"), (0, .methodref 35 36), (0, .class_ 37), (0, .nameAndType 38 39), (0, u "com/example/orderly_latch/orderlylatch/name/LatchName"), (0, u "of"), (0, u "(Ljava/lang/String;)Lcom/example/orderly_latch/orderlylatch/name/LatchName;"), (0, .methodref 35 41), (0, .nameAndType 42 43), (0, u "value"), (0, u "()Ljava/lang/String;"), (0, .methodref 29 45), (0, .nameAndType 46 47), (0, u "equals"), (0, u "(Ljava/lang/Object;)Z"), (3, u "law"), (0, u "(IIIII)Z")] 4

def k1m0 : Method := { name := "<init>", desc := "()V", sig := { parameters := [], returnType := none }, accessFlags := 2, code := none }
def k1c1 : Code := { maxStack := 3, maxLocals := 3, code := method_2_code, exceptionTable := #[], attributes := #[] }
def k1m1 : Method := { name := "draw", desc := "(I)I", sig := { parameters := [.int], returnType := some .int }, accessFlags := 10, code := some k1c1 }
def k1c2 : Code := { maxStack := 2, maxLocals := 1, code := method_3_code, exceptionTable := #[], attributes := #[] }
def k1m2 : Method := { name := "isHigh", desc := "(I)Z", sig := { parameters := [.int], returnType := some .boolean }, accessFlags := 10, code := some k1c2 }
def k1c3 : Code := { maxStack := 2, maxLocals := 1, code := method_4_code, exceptionTable := #[], attributes := #[] }
def k1m3 : Method := { name := "isLow", desc := "(I)Z", sig := { parameters := [.int], returnType := some .boolean }, accessFlags := 10, code := some k1c3 }
def k1c4 : Code := { maxStack := 2, maxLocals := 3, code := method_5_code, exceptionTable := #[], attributes := #[] }
def k1m4 : Method := { name := "share", desc := "(III)I", sig := { parameters := [.int, .int, .int], returnType := some .int }, accessFlags := 10, code := some k1c4 }
def k1c5 : Code := { maxStack := 3, maxLocals := 18, code := code, exceptionTable := #[], attributes := #[] }
def k1m5 : Method := { name := "law", desc := "(IIIII)Z", sig := { parameters := [.int, .int, .int, .int, .int], returnType := some .boolean }, accessFlags := 9, code := some k1c5 }
/-- com/example/orderly_latch/orderlylatch/name/LatchNameOfPinLaw -/
def k1 : Class := { plain "com/example/orderly_latch/orderlylatch/name/LatchNameOfPinLaw" (some 0) with
  accessFlags := 49
  interfaces := #[]
  cf := some (fileOf pool1 13 #[] #[{ accessFlags := 2, nameIndex := 5, descriptorIndex := 6, attributes := #[] }, { accessFlags := 10, nameIndex := 23, descriptorIndex := 24, attributes := #[] }, { accessFlags := 10, nameIndex := 16, descriptorIndex := 17, attributes := #[] }, { accessFlags := 10, nameIndex := 20, descriptorIndex := 17, attributes := #[] }, { accessFlags := 10, nameIndex := 27, descriptorIndex := 28, attributes := #[] }, { accessFlags := 9, nameIndex := 51, descriptorIndex := 52, attributes := #[] }] 49 2 #[] #[])
  fields := #[]
  methods := #[k1m0, k1m1, k1m2, k1m3, k1m4, k1m5]
  instanceTypes := #[]
  staticTypes := #[]
  resolved := Array.replicate 57 none
  statics := none }

def pool2 : Array CpInfo := pool [(1, .class_ 2), (0, u "java/io/Serializable"), (0, .class_ 4), (0, u "java/lang/Object")] 2

/-- java/io/Serializable -/
def k2 : Class := { plain "java/io/Serializable" (some 0) with
  accessFlags := 1537
  interfaces := #[]
  cf := some (fileOf pool2 1 #[] #[] 1537 3 #[] #[])
  fields := #[]
  methods := #[]
  instanceTypes := #[]
  staticTypes := #[]
  resolved := Array.replicate 7 none
  statics := none }

def pool3 : Array CpInfo := pool [(1, .class_ 2), (0, u "java/lang/Comparable"), (0, .class_ 4), (0, u "java/lang/Object")] 7

/-- java/lang/Comparable -/
def k3 : Class := { plain "java/lang/Comparable" (some 0) with
  accessFlags := 1537
  interfaces := #[]
  cf := some (fileOf pool3 1 #[] #[] 1537 3 #[] #[])
  fields := #[]
  methods := #[]
  instanceTypes := #[]
  staticTypes := #[]
  resolved := Array.replicate 12 none
  statics := none }

def pool4 : Array CpInfo := pool [(2, .class_ 4), (1, u "java/lang/CharSequence"), (42, .class_ 48), (0, u "java/lang/CharSequence$1CodePointIterator"), (10, .class_ 60), (0, u "java/lang/CharSequence$1CharIterator"), (5, .class_ 67), (0, u "java/lang/Object")] 63

/-- java/lang/CharSequence -/
def k4 : Class := { plain "java/lang/CharSequence" (some 0) with
  accessFlags := 1537
  interfaces := #[]
  cf := some (fileOf pool4 2 #[.nestMembers #[47, 59]] #[] 1537 66 #[] #[])
  fields := #[]
  methods := #[]
  instanceTypes := #[]
  staticTypes := #[]
  resolved := Array.replicate 131 none
  statics := none }

def pool5 : Array CpInfo := pool [(1, .class_ 2), (0, u "java/lang/constant/Constable"), (0, .class_ 4), (0, u "java/lang/Object")] 6

/-- java/lang/constant/Constable -/
def k5 : Class := { plain "java/lang/constant/Constable" (some 0) with
  accessFlags := 1537
  interfaces := #[]
  cf := some (fileOf pool5 1 #[] #[] 1537 3 #[] #[])
  fields := #[]
  methods := #[]
  instanceTypes := #[]
  staticTypes := #[]
  resolved := Array.replicate 11 none
  statics := none }

def pool6 : Array CpInfo := pool [(1, .class_ 2), (0, u "java/lang/constant/ConstantDesc"), (0, .class_ 4), (0, u "java/lang/Object")] 32

/-- java/lang/constant/ConstantDesc -/
def k6 : Class := { plain "java/lang/constant/ConstantDesc" (some 0) with
  accessFlags := 1537
  interfaces := #[]
  cf := some (fileOf pool6 1 #[] #[] 1537 3 #[] #[])
  fields := #[]
  methods := #[]
  instanceTypes := #[]
  staticTypes := #[]
  resolved := Array.replicate 37 none
  statics := none }

def pool7 : Array CpInfo := pool [(1, .methodref 2 3), (0, .class_ 4), (0, .nameAndType 5 6), (0, u "java/lang/Object"), (0, u "<init>"), (0, u "()V"), (2, .fieldref 10 11), (0, .class_ 12), (0, .nameAndType 13 14), (0, u "java/lang/String"), (0, u "value"), (0, u "[B"), (0, .fieldref 10 16), (0, .nameAndType 17 18), (0, u "coder"), (0, u "B"), (2, u "hash"), (0, u "I"), (2, u "hashIsZero"), (0, u "Z"), (0, .methodref 10 28), (0, .nameAndType 5 29), (0, u "([CIILjava/lang/Void;)V"), (8, .fieldref 10 39), (0, .nameAndType 40 26), (0, u "COMPACT_STRINGS"), (1, .class_ 44), (1, u "java/lang/StringUTF16"), (0, u "compress"), (1, .methodref 42 48), (0, .nameAndType 49 50), (0, u "coderFromArrayLen"), (0, u "([BI)B"), (56, .class_ 109), (1, u "java/lang/StringLatin1"), (32, u "()Z"), (34, .methodref 42 178), (0, .nameAndType 45 179), (0, u "([CII)[B"), (154, u "()I"), (0, .methodref 10 336), (0, .nameAndType 17 337), (0, u "()B"), (25, u "([BI)C"), (27, u "(II)V"), (35, u "(I)C"), (64, .methodref 10 493), (0, .nameAndType 494 142), (0, u "isLatin1"), (0, .methodref 107 496), (0, .nameAndType 497 363), (0, u "charAt"), (0, .methodref 42 496), (2, u "checkIndex"), (5, u "length"), (35, u "equals"), (29, u "(Ljava/lang/Object;)Z"), (1, .class_ 576), (0, u "java/lang/CharSequence"), (22, u "CASE_INSENSITIVE_ORDER"), (0, u "Ljava/util/Comparator;"), (91, u "isEmpty"), (317, u "([C)V"), (42, .fieldref 1054 1055), (0, .class_ 1056), (0, .nameAndType 1057 1058), (0, u "jdk/internal/util/Preconditions"), (0, u "SIOOBE_FORMATTER"), (0, u "Ljava/util/function/BiFunction;"), (0, .methodref 1054 1060), (0, .nameAndType 501 1061), (0, u "(IILjava/util/function/BiFunction;)I"), (39, u "serialPersistentFields"), (0, u "[Ljava/io/ObjectStreamField;"), (0, .class_ 1104), (0, u "java/lang/String$CaseInsensitiveComparator"), (1, .class_ 1107), (0, u "java/io/Serializable"), (0, .class_ 1109), (0, u "java/lang/Comparable"), (0, .class_ 1111), (0, u "java/lang/constant/Constable"), (0, .class_ 1113), (0, u "java/lang/constant/ConstantDesc"), (2, u "serialVersionUID"), (0, u "J"), (3, u "REPL"), (0, u "C"), (2, u "LATIN1"), (1, u "UTF16")] 323

def k7m0 : Method := { name := "<init>", desc := "()V", sig := { parameters := [], returnType := none }, accessFlags := 1, code := none }
def k7c1 : Code := { maxStack := 5, maxLocals := 2, code := jdk_42_method_3_code, exceptionTable := #[], attributes := #[] }
def k7m1 : Method := { name := "<init>", desc := "([C)V", sig := { parameters := [(.array .char)], returnType := none }, accessFlags := 1, code := some k7c1 }
def k7c2 : Code := { maxStack := 2, maxLocals := 1, code := jdk_42_method_54_code, exceptionTable := #[], attributes := #[] }
def k7m2 : Method := { name := "length", desc := "()I", sig := { parameters := [], returnType := some .int }, accessFlags := 1, code := some k7c2 }
def k7c3 : Code := { maxStack := 1, maxLocals := 1, code := jdk_42_method_55_code, exceptionTable := #[], attributes := #[] }
def k7m3 : Method := { name := "isEmpty", desc := "()Z", sig := { parameters := [], returnType := some .boolean }, accessFlags := 1, code := some k7c3 }
def k7c4 : Code := { maxStack := 2, maxLocals := 2, code := jdk_42_method_56_code, exceptionTable := #[], attributes := #[] }
def k7m4 : Method := { name := "charAt", desc := "(I)C", sig := { parameters := [.int], returnType := some .char }, accessFlags := 1, code := some k7c4 }
def k7c5 : Code := { maxStack := 2, maxLocals := 3, code := jdk_42_method_66_code, exceptionTable := #[], attributes := #[] }
def k7m5 : Method := { name := "equals", desc := "(Ljava/lang/Object;)Z", sig := { parameters := [(.object "java/lang/Object")], returnType := some .boolean }, accessFlags := 1, code := some k7c5 }
def k7c6 : Code := { maxStack := 4, maxLocals := 6, code := jdk_42_method_149_code, exceptionTable := #[], attributes := #[] }
def k7m6 : Method := { name := "<init>", desc := "([CIILjava/lang/Void;)V", sig := { parameters := [(.array .char), .int, .int, (.object "java/lang/Void")], returnType := none }, accessFlags := 2, code := some k7c6 }
def k7c7 : Code := { maxStack := 1, maxLocals := 1, code := jdk_42_method_152_code, exceptionTable := #[], attributes := #[] }
def k7m7 : Method := { name := "coder", desc := "()B", sig := { parameters := [], returnType := some .byte }, accessFlags := 0, code := some k7c7 }
def k7c8 : Code := { maxStack := 1, maxLocals := 1, code := jdk_42_method_154_code, exceptionTable := #[], attributes := #[] }
def k7m8 : Method := { name := "isLatin1", desc := "()Z", sig := { parameters := [], returnType := some .boolean }, accessFlags := 0, code := some k7c8 }
def k7c9 : Code := { maxStack := 3, maxLocals := 2, code := jdk_42_method_155_code, exceptionTable := #[], attributes := #[] }
def k7m9 : Method := { name := "checkIndex", desc := "(II)V", sig := { parameters := [.int, .int], returnType := none }, accessFlags := 8, code := some k7c9 }
/-- java/lang/String -/
def k7 : Class := { plain "java/lang/String" (some 0) with
  accessFlags := 49
  interfaces := #[2, 3, 4, 5, 6]
  cf := some (fileOf pool7 10 #[.nestMembers #[1103]] #[{ accessFlags := 1, nameIndex := 5, descriptorIndex := 6, attributes := #[] }, { accessFlags := 1, nameIndex := 5, descriptorIndex := 1010, attributes := #[] }, { accessFlags := 1, nameIndex := 507, descriptorIndex := 334, attributes := #[] }, { accessFlags := 1, nameIndex := 692, descriptorIndex := 142, attributes := #[] }, { accessFlags := 1, nameIndex := 497, descriptorIndex := 427, attributes := #[] }, { accessFlags := 1, nameIndex := 543, descriptorIndex := 573, attributes := #[] }, { accessFlags := 2, nameIndex := 5, descriptorIndex := 29, attributes := #[] }, { accessFlags := 0, nameIndex := 17, descriptorIndex := 337, attributes := #[] }, { accessFlags := 0, nameIndex := 494, descriptorIndex := 142, attributes := #[] }, { accessFlags := 8, nameIndex := 501, descriptorIndex := 391, attributes := #[] }] 49 2 #[1106, 1108, 575, 1110, 1112] #[{ accessFlags := 18, nameIndex := 13, descriptorIndex := 14, attributes := #[] }, { accessFlags := 18, nameIndex := 17, descriptorIndex := 18, attributes := #[] }, { accessFlags := 2, nameIndex := 21, descriptorIndex := 22, attributes := #[] }, { accessFlags := 2, nameIndex := 25, descriptorIndex := 26, attributes := #[] }, { accessFlags := 26, nameIndex := 1116, descriptorIndex := 1117, attributes := #[] }, { accessFlags := 24, nameIndex := 40, descriptorIndex := 26, attributes := #[] }, { accessFlags := 26, nameIndex := 1101, descriptorIndex := 1102, attributes := #[] }, { accessFlags := 26, nameIndex := 1121, descriptorIndex := 1122, attributes := #[] }, { accessFlags := 25, nameIndex := 599, descriptorIndex := 600, attributes := #[] }, { accessFlags := 24, nameIndex := 1125, descriptorIndex := 18, attributes := #[] }, { accessFlags := 24, nameIndex := 1127, descriptorIndex := 18, attributes := #[] }])
  fields := #[{ name := "value", type := (.array .byte), accessFlags := 18, slot := 0, constantValue := 0 }, { name := "coder", type := .byte, accessFlags := 18, slot := 1, constantValue := 0 }, { name := "hash", type := .int, accessFlags := 2, slot := 2, constantValue := 0 }, { name := "hashIsZero", type := .boolean, accessFlags := 2, slot := 3, constantValue := 0 }, { name := "serialVersionUID", type := .long, accessFlags := 26, slot := 0, constantValue := 0 }, { name := "COMPACT_STRINGS", type := .boolean, accessFlags := 24, slot := 1, constantValue := 0 }, { name := "serialPersistentFields", type := (.array (.object "java/io/ObjectStreamField")), accessFlags := 26, slot := 2, constantValue := 0 }, { name := "REPL", type := .char, accessFlags := 26, slot := 3, constantValue := 0 }, { name := "CASE_INSENSITIVE_ORDER", type := (.object "java/util/Comparator"), accessFlags := 25, slot := 4, constantValue := 0 }, { name := "LATIN1", type := .byte, accessFlags := 24, slot := 5, constantValue := 0 }, { name := "UTF16", type := .byte, accessFlags := 24, slot := 6, constantValue := 0 }]
  methods := #[k7m0, k7m1, k7m2, k7m3, k7m4, k7m5, k7m6, k7m7, k7m8, k7m9]
  instanceTypes := #[(.array .byte), .byte, .int, .boolean]
  staticTypes := #[.long, .boolean, (.array (.object "java/io/ObjectStreamField")), .char, (.object "java/util/Comparator"), .byte, .byte]
  resolved := Array.replicate 1451 none
  statics := some 0 }

def pool8 : Array CpInfo := pool [(3, .class_ 4), (0, u "java/lang/String"), (1, .class_ 8), (1, u "java/lang/Object"), (0, u "<init>"), (0, u "()V"), (0, .methodref 12 13), (0, .class_ 14), (0, .nameAndType 15 16), (0, u "java/lang/StringUTF16"), (0, u "newBytesLength"), (0, u "(I)I"), (3, .integer 1073741823), (23, .fieldref 12 45), (0, .nameAndType 46 47), (0, u "$assertionsDisabled"), (0, u "Z"), (0, .methodref 12 49), (0, .nameAndType 50 51), (0, u "length"), (0, u "([B)I"), (7, .fieldref 12 60), (0, .nameAndType 61 62), (0, u "HI_BYTE_SHIFT"), (0, u "I"), (0, .fieldref 12 64), (0, .nameAndType 65 62), (0, u "LO_BYTE_SHIFT"), (1, .methodref 12 68), (0, .nameAndType 69 70), (0, u "checkIndex"), (0, u "(I[B)V"), (0, .methodref 12 72), (0, .nameAndType 73 74), (0, u "getChar"), (0, u "([BI)C"), (32, .methodref 12 108), (0, .nameAndType 109 110), (0, u "newBytesFor"), (0, u "(I)[B"), (0, .methodref 12 112), (0, .nameAndType 113 114), (0, u "putChar"), (0, u "([BII)V"), (0, .methodref 12 116), (0, .nameAndType 117 118), (0, u "compress"), (0, u "([CI[BII)I"), (0, .methodref 12 120), (0, .nameAndType 121 122), (0, u "toBytes"), (0, u "([CII)[B"), (138, u "coderFromArrayLen"), (0, u "([BI)B"), (106, .class_ 371), (1, u "java/lang/StringUTF16$LinesSpliterator"), (20, u "charAt"), (21, .methodref 3 415), (0, .nameAndType 69 416), (0, u "(II)V"), (13, u "MAX_LENGTH"), (196, .class_ 628), (0, u "java/lang/StringUTF16$CodePointsSpliterator"), (0, .class_ 630), (0, u "java/lang/StringUTF16$CharsSpliterator")] 4

def k8m0 : Method := { name := "<init>", desc := "()V", sig := { parameters := [], returnType := none }, accessFlags := 0, code := none }
def k8c1 : Code := { maxStack := 1, maxLocals := 1, code := jdk_52_method_2_code, exceptionTable := #[], attributes := #[] }
def k8m1 : Method := { name := "newBytesFor", desc := "(I)[B", sig := { parameters := [.int], returnType := some (.array .byte) }, accessFlags := 9, code := some k8c1 }
def k8c2 : Code := { maxStack := 4, maxLocals := 1, code := jdk_52_method_3_code, exceptionTable := #[], attributes := #[] }
def k8m2 : Method := { name := "newBytesLength", desc := "(I)I", sig := { parameters := [.int], returnType := some .int }, accessFlags := 9, code := some k8c2 }
def k8c3 : Code := { maxStack := 4, maxLocals := 3, code := jdk_52_method_4_code, exceptionTable := #[], attributes := #[] }
def k8m3 : Method := { name := "putChar", desc := "([BII)V", sig := { parameters := [(.array .byte), .int, .int], returnType := none }, accessFlags := 8, code := some k8c3 }
def k8c4 : Code := { maxStack := 3, maxLocals := 2, code := jdk_52_method_5_code, exceptionTable := #[], attributes := #[] }
def k8m4 : Method := { name := "getChar", desc := "([BI)C", sig := { parameters := [(.array .byte), .int], returnType := some .char }, accessFlags := 8, code := some k8c4 }
def k8c5 : Code := { maxStack := 2, maxLocals := 1, code := jdk_52_method_6_code, exceptionTable := #[], attributes := #[] }
def k8m5 : Method := { name := "length", desc := "([B)I", sig := { parameters := [(.array .byte)], returnType := some .int }, accessFlags := 9, code := some k8c5 }
def k8c6 : Code := { maxStack := 4, maxLocals := 5, code := jdk_52_method_14_code, exceptionTable := #[], attributes := #[] }
def k8m6 : Method := { name := "toBytes", desc := "([CII)[B", sig := { parameters := [(.array .char), .int, .int], returnType := some (.array .byte) }, accessFlags := 9, code := some k8c6 }
def k8c7 : Code := { maxStack := 2, maxLocals := 2, code := jdk_52_method_15_code, exceptionTable := #[], attributes := #[] }
def k8m7 : Method := { name := "coderFromArrayLen", desc := "([BI)B", sig := { parameters := [(.array .byte), .int], returnType := some .byte }, accessFlags := 8, code := some k8c7 }
def k8c8 : Code := { maxStack := 5, maxLocals := 6, code := jdk_52_method_16_code, exceptionTable := #[], attributes := #[] }
def k8m8 : Method := { name := "compress", desc := "([CII)[B", sig := { parameters := [(.array .char), .int, .int], returnType := some (.array .byte) }, accessFlags := 9, code := some k8c8 }
def k8c9 : Code := { maxStack := 3, maxLocals := 7, code := jdk_52_method_21_code, exceptionTable := #[], attributes := #[] }
def k8m9 : Method := { name := "compress", desc := "([CI[BII)I", sig := { parameters := [(.array .char), .int, (.array .byte), .int, .int], returnType := some .int }, accessFlags := 9, code := some k8c9 }
def k8c10 : Code := { maxStack := 2, maxLocals := 2, code := jdk_52_method_83_code, exceptionTable := #[], attributes := #[] }
def k8m10 : Method := { name := "charAt", desc := "([BI)C", sig := { parameters := [(.array .byte), .int], returnType := some .char }, accessFlags := 9, code := some k8c10 }
def k8c11 : Code := { maxStack := 2, maxLocals := 2, code := jdk_52_method_91_code, exceptionTable := #[], attributes := #[] }
def k8m11 : Method := { name := "checkIndex", desc := "(I[B)V", sig := { parameters := [.int, (.array .byte)], returnType := none }, accessFlags := 9, code := some k8c11 }
/-- java/lang/StringUTF16 -/
def k8 : Class := { plain "java/lang/StringUTF16" (some 0) with
  accessFlags := 48
  interfaces := #[]
  cf := some (fileOf pool8 12 #[.nestMembers #[627, 629, 369]] #[{ accessFlags := 0, nameIndex := 9, descriptorIndex := 10, attributes := #[] }, { accessFlags := 9, nameIndex := 109, descriptorIndex := 110, attributes := #[] }, { accessFlags := 9, nameIndex := 15, descriptorIndex := 16, attributes := #[] }, { accessFlags := 8, nameIndex := 113, descriptorIndex := 114, attributes := #[] }, { accessFlags := 8, nameIndex := 73, descriptorIndex := 74, attributes := #[] }, { accessFlags := 9, nameIndex := 50, descriptorIndex := 51, attributes := #[] }, { accessFlags := 9, nameIndex := 121, descriptorIndex := 122, attributes := #[] }, { accessFlags := 8, nameIndex := 261, descriptorIndex := 262, attributes := #[] }, { accessFlags := 9, nameIndex := 117, descriptorIndex := 122, attributes := #[] }, { accessFlags := 9, nameIndex := 117, descriptorIndex := 118, attributes := #[] }, { accessFlags := 9, nameIndex := 392, descriptorIndex := 74, attributes := #[] }, { accessFlags := 9, nameIndex := 69, descriptorIndex := 70, attributes := #[] }] 48 6 #[] #[{ accessFlags := 26, nameIndex := 61, descriptorIndex := 62, attributes := #[] }, { accessFlags := 26, nameIndex := 65, descriptorIndex := 62, attributes := #[] }, { accessFlags := 24, nameIndex := 430, descriptorIndex := 62, attributes := #[] }, { accessFlags := 4120, nameIndex := 46, descriptorIndex := 47, attributes := #[] }])
  fields := #[{ name := "HI_BYTE_SHIFT", type := .int, accessFlags := 26, slot := 0, constantValue := 0 }, { name := "LO_BYTE_SHIFT", type := .int, accessFlags := 26, slot := 1, constantValue := 0 }, { name := "MAX_LENGTH", type := .int, accessFlags := 24, slot := 2, constantValue := 0 }, { name := "$assertionsDisabled", type := .boolean, accessFlags := 4120, slot := 3, constantValue := 0 }]
  methods := #[k8m0, k8m1, k8m2, k8m3, k8m4, k8m5, k8m6, k8m7, k8m8, k8m9, k8m10, k8m11]
  instanceTypes := #[]
  staticTypes := #[.int, .int, .int, .boolean]
  resolved := Array.replicate 635 none
  statics := some 1 }

def pool9 : Array CpInfo := pool [(1, .methodref 2 3), (0, .class_ 4), (0, .nameAndType 5 6), (0, u "java/lang/Object"), (0, u "<init>"), (0, u "()V"), (0, .fieldref 8 9), (0, .class_ 10), (0, .nameAndType 11 12), (0, u "com/example/orderly_latch/orderlylatch/name/LatchName"), (0, u "value"), (0, u "Ljava/lang/String;"), (0, .string 14), (0, u "lock name"), (0, .methodref 16 17), (0, .class_ 18), (0, .nameAndType 19 20), (0, u "java/util/Objects"), (0, u "requireNonNull"), (0, u "(Ljava/lang/Object;Ljava/lang/String;)Ljava/lang/Object;"), (0, .methodref 22 23), (0, .class_ 24), (0, .nameAndType 25 26), (0, u "java/lang/String"), (0, u "isEmpty"), (0, u "()Z"), (5, .nameAndType 5 33), (0, u "(Ljava/lang/String;)V"), (0, .methodref 8 35), (0, .nameAndType 36 37), (0, u "utf8Length"), (0, u "(Ljava/lang/String;)I"), (8, .methodref 8 32), (7, u "()I"), (0, .methodref 22 56), (0, .nameAndType 57 54), (0, u "length"), (0, .methodref 22 59), (0, .nameAndType 60 61), (0, u "charAt"), (0, u "(I)C"), (0, .methodref 63 64), (0, .class_ 65), (0, .nameAndType 66 67), (0, u "java/lang/Character"), (0, u "isHighSurrogate"), (0, u "(C)Z"), (0, .methodref 63 69), (0, .nameAndType 70 67), (0, u "isLowSurrogate"), (0, .methodref 63 72), (0, .nameAndType 73 67), (0, u "isSurrogate"), (9, u "MAX_UTF8_BYTES"), (0, u "I"), (4, u "of"), (0, u "(Ljava/lang/String;)Lcom/example/orderly_latch/orderlylatch/name/LatchName;"), (1, u "()Ljava/lang/String;")] 22

def k9c0 : Code := { maxStack := 2, maxLocals := 2, code := prog_8_method_1_code, exceptionTable := #[], attributes := #[] }
def k9m0 : Method := { name := "<init>", desc := "(Ljava/lang/String;)V", sig := { parameters := [(.object "java/lang/String")], returnType := none }, accessFlags := 2, code := some k9c0 }
def k9c1 : Code := { maxStack := 4, maxLocals := 2, code := prog_8_method_2_code, exceptionTable := #[], attributes := #[] }
def k9m1 : Method := { name := "of", desc := "(Ljava/lang/String;)Lcom/example/orderly_latch/orderlylatch/name/LatchName;", sig := { parameters := [(.object "java/lang/String")], returnType := some (.object "com/example/orderly_latch/orderlylatch/name/LatchName") }, accessFlags := 9, code := some k9c1 }
def k9c2 : Code := { maxStack := 1, maxLocals := 1, code := prog_8_method_3_code, exceptionTable := #[], attributes := #[] }
def k9m2 : Method := { name := "value", desc := "()Ljava/lang/String;", sig := { parameters := [], returnType := some (.object "java/lang/String") }, accessFlags := 1, code := some k9c2 }
def k9c3 : Code := { maxStack := 3, maxLocals := 4, code := prog_8_method_7_code, exceptionTable := #[], attributes := #[] }
def k9m3 : Method := { name := "utf8Length", desc := "(Ljava/lang/String;)I", sig := { parameters := [(.object "java/lang/String")], returnType := some .int }, accessFlags := 10, code := some k9c3 }
/-- com/example/orderly_latch/orderlylatch/name/LatchName -/
def k9 : Class := { plain "com/example/orderly_latch/orderlylatch/name/LatchName" (some 0) with
  accessFlags := 49
  interfaces := #[]
  cf := some (fileOf pool9 8 #[] #[{ accessFlags := 2, nameIndex := 5, descriptorIndex := 33, attributes := #[] }, { accessFlags := 9, nameIndex := 89, descriptorIndex := 90, attributes := #[] }, { accessFlags := 1, nameIndex := 11, descriptorIndex := 92, attributes := #[] }, { accessFlags := 10, nameIndex := 36, descriptorIndex := 37, attributes := #[] }] 49 2 #[] #[{ accessFlags := 25, nameIndex := 83, descriptorIndex := 84, attributes := #[] }, { accessFlags := 18, nameIndex := 11, descriptorIndex := 12, attributes := #[] }])
  fields := #[{ name := "MAX_UTF8_BYTES", type := .int, accessFlags := 25, slot := 0, constantValue := 0 }, { name := "value", type := (.object "java/lang/String"), accessFlags := 18, slot := 0, constantValue := 0 }]
  methods := #[k9m0, k9m1, k9m2, k9m3]
  instanceTypes := #[(.object "java/lang/String")]
  staticTypes := #[.int]
  resolved := Array.replicate 115 none
  statics := none }

def pool10 : Array CpInfo := pool [(2, .class_ 4), (1, u "java/lang/Object"), (0, u "<init>"), (0, u "()V"), (35, .class_ 44), (1, u "java/util/Objects"), (0, u "requireNonNull"), (48, u "(Ljava/lang/Object;Ljava/lang/String;)Ljava/lang/Object;")] 89

def k10m0 : Method := { name := "<init>", desc := "()V", sig := { parameters := [], returnType := none }, accessFlags := 2, code := none }
def k10c1 : Code := { maxStack := 3, maxLocals := 2, code := jdk_31_method_11_code, exceptionTable := #[], attributes := #[] }
def k10m1 : Method := { name := "requireNonNull", desc := "(Ljava/lang/Object;Ljava/lang/String;)Ljava/lang/Object;", sig := { parameters := [(.object "java/lang/Object"), (.object "java/lang/String")], returnType := some (.object "java/lang/Object") }, accessFlags := 9, code := some k10c1 }
/-- java/util/Objects -/
def k10 : Class := { plain "java/util/Objects" (some 0) with
  accessFlags := 49
  interfaces := #[]
  cf := some (fileOf pool10 42 #[] #[{ accessFlags := 2, nameIndex := 5, descriptorIndex := 6, attributes := #[] }, { accessFlags := 9, nameIndex := 45, descriptorIndex := 94, attributes := #[] }] 49 2 #[] #[])
  fields := #[]
  methods := #[k10m0, k10m1]
  instanceTypes := #[]
  staticTypes := #[]
  resolved := Array.replicate 184 none
  statics := none }

def pool11 : Array CpInfo := pool [(1, .class_ 2), (0, u "java/lang/String"), (1, .class_ 6), (1, u "java/lang/Object"), (0, u "<init>"), (0, u "()V"), (0, .methodref 1 10), (0, .nameAndType 11 12), (0, u "checkIndex"), (0, u "(II)V"), (1, .class_ 16), (1, u "java/lang/StringLatin1"), (36, u "([BI)C"), (67, u "$assertionsDisabled"), (0, u "Z"), (98, .class_ 223), (1, u "java/lang/StringLatin1$LinesSpliterator"), (28, u "charAt"), (137, .class_ 391), (0, u "java/lang/StringLatin1$CharsSpliterator")] 3

def k11m0 : Method := { name := "<init>", desc := "()V", sig := { parameters := [], returnType := none }, accessFlags := 0, code := none }
def k11c1 : Code := { maxStack := 2, maxLocals := 2, code := jdk_43_method_2_code, exceptionTable := #[], attributes := #[] }
def k11m1 : Method := { name := "charAt", desc := "([BI)C", sig := { parameters := [(.array .byte), .int], returnType := some .char }, accessFlags := 9, code := some k11c1 }
/-- java/lang/StringLatin1 -/
def k11 : Class := { plain "java/lang/StringLatin1" (some 0) with
  accessFlags := 48
  interfaces := #[]
  cf := some (fileOf pool11 14 #[.nestMembers #[390, 221]] #[{ accessFlags := 0, nameIndex := 7, descriptorIndex := 8, attributes := #[] }, { accessFlags := 9, nameIndex := 252, descriptorIndex := 53, attributes := #[] }] 48 4 #[] #[{ accessFlags := 4120, nameIndex := 121, descriptorIndex := 122, attributes := #[] }])
  fields := #[{ name := "$assertionsDisabled", type := .boolean, accessFlags := 4120, slot := 0, constantValue := 0 }]
  methods := #[k11m0, k11m1]
  instanceTypes := #[]
  staticTypes := #[.boolean]
  resolved := Array.replicate 395 none
  statics := none }

def pool12 : Array CpInfo := pool [(2, .class_ 4), (1, u "java/lang/Object"), (0, u "<init>"), (0, u "()V"), (17, .class_ 26), (1, u "jdk/internal/util/Preconditions"), (6, u "checkIndex"), (21, .class_ 56), (0, u "jdk/internal/util/Preconditions$4"), (57, .class_ 115), (0, u "jdk/internal/util/Preconditions$1"), (7, u "SIOOBE_FORMATTER"), (0, u "Ljava/util/function/BiFunction;"), (0, .class_ 126), (0, u "jdk/internal/util/Preconditions$2"), (3, u "AIOOBE_FORMATTER"), (0, .class_ 132), (0, u "jdk/internal/util/Preconditions$3"), (3, u "IOOBE_FORMATTER"), (41, u "(IILjava/util/function/BiFunction;)I")] 15

def k12m0 : Method := { name := "<init>", desc := "()V", sig := { parameters := [], returnType := none }, accessFlags := 1, code := none }
def k12c1 : Code := { maxStack := 3, maxLocals := 3, code := jdk_41_method_11_code, exceptionTable := #[], attributes := #[] }
def k12m1 : Method := { name := "checkIndex", desc := "(IILjava/util/function/BiFunction;)I", sig := { parameters := [.int, .int, (.object "java/util/function/BiFunction")], returnType := some .int }, accessFlags := 9, code := some k12c1 }
/-- jdk/internal/util/Preconditions -/
def k12 : Class := { plain "jdk/internal/util/Preconditions" (some 0) with
  accessFlags := 33
  interfaces := #[]
  cf := some (fileOf pool12 24 #[.nestMembers #[55, 131, 125, 114]] #[{ accessFlags := 1, nameIndex := 5, descriptorIndex := 6, attributes := #[] }, { accessFlags := 9, nameIndex := 33, descriptorIndex := 178, attributes := #[] }] 33 2 #[] #[{ accessFlags := 25, nameIndex := 123, descriptorIndex := 124, attributes := #[] }, { accessFlags := 25, nameIndex := 130, descriptorIndex := 124, attributes := #[] }, { accessFlags := 25, nameIndex := 136, descriptorIndex := 124, attributes := #[] }])
  fields := #[{ name := "SIOOBE_FORMATTER", type := (.object "java/util/function/BiFunction"), accessFlags := 25, slot := 0, constantValue := 0 }, { name := "AIOOBE_FORMATTER", type := (.object "java/util/function/BiFunction"), accessFlags := 25, slot := 1, constantValue := 0 }, { name := "IOOBE_FORMATTER", type := (.object "java/util/function/BiFunction"), accessFlags := 25, slot := 2, constantValue := 0 }]
  methods := #[k12m0, k12m1]
  instanceTypes := #[]
  staticTypes := #[(.object "java/util/function/BiFunction"), (.object "java/util/function/BiFunction"), (.object "java/util/function/BiFunction")]
  resolved := Array.replicate 194 none
  statics := some 2 }

def pool13 : Array CpInfo := pool [(1, .class_ 2), (0, u "java/lang/Character"), (18, u "value"), (0, u "C"), (19, .class_ 44), (1, u "java/lang/Object"), (3, .class_ 50), (1, u "java/lang/Character$CharacterCache"), (24, .integer 55296), (0, .integer 56320), (0, .integer 57344), (2, u "isHighSurrogate"), (0, u "(C)Z"), (2, u "isLowSurrogate"), (199, u "$assertionsDisabled"), (0, u "Z"), (21, .class_ 309), (1, u "java/lang/Character$UnicodeBlock"), (73, u "TYPE"), (0, u "Ljava/lang/Class;"), (0, .class_ 386), (0, u "java/io/Serializable"), (0, .class_ 388), (0, u "java/lang/Comparable"), (0, .class_ 390), (0, u "java/lang/constant/Constable"), (0, u "MIN_RADIX"), (0, u "I"), (2, u "MAX_RADIX"), (1, u "MIN_VALUE"), (1, u "MAX_VALUE"), (3, u "UNASSIGNED"), (0, u "B"), (0, u "UPPERCASE_LETTER"), (1, u "LOWERCASE_LETTER"), (0, u "TITLECASE_LETTER"), (1, u "MODIFIER_LETTER"), (1, u "OTHER_LETTER"), (1, u "NON_SPACING_MARK"), (1, u "ENCLOSING_MARK"), (1, u "COMBINING_SPACING_MARK"), (1, u "DECIMAL_DIGIT_NUMBER"), (1, u "LETTER_NUMBER"), (1, u "OTHER_NUMBER"), (1, u "SPACE_SEPARATOR"), (1, u "LINE_SEPARATOR"), (1, u "PARAGRAPH_SEPARATOR"), (1, u "CONTROL"), (1, u "FORMAT"), (1, u "PRIVATE_USE"), (1, u "SURROGATE"), (1, u "DASH_PUNCTUATION"), (1, u "START_PUNCTUATION"), (1, u "END_PUNCTUATION"), (1, u "CONNECTOR_PUNCTUATION"), (1, u "OTHER_PUNCTUATION"), (1, u "MATH_SYMBOL"), (1, u "CURRENCY_SYMBOL"), (1, u "MODIFIER_SYMBOL"), (1, u "OTHER_SYMBOL"), (1, u "INITIAL_QUOTE_PUNCTUATION"), (1, u "FINAL_QUOTE_PUNCTUATION"), (1, u "ERROR"), (1, u "DIRECTIONALITY_UNDEFINED"), (0, u "DIRECTIONALITY_LEFT_TO_RIGHT"), (0, u "DIRECTIONALITY_RIGHT_TO_LEFT"), (0, u "DIRECTIONALITY_RIGHT_TO_LEFT_ARABIC"), (0, u "DIRECTIONALITY_EUROPEAN_NUMBER"), (0, u "DIRECTIONALITY_EUROPEAN_NUMBER_SEPARATOR"), (0, u "DIRECTIONALITY_EUROPEAN_NUMBER_TERMINATOR"), (0, u "DIRECTIONALITY_ARABIC_NUMBER"), (0, u "DIRECTIONALITY_COMMON_NUMBER_SEPARATOR"), (0, u "DIRECTIONALITY_NONSPACING_MARK"), (0, u "DIRECTIONALITY_BOUNDARY_NEUTRAL"), (0, u "DIRECTIONALITY_PARAGRAPH_SEPARATOR"), (0, u "DIRECTIONALITY_SEGMENT_SEPARATOR"), (0, u "DIRECTIONALITY_WHITESPACE"), (0, u "DIRECTIONALITY_OTHER_NEUTRALS"), (0, u "DIRECTIONALITY_LEFT_TO_RIGHT_EMBEDDING"), (0, u "DIRECTIONALITY_LEFT_TO_RIGHT_OVERRIDE"), (0, u "DIRECTIONALITY_RIGHT_TO_LEFT_EMBEDDING"), (0, u "DIRECTIONALITY_RIGHT_TO_LEFT_OVERRIDE"), (1, u "DIRECTIONALITY_POP_DIRECTIONAL_FORMAT"), (0, u "DIRECTIONALITY_LEFT_TO_RIGHT_ISOLATE"), (0, u "DIRECTIONALITY_RIGHT_TO_LEFT_ISOLATE"), (0, u "DIRECTIONALITY_FIRST_STRONG_ISOLATE"), (0, u "DIRECTIONALITY_POP_DIRECTIONAL_ISOLATE"), (0, u "MIN_HIGH_SURROGATE"), (0, u "MAX_HIGH_SURROGATE"), (1, u "MIN_LOW_SURROGATE"), (0, u "MAX_LOW_SURROGATE"), (1, u "MIN_SURROGATE"), (0, u "MAX_SURROGATE"), (0, u "MIN_SUPPLEMENTARY_CODE_POINT"), (0, u "MIN_CODE_POINT"), (0, u "MAX_CODE_POINT"), (1, u "serialVersionUID"), (0, u "J"), (2, u "SIZE"), (0, u "BYTES"), (24, u "isSurrogate"), (63, .class_ 596), (0, u "java/lang/Character$UnicodeScript"), (0, .class_ 598), (0, u "java/lang/Character$Subset")] 5

def k13c0 : Code := { maxStack := 2, maxLocals := 1, code := jdk_89_method_14_code, exceptionTable := #[], attributes := #[] }
def k13m0 : Method := { name := "isHighSurrogate", desc := "(C)Z", sig := { parameters := [.char], returnType := some .boolean }, accessFlags := 9, code := some k13c0 }
def k13c1 : Code := { maxStack := 2, maxLocals := 1, code := jdk_89_method_15_code, exceptionTable := #[], attributes := #[] }
def k13m1 : Method := { name := "isLowSurrogate", desc := "(C)Z", sig := { parameters := [.char], returnType := some .boolean }, accessFlags := 9, code := some k13c1 }
def k13c2 : Code := { maxStack := 2, maxLocals := 1, code := jdk_89_method_16_code, exceptionTable := #[], attributes := #[] }
def k13m2 : Method := { name := "isSurrogate", desc := "(C)Z", sig := { parameters := [.char], returnType := some .boolean }, accessFlags := 9, code := some k13c2 }
/-- java/lang/Character -/
def k13 : Class := { plain "java/lang/Character" (some 0) with
  accessFlags := 49
  interfaces := #[2, 3, 5]
  cf := some (fileOf pool13 1 #[.nestMembers #[48, 595, 307, 597]] #[{ accessFlags := 9, nameIndex := 80, descriptorIndex := 81, attributes := #[] }, { accessFlags := 9, nameIndex := 84, descriptorIndex := 81, attributes := #[] }, { accessFlags := 9, nameIndex := 531, descriptorIndex := 81, attributes := #[] }] 49 42 #[385, 387, 389] #[{ accessFlags := 25, nameIndex := 391, descriptorIndex := 392, attributes := #[] }, { accessFlags := 25, nameIndex := 395, descriptorIndex := 392, attributes := #[] }, { accessFlags := 25, nameIndex := 397, descriptorIndex := 22, attributes := #[] }, { accessFlags := 25, nameIndex := 399, descriptorIndex := 22, attributes := #[] }, { accessFlags := 25, nameIndex := 383, descriptorIndex := 384, attributes := #[] }, { accessFlags := 25, nameIndex := 403, descriptorIndex := 404, attributes := #[] }, { accessFlags := 25, nameIndex := 405, descriptorIndex := 404, attributes := #[] }, { accessFlags := 25, nameIndex := 407, descriptorIndex := 404, attributes := #[] }, { accessFlags := 25, nameIndex := 408, descriptorIndex := 404, attributes := #[] }, { accessFlags := 25, nameIndex := 410, descriptorIndex := 404, attributes := #[] }, { accessFlags := 25, nameIndex := 412, descriptorIndex := 404, attributes := #[] }, { accessFlags := 25, nameIndex := 414, descriptorIndex := 404, attributes := #[] }, { accessFlags := 25, nameIndex := 416, descriptorIndex := 404, attributes := #[] }, { accessFlags := 25, nameIndex := 418, descriptorIndex := 404, attributes := #[] }, { accessFlags := 25, nameIndex := 420, descriptorIndex := 404, attributes := #[] }, { accessFlags := 25, nameIndex := 422, descriptorIndex := 404, attributes := #[] }, { accessFlags := 25, nameIndex := 424, descriptorIndex := 404, attributes := #[] }, { accessFlags := 25, nameIndex := 426, descriptorIndex := 404, attributes := #[] }, { accessFlags := 25, nameIndex := 428, descriptorIndex := 404, attributes := #[] }, { accessFlags := 25, nameIndex := 430, descriptorIndex := 404, attributes := #[] }, { accessFlags := 25, nameIndex := 432, descriptorIndex := 404, attributes := #[] }, { accessFlags := 25, nameIndex := 434, descriptorIndex := 404, attributes := #[] }, { accessFlags := 25, nameIndex := 436, descriptorIndex := 404, attributes := #[] }, { accessFlags := 25, nameIndex := 438, descriptorIndex := 404, attributes := #[] }, { accessFlags := 25, nameIndex := 440, descriptorIndex := 404, attributes := #[] }, { accessFlags := 25, nameIndex := 442, descriptorIndex := 404, attributes := #[] }, { accessFlags := 25, nameIndex := 444, descriptorIndex := 404, attributes := #[] }, { accessFlags := 25, nameIndex := 446, descriptorIndex := 404, attributes := #[] }, { accessFlags := 25, nameIndex := 448, descriptorIndex := 404, attributes := #[] }, { accessFlags := 25, nameIndex := 450, descriptorIndex := 404, attributes := #[] }, { accessFlags := 25, nameIndex := 452, descriptorIndex := 404, attributes := #[] }, { accessFlags := 25, nameIndex := 454, descriptorIndex := 404, attributes := #[] }, { accessFlags := 25, nameIndex := 456, descriptorIndex := 404, attributes := #[] }, { accessFlags := 25, nameIndex := 458, descriptorIndex := 404, attributes := #[] }, { accessFlags := 25, nameIndex := 460, descriptorIndex := 404, attributes := #[] }, { accessFlags := 24, nameIndex := 462, descriptorIndex := 392, attributes := #[] }, { accessFlags := 25, nameIndex := 464, descriptorIndex := 404, attributes := #[] }, { accessFlags := 25, nameIndex := 465, descriptorIndex := 404, attributes := #[] }, { accessFlags := 25, nameIndex := 466, descriptorIndex := 404, attributes := #[] }, { accessFlags := 25, nameIndex := 467, descriptorIndex := 404, attributes := #[] }, { accessFlags := 25, nameIndex := 468, descriptorIndex := 404, attributes := #[] }, { accessFlags := 25, nameIndex := 469, descriptorIndex := 404, attributes := #[] }, { accessFlags := 25, nameIndex := 470, descriptorIndex := 404, attributes := #[] }, { accessFlags := 25, nameIndex := 471, descriptorIndex := 404, attributes := #[] }, { accessFlags := 25, nameIndex := 472, descriptorIndex := 404, attributes := #[] }, { accessFlags := 25, nameIndex := 473, descriptorIndex := 404, attributes := #[] }, { accessFlags := 25, nameIndex := 474, descriptorIndex := 404, attributes := #[] }, { accessFlags := 25, nameIndex := 475, descriptorIndex := 404, attributes := #[] }, { accessFlags := 25, nameIndex := 476, descriptorIndex := 404, attributes := #[] }, { accessFlags := 25, nameIndex := 477, descriptorIndex := 404, attributes := #[] }, { accessFlags := 25, nameIndex := 478, descriptorIndex := 404, attributes := #[] }, { accessFlags := 25, nameIndex := 479, descriptorIndex := 404, attributes := #[] }, { accessFlags := 25, nameIndex := 480, descriptorIndex := 404, attributes := #[] }, { accessFlags := 25, nameIndex := 481, descriptorIndex := 404, attributes := #[] }, { accessFlags := 25, nameIndex := 482, descriptorIndex := 404, attributes := #[] }, { accessFlags := 25, nameIndex := 484, descriptorIndex := 404, attributes := #[] }, { accessFlags := 25, nameIndex := 485, descriptorIndex := 404, attributes := #[] }, { accessFlags := 25, nameIndex := 486, descriptorIndex := 404, attributes := #[] }, { accessFlags := 25, nameIndex := 487, descriptorIndex := 404, attributes := #[] }, { accessFlags := 25, nameIndex := 488, descriptorIndex := 404, attributes := #[] }, { accessFlags := 25, nameIndex := 489, descriptorIndex := 22, attributes := #[] }, { accessFlags := 25, nameIndex := 490, descriptorIndex := 22, attributes := #[] }, { accessFlags := 25, nameIndex := 492, descriptorIndex := 22, attributes := #[] }, { accessFlags := 25, nameIndex := 493, descriptorIndex := 22, attributes := #[] }, { accessFlags := 25, nameIndex := 495, descriptorIndex := 22, attributes := #[] }, { accessFlags := 25, nameIndex := 496, descriptorIndex := 22, attributes := #[] }, { accessFlags := 25, nameIndex := 497, descriptorIndex := 392, attributes := #[] }, { accessFlags := 25, nameIndex := 498, descriptorIndex := 392, attributes := #[] }, { accessFlags := 25, nameIndex := 499, descriptorIndex := 392, attributes := #[] }, { accessFlags := 18, nameIndex := 21, descriptorIndex := 22, attributes := #[] }, { accessFlags := 26, nameIndex := 501, descriptorIndex := 502, attributes := #[] }, { accessFlags := 25, nameIndex := 505, descriptorIndex := 392, attributes := #[] }, { accessFlags := 25, nameIndex := 506, descriptorIndex := 392, attributes := #[] }, { accessFlags := 4120, nameIndex := 284, descriptorIndex := 285, attributes := #[] }])
  fields := #[{ name := "MIN_RADIX", type := .int, accessFlags := 25, slot := 0, constantValue := 0 }, { name := "MAX_RADIX", type := .int, accessFlags := 25, slot := 1, constantValue := 0 }, { name := "MIN_VALUE", type := .char, accessFlags := 25, slot := 2, constantValue := 0 }, { name := "MAX_VALUE", type := .char, accessFlags := 25, slot := 3, constantValue := 0 }, { name := "TYPE", type := (.object "java/lang/Class"), accessFlags := 25, slot := 4, constantValue := 0 }, { name := "UNASSIGNED", type := .byte, accessFlags := 25, slot := 5, constantValue := 0 }, { name := "UPPERCASE_LETTER", type := .byte, accessFlags := 25, slot := 6, constantValue := 0 }, { name := "LOWERCASE_LETTER", type := .byte, accessFlags := 25, slot := 7, constantValue := 0 }, { name := "TITLECASE_LETTER", type := .byte, accessFlags := 25, slot := 8, constantValue := 0 }, { name := "MODIFIER_LETTER", type := .byte, accessFlags := 25, slot := 9, constantValue := 0 }, { name := "OTHER_LETTER", type := .byte, accessFlags := 25, slot := 10, constantValue := 0 }, { name := "NON_SPACING_MARK", type := .byte, accessFlags := 25, slot := 11, constantValue := 0 }, { name := "ENCLOSING_MARK", type := .byte, accessFlags := 25, slot := 12, constantValue := 0 }, { name := "COMBINING_SPACING_MARK", type := .byte, accessFlags := 25, slot := 13, constantValue := 0 }, { name := "DECIMAL_DIGIT_NUMBER", type := .byte, accessFlags := 25, slot := 14, constantValue := 0 }, { name := "LETTER_NUMBER", type := .byte, accessFlags := 25, slot := 15, constantValue := 0 }, { name := "OTHER_NUMBER", type := .byte, accessFlags := 25, slot := 16, constantValue := 0 }, { name := "SPACE_SEPARATOR", type := .byte, accessFlags := 25, slot := 17, constantValue := 0 }, { name := "LINE_SEPARATOR", type := .byte, accessFlags := 25, slot := 18, constantValue := 0 }, { name := "PARAGRAPH_SEPARATOR", type := .byte, accessFlags := 25, slot := 19, constantValue := 0 }, { name := "CONTROL", type := .byte, accessFlags := 25, slot := 20, constantValue := 0 }, { name := "FORMAT", type := .byte, accessFlags := 25, slot := 21, constantValue := 0 }, { name := "PRIVATE_USE", type := .byte, accessFlags := 25, slot := 22, constantValue := 0 }, { name := "SURROGATE", type := .byte, accessFlags := 25, slot := 23, constantValue := 0 }, { name := "DASH_PUNCTUATION", type := .byte, accessFlags := 25, slot := 24, constantValue := 0 }, { name := "START_PUNCTUATION", type := .byte, accessFlags := 25, slot := 25, constantValue := 0 }, { name := "END_PUNCTUATION", type := .byte, accessFlags := 25, slot := 26, constantValue := 0 }, { name := "CONNECTOR_PUNCTUATION", type := .byte, accessFlags := 25, slot := 27, constantValue := 0 }, { name := "OTHER_PUNCTUATION", type := .byte, accessFlags := 25, slot := 28, constantValue := 0 }, { name := "MATH_SYMBOL", type := .byte, accessFlags := 25, slot := 29, constantValue := 0 }, { name := "CURRENCY_SYMBOL", type := .byte, accessFlags := 25, slot := 30, constantValue := 0 }, { name := "MODIFIER_SYMBOL", type := .byte, accessFlags := 25, slot := 31, constantValue := 0 }, { name := "OTHER_SYMBOL", type := .byte, accessFlags := 25, slot := 32, constantValue := 0 }, { name := "INITIAL_QUOTE_PUNCTUATION", type := .byte, accessFlags := 25, slot := 33, constantValue := 0 }, { name := "FINAL_QUOTE_PUNCTUATION", type := .byte, accessFlags := 25, slot := 34, constantValue := 0 }, { name := "ERROR", type := .int, accessFlags := 24, slot := 35, constantValue := 0 }, { name := "DIRECTIONALITY_UNDEFINED", type := .byte, accessFlags := 25, slot := 36, constantValue := 0 }, { name := "DIRECTIONALITY_LEFT_TO_RIGHT", type := .byte, accessFlags := 25, slot := 37, constantValue := 0 }, { name := "DIRECTIONALITY_RIGHT_TO_LEFT", type := .byte, accessFlags := 25, slot := 38, constantValue := 0 }, { name := "DIRECTIONALITY_RIGHT_TO_LEFT_ARABIC", type := .byte, accessFlags := 25, slot := 39, constantValue := 0 }, { name := "DIRECTIONALITY_EUROPEAN_NUMBER", type := .byte, accessFlags := 25, slot := 40, constantValue := 0 }, { name := "DIRECTIONALITY_EUROPEAN_NUMBER_SEPARATOR", type := .byte, accessFlags := 25, slot := 41, constantValue := 0 }, { name := "DIRECTIONALITY_EUROPEAN_NUMBER_TERMINATOR", type := .byte, accessFlags := 25, slot := 42, constantValue := 0 }, { name := "DIRECTIONALITY_ARABIC_NUMBER", type := .byte, accessFlags := 25, slot := 43, constantValue := 0 }, { name := "DIRECTIONALITY_COMMON_NUMBER_SEPARATOR", type := .byte, accessFlags := 25, slot := 44, constantValue := 0 }, { name := "DIRECTIONALITY_NONSPACING_MARK", type := .byte, accessFlags := 25, slot := 45, constantValue := 0 }, { name := "DIRECTIONALITY_BOUNDARY_NEUTRAL", type := .byte, accessFlags := 25, slot := 46, constantValue := 0 }, { name := "DIRECTIONALITY_PARAGRAPH_SEPARATOR", type := .byte, accessFlags := 25, slot := 47, constantValue := 0 }, { name := "DIRECTIONALITY_SEGMENT_SEPARATOR", type := .byte, accessFlags := 25, slot := 48, constantValue := 0 }, { name := "DIRECTIONALITY_WHITESPACE", type := .byte, accessFlags := 25, slot := 49, constantValue := 0 }, { name := "DIRECTIONALITY_OTHER_NEUTRALS", type := .byte, accessFlags := 25, slot := 50, constantValue := 0 }, { name := "DIRECTIONALITY_LEFT_TO_RIGHT_EMBEDDING", type := .byte, accessFlags := 25, slot := 51, constantValue := 0 }, { name := "DIRECTIONALITY_LEFT_TO_RIGHT_OVERRIDE", type := .byte, accessFlags := 25, slot := 52, constantValue := 0 }, { name := "DIRECTIONALITY_RIGHT_TO_LEFT_EMBEDDING", type := .byte, accessFlags := 25, slot := 53, constantValue := 0 }, { name := "DIRECTIONALITY_RIGHT_TO_LEFT_OVERRIDE", type := .byte, accessFlags := 25, slot := 54, constantValue := 0 }, { name := "DIRECTIONALITY_POP_DIRECTIONAL_FORMAT", type := .byte, accessFlags := 25, slot := 55, constantValue := 0 }, { name := "DIRECTIONALITY_LEFT_TO_RIGHT_ISOLATE", type := .byte, accessFlags := 25, slot := 56, constantValue := 0 }, { name := "DIRECTIONALITY_RIGHT_TO_LEFT_ISOLATE", type := .byte, accessFlags := 25, slot := 57, constantValue := 0 }, { name := "DIRECTIONALITY_FIRST_STRONG_ISOLATE", type := .byte, accessFlags := 25, slot := 58, constantValue := 0 }, { name := "DIRECTIONALITY_POP_DIRECTIONAL_ISOLATE", type := .byte, accessFlags := 25, slot := 59, constantValue := 0 }, { name := "MIN_HIGH_SURROGATE", type := .char, accessFlags := 25, slot := 60, constantValue := 0 }, { name := "MAX_HIGH_SURROGATE", type := .char, accessFlags := 25, slot := 61, constantValue := 0 }, { name := "MIN_LOW_SURROGATE", type := .char, accessFlags := 25, slot := 62, constantValue := 0 }, { name := "MAX_LOW_SURROGATE", type := .char, accessFlags := 25, slot := 63, constantValue := 0 }, { name := "MIN_SURROGATE", type := .char, accessFlags := 25, slot := 64, constantValue := 0 }, { name := "MAX_SURROGATE", type := .char, accessFlags := 25, slot := 65, constantValue := 0 }, { name := "MIN_SUPPLEMENTARY_CODE_POINT", type := .int, accessFlags := 25, slot := 66, constantValue := 0 }, { name := "MIN_CODE_POINT", type := .int, accessFlags := 25, slot := 67, constantValue := 0 }, { name := "MAX_CODE_POINT", type := .int, accessFlags := 25, slot := 68, constantValue := 0 }, { name := "value", type := .char, accessFlags := 18, slot := 0, constantValue := 0 }, { name := "serialVersionUID", type := .long, accessFlags := 26, slot := 69, constantValue := 0 }, { name := "SIZE", type := .int, accessFlags := 25, slot := 70, constantValue := 0 }, { name := "BYTES", type := .int, accessFlags := 25, slot := 71, constantValue := 0 }, { name := "$assertionsDisabled", type := .boolean, accessFlags := 4120, slot := 72, constantValue := 0 }]
  methods := #[k13m0, k13m1, k13m2]
  instanceTypes := #[.char]
  staticTypes := #[.int, .int, .char, .char, (.object "java/lang/Class"), .byte, .byte, .byte, .byte, .byte, .byte, .byte, .byte, .byte, .byte, .byte, .byte, .byte, .byte, .byte, .byte, .byte, .byte, .byte, .byte, .byte, .byte, .byte, .byte, .byte, .byte, .byte, .byte, .byte, .byte, .int, .byte, .byte, .byte, .byte, .byte, .byte, .byte, .byte, .byte, .byte, .byte, .byte, .byte, .byte, .byte, .byte, .byte, .byte, .byte, .byte, .byte, .byte, .byte, .byte, .char, .char, .char, .char, .char, .char, .int, .int, .int, .long, .int, .int, .boolean]
  resolved := Array.replicate 604 none
  statics := none }

def pool14 : Array CpInfo := pool [(9, u "<init>"), (6, .class_ 18), (1, u "java/lang/Object"), (0, u "()V"), (1, .class_ 23), (1, u "jdk/internal/util/ArraysSupport"), (0, u "LOG2_ARRAY_LONG_INDEX_SCALE"), (0, u "I"), (2, u "U"), (0, u "Ljdk/internal/misc/Unsafe;"), (8, u "BIG_ENDIAN"), (0, u "Z"), (8, u "LOG2_BYTE_BIT_SIZE"), (4, u "LOG2_ARRAY_INT_INDEX_SCALE"), (54, u "JLA"), (0, u "Ljdk/internal/access/JavaLangAccess;"), (11, u "LOG2_ARRAY_BOOLEAN_INDEX_SCALE"), (9, u "LOG2_ARRAY_BYTE_INDEX_SCALE"), (5, u "LOG2_ARRAY_CHAR_INDEX_SCALE"), (5, u "LOG2_ARRAY_SHORT_INDEX_SCALE"), (18, u "LOG2_ARRAY_FLOAT_INDEX_SCALE"), (24, u "LOG2_ARRAY_DOUBLE_INDEX_SCALE"), (89, u "T_BOOLEAN"), (2, u "T_CHAR"), (1, u "T_FLOAT"), (1, u "T_DOUBLE"), (1, u "T_BYTE"), (1, u "T_SHORT"), (1, u "T_INT"), (1, u "T_LONG"), (1, u "SOFT_MAX_ARRAY_LENGTH")] 83

def k14m0 : Method := { name := "<init>", desc := "()V", sig := { parameters := [], returnType := none }, accessFlags := 2, code := none }
/-- jdk/internal/util/ArraysSupport -/
def k14 : Class := { plain "jdk/internal/util/ArraysSupport" (some 0) with
  accessFlags := 33
  interfaces := #[]
  cf := some (fileOf pool14 21 #[] #[{ accessFlags := 2, nameIndex := 9, descriptorIndex := 19, attributes := #[] }] 33 16 #[] #[{ accessFlags := 24, nameIndex := 28, descriptorIndex := 29, attributes := #[] }, { accessFlags := 26, nameIndex := 38, descriptorIndex := 39, attributes := #[] }, { accessFlags := 25, nameIndex := 121, descriptorIndex := 25, attributes := #[] }, { accessFlags := 25, nameIndex := 131, descriptorIndex := 25, attributes := #[] }, { accessFlags := 25, nameIndex := 137, descriptorIndex := 25, attributes := #[] }, { accessFlags := 25, nameIndex := 143, descriptorIndex := 25, attributes := #[] }, { accessFlags := 25, nameIndex := 53, descriptorIndex := 25, attributes := #[] }, { accessFlags := 25, nameIndex := 24, descriptorIndex := 25, attributes := #[] }, { accessFlags := 25, nameIndex := 162, descriptorIndex := 25, attributes := #[] }, { accessFlags := 25, nameIndex := 187, descriptorIndex := 25, attributes := #[] }, { accessFlags := 26, nameIndex := 48, descriptorIndex := 25, attributes := #[] }, { accessFlags := 25, nameIndex := 277, descriptorIndex := 25, attributes := #[] }, { accessFlags := 25, nameIndex := 280, descriptorIndex := 25, attributes := #[] }, { accessFlags := 25, nameIndex := 282, descriptorIndex := 25, attributes := #[] }, { accessFlags := 25, nameIndex := 284, descriptorIndex := 25, attributes := #[] }, { accessFlags := 25, nameIndex := 286, descriptorIndex := 25, attributes := #[] }, { accessFlags := 25, nameIndex := 288, descriptorIndex := 25, attributes := #[] }, { accessFlags := 25, nameIndex := 290, descriptorIndex := 25, attributes := #[] }, { accessFlags := 25, nameIndex := 292, descriptorIndex := 25, attributes := #[] }, { accessFlags := 26, nameIndex := 108, descriptorIndex := 109, attributes := #[] }, { accessFlags := 25, nameIndex := 294, descriptorIndex := 25, attributes := #[] }])
  fields := #[{ name := "U", type := (.object "jdk/internal/misc/Unsafe"), accessFlags := 24, slot := 0, constantValue := 0 }, { name := "BIG_ENDIAN", type := .boolean, accessFlags := 26, slot := 1, constantValue := 0 }, { name := "LOG2_ARRAY_BOOLEAN_INDEX_SCALE", type := .int, accessFlags := 25, slot := 2, constantValue := 0 }, { name := "LOG2_ARRAY_BYTE_INDEX_SCALE", type := .int, accessFlags := 25, slot := 3, constantValue := 0 }, { name := "LOG2_ARRAY_CHAR_INDEX_SCALE", type := .int, accessFlags := 25, slot := 4, constantValue := 0 }, { name := "LOG2_ARRAY_SHORT_INDEX_SCALE", type := .int, accessFlags := 25, slot := 5, constantValue := 0 }, { name := "LOG2_ARRAY_INT_INDEX_SCALE", type := .int, accessFlags := 25, slot := 6, constantValue := 0 }, { name := "LOG2_ARRAY_LONG_INDEX_SCALE", type := .int, accessFlags := 25, slot := 7, constantValue := 0 }, { name := "LOG2_ARRAY_FLOAT_INDEX_SCALE", type := .int, accessFlags := 25, slot := 8, constantValue := 0 }, { name := "LOG2_ARRAY_DOUBLE_INDEX_SCALE", type := .int, accessFlags := 25, slot := 9, constantValue := 0 }, { name := "LOG2_BYTE_BIT_SIZE", type := .int, accessFlags := 26, slot := 10, constantValue := 0 }, { name := "T_BOOLEAN", type := .int, accessFlags := 25, slot := 11, constantValue := 0 }, { name := "T_CHAR", type := .int, accessFlags := 25, slot := 12, constantValue := 0 }, { name := "T_FLOAT", type := .int, accessFlags := 25, slot := 13, constantValue := 0 }, { name := "T_DOUBLE", type := .int, accessFlags := 25, slot := 14, constantValue := 0 }, { name := "T_BYTE", type := .int, accessFlags := 25, slot := 15, constantValue := 0 }, { name := "T_SHORT", type := .int, accessFlags := 25, slot := 16, constantValue := 0 }, { name := "T_INT", type := .int, accessFlags := 25, slot := 17, constantValue := 0 }, { name := "T_LONG", type := .int, accessFlags := 25, slot := 18, constantValue := 0 }, { name := "JLA", type := (.object "jdk/internal/access/JavaLangAccess"), accessFlags := 26, slot := 19, constantValue := 0 }, { name := "SOFT_MAX_ARRAY_LENGTH", type := .int, accessFlags := 25, slot := 20, constantValue := 0 }]
  methods := #[k14m0]
  instanceTypes := #[]
  staticTypes := #[(.object "jdk/internal/misc/Unsafe"), .boolean, .int, .int, .int, .int, .int, .int, .int, .int, .int, .int, .int, .int, .int, .int, .int, .int, .int, (.object "jdk/internal/access/JavaLangAccess"), .int]
  resolved := Array.replicate 378 none
  statics := none }

def pool15 : Array CpInfo := pool [(1, u "java/lang/Cloneable"), (0, .class_ 1), (0, u "java/lang/Object"), (0, .class_ 3)] 3

/-- java/lang/Cloneable -/
def k15 : Class := { plain "java/lang/Cloneable" (some 0) with
  accessFlags := 1537
  interfaces := #[]
  cf := some (fileOf pool15 2 #[] #[] 1537 4 #[] #[])
  fields := #[]
  methods := #[]
  instanceTypes := #[]
  staticTypes := #[]
  resolved := Array.replicate 8 none
  statics := none }

/-- the primitive byte -/
def k16 : Class := { plain "byte" none with kind := .primitive 'B', accessFlags := 0x411 }
/-- [B -/
def k17 : Class := { plain "[B" (some 0) with kind := .array 16 .byte, interfaces := #[15, 2], accessFlags := 1041 }

/-- the primitive char -/
def k18 : Class := { plain "char" none with kind := .primitive 'C', accessFlags := 0x411 }
/-- [C -/
def k19 : Class := { plain "[C" (some 0) with kind := .array 18 .char, interfaces := #[15, 2], accessFlags := 1041 }

/-- the primitive int -/
def k20 : Class := { plain "int" none with kind := .primitive 'I', accessFlags := 0x411 }
/-- [I -/
def k21 : Class := { plain "[I" (some 0) with kind := .array 20 .int, interfaces := #[15, 2], accessFlags := 1041 }

def heap : Heap := #[{ cls := 7, slots := #[.long 0, .int 1, .null, .int 0, .null, .int 0, .int 0], vm := .statics 7 },
  { cls := 8, slots := #[.int 0, .int 8, .int 0, .int 1], vm := .statics 8 },
  { cls := 12, slots := #[.null, .null, .null], vm := .statics 12 }]
def classes : Array Class := #[k0, k1, k2, k3, k4, k5, k6, k7, k8, k9, k10, k11, k12, k13, k14, k15, k16, k17, k18, k19, k20, k21]
def interned : List (Array UInt16 × Addr) := []
def slotsUsed : Nat := 14
def theMethod : MethodId := ⟨1, 5⟩
def args0 : Array Value := #[.int 0, .int 131137, .int 131138, .int 131139, .int 131140]
def aboutOver (below : List Frame) : State where
  vm := { classes := classes, interned := interned.toArray }
  heap := heap
  slotsUsed := slotsUsed
  threads := #[{ frames := .invoking theMethod args0 :: below }]
def below0 : List Frame := [.native { method := ⟨0, 0⟩, args := #[] }]
def about1 : State := aboutOver below0
def p0 : Program := .bare "" "" ""
def e0 : Env := launch0.env 0 0 0
theorem w_frames : about1.frames = Frame.invoking theMethod args0 :: below0 := rfl
set_option maxRecDepth 65536 in
theorem w_args : argsFit about1.vm theMethod args0 = true := by decide +kernel
set_option maxRecDepth 65536 in
theorem w_heap : heapFits about1 = true := by decide +kernel
set_option maxRecDepth 65536 in
theorem w_runnable : about1.curStatus? = some .runnable := by decide +kernel
set_option maxRecDepth 65536 in
theorem w_alone : about1.alone = true := by decide +kernel
set_option maxRecDepth 65536 in
theorem w_named : about1.methodNamed? x = some theMethod := by decide +kernel
set_option maxRecDepth 65536 in
theorem w_hears : about1.hears theMethod below0 = true := by decide +kernel
set_option maxRecDepth 65536 in
theorem w_ripe : about1.ripe theMethod args0 below0 = true := by decide +kernel
theorem w_running : about1.status = .running := rfl
set_option maxRecDepth 65536 in
theorem w_room : about1.hasRoom e0.platform room_1 = true :=
  launch0.hasRoom_least _ room_1 (by decide +kernel) (by decide +kernel) (by decide +kernel) (by decide +kernel) (by decide +kernel) (by decide +kernel)
theorem allAtoms_all (ts : List Jvm.Cond) (a : Array Jvm.Value) (st : Jvm.State) : (allAtoms ts).before a st = ts.all (fun c => c.before a st) := by
  induction ts with
  | nil => rfl
  | cons c t ih =>
    show (Jvm.Cond.and c (allAtoms t)).before a st = _
    rw [Jvm.Cond.before_and, ih, List.all_cons]
def words1 : List Jvm.Cond := Jvm.Cond.code x code maxLocals ret :: tables_1
/-- a 'code' word, met by the world's own term for the bytes: nothing is compared byte by byte -/
theorem code_word {y : MethodName} {bytes : ByteArray} {mx : Nat} {rt : Option FieldType} {a : Array Value} {s : State} {m : MethodId} {meth : Method} {c : Code} (h1 : s.methodNamed? y = some m) (h2 : s.vm.method? m = some meth) (h3 : meth.code = some c) (h4 : c.code = bytes)
    (h5 : (c.maxLocals == mx && c.exceptionTable.isEmpty && decide (c.maxStack ≤ mostOperands) && decide (meth.sig.returnType = rt) && !meth.locks && decide (parseMethodDescriptor y.desc = some meth.sig)) = true) : (Jvm.Cond.code y bytes mx rt).before a s = true := by
  simp only [Bool.and_eq_true, beq_iff_eq, Bool.not_eq_true', decide_eq_true_eq] at h5
  obtain ⟨⟨⟨⟨⟨g1, g2⟩, g3⟩, g4⟩, g5⟩, g6⟩ := h5
  simp [Cond.before, Cond.holds, Cond.value, h1, h2, h3, h4, g1, g2, g3, g4, g5, g6]
def isCode : Jvm.Cond → Bool
  | .code _ _ _ _ => true
  | _ => false
theorem all_split {L : List Jvm.Cond} {P : Jvm.Cond → Bool} (h1 : L.all (fun c => isCode c || P c) = true) (h2 : ∀ c ∈ L.filter isCode, P c = true) : L.all P = true := by
  refine List.all_eq_true.mpr fun c hc => ?_
  have h := List.all_eq_true.mp h1 c hc
  rcases Bool.eq_false_or_eq_true (isCode c) with hi | hi
  · exact h2 c (List.mem_filter.mpr ⟨hc, hi⟩)
  · simpa [hi] using h
set_option maxRecDepth 65536 in
theorem w_c0 : (Jvm.Cond.code x code maxLocals ret).before args0 about1 = true := code_word (m := ⟨1, 5⟩) (meth := k1m5) (c := k1c5) (by decide +kernel) rfl rfl rfl (by decide +kernel)
set_option maxRecDepth 65536 in
theorem w_c1 : (Jvm.Cond.code ({ cls := "com/example/orderly_latch/orderlylatch/name/LatchNameOfPinLaw", name := "draw", desc := "(I)I" } : Jvm.MethodName) method_2_code (3 : Nat) (Option.some Jvm.ClassFile.FieldType.int)).before args0 about1 = true := code_word (m := ⟨1, 1⟩) (meth := k1m1) (c := k1c1) (by decide +kernel) rfl rfl rfl (by decide +kernel)
set_option maxRecDepth 65536 in
theorem w_c2 : (Jvm.Cond.code ({ cls := "com/example/orderly_latch/orderlylatch/name/LatchNameOfPinLaw", name := "share", desc := "(III)I" } : Jvm.MethodName) method_5_code (3 : Nat) (Option.some Jvm.ClassFile.FieldType.int)).before args0 about1 = true := code_word (m := ⟨1, 4⟩) (meth := k1m4) (c := k1c4) (by decide +kernel) rfl rfl rfl (by decide +kernel)
set_option maxRecDepth 65536 in
theorem w_c3 : (Jvm.Cond.code ({ cls := "java/lang/String", name := "<init>", desc := "([C)V" } : Jvm.MethodName) jdk_42_method_3_code (2 : Nat) (Option.none : Option Jvm.ClassFile.FieldType)).before args0 about1 = true := code_word (m := ⟨7, 1⟩) (meth := k7m1) (c := k7c1) (by decide +kernel) rfl rfl rfl (by decide +kernel)
set_option maxRecDepth 65536 in
theorem w_c4 : (Jvm.Cond.code ({ cls := "java/lang/String", name := "<init>", desc := "([CIILjava/lang/Void;)V" } : Jvm.MethodName) jdk_42_method_149_code (6 : Nat) (Option.none : Option Jvm.ClassFile.FieldType)).before args0 about1 = true := code_word (m := ⟨7, 6⟩) (meth := k7m6) (c := k7c6) (by decide +kernel) rfl rfl rfl (by decide +kernel)
set_option maxRecDepth 65536 in
theorem w_c5 : (Jvm.Cond.code ({ cls := "java/lang/Object", name := "<init>", desc := "()V" } : Jvm.MethodName) object_method_1_code (1 : Nat) (Option.none : Option Jvm.ClassFile.FieldType)).before args0 about1 = true := code_word (m := ⟨0, 0⟩) (meth := k0m0) (c := k0c0) (by decide +kernel) rfl rfl rfl (by decide +kernel)
set_option maxRecDepth 65536 in
theorem w_c6 : (Jvm.Cond.code ({ cls := "java/lang/StringUTF16", name := "compress", desc := "([CII)[B" } : Jvm.MethodName) jdk_52_method_16_code (6 : Nat) (Option.some (Jvm.ClassFile.FieldType.array Jvm.ClassFile.FieldType.byte))).before args0 about1 = true := code_word (m := ⟨8, 8⟩) (meth := k8m8) (c := k8c8) (by decide +kernel) rfl rfl rfl (by decide +kernel)
set_option maxRecDepth 65536 in
theorem w_c7 : (Jvm.Cond.code ({ cls := "java/lang/StringUTF16", name := "compress", desc := "([CI[BII)I" } : Jvm.MethodName) jdk_52_method_21_code (7 : Nat) (Option.some Jvm.ClassFile.FieldType.int)).before args0 about1 = true := code_word (m := ⟨8, 9⟩) (meth := k8m9) (c := k8c9) (by decide +kernel) rfl rfl rfl (by decide +kernel)
set_option maxRecDepth 65536 in
theorem w_c8 : (Jvm.Cond.code ({ cls := "java/lang/StringUTF16", name := "coderFromArrayLen", desc := "([BI)B" } : Jvm.MethodName) jdk_52_method_15_code (2 : Nat) (Option.some Jvm.ClassFile.FieldType.byte)).before args0 about1 = true := code_word (m := ⟨8, 7⟩) (meth := k8m7) (c := k8c7) (by decide +kernel) rfl rfl rfl (by decide +kernel)
set_option maxRecDepth 65536 in
theorem w_c9 : (Jvm.Cond.code ({ cls := "com/example/orderly_latch/orderlylatch/name/LatchName", name := "of", desc := "(Ljava/lang/String;)Lcom/example/orderly_latch/orderlylatch/name/LatchName;" } : Jvm.MethodName) prog_8_method_2_code (2 : Nat) (Option.some (Jvm.ClassFile.FieldType.object "com/example/orderly_latch/orderlylatch/name/LatchName"))).before args0 about1 = true := code_word (m := ⟨9, 1⟩) (meth := k9m1) (c := k9c1) (by decide +kernel) rfl rfl rfl (by decide +kernel)
set_option maxRecDepth 65536 in
theorem w_c10 : (Jvm.Cond.code ({ cls := "java/util/Objects", name := "requireNonNull", desc := "(Ljava/lang/Object;Ljava/lang/String;)Ljava/lang/Object;" } : Jvm.MethodName) jdk_31_method_11_code (2 : Nat) (Option.some (Jvm.ClassFile.FieldType.object "java/lang/Object"))).before args0 about1 = true := code_word (m := ⟨10, 1⟩) (meth := k10m1) (c := k10c1) (by decide +kernel) rfl rfl rfl (by decide +kernel)
set_option maxRecDepth 65536 in
theorem w_c11 : (Jvm.Cond.code ({ cls := "java/lang/String", name := "isEmpty", desc := "()Z" } : Jvm.MethodName) jdk_42_method_55_code (1 : Nat) (Option.some Jvm.ClassFile.FieldType.boolean)).before args0 about1 = true := code_word (m := ⟨7, 3⟩) (meth := k7m3) (c := k7c3) (by decide +kernel) rfl rfl rfl (by decide +kernel)
set_option maxRecDepth 65536 in
theorem w_c12 : (Jvm.Cond.code ({ cls := "com/example/orderly_latch/orderlylatch/name/LatchName", name := "utf8Length", desc := "(Ljava/lang/String;)I" } : Jvm.MethodName) prog_8_method_7_code (4 : Nat) (Option.some Jvm.ClassFile.FieldType.int)).before args0 about1 = true := code_word (m := ⟨9, 3⟩) (meth := k9m3) (c := k9c3) (by decide +kernel) rfl rfl rfl (by decide +kernel)
set_option maxRecDepth 65536 in
theorem w_c13 : (Jvm.Cond.code ({ cls := "java/lang/String", name := "length", desc := "()I" } : Jvm.MethodName) jdk_42_method_54_code (1 : Nat) (Option.some Jvm.ClassFile.FieldType.int)).before args0 about1 = true := code_word (m := ⟨7, 2⟩) (meth := k7m2) (c := k7c2) (by decide +kernel) rfl rfl rfl (by decide +kernel)
set_option maxRecDepth 65536 in
theorem w_c14 : (Jvm.Cond.code ({ cls := "java/lang/String", name := "coder", desc := "()B" } : Jvm.MethodName) jdk_42_method_152_code (1 : Nat) (Option.some Jvm.ClassFile.FieldType.byte)).before args0 about1 = true := code_word (m := ⟨7, 7⟩) (meth := k7m7) (c := k7c7) (by decide +kernel) rfl rfl rfl (by decide +kernel)
set_option maxRecDepth 65536 in
theorem w_c15 : (Jvm.Cond.code ({ cls := "java/lang/String", name := "charAt", desc := "(I)C" } : Jvm.MethodName) jdk_42_method_56_code (2 : Nat) (Option.some Jvm.ClassFile.FieldType.char)).before args0 about1 = true := code_word (m := ⟨7, 4⟩) (meth := k7m4) (c := k7c4) (by decide +kernel) rfl rfl rfl (by decide +kernel)
set_option maxRecDepth 65536 in
theorem w_c16 : (Jvm.Cond.code ({ cls := "java/lang/String", name := "isLatin1", desc := "()Z" } : Jvm.MethodName) jdk_42_method_154_code (1 : Nat) (Option.some Jvm.ClassFile.FieldType.boolean)).before args0 about1 = true := code_word (m := ⟨7, 8⟩) (meth := k7m8) (c := k7c8) (by decide +kernel) rfl rfl rfl (by decide +kernel)
set_option maxRecDepth 65536 in
theorem w_c17 : (Jvm.Cond.code ({ cls := "java/lang/StringLatin1", name := "charAt", desc := "([BI)C" } : Jvm.MethodName) jdk_43_method_2_code (2 : Nat) (Option.some Jvm.ClassFile.FieldType.char)).before args0 about1 = true := code_word (m := ⟨11, 1⟩) (meth := k11m1) (c := k11c1) (by decide +kernel) rfl rfl rfl (by decide +kernel)
set_option maxRecDepth 65536 in
theorem w_c18 : (Jvm.Cond.code ({ cls := "java/lang/String", name := "checkIndex", desc := "(II)V" } : Jvm.MethodName) jdk_42_method_155_code (2 : Nat) (Option.none : Option Jvm.ClassFile.FieldType)).before args0 about1 = true := code_word (m := ⟨7, 9⟩) (meth := k7m9) (c := k7c9) (by decide +kernel) rfl rfl rfl (by decide +kernel)
set_option maxRecDepth 65536 in
theorem w_c19 : (Jvm.Cond.code ({ cls := "jdk/internal/util/Preconditions", name := "checkIndex", desc := "(IILjava/util/function/BiFunction;)I" } : Jvm.MethodName) jdk_41_method_11_code (3 : Nat) (Option.some Jvm.ClassFile.FieldType.int)).before args0 about1 = true := code_word (m := ⟨12, 1⟩) (meth := k12m1) (c := k12c1) (by decide +kernel) rfl rfl rfl (by decide +kernel)
set_option maxRecDepth 65536 in
theorem w_c20 : (Jvm.Cond.code ({ cls := "com/example/orderly_latch/orderlylatch/name/LatchName", name := "<init>", desc := "(Ljava/lang/String;)V" } : Jvm.MethodName) prog_8_method_1_code (2 : Nat) (Option.none : Option Jvm.ClassFile.FieldType)).before args0 about1 = true := code_word (m := ⟨9, 0⟩) (meth := k9m0) (c := k9c0) (by decide +kernel) rfl rfl rfl (by decide +kernel)
set_option maxRecDepth 65536 in
theorem w_c21 : (Jvm.Cond.code ({ cls := "com/example/orderly_latch/orderlylatch/name/LatchName", name := "value", desc := "()Ljava/lang/String;" } : Jvm.MethodName) prog_8_method_3_code (1 : Nat) (Option.some (Jvm.ClassFile.FieldType.object "java/lang/String"))).before args0 about1 = true := code_word (m := ⟨9, 2⟩) (meth := k9m2) (c := k9c2) (by decide +kernel) rfl rfl rfl (by decide +kernel)
set_option maxRecDepth 65536 in
theorem w_c22 : (Jvm.Cond.code ({ cls := "java/lang/String", name := "equals", desc := "(Ljava/lang/Object;)Z" } : Jvm.MethodName) jdk_42_method_66_code (3 : Nat) (Option.some Jvm.ClassFile.FieldType.boolean)).before args0 about1 = true := code_word (m := ⟨7, 5⟩) (meth := k7m5) (c := k7c5) (by decide +kernel) rfl rfl rfl (by decide +kernel)
set_option maxRecDepth 65536 in
theorem w_c23 : (Jvm.Cond.code ({ cls := "com/example/orderly_latch/orderlylatch/name/LatchNameOfPinLaw", name := "isHigh", desc := "(I)Z" } : Jvm.MethodName) method_3_code (1 : Nat) (Option.some Jvm.ClassFile.FieldType.boolean)).before args0 about1 = true := code_word (m := ⟨1, 2⟩) (meth := k1m2) (c := k1c2) (by decide +kernel) rfl rfl rfl (by decide +kernel)
set_option maxRecDepth 65536 in
theorem w_c24 : (Jvm.Cond.code ({ cls := "com/example/orderly_latch/orderlylatch/name/LatchNameOfPinLaw", name := "isLow", desc := "(I)Z" } : Jvm.MethodName) method_4_code (1 : Nat) (Option.some Jvm.ClassFile.FieldType.boolean)).before args0 about1 = true := code_word (m := ⟨1, 3⟩) (meth := k1m3) (c := k1c3) (by decide +kernel) rfl rfl rfl (by decide +kernel)
set_option maxRecDepth 65536 in
theorem w_c25 : (Jvm.Cond.code ({ cls := "java/lang/StringUTF16", name := "toBytes", desc := "([CII)[B" } : Jvm.MethodName) jdk_52_method_14_code (5 : Nat) (Option.some (Jvm.ClassFile.FieldType.array Jvm.ClassFile.FieldType.byte))).before args0 about1 = true := code_word (m := ⟨8, 6⟩) (meth := k8m6) (c := k8c6) (by decide +kernel) rfl rfl rfl (by decide +kernel)
set_option maxRecDepth 65536 in
theorem w_c26 : (Jvm.Cond.code ({ cls := "java/lang/StringUTF16", name := "newBytesFor", desc := "(I)[B" } : Jvm.MethodName) jdk_52_method_2_code (1 : Nat) (Option.some (Jvm.ClassFile.FieldType.array Jvm.ClassFile.FieldType.byte))).before args0 about1 = true := code_word (m := ⟨8, 1⟩) (meth := k8m1) (c := k8c1) (by decide +kernel) rfl rfl rfl (by decide +kernel)
set_option maxRecDepth 65536 in
theorem w_c27 : (Jvm.Cond.code ({ cls := "java/lang/StringUTF16", name := "newBytesLength", desc := "(I)I" } : Jvm.MethodName) jdk_52_method_3_code (1 : Nat) (Option.some Jvm.ClassFile.FieldType.int)).before args0 about1 = true := code_word (m := ⟨8, 2⟩) (meth := k8m2) (c := k8c2) (by decide +kernel) rfl rfl rfl (by decide +kernel)
set_option maxRecDepth 65536 in
theorem w_c28 : (Jvm.Cond.code ({ cls := "java/lang/StringUTF16", name := "putChar", desc := "([BII)V" } : Jvm.MethodName) jdk_52_method_4_code (3 : Nat) (Option.none : Option Jvm.ClassFile.FieldType)).before args0 about1 = true := code_word (m := ⟨8, 3⟩) (meth := k8m3) (c := k8c3) (by decide +kernel) rfl rfl rfl (by decide +kernel)
set_option maxRecDepth 65536 in
theorem w_c29 : (Jvm.Cond.code ({ cls := "java/lang/StringUTF16", name := "getChar", desc := "([BI)C" } : Jvm.MethodName) jdk_52_method_5_code (2 : Nat) (Option.some Jvm.ClassFile.FieldType.char)).before args0 about1 = true := code_word (m := ⟨8, 4⟩) (meth := k8m4) (c := k8c4) (by decide +kernel) rfl rfl rfl (by decide +kernel)
set_option maxRecDepth 65536 in
theorem w_c30 : (Jvm.Cond.code ({ cls := "java/lang/StringUTF16", name := "charAt", desc := "([BI)C" } : Jvm.MethodName) jdk_52_method_83_code (2 : Nat) (Option.some Jvm.ClassFile.FieldType.char)).before args0 about1 = true := code_word (m := ⟨8, 10⟩) (meth := k8m10) (c := k8c10) (by decide +kernel) rfl rfl rfl (by decide +kernel)
set_option maxRecDepth 65536 in
theorem w_c31 : (Jvm.Cond.code ({ cls := "java/lang/StringUTF16", name := "checkIndex", desc := "(I[B)V" } : Jvm.MethodName) jdk_52_method_91_code (2 : Nat) (Option.none : Option Jvm.ClassFile.FieldType)).before args0 about1 = true := code_word (m := ⟨8, 11⟩) (meth := k8m11) (c := k8c11) (by decide +kernel) rfl rfl rfl (by decide +kernel)
set_option maxRecDepth 65536 in
theorem w_c32 : (Jvm.Cond.code ({ cls := "java/lang/StringUTF16", name := "length", desc := "([B)I" } : Jvm.MethodName) jdk_52_method_6_code (1 : Nat) (Option.some Jvm.ClassFile.FieldType.int)).before args0 about1 = true := code_word (m := ⟨8, 5⟩) (meth := k8m5) (c := k8c5) (by decide +kernel) rfl rfl rfl (by decide +kernel)
set_option maxRecDepth 65536 in
theorem w_c33 : (Jvm.Cond.code ({ cls := "java/lang/Character", name := "isHighSurrogate", desc := "(C)Z" } : Jvm.MethodName) jdk_89_method_14_code (1 : Nat) (Option.some Jvm.ClassFile.FieldType.boolean)).before args0 about1 = true := code_word (m := ⟨13, 0⟩) (meth := k13m0) (c := k13c0) (by decide +kernel) rfl rfl rfl (by decide +kernel)
set_option maxRecDepth 65536 in
theorem w_c34 : (Jvm.Cond.code ({ cls := "java/lang/Character", name := "isSurrogate", desc := "(C)Z" } : Jvm.MethodName) jdk_89_method_16_code (1 : Nat) (Option.some Jvm.ClassFile.FieldType.boolean)).before args0 about1 = true := code_word (m := ⟨13, 2⟩) (meth := k13m2) (c := k13c2) (by decide +kernel) rfl rfl rfl (by decide +kernel)
set_option maxRecDepth 65536 in
theorem w_c35 : (Jvm.Cond.code ({ cls := "java/lang/Character", name := "isLowSurrogate", desc := "(C)Z" } : Jvm.MethodName) jdk_89_method_15_code (1 : Nat) (Option.some Jvm.ClassFile.FieldType.boolean)).before args0 about1 = true := code_word (m := ⟨13, 1⟩) (meth := k13m1) (c := k13c1) (by decide +kernel) rfl rfl rfl (by decide +kernel)
def codes1 : List Jvm.Cond := [Jvm.Cond.code x code maxLocals ret, Jvm.Cond.code ({ cls := "com/example/orderly_latch/orderlylatch/name/LatchNameOfPinLaw", name := "draw", desc := "(I)I" } : Jvm.MethodName) method_2_code (3 : Nat) (Option.some Jvm.ClassFile.FieldType.int), Jvm.Cond.code ({ cls := "com/example/orderly_latch/orderlylatch/name/LatchNameOfPinLaw", name := "share", desc := "(III)I" } : Jvm.MethodName) method_5_code (3 : Nat) (Option.some Jvm.ClassFile.FieldType.int), Jvm.Cond.code ({ cls := "java/lang/String", name := "<init>", desc := "([C)V" } : Jvm.MethodName) jdk_42_method_3_code (2 : Nat) (Option.none : Option Jvm.ClassFile.FieldType), Jvm.Cond.code ({ cls := "java/lang/String", name := "<init>", desc := "([CIILjava/lang/Void;)V" } : Jvm.MethodName) jdk_42_method_149_code (6 : Nat) (Option.none : Option Jvm.ClassFile.FieldType), Jvm.Cond.code ({ cls := "java/lang/Object", name := "<init>", desc := "()V" } : Jvm.MethodName) object_method_1_code (1 : Nat) (Option.none : Option Jvm.ClassFile.FieldType), Jvm.Cond.code ({ cls := "java/lang/StringUTF16", name := "compress", desc := "([CII)[B" } : Jvm.MethodName) jdk_52_method_16_code (6 : Nat) (Option.some (Jvm.ClassFile.FieldType.array Jvm.ClassFile.FieldType.byte)), Jvm.Cond.code ({ cls := "java/lang/StringUTF16", name := "compress", desc := "([CI[BII)I" } : Jvm.MethodName) jdk_52_method_21_code (7 : Nat) (Option.some Jvm.ClassFile.FieldType.int), Jvm.Cond.code ({ cls := "java/lang/StringUTF16", name := "coderFromArrayLen", desc := "([BI)B" } : Jvm.MethodName) jdk_52_method_15_code (2 : Nat) (Option.some Jvm.ClassFile.FieldType.byte), Jvm.Cond.code ({ cls := "com/example/orderly_latch/orderlylatch/name/LatchName", name := "of", desc := "(Ljava/lang/String;)Lcom/example/orderly_latch/orderlylatch/name/LatchName;" } : Jvm.MethodName) prog_8_method_2_code (2 : Nat) (Option.some (Jvm.ClassFile.FieldType.object "com/example/orderly_latch/orderlylatch/name/LatchName")), Jvm.Cond.code ({ cls := "java/util/Objects", name := "requireNonNull", desc := "(Ljava/lang/Object;Ljava/lang/String;)Ljava/lang/Object;" } : Jvm.MethodName) jdk_31_method_11_code (2 : Nat) (Option.some (Jvm.ClassFile.FieldType.object "java/lang/Object")), Jvm.Cond.code ({ cls := "java/lang/String", name := "isEmpty", desc := "()Z" } : Jvm.MethodName) jdk_42_method_55_code (1 : Nat) (Option.some Jvm.ClassFile.FieldType.boolean), Jvm.Cond.code ({ cls := "com/example/orderly_latch/orderlylatch/name/LatchName", name := "utf8Length", desc := "(Ljava/lang/String;)I" } : Jvm.MethodName) prog_8_method_7_code (4 : Nat) (Option.some Jvm.ClassFile.FieldType.int), Jvm.Cond.code ({ cls := "java/lang/String", name := "length", desc := "()I" } : Jvm.MethodName) jdk_42_method_54_code (1 : Nat) (Option.some Jvm.ClassFile.FieldType.int), Jvm.Cond.code ({ cls := "java/lang/String", name := "coder", desc := "()B" } : Jvm.MethodName) jdk_42_method_152_code (1 : Nat) (Option.some Jvm.ClassFile.FieldType.byte), Jvm.Cond.code ({ cls := "java/lang/String", name := "charAt", desc := "(I)C" } : Jvm.MethodName) jdk_42_method_56_code (2 : Nat) (Option.some Jvm.ClassFile.FieldType.char), Jvm.Cond.code ({ cls := "java/lang/String", name := "isLatin1", desc := "()Z" } : Jvm.MethodName) jdk_42_method_154_code (1 : Nat) (Option.some Jvm.ClassFile.FieldType.boolean), Jvm.Cond.code ({ cls := "java/lang/StringLatin1", name := "charAt", desc := "([BI)C" } : Jvm.MethodName) jdk_43_method_2_code (2 : Nat) (Option.some Jvm.ClassFile.FieldType.char), Jvm.Cond.code ({ cls := "java/lang/String", name := "checkIndex", desc := "(II)V" } : Jvm.MethodName) jdk_42_method_155_code (2 : Nat) (Option.none : Option Jvm.ClassFile.FieldType), Jvm.Cond.code ({ cls := "jdk/internal/util/Preconditions", name := "checkIndex", desc := "(IILjava/util/function/BiFunction;)I" } : Jvm.MethodName) jdk_41_method_11_code (3 : Nat) (Option.some Jvm.ClassFile.FieldType.int), Jvm.Cond.code ({ cls := "com/example/orderly_latch/orderlylatch/name/LatchName", name := "<init>", desc := "(Ljava/lang/String;)V" } : Jvm.MethodName) prog_8_method_1_code (2 : Nat) (Option.none : Option Jvm.ClassFile.FieldType), Jvm.Cond.code ({ cls := "com/example/orderly_latch/orderlylatch/name/LatchName", name := "value", desc := "()Ljava/lang/String;" } : Jvm.MethodName) prog_8_method_3_code (1 : Nat) (Option.some (Jvm.ClassFile.FieldType.object "java/lang/String")), Jvm.Cond.code ({ cls := "java/lang/String", name := "equals", desc := "(Ljava/lang/Object;)Z" } : Jvm.MethodName) jdk_42_method_66_code (3 : Nat) (Option.some Jvm.ClassFile.FieldType.boolean), Jvm.Cond.code ({ cls := "com/example/orderly_latch/orderlylatch/name/LatchNameOfPinLaw", name := "isHigh", desc := "(I)Z" } : Jvm.MethodName) method_3_code (1 : Nat) (Option.some Jvm.ClassFile.FieldType.boolean), Jvm.Cond.code ({ cls := "com/example/orderly_latch/orderlylatch/name/LatchNameOfPinLaw", name := "isLow", desc := "(I)Z" } : Jvm.MethodName) method_4_code (1 : Nat) (Option.some Jvm.ClassFile.FieldType.boolean), Jvm.Cond.code ({ cls := "java/lang/StringUTF16", name := "toBytes", desc := "([CII)[B" } : Jvm.MethodName) jdk_52_method_14_code (5 : Nat) (Option.some (Jvm.ClassFile.FieldType.array Jvm.ClassFile.FieldType.byte)), Jvm.Cond.code ({ cls := "java/lang/StringUTF16", name := "newBytesFor", desc := "(I)[B" } : Jvm.MethodName) jdk_52_method_2_code (1 : Nat) (Option.some (Jvm.ClassFile.FieldType.array Jvm.ClassFile.FieldType.byte)), Jvm.Cond.code ({ cls := "java/lang/StringUTF16", name := "newBytesLength", desc := "(I)I" } : Jvm.MethodName) jdk_52_method_3_code (1 : Nat) (Option.some Jvm.ClassFile.FieldType.int), Jvm.Cond.code ({ cls := "java/lang/StringUTF16", name := "putChar", desc := "([BII)V" } : Jvm.MethodName) jdk_52_method_4_code (3 : Nat) (Option.none : Option Jvm.ClassFile.FieldType), Jvm.Cond.code ({ cls := "java/lang/StringUTF16", name := "getChar", desc := "([BI)C" } : Jvm.MethodName) jdk_52_method_5_code (2 : Nat) (Option.some Jvm.ClassFile.FieldType.char), Jvm.Cond.code ({ cls := "java/lang/StringUTF16", name := "charAt", desc := "([BI)C" } : Jvm.MethodName) jdk_52_method_83_code (2 : Nat) (Option.some Jvm.ClassFile.FieldType.char), Jvm.Cond.code ({ cls := "java/lang/StringUTF16", name := "checkIndex", desc := "(I[B)V" } : Jvm.MethodName) jdk_52_method_91_code (2 : Nat) (Option.none : Option Jvm.ClassFile.FieldType), Jvm.Cond.code ({ cls := "java/lang/StringUTF16", name := "length", desc := "([B)I" } : Jvm.MethodName) jdk_52_method_6_code (1 : Nat) (Option.some Jvm.ClassFile.FieldType.int), Jvm.Cond.code ({ cls := "java/lang/Character", name := "isHighSurrogate", desc := "(C)Z" } : Jvm.MethodName) jdk_89_method_14_code (1 : Nat) (Option.some Jvm.ClassFile.FieldType.boolean), Jvm.Cond.code ({ cls := "java/lang/Character", name := "isSurrogate", desc := "(C)Z" } : Jvm.MethodName) jdk_89_method_16_code (1 : Nat) (Option.some Jvm.ClassFile.FieldType.boolean), Jvm.Cond.code ({ cls := "java/lang/Character", name := "isLowSurrogate", desc := "(C)Z" } : Jvm.MethodName) jdk_89_method_15_code (1 : Nat) (Option.some Jvm.ClassFile.FieldType.boolean)]
set_option maxRecDepth 65536 in
theorem codes_eq : words1.filter isCode = codes1 := rfl
theorem w_codes : ∀ c ∈ words1.filter isCode, c.before args0 about1 = true := by
  rw [codes_eq]
  intro c hc
  simp only [codes1, List.mem_cons, List.not_mem_nil, or_false] at hc
  rcases hc with rfl | rfl | rfl | rfl | rfl | rfl | rfl | rfl | rfl | rfl | rfl | rfl | rfl | rfl | rfl | rfl | rfl | rfl | rfl | rfl | rfl | rfl | rfl | rfl | rfl | rfl | rfl | rfl | rfl | rfl | rfl | rfl | rfl | rfl | rfl | rfl
  · exact w_c0
  · exact w_c1
  · exact w_c2
  · exact w_c3
  · exact w_c4
  · exact w_c5
  · exact w_c6
  · exact w_c7
  · exact w_c8
  · exact w_c9
  · exact w_c10
  · exact w_c11
  · exact w_c12
  · exact w_c13
  · exact w_c14
  · exact w_c15
  · exact w_c16
  · exact w_c17
  · exact w_c18
  · exact w_c19
  · exact w_c20
  · exact w_c21
  · exact w_c22
  · exact w_c23
  · exact w_c24
  · exact w_c25
  · exact w_c26
  · exact w_c27
  · exact w_c28
  · exact w_c29
  · exact w_c30
  · exact w_c31
  · exact w_c32
  · exact w_c33
  · exact w_c34
  · exact w_c35
set_option maxRecDepth 65536 in
theorem w_t1 : (words1.take 24).all (fun c => isCode c || c.before args0 about1) = true := by decide +kernel
set_option maxRecDepth 65536 in
theorem w_t2 : ((words1.drop 24).take 24).all (fun c => isCode c || c.before args0 about1) = true := by decide +kernel
set_option maxRecDepth 65536 in
theorem w_t3 : (((words1.drop 24).drop 24).take 24).all (fun c => isCode c || c.before args0 about1) = true := by decide +kernel
set_option maxRecDepth 65536 in
theorem w_t4 : ((((words1.drop 24).drop 24).drop 24).take 24).all (fun c => isCode c || c.before args0 about1) = true := by decide +kernel
set_option maxRecDepth 65536 in
theorem w_t5 : (((((words1.drop 24).drop 24).drop 24).drop 24).take 24).all (fun c => isCode c || c.before args0 about1) = true := by decide +kernel
set_option maxRecDepth 65536 in
theorem w_t6 : ((((((words1.drop 24).drop 24).drop 24).drop 24).drop 24).take 24).all (fun c => isCode c || c.before args0 about1) = true := by decide +kernel
set_option maxRecDepth 65536 in
theorem w_t7 : ((((((words1.drop 24).drop 24).drop 24).drop 24).drop 24).drop 24).all (fun c => isCode c || c.before args0 about1) = true := by decide +kernel
theorem w_tables : (allAtoms (Jvm.Cond.code x code maxLocals ret :: tables_1)).before args0 about1 = true := by
  rw [allAtoms_all]
  show words1.all (fun c => c.before args0 about1) = true
  refine all_split ?_ w_codes
  rw [← List.take_append_drop 24 words1, List.all_append, w_t1, ← List.take_append_drop 24 (words1.drop 24), List.all_append, w_t2, ← List.take_append_drop 24 ((words1.drop 24).drop 24), List.all_append, w_t3, ← List.take_append_drop 24 (((words1.drop 24).drop 24).drop 24), List.all_append, w_t4, ← List.take_append_drop 24 ((((words1.drop 24).drop 24).drop 24).drop 24), List.all_append, w_t5, ← List.take_append_drop 24 (((((words1.drop 24).drop 24).drop 24).drop 24).drop 24), List.all_append, w_t6, w_t7]
  rfl
set_option maxRecDepth 65536 in
theorem w_rest : rest_1_c.before args0 about1 = true := by decide +kernel
set_option maxRecDepth 65536 in
theorem w_case : (Jvm.Cond.and given_1 narrow_1).before args0 about1 = true := by decide +kernel
theorem w_applies : (headSpec (Jvm.Cond.code x code maxLocals ret :: tables_1) room_1).applies x e0.platform about1 = true :=
  (Spec.applies_iff w_frames).mpr ⟨w_running, w_runnable, w_alone, w_named, w_hears, w_ripe, w_room, w_tables⟩
theorem atStart : AtStart classFile x code maxLocals ret World_1 tables_1 room_1 Calls_1 rest_1 Pre_1 launch0 p0 e0 about1 theMethod args0 below0 :=
  ⟨lists_1, trivial, launch0.admits_env _ _ _, launch0.least_env, fairChoices_fair.cas, fairChoices_fair.clock, w_frames, w_args, w_heap, w_applies, trivial, w_rest, w_case⟩
end start1
theorem witness_1 : WitnessClaimed_1 := ⟨start1.p0, start1.e0, start1.about1, start1.theMethod, start1.args0, start1.below0, start1.atStart⟩
end Jvm.Pilot.@@N@@
