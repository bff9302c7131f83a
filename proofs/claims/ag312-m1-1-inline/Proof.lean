import JvmDerived
import JvmDerived.Pilot.@@N@@Statement
import JvmDerived.Pilot.@@N@@Code
set_option linter.unusedVariables false
set_option linter.unusedSimpArgs false
namespace Jvm.RoadKit
open Sem ClassFile Op Lib Jvm.Stand Jvm.Free Jvm.LawKit
section New
variable {p : Program} {l : Launch} {e : Env} {R : Room} {s : State} {m : MethodId} {args : Array Value} {below : List Frame} {meth : Method} {c : Code} {T : State} {locs : List Loc} {cells slots : Nat}
theorem retI (X : Stand p l e R s m args below meth c T locs cells slots) (hx : p.tables.exec = Jvm.exec) {pc : Nat} {Ls : Array Slot} {z : Int32} {rest : List Value} (hret : meth.sig.returnType = some .int) (hd : decode c.code pc = .ok (.ireturn, 1)) {fs : List Frame}
    (hl : ∀ (f : JFrame) (acts : List Action), f.method = m → f.locked = none → f.entered = [] → (doReturn e (T.setTop f) acts (some (.int z))).1 = T.setFrames fs) : Steps p.tables e below (T.setTop (mkF m pc Ls (.int z :: rest))) (T.setFrames fs) := by
  have hm' : T.vm.method? m = some meth := X.method'
  have hn : narrow .int (.int z) = .int z := rfl
  show Steps p.tables e below (T.setTop { method := m, pc := pc, locals := Ls, stack := _ :: rest, locked := none }) _
  jvm_step X.here [X.here.top, hx, hd, hm', hret, hn]
  first | (intro acts; rw [hl _ acts rfl rfl rfl]) | rw [hl _ _ rfl rfl rfl]
  exact Steps.refl _
theorem gwLrem {tb : Tables} [Ours tb] {e : Env} {below : List Frame} {T target : State} {m : MethodId} {c : Code} {g : JFrame} (h : At T m c below) (hx : tb.exec = Jvm.exec) (hg : g.method = m) {x y : Int64} {rest : List Value} (hd : decode c.code g.pc = .ok (.lrem, 1)) (hs : g.stack = .long y :: .long x :: rest) (hy : y ≠ 0)
    (hr : Steps tb e below (T.setTop { g with pc := g.pc + 1, stack := .long (x % y) :: rest }) target) : Steps tb e below (T.setTop g) target :=
  XS.lrem h hx hg hd hs hy (by rw [lrem_mod]; exact hr)
theorem gwIrem {tb : Tables} [Ours tb] {e : Env} {below : List Frame} {T target : State} {m : MethodId} {c : Code} {g : JFrame} (h : At T m c below) (hx : tb.exec = Jvm.exec) (hg : g.method = m) {x y : Int32} {rest : List Value} (hd : decode c.code g.pc = .ok (.irem, 1)) (hs : g.stack = .int y :: .int x :: rest) (hy : y ≠ 0)
    (hr : Steps tb e below (T.setTop { g with pc := g.pc + 1, stack := .int (x % y) :: rest }) target) : Steps tb e below (T.setTop g) target :=
  XS.irem h hx hg hd hs hy (by rw [Jvm.irem_eq_mod]; exact hr)
end New
end Jvm.RoadKit
@@BLOCK:NumsL.lean.txt@@
namespace Jvm.Pilot.@@N@@
open Jvm Jvm.ClassFile Sem Op Lib Jvm.Free Jvm.Stand Jvm.LawKit Jvm.RoadKit Bundle Jvm.Pilot.@@N@@.Jvm.D
theorem hwi {Z : State} {a0 : Array Value} (hw : ∀ d ∈ tables_1, d.before a0 Z = true) (i : Nat) {d : Jvm.Cond} (h : tables_1[i]? = some d) : d.before a0 Z = true := hw d (List.mem_of_getElem? h)
section StrKit
variable {p : Program} {l : Launch} {e : Env} {R : Room} {s : State} {m : MethodId} {args : Array Value} {below : List Frame} {meth : Method} {c : Code} {T : State} {locs : List Loc} {cells slots : Nat} {Z : State} {a0 : Array Value} {h h' : Heap} {a b : Addr} {ty : FieldType} {n i sl : Nat} {f f' : Nat → Value} {v : Value} {ws : List Addr}
/-- an array of n components, the i-th holds f i -/
def AF (Z : State) (h : Heap) (a : Addr) (ty : FieldType) (n : Nat) (f : Nat → Value) : Prop := ∃ cl : Cell, Arr Z h a cl ty ∧ cl.slots.size = n ∧ ∀ i, i < n → cl.slots[i]? = some (f i)
theorem AF.lt (F : AF Z h a ty n f) : a < h.size := by obtain ⟨cl, A, -⟩ := F; exact A.lt
theorem AF.ext (F : AF Z h a ty n f) (E : Ext h h') : AF Z h' a ty n f := by obtain ⟨cl, A, r⟩ := F; exact ⟨cl, A.ext E, r⟩
theorem AF.other (F : AF Z h a ty n f) (W : Wr h h' b sl v) (q : a ≠ b) : AF Z h' a ty n f := by obtain ⟨cl, A, r⟩ := F; exact ⟨cl, A.other W q, r⟩
theorem AF.keep (F : AF Z h a ty n f) (K : Keep h h' ws) (q : a ∉ ws) : AF Z h' a ty n f := by obtain ⟨cl, A, r⟩ := F; exact ⟨cl, ⟨K.2.1 a cl A.1 q, A.2⟩, r⟩
theorem AF.congr (F : AF Z h a ty n f) (q : ∀ i, i < n → f i = f' i) : AF Z h a ty n f' := by obtain ⟨cl, A, r, g⟩ := F; exact ⟨cl, A, r, fun i hi => by rw [g i hi, q i hi]⟩
/-- f, but v at i -/
def upd (f : Nat → Value) (i : Nat) (v : Value) : Nat → Value := fun j => if j = i then v else f j
theorem AF.wr (F : AF Z h a ty n f) (W : Wr h h' a i v) : AF Z h' a ty n (upd f i v) := by
  obtain ⟨cl, A, r, g⟩ := F
  refine ⟨_, A.same W, by simp [Cell.setSlot, r], fun j hj => ?_⟩
  by_cases q : j = i
  · subst q; simp [Cell.setSlot, upd, r, hj]
  · show _ = some (if j = i then v else f j)
    rw [if_neg q, ← g j hj]
    simp [Cell.setSlot, Array.getElem?_setIfInBounds, Ne.symm q]
theorem AF.new {k : ClassId} {z : Int32} (A : Arr Z h a (newA k ty z) ty) (q : z.toNatClampNeg = n) : AF Z h a ty n (fun _ => defaultValue ty) := ⟨_, A, by rw [sz_new]; exact q, fun i hi => by simp [newA, q, hi]⟩
theorem clampN (h : n < 2147483648) : (Int32.ofNat n).toNatClampNeg = n := by
  show (Int32.ofNat n).toInt.toNat = n
  rw [Int32.toInt_ofNat_small h]; rfl
theorem nnN (h : n < 2147483648) : ¬ Int32.ofNat n < 0 := by rw [Int32.lt_iff_toInt_lt, Int32.toInt_ofNat_small h, Int32.toInt_zero]; omega
theorem inN {cl : Cell} (hs : cl.slots.size = n) (hi : i < n) (hn : n < 2147483648) : ¬ (Int32.ofNat i < 0 ∨ cl.slots.size ≤ (Int32.ofNat i).toNatClampNeg) := by
  rw [clampN (by omega), hs]
  exact fun q => q.elim (nnN (by omega)) (fun q => absurd q (by omega))
theorem ldCh (X : Stand p l e R s m args below meth c T locs cells slots) (hx : p.tables.exec = Jvm.exec) (hZ : Z.Warmed39 s.vm) (eT : T.heap = h) (F : AF Z h a .char n f) (hi : i < n) (hn : n < 2147483648) (hv : f i = v) {g : JFrame} (hg : g.method = m) {rest : List Value} (hs : g.stack = .int (Int32.ofNat i) :: .ref a :: rest) (hd : decode c.code g.pc = .ok (.caload, 1)) {target : State}
    (hr : Steps p.tables e below (T.setTop { g with pc := g.pc + 1, stack := v :: rest }) target) : Steps p.tables e below (T.setTop g) target := by
  subst hv
  obtain ⟨cl, A, r, q⟩ := F
  exact X.caload hx (by rw [eT]; exact A.1) (State.isArrayOf_alike hZ.alike A.2.1) A.2.2 (inN r hi hn) (by rw [clampN (by omega)]; exact q i hi) hg hs hd _ hr
theorem ldBy (X : Stand p l e R s m args below meth c T locs cells slots) (hx : p.tables.exec = Jvm.exec) (hZ : Z.Warmed39 s.vm) (eT : T.heap = h) (F : AF Z h a .byte n f) (hi : i < n) (hn : n < 2147483648) (hv : f i = v) {g : JFrame} (hg : g.method = m) {rest : List Value} (hs : g.stack = .int (Int32.ofNat i) :: .ref a :: rest) (hd : decode c.code g.pc = .ok (.baload, 1)) {target : State}
    (hr : Steps p.tables e below (T.setTop { g with pc := g.pc + 1, stack := v :: rest }) target) : Steps p.tables e below (T.setTop g) target := by
  subst hv
  obtain ⟨cl, A, r, q⟩ := F
  exact X.baloadBytes hx (by rw [eT]; exact A.1) (State.isArrayOf_alike hZ.alike A.2.1) A.2.2 (inN r hi hn) (by rw [clampN (by omega)]; exact q i hi) hg hs hd _ hr
theorem lenA (X : Stand p l e R s m args below meth c T locs cells slots) (hx : p.tables.exec = Jvm.exec) (hZ : Z.Warmed39 s.vm) (eT : T.heap = h) (F : AF Z h a ty n f) {g : JFrame} (hg : g.method = m) {rest : List Value} (hs : g.stack = .ref a :: rest) (hd : decode c.code g.pc = .ok (.arraylength, 1)) {target : State}
    (hr : Steps p.tables e below (T.setTop { g with pc := g.pc + 1, stack := .int (Int32.ofNat n) :: rest }) target) : Steps p.tables e below (T.setTop g) target := by
  obtain ⟨cl, A, r, q⟩ := F
  refine X.arraylength hx (by rw [eT]; exact A.1) (State.isArrayOf_alike hZ.alike A.2.1) hg hs hd _ ?_
  rw [r]
  exact hr
theorem stBy (X : Stand p l e R s m args below meth c T locs cells slots) (hx : p.tables.exec = Jvm.exec) (hZ : Z.Warmed39 s.vm) (eT : T.heap = h) (F : AF Z h a .byte n f) (hi : i < n) (hn : n < 2147483648) {x : Int32} {g : JFrame} (hg : g.method = m) {rest : List Value} (hs : g.stack = .int x :: .int (Int32.ofNat i) :: .ref a :: rest) (hd : decode c.code g.pc = .ok (.bastore, 1)) :
    ∃ T' h', Stand p l e R s m args below meth c T' (locs ++ [⟨a, i⟩]) cells slots ∧ T'.heap = h' ∧ Wr h h' a i (.int (nar .byte x)) ∧ ∀ target, Steps p.tables e below (T'.setTop { g with pc := g.pc + 1, stack := rest }) target → Steps p.tables e below (T.setTop g) target := by
  obtain ⟨cl, A, r, q⟩ := F
  obtain ⟨T', h', X', e', W', st⟩ := stB X hx hZ eT A (inN r hi hn) hg hs hd
  rw [clampN (by omega)] at X' W'
  exact ⟨T', h', X', e', W', st⟩
theorem stCh (X : Stand p l e R s m args below meth c T locs cells slots) (hx : p.tables.exec = Jvm.exec) (hZ : Z.Warmed39 s.vm) (eT : T.heap = h) (F : AF Z h a .char n f) (hi : i < n) (hn : n < 2147483648) {x : Int32} {g : JFrame} (hg : g.method = m) {rest : List Value} (hs : g.stack = .int x :: .int (Int32.ofNat i) :: .ref a :: rest) (hd : decode c.code g.pc = .ok (.castore, 1)) :
    ∃ T' h', Stand p l e R s m args below meth c T' (locs ++ [⟨a, i⟩]) cells slots ∧ T'.heap = h' ∧ Wr h h' a i (.int (nar .char x)) ∧ ∀ target, Steps p.tables e below (T'.setTop { g with pc := g.pc + 1, stack := rest }) target → Steps p.tables e below (T.setTop g) target := by
  obtain ⟨cl, A, r, q⟩ := F
  obtain ⟨T', h', X', e', W', st⟩ := stC X hx hZ eT A (inN r hi hn) hg hs hd
  rw [clampN (by omega)] at X' W'
  exact ⟨T', h', X', e', W', st⟩
theorem nwA (X : Stand p l e R s m args below meth c T locs cells slots) (hx : p.tables.exec = Jvm.exec) (hZ : Z.Warmed39 s.vm) {aty : ArrayType} (w : (Cond.arrayClass (newarray.typeOf aty)).before a0 Z = true) (eT : T.heap = h) {g : JFrame} (hg : g.method = m) (hd : decode c.code g.pc = .ok (.newarray aty, 2)) {rest : List Value} (hs : g.stack = .int (Int32.ofNat n) :: rest)
    {cap : Nat} (hcap : n ≤ cap) (hb : cap * 8 ≤ 536870912) (hc : cells + 1 ≤ R.cells) (hl : slots + cap ≤ R.slots) :
    ∃ T' h', Stand p l e R s m args below meth c T' locs (cells + 1) (slots + cap) ∧ T'.heap = h' ∧ Ext h h' ∧ AF Z h' h.size (newarray.typeOf aty) n (fun _ => defaultValue (newarray.typeOf aty)) ∧
      ∀ target, Steps p.tables e below (T'.setTop { g with pc := g.pc + 2, stack := .ref h.size :: rest }) target → Steps p.tables e below (T.setTop g) target := by
  obtain ⟨T', h', cA, X', e', E', A', st⟩ := newP X hx hZ w eT hg hd hs (nnN (by omega)) (cap := cap) (by rw [clampN (by omega)]; exact hcap) hb hc hl
  exact ⟨T', h', X', e', E', AF.new A' (clampN (by omega)), st⟩
theorem shl1N (h : i < 1073741824) : (Int32.ofNat i) <<< ((1 : Int32) &&& 31) = Int32.ofNat (2 * i) := by
  refine Int32.toInt_inj.mp ?_
  rw [Jvm.Kit.i32_shl _ _ (k := 1) (by decide) (by rw [Int32.toInt_ofNat_small (by omega)]; omega) (by rw [Int32.toInt_ofNat_small (by omega)]; omega), Int32.toInt_ofNat_small (by omega), Int32.toInt_ofNat_small (by omega)]
  omega
theorem shr1N (h : i < 1073741824) : (Int32.ofNat (2 * i)) >>> ((1 : Int32) &&& 31) = Int32.ofNat i := by
  refine Int32.toInt_inj.mp ?_
  rw [Jvm.Kit.i32_shr _ _ (k := 1) (by decide), Int32.toInt_ofNat_small (by omega), Int32.toInt_ofNat_small (by omega)]
  omega
theorem succN (i : Nat) : Int32.ofNat i + (1 : Int32) = Int32.ofNat (i + 1) := Int32.ofNat_succ i
theorem ltN (h1 : i < 2147483648) (h2 : n < 2147483648) : Int32.ofNat i < Int32.ofNat n ↔ i < n := by rw [Int32.lt_iff_toInt_lt, Int32.toInt_ofNat_small h1, Int32.toInt_ofNat_small h2]; omega
end StrKit
/-- a Java char as an int -/
def isCh (x : Int32) : Prop := 0 ≤ x.toInt ∧ x.toInt < 65536
def isB (x : Int32) : Prop := 0 ≤ x.toInt ∧ x.toInt < 256
def b8 (x : Int32) : Int32 := nar .byte (x.toInt8.toInt32)
def lo8 (x : Int32) : Int32 := b8 (x >>> ((0 : Int32) &&& 31))
def hi8 (x : Int32) : Int32 := b8 (x >>> ((8 : Int32) &&& 31))
def l16 (x : Int32) : Int32 := (x &&& (255 : Int32)).toUInt32.toUInt16.toUInt32.toInt32
def u16 (x y : Int32) : Int32 := (((x &&& (255 : Int32)) <<< ((0 : Int32) &&& 31)) ||| ((y &&& (255 : Int32)) <<< ((8 : Int32) &&& 31))).toUInt32.toUInt16.toUInt32.toInt32
theorem b8_mod (x : Int32) : ((b8 x).toInt - x.toInt) % 256 = 0 := by
  have h1 := (c_i2b x).1
  have h2 := (c_i2b (x.toInt8.toInt32)).1
  show ((x.toInt8.toInt32).toInt8.toInt32.toInt - x.toInt) % 256 = 0
  omega
theorem m255 (x : Int32) : (x &&& (255 : Int32)).toInt = x.toInt % 256 := by rw [c_mask x 255 8 (by decide) (by decide)]; rfl
theorem nar_ch (x : Int32) : isCh (nar .char x) := (c_i2c x).2
theorem i2c_eq {x : Int32} (h : isCh x) : x.toUInt32.toUInt16.toUInt32.toInt32 = x := by
  have q := c_i2c x
  refine Int32.toInt_inj.mp ?_
  have := h.1; have := h.2
  omega
theorem nar_id {x : Int32} (h : isCh x) : nar .char x = x := i2c_eq h
theorem l16_eq {x : Int32} (h : isB x) : l16 (b8 x) = x := by
  have q := b8_mod x
  have r := m255 (b8 x)
  have := h.1; have := h.2
  have e : (b8 x &&& (255 : Int32)) = x := Int32.toInt_inj.mp (by omega)
  unfold l16
  rw [e]
  exact i2c_eq ⟨by omega, by omega⟩
theorem l16_ch (x : Int32) : isCh (l16 x) := (c_i2c _).2
theorem u16_ch (x y : Int32) : isCh (u16 x y) := (c_i2c _).2
theorem u16_eq {x : Int32} (h : isCh x) : u16 (lo8 x) (hi8 x) = x := by
  have := h.1; have := h.2
  have q0 := b8_mod (x >>> ((0 : Int32) &&& 31))
  have q8 := b8_mod (x >>> ((8 : Int32) &&& 31))
  rw [c_ishr x 0 0 (by decide)] at q0
  rw [c_ishr x 8 8 (by decide)] at q8
  have r0 := m255 (lo8 x)
  have r8 := m255 (hi8 x)
  have s0 := c_ishl (lo8 x &&& (255 : Int32)) 0 0 (by decide)
  have s8 := c_ishl (hi8 x &&& (255 : Int32)) 8 8 (by decide)
  have b1 := (lo8 x &&& (255 : Int32)) <<< ((0 : Int32) &&& 31) |>.toInt_lt
  have b2 := (lo8 x &&& (255 : Int32)) <<< ((0 : Int32) &&& 31) |>.le_toInt
  have b3 := (hi8 x &&& (255 : Int32)) <<< ((8 : Int32) &&& 31) |>.toInt_lt
  have b4 := (hi8 x &&& (255 : Int32)) <<< ((8 : Int32) &&& 31) |>.le_toInt
  have t := c_or' ((lo8 x &&& (255 : Int32)) <<< ((0 : Int32) &&& 31)) ((hi8 x &&& (255 : Int32)) <<< ((8 : Int32) &&& 31)) 8 (by decide) 256 (by decide)
  have b5 := (((lo8 x &&& (255 : Int32)) <<< ((0 : Int32) &&& 31)) ||| ((hi8 x &&& (255 : Int32)) <<< ((8 : Int32) &&& 31))).toInt_lt
  have b6 := (((lo8 x &&& (255 : Int32)) <<< ((0 : Int32) &&& 31)) ||| ((hi8 x &&& (255 : Int32)) <<< ((8 : Int32) &&& 31))).le_toInt
  change ((lo8 x).toInt - _) % 256 = 0 at q0
  change ((hi8 x).toInt - _) % 256 = 0 at q8
  have e : (((lo8 x &&& (255 : Int32)) <<< ((0 : Int32) &&& 31)) ||| ((hi8 x &&& (255 : Int32)) <<< ((8 : Int32) &&& 31))) = x := by
    refine Int32.toInt_inj.mp ?_
    generalize (lo8 x &&& (255 : Int32)) <<< ((0 : Int32) &&& 31) = A at *
    generalize (hi8 x &&& (255 : Int32)) <<< ((8 : Int32) &&& 31) = B at *
    simp only [Nat.pow_zero, Int.natCast_one, Int.mul_one, Int.ediv_one] at *
    have e8 : ((2 ^ 8 : Nat) : Int) = 256 := by decide
    rw [e8] at *
    have tt := t (by omega) (by omega) (by omega)
    omega
  unfold u16
  rw [e]
  exact i2c_eq h
theorem codA (n : Nat) : (((Int32.ofNat n) - (Int32.ofNat n)).toUInt32 >>> ((31 : Int32) &&& 31).toUInt32).toInt32.toInt8.toInt32 = (0 : Int32) := by
  rw [show Int32.ofNat n - Int32.ofNat n = 0 from Int32.sub_self _]
  decide
theorem codB {n : Nat} (hp : 0 < n) (h : 2 * n < 2147483648) : (((Int32.ofNat n) - (Int32.ofNat (2 * n))).toUInt32 >>> ((31 : Int32) &&& 31).toUInt32).toInt32.toInt8.toInt32 = (1 : Int32) := by
  have e : ((((Int32.ofNat n) - (Int32.ofNat (2 * n))).toUInt32 >>> ((31 : Int32) &&& 31).toUInt32).toInt32) = (1 : Int32) := by
    refine Int32.toInt_inj.mp ?_
    rw [c_iushr _ 31 31 (by decide) (by decide)]
    have q := c_isub (Int32.ofNat n) (Int32.ofNat (2 * n))
    rw [Int32.toInt_ofNat_small (by omega), Int32.toInt_ofNat_small (by omega)] at q
    have h1 := ((Int32.ofNat n) - (Int32.ofNat (2 * n))).toInt_lt
    have h2 := ((Int32.ofNat n) - (Int32.ofNat (2 * n))).le_toInt
    have e31 : ((2 ^ 31 : Nat) : Int) = 2147483648 := by decide
    rw [e31, show (1 : Int32).toInt = 1 from rfl]
    omega
  rw [e]
  decide
theorem smB {x : Int32} (h : isCh x) (q : ¬ ((255 : Int32) < x)) : isB x := by
  rw [Int32.lt_iff_toInt_lt, show (255 : Int32).toInt = 255 from rfl] at q
  exact ⟨h.1, by omega⟩
theorem isCh_of {x : Int32} (h : isB x) : isCh x := ⟨h.1, by have := h.2; omega⟩
theorem firstBig (g : Nat → Int32) : ∀ n : Nat, (∀ j, j < n → ¬ ((255 : Int32) < g j)) ∨ ∃ k, k < n ∧ (255 : Int32) < g k ∧ ∀ j, j < k → ¬ ((255 : Int32) < g j)
  | 0 => Or.inl fun j hj => absurd hj (Nat.not_lt_zero _)
  | n + 1 => by
    rcases firstBig g n with h | ⟨k, h1, h2, h3⟩
    · by_cases q : (255 : Int32) < g n
      · exact Or.inr ⟨n, Nat.lt_succ_self _, q, h⟩
      · exact Or.inl fun j hj => by
          by_cases r : j = n
          · rw [r]; exact q
          · exact h j (by omega)
    · exact Or.inr ⟨k, by omega, h2, h3⟩
theorem shr0 (x : Int32) : x >>> ((0 : Int32) &&& 31) = x := by
  refine Int32.toInt_inj.mp ?_
  rw [c_ishr x 0 0 (by decide)]
  exact Int.ediv_one _
/-- the statics that the String bodies read, as they stood when the law began -/
def StrSta (Z : State) : Prop := (∃ k : Int32, ¬ (k = (0 : Int32)) ∧ Sta Z Z.heap "java/lang/String" "COMPACT_STRINGS" "Z" (.int k)) ∧
  (Sta Z Z.heap "jdk/internal/util/Preconditions" "SIOOBE_FORMATTER" "Ljava/util/function/BiFunction;" .null ∨ ∃ a : Addr, Sta Z Z.heap "jdk/internal/util/Preconditions" "SIOOBE_FORMATTER" "Ljava/util/function/BiFunction;" (.ref a))
def Ca (g : Nat → Int32) : Nat → Value := fun j => .int (g j)
def Lb (g : Nat → Int32) : Nat → Value := fun j => .int (b8 (g j))
def Ub (g : Nat → Int32) : Nat → Value := fun j => .int (if j % 2 = 0 then lo8 (g (j / 2)) else hi8 (g (j / 2)))
theorem Ub_lo (g : Nat → Int32) (i : Nat) : Ub g (2 * i) = .int (lo8 (g i)) := by unfold Ub; rw [if_pos (by omega), show 2 * i / 2 = i by omega]
theorem Ub_hi (g : Nat → Int32) (i : Nat) : Ub g (2 * i + 1) = .int (hi8 (g i)) := by unfold Ub; rw [if_neg (by omega), show (2 * i + 1) / 2 = i by omega]
def QI (r : Int32) (h0 : Heap) (n0 : Nat) (v : Option Value) (h : Heap) (L : List Loc) : Prop := v = some (.int r) ∧ Fr n0 L ∧ h = h0
def QN (h0 : Heap) (n0 : Nat) (v : Option Value) (h : Heap) (L : List Loc) : Prop := v = none ∧ Fr n0 L ∧ h = h0
def QA (Z : State) (ty : FieldType) (n : Nat) (f : Nat → Value) (h0 : Heap) (n0 : Nat) (v : Option Value) (h : Heap) (L : List Loc) : Prop := ∃ b : Addr, v = some (.ref b) ∧ Fr n0 L ∧ Keep h0 h [] ∧ h0.size ≤ b ∧ AF Z h b ty n f
def QK (Z : State) (b : Addr) (ty : FieldType) (n : Nat) (f : Nat → Value) (h0 : Heap) (n0 : Nat) (v : Option Value) (h : Heap) (L : List Loc) : Prop := v = none ∧ Fr n0 L ∧ Keep h0 h [b] ∧ AF Z h b ty n f
def QR (Z : State) (r : Int32) (b : Addr) (ty : FieldType) (n : Nat) (P : (Nat → Value) → Prop) (h0 : Heap) (n0 : Nat) (v : Option Value) (h : Heap) (L : List Loc) : Prop := v = some (.int r) ∧ Fr n0 L ∧ Keep h0 h [b] ∧ ∃ f, AF Z h b ty n f ∧ P f
theorem notin0 {a b : Addr} (q : a ≠ b) : a ∉ [b] := fun r => q (List.mem_singleton.mp r)
/-- a compact String of n bytes, the j-th is w j -/
def StrV (Z : State) (h : Heap) (a : Addr) (n : Nat) (w : Nat → Value) : Prop := Exa Z h a "java/lang/String" ∧ ∃ b : Addr, Fld Z h a "java/lang/String" "value" "[B" (.ref b) ∧ Fld Z h a "java/lang/String" "coder" "B" (.int (0 : Int32)) ∧ AF Z h b .byte n w
theorem StrV.lt {Z : State} {h : Heap} {a : Addr} {n : Nat} {w : Nat → Value} (S : StrV Z h a n w) : a < h.size := S.1.lt
theorem StrV.ext {Z : State} {h h' : Heap} {a : Addr} {n : Nat} {w : Nat → Value} (S : StrV Z h a n w) (E : Ext h h') : StrV Z h' a n w := by
  obtain ⟨X, b, V, C, A⟩ := S
  exact ⟨X.ext E, b, V.ext E, C.ext E, A.ext E⟩
theorem StrV.keep {Z : State} {h h' : Heap} {a : Addr} {n : Nat} {w : Nat → Value} (S : StrV Z h a n w) (K : Keep h h' []) : StrV Z h' a n w := by
  obtain ⟨X, b, V, C, A⟩ := S
  exact ⟨X.keep K, b, V.keep K (List.not_mem_nil), C.keep K (List.not_mem_nil), A.keep K (List.not_mem_nil)⟩
/-- .. where the writes went to cells that were not there yet -/
theorem StrV.keepN {Z : State} {h h' : Heap} {a o : Addr} {n : Nat} {w : Nat → Value} (S : StrV Z h a n w) (K : Keep h h' [o]) (hao : a ≠ o) (hbo : ∀ b : Addr, ¬ AF Z h o .byte n w) : StrV Z h' a n w := by
  obtain ⟨X, b, V, C, A⟩ := S
  have q : b ≠ o := fun e => hbo b (e ▸ A)
  exact ⟨X.keep K, b, V.keep K (notin0 hao), C.keep K (notin0 hao), A.keep K (notin0 q)⟩
theorem StrV.congr {Z : State} {h : Heap} {a : Addr} {n : Nat} {w w' : Nat → Value} (S : StrV Z h a n w) (q : ∀ j, j < n → w j = w' j) : StrV Z h a n w' := by
  obtain ⟨X, b, V, C, A⟩ := S
  exact ⟨X, b, V, C, A.congr q⟩
def Str (Z : State) (h : Heap) (a : Addr) (n : Nat) (g : Nat → Int32) : Prop := StrV Z h a n (Lb g)
def QS (Z : State) (o : Addr) (n : Nat) (g : Nat → Int32) (h0 : Heap) (n0 : Nat) (v : Option Value) (h : Heap) (L : List Loc) : Prop := v = none ∧ Fr n0 L ∧ Keep h0 h [o] ∧ Str Z h o n g
theorem notin1 {a b : Addr} (q : a ≠ b) : a ∉ [b] := fun r => q (List.mem_singleton.mp r)
theorem all1 {n0 : Nat} {b : Addr} (q : n0 ≤ b) : ∀ x ∈ [b], n0 ≤ x := fun x r => by cases List.mem_singleton.mp r; exact q
theorem all0' {n0 : Nat} : ∀ x ∈ ([] : List Addr), n0 ≤ x := fun x r => absurd r List.not_mem_nil
def QRf (r : Addr) (h0 : Heap) (n0 : Nat) (v : Option Value) (h : Heap) (L : List Loc) : Prop := v = some (.ref r) ∧ Fr n0 L ∧ h = h0
/-- a String comes back -/
def QV (Z : State) (n : Nat) (w : Nat → Value) (h0 : Heap) (n0 : Nat) (v : Option Value) (h : Heap) (L : List Loc) : Prop := ∃ o : Addr, v = some (.ref o) ∧ Fr n0 L ∧ Keep h0 h [] ∧ StrV Z h o n w
def QSV (Z : State) (o : Addr) (n : Nat) (w : Nat → Value) (h0 : Heap) (n0 : Nat) (v : Option Value) (h : Heap) (L : List Loc) : Prop := v = none ∧ Fr n0 L ∧ Keep h0 h [o] ∧ StrV Z h o n w
theorem subN {n m : Nat} (h : m ≤ n) (hn : n < 2147483648) : Int32.ofNat n - Int32.ofNat m = Int32.ofNat (n - m) := by
  refine Int32.toInt_inj.mp ?_
  have q := c_isub (Int32.ofNat n) (Int32.ofNat m)
  rw [Int32.toInt_ofNat_small (by omega), Int32.toInt_ofNat_small (by omega)] at q
  have h1 := (Int32.ofNat n - Int32.ofNat m).toInt_lt
  have h2 := (Int32.ofNat n - Int32.ofNat m).le_toInt
  rw [Int32.toInt_ofNat_small (by omega)]
  omega
theorem neN {n m : Nat} (h : n ≠ m) (hn : n < 2147483648) (hm : m < 2147483648) : ¬ (Int32.ofNat n = Int32.ofNat m) := fun q => by
  have q := congrArg Int32.toInt q
  rw [Int32.toInt_ofNat_small hn, Int32.toInt_ofNat_small hm] at q
  omega
/-- a String that is being made (its value is null yet) is no booked one -/
theorem safeNull {Z : State} {EL : List (String × Nat)} {vm : Vm} {h : Heap} {x : Addr} (hal : Z.vm.Alike vm) (E : Exa Z h x "java/lang/String") (G : Fld Z h x "java/lang/String" "value" "[B" .null) : Safe Z EL vm h x := fun B => by
  obtain ⟨cell, k, e1, e2, e3, -, -⟩ := E
  obtain ⟨p, -, u, a, -, q, -, F, rfl | rfl⟩ := B
  · cases (show h[q.sa]? = some q.sC from F.ha).symm.trans e1
    obtain ⟨cS, ⟨⟨s1, s2, s3, ⟨cv, kv, iv, s4, s4'⟩, s5, s6, s7, s8, sr⟩, f, e⟩, -⟩ := F
    obtain ⟨kv', z4⟩ := ff_back (U := Wst Z vm h) hal s4
    obtain ⟨c1, cf, k1, i1, f1, g1, g2, -, -, -, -, g7⟩ := G
    cases g1.symm.trans e1
    have e5 := z4.symm.trans g2
    simp only [Option.some.injEq, Prod.mk.injEq] at e5
    rw [e5.2.2.2] at s8
    cases s8.symm.trans g7
  · cases (show h[q.sd]? = some q.SA from F.hd).symm.trans e1
    obtain ⟨cS, -, -, f, -⟩ := F
    have f : vm.findClass "[B" = some q.SA.cls := f
    rw [hal.findClass] at f
    obtain ⟨k1, q1, q2⟩ := Vm.findClass_spec f
    obtain ⟨k2, q3, q4⟩ := Vm.findClass_spec e2
    cases q1.symm.trans q3
    exact absurd (q2.symm.trans q4) (by decide)
theorem AF.empty {Z : State} {h : Heap} {a : Addr} {k : ClassId} {ty : FieldType} {z : Int32} {dv : Value} (A : Arv Z h a k ty z [] dv) (hz : z.toNatClampNeg = 0) (f : Nat → Value) : AF Z h a ty 0 f := by
  obtain ⟨cl, Ar, -, S, -⟩ := A
  exact ⟨cl, Ar, by rw [S, hz], fun i hi => absurd hi (Nat.not_lt_zero _)⟩
section CopyKit
variable {p : Program} {l : Launch} {e : Env} {R : Room} {s : State} {m : MethodId} {args : Array Value} {below : List Frame} {meth : Method} {c : Code} {T : State} {locs : List Loc} {cells slots : Nat} {Z : State} {a0 : Array Value} {h h' : Heap} {a b : Addr} {ty : FieldType} {n i : Nat} {f f' : Nat → Value} {v : Value}
theorem getD_range (f : Nat → Value) (n j : Nat) (dv : Value) (hj : j < n) : ((List.range n).map f).getD j dv = f j := by
  simp [List.getD, hj]
theorem AF.arv (F : AF Z h a ty n f) (hn : n < 2147483648) (dv : Value) (hf : ∀ j, j < n → fits ty (f j) = true) : ∃ k, Arv Z h a k ty (Int32.ofNat n) ((List.range n).map f) dv := by
  obtain ⟨cl, A, r, g⟩ := F
  refine ⟨cl.cls, cl, A, rfl, by rw [r, clampN hn], nnN hn, fun j hj => ?_, fun j hj => ?_⟩
  · rw [r] at hj; rw [g j hj, getD_range f n j dv hj]
  · rw [r] at hj; rw [getD_range f n j dv hj]; exact hf j hj
theorem afOf {k : ClassId} {z : Int32} {vs : List Value} {dv : Value} (F : Arv Z h a k ty z vs dv) (hz : z.toNatClampNeg = n) : AF Z h a ty n (fun j => vs.getD j dv) := by
  obtain ⟨cl, A, -, S, -, H, -⟩ := F
  exact ⟨cl, A, by rw [S, hz], fun j hj => H j (by rw [S, hz]; exact hj)⟩
/-- System.arraycopy of k components, from the start of a to the start of b -/
theorem cpF (X : Stand p l e R s m args below meth c T locs cells slots) (hx : p.tables.exec = Jvm.exec) (hZ : Z.Warmed39 s.vm) {own : String} {index : Nat} (hown : s.vm.findClass own = some m.cls)
    (w1 : (Cond.methodLink own index Jvm.Stand.acN).before a0 Z = true) (w2 : (Cond.native Jvm.Stand.acN).before a0 Z = true) (w3 : (Cond.static Jvm.Stand.acN).before a0 Z = true) (w4 : (Cond.initialized "java/lang/System").before a0 Z = true) (eT : T.heap = h)
    {k na nb : Nat} (A : AF Z h a ty na f) (B : AF Z h b ty nb f') (hty : refKind ty = false) (ha : na < 2147483648) (hb : nb < 2147483648) (h4 : k ≤ na) (h5 : k ≤ nb) (hf : ∀ j, j < na → fits ty (f j) = true) (hf' : ∀ j, j < nb → fits ty (f' j) = true) {n0 : Nat} (N : Fr n0 locs) (ge : n0 ≤ b)
    {g : JFrame} (hg : g.method = m) (hsize : g.locals.size = c.maxLocals) {rest : List Value} (hs : g.stack = .int (Int32.ofNat k) :: .int (0 : Int32) :: .ref b :: .int (0 : Int32) :: .ref a :: rest) (hd : decode c.code g.pc = .ok (.invokestatic index, 3))
    (hfr : 1 ≤ R.frames) {W : Nat} (hW : 2 * g.monitorRoom + (rest.map fun v => v.category).sum ≤ W) (hlo : W + (nativeFrameWords "java/lang/System" "arraycopy" 5 + 11) ≤ R.locals) :
    ∃ T' h' L, Stand p l e R s m args below meth c T' L cells slots ∧ T'.heap = h' ∧ Fr n0 L ∧ Keep h h' [b] ∧ AF Z h' b ty nb (fun j => if j < k then f j else f' j) ∧
      ∀ target, Steps p.tables e below (T'.setTop { g with pc := g.pc + 3, stack := rest }) target → Steps p.tables e below (T.setTop g) target := by
  obtain ⟨ka, VA⟩ := A.arv ha .null hf
  obtain ⟨kb, VB⟩ := B.arv hb .null hf'
  have ck : (Int32.ofNat k).toNatClampNeg = k := clampN (by omega)
  have c0 : (0 : Int32).toNatClampNeg = 0 := rfl
  obtain ⟨T', h', L, X', e', N', K', V', st⟩ := cpA X hx hZ hown w1 w2 w3 w4 eT VA VB (Or.inl ⟨rfl, hty⟩) (sp := 0) (dp := 0) (nn := Int32.ofNat k) (by decide) (by decide) (nnN (by omega)) (by rw [c0, ck, clampN ha]; omega) (by rw [c0, ck, clampN hb]; omega) rfl (by rw [c0, ck, List.length_map, List.length_range]; omega) N ge hg hsize hs hd hfr hW hlo
  refine ⟨T', h', L, X', e', N', K', (afOf V' (clampN hb)).congr fun j hj => ?_, st⟩
  rw [c0, ck]
  simp only [List.take_zero, List.nil_append, Nat.zero_add]
  by_cases q : j < k
  · rw [if_pos q]
    simp only [List.getD]
    rw [List.getElem?_append_left (by simp [q])]
    simp [q, show j < na by omega]
  · rw [if_neg q]
    simp only [List.getD]
    rw [List.getElem?_append_right (by simp; omega)]
    simp [show k + (j - k) = j by omega, hj]
end CopyKit
section SBKit
variable {p : Program} {l : Launch} {e : Env} {R : Room} {s : State} {m : MethodId} {args : Array Value} {below : List Frame} {meth : Method} {c : Code} {T : State} {locs : List Loc} {cells slots : Nat} {Z : State} {a0 : Array Value} {h h' : Heap} {a b : Addr} {ty : FieldType} {n i : Nat} {f f' : Nat → Value} {v : Value}
theorem declOf {args : Array Value} {s : State} {y : MethodName} {bytes : ByteArray} {k : Nat} {r : Option FieldType} (wi : (Cond.instanceMethod y).before args s = true) (wc : (Cond.code y bytes k r).before args s = true) : (Cond.declares y).before args s = true := by
  obtain ⟨mk, methM, hnamed, hmethM, hstM, habM⟩ := Cond.instanceMethod_spec wi
  obtain ⟨m2, cM, q1, -, -, -, -, -, -, hsig⟩ := Cond.code_spec hnamed wc
  cases hmethM.symm.trans q1
  simp [Cond.before, Cond.holds, Cond.value, hnamed, hmethM, hstM, hsig]
theorem sameSelf {args : Array Value} {s : State} {y y' : MethodName} (hd : (Cond.declares y).before args s = true) (hd' : (Cond.declares y').before args s = true) (nf : NotFace s y') (hc : y'.cls = y.cls) (hy : y.cls ≠ "java/lang/invoke/MethodHandle" ∧ y.cls ≠ "java/lang/invoke/VarHandle") : (Cond.sameMethod y.cls y.cls y.name y.desc).before args s = true := by
  obtain ⟨r0, r, hn, -⟩ := Cond.declares_spec hd
  obtain ⟨r1, r', hn', -⟩ := Cond.declares_spec hd'
  obtain ⟨kr, hkr, hni⟩ := nf r1 hn'
  have c0 := findClass_of_methodNamed hn
  have c1 := findClass_of_methodNamed hn'
  rw [hc] at c1
  have e := Option.some.inj (c0.symm.trans c1)
  have hf := State.methodFound?_of_named hn hy
  have hn2 : s.methodNamed? ⟨y.cls, y.name, y.desc⟩ = some r0 := hn
  simp [Cond.before, Cond.holds, Cond.value, c0, hf, hn2, e, hkr, hni]
theorem nfOther {args : Array Value} {s : State} {y y' : MethodName} (hd' : (Cond.declares y').before args s = true) (nf : NotFace s y') (hc : y'.cls = y.cls) : NotFace s y := fun r0 h0 => by
  obtain ⟨r1, r', hn', -⟩ := Cond.declares_spec hd'
  obtain ⟨kr, hkr, hni⟩ := nf r1 hn'
  have c0 := findClass_of_methodNamed h0
  have c1 := findClass_of_methodNamed hn'
  rw [hc] at c1
  have e := Option.some.inj (c0.symm.trans c1)
  exact ⟨kr, by rw [e]; exact hkr, hni⟩
theorem nwB (X : Stand p l e R s m args below meth c T locs cells slots) (hx : p.tables.exec = Jvm.exec) (hZ : Z.Warmed39 s.vm) (w : (Cond.arrayClass .byte).before a0 Z = true) (eT : T.heap = h) {g : JFrame} (hg : g.method = m) (hd : decode c.code g.pc = .ok (.newarray .byte, 2)) {rest : List Value} (hs : g.stack = .int (Int32.ofNat n) :: rest)
    {cap : Nat} (hcap : n ≤ cap) (hb : cap * 8 ≤ 536870912) (hc : cells + 1 ≤ R.cells) (hl : slots + cap ≤ R.slots) :
    ∃ T' h', Stand p l e R s m args below meth c T' locs (cells + 1) (slots + cap) ∧ T'.heap = h' ∧ Ext h h' ∧ AF Z h' h.size .byte n (fun _ => .int (0 : Int32)) ∧ Exa Z h' h.size "[B" ∧
      ∀ target, Steps p.tables e below (T'.setTop { g with pc := g.pc + 2, stack := .ref h.size :: rest }) target → Steps p.tables e below (T.setTop g) target := by
  have cn : (Int32.ofNat n).toNatClampNeg = n := clampN (by omega)
  obtain ⟨cA, kA, comp, h1, h2, h3, X', st⟩ := X.newarrayPrim (atype := .byte) hx (mvA hZ w) hg hd hs (nnN (by omega)) (by rw [cn]; show n * 1 ≤ _; omega) hc (by rw [cn]; omega)
  rw [cn] at X' st
  subst eT
  rw [hZ.alike.findClass] at h1
  obtain ⟨kZ, z1, -⟩ := Vm.findClass_spec h1
  obtain ⟨k', z2, z3⟩ := hZ.alike.2.2 _ _ z1
  cases h2.symm.trans z2
  have hk : kZ.kind = .array comp .byte := show kZ.kind = .array comp (newarray.typeOf .byte) by rw [← h3, z3]
  have hN : (T.heap.push ({ cls := cA, slots := Array.replicate n (.int (0 : Int32)), vm := .none } : Cell))[T.heap.size]? = some { cls := cA, slots := Array.replicate n (.int (0 : Int32)), vm := .none } := by simp
  exact ⟨_, _, X'.more (Nat.le_refl _) (by omega), rfl, ext_of fun a q => Array.getElem?_push_lt q |>.trans (Array.getElem?_eq_getElem q).symm, ⟨_, ⟨hN, ⟨by simp, kZ, z1, comp, hk⟩, by simp⟩, by simp, fun i hi => by simp [hi]⟩, ⟨_, kZ, hN, h1, z1, rfl, fun q => by rw [hk] at q; cases q⟩, st⟩
theorem fitcB {cl : Cell} (A : Arr Z h a cl .byte) (hf : ∀ (i : Nat) (v : Value), cl.slots[i]? = some v → fits .byte v = true) : FitC Z cl := fun i v hv => by
  obtain ⟨-, ⟨-, k, hk, comp, hkind⟩, -⟩ := A
  have q : Z.slotType? cl.cls .none i = some .byte := by simp [State.slotType?, hk, hkind]
  simp [State.fitsSlot, q, hf i v hv]
theorem clB (X : Stand p l e R s m args below meth c T locs cells slots) (hx : p.tables.exec = Jvm.exec) (hZ : Z.Warmed39 s.vm) {own : String} {index : Nat} (hown : s.vm.findClass own = some m.cls)
    (w1 : (Cond.methodLink own index ⟨"[B", "clone", "()Ljava/lang/Object;"⟩).before a0 Z = true) (w2 : (Cond.sameMethod "[B" "java/lang/Object" "clone" "()Ljava/lang/Object;").before a0 Z = true) (w3 : (Cond.native ⟨"java/lang/Object", "clone", "()Ljava/lang/Object;"⟩).before a0 Z = true)
    (w4 : (Cond.instanceMethod ⟨"java/lang/Object", "clone", "()Ljava/lang/Object;"⟩).before a0 Z = true) (w5 : (Cond.selects "[B" ⟨"[B", "clone", "()Ljava/lang/Object;"⟩ ⟨"java/lang/Object", "clone", "()Ljava/lang/Object;"⟩).before a0 Z = true) (w6 : (Cond.castable "[B" "java/lang/Cloneable").before a0 Z = true)
    (eT : T.heap = h) (A : AF Z h a .byte n f) (E : Exa Z h a "[B") (hf : ∀ j, j < n → fits .byte (f j) = true) {g : JFrame} (hg : g.method = m) (hsize : g.locals.size = c.maxLocals) {rest : List Value} (hs : g.stack = .ref a :: rest) (hd : decode c.code g.pc = .ok (.invokevirtual index, 3))
    (hfr : 1 ≤ R.frames) {W cap : Nat} (hW : 2 * g.monitorRoom + (rest.map fun v => v.category).sum ≤ W) (hl : W + 14 ≤ R.locals) (hcap : n ≤ cap) (hc : cells + 1 ≤ R.cells) (hsl : slots + cap ≤ R.slots) :
    ∃ T' h', Stand p l e R s m args below meth c T' locs (cells + 1) (slots + cap) ∧ T'.heap = h' ∧ Ext h h' ∧ AF Z h' h.size .byte n f ∧ Exa Z h' h.size "[B" ∧
      ∀ target, Steps p.tables e below (T'.setTop { g with pc := g.pc + 3, stack := .ref h.size :: rest }) target → Steps p.tables e below (T.setTop g) target := by
  obtain ⟨cl, Ar, r, q⟩ := A
  obtain ⟨T', h', X', e', E', A', Ex', st⟩ := cloneA X hx hZ hown w1 w2 w3 w4 w5 w6 eT Ar E (fitcB Ar fun i v hv => by
    obtain ⟨hi, -⟩ := Array.getElem?_eq_some_iff.mp hv
    have := q i (by omega)
    rw [hv] at this
    rw [Option.some.inj this]
    exact hf i (by omega)) hg hsize hs hd hfr hW hl (by rw [r]; exact hcap) hc hsl
  exact ⟨T', h', X', e', E', ⟨_, A', r, q⟩, Ex', st⟩
/-- the bytes f up to k, then w's -/
def fC (k : Nat) (f w : Nat → Value) : Nat → Value := fun j => if j < k then f j else w (j - k)
/-- System.arraycopy of k components, from the start of a to place dp of b -/
theorem cpD (X : Stand p l e R s m args below meth c T locs cells slots) (hx : p.tables.exec = Jvm.exec) (hZ : Z.Warmed39 s.vm) {own : String} {index : Nat} (hown : s.vm.findClass own = some m.cls)
    (w1 : (Cond.methodLink own index Jvm.Stand.acN).before a0 Z = true) (w2 : (Cond.native Jvm.Stand.acN).before a0 Z = true) (w3 : (Cond.static Jvm.Stand.acN).before a0 Z = true) (w4 : (Cond.initialized "java/lang/System").before a0 Z = true) (eT : T.heap = h)
    {k dp na nb : Nat} (A : AF Z h a ty na f) (B : AF Z h b ty nb f') (hty : refKind ty = false) (ha : na < 2147483648) (hb : nb < 2147483648) (h4 : k ≤ na) (h5 : dp + k ≤ nb) (hf : ∀ j, j < na → fits ty (f j) = true) (hf' : ∀ j, j < nb → fits ty (f' j) = true) {n0 : Nat} (N : Fr n0 locs) (ge : n0 ≤ b)
    {g : JFrame} (hg : g.method = m) (hsize : g.locals.size = c.maxLocals) {rest : List Value} (hs : g.stack = .int (Int32.ofNat k) :: .int (Int32.ofNat dp) :: .ref b :: .int (0 : Int32) :: .ref a :: rest) (hd : decode c.code g.pc = .ok (.invokestatic index, 3))
    (hfr : 1 ≤ R.frames) {W : Nat} (hW : 2 * g.monitorRoom + (rest.map fun v => v.category).sum ≤ W) (hlo : W + (nativeFrameWords "java/lang/System" "arraycopy" 5 + 11) ≤ R.locals) :
    ∃ T' h' L, Stand p l e R s m args below meth c T' L cells slots ∧ T'.heap = h' ∧ Fr n0 L ∧ Keep h h' [b] ∧ AF Z h' b ty nb (fun j => if dp ≤ j ∧ j < dp + k then f (j - dp) else f' j) ∧
      ∀ target, Steps p.tables e below (T'.setTop { g with pc := g.pc + 3, stack := rest }) target → Steps p.tables e below (T.setTop g) target := by
  obtain ⟨ka, VA⟩ := A.arv ha .null hf
  obtain ⟨kb, VB⟩ := B.arv hb .null hf'
  have ck : (Int32.ofNat k).toNatClampNeg = k := clampN (by omega)
  have cd : (Int32.ofNat dp).toNatClampNeg = dp := clampN (by omega)
  have c0 : (0 : Int32).toNatClampNeg = 0 := rfl
  obtain ⟨T', h', L, X', e', N', K', V', st⟩ := cpA X hx hZ hown w1 w2 w3 w4 eT VA VB (Or.inl ⟨rfl, hty⟩) (sp := 0) (dp := Int32.ofNat dp) (nn := Int32.ofNat k) (by decide) (nnN (by omega)) (nnN (by omega)) (by rw [c0, ck, clampN ha]; omega) (by rw [cd, ck, clampN hb]; omega) rfl (by rw [cd, ck, List.length_map, List.length_range]; omega) N ge hg hsize hs hd hfr hW hlo
  refine ⟨T', h', L, X', e', N', K', (afOf V' (clampN hb)).congr fun j hj => ?_, st⟩
  rw [c0, ck, cd]
  simp only [Nat.zero_add, List.append_assoc]
  by_cases q1 : j < dp
  · rw [if_neg (by omega)]
    simp only [List.getD]
    rw [List.getElem?_append_left (by simp; omega)]
    simp [q1, hj]
  · by_cases q2 : j < dp + k
    · rw [if_pos ⟨by omega, q2⟩]
      simp only [List.getD]
      rw [List.getElem?_append_right (by simp; omega), List.getElem?_append_left (by simp; omega)]
      have m1 : min dp nb = dp := by omega
      simp [m1, show j - dp < k by omega, show j - dp < na by omega]
    · rw [if_neg (by omega)]
      simp only [List.getD]
      rw [List.getElem?_append_right (by simp; omega), List.getElem?_append_right (by simp; omega)]
      have m1 : min dp nb = dp := by omega
      simp only [List.length_take, List.length_map, List.length_range, m1, List.getElem?_drop]
      rw [show dp + k + (j - dp - k) = j by omega]
      simp [hj]
/-- a compact String whose bytes fit -/
def StrF (Z : State) (h : Heap) (a : Addr) (n : Nat) (w : Nat → Value) : Prop := StrV Z h a n w ∧ ∀ j, j < n → fits .byte (w j) = true
theorem StrF.ext {w : Nat → Value} (S : StrF Z h a n w) (E : Ext h h') : StrF Z h' a n w := ⟨S.1.ext E, S.2⟩
theorem StrF.keep {w : Nat → Value} (S : StrF Z h a n w) (K : Keep h h' []) : StrF Z h' a n w := ⟨S.1.keep K, S.2⟩
theorem StrF.wrO {w : Nat → Value} {o : Addr} {K : String} {sl k : Nat} (S : StrF Z h a n w) (E : Exa Z h o K) (hK : "java/lang/String" ≠ K) (wi : (Cond.instantiable K k).before a0 Z = true) (W : Wr h h' o sl v) : StrF Z h' a n w := by
  obtain ⟨⟨X, b, V, C, A⟩, ft⟩ := S
  have q1 : a ≠ o := X.ne E hK
  have q2 : b ≠ o := by obtain ⟨cl, Ar, -⟩ := A; exact (ne_arr E wi Ar).symm
  exact ⟨⟨X.wr W, b, V.other W (Or.inl q1), C.other W (Or.inl q1), A.other W q2⟩, ft⟩
/-- .. with an exact array of bytes -/
def StrX (Z : State) (h : Heap) (a : Addr) (n : Nat) (w : Nat → Value) : Prop := Exa Z h a "java/lang/String" ∧ ∃ b : Addr, Fld Z h a "java/lang/String" "value" "[B" (.ref b) ∧ Fld Z h a "java/lang/String" "coder" "B" (.int (0 : Int32)) ∧ AF Z h b .byte n w ∧ Exa Z h b "[B"
def QAx (Z : State) (n : Nat) (f : Nat → Value) (h0 : Heap) (n0 : Nat) (v : Option Value) (h : Heap) (L : List Loc) : Prop := ∃ b : Addr, v = some (.ref b) ∧ Fr n0 L ∧ Keep h0 h [] ∧ h0.size ≤ b ∧ AF Z h b .byte n f ∧ Exa Z h b "[B"
def QSx (Z : State) (o : Addr) (n : Nat) (g : Nat → Int32) (h0 : Heap) (n0 : Nat) (v : Option Value) (h : Heap) (L : List Loc) : Prop := v = none ∧ Fr n0 L ∧ Keep h0 h [o] ∧ StrX Z h o n (Lb g) ∧ Fld Z h o "java/lang/String" "hash" "I" (.int (0 : Int32)) ∧ Fld Z h o "java/lang/String" "hashIsZero" "Z" (.int (0 : Int32))
/-- a StringBuilder o, its array d of cap bytes, the first cnt of f are its text -/
def SBd (Z : State) (h : Heap) (o d : Addr) (cap cnt : Nat) (f : Nat → Value) : Prop := Exa Z h o "java/lang/StringBuilder" ∧ Fld Z h o "java/lang/AbstractStringBuilder" "value" "[B" (.ref d) ∧ Fld Z h o "java/lang/AbstractStringBuilder" "coder" "B" (.int (0 : Int32)) ∧ Fld Z h o "java/lang/AbstractStringBuilder" "count" "I" (.int (Int32.ofNat cnt)) ∧ Exa Z h d "[B" ∧ ∃ f', AF Z h d .byte cap f' ∧ (∀ j, j < cap → fits .byte (f' j) = true) ∧ ∀ j, j < cnt → f' j = f j
theorem SBd.ext {o d : Addr} {cap cnt : Nat} (S : SBd Z h o d cap cnt f) (E : Ext h h') : SBd Z h' o d cap cnt f := by
  obtain ⟨s1, s2, s3, s4, s5, f1, s7, s8⟩ := S
  exact ⟨s1.ext E, s2.ext E, s3.ext E, s4.ext E, s5.ext E, f1, s7.ext E, s8⟩
theorem fits_fC {k n : Nat} {f w : Nat → Value} {cap : Nat} (h1 : ∀ j, j < k → fits .byte (f j) = true) (h2 : ∀ j, j < n → fits .byte (w j) = true) (hc : cap ≤ k + n) : ∀ j, j < cap → fits .byte (fC k f w j) = true := fun j hj => by
  unfold fC
  by_cases q : j < k
  · rw [if_pos q]; exact h1 j q
  · rw [if_neg q]; exact h2 _ (by omega)
theorem safe2 {EL : List (String × Nat)} {vm : Vm} {o d : Addr} (h1 : Safe Z EL vm h o) (h2 : Safe Z EL vm h d) : ∀ x ∈ [o, d], Safe Z EL vm h x := fun x r => by
  rcases List.mem_cons.mp r with q | q
  · exact q ▸ h1
  · exact (List.mem_singleton.mp q) ▸ h2
theorem safe1 {EL : List (String × Nat)} {vm : Vm} {o : Addr} (h1 : Safe Z EL vm h o) : ∀ x ∈ [o], Safe Z EL vm h x := fun x r => (List.mem_singleton.mp r) ▸ h1
theorem notin2 {o d : Addr} (q1 : a ≠ o) (q2 : a ≠ d) : a ∉ [o, d] := fun r => (List.mem_cons.mp r).elim q1 fun r => q2 (List.mem_singleton.mp r)
theorem all2 {n0 : Nat} {o d : Addr} (q1 : n0 ≤ o) (q2 : n0 ≤ d) : ∀ x ∈ [o, d], n0 ≤ x := fun x r => (List.mem_cons.mp r).elim (fun q => q ▸ q1) fun r => (List.mem_singleton.mp r) ▸ q2
theorem or2 {n0 : Nat} {ws : List Addr} {o d : Addr} (q1 : o ∈ ws ∨ n0 ≤ o) (q2 : d ∈ ws ∨ n0 ≤ d) : ∀ x ∈ [o, d], x ∈ ws ∨ n0 ≤ x := fun x r => (List.mem_cons.mp r).elim (fun q => q ▸ q1) fun r => (List.mem_singleton.mp r) ▸ q2
theorem addN {n m : Nat} : Int32.ofNat n + Int32.ofNat m = Int32.ofNat (n + m) := (Int32.ofNat_add n m).symm
theorem shl0 (x : Int32) : x <<< ((0 : Int32) &&& 31) = x := by
  rw [show ((0 : Int32) &&& 31) = 0 from rfl, Int32.shiftLeft_zero]
def hashF (w : Nat → Int32) : Nat → Int32
  | 0 => 0
  | k + 1 => (31 : Int32) * hashF w k + (w k &&& (255 : Int32))
theorem StrF.keep1 {w : Nat → Value} {o : Addr} {K : String} {k : Nat} (S : StrF Z h a n w) (Kp : Keep h h' [o]) (E : Exa Z h o K) (hK : "java/lang/String" ≠ K) (wi : (Cond.instantiable K k).before a0 Z = true) : StrF Z h' a n w := by
  obtain ⟨⟨X, b, V, C, A⟩, ft⟩ := S
  have q1 : a ≠ o := X.ne E hK
  have q2 : b ≠ o := by obtain ⟨cl, Ar, -⟩ := A; exact (ne_arr E wi Ar).symm
  exact ⟨⟨X.keep Kp, b, V.keep Kp (notin0 q1), C.keep Kp (notin0 q1), A.keep Kp (notin0 q2)⟩, ft⟩
def z0 : Nat → Value := fun _ => .int (0 : Int32)
theorem fits_z0 : ∀ j, fits .byte (z0 j) = true := fun _ => rfl
def QSB (Z : State) (o : Addr) (cap cnt : Nat) (f : Nat → Value) (h0 : Heap) (n0 : Nat) (v : Option Value) (h : Heap) (L : List Loc) : Prop := v = none ∧ Fr n0 L ∧ Keep h0 h [o] ∧ ∃ d : Addr, h0.size ≤ d ∧ SBd Z h o d cap cnt f
def QPf (Z : State) (o d : Addr) (cap cnt : Nat) (f : Nat → Value) (h0 : Heap) (n0 : Nat) (v : Option Value) (h : Heap) (L : List Loc) : Prop := v = some (.ref o) ∧ Fr n0 L ∧ Keep h0 h [o, d] ∧ SBd Z h o d cap cnt f
def QPg (Z : State) (o : Addr) (cap cnt : Nat) (f : Nat → Value) (h0 : Heap) (n0 : Nat) (v : Option Value) (h : Heap) (L : List Loc) : Prop := v = some (.ref o) ∧ Fr n0 L ∧ Keep h0 h [o] ∧ ∃ d : Addr, h0.size ≤ d ∧ SBd Z h o d cap cnt f
def QTS (Z : State) (n : Nat) (w : Nat → Value) (h0 : Heap) (n0 : Nat) (v : Option Value) (h : Heap) (L : List Loc) : Prop := ∃ o : Addr, v = some (.ref o) ∧ Fr n0 L ∧ Keep h0 h [] ∧ StrF Z h o n w
def QSF (Z : State) (o : Addr) (n : Nat) (w : Nat → Value) (h0 : Heap) (n0 : Nat) (v : Option Value) (h : Heap) (L : List Loc) : Prop := v = none ∧ Fr n0 L ∧ Keep h0 h [o] ∧ StrF Z h o n w
/-- putStringAt: the text and w behind it, the count as it was -/
def QPA (Z : State) (o d : Addr) (cap cnt n : Nat) (f w : Nat → Value) (h0 : Heap) (n0 : Nat) (v : Option Value) (h : Heap) (L : List Loc) : Prop := v = none ∧ Fr n0 L ∧ Keep h0 h [d] ∧ Exa Z h o "java/lang/StringBuilder" ∧ Fld Z h o "java/lang/AbstractStringBuilder" "value" "[B" (.ref d) ∧ Fld Z h o "java/lang/AbstractStringBuilder" "coder" "B" (.int (0 : Int32)) ∧ Fld Z h o "java/lang/AbstractStringBuilder" "count" "I" (.int (Int32.ofNat cnt)) ∧ Exa Z h d "[B" ∧ ∃ f', AF Z h d .byte cap f' ∧ (∀ j, j < cap → fits .byte (f' j) = true) ∧ ∀ j, j < cnt + n → f' j = fC cnt f w j
theorem leS {mn cap : Nat} (h : mn ≤ cap) (hc : cap < 1073741824) : ¬ ((0 : Int32) < Int32.ofNat mn - Int32.ofNat cap) := by
  have q := c_isub (Int32.ofNat mn) (Int32.ofNat cap)
  rw [Int32.toInt_ofNat_small (by omega), Int32.toInt_ofNat_small (by omega)] at q
  have h1 := (Int32.ofNat mn - Int32.ofNat cap).toInt_lt
  have h2 := (Int32.ofNat mn - Int32.ofNat cap).le_toInt
  rw [Int32.lt_iff_toInt_lt, Int32.toInt_zero]
  omega
theorem gtS {mn cap : Nat} (h : cap < mn) (hc : mn < 1073741824) : (0 : Int32) < Int32.ofNat mn - Int32.ofNat cap := by
  have q := c_isub (Int32.ofNat mn) (Int32.ofNat cap)
  rw [Int32.toInt_ofNat_small (by omega), Int32.toInt_ofNat_small (by omega)] at q
  have h1 := (Int32.ofNat mn - Int32.ofNat cap).toInt_lt
  have h2 := (Int32.ofNat mn - Int32.ofNat cap).le_toInt
  rw [Int32.lt_iff_toInt_lt, Int32.toInt_zero]
  omega
/-- what the copy leaves is the text with w behind it -/
theorem putC {f f' w F : Nat → Value} {cnt n cap : Nat} (hag : ∀ j, j < cnt → f' j = f j) (hF : ∀ j, j < cap → F j = if cnt ≤ j ∧ j < cnt + n then w (j - cnt) else f' j) (hc : cnt + n ≤ cap) : ∀ j, j < cnt + n → F j = fC cnt f w j := fun j hj => by
  rw [hF j (by omega)]
  unfold fC
  by_cases q : j < cnt
  · rw [if_neg (by omega), if_pos q]; exact hag j q
  · rw [if_pos ⟨by omega, hj⟩, if_neg q]
theorem putFit {f' w F : Nat → Value} {cnt n cap : Nat} (hF : ∀ j, j < cap → F j = if cnt ≤ j ∧ j < cnt + n then w (j - cnt) else f' j) (h1 : ∀ j, j < cap → fits .byte (f' j) = true) (h2 : ∀ j, j < n → fits .byte (w j) = true) : ∀ j, j < cap → fits .byte (F j) = true := fun j hj => by
  rw [hF j hj]
  by_cases q : cnt ≤ j ∧ j < cnt + n
  · rw [if_pos q]; exact h2 _ (by omega)
  · rw [if_neg q]; exact h1 j hj
theorem ifFit {f f' : Nat → Value} {k cap : Nat} (h1 : ∀ j, j < k → fits .byte (f j) = true) (h2 : ∀ j, fits .byte (f' j) = true) : ∀ j, j < cap → fits .byte ((fun j => if j < k then f j else f' j) j) = true := fun j _ => by
  show fits .byte (if j < k then f j else f' j) = true
  by_cases q : j < k
  · rw [if_pos q]; exact h1 j q
  · rw [if_neg q]; exact h2 j
theorem fitsL {l : List Value} (h : (l.all fun x => fits .byte x) = true) (n : Nat) : ∀ j, j < n → fits .byte (l.getD j (.int (0 : Int32))) = true := fun j _ => by
  rw [List.getD]
  cases q : l[j]? with
  | none => rfl
  | some x => exact List.all_eq_true.mp h x (List.mem_of_getElem? q)
def QH (Z : State) (o : Addr) (n : Nat) (w : Nat → Value) (r : Int32) (h0 : Heap) (n0 : Nat) (v : Option Value) (h : Heap) (L : List Loc) : Prop := v = some (.int r) ∧ Fr n0 L ∧ Keep h0 h [o] ∧ StrV Z h o n w
def SDN : String := "com/example/rigorous_lock/rigorouslock/io/SqlDialect"
/-- a dialect of class K behind SqlDialect's constructor -/
def QSD (Z : State) (K : String) (o : Addr) (n1 n2 n3 : Nat) (w2 : Nat → Value) (h0 : Heap) (n0 : Nat) (v : Option Value) (h : Heap) (L : List Loc) : Prop := v = none ∧ Fr n0 L ∧ Keep h0 h [o] ∧ Exa Z h o K ∧ Fld Z h o K "takeStatement" "Ljava/lang/String;" .null ∧
  ∃ (x1 x2 x3 : Addr) (w1 w3 : Nat → Value), Fld Z h o "com/example/rigorous_lock/rigorouslock/io/SqlDialect" "held" "Ljava/lang/String;" (.ref x1) ∧ StrF Z h x1 n1 w1 ∧ Fld Z h o "com/example/rigorous_lock/rigorouslock/io/SqlDialect" "leaseEnd" "Ljava/lang/String;" (.ref x2) ∧ StrF Z h x2 n2 w2 ∧ Fld Z h o "com/example/rigorous_lock/rigorouslock/io/SqlDialect" "insertNewRow" "Ljava/lang/String;" (.ref x3) ∧ StrF Z h x3 n3 w3
def QMD (Z : State) (K : String) (o : Addr) (n2 : Nat) (w2 : Nat → Value) (h0 : Heap) (n0 : Nat) (v : Option Value) (h : Heap) (L : List Loc) : Prop := v = none ∧ Fr n0 L ∧ Keep h0 h [o] ∧ Exa Z h o K ∧ ∃ x2 : Addr, Fld Z h o "com/example/rigorous_lock/rigorouslock/io/SqlDialect" "leaseEnd" "Ljava/lang/String;" (.ref x2) ∧ StrF Z h x2 n2 w2
def QOF (Z : State) (K : String) (o : Addr) (n2 : Nat) (w2 : Nat → Value) (h0 : Heap) (n0 : Nat) (v : Option Value) (h : Heap) (L : List Loc) : Prop := ∃ d : Addr, v = some (.ref d) ∧ Fr n0 L ∧ Keep h0 h [o] ∧ Exa Z h d K ∧ ∃ x2 : Addr, Fld Z h d "com/example/rigorous_lock/rigorouslock/io/SqlDialect" "leaseEnd" "Ljava/lang/String;" (.ref x2) ∧ StrF Z h x2 n2 w2
/-- a call that asks the held constants and that x is none of theirs -/
theorem backSafe {EL : List (String × Nat)} {vm0 : Vm} {y : MethodName} {bytes : ByteArray} {maxL : Nat} {ret : Option FieldType} {rm : Room} {len W : Nat} {as' : Array Value} {x : Addr} {Q : Option Value → Heap → List Loc → Prop}
    (hM : MetFree l y (head1 [Cond.code y bytes maxL ret] rm) (fun a U => a = as' ∧ Z.Warmed39 U.vm ∧ U.heap = h ∧ CHv Z EL U.vm h ∧ Safe Z EL U.vm h x) (fun _ _ _ _ _ => True) (fun _ U o U' => ∃ v L, o = .returned v ∧ Q v U'.heap L ∧ CHr Z EL U.vm U.heap U'.vm U'.heap ∧ ReturnedEndW U o U' L rm.cells rm.slots))
    (hZ : Z.Warmed39 vm0) (wc : (Cond.code y bytes maxL ret).before a0 Z = true) (wz : (Cond.initialized y.cls).before a0 Z = true) (hf : rm.frames + 1 ≤ R.frames) (hl : W + (maxL + 11) + rm.locals ≤ R.locals) (hEL : EW Z a0 EL) (H : CHv Z EL vm0 h) (hx : x < h.size) (Sx : Safe Z EL vm0 h x) :
    BackS l R p e below (s.setVm vm0) args y len W (fun A a => a = as' ∧ A.U.heap = h ∧ A.cells + rm.cells ≤ R.cells ∧ A.slots + rm.slots ≤ R.slots)
      (fun A _ v B => ∃ L, Q v B.U.heap L ∧ B.locs = A.locs ++ L ∧ B.cells = A.cells + rm.cells ∧ B.slots = A.slots + rm.slots ∧ CHr Z EL vm0 h B.U.vm B.U.heap) :=
  BackS.of_freeW (bytes := bytes) (maxL := maxL) (ret := ret) (E := fun _ first o t L k n => k = rm.cells ∧ n = rm.slots ∧ (∃ v, o = .returned v ∧ Q v t.heap L) ∧ CHr Z EL first.vm first.heap t.vm t.heap) hM hf hl
    (fun m meth c A a Y hp => have hU : Z.Warmed39 A.U.vm := wtrans (s := s.setVm vm0) hZ Y.warmed
      ⟨by show (Cond.and _ .tt).before a A.U = true; rw [Cond.before_and, mv hU wc]; rfl, mv hU wc, mv hU wz, hp.2.2.1, hp.2.2.2⟩)
    (fun m meth c A a g mk Y hp => ⟨hp.1, wtrans (s := s.setVm vm0) hZ Y.warmed, hp.2.1, (CHv.at Y hZ hEL H).1, (CHv.at Y hZ hEL H).safe hx Sx⟩) (fun _ _ _ _ _ _ _ _ _ => trivial)
    (fun _ _ _ _ ⟨v, L, h1, h2, h3, h4⟩ => ⟨L, _, _, h4, rfl, rfl, ⟨v, h1, h2⟩, h3⟩)
    (fun m meth c A a g mk v t L k n Y hp _ _ ⟨e1, e2, ⟨v', e3, e4⟩, e5⟩ => by
      cases e3; subst e1 e2
      refine ⟨L, e4, rfl, rfl, rfl, (CHv.at Y hZ hEL H).trans ?_⟩
      rw [← hp.2.1]; exact e5)
end SBKit
theorem pd_0 : parseMethodDescriptor "([C)V" = some ⟨[(.array .char)], none⟩ := by decide +kernel
theorem pd_1 : parseMethodDescriptor "([CIILjava/lang/Void;)V" = some ⟨[(.array .char), .int, .int, (.object "java/lang/Void")], none⟩ := by decide +kernel
theorem pd_2 : parseMethodDescriptor "()V" = some ⟨[], none⟩ := by decide +kernel
theorem pd_3 : parseMethodDescriptor "([CII)[B" = some ⟨[(.array .char), .int, .int], some (.array .byte)⟩ := by decide +kernel
theorem pd_4 : parseMethodDescriptor "([CI[BII)I" = some ⟨[(.array .char), .int, (.array .byte), .int, .int], some .int⟩ := by decide +kernel
theorem pd_5 : parseMethodDescriptor "([BI)B" = some ⟨[(.array .byte), .int], some .byte⟩ := by decide +kernel
theorem pd_6 : parseMethodDescriptor "(Ljava/lang/String;)Lcom/example/rigorous_lock/rigorouslock/io/SqlDialect;" = some ⟨[(.object "java/lang/String")], some (.object "com/example/rigorous_lock/rigorouslock/io/SqlDialect")⟩ := by decide +kernel
theorem pd_7 : parseMethodDescriptor "()I" = some ⟨[], some .int⟩ := by decide +kernel
theorem pd_8 : parseMethodDescriptor "()Z" = some ⟨[], some .boolean⟩ := by decide +kernel
theorem pd_9 : parseMethodDescriptor "([B)I" = some ⟨[(.array .byte)], some .int⟩ := by decide +kernel
theorem pd_10 : parseMethodDescriptor "(Ljava/lang/Object;IIII)I" = some ⟨[(.object "java/lang/Object"), .int, .int, .int, .int], some .int⟩ := by decide +kernel
theorem pd_11 : parseMethodDescriptor "(I[BII)I" = some ⟨[.int, (.array .byte), .int, .int], some .int⟩ := by decide +kernel
theorem pd_12 : parseMethodDescriptor "(Ljava/lang/Object;)Z" = some ⟨[(.object "java/lang/Object")], some .boolean⟩ := by decide +kernel
theorem pd_13 : parseMethodDescriptor "([B[B)Z" = some ⟨[(.array .byte), (.array .byte)], some .boolean⟩ := by decide +kernel
theorem pd_14 : parseMethodDescriptor "(Ljava/lang/String;Ljava/lang/String;Ljava/lang/String;Ljava/lang/String;Ljava/lang/String;)V" = some ⟨[(.object "java/lang/String"), (.object "java/lang/String"), (.object "java/lang/String"), (.object "java/lang/String"), (.object "java/lang/String")], none⟩ := by decide +kernel
theorem pd_15 : parseMethodDescriptor "(I)V" = some ⟨[.int], none⟩ := by decide +kernel
theorem pd_16 : parseMethodDescriptor "(Ljava/lang/String;)Ljava/lang/StringBuilder;" = some ⟨[(.object "java/lang/String")], some (.object "java/lang/StringBuilder")⟩ := by decide +kernel
theorem pd_17 : parseMethodDescriptor "(Ljava/lang/String;)Ljava/lang/AbstractStringBuilder;" = some ⟨[(.object "java/lang/String")], some (.object "java/lang/AbstractStringBuilder")⟩ := by decide +kernel
theorem pd_18 : parseMethodDescriptor "()B" = some ⟨[], some .byte⟩ := by decide +kernel
theorem pd_19 : parseMethodDescriptor "(I)I" = some ⟨[.int], some .int⟩ := by decide +kernel
theorem pd_20 : parseMethodDescriptor "(III)I" = some ⟨[.int, .int, .int], some .int⟩ := by decide +kernel
theorem pd_21 : parseMethodDescriptor "(II)I" = some ⟨[.int, .int], some .int⟩ := by decide +kernel
theorem pd_22 : parseMethodDescriptor "([BI)[B" = some ⟨[(.array .byte), .int], some (.array .byte)⟩ := by decide +kernel
theorem pd_24 : parseMethodDescriptor "(ILjava/lang/String;)V" = some ⟨[.int, (.object "java/lang/String")], none⟩ := by decide +kernel
theorem pd_25 : parseMethodDescriptor "(Ljava/lang/String;)V" = some ⟨[(.object "java/lang/String")], none⟩ := by decide +kernel
theorem pd_26 : parseMethodDescriptor "([BIB)V" = some ⟨[(.array .byte), .int, .byte], none⟩ := by decide +kernel
theorem pd_27 : parseMethodDescriptor "()Ljava/lang/String;" = some ⟨[], some (.object "java/lang/String")⟩ := by decide +kernel
theorem pd_28 : parseMethodDescriptor "(Ljava/lang/StringBuilder;)V" = some ⟨[(.object "java/lang/StringBuilder")], none⟩ := by decide +kernel
theorem pd_29 : parseMethodDescriptor "(Ljava/lang/AbstractStringBuilder;Ljava/lang/Void;)V" = some ⟨[(.object "java/lang/AbstractStringBuilder"), (.object "java/lang/Void")], none⟩ := by decide +kernel
theorem pd_30 : parseMethodDescriptor "()[B" = some ⟨[], some (.array .byte)⟩ := by decide +kernel
theorem pd_31 : parseMethodDescriptor "([BII)[B" = some ⟨[(.array .byte), .int, .int], some (.array .byte)⟩ := by decide +kernel
theorem pd_32 : parseMethodDescriptor "(II)V" = some ⟨[.int, .int], none⟩ := by decide +kernel
def EL1 : List (String × Nat) := [("com/example/rigorous_lock/rigorouslock/io/MariaDbDialect", 5), ("com/example/rigorous_lock/rigorouslock/io/MariaDbDialect", 7), ("com/example/rigorous_lock/rigorouslock/io/MariaDbDialect", 11), ("com/example/rigorous_lock/rigorouslock/io/MariaDbDialect", 13), ("com/example/rigorous_lock/rigorouslock/io/MariaDbDialect", 15), ("com/example/rigorous_lock/rigorouslock/io/MariaDbDialect", 34), ("com/example/rigorous_lock/rigorouslock/io/MariaDbDialect", 39), ("com/example/rigorous_lock/rigorouslock/io/MariaDbDialect", 41), ("com/example/rigorous_lock/rigorouslock/io/MariaDbDialect", 43), ("com/example/rigorous_lock/rigorouslock/io/MariaDbDialect", 48), ("com/example/rigorous_lock/rigorouslock/io/PostgresDialect", 3), ("com/example/rigorous_lock/rigorouslock/io/PostgresDialect", 5), ("com/example/rigorous_lock/rigorouslock/io/PostgresDialect", 9), ("com/example/rigorous_lock/rigorouslock/io/PostgresDialect", 11), ("com/example/rigorous_lock/rigorouslock/io/PostgresDialect", 13), ("com/example/rigorous_lock/rigorouslock/io/PostgresDialect", 32), ("com/example/rigorous_lock/rigorouslock/io/PostgresDialect", 34), ("com/example/rigorous_lock/rigorouslock/io/PostgresDialect", 36), ("com/example/rigorous_lock/rigorouslock/io/PostgresDialect", 41), ("com/example/rigorous_lock/rigorouslock/io/SqlDialect", 12), ("com/example/rigorous_lock/rigorouslock/io/SqlDialect", 26), ("com/example/rigorous_lock/rigorouslock/io/SqlDialect", 31), ("com/example/rigorous_lock/rigorouslock/io/SqlDialect", 33), ("com/example/rigorous_lock/rigorouslock/io/SqlDialect", 47), ("com/example/rigorous_lock/rigorouslock/io/SqlDialect", 49), ("com/example/rigorous_lock/rigorouslock/io/SqlDialect", 54), ("com/example/rigorous_lock/rigorouslock/io/SqlDialect", 65), ("com/example/rigorous_lock/rigorouslock/io/SqlDialect", 71), ("com/example/rigorous_lock/rigorouslock/io/SqlDialect", 73), ("com/example/rigorous_lock/rigorouslock/io/SqlDialectOfPinLaw", 25), ("com/example/rigorous_lock/rigorouslock/io/SqlDialectOfPinLaw", 33)]
theorem d5_0 : decode jdk_52_method_21_code 0 = .ok (.iconst 0, 1) := by decide +kernel
theorem d5_1 : decode jdk_52_method_21_code 1 = .ok (.istore 5, 2) := by decide +kernel
theorem d5_3 : decode jdk_52_method_21_code 3 = .ok (.iload 5, 2) := by decide +kernel
theorem d5_5 : decode jdk_52_method_21_code 5 = .ok (.iload 4, 2) := by decide +kernel
theorem d5_7 : decode jdk_52_method_21_code 7 = .ok (.if_icmp .ge 37, 3) := by decide +kernel
theorem d5_10 : decode jdk_52_method_21_code 10 = .ok (.aload_n 0, 1) := by decide +kernel
theorem d5_11 : decode jdk_52_method_21_code 11 = .ok (.iload_n 1, 1) := by decide +kernel
theorem d5_12 : decode jdk_52_method_21_code 12 = .ok (.caload, 1) := by decide +kernel
theorem d5_13 : decode jdk_52_method_21_code 13 = .ok (.istore 6, 2) := by decide +kernel
theorem d5_15 : decode jdk_52_method_21_code 15 = .ok (.iload 6, 2) := by decide +kernel
theorem d5_17 : decode jdk_52_method_21_code 17 = .ok (.sipush 255, 3) := by decide +kernel
theorem d5_20 : decode jdk_52_method_21_code 20 = .ok (.if_icmp .le 6, 3) := by decide +kernel
theorem d5_26 : decode jdk_52_method_21_code 26 = .ok (.aload_n 2, 1) := by decide +kernel
theorem d5_27 : decode jdk_52_method_21_code 27 = .ok (.iload_n 3, 1) := by decide +kernel
theorem d5_28 : decode jdk_52_method_21_code 28 = .ok (.iload 6, 2) := by decide +kernel
theorem d5_30 : decode jdk_52_method_21_code 30 = .ok (.i2b, 1) := by decide +kernel
theorem d5_31 : decode jdk_52_method_21_code 31 = .ok (.bastore, 1) := by decide +kernel
theorem d5_32 : decode jdk_52_method_21_code 32 = .ok (.iinc 1 1, 3) := by decide +kernel
theorem d5_35 : decode jdk_52_method_21_code 35 = .ok (.iinc 3 1, 3) := by decide +kernel
theorem d5_38 : decode jdk_52_method_21_code 38 = .ok (.iinc 5 1, 3) := by decide +kernel
theorem d5_41 : decode jdk_52_method_21_code 41 = .ok (.goto (-38), 3) := by decide +kernel
theorem d5_44 : decode jdk_52_method_21_code 44 = .ok (.iload 4, 2) := by decide +kernel
theorem d5_46 : decode jdk_52_method_21_code 46 = .ok (.ireturn, 1) := by decide +kernel
theorem pn_5 : plainName "java/lang/StringUTF16" = true := by first | (simp [plainName, overriddenIn]; done) | decide +kernel
theorem ef_5 (m : MethodId) (x0 : Addr) (x1 : Int32) (x2 : Addr) (x3 : Int32) (x4 : Int32) : entryFrame m #[(.ref x0), (.int x1), (.ref x2), (.int x3), (.int x4)] 7 = mkF m 0 #[.val (.ref x0), .val (.int x1), .val (.ref x2), .val (.int x3), .val (.int x4), .unset, .unset] [] := by first | (simp [entryFrame, mkF, argsToLocals, Value.category]; done) | rfl
set_option maxRecDepth 65536 in
set_option maxHeartbeats 40000000 in
theorem tnC5 {p : Program} {l : Launch} {e : Env} {R : Room} {s : State} {m : MethodId} {args : Array Value} {below : List Frame} {meth : Method} {c : Code} {T0 : State} {locs : List Loc} {cells slots : Nat} {Z : State} {a0 : Array Value} {h0 : Heap} {n0 : Nat} (a b : Addr) (i n : Nat) (g : Nat → Int32) (f : Nat → Value) (q : Slot) (hq : q = .unset ∨ ∃ x : Int32, q = .val (.int x)) (X0 : Stand p l e R s m args below meth c T0 locs cells slots) (hx : p.tables.exec = Jvm.exec) (hZ : Z.Warmed39 s.vm) (hw : ∀ d ∈ tables_1, d.before a0 Z = true) (hby : c.code = jdk_52_method_21_code) (hown : s.vm.findClass "java/lang/StringUTF16" = some m.cls) (e0 : T0.heap = h0) (Z0 : n0 ≤ h0.size) (N0 : Fr n0 locs) (hn : n ≤ 600) (hi : i < n) (FA : AF Z h0 a .char n (Ca g)) (FB : AF Z h0 b .byte n f) (hab : a ≠ b) (g_b : n0 ≤ b) (hsm : ¬ ((255 : Int32) < g i)) :
    ∃ (T' : State) (locs' : List Loc), Stand p l e R s m args below meth c T' locs' cells slots ∧ Fr n0 locs' ∧ Keep h0 T'.heap [b] ∧ AF Z T'.heap b .byte n (upd f i (.int (b8 (g i)))) ∧ ∀ target, Steps p.tables e below (T'.setTop (mkF m 3 #[.val (.ref a), .val (.int (Int32.ofNat (i + 1))), .val (.ref b), .val (.int (Int32.ofNat (i + 1))), .val (.int (Int32.ofNat n)), .val (.int (Int32.ofNat (i + 1))), .val (.int (g i))] [])) target → Steps p.tables e below (T0.setTop (mkF m 3 #[.val (.ref a), .val (.int (Int32.ofNat i)), .val (.ref b), .val (.int (Int32.ofNat i)), .val (.int (Int32.ofNat n)), .val (.int (Int32.ofNat i)), q] [])) target := by
  obtain ⟨T1, h1, X1, e1, W1, st1⟩ := stBy X0 hx hZ e0 FB (i := i) hi (by omega) (x := ((g i).toInt8.toInt32)) (g := (mkF m 31 #[.val (.ref a), .val (.int (Int32.ofNat i)), .val (.ref b), .val (.int (Int32.ofNat i)), .val (.int (Int32.ofNat n)), .val (.int (Int32.ofNat i)), .val (.int (g i))] [(.int ((g i).toInt8.toInt32)), (.int (Int32.ofNat i)), (.ref b)])) rfl rfl (hb hby d5_31)
  have A1 := FB.wr W1
  have FA_e1 := FA.other W1 hab
  have N1 := Fr.snoc X1 N0 g_b
  have K1 := (Keep.refl h0 [b]).wr W1 (Or.inl (List.mem_of_getElem? (i := 0) rfl))
  have Z1 : n0 ≤ h1.size := Nat.le_trans Z0 (Keep.of_wr W1).1
  refine ⟨_, _, X1, N1, by rw [e1]; exact K1, by rw [e1]; exact A1, fun target kt => ?_⟩
  show Steps p.tables e below (T0.setTop (mkF m 3 #[.val (.ref a), .val (.int (Int32.ofNat i)), .val (.ref b), .val (.int (Int32.ofNat i)), .val (.int (Int32.ofNat n)), .val (.int (Int32.ofNat i)), q] [])) _
  refine XS.iload X0.here hx rfl (hb hby d5_3) rfl ?_
  refine XS.iload X0.here hx rfl (hb hby d5_5) rfl ?_
  refine XS.icmpNo X0.here hx rfl (hb hby d5_7) rfl (tlt ((ltN (by omega) (by omega)).mpr hi)).2.1 ?_
  refine XS.aloadN X0.here hx rfl (hb hby d5_10) rfl rfl ?_
  refine XS.iloadN X0.here hx rfl (hb hby d5_11) rfl ?_
  show Steps p.tables e below (T0.setTop (mkF m 12 #[.val (.ref a), .val (.int (Int32.ofNat i)), .val (.ref b), .val (.int (Int32.ofNat i)), .val (.int (Int32.ofNat n)), .val (.int (Int32.ofNat i)), q] [(.int (Int32.ofNat i)), (.ref a)])) _
  refine ldCh X0 hx hZ e0 FA (i := i) hi (by omega) (v := (.int (g i))) rfl (g := (mkF m 12 #[.val (.ref a), .val (.int (Int32.ofNat i)), .val (.ref b), .val (.int (Int32.ofNat i)), .val (.int (Int32.ofNat n)), .val (.int (Int32.ofNat i)), q] [(.int (Int32.ofNat i)), (.ref a)])) rfl rfl (hb hby d5_12) ?_
  refine XS.istore X0.here hx rfl (hb hby d5_13) rfl (l' := #[.val (.ref a), .val (.int (Int32.ofNat i)), .val (.ref b), .val (.int (Int32.ofNat i)), .val (.int (Int32.ofNat n)), .val (.int (Int32.ofNat i)), .val (.int (g i))]) (by rcases hq with rfl | ⟨_, rfl⟩ <;> rfl) ?_
  refine XS.iload X0.here hx rfl (hb hby d5_15) rfl ?_
  refine XS.sipush X0.here hx rfl (hb hby d5_17) ?_
  refine XS.icmpYes X0.here hx rfl (pc0 := 20) (pc' := 26) rfl (hb hby d5_20) rfl (flt hsm).2.2.2 (by decide) (by decide) ?_
  refine XS.aloadN X0.here hx rfl (hb hby d5_26) rfl rfl ?_
  show Steps p.tables e below (T0.setTop (mkF m 27 #[.val (.ref a), .val (.int (Int32.ofNat i)), .val (.ref b), .val (.int (Int32.ofNat i)), .val (.int (Int32.ofNat n)), .val (.int (Int32.ofNat i)), .val (.int (g i))] [(.ref b)])) _
  refine XS.iloadN X0.here hx rfl (hb hby d5_27) rfl ?_
  refine XS.iload X0.here hx rfl (hb hby d5_28) rfl ?_
  refine XS.i2b X0.here hx rfl (hb hby d5_30) rfl ?_
  show Steps p.tables e below (T0.setTop (mkF m 31 #[.val (.ref a), .val (.int (Int32.ofNat i)), .val (.ref b), .val (.int (Int32.ofNat i)), .val (.int (Int32.ofNat n)), .val (.int (Int32.ofNat i)), .val (.int (g i))] [(.int ((g i).toInt8.toInt32)), (.int (Int32.ofNat i)), (.ref b)])) _
  refine st1 _ ?_
  refine XS.iinc X1.here hx rfl (hb hby d5_32) rfl (l' := #[.val (.ref a), .val (.int ((Int32.ofNat i) + (1 : Int32))), .val (.ref b), .val (.int (Int32.ofNat i)), .val (.int (Int32.ofNat n)), .val (.int (Int32.ofNat i)), .val (.int (g i))]) rfl ?_
  refine XS.iinc X1.here hx rfl (hb hby d5_35) rfl (l' := #[.val (.ref a), .val (.int ((Int32.ofNat i) + (1 : Int32))), .val (.ref b), .val (.int ((Int32.ofNat i) + (1 : Int32))), .val (.int (Int32.ofNat n)), .val (.int (Int32.ofNat i)), .val (.int (g i))]) rfl ?_
  refine XS.iinc X1.here hx rfl (hb hby d5_38) rfl (l' := #[.val (.ref a), .val (.int ((Int32.ofNat i) + (1 : Int32))), .val (.ref b), .val (.int ((Int32.ofNat i) + (1 : Int32))), .val (.int (Int32.ofNat n)), .val (.int ((Int32.ofNat i) + (1 : Int32))), .val (.int (g i))]) rfl ?_
  show Steps p.tables e below (T1.setTop (mkF m 41 #[.val (.ref a), .val (.int ((Int32.ofNat i) + (1 : Int32))), .val (.ref b), .val (.int ((Int32.ofNat i) + (1 : Int32))), .val (.int (Int32.ofNat n)), .val (.int ((Int32.ofNat i) + (1 : Int32))), .val (.int (g i))] [])) _
  rw [show ((Int32.ofNat i) + (1 : Int32)) = (Int32.ofNat (i + 1)) from succN i]
  show Steps p.tables e below (T1.setTop (mkF m 41 #[.val (.ref a), .val (.int (Int32.ofNat (i + 1))), .val (.ref b), .val (.int (Int32.ofNat (i + 1))), .val (.int (Int32.ofNat n)), .val (.int (Int32.ofNat (i + 1))), .val (.int (g i))] [])) _
  refine XS.goto X1.here hx rfl (pc0 := 41) (pc' := 3) rfl (hb hby d5_41) (by decide) (by decide) ?_
  exact kt
set_option maxRecDepth 65536 in
set_option maxHeartbeats 40000000 in
theorem exC5 {p : Program} {l : Launch} {e : Env} {R : Room} {s : State} {m : MethodId} {args : Array Value} {below : List Frame} {meth : Method} {c : Code} {T0 : State} {locs : List Loc} {cells slots : Nat} {Z : State} {a0 : Array Value} (a b : Addr) (i n : Nat) (q : Slot) (X0 : Stand p l e R s m args below meth c T0 locs cells slots) (hx : p.tables.exec = Jvm.exec) (hZ : Z.Warmed39 s.vm) (hw : ∀ d ∈ tables_1, d.before a0 Z = true) (hby : c.code = jdk_52_method_21_code) (hown : s.vm.findClass "java/lang/StringUTF16" = some m.cls)  (hc7 : ¬ ((Int32.ofNat i) < (Int32.ofNat n))) {target : State}
    (kt : Steps p.tables e below (T0.setTop (mkF m 44 #[.val (.ref a), .val (.int (Int32.ofNat i)), .val (.ref b), .val (.int (Int32.ofNat i)), .val (.int (Int32.ofNat n)), .val (.int (Int32.ofNat i)), q] [])) target) : Steps p.tables e below (T0.setTop (mkF m 3 #[.val (.ref a), .val (.int (Int32.ofNat i)), .val (.ref b), .val (.int (Int32.ofNat i)), .val (.int (Int32.ofNat n)), .val (.int (Int32.ofNat i)), q] [])) target := by
  show Steps p.tables e below (T0.setTop (mkF m 3 #[.val (.ref a), .val (.int (Int32.ofNat i)), .val (.ref b), .val (.int (Int32.ofNat i)), .val (.int (Int32.ofNat n)), .val (.int (Int32.ofNat i)), q] [])) _
  refine XS.iload X0.here hx rfl (hb hby d5_3) rfl ?_
  refine XS.iload X0.here hx rfl (hb hby d5_5) rfl ?_
  refine XS.icmpYes X0.here hx rfl (pc0 := 7) (pc' := 44) rfl (hb hby d5_7) rfl (flt hc7).2.1 (by decide) (by decide) ?_
  exact kt
set_option maxRecDepth 65536 in
set_option maxHeartbeats 40000000 in
theorem bgC5 {p : Program} {l : Launch} {e : Env} {R : Room} {s : State} {m : MethodId} {args : Array Value} {below : List Frame} {meth : Method} {c : Code} {T0 : State} {locs : List Loc} {cells slots : Nat} {Z : State} {a0 : Array Value} {h0 : Heap} {n0 : Nat} (a b : Addr) (i n : Nat) (g : Nat → Int32) (q : Slot) (hq : q = .unset ∨ ∃ x : Int32, q = .val (.int x)) (X0 : Stand p l e R s m args below meth c T0 locs cells slots) (hx : p.tables.exec = Jvm.exec) (hZ : Z.Warmed39 s.vm) (hw : ∀ d ∈ tables_1, d.before a0 Z = true) (hby : c.code = jdk_52_method_21_code) (hown : s.vm.findClass "java/lang/StringUTF16" = some m.cls) (e0 : T0.heap = h0) (Z0 : n0 ≤ h0.size) (N0 : Fr n0 locs) (hn : n ≤ 600) (hi : i < n) (FA : AF Z h0 a .char n (Ca g)) (hbg : (255 : Int32) < g i) {target : State} (kt : Steps p.tables e below (T0.setTop (mkF m 23 #[.val (.ref a), .val (.int (Int32.ofNat i)), .val (.ref b), .val (.int (Int32.ofNat i)), .val (.int (Int32.ofNat n)), .val (.int (Int32.ofNat i)), .val (.int (g i))] [])) target) : Steps p.tables e below (T0.setTop (mkF m 3 #[.val (.ref a), .val (.int (Int32.ofNat i)), .val (.ref b), .val (.int (Int32.ofNat i)), .val (.int (Int32.ofNat n)), .val (.int (Int32.ofNat i)), q] [])) target := by
  show Steps p.tables e below (T0.setTop (mkF m 3 #[.val (.ref a), .val (.int (Int32.ofNat i)), .val (.ref b), .val (.int (Int32.ofNat i)), .val (.int (Int32.ofNat n)), .val (.int (Int32.ofNat i)), q] [])) _
  refine XS.iload X0.here hx rfl (hb hby d5_3) rfl ?_
  refine XS.iload X0.here hx rfl (hb hby d5_5) rfl ?_
  refine XS.icmpNo X0.here hx rfl (hb hby d5_7) rfl (tlt ((ltN (by omega) (by omega)).mpr hi)).2.1 ?_
  refine XS.aloadN X0.here hx rfl (hb hby d5_10) rfl rfl ?_
  refine XS.iloadN X0.here hx rfl (hb hby d5_11) rfl ?_
  show Steps p.tables e below (T0.setTop (mkF m 12 #[.val (.ref a), .val (.int (Int32.ofNat i)), .val (.ref b), .val (.int (Int32.ofNat i)), .val (.int (Int32.ofNat n)), .val (.int (Int32.ofNat i)), q] [(.int (Int32.ofNat i)), (.ref a)])) _
  refine ldCh X0 hx hZ e0 FA (i := i) hi (by omega) (v := (.int (g i))) rfl (g := (mkF m 12 #[.val (.ref a), .val (.int (Int32.ofNat i)), .val (.ref b), .val (.int (Int32.ofNat i)), .val (.int (Int32.ofNat n)), .val (.int (Int32.ofNat i)), q] [(.int (Int32.ofNat i)), (.ref a)])) rfl rfl (hb hby d5_12) ?_
  refine XS.istore X0.here hx rfl (hb hby d5_13) rfl (l' := #[.val (.ref a), .val (.int (Int32.ofNat i)), .val (.ref b), .val (.int (Int32.ofNat i)), .val (.int (Int32.ofNat n)), .val (.int (Int32.ofNat i)), .val (.int (g i))]) (by rcases hq with rfl | ⟨_, rfl⟩ <;> rfl) ?_
  refine XS.iload X0.here hx rfl (hb hby d5_15) rfl ?_
  refine XS.sipush X0.here hx rfl (hb hby d5_17) ?_
  refine XS.icmpNo X0.here hx rfl (hb hby d5_20) rfl (tlt hbg).2.2.2 ?_
  exact kt
set_option maxRecDepth 65536 in
set_option maxHeartbeats 40000000 in
theorem lpC5 {p : Program} {l : Launch} {e : Env} {R : Room} {s : State} {m : MethodId} {args : Array Value} {below : List Frame} {meth : Method} {c : Code} {cells slots : Nat} {Z : State} {a0 : Array Value} {n0 : Nat} (a b : Addr) (n N : Nat) (g : Nat → Int32) (hx : p.tables.exec = Jvm.exec) (hZ : Z.Warmed39 s.vm) (hw : ∀ d ∈ tables_1, d.before a0 Z = true) (hby : c.code = jdk_52_method_21_code) (hown : s.vm.findClass "java/lang/StringUTF16" = some m.cls) (hn : n ≤ 600) (hab : a ≠ b) (g_b : n0 ≤ b) (hN : N ≤ n) (hsm : ∀ j, j < N → ¬ ((255 : Int32) < g j)) :
    ∀ (k i : Nat) (f : Nat → Value) (q : Slot) (T0 : State) (locs : List Loc), (q = .unset ∨ ∃ x : Int32, q = .val (.int x)) → i + k = N → Stand p l e R s m args below meth c T0 locs cells slots → n0 ≤ T0.heap.size → Fr n0 locs → AF Z T0.heap a .char n (Ca g) → AF Z T0.heap b .byte n f → (∀ j, j < i → f j = Lb g j) →
    ∃ (T' : State) (locs' : List Loc) (f' : Nat → Value) (q' : Slot), (q' = .unset ∨ ∃ x : Int32, q' = .val (.int x)) ∧ Stand p l e R s m args below meth c T' locs' cells slots ∧ Fr n0 locs' ∧ Keep T0.heap T'.heap [b] ∧ AF Z T'.heap b .byte n f' ∧ (∀ j, j < N → f' j = Lb g j) ∧ ∀ target, Steps p.tables e below (T'.setTop (mkF m 3 #[.val (.ref a), .val (.int (Int32.ofNat N)), .val (.ref b), .val (.int (Int32.ofNat N)), .val (.int (Int32.ofNat n)), .val (.int (Int32.ofNat N)), q'] [])) target → Steps p.tables e below (T0.setTop (mkF m 3 #[.val (.ref a), .val (.int (Int32.ofNat i)), .val (.ref b), .val (.int (Int32.ofNat i)), .val (.int (Int32.ofNat n)), .val (.int (Int32.ofNat i)), q] [])) target := by
  intro k
  induction k with
  | zero =>
    intro i f q T0 locs hq hk X0 Z0 N0 FA FB hf
    obtain rfl : i = N := by omega
    exact ⟨T0, locs, f, q, hq, X0, N0, Keep.refl _ _, FB, hf, fun target kt => kt⟩
  | succ k ih =>
    intro i f q T0 locs hq hk X0 Z0 N0 FA FB hf
    obtain ⟨T1, locs1, X1, N1, K1, A1, st1⟩ := tnC5 a b i n g f q hq X0 hx hZ hw hby hown rfl Z0 N0 hn (by omega) FA FB hab g_b (hsm i (by omega))
    obtain ⟨T2, locs2, f2, q2, hq2, X2, N2, K2, A2, hf2, st2⟩ := ih (i + 1) _ _ T1 locs1 (Or.inr ⟨_, rfl⟩) (by omega) X1 (Nat.le_trans Z0 K1.1) N1 (FA.keep K1 (notin1 hab)) A1 (fun j hj => by
      unfold upd
      by_cases q1 : j = i
      · rw [if_pos q1, q1]; rfl
      · rw [if_neg q1]; exact hf j (by omega))
    exact ⟨T2, locs2, f2, q2, hq2, X2, N2, K1.trans K2 (fun x r => Or.inl r), A2, hf2, fun target kt => st1 target (st2 target kt)⟩
set_option maxRecDepth 65536 in
set_option maxHeartbeats 40000000 in
theorem rmC5A (l : Launch) (Z : State) (a0 : Array Value) (hw : ∀ d ∈ tables_1, d.before a0 Z = true) (ws : List Jvm.Cond) (a b : Addr) (n : Nat) (g : Nat → Int32) (f : Nat → Value)  (h0 : Heap) (n0 : Nat) (Z0 : n0 ≤ h0.size) (hn : n ≤ 600) (FA : AF Z h0 a .char n (Ca g)) (FB : AF Z h0 b .byte n f) (hab : a ≠ b) (g_b : n0 ≤ b) (hsm : ∀ j, j < n → ¬ ((255 : Int32) < g j))  :
    MetFree l (⟨"java/lang/StringUTF16", "compress", "([CI[BII)I"⟩ : MethodName) (head1 (Jvm.Cond.code (⟨"java/lang/StringUTF16", "compress", "([CI[BII)I"⟩ : MethodName) jdk_52_method_21_code 7 (some .int) :: ws) ({ frames := 0, cells := 0, slots := 0, locals := 0 } : Room)) (fun aa_ U_ => aa_ = #[(.ref a), (.int (0 : Int32)), (.ref b), (.int (0 : Int32)), (.int (Int32.ofNat n))] ∧ Z.Warmed39 U_.vm ∧ U_.heap = h0) (fun _ _ _ _ _ => True) (fun _ U_ o_ V_ => ∃ v_ L_, o_ = .returned v_ ∧ QR Z (Int32.ofNat n) b .byte n (fun f' => ∀ j, j < n → f' j = Lb g j) h0 n0 v_ V_.heap L_ ∧ FrameEnd U_ o_ V_ L_ ({ frames := 0, cells := 0, slots := 0, locals := 0 } : Room).cells ({ frames := 0, cells := 0, slots := 0, locals := 0 } : Room).slots) := by
  refine MetFree.of_bodySF (plainFor_of_name pn_5) hisR ?_
  intro p e s m args below meth c s₁ Bd hml0 hP hK
  obtain ⟨rfl, hZ, hh⟩ := hP
  have hx := Bd.exec
  have hby := Bd.bytes
  have hml : c.maxLocals = 7 := hml0
  have hown : s.vm.findClass "java/lang/StringUTF16" = some m.cls := findClass_of_methodNamed Bd.named
  have hnm := (name_of_methodNamed Bd.named Bd.method).1
  have X0 : Stand p l e ({ frames := 0, cells := 0, slots := 0, locals := 0 } : Room) s m #[(.ref a), (.int (0 : Int32)), (.ref b), (.int (0 : Int32)), (.int (Int32.ofNat n))] below meth c s₁ [] 0 0 := Stand.of_body Bd
  have e0 : s₁.heap = h0 := by rw [← hh, Bd.state]; rfl
  have N0 := Fr.nil n0
  have pre0 : ∀ zz, Steps p.tables e below (s₁.setTop (mkF m 0 #[.val (.ref a), .val (.int (0 : Int32)), .val (.ref b), .val (.int (0 : Int32)), .val (.int (Int32.ofNat n)), .unset, .unset] [])) zz → Steps p.tables e below (s₁.setTop (entryFrame m #[(.ref a), (.int (0 : Int32)), (.ref b), (.int (0 : Int32)), (.int (Int32.ofNat n))] 7)) zz := fun zz kz_ => castTop (ef_5 m a (0 : Int32) b (0 : Int32) (Int32.ofNat n)) kz_
  have Z0' : n0 ≤ s₁.heap.size := by rw [e0]; exact Z0
  obtain ⟨T2, L2, f2, q2, hq2, X2, N2, Kl2, A2, hf2, st2⟩ := lpC5 a b n n g hx hZ hw hby hown hn hab g_b (by omega) hsm n 0 f .unset _ _ (Or.inl rfl) (by omega) X0 Z0' N0 (by rw [e0]; exact FA) (by rw [e0]; exact FB) (fun j hj => absurd hj (by omega))
  obtain ⟨fs, hr, hrun, hended, hW, hsame⟩ := X2.leave (v := some (.int (Int32.ofNat n))) (fun h => by rw [Bd.returns] at h; cases h)
  refine ⟨_, _, pre0 _ ?_, hrun, hended, _, _, rfl, ?_, ⟨_, rfl⟩, hW, hsame.mono (by decide) (by decide)⟩
  · show Steps p.tables e below (s₁.setTop (mkF m 0 #[.val (.ref a), .val (.int (0 : Int32)), .val (.ref b), .val (.int (0 : Int32)), .val (.int (Int32.ofNat n)), .unset, .unset] [])) _
    refine XS.iconst X0.here hx rfl (hb hby d5_0) ?_
    refine XS.istore X0.here hx rfl (hb hby d5_1) rfl (l' := #[.val (.ref a), .val (.int (0 : Int32)), .val (.ref b), .val (.int (0 : Int32)), .val (.int (Int32.ofNat n)), .val (.int (0 : Int32)), .unset]) rfl ?_
    show Steps p.tables e below (s₁.setTop (mkF m 3 #[.val (.ref a), .val (.int (Int32.ofNat 0)), .val (.ref b), .val (.int (Int32.ofNat 0)), .val (.int (Int32.ofNat n)), .val (.int (Int32.ofNat 0)), .unset] [])) _
    refine st2 _ ?_
    refine exC5 a b n n q2 X2 hx hZ hw hby hown (fun q => absurd ((ltN (by omega) (by omega)).mp q) (Nat.lt_irrefl _)) ?_
    refine XS.iload X2.here hx rfl (hb hby d5_44) rfl ?_
    show Steps p.tables e below (T2.setTop (mkF m 46 #[.val (.ref a), .val (.int (Int32.ofNat n)), .val (.ref b), .val (.int (Int32.ofNat n)), .val (.int (Int32.ofNat n)), .val (.int (Int32.ofNat n)), q2] [(.int (Int32.ofNat n))])) _
    exact retI X2 hx Bd.returns (hb hby d5_46) hr
  · show QR Z (Int32.ofNat n) b .byte n (fun f' => ∀ j, j < n → f' j = Lb g j) h0 n0 _ T2.heap _
    exact ⟨rfl, N2, by have q := Kl2; rw [e0] at q; exact q, f2, A2, hf2⟩
theorem d4_0 : decode jdk_52_method_16_code 0 = .ok (.iload_n 2, 1) := by decide +kernel
theorem d4_1 : decode jdk_52_method_16_code 1 = .ok (.newarray .byte, 2) := by decide +kernel
theorem d4_3 : decode jdk_52_method_16_code 3 = .ok (.astore_n 3, 1) := by decide +kernel
theorem d4_4 : decode jdk_52_method_16_code 4 = .ok (.aload_n 0, 1) := by decide +kernel
theorem d4_5 : decode jdk_52_method_16_code 5 = .ok (.iload_n 1, 1) := by decide +kernel
theorem d4_6 : decode jdk_52_method_16_code 6 = .ok (.aload_n 3, 1) := by decide +kernel
theorem d4_7 : decode jdk_52_method_16_code 7 = .ok (.iconst 0, 1) := by decide +kernel
theorem d4_8 : decode jdk_52_method_16_code 8 = .ok (.iload_n 2, 1) := by decide +kernel
theorem d4_9 : decode jdk_52_method_16_code 9 = .ok (.invokestatic 115, 3) := by decide +kernel
theorem d4_12 : decode jdk_52_method_16_code 12 = .ok (.istore 4, 2) := by decide +kernel
theorem d4_14 : decode jdk_52_method_16_code 14 = .ok (.iload 4, 2) := by decide +kernel
theorem d4_16 : decode jdk_52_method_16_code 16 = .ok (.iload_n 2, 1) := by decide +kernel
theorem d4_17 : decode jdk_52_method_16_code 17 = .ok (.if_icmp .eq 40, 3) := by decide +kernel
theorem d4_57 : decode jdk_52_method_16_code 57 = .ok (.aload_n 3, 1) := by decide +kernel
theorem d4_58 : decode jdk_52_method_16_code 58 = .ok (.areturn, 1) := by decide +kernel
theorem pn_4 : plainName "java/lang/StringUTF16" = true := by first | (simp [plainName, overriddenIn]; done) | decide +kernel
theorem ef_4 (m : MethodId) (x0 : Addr) (x1 : Int32) (x2 : Int32) : entryFrame m #[(.ref x0), (.int x1), (.int x2)] 6 = mkF m 0 #[.val (.ref x0), .val (.int x1), .val (.int x2), .unset, .unset, .unset] [] := by first | (simp [entryFrame, mkF, argsToLocals, Value.category]; done) | rfl
theorem d6_0 : decode jdk_52_method_15_code 0 = .ok (.iload_n 1, 1) := by decide +kernel
theorem d6_1 : decode jdk_52_method_15_code 1 = .ok (.aload_n 0, 1) := by decide +kernel
theorem d6_2 : decode jdk_52_method_15_code 2 = .ok (.arraylength, 1) := by decide +kernel
theorem d6_3 : decode jdk_52_method_15_code 3 = .ok (.isub, 1) := by decide +kernel
theorem d6_4 : decode jdk_52_method_15_code 4 = .ok (.bipush 31, 2) := by decide +kernel
theorem d6_6 : decode jdk_52_method_15_code 6 = .ok (.iushr, 1) := by decide +kernel
theorem d6_7 : decode jdk_52_method_15_code 7 = .ok (.i2b, 1) := by decide +kernel
theorem d6_8 : decode jdk_52_method_15_code 8 = .ok (.ireturn, 1) := by decide +kernel
theorem pn_6 : plainName "java/lang/StringUTF16" = true := by first | (simp [plainName, overriddenIn]; done) | decide +kernel
theorem ef_6 (m : MethodId) (x0 : Addr) (x1 : Int32) : entryFrame m #[(.ref x0), (.int x1)] 2 = mkF m 0 #[.val (.ref x0), .val (.int x1)] [] := by first | (simp [entryFrame, mkF, argsToLocals, Value.category]; done) | rfl
set_option maxRecDepth 65536 in
set_option maxHeartbeats 40000000 in
theorem rmCOA (l : Launch) (Z : State) (a0 : Array Value) (hw : ∀ d ∈ tables_1, d.before a0 Z = true) (ws : List Jvm.Cond) (b : Addr) (n : Nat) (f : Nat → Value)  (h0 : Heap) (n0 : Nat) (Z0 : n0 ≤ h0.size) (hn : n ≤ 600)  (FB : AF Z h0 b .byte n f)  :
    MetFree l (⟨"java/lang/StringUTF16", "coderFromArrayLen", "([BI)B"⟩ : MethodName) (head1 (Jvm.Cond.code (⟨"java/lang/StringUTF16", "coderFromArrayLen", "([BI)B"⟩ : MethodName) jdk_52_method_15_code 2 (some .byte) :: ws) ({ frames := 0, cells := 0, slots := 0, locals := 0 } : Room)) (fun aa_ U_ => aa_ = #[(.ref b), (.int (Int32.ofNat n))] ∧ Z.Warmed39 U_.vm ∧ U_.heap = h0) (fun _ _ _ _ _ => True) (fun _ U_ o_ V_ => ∃ v_ L_, o_ = .returned v_ ∧ QI (0 : Int32) h0 n0 v_ V_.heap L_ ∧ FrameEnd U_ o_ V_ L_ ({ frames := 0, cells := 0, slots := 0, locals := 0 } : Room).cells ({ frames := 0, cells := 0, slots := 0, locals := 0 } : Room).slots) := by
  refine MetFree.of_bodySF (plainFor_of_name pn_6) hisR ?_
  intro p e s m args below meth c s₁ Bd hml0 hP hK
  obtain ⟨rfl, hZ, hh⟩ := hP
  have hx := Bd.exec
  have hby := Bd.bytes
  have hml : c.maxLocals = 2 := hml0
  have hown : s.vm.findClass "java/lang/StringUTF16" = some m.cls := findClass_of_methodNamed Bd.named
  have hnm := (name_of_methodNamed Bd.named Bd.method).1
  have X0 : Stand p l e ({ frames := 0, cells := 0, slots := 0, locals := 0 } : Room) s m #[(.ref b), (.int (Int32.ofNat n))] below meth c s₁ [] 0 0 := Stand.of_body Bd
  have e0 : s₁.heap = h0 := by rw [← hh, Bd.state]; rfl
  have N0 := Fr.nil n0
  have pre0 : ∀ zz, Steps p.tables e below (s₁.setTop (mkF m 0 #[.val (.ref b), .val (.int (Int32.ofNat n))] [])) zz → Steps p.tables e below (s₁.setTop (entryFrame m #[(.ref b), (.int (Int32.ofNat n))] 2)) zz := fun zz kz_ => castTop (ef_6 m b (Int32.ofNat n)) kz_
  obtain ⟨fs, hr, hrun, hended, hW, hsame⟩ := X0.leave (v := some (.int (0 : Int32))) (fun h => by rw [Bd.returns] at h; cases h)
  refine ⟨_, _, pre0 _ ?_, hrun, hended, _, _, rfl, ?_, ⟨_, rfl⟩, hW, hsame.mono (by decide) (by decide)⟩
  · show Steps p.tables e below (s₁.setTop (mkF m 0 #[.val (.ref b), .val (.int (Int32.ofNat n))] [])) _
    refine XS.iloadN X0.here hx rfl (hb hby d6_0) rfl ?_
    refine XS.aloadN X0.here hx rfl (hb hby d6_1) rfl rfl ?_
    show Steps p.tables e below (s₁.setTop (mkF m 2 #[.val (.ref b), .val (.int (Int32.ofNat n))] [(.ref b), (.int (Int32.ofNat n))])) _
    refine lenA X0 hx hZ e0 FB (g := (mkF m 2 #[.val (.ref b), .val (.int (Int32.ofNat n))] [(.ref b), (.int (Int32.ofNat n))])) rfl rfl (hb hby d6_2) ?_
    refine XS.isub X0.here hx rfl (hb hby d6_3) rfl ?_
    refine XS.bipush X0.here hx rfl (hb hby d6_4) ?_
    refine XS.iushr X0.here hx rfl (hb hby d6_6) rfl ?_
    refine XS.i2b X0.here hx rfl (hb hby d6_7) rfl ?_
    show Steps p.tables e below (s₁.setTop (mkF m 8 #[.val (.ref b), .val (.int (Int32.ofNat n))] [(.int (((((Int32.ofNat n) - (Int32.ofNat n)).toUInt32 >>> ((31 : Int32) &&& 31).toUInt32).toInt32).toInt8.toInt32))])) _
    rw [show (((((Int32.ofNat n) - (Int32.ofNat n)).toUInt32 >>> ((31 : Int32) &&& 31).toUInt32).toInt32).toInt8.toInt32) = (0 : Int32) from codA n]
    show Steps p.tables e below (s₁.setTop (mkF m 8 #[.val (.ref b), .val (.int (Int32.ofNat n))] [(.int (0 : Int32))])) _
    exact retN X0 hx (t := .byte) Bd.returns (by simp) (hb hby d6_8) hr
  · show QI (0 : Int32) h0 n0 _ s₁.heap _
    rw [e0]
    exact ⟨rfl, N0, rfl⟩
theorem d2_0 : decode jdk_42_method_149_code 0 = .ok (.aload_n 0, 1) := by decide +kernel
theorem d2_1 : decode jdk_42_method_149_code 1 = .ok (.invokespecial 1, 3) := by decide +kernel
theorem d2_4 : decode jdk_42_method_149_code 4 = .ok (.iload_n 3, 1) := by decide +kernel
theorem d2_5 : decode jdk_42_method_149_code 5 = .ok (.ifCond .ne 22, 3) := by decide +kernel
theorem d2_27 : decode jdk_42_method_149_code 27 = .ok (.getstatic 38, 3) := by decide +kernel
theorem d2_30 : decode jdk_42_method_149_code 30 = .ok (.ifCond .eq 28, 3) := by decide +kernel
theorem d2_33 : decode jdk_42_method_149_code 33 = .ok (.aload_n 1, 1) := by decide +kernel
theorem d2_34 : decode jdk_42_method_149_code 34 = .ok (.iload_n 2, 1) := by decide +kernel
theorem d2_35 : decode jdk_42_method_149_code 35 = .ok (.iload_n 3, 1) := by decide +kernel
theorem d2_36 : decode jdk_42_method_149_code 36 = .ok (.invokestatic 177, 3) := by decide +kernel
theorem d2_39 : decode jdk_42_method_149_code 39 = .ok (.astore 5, 2) := by decide +kernel
theorem d2_41 : decode jdk_42_method_149_code 41 = .ok (.aload_n 0, 1) := by decide +kernel
theorem d2_42 : decode jdk_42_method_149_code 42 = .ok (.aload 5, 2) := by decide +kernel
theorem d2_44 : decode jdk_42_method_149_code 44 = .ok (.iload_n 3, 1) := by decide +kernel
theorem d2_45 : decode jdk_42_method_149_code 45 = .ok (.invokestatic 47, 3) := by decide +kernel
theorem d2_48 : decode jdk_42_method_149_code 48 = .ok (.putfield 15, 3) := by decide +kernel
theorem d2_51 : decode jdk_42_method_149_code 51 = .ok (.aload_n 0, 1) := by decide +kernel
theorem d2_52 : decode jdk_42_method_149_code 52 = .ok (.aload 5, 2) := by decide +kernel
theorem d2_54 : decode jdk_42_method_149_code 54 = .ok (.putfield 9, 3) := by decide +kernel
theorem d2_57 : decode jdk_42_method_149_code 57 = .ok (.return_, 1) := by decide +kernel
theorem pn_2 : plainName "java/lang/String" = true := by first | (simp [plainName, overriddenIn]; done) | decide +kernel
theorem ef_2 (m : MethodId) (x0 : Addr) (x1 : Addr) (x2 : Int32) (x3 : Int32) : entryFrame m #[(.ref x0), (.ref x1), (.int x2), (.int x3), .null] 6 = mkF m 0 #[.val (.ref x0), .val (.ref x1), .val (.int x2), .val (.int x3), .val .null, .unset] [] := by first | (simp [entryFrame, mkF, argsToLocals, Value.category]; done) | rfl
theorem d1_0 : decode jdk_42_method_3_code 0 = .ok (.aload_n 0, 1) := by decide +kernel
theorem d1_1 : decode jdk_42_method_3_code 1 = .ok (.aload_n 1, 1) := by decide +kernel
theorem d1_2 : decode jdk_42_method_3_code 2 = .ok (.iconst 0, 1) := by decide +kernel
theorem d1_3 : decode jdk_42_method_3_code 3 = .ok (.aload_n 1, 1) := by decide +kernel
theorem d1_4 : decode jdk_42_method_3_code 4 = .ok (.arraylength, 1) := by decide +kernel
theorem d1_5 : decode jdk_42_method_3_code 5 = .ok (.aconst_null, 1) := by decide +kernel
theorem d1_6 : decode jdk_42_method_3_code 6 = .ok (.invokespecial 27, 3) := by decide +kernel
theorem d1_9 : decode jdk_42_method_3_code 9 = .ok (.return_, 1) := by decide +kernel
theorem pn_1 : plainName "java/lang/String" = true := by first | (simp [plainName, overriddenIn]; done) | decide +kernel
theorem ef_1 (m : MethodId) (x0 : Addr) (x1 : Addr) : entryFrame m #[(.ref x0), (.ref x1)] 2 = mkF m 0 #[.val (.ref x0), .val (.ref x1)] [] := by first | (simp [entryFrame, mkF, argsToLocals, Value.category]; done) | rfl
theorem d22_0 : decode jdk_42_method_152_code 0 = .ok (.getstatic 38, 3) := by decide +kernel
theorem d22_3 : decode jdk_42_method_152_code 3 = .ok (.ifCond .eq 10, 3) := by decide +kernel
theorem d22_6 : decode jdk_42_method_152_code 6 = .ok (.aload_n 0, 1) := by decide +kernel
theorem d22_7 : decode jdk_42_method_152_code 7 = .ok (.getfield 15, 3) := by decide +kernel
theorem d22_10 : decode jdk_42_method_152_code 10 = .ok (.goto 4, 3) := by decide +kernel
theorem d22_14 : decode jdk_42_method_152_code 14 = .ok (.ireturn, 1) := by decide +kernel
theorem pn_22 : plainName "java/lang/String" = true := by first | (simp [plainName, overriddenIn]; done) | decide +kernel
theorem ef_22 (m : MethodId) (x0 : Addr) : entryFrame m #[(.ref x0)] 1 = mkF m 0 #[.val (.ref x0)] [] := by first | (simp [entryFrame, mkF, argsToLocals, Value.category]; done) | rfl
set_option maxRecDepth 65536 in
set_option maxHeartbeats 40000000 in
theorem rmCD0 (l : Launch) (Z : State) (a0 : Array Value) (hw : ∀ d ∈ tables_1, d.before a0 Z = true) (ws : List Jvm.Cond) (o : Addr)  (h0 : Heap) (n0 : Nat) (Z0 : n0 ≤ h0.size) (O : Old Z n0 h0) (SK : StrSta Z) (EO : Exa Z h0 o "java/lang/String") (FC : Fld Z h0 o "java/lang/String" "coder" "B" (.int (0 : Int32)))  :
    MetFree l (⟨"java/lang/String", "coder", "()B"⟩ : MethodName) (head1 (Jvm.Cond.code (⟨"java/lang/String", "coder", "()B"⟩ : MethodName) jdk_42_method_152_code 1 (some .byte) :: ws) ({ frames := 0, cells := 0, slots := 0, locals := 0 } : Room)) (fun aa_ U_ => aa_ = #[(.ref o)] ∧ Z.Warmed39 U_.vm ∧ U_.heap = h0) (fun _ _ _ _ _ => True) (fun _ U_ o_ V_ => ∃ v_ L_, o_ = .returned v_ ∧ QI (0 : Int32) h0 n0 v_ V_.heap L_ ∧ FrameEnd U_ o_ V_ L_ ({ frames := 0, cells := 0, slots := 0, locals := 0 } : Room).cells ({ frames := 0, cells := 0, slots := 0, locals := 0 } : Room).slots) := by
  refine MetFree.of_bodySF (plainFor_of_name pn_22) hisR ?_
  intro p e s m args below meth c s₁ Bd hml0 hP hK
  obtain ⟨rfl, hZ, hh⟩ := hP
  have hx := Bd.exec
  have hby := Bd.bytes
  have hml : c.maxLocals = 1 := hml0
  have hown : s.vm.findClass "java/lang/String" = some m.cls := findClass_of_methodNamed Bd.named
  have hnm := (name_of_methodNamed Bd.named Bd.method).1
  have X0 : Stand p l e ({ frames := 0, cells := 0, slots := 0, locals := 0 } : Room) s m #[(.ref o)] below meth c s₁ [] 0 0 := Stand.of_body Bd
  have e0 : s₁.heap = h0 := by rw [← hh, Bd.state]; rfl
  have N0 := Fr.nil n0
  have pre0 : ∀ zz, Steps p.tables e below (s₁.setTop (mkF m 0 #[.val (.ref o)] [])) zz → Steps p.tables e below (s₁.setTop (entryFrame m #[(.ref o)] 1)) zz := fun zz kz_ => castTop (ef_22 m o) kz_
  obtain ⟨kc, hkc, hcs⟩ := SK.1
  obtain ⟨T10, X10, e10, st10⟩ := getS2 X0 hx hZ hown (host := "") (Or.inl (hwi hw 15 rfl)) Via.refl e0 (Sta.ext O.2 hcs) (g := (mkF m 0 #[.val (.ref o)] [])) rfl (hb hby d22_0)
  obtain ⟨T11, X11, e11, st11⟩ := getF X10 hx hZ hown (host := "") (Or.inl (hwi hw 27 rfl)) Via.refl e10 FC (g := (mkF m 7 #[.val (.ref o)] [(.ref o)])) rfl rfl (hb hby d22_7)
  obtain ⟨fs, hr, hrun, hended, hW, hsame⟩ := X11.leave (v := some (.int (0 : Int32))) (fun h => by rw [Bd.returns] at h; cases h)
  refine ⟨_, _, pre0 _ ?_, hrun, hended, _, _, rfl, ?_, ⟨_, rfl⟩, hW, hsame.mono (by decide) (by decide)⟩
  · show Steps p.tables e below (s₁.setTop (mkF m 0 #[.val (.ref o)] [])) _
    refine st10 _ ?_
    refine XS.ifNo X10.here hx rfl (hb hby d22_3) rfl ((if0 _ _).trans (feq hkc).1) ?_
    refine XS.aloadN X10.here hx rfl (hb hby d22_6) rfl rfl ?_
    show Steps p.tables e below (T10.setTop (mkF m 7 #[.val (.ref o)] [(.ref o)])) _
    refine st11 _ ?_
    refine XS.goto X11.here hx rfl (pc0 := 10) (pc' := 14) rfl (hb hby d22_10) (by decide) (by decide) ?_
    show Steps p.tables e below (T11.setTop (mkF m 14 #[.val (.ref o)] [(.int (0 : Int32))])) _
    exact retN X11 hx (t := .byte) Bd.returns (by simp) (hb hby d22_14) hr
  · show QI (0 : Int32) h0 n0 _ T11.heap _
    rw [e11]
    exact ⟨rfl, N0, rfl⟩
theorem d9_0 : decode jdk_42_method_154_code 0 = .ok (.getstatic 38, 3) := by decide +kernel
theorem d9_3 : decode jdk_42_method_154_code 3 = .ok (.ifCond .eq 14, 3) := by decide +kernel
theorem d9_6 : decode jdk_42_method_154_code 6 = .ok (.aload_n 0, 1) := by decide +kernel
theorem d9_7 : decode jdk_42_method_154_code 7 = .ok (.getfield 15, 3) := by decide +kernel
theorem d9_10 : decode jdk_42_method_154_code 10 = .ok (.ifCond .ne 7, 3) := by decide +kernel
theorem d9_13 : decode jdk_42_method_154_code 13 = .ok (.iconst 1, 1) := by decide +kernel
theorem d9_14 : decode jdk_42_method_154_code 14 = .ok (.goto 4, 3) := by decide +kernel
theorem d9_18 : decode jdk_42_method_154_code 18 = .ok (.ireturn, 1) := by decide +kernel
theorem pn_9 : plainName "java/lang/String" = true := by first | (simp [plainName, overriddenIn]; done) | decide +kernel
theorem ef_9 (m : MethodId) (x0 : Addr) : entryFrame m #[(.ref x0)] 1 = mkF m 0 #[.val (.ref x0)] [] := by first | (simp [entryFrame, mkF, argsToLocals, Value.category]; done) | rfl
set_option maxRecDepth 65536 in
set_option maxHeartbeats 40000000 in
theorem rmIL0 (l : Launch) (Z : State) (a0 : Array Value) (hw : ∀ d ∈ tables_1, d.before a0 Z = true) (ws : List Jvm.Cond) (o : Addr)  (h0 : Heap) (n0 : Nat) (Z0 : n0 ≤ h0.size) (O : Old Z n0 h0) (SK : StrSta Z) (EO : Exa Z h0 o "java/lang/String") (FC : Fld Z h0 o "java/lang/String" "coder" "B" (.int (0 : Int32)))  :
    MetFree l (⟨"java/lang/String", "isLatin1", "()Z"⟩ : MethodName) (head1 (Jvm.Cond.code (⟨"java/lang/String", "isLatin1", "()Z"⟩ : MethodName) jdk_42_method_154_code 1 (some .boolean) :: ws) ({ frames := 0, cells := 0, slots := 0, locals := 0 } : Room)) (fun aa_ U_ => aa_ = #[(.ref o)] ∧ Z.Warmed39 U_.vm ∧ U_.heap = h0) (fun _ _ _ _ _ => True) (fun _ U_ o_ V_ => ∃ v_ L_, o_ = .returned v_ ∧ QI (1 : Int32) h0 n0 v_ V_.heap L_ ∧ FrameEnd U_ o_ V_ L_ ({ frames := 0, cells := 0, slots := 0, locals := 0 } : Room).cells ({ frames := 0, cells := 0, slots := 0, locals := 0 } : Room).slots) := by
  refine MetFree.of_bodySF (plainFor_of_name pn_9) hisR ?_
  intro p e s m args below meth c s₁ Bd hml0 hP hK
  obtain ⟨rfl, hZ, hh⟩ := hP
  have hx := Bd.exec
  have hby := Bd.bytes
  have hml : c.maxLocals = 1 := hml0
  have hown : s.vm.findClass "java/lang/String" = some m.cls := findClass_of_methodNamed Bd.named
  have hnm := (name_of_methodNamed Bd.named Bd.method).1
  have X0 : Stand p l e ({ frames := 0, cells := 0, slots := 0, locals := 0 } : Room) s m #[(.ref o)] below meth c s₁ [] 0 0 := Stand.of_body Bd
  have e0 : s₁.heap = h0 := by rw [← hh, Bd.state]; rfl
  have N0 := Fr.nil n0
  have pre0 : ∀ zz, Steps p.tables e below (s₁.setTop (mkF m 0 #[.val (.ref o)] [])) zz → Steps p.tables e below (s₁.setTop (entryFrame m #[(.ref o)] 1)) zz := fun zz kz_ => castTop (ef_9 m o) kz_
  obtain ⟨kc, hkc, hcs⟩ := SK.1
  obtain ⟨T12, X12, e12, st12⟩ := getS2 X0 hx hZ hown (host := "") (Or.inl (hwi hw 15 rfl)) Via.refl e0 (Sta.ext O.2 hcs) (g := (mkF m 0 #[.val (.ref o)] [])) rfl (hb hby d9_0)
  obtain ⟨T13, X13, e13, st13⟩ := getF X12 hx hZ hown (host := "") (Or.inl (hwi hw 27 rfl)) Via.refl e12 FC (g := (mkF m 7 #[.val (.ref o)] [(.ref o)])) rfl rfl (hb hby d9_7)
  obtain ⟨fs, hr, hrun, hended, hW, hsame⟩ := X13.leave (v := some (.int (1 : Int32))) (fun h => by rw [Bd.returns] at h; cases h)
  refine ⟨_, _, pre0 _ ?_, hrun, hended, _, _, rfl, ?_, ⟨_, rfl⟩, hW, hsame.mono (by decide) (by decide)⟩
  · show Steps p.tables e below (s₁.setTop (mkF m 0 #[.val (.ref o)] [])) _
    refine st12 _ ?_
    refine XS.ifNo X12.here hx rfl (hb hby d9_3) rfl ((if0 _ _).trans (feq hkc).1) ?_
    refine XS.aloadN X12.here hx rfl (hb hby d9_6) rfl rfl ?_
    show Steps p.tables e below (T12.setTop (mkF m 7 #[.val (.ref o)] [(.ref o)])) _
    refine st13 _ ?_
    refine XS.ifNo X13.here hx rfl (hb hby d9_10) rfl ((if0 _ _).trans (teq (rfl : (0 : Int32) = (0 : Int32))).2) ?_
    refine XS.iconst X13.here hx rfl (hb hby d9_13) ?_
    refine XS.goto X13.here hx rfl (pc0 := 14) (pc' := 18) rfl (hb hby d9_14) (by decide) (by decide) ?_
    show Steps p.tables e below (T13.setTop (mkF m 18 #[.val (.ref o)] [(.int (1 : Int32))])) _
    exact retN X13 hx (t := .boolean) Bd.returns (by simp) (hb hby d9_18) hr
  · show QI (1 : Int32) h0 n0 _ T13.heap _
    rw [e13]
    exact ⟨rfl, N0, rfl⟩
theorem d21_0 : decode jdk_42_method_54_code 0 = .ok (.aload_n 0, 1) := by decide +kernel
theorem d21_1 : decode jdk_42_method_54_code 1 = .ok (.getfield 9, 3) := by decide +kernel
theorem d21_4 : decode jdk_42_method_54_code 4 = .ok (.arraylength, 1) := by decide +kernel
theorem d21_5 : decode jdk_42_method_54_code 5 = .ok (.aload_n 0, 1) := by decide +kernel
theorem d21_6 : decode jdk_42_method_54_code 6 = .ok (.invokevirtual 335, 3) := by decide +kernel
theorem d21_9 : decode jdk_42_method_54_code 9 = .ok (.ishr, 1) := by decide +kernel
theorem d21_10 : decode jdk_42_method_54_code 10 = .ok (.ireturn, 1) := by decide +kernel
theorem pn_21 : plainName "java/lang/String" = true := by first | (simp [plainName, overriddenIn]; done) | decide +kernel
theorem ef_21 (m : MethodId) (x0 : Addr) : entryFrame m #[(.ref x0)] 1 = mkF m 0 #[.val (.ref x0)] [] := by first | (simp [entryFrame, mkF, argsToLocals, Value.category]; done) | rfl
set_option maxRecDepth 65536 in
set_option maxHeartbeats 40000000 in
theorem rmLEN0 (l : Launch) (Z : State) (a0 : Array Value) (hw : ∀ d ∈ tables_1, d.before a0 Z = true) (ws : List Jvm.Cond) (o b : Addr) (n : Nat) (f : Nat → Value)  (h0 : Heap) (n0 : Nat) (Z0 : n0 ≤ h0.size) (hn : n ≤ 600) (O : Old Z n0 h0) (SK : StrSta Z) (EO : Exa Z h0 o "java/lang/String") (FC : Fld Z h0 o "java/lang/String" "coder" "B" (.int (0 : Int32))) (FV : Fld Z h0 o "java/lang/String" "value" "[B" (.ref b)) (FB : AF Z h0 b .byte n f)  :
    MetFree l (⟨"java/lang/String", "length", "()I"⟩ : MethodName) (head1 (Jvm.Cond.code (⟨"java/lang/String", "length", "()I"⟩ : MethodName) jdk_42_method_54_code 1 (some .int) :: ws) ({ frames := 1, cells := 0, slots := 0, locals := 14 } : Room)) (fun aa_ U_ => aa_ = #[(.ref o)] ∧ Z.Warmed39 U_.vm ∧ U_.heap = h0) (fun _ _ _ _ _ => True) (fun _ U_ o_ V_ => ∃ v_ L_, o_ = .returned v_ ∧ QI (Int32.ofNat n) h0 n0 v_ V_.heap L_ ∧ FrameEnd U_ o_ V_ L_ ({ frames := 1, cells := 0, slots := 0, locals := 14 } : Room).cells ({ frames := 1, cells := 0, slots := 0, locals := 14 } : Room).slots) := by
  refine MetFree.of_bodySF (plainFor_of_name pn_21) hisR ?_
  intro p e s m args below meth c s₁ Bd hml0 hP hK
  obtain ⟨rfl, hZ, hh⟩ := hP
  have hx := Bd.exec
  have hby := Bd.bytes
  have hml : c.maxLocals = 1 := hml0
  have hown : s.vm.findClass "java/lang/String" = some m.cls := findClass_of_methodNamed Bd.named
  have hnm := (name_of_methodNamed Bd.named Bd.method).1
  have X0 : Stand p l e ({ frames := 1, cells := 0, slots := 0, locals := 14 } : Room) s m #[(.ref o)] below meth c s₁ [] 0 0 := Stand.of_body Bd
  have e0 : s₁.heap = h0 := by rw [← hh, Bd.state]; rfl
  have N0 := Fr.nil n0
  have pre0 : ∀ zz, Steps p.tables e below (s₁.setTop (mkF m 0 #[.val (.ref o)] [])) zz → Steps p.tables e below (s₁.setTop (entryFrame m #[(.ref o)] 1)) zz := fun zz kz_ => castTop (ef_21 m o) kz_
  obtain ⟨T14, X14, e14, st14⟩ := getF X0 hx hZ hown (host := "") (Or.inl (hwi hw 29 rfl)) Via.refl e0 FV (g := (mkF m 1 #[.val (.ref o)] [(.ref o)])) rfl rfl (hb hby d21_1)
  obtain ⟨cq15, kq15, q15a, q15b, q15c⟩ := isOf hZ e14 EO
  obtain ⟨_, _, ⟨T15, L15, k15, n15⟩, -, X15, ⟨Lc15, hQ15, l15, y15, z15⟩, st15⟩ := X14.virtualBack hx (y := (⟨"java/lang/String", "coder", "()B"⟩ : MethodName)) (z := (⟨"java/lang/String", "coder", "()B"⟩ : MethodName)) hown (mvT hZ (hwi hw 124 rfl)) (mvT hZ (hwi hw 125 rfl)) (notFace_of_selects (args := #[]) (mvT hZ (hwi hw 127 rfl))) (mvT hZ (hwi hw 127 rfl)) (mvT hZ (hwi hw 126 rfl)) (by decide) (backOf (W := 1) (rmCD0 l Z a0 hw [] o h0 n0 Z0 O SK EO FC) hZ (hwi hw 128 rfl) (hwi hw 3 rfl) (by decide) (by decide)) q15a q15c (g := (mkF m 6 #[.val (.ref o)] [(.ref o), (.int (Int32.ofNat n))])) rfl (by rw [hml]; rfl) (Steps.refl _) (argsL := []) (rest := [(.int (Int32.ofNat n))]) (lenOf pd_18 rfl) rfl (by show 2 * 0 + _ ≤ _; exact Nat.le_of_eq rfl) (hb hby d21_6) (fun _ _ => ⟨rfl, e14, (by decide : 0 + 0 ≤ _), (by decide : 0 + 0 ≤ _)⟩)
  dsimp only [Pt.U, Pt.locs, Pt.cells, Pt.slots] at X15 l15 y15 z15 st15 hQ15
  obtain rfl : k15 = 0 := y15; obtain rfl : n15 = 0 := z15
  obtain ⟨rfl, N15q, e15⟩ := hQ15
  have N15 : Fr n0 L15 := by rw [l15]; exact Fr.app N0 N15q
  obtain ⟨fs, hr, hrun, hended, hW, hsame⟩ := X15.leave (v := some (.int (Int32.ofNat n))) (fun h => by rw [Bd.returns] at h; cases h)
  refine ⟨_, _, pre0 _ ?_, hrun, hended, _, _, rfl, ?_, ⟨_, rfl⟩, hW, hsame.mono (by decide) (by decide)⟩
  · show Steps p.tables e below (s₁.setTop (mkF m 0 #[.val (.ref o)] [])) _
    refine XS.aloadN X0.here hx rfl (hb hby d21_0) rfl rfl ?_
    show Steps p.tables e below (s₁.setTop (mkF m 1 #[.val (.ref o)] [(.ref o)])) _
    refine st14 _ ?_
    show Steps p.tables e below (T14.setTop (mkF m 4 #[.val (.ref o)] [(.ref b)])) _
    refine lenA X14 hx hZ e14 FB (g := (mkF m 4 #[.val (.ref o)] [(.ref b)])) rfl rfl (hb hby d21_4) ?_
    refine XS.aloadN X14.here hx rfl (hb hby d21_5) rfl rfl ?_
    show Steps p.tables e below (T14.setTop (mkF m 6 #[.val (.ref o)] [(.ref o), (.int (Int32.ofNat n))])) _
    refine st15.trans ?_
    refine XS.ishr X15.here hx rfl (hb hby d21_9) rfl ?_
    show Steps p.tables e below (T15.setTop (mkF m 10 #[.val (.ref o)] [(.int ((Int32.ofNat n) >>> ((0 : Int32) &&& 31)))])) _
    rw [show ((Int32.ofNat n) >>> ((0 : Int32) &&& 31)) = (Int32.ofNat n) from shr0 _]
    show Steps p.tables e below (T15.setTop (mkF m 10 #[.val (.ref o)] [(.int (Int32.ofNat n))])) _
    exact retI X15 hx Bd.returns (hb hby d21_10) hr
  · show QI (Int32.ofNat n) h0 n0 _ T15.heap _
    rw [e15]
    exact ⟨rfl, N15, rfl⟩
theorem d41_0 : decode jdk_65_method_131_code 0 = .ok (.iload_n 1, 1) := by decide +kernel
theorem d41_1 : decode jdk_65_method_131_code 1 = .ok (.iload_n 0, 1) := by decide +kernel
theorem d41_2 : decode jdk_65_method_131_code 2 = .ok (.if_icmp .ge 35, 3) := by decide +kernel
theorem d41_37 : decode jdk_65_method_131_code 37 = .ok (.return_, 1) := by decide +kernel
theorem pn_41 : plainName "java/util/Arrays" = true := by first | (simp [plainName, overriddenIn]; done) | decide +kernel
theorem ef_41 (m : MethodId) (x0 : Int32) (x1 : Int32) : entryFrame m #[(.int x0), (.int x1)] 2 = mkF m 0 #[.val (.int x0), .val (.int x1)] [] := by first | (simp [entryFrame, mkF, argsToLocals, Value.category]; done) | rfl
set_option maxRecDepth 65536 in
set_option maxHeartbeats 40000000 in
theorem rmCKL (l : Launch) (Z : State) (a0 : Array Value) (hw : ∀ d ∈ tables_1, d.before a0 Z = true) (ws : List Jvm.Cond) (k : Nat)  (h0 : Heap) (n0 : Nat) (Z0 : n0 ≤ h0.size) (hk : k ≤ 600)  :
    MetFree l (⟨"java/util/Arrays", "checkLength", "(II)V"⟩ : MethodName) (head1 (Jvm.Cond.code (⟨"java/util/Arrays", "checkLength", "(II)V"⟩ : MethodName) jdk_65_method_131_code 2 none :: ws) ({ frames := 0, cells := 0, slots := 0, locals := 0 } : Room)) (fun aa_ U_ => aa_ = #[(.int (0 : Int32)), (.int (Int32.ofNat k))] ∧ Z.Warmed39 U_.vm ∧ U_.heap = h0) (fun _ _ _ _ _ => True) (fun _ U_ o_ V_ => ∃ v_ L_, o_ = .returned v_ ∧ QN  h0 n0 v_ V_.heap L_ ∧ FrameEnd U_ o_ V_ L_ ({ frames := 0, cells := 0, slots := 0, locals := 0 } : Room).cells ({ frames := 0, cells := 0, slots := 0, locals := 0 } : Room).slots) := by
  refine MetFree.of_bodySF (plainFor_of_name pn_41) hisR ?_
  intro p e s m args below meth c s₁ Bd hml0 hP hK
  obtain ⟨rfl, hZ, hh⟩ := hP
  have hx := Bd.exec
  have hby := Bd.bytes
  have hml : c.maxLocals = 2 := hml0
  have hown : s.vm.findClass "java/util/Arrays" = some m.cls := findClass_of_methodNamed Bd.named
  have hnm := (name_of_methodNamed Bd.named Bd.method).1
  have X0 : Stand p l e ({ frames := 0, cells := 0, slots := 0, locals := 0 } : Room) s m #[(.int (0 : Int32)), (.int (Int32.ofNat k))] below meth c s₁ [] 0 0 := Stand.of_body Bd
  have e0 : s₁.heap = h0 := by rw [← hh, Bd.state]; rfl
  have N0 := Fr.nil n0
  have pre0 : ∀ zz, Steps p.tables e below (s₁.setTop (mkF m 0 #[.val (.int (0 : Int32)), .val (.int (Int32.ofNat k))] [])) zz → Steps p.tables e below (s₁.setTop (entryFrame m #[(.int (0 : Int32)), (.int (Int32.ofNat k))] 2)) zz := fun zz kz_ => castTop (ef_41 m (0 : Int32) (Int32.ofNat k)) kz_
  obtain ⟨fs, hr, hrun, hended, hW, hsame⟩ := X0.leave (v := none) (fun _ => rfl)
  refine ⟨_, _, pre0 _ ?_, hrun, hended, _, _, rfl, ?_, ⟨_, rfl⟩, hW, hsame.mono (by decide) (by decide)⟩
  · show Steps p.tables e below (s₁.setTop (mkF m 0 #[.val (.int (0 : Int32)), .val (.int (Int32.ofNat k))] [])) _
    refine XS.iloadN X0.here hx rfl (hb hby d41_0) rfl ?_
    refine XS.iloadN X0.here hx rfl (hb hby d41_1) rfl ?_
    refine XS.icmpYes X0.here hx rfl (pc0 := 2) (pc' := 37) rfl (hb hby d41_2) rfl (flt (nnN (by omega))).2.1 (by decide) (by decide) ?_
    show Steps p.tables e below (s₁.setTop (mkF m 37 #[.val (.int (0 : Int32)), .val (.int (Int32.ofNat k))] [])) _
    exact X0.returnOut hx Bd.returns (hb hby d41_37) hr
  · show QN  h0 n0 _ s₁.heap _
    rw [e0]
    exact ⟨rfl, N0, rfl⟩
theorem d28_0 : decode jdk_29_method_69_code 0 = .ok (.iload_n 0, 1) := by decide +kernel
theorem d28_1 : decode jdk_29_method_69_code 1 = .ok (.iload_n 1, 1) := by decide +kernel
theorem d28_2 : decode jdk_29_method_69_code 2 = .ok (.if_icmp .gt 7, 3) := by decide +kernel
theorem d28_5 : decode jdk_29_method_69_code 5 = .ok (.iload_n 0, 1) := by decide +kernel
theorem d28_6 : decode jdk_29_method_69_code 6 = .ok (.goto 4, 3) := by decide +kernel
theorem d28_9 : decode jdk_29_method_69_code 9 = .ok (.iload_n 1, 1) := by decide +kernel
theorem d28_10 : decode jdk_29_method_69_code 10 = .ok (.ireturn, 1) := by decide +kernel
theorem ef_28 (m : MethodId) (x0 : Int32) (x1 : Int32) : entryFrame m #[(.int x0), (.int x1)] 2 = mkF m 0 #[.val (.int x0), .val (.int x1)] [] := by first | (simp [entryFrame, mkF, argsToLocals, Value.category]; done) | rfl
set_option maxRecDepth 65536 in
set_option maxHeartbeats 40000000 in
theorem rmMIN (l : Launch) (Z : State) (a0 : Array Value) (hw : ∀ d ∈ tables_1, d.before a0 Z = true) (ws : List Jvm.Cond) (n k : Nat)  (h0 : Heap) (n0 : Nat) (Z0 : n0 ≤ h0.size) (hn : n ≤ 600) (hk : k < n)  :
    MetFree l (⟨"java/lang/Math", "min", "(II)I"⟩ : MethodName) (head1 (Jvm.Cond.code (⟨"java/lang/Math", "min", "(II)I"⟩ : MethodName) jdk_29_method_69_code 2 (some .int) :: ws) ({ frames := 0, cells := 0, slots := 0, locals := 0 } : Room)) (fun aa_ U_ => aa_ = #[(.int (Int32.ofNat n)), (.int (Int32.ofNat k))] ∧ Z.Warmed39 U_.vm ∧ U_.heap = h0) (fun _ _ _ _ _ => True) (fun _ U_ o_ V_ => ∃ v_ L_, o_ = .returned v_ ∧ QI (Int32.ofNat k) h0 n0 v_ V_.heap L_ ∧ FrameEnd U_ o_ V_ L_ ({ frames := 0, cells := 0, slots := 0, locals := 0 } : Room).cells ({ frames := 0, cells := 0, slots := 0, locals := 0 } : Room).slots) := by
  refine MetFree.of_bodySF (Jvm.Free.JP.mathPlain rfl (by decide +kernel)) hisR ?_
  intro p e s m args below meth c s₁ Bd hml0 hP hK
  obtain ⟨rfl, hZ, hh⟩ := hP
  have hx := Bd.exec
  have hby := Bd.bytes
  have hml : c.maxLocals = 2 := hml0
  have hown : s.vm.findClass "java/lang/Math" = some m.cls := findClass_of_methodNamed Bd.named
  have hnm := (name_of_methodNamed Bd.named Bd.method).1
  have X0 : Stand p l e ({ frames := 0, cells := 0, slots := 0, locals := 0 } : Room) s m #[(.int (Int32.ofNat n)), (.int (Int32.ofNat k))] below meth c s₁ [] 0 0 := Stand.of_body Bd
  have e0 : s₁.heap = h0 := by rw [← hh, Bd.state]; rfl
  have N0 := Fr.nil n0
  have pre0 : ∀ zz, Steps p.tables e below (s₁.setTop (mkF m 0 #[.val (.int (Int32.ofNat n)), .val (.int (Int32.ofNat k))] [])) zz → Steps p.tables e below (s₁.setTop (entryFrame m #[(.int (Int32.ofNat n)), (.int (Int32.ofNat k))] 2)) zz := fun zz kz_ => castTop (ef_28 m (Int32.ofNat n) (Int32.ofNat k)) kz_
  obtain ⟨fs, hr, hrun, hended, hW, hsame⟩ := X0.leave (v := some (.int (Int32.ofNat k))) (fun h => by rw [Bd.returns] at h; cases h)
  refine ⟨_, _, pre0 _ ?_, hrun, hended, _, _, rfl, ?_, ⟨_, rfl⟩, hW, hsame.mono (by decide) (by decide)⟩
  · show Steps p.tables e below (s₁.setTop (mkF m 0 #[.val (.int (Int32.ofNat n)), .val (.int (Int32.ofNat k))] [])) _
    refine XS.iloadN X0.here hx rfl (hb hby d28_0) rfl ?_
    refine XS.iloadN X0.here hx rfl (hb hby d28_1) rfl ?_
    refine XS.icmpYes X0.here hx rfl (pc0 := 2) (pc' := 9) rfl (hb hby d28_2) rfl (tlt ((ltN (by omega) (by omega)).mpr hk)).2.2.1 (by decide) (by decide) ?_
    refine XS.iloadN X0.here hx rfl (hb hby d28_9) rfl ?_
    show Steps p.tables e below (s₁.setTop (mkF m 10 #[.val (.int (Int32.ofNat n)), .val (.int (Int32.ofNat k))] [(.int (Int32.ofNat k))])) _
    exact retI X0 hx Bd.returns (hb hby d28_10) hr
  · show QI (Int32.ofNat k) h0 n0 _ s₁.heap _
    rw [e0]
    exact ⟨rfl, N0, rfl⟩
theorem d40_0 : decode jdk_65_method_133_code 0 = .ok (.iload_n 1, 1) := by decide +kernel
theorem d40_1 : decode jdk_65_method_133_code 1 = .ok (.iload_n 2, 1) := by decide +kernel
theorem d40_2 : decode jdk_65_method_133_code 2 = .ok (.invokestatic 343, 3) := by decide +kernel
theorem d40_5 : decode jdk_65_method_133_code 5 = .ok (.iload_n 2, 1) := by decide +kernel
theorem d40_6 : decode jdk_65_method_133_code 6 = .ok (.iload_n 1, 1) := by decide +kernel
theorem d40_7 : decode jdk_65_method_133_code 7 = .ok (.isub, 1) := by decide +kernel
theorem d40_8 : decode jdk_65_method_133_code 8 = .ok (.istore_n 3, 1) := by decide +kernel
theorem d40_9 : decode jdk_65_method_133_code 9 = .ok (.iload_n 3, 1) := by decide +kernel
theorem d40_10 : decode jdk_65_method_133_code 10 = .ok (.newarray .byte, 2) := by decide +kernel
theorem d40_12 : decode jdk_65_method_133_code 12 = .ok (.astore 4, 2) := by decide +kernel
theorem d40_14 : decode jdk_65_method_133_code 14 = .ok (.aload_n 0, 1) := by decide +kernel
theorem d40_15 : decode jdk_65_method_133_code 15 = .ok (.iload_n 1, 1) := by decide +kernel
theorem d40_16 : decode jdk_65_method_133_code 16 = .ok (.aload 4, 2) := by decide +kernel
theorem d40_18 : decode jdk_65_method_133_code 18 = .ok (.iconst 0, 1) := by decide +kernel
theorem d40_19 : decode jdk_65_method_133_code 19 = .ok (.aload_n 0, 1) := by decide +kernel
theorem d40_20 : decode jdk_65_method_133_code 20 = .ok (.arraylength, 1) := by decide +kernel
theorem d40_21 : decode jdk_65_method_133_code 21 = .ok (.iload_n 1, 1) := by decide +kernel
theorem d40_22 : decode jdk_65_method_133_code 22 = .ok (.isub, 1) := by decide +kernel
theorem d40_23 : decode jdk_65_method_133_code 23 = .ok (.iload_n 3, 1) := by decide +kernel
theorem d40_24 : decode jdk_65_method_133_code 24 = .ok (.invokestatic 304, 3) := by decide +kernel
theorem d40_27 : decode jdk_65_method_133_code 27 = .ok (.invokestatic 150, 3) := by decide +kernel
theorem d40_30 : decode jdk_65_method_133_code 30 = .ok (.aload 4, 2) := by decide +kernel
theorem d40_32 : decode jdk_65_method_133_code 32 = .ok (.areturn, 1) := by decide +kernel
theorem pn_40 : plainName "java/util/Arrays" = true := by first | (simp [plainName, overriddenIn]; done) | decide +kernel
theorem ef_40 (m : MethodId) (x0 : Addr) (x1 : Int32) (x2 : Int32) : entryFrame m #[(.ref x0), (.int x1), (.int x2)] 5 = mkF m 0 #[.val (.ref x0), .val (.int x1), .val (.int x2), .unset, .unset] [] := by first | (simp [entryFrame, mkF, argsToLocals, Value.category]; done) | rfl
set_option maxRecDepth 65536 in
set_option maxHeartbeats 40000000 in
theorem rmCRB (l : Launch) (Z : State) (a0 : Array Value) (hw : ∀ d ∈ tables_1, d.before a0 Z = true) (ws : List Jvm.Cond) (b : Addr) (n k : Nat) (f : Nat → Value)  (h0 : Heap) (n0 : Nat) (Z0 : n0 ≤ h0.size) (hn : n ≤ 600) (hk : k < n) (FB : AF Z h0 b .byte n f) (hft : ∀ j, j < n → fits .byte (f j) = true)  :
    MetFree l (⟨"java/util/Arrays", "copyOfRangeByte", "([BII)[B"⟩ : MethodName) (head1 (Jvm.Cond.code (⟨"java/util/Arrays", "copyOfRangeByte", "([BII)[B"⟩ : MethodName) jdk_65_method_133_code 5 (some (.array .byte)) :: ws) ({ frames := 1, cells := 1, slots := 600, locals := 40 } : Room)) (fun aa_ U_ => aa_ = #[(.ref b), (.int (0 : Int32)), (.int (Int32.ofNat k))] ∧ Z.Warmed39 U_.vm ∧ U_.heap = h0) (fun _ _ _ _ _ => True) (fun _ U_ o_ V_ => ∃ v_ L_, o_ = .returned v_ ∧ QA Z .byte k f h0 n0 v_ V_.heap L_ ∧ FrameEnd U_ o_ V_ L_ ({ frames := 1, cells := 1, slots := 600, locals := 40 } : Room).cells ({ frames := 1, cells := 1, slots := 600, locals := 40 } : Room).slots) := by
  refine MetFree.of_bodySF (plainFor_of_name pn_40) hisR ?_
  intro p e s m args below meth c s₁ Bd hml0 hP hK
  obtain ⟨rfl, hZ, hh⟩ := hP
  have hx := Bd.exec
  have hby := Bd.bytes
  have hml : c.maxLocals = 5 := hml0
  have hown : s.vm.findClass "java/util/Arrays" = some m.cls := findClass_of_methodNamed Bd.named
  have hnm := (name_of_methodNamed Bd.named Bd.method).1
  have X0 : Stand p l e ({ frames := 1, cells := 1, slots := 600, locals := 40 } : Room) s m #[(.ref b), (.int (0 : Int32)), (.int (Int32.ofNat k))] below meth c s₁ [] 0 0 := Stand.of_body Bd
  have e0 : s₁.heap = h0 := by rw [← hh, Bd.state]; rfl
  have N0 := Fr.nil n0
  have pre0 : ∀ zz, Steps p.tables e below (s₁.setTop (mkF m 0 #[.val (.ref b), .val (.int (0 : Int32)), .val (.int (Int32.ofNat k)), .unset, .unset] [])) zz → Steps p.tables e below (s₁.setTop (entryFrame m #[(.ref b), (.int (0 : Int32)), (.int (Int32.ofNat k))] 5)) zz := fun zz kz_ => castTop (ef_40 m b (0 : Int32) (Int32.ofNat k)) kz_
  obtain ⟨_, _, ⟨T16, L16, k16, n16⟩, -, X16, ⟨Lc16, hQ16, l16, y16, z16⟩, st16⟩ := Jvm.LawKit.callS X0 hx (y := (⟨"java/util/Arrays", "checkLength", "(II)V"⟩ : MethodName)) hown (mvT hZ (hwi hw 214 rfl)) (mvT hZ (hwi hw 215 rfl)) (mvT hZ (hwi hw 152 rfl)) (mvT hZ (hwi hw 216 rfl)) (by decide) (backOf (W := 0) (rmCKL l Z a0 hw [] k h0 n0 Z0 (by omega)) hZ (hwi hw 216 rfl) (hwi hw 152 rfl) (by decide) (by decide)) (g := (mkF m 2 #[.val (.ref b), .val (.int (0 : Int32)), .val (.int (Int32.ofNat k)), .unset, .unset] [(.int (Int32.ofNat k)), (.int (0 : Int32))])) rfl (by rw [hml]; rfl) (argsL := [(.int (0 : Int32)), (.int (Int32.ofNat k))]) (rest := []) (lenOf pd_32 rfl) rfl (by show 2 * 0 + _ ≤ _; exact Nat.le_of_eq rfl) (hb hby d40_2) (fun _ _ => ⟨rfl, e0, (by decide : 0 + 0 ≤ _), (by decide : 0 + 0 ≤ _)⟩)
  dsimp only [Pt.U, Pt.locs, Pt.cells, Pt.slots] at X16 l16 y16 z16 st16 hQ16
  obtain rfl : k16 = 0 := y16; obtain rfl : n16 = 0 := z16
  obtain ⟨rfl, N16q, e16⟩ := hQ16
  have N16 : Fr n0 L16 := by rw [l16]; exact Fr.app N0 N16q
  obtain ⟨T17, h17, X17, e17, E17, A17, st17⟩ := nwA X16 hx hZ (hwi hw 20 rfl) e16 (g := (mkF m 10 #[.val (.ref b), .val (.int (0 : Int32)), .val (.int (Int32.ofNat k)), .val (.int (Int32.ofNat k)), .unset] [(.int (Int32.ofNat k))])) rfl (hb hby d40_10) (n := k) rfl (cap := 600) (by omega) (by decide) (by decide) (by decide)
  obtain ⟨b17, q17⟩ : ∃ z, z = h0.size := ⟨_, rfl⟩
  rw [← q17] at A17 st17
  have V17 : AF Z h17 b17 .byte k (fun _ => (.int (0 : Int32))) := A17
  have g_b17 : n0 ≤ b17 := Nat.le_trans Z0 (Nat.le_of_eq q17.symm)
  have sz_b17 : h0.size ≤ b17 := Nat.le_trans (Keep.refl h0 []).1 (Nat.le_of_eq q17.symm)
  have K17 := (Keep.refl h0 []).ext E17
  have Z17 : n0 ≤ h17.size := Nat.le_trans Z0 E17.1
  have ne_b_b17 : b ≠ b17 := Nat.ne_of_lt (Nat.lt_of_lt_of_le FB.lt (Nat.le_of_eq q17.symm))
  have FB_e17 := FB.ext E17
  obtain ⟨_, _, ⟨T18, L18, k18, n18⟩, -, X18, ⟨Lc18, hQ18, l18, y18, z18⟩, st18⟩ := Jvm.LawKit.callS X17 hx (y := (⟨"java/lang/Math", "min", "(II)I"⟩ : MethodName)) hown (mvT hZ (hwi hw 154 rfl)) (mvT hZ (hwi hw 155 rfl)) (mvT hZ (hwi hw 146 rfl)) (mvT hZ (hwi hw 156 rfl)) (by decide) (backOf (W := 4) (rmMIN l Z a0 hw [] n k h17 n0 Z17 hn hk) hZ (hwi hw 156 rfl) (hwi hw 146 rfl) (by decide) (by decide)) (g := (mkF m 24 #[.val (.ref b), .val (.int (0 : Int32)), .val (.int (Int32.ofNat k)), .val (.int (Int32.ofNat k)), .val (.ref b17)] [(.int (Int32.ofNat k)), (.int (Int32.ofNat n)), (.int (0 : Int32)), (.ref b17), (.int (0 : Int32)), (.ref b)])) rfl (by rw [hml]; rfl) (argsL := [(.int (Int32.ofNat n)), (.int (Int32.ofNat k))]) (rest := [(.int (0 : Int32)), (.ref b17), (.int (0 : Int32)), (.ref b)]) (lenOf pd_21 rfl) rfl (by show 2 * 0 + _ ≤ _; exact Nat.le_of_eq rfl) (hb hby d40_24) (fun _ _ => ⟨rfl, e17, (by decide : 1 + 0 ≤ _), (by decide : 600 + 0 ≤ _)⟩)
  dsimp only [Pt.U, Pt.locs, Pt.cells, Pt.slots] at X18 l18 y18 z18 st18 hQ18
  obtain rfl : k18 = 1 := y18; obtain rfl : n18 = 600 := z18
  obtain ⟨rfl, N18q, e18⟩ := hQ18
  have N18 : Fr n0 L18 := by rw [l18]; exact Fr.app N16 N18q
  obtain ⟨T19, h19, L19, X19, e19, N19, K19, A19, st19⟩ := cpF X18 hx hZ hown (hwi hw 157 rfl) (hwi hw 160 rfl) (hwi hw 158 rfl) (hwi hw 159 rfl) e18 FB_e17 V17 rfl (by omega) (by omega) (by omega) (by omega) hft (fun _ _ => by decide) N18 g_b17 (g := (mkF m 27 #[.val (.ref b), .val (.int (0 : Int32)), .val (.int (Int32.ofNat k)), .val (.int (Int32.ofNat k)), .val (.ref b17)] [(.int (Int32.ofNat k)), (.int (0 : Int32)), (.ref b17), (.int (0 : Int32)), (.ref b)])) rfl (by rw [hml]; rfl) rfl (hb hby d40_27) (by decide) (W := 0) (by show 2 * 0 + _ ≤ _; exact Nat.le_of_eq rfl) (by decide)
  have FB_e19 := FB_e17.keep K19 (notin1 ne_b_b17)
  have KK19 := K17.trans K19 (fun x r => by cases List.mem_singleton.mp r; exact (Or.inr sz_b17))
  have Z19 : n0 ≤ h19.size := Nat.le_trans Z17 K19.1
  obtain ⟨fs, hr, hrun, hended, hW, hsame⟩ := X19.leave (v := some (.ref b17)) (fun h => by rw [Bd.returns] at h; cases h)
  refine ⟨_, _, pre0 _ ?_, hrun, hended, _, _, rfl, ?_, ⟨_, rfl⟩, hW, hsame.mono (by decide) (by decide)⟩
  · show Steps p.tables e below (s₁.setTop (mkF m 0 #[.val (.ref b), .val (.int (0 : Int32)), .val (.int (Int32.ofNat k)), .unset, .unset] [])) _
    refine XS.iloadN X0.here hx rfl (hb hby d40_0) rfl ?_
    refine XS.iloadN X0.here hx rfl (hb hby d40_1) rfl ?_
    show Steps p.tables e below (s₁.setTop (mkF m 2 #[.val (.ref b), .val (.int (0 : Int32)), .val (.int (Int32.ofNat k)), .unset, .unset] [(.int (Int32.ofNat k)), (.int (0 : Int32))])) _
    refine st16 _ ?_
    refine XS.iloadN X16.here hx rfl (hb hby d40_5) rfl ?_
    refine XS.iloadN X16.here hx rfl (hb hby d40_6) rfl ?_
    refine XS.isub X16.here hx rfl (hb hby d40_7) rfl ?_
    show Steps p.tables e below (T16.setTop (mkF m 8 #[.val (.ref b), .val (.int (0 : Int32)), .val (.int (Int32.ofNat k)), .unset, .unset] [(.int ((Int32.ofNat k) - (0 : Int32)))])) _
    rw [show ((Int32.ofNat k) - (0 : Int32)) = (Int32.ofNat k) from Int32.sub_zero _]
    show Steps p.tables e below (T16.setTop (mkF m 8 #[.val (.ref b), .val (.int (0 : Int32)), .val (.int (Int32.ofNat k)), .unset, .unset] [(.int (Int32.ofNat k))])) _
    refine XS.istoreN X16.here hx rfl (hb hby d40_8) rfl (l' := #[.val (.ref b), .val (.int (0 : Int32)), .val (.int (Int32.ofNat k)), .val (.int (Int32.ofNat k)), .unset]) rfl ?_
    refine XS.iloadN X16.here hx rfl (hb hby d40_9) rfl ?_
    show Steps p.tables e below (T16.setTop (mkF m 10 #[.val (.ref b), .val (.int (0 : Int32)), .val (.int (Int32.ofNat k)), .val (.int (Int32.ofNat k)), .unset] [(.int (Int32.ofNat k))])) _
    refine st17 _ ?_
    refine XS.astore X17.here hx rfl (hb hby d40_12) rfl rfl (l' := #[.val (.ref b), .val (.int (0 : Int32)), .val (.int (Int32.ofNat k)), .val (.int (Int32.ofNat k)), .val (.ref b17)]) rfl ?_
    refine XS.aloadN X17.here hx rfl (hb hby d40_14) rfl rfl ?_
    refine XS.iloadN X17.here hx rfl (hb hby d40_15) rfl ?_
    refine XS.aload X17.here hx rfl (hb hby d40_16) rfl rfl ?_
    refine XS.iconst X17.here hx rfl (hb hby d40_18) ?_
    show Steps p.tables e below (T17.setTop (mkF m 19 #[.val (.ref b), .val (.int (0 : Int32)), .val (.int (Int32.ofNat k)), .val (.int (Int32.ofNat k)), .val (.ref b17)] [(.int (0 : Int32)), (.ref b17), (.int (0 : Int32)), (.ref b)])) _
    refine XS.aloadN X17.here hx rfl (hb hby d40_19) rfl rfl ?_
    show Steps p.tables e below (T17.setTop (mkF m 20 #[.val (.ref b), .val (.int (0 : Int32)), .val (.int (Int32.ofNat k)), .val (.int (Int32.ofNat k)), .val (.ref b17)] [(.ref b), (.int (0 : Int32)), (.ref b17), (.int (0 : Int32)), (.ref b)])) _
    refine lenA X17 hx hZ e17 FB_e17 (g := (mkF m 20 #[.val (.ref b), .val (.int (0 : Int32)), .val (.int (Int32.ofNat k)), .val (.int (Int32.ofNat k)), .val (.ref b17)] [(.ref b), (.int (0 : Int32)), (.ref b17), (.int (0 : Int32)), (.ref b)])) rfl rfl (hb hby d40_20) ?_
    refine XS.iloadN X17.here hx rfl (hb hby d40_21) rfl ?_
    refine XS.isub X17.here hx rfl (hb hby d40_22) rfl ?_
    show Steps p.tables e below (T17.setTop (mkF m 23 #[.val (.ref b), .val (.int (0 : Int32)), .val (.int (Int32.ofNat k)), .val (.int (Int32.ofNat k)), .val (.ref b17)] [(.int ((Int32.ofNat n) - (0 : Int32))), (.int (0 : Int32)), (.ref b17), (.int (0 : Int32)), (.ref b)])) _
    rw [show ((Int32.ofNat n) - (0 : Int32)) = (Int32.ofNat n) from Int32.sub_zero _]
    show Steps p.tables e below (T17.setTop (mkF m 23 #[.val (.ref b), .val (.int (0 : Int32)), .val (.int (Int32.ofNat k)), .val (.int (Int32.ofNat k)), .val (.ref b17)] [(.int (Int32.ofNat n)), (.int (0 : Int32)), (.ref b17), (.int (0 : Int32)), (.ref b)])) _
    refine XS.iloadN X17.here hx rfl (hb hby d40_23) rfl ?_
    show Steps p.tables e below (T17.setTop (mkF m 24 #[.val (.ref b), .val (.int (0 : Int32)), .val (.int (Int32.ofNat k)), .val (.int (Int32.ofNat k)), .val (.ref b17)] [(.int (Int32.ofNat k)), (.int (Int32.ofNat n)), (.int (0 : Int32)), (.ref b17), (.int (0 : Int32)), (.ref b)])) _
    refine st18 _ ?_
    show Steps p.tables e below (T18.setTop (mkF m 27 #[.val (.ref b), .val (.int (0 : Int32)), .val (.int (Int32.ofNat k)), .val (.int (Int32.ofNat k)), .val (.ref b17)] [(.int (Int32.ofNat k)), (.int (0 : Int32)), (.ref b17), (.int (0 : Int32)), (.ref b)])) _
    refine st19 _ ?_
    refine XS.aload X19.here hx rfl (hb hby d40_30) rfl rfl ?_
    show Steps p.tables e below (T19.setTop (mkF m 32 #[.val (.ref b), .val (.int (0 : Int32)), .val (.int (Int32.ofNat k)), .val (.int (Int32.ofNat k)), .val (.ref b17)] [(.ref b17)])) _
    jvm_step X19.here [X19.here.top, hx, (hb hby d40_32), X19.method', Bd.returns, Value.isRef, FieldType.isReference]
    first | (intro acts; rw [hr _ acts rfl rfl rfl]) | rw [hr _ _ rfl rfl rfl]
    exact Steps.refl _
  · show QA Z .byte k f h0 n0 _ T19.heap _
    exact ⟨b17, rfl, N19, by rw [e19]; exact KK19, sz_b17, by rw [e19]; exact A19.congr fun j hj => if_pos hj⟩
theorem d39_0 : decode jdk_65_method_132_code 0 = .ok (.iload_n 1, 1) := by decide +kernel
theorem d39_1 : decode jdk_65_method_132_code 1 = .ok (.ifCond .ne 9, 3) := by decide +kernel
theorem d39_4 : decode jdk_65_method_132_code 4 = .ok (.iload_n 2, 1) := by decide +kernel
theorem d39_5 : decode jdk_65_method_132_code 5 = .ok (.aload_n 0, 1) := by decide +kernel
theorem d39_6 : decode jdk_65_method_132_code 6 = .ok (.arraylength, 1) := by decide +kernel
theorem d39_7 : decode jdk_65_method_132_code 7 = .ok (.if_icmp .eq 10, 3) := by decide +kernel
theorem d39_10 : decode jdk_65_method_132_code 10 = .ok (.aload_n 0, 1) := by decide +kernel
theorem d39_11 : decode jdk_65_method_132_code 11 = .ok (.iload_n 1, 1) := by decide +kernel
theorem d39_12 : decode jdk_65_method_132_code 12 = .ok (.iload_n 2, 1) := by decide +kernel
theorem d39_13 : decode jdk_65_method_132_code 13 = .ok (.invokestatic 339, 3) := by decide +kernel
theorem d39_16 : decode jdk_65_method_132_code 16 = .ok (.areturn, 1) := by decide +kernel
theorem d39_17 : decode jdk_65_method_132_code 17 = .ok (.aload_n 0, 1) := by decide +kernel
theorem d39_18 : decode jdk_65_method_132_code 18 = .ok (.invokevirtual 310, 3) := by decide +kernel
theorem d39_21 : decode jdk_65_method_132_code 21 = .ok (.checkcast 311, 3) := by decide +kernel
theorem d39_24 : decode jdk_65_method_132_code 24 = .ok (.areturn, 1) := by decide +kernel
theorem pn_39 : plainName "java/util/Arrays" = true := by first | (simp [plainName, overriddenIn]; done) | decide +kernel
theorem ef_39 (m : MethodId) (x0 : Addr) (x1 : Int32) (x2 : Int32) : entryFrame m #[(.ref x0), (.int x1), (.int x2)] 3 = mkF m 0 #[.val (.ref x0), .val (.int x1), .val (.int x2)] [] := by first | (simp [entryFrame, mkF, argsToLocals, Value.category]; done) | rfl
set_option maxRecDepth 65536 in
set_option maxHeartbeats 40000000 in
theorem rmCR (l : Launch) (Z : State) (a0 : Array Value) (hw : ∀ d ∈ tables_1, d.before a0 Z = true) (ws : List Jvm.Cond) (b : Addr) (n k : Nat) (f : Nat → Value)  (h0 : Heap) (n0 : Nat) (Z0 : n0 ≤ h0.size) (hn : n ≤ 600) (hk : k < n) (FB : AF Z h0 b .byte n f) (hft : ∀ j, j < n → fits .byte (f j) = true)  :
    MetFree l (⟨"java/util/Arrays", "copyOfRange", "([BII)[B"⟩ : MethodName) (head1 (Jvm.Cond.code (⟨"java/util/Arrays", "copyOfRange", "([BII)[B"⟩ : MethodName) jdk_65_method_132_code 3 (some (.array .byte)) :: ws) ({ frames := 2, cells := 1, slots := 600, locals := 60 } : Room)) (fun aa_ U_ => aa_ = #[(.ref b), (.int (0 : Int32)), (.int (Int32.ofNat k))] ∧ Z.Warmed39 U_.vm ∧ U_.heap = h0) (fun _ _ _ _ _ => True) (fun _ U_ o_ V_ => ∃ v_ L_, o_ = .returned v_ ∧ QA Z .byte k f h0 n0 v_ V_.heap L_ ∧ FrameEnd U_ o_ V_ L_ ({ frames := 2, cells := 1, slots := 600, locals := 60 } : Room).cells ({ frames := 2, cells := 1, slots := 600, locals := 60 } : Room).slots) := by
  refine MetFree.of_bodySF (plainFor_of_name pn_39) hisR ?_
  intro p e s m args below meth c s₁ Bd hml0 hP hK
  obtain ⟨rfl, hZ, hh⟩ := hP
  have hx := Bd.exec
  have hby := Bd.bytes
  have hml : c.maxLocals = 3 := hml0
  have hown : s.vm.findClass "java/util/Arrays" = some m.cls := findClass_of_methodNamed Bd.named
  have hnm := (name_of_methodNamed Bd.named Bd.method).1
  have X0 : Stand p l e ({ frames := 2, cells := 1, slots := 600, locals := 60 } : Room) s m #[(.ref b), (.int (0 : Int32)), (.int (Int32.ofNat k))] below meth c s₁ [] 0 0 := Stand.of_body Bd
  have e0 : s₁.heap = h0 := by rw [← hh, Bd.state]; rfl
  have N0 := Fr.nil n0
  have pre0 : ∀ zz, Steps p.tables e below (s₁.setTop (mkF m 0 #[.val (.ref b), .val (.int (0 : Int32)), .val (.int (Int32.ofNat k))] [])) zz → Steps p.tables e below (s₁.setTop (entryFrame m #[(.ref b), (.int (0 : Int32)), (.int (Int32.ofNat k))] 3)) zz := fun zz kz_ => castTop (ef_39 m b (0 : Int32) (Int32.ofNat k)) kz_
  obtain ⟨_, _, ⟨T20, L20, k20, n20⟩, -, X20, ⟨Lc20, hQ20, l20, y20, z20⟩, st20⟩ := Jvm.LawKit.callS X0 hx (y := (⟨"java/util/Arrays", "copyOfRangeByte", "([BII)[B"⟩ : MethodName)) hown (mvT hZ (hwi hw 211 rfl)) (mvT hZ (hwi hw 212 rfl)) (mvT hZ (hwi hw 152 rfl)) (mvT hZ (hwi hw 213 rfl)) (by decide) (backOf (W := 0) (rmCRB l Z a0 hw [] b n k f h0 n0 Z0 hn hk FB hft) hZ (hwi hw 213 rfl) (hwi hw 152 rfl) (by decide) (by decide)) (g := (mkF m 13 #[.val (.ref b), .val (.int (0 : Int32)), .val (.int (Int32.ofNat k))] [(.int (Int32.ofNat k)), (.int (0 : Int32)), (.ref b)])) rfl (by rw [hml]; rfl) (argsL := [(.ref b), (.int (0 : Int32)), (.int (Int32.ofNat k))]) (rest := []) (lenOf pd_31 rfl) rfl (by show 2 * 0 + _ ≤ _; exact Nat.le_of_eq rfl) (hb hby d39_13) (fun _ _ => ⟨rfl, e0, (by decide : 0 + 1 ≤ _), (by decide : 0 + 600 ≤ _)⟩)
  dsimp only [Pt.U, Pt.locs, Pt.cells, Pt.slots] at X20 l20 y20 z20 st20 hQ20
  obtain rfl : k20 = 1 := y20; obtain rfl : n20 = 600 := z20
  obtain ⟨b20, rfl, N20q, K20, zq20, A20⟩ := hQ20
  have N20 : Fr n0 L20 := by rw [l20]; exact Fr.app N0 N20q
  have ne_b_b20 : b ≠ b20 := Nat.ne_of_lt (Nat.lt_of_lt_of_le FB.lt zq20)
  have g_b20 : n0 ≤ b20 := Nat.le_trans Z0 zq20
  have sz_b20 : h0.size ≤ b20 := Nat.le_trans (Keep.refl h0 []).1 zq20
  have FB_e20 := FB.keep K20 List.not_mem_nil
  have KK20 := (Keep.refl h0 []).trans K20 (fun x r => absurd r List.not_mem_nil)
  have Z20 : n0 ≤ T20.heap.size := Nat.le_trans Z0 K20.1
  obtain ⟨fs, hr, hrun, hended, hW, hsame⟩ := X20.leave (v := some (.ref b20)) (fun h => by rw [Bd.returns] at h; cases h)
  refine ⟨_, _, pre0 _ ?_, hrun, hended, _, _, rfl, ?_, ⟨_, rfl⟩, hW, hsame.mono (by decide) (by decide)⟩
  · show Steps p.tables e below (s₁.setTop (mkF m 0 #[.val (.ref b), .val (.int (0 : Int32)), .val (.int (Int32.ofNat k))] [])) _
    refine XS.iloadN X0.here hx rfl (hb hby d39_0) rfl ?_
    refine XS.ifNo X0.here hx rfl (hb hby d39_1) rfl ((if0 _ _).trans (teq (rfl : (0 : Int32) = (0 : Int32))).2) ?_
    refine XS.iloadN X0.here hx rfl (hb hby d39_4) rfl ?_
    refine XS.aloadN X0.here hx rfl (hb hby d39_5) rfl rfl ?_
    show Steps p.tables e below (s₁.setTop (mkF m 6 #[.val (.ref b), .val (.int (0 : Int32)), .val (.int (Int32.ofNat k))] [(.ref b), (.int (Int32.ofNat k))])) _
    refine lenA X0 hx hZ e0 FB (g := (mkF m 6 #[.val (.ref b), .val (.int (0 : Int32)), .val (.int (Int32.ofNat k))] [(.ref b), (.int (Int32.ofNat k))])) rfl rfl (hb hby d39_6) ?_
    refine XS.icmpNo X0.here hx rfl (hb hby d39_7) rfl (feq (neN (by omega) (by omega) (by omega))).1 ?_
    refine XS.aloadN X0.here hx rfl (hb hby d39_10) rfl rfl ?_
    refine XS.iloadN X0.here hx rfl (hb hby d39_11) rfl ?_
    refine XS.iloadN X0.here hx rfl (hb hby d39_12) rfl ?_
    show Steps p.tables e below (s₁.setTop (mkF m 13 #[.val (.ref b), .val (.int (0 : Int32)), .val (.int (Int32.ofNat k))] [(.int (Int32.ofNat k)), (.int (0 : Int32)), (.ref b)])) _
    refine st20 _ ?_
    show Steps p.tables e below (T20.setTop (mkF m 16 #[.val (.ref b), .val (.int (0 : Int32)), .val (.int (Int32.ofNat k))] [(.ref b20)])) _
    jvm_step X20.here [X20.here.top, hx, (hb hby d39_16), X20.method', Bd.returns, Value.isRef, FieldType.isReference]
    first | (intro acts; rw [hr _ acts rfl rfl rfl]) | rw [hr _ _ rfl rfl rfl]
    exact Steps.refl _
  · show QA Z .byte k f h0 n0 _ T20.heap _
    exact ⟨b20, rfl, N20, KK20, sz_b20, A20⟩
set_option maxRecDepth 65536 in
set_option maxHeartbeats 40000000 in
theorem rmLEN (l : Launch) (Z : State) (a0 : Array Value) (hw : ∀ d ∈ tables_1, d.before a0 Z = true) (ws : List Jvm.Cond) (o : Addr) (n : Nat) (f : Nat → Value)  (h0 : Heap) (n0 : Nat) (Z0 : n0 ≤ h0.size) (hn : n ≤ 600) (O : Old Z n0 h0) (SK : StrSta Z) (S : StrV Z h0 o n f)  :
    MetFree l (⟨"java/lang/String", "length", "()I"⟩ : MethodName) (head1 (Jvm.Cond.code (⟨"java/lang/String", "length", "()I"⟩ : MethodName) jdk_42_method_54_code 1 (some .int) :: ws) ({ frames := 1, cells := 0, slots := 0, locals := 14 } : Room)) (fun aa_ U_ => aa_ = #[(.ref o)] ∧ Z.Warmed39 U_.vm ∧ U_.heap = h0) (fun _ _ _ _ _ => True) (fun _ U_ o_ V_ => ∃ v_ L_, o_ = .returned v_ ∧ QI (Int32.ofNat n) h0 n0 v_ V_.heap L_ ∧ FrameEnd U_ o_ V_ L_ ({ frames := 1, cells := 0, slots := 0, locals := 14 } : Room).cells ({ frames := 1, cells := 0, slots := 0, locals := 14 } : Room).slots) := by
  obtain ⟨EO, b, FV, FC, FB⟩ := S
  exact rmLEN0 l Z a0 hw ws o b n f h0 n0 Z0 hn O SK EO FC FV FB
theorem d14_0 : decode jdk_43_method_13_code 0 = .ok (.aload_n 0, 1) := by decide +kernel
theorem d14_1 : decode jdk_43_method_13_code 1 = .ok (.arraylength, 1) := by decide +kernel
theorem d14_2 : decode jdk_43_method_13_code 2 = .ok (.aload_n 1, 1) := by decide +kernel
theorem d14_3 : decode jdk_43_method_13_code 3 = .ok (.arraylength, 1) := by decide +kernel
theorem d14_4 : decode jdk_43_method_13_code 4 = .ok (.if_icmp .ne 30, 3) := by decide +kernel
theorem d14_7 : decode jdk_43_method_13_code 7 = .ok (.iconst 0, 1) := by decide +kernel
theorem d14_8 : decode jdk_43_method_13_code 8 = .ok (.istore_n 2, 1) := by decide +kernel
theorem d14_9 : decode jdk_43_method_13_code 9 = .ok (.iload_n 2, 1) := by decide +kernel
theorem d14_10 : decode jdk_43_method_13_code 10 = .ok (.aload_n 0, 1) := by decide +kernel
theorem d14_11 : decode jdk_43_method_13_code 11 = .ok (.arraylength, 1) := by decide +kernel
theorem d14_12 : decode jdk_43_method_13_code 12 = .ok (.if_icmp .ge 20, 3) := by decide +kernel
theorem d14_15 : decode jdk_43_method_13_code 15 = .ok (.aload_n 0, 1) := by decide +kernel
theorem d14_16 : decode jdk_43_method_13_code 16 = .ok (.iload_n 2, 1) := by decide +kernel
theorem d14_17 : decode jdk_43_method_13_code 17 = .ok (.baload, 1) := by decide +kernel
theorem d14_18 : decode jdk_43_method_13_code 18 = .ok (.aload_n 1, 1) := by decide +kernel
theorem d14_19 : decode jdk_43_method_13_code 19 = .ok (.iload_n 2, 1) := by decide +kernel
theorem d14_20 : decode jdk_43_method_13_code 20 = .ok (.baload, 1) := by decide +kernel
theorem d14_21 : decode jdk_43_method_13_code 21 = .ok (.if_icmp .eq 5, 3) := by decide +kernel
theorem d14_26 : decode jdk_43_method_13_code 26 = .ok (.iinc 2 1, 3) := by decide +kernel
theorem d14_29 : decode jdk_43_method_13_code 29 = .ok (.goto (-20), 3) := by decide +kernel
theorem d14_32 : decode jdk_43_method_13_code 32 = .ok (.iconst 1, 1) := by decide +kernel
theorem d14_33 : decode jdk_43_method_13_code 33 = .ok (.ireturn, 1) := by decide +kernel
theorem pn_14 : plainName "java/lang/StringLatin1" = true := by first | (simp [plainName, overriddenIn]; done) | decide +kernel
theorem ef_14 (m : MethodId) (x0 : Addr) (x1 : Addr) : entryFrame m #[(.ref x0), (.ref x1)] 3 = mkF m 0 #[.val (.ref x0), .val (.ref x1), .unset] [] := by first | (simp [entryFrame, mkF, argsToLocals, Value.category]; done) | rfl
set_option maxRecDepth 65536 in
set_option maxHeartbeats 40000000 in
theorem tnEQ {p : Program} {l : Launch} {e : Env} {R : Room} {s : State} {m : MethodId} {args : Array Value} {below : List Frame} {meth : Method} {c : Code} {T0 : State} {locs : List Loc} {cells slots : Nat} {Z : State} {a0 : Array Value} {h0 : Heap} (b d : Addr) (i n : Nat) (w : Nat → Int32) (X0 : Stand p l e R s m args below meth c T0 locs cells slots) (hx : p.tables.exec = Jvm.exec) (hZ : Z.Warmed39 s.vm) (hw : ∀ d ∈ tables_1, d.before a0 Z = true) (hby : c.code = jdk_43_method_13_code) (hown : s.vm.findClass "java/lang/StringLatin1" = some m.cls) (e0 : T0.heap = h0) (hn : n ≤ 600) (hi : i < n) (FB : AF Z h0 b .byte n (fun j => Value.int (w j))) (FD : AF Z h0 d .byte n (fun j => Value.int (w j))) {target : State} (kt : Steps p.tables e below (T0.setTop (mkF m 9 #[.val (.ref b), .val (.ref d), .val (.int (Int32.ofNat (i + 1)))] [])) target) : Steps p.tables e below (T0.setTop (mkF m 9 #[.val (.ref b), .val (.ref d), .val (.int (Int32.ofNat i))] [])) target := by
  show Steps p.tables e below (T0.setTop (mkF m 9 #[.val (.ref b), .val (.ref d), .val (.int (Int32.ofNat i))] [])) _
  refine XS.iloadN X0.here hx rfl (hb hby d14_9) rfl ?_
  refine XS.aloadN X0.here hx rfl (hb hby d14_10) rfl rfl ?_
  show Steps p.tables e below (T0.setTop (mkF m 11 #[.val (.ref b), .val (.ref d), .val (.int (Int32.ofNat i))] [(.ref b), (.int (Int32.ofNat i))])) _
  refine lenA X0 hx hZ e0 FB (g := (mkF m 11 #[.val (.ref b), .val (.ref d), .val (.int (Int32.ofNat i))] [(.ref b), (.int (Int32.ofNat i))])) rfl rfl (hb hby d14_11) ?_
  refine XS.icmpNo X0.here hx rfl (hb hby d14_12) rfl (tlt ((ltN (by omega) (by omega)).mpr hi)).2.1 ?_
  refine XS.aloadN X0.here hx rfl (hb hby d14_15) rfl rfl ?_
  refine XS.iloadN X0.here hx rfl (hb hby d14_16) rfl ?_
  show Steps p.tables e below (T0.setTop (mkF m 17 #[.val (.ref b), .val (.ref d), .val (.int (Int32.ofNat i))] [(.int (Int32.ofNat i)), (.ref b)])) _
  refine ldBy X0 hx hZ e0 FB (i := i) hi (by omega) (v := (.int (w i))) rfl (g := (mkF m 17 #[.val (.ref b), .val (.ref d), .val (.int (Int32.ofNat i))] [(.int (Int32.ofNat i)), (.ref b)])) rfl rfl (hb hby d14_17) ?_
  refine XS.aloadN X0.here hx rfl (hb hby d14_18) rfl rfl ?_
  refine XS.iloadN X0.here hx rfl (hb hby d14_19) rfl ?_
  show Steps p.tables e below (T0.setTop (mkF m 20 #[.val (.ref b), .val (.ref d), .val (.int (Int32.ofNat i))] [(.int (Int32.ofNat i)), (.ref d), (.int (w i))])) _
  refine ldBy X0 hx hZ e0 FD (i := i) hi (by omega) (v := (.int (w i))) rfl (g := (mkF m 20 #[.val (.ref b), .val (.ref d), .val (.int (Int32.ofNat i))] [(.int (Int32.ofNat i)), (.ref d), (.int (w i))])) rfl rfl (hb hby d14_20) ?_
  refine XS.icmpYes X0.here hx rfl (pc0 := 21) (pc' := 26) rfl (hb hby d14_21) rfl (teq (rfl : (w i) = (w i))).1 (by decide) (by decide) ?_
  refine XS.iinc X0.here hx rfl (hb hby d14_26) rfl (l' := #[.val (.ref b), .val (.ref d), .val (.int ((Int32.ofNat i) + (1 : Int32)))]) rfl ?_
  show Steps p.tables e below (T0.setTop (mkF m 29 #[.val (.ref b), .val (.ref d), .val (.int ((Int32.ofNat i) + (1 : Int32)))] [])) _
  rw [show ((Int32.ofNat i) + (1 : Int32)) = (Int32.ofNat (i + 1)) from succN i]
  show Steps p.tables e below (T0.setTop (mkF m 29 #[.val (.ref b), .val (.ref d), .val (.int (Int32.ofNat (i + 1)))] [])) _
  refine XS.goto X0.here hx rfl (pc0 := 29) (pc' := 9) rfl (hb hby d14_29) (by decide) (by decide) ?_
  exact kt
set_option maxRecDepth 65536 in
set_option maxHeartbeats 40000000 in
theorem exEQ {p : Program} {l : Launch} {e : Env} {R : Room} {s : State} {m : MethodId} {args : Array Value} {below : List Frame} {meth : Method} {c : Code} {T0 : State} {locs : List Loc} {cells slots : Nat} {Z : State} {a0 : Array Value} {h0 : Heap} (b d : Addr) (n : Nat) (w : Nat → Int32) (X0 : Stand p l e R s m args below meth c T0 locs cells slots) (hx : p.tables.exec = Jvm.exec) (hZ : Z.Warmed39 s.vm) (hw : ∀ d ∈ tables_1, d.before a0 Z = true) (hby : c.code = jdk_43_method_13_code) (hown : s.vm.findClass "java/lang/StringLatin1" = some m.cls) (e0 : T0.heap = h0) (hn : n ≤ 600) (FB : AF Z h0 b .byte n (fun j => Value.int (w j))) {target : State} (kt : Steps p.tables e below (T0.setTop (mkF m 32 #[.val (.ref b), .val (.ref d), .val (.int (Int32.ofNat n))] [])) target) : Steps p.tables e below (T0.setTop (mkF m 9 #[.val (.ref b), .val (.ref d), .val (.int (Int32.ofNat n))] [])) target := by
  show Steps p.tables e below (T0.setTop (mkF m 9 #[.val (.ref b), .val (.ref d), .val (.int (Int32.ofNat n))] [])) _
  refine XS.iloadN X0.here hx rfl (hb hby d14_9) rfl ?_
  refine XS.aloadN X0.here hx rfl (hb hby d14_10) rfl rfl ?_
  show Steps p.tables e below (T0.setTop (mkF m 11 #[.val (.ref b), .val (.ref d), .val (.int (Int32.ofNat n))] [(.ref b), (.int (Int32.ofNat n))])) _
  refine lenA X0 hx hZ e0 FB (g := (mkF m 11 #[.val (.ref b), .val (.ref d), .val (.int (Int32.ofNat n))] [(.ref b), (.int (Int32.ofNat n))])) rfl rfl (hb hby d14_11) ?_
  refine XS.icmpYes X0.here hx rfl (pc0 := 12) (pc' := 32) rfl (hb hby d14_12) rfl (flt (fun q => absurd ((ltN (by omega) (by omega)).mp q) (Nat.lt_irrefl _))).2.1 (by decide) (by decide) ?_
  exact kt
set_option maxRecDepth 65536 in
set_option maxHeartbeats 40000000 in
theorem lpEQ {p : Program} {l : Launch} {e : Env} {R : Room} {s : State} {m : MethodId} {args : Array Value} {below : List Frame} {meth : Method} {c : Code} {T0 : State} {locs : List Loc} {cells slots : Nat} {Z : State} {a0 : Array Value} {h0 : Heap} (b d : Addr) (n : Nat) (w : Nat → Int32) (X0 : Stand p l e R s m args below meth c T0 locs cells slots) (hx : p.tables.exec = Jvm.exec) (hZ : Z.Warmed39 s.vm) (hw : ∀ d ∈ tables_1, d.before a0 Z = true) (hby : c.code = jdk_43_method_13_code) (hown : s.vm.findClass "java/lang/StringLatin1" = some m.cls) (e0 : T0.heap = h0) (hn : n ≤ 600) (FB : AF Z h0 b .byte n (fun j => Value.int (w j))) (FD : AF Z h0 d .byte n (fun j => Value.int (w j))) {target : State} (kt : Steps p.tables e below (T0.setTop (mkF m 32 #[.val (.ref b), .val (.ref d), .val (.int (Int32.ofNat n))] [])) target) : ∀ k i, i + k = n → Steps p.tables e below (T0.setTop (mkF m 9 #[.val (.ref b), .val (.ref d), .val (.int (Int32.ofNat i))] [])) target := by
  intro k
  induction k with
  | zero => intro i hk; obtain rfl : i = n := by omega
            exact exEQ b d i w X0 hx hZ hw hby hown e0 hn FB kt
  | succ k ih => intro i hk; exact tnEQ b d i n w X0 hx hZ hw hby hown e0 hn (by omega) FB FD (ih (i + 1) (by omega))
set_option maxRecDepth 65536 in
set_option maxHeartbeats 40000000 in
theorem rmLEQ (l : Launch) (Z : State) (a0 : Array Value) (hw : ∀ d ∈ tables_1, d.before a0 Z = true) (ws : List Jvm.Cond) (b d : Addr) (n : Nat) (w : Nat → Int32)  (h0 : Heap) (n0 : Nat) (Z0 : n0 ≤ h0.size) (hn : n ≤ 600) (FB : AF Z h0 b .byte n (fun j => Value.int (w j))) (FD : AF Z h0 d .byte n (fun j => Value.int (w j)))  :
    MetFree l (⟨"java/lang/StringLatin1", "equals", "([B[B)Z"⟩ : MethodName) (head1 (Jvm.Cond.code (⟨"java/lang/StringLatin1", "equals", "([B[B)Z"⟩ : MethodName) jdk_43_method_13_code 3 (some .boolean) :: ws) ({ frames := 0, cells := 0, slots := 0, locals := 0 } : Room)) (fun aa_ U_ => aa_ = #[(.ref b), (.ref d)] ∧ Z.Warmed39 U_.vm ∧ U_.heap = h0) (fun _ _ _ _ _ => True) (fun _ U_ o_ V_ => ∃ v_ L_, o_ = .returned v_ ∧ QI (1 : Int32) h0 n0 v_ V_.heap L_ ∧ FrameEnd U_ o_ V_ L_ ({ frames := 0, cells := 0, slots := 0, locals := 0 } : Room).cells ({ frames := 0, cells := 0, slots := 0, locals := 0 } : Room).slots) := by
  refine MetFree.of_bodySF (plainFor_of_name pn_14) hisR ?_
  intro p e s m args below meth c s₁ Bd hml0 hP hK
  obtain ⟨rfl, hZ, hh⟩ := hP
  have hx := Bd.exec
  have hby := Bd.bytes
  have hml : c.maxLocals = 3 := hml0
  have hown : s.vm.findClass "java/lang/StringLatin1" = some m.cls := findClass_of_methodNamed Bd.named
  have hnm := (name_of_methodNamed Bd.named Bd.method).1
  have X0 : Stand p l e ({ frames := 0, cells := 0, slots := 0, locals := 0 } : Room) s m #[(.ref b), (.ref d)] below meth c s₁ [] 0 0 := Stand.of_body Bd
  have e0 : s₁.heap = h0 := by rw [← hh, Bd.state]; rfl
  have N0 := Fr.nil n0
  have pre0 : ∀ zz, Steps p.tables e below (s₁.setTop (mkF m 0 #[.val (.ref b), .val (.ref d), .unset] [])) zz → Steps p.tables e below (s₁.setTop (entryFrame m #[(.ref b), (.ref d)] 3)) zz := fun zz kz_ => castTop (ef_14 m b d) kz_
  obtain ⟨fs, hr, hrun, hended, hW, hsame⟩ := X0.leave (v := some (.int (1 : Int32))) (fun h => by rw [Bd.returns] at h; cases h)
  refine ⟨_, _, pre0 _ ?_, hrun, hended, _, _, rfl, ?_, ⟨_, rfl⟩, hW, hsame.mono (by decide) (by decide)⟩
  · show Steps p.tables e below (s₁.setTop (mkF m 0 #[.val (.ref b), .val (.ref d), .unset] [])) _
    refine XS.aloadN X0.here hx rfl (hb hby d14_0) rfl rfl ?_
    show Steps p.tables e below (s₁.setTop (mkF m 1 #[.val (.ref b), .val (.ref d), .unset] [(.ref b)])) _
    refine lenA X0 hx hZ e0 FB (g := (mkF m 1 #[.val (.ref b), .val (.ref d), .unset] [(.ref b)])) rfl rfl (hb hby d14_1) ?_
    refine XS.aloadN X0.here hx rfl (hb hby d14_2) rfl rfl ?_
    show Steps p.tables e below (s₁.setTop (mkF m 3 #[.val (.ref b), .val (.ref d), .unset] [(.ref d), (.int (Int32.ofNat n))])) _
    refine lenA X0 hx hZ e0 FD (g := (mkF m 3 #[.val (.ref b), .val (.ref d), .unset] [(.ref d), (.int (Int32.ofNat n))])) rfl rfl (hb hby d14_3) ?_
    refine XS.icmpNo X0.here hx rfl (hb hby d14_4) rfl (teq (rfl : (Int32.ofNat n) = (Int32.ofNat n))).2 ?_
    refine XS.iconst X0.here hx rfl (hb hby d14_7) ?_
    refine XS.istoreN X0.here hx rfl (hb hby d14_8) rfl (l' := #[.val (.ref b), .val (.ref d), .val (.int (0 : Int32))]) rfl ?_
    show Steps p.tables e below (s₁.setTop (mkF m 9 #[.val (.ref b), .val (.ref d), .val (.int (Int32.ofNat 0))] [])) _
    refine lpEQ b d n w X0 hx hZ hw hby hown e0 hn FB FD ?_ n 0 (by omega)
    refine XS.iconst X0.here hx rfl (hb hby d14_32) ?_
    show Steps p.tables e below (s₁.setTop (mkF m 33 #[.val (.ref b), .val (.ref d), .val (.int (Int32.ofNat n))] [(.int (1 : Int32))])) _
    exact retN X0 hx (t := .boolean) Bd.returns (by simp) (hb hby d14_33) hr
  · show QI (1 : Int32) h0 n0 _ s₁.heap _
    rw [e0]
    exact ⟨rfl, N0, rfl⟩
theorem d13_0 : decode jdk_42_method_66_code 0 = .ok (.aload_n 0, 1) := by decide +kernel
theorem d13_1 : decode jdk_42_method_66_code 1 = .ok (.aload_n 1, 1) := by decide +kernel
theorem d13_2 : decode jdk_42_method_66_code 2 = .ok (.if_acmp .ne 5, 3) := by decide +kernel
theorem d13_5 : decode jdk_42_method_66_code 5 = .ok (.iconst 1, 1) := by decide +kernel
theorem d13_6 : decode jdk_42_method_66_code 6 = .ok (.ireturn, 1) := by decide +kernel
theorem d13_7 : decode jdk_42_method_66_code 7 = .ok (.aload_n 1, 1) := by decide +kernel
theorem d13_8 : decode jdk_42_method_66_code 8 = .ok (.instanceof 10, 3) := by decide +kernel
theorem d13_11 : decode jdk_42_method_66_code 11 = .ok (.ifCond .eq 43, 3) := by decide +kernel
theorem d13_14 : decode jdk_42_method_66_code 14 = .ok (.aload_n 1, 1) := by decide +kernel
theorem d13_15 : decode jdk_42_method_66_code 15 = .ok (.checkcast 10, 3) := by decide +kernel
theorem d13_18 : decode jdk_42_method_66_code 18 = .ok (.astore_n 2, 1) := by decide +kernel
theorem d13_19 : decode jdk_42_method_66_code 19 = .ok (.getstatic 38, 3) := by decide +kernel
theorem d13_22 : decode jdk_42_method_66_code 22 = .ok (.ifCond .eq 14, 3) := by decide +kernel
theorem d13_25 : decode jdk_42_method_66_code 25 = .ok (.aload_n 0, 1) := by decide +kernel
theorem d13_26 : decode jdk_42_method_66_code 26 = .ok (.getfield 15, 3) := by decide +kernel
theorem d13_29 : decode jdk_42_method_66_code 29 = .ok (.aload_n 2, 1) := by decide +kernel
theorem d13_30 : decode jdk_42_method_66_code 30 = .ok (.getfield 15, 3) := by decide +kernel
theorem d13_33 : decode jdk_42_method_66_code 33 = .ok (.if_icmp .ne 21, 3) := by decide +kernel
theorem d13_36 : decode jdk_42_method_66_code 36 = .ok (.aload_n 0, 1) := by decide +kernel
theorem d13_37 : decode jdk_42_method_66_code 37 = .ok (.getfield 9, 3) := by decide +kernel
theorem d13_40 : decode jdk_42_method_66_code 40 = .ok (.aload_n 2, 1) := by decide +kernel
theorem d13_41 : decode jdk_42_method_66_code 41 = .ok (.getfield 9, 3) := by decide +kernel
theorem d13_44 : decode jdk_42_method_66_code 44 = .ok (.invokestatic 541, 3) := by decide +kernel
theorem d13_47 : decode jdk_42_method_66_code 47 = .ok (.ifCond .eq 7, 3) := by decide +kernel
theorem d13_50 : decode jdk_42_method_66_code 50 = .ok (.iconst 1, 1) := by decide +kernel
theorem d13_51 : decode jdk_42_method_66_code 51 = .ok (.goto 4, 3) := by decide +kernel
theorem d13_55 : decode jdk_42_method_66_code 55 = .ok (.ireturn, 1) := by decide +kernel
theorem pn_13 : plainName "java/lang/String" = true := by first | (simp [plainName, overriddenIn]; done) | decide +kernel
theorem ef_13 (m : MethodId) (x0 : Addr) (x1 : Addr) : entryFrame m #[(.ref x0), (.ref x1)] 3 = mkF m 0 #[.val (.ref x0), .val (.ref x1), .unset] [] := by first | (simp [entryFrame, mkF, argsToLocals, Value.category]; done) | rfl
set_option maxRecDepth 65536 in
set_option maxHeartbeats 40000000 in
theorem rmEQs (l : Launch) (Z : State) (a0 : Array Value) (hw : ∀ d ∈ tables_1, d.before a0 Z = true) (ws : List Jvm.Cond) (o : Addr)  (h0 : Heap) (n0 : Nat) (Z0 : n0 ≤ h0.size)   :
    MetFree l (⟨"java/lang/String", "equals", "(Ljava/lang/Object;)Z"⟩ : MethodName) (head1 (Jvm.Cond.code (⟨"java/lang/String", "equals", "(Ljava/lang/Object;)Z"⟩ : MethodName) jdk_42_method_66_code 3 (some .boolean) :: ws) ({ frames := 1, cells := 0, slots := 0, locals := 20 } : Room)) (fun aa_ U_ => aa_ = #[(.ref o), (.ref o)] ∧ Z.Warmed39 U_.vm ∧ U_.heap = h0) (fun _ _ _ _ _ => True) (fun _ U_ o_ V_ => ∃ v_ L_, o_ = .returned v_ ∧ QI (1 : Int32) h0 n0 v_ V_.heap L_ ∧ FrameEnd U_ o_ V_ L_ ({ frames := 1, cells := 0, slots := 0, locals := 20 } : Room).cells ({ frames := 1, cells := 0, slots := 0, locals := 20 } : Room).slots) := by
  refine MetFree.of_bodySF (plainFor_of_name pn_13) hisR ?_
  intro p e s m args below meth c s₁ Bd hml0 hP hK
  obtain ⟨rfl, hZ, hh⟩ := hP
  have hx := Bd.exec
  have hby := Bd.bytes
  have hml : c.maxLocals = 3 := hml0
  have hown : s.vm.findClass "java/lang/String" = some m.cls := findClass_of_methodNamed Bd.named
  have hnm := (name_of_methodNamed Bd.named Bd.method).1
  have X0 : Stand p l e ({ frames := 1, cells := 0, slots := 0, locals := 20 } : Room) s m #[(.ref o), (.ref o)] below meth c s₁ [] 0 0 := Stand.of_body Bd
  have e0 : s₁.heap = h0 := by rw [← hh, Bd.state]; rfl
  have N0 := Fr.nil n0
  have pre0 : ∀ zz, Steps p.tables e below (s₁.setTop (mkF m 0 #[.val (.ref o), .val (.ref o), .unset] [])) zz → Steps p.tables e below (s₁.setTop (entryFrame m #[(.ref o), (.ref o)] 3)) zz := fun zz kz_ => castTop (ef_13 m o o) kz_
  obtain ⟨fs, hr, hrun, hended, hW, hsame⟩ := X0.leave (v := some (.int (1 : Int32))) (fun h => by rw [Bd.returns] at h; cases h)
  refine ⟨_, _, pre0 _ ?_, hrun, hended, _, _, rfl, ?_, ⟨_, rfl⟩, hW, hsame.mono (by decide) (by decide)⟩
  · show Steps p.tables e below (s₁.setTop (mkF m 0 #[.val (.ref o), .val (.ref o), .unset] [])) _
    refine XS.aloadN X0.here hx rfl (hb hby d13_0) rfl rfl ?_
    refine XS.aloadN X0.here hx rfl (hb hby d13_1) rfl rfl ?_
    refine Jvm.RoadKit.acmp (g := (mkF m 2 #[.val (.ref o), .val (.ref o), .unset] [(.ref o), (.ref o)])) X0 hx rfl rfl rfl (pc0 := 2) (pc' := 5) (same := true) rfl (hb hby d13_2) rfl (decide_eq_true rfl) (by decide) (by decide) ?_
    refine XS.iconst X0.here hx rfl (hb hby d13_5) ?_
    show Steps p.tables e below (s₁.setTop (mkF m 6 #[.val (.ref o), .val (.ref o), .unset] [(.int (1 : Int32))])) _
    exact retN X0 hx (t := .boolean) Bd.returns (by simp) (hb hby d13_6) hr
  · show QI (1 : Int32) h0 n0 _ s₁.heap _
    rw [e0]
    exact ⟨rfl, N0, rfl⟩
set_option maxRecDepth 65536 in
set_option maxHeartbeats 40000000 in
theorem rmEQd (l : Launch) (Z : State) (a0 : Array Value) (hw : ∀ d ∈ tables_1, d.before a0 Z = true) (ws : List Jvm.Cond) (o o2 b d : Addr) (n : Nat) (w : Nat → Int32)  (h0 : Heap) (n0 : Nat) (Z0 : n0 ≤ h0.size) (hn : n ≤ 600) (O : Old Z n0 h0) (SK : StrSta Z) (hne : ¬ (o = o2)) (EO : Exa Z h0 o "java/lang/String") (FC : Fld Z h0 o "java/lang/String" "coder" "B" (.int (0 : Int32))) (FV : Fld Z h0 o "java/lang/String" "value" "[B" (.ref b)) (EO2 : Exa Z h0 o2 "java/lang/String") (FC2 : Fld Z h0 o2 "java/lang/String" "coder" "B" (.int (0 : Int32))) (FV2 : Fld Z h0 o2 "java/lang/String" "value" "[B" (.ref d)) (FB : AF Z h0 b .byte n (fun j => Value.int (w j))) (FD : AF Z h0 d .byte n (fun j => Value.int (w j)))  :
    MetFree l (⟨"java/lang/String", "equals", "(Ljava/lang/Object;)Z"⟩ : MethodName) (head1 (Jvm.Cond.code (⟨"java/lang/String", "equals", "(Ljava/lang/Object;)Z"⟩ : MethodName) jdk_42_method_66_code 3 (some .boolean) :: ws) ({ frames := 1, cells := 0, slots := 0, locals := 20 } : Room)) (fun aa_ U_ => aa_ = #[(.ref o), (.ref o2)] ∧ Z.Warmed39 U_.vm ∧ U_.heap = h0) (fun _ _ _ _ _ => True) (fun _ U_ o_ V_ => ∃ v_ L_, o_ = .returned v_ ∧ QI (1 : Int32) h0 n0 v_ V_.heap L_ ∧ FrameEnd U_ o_ V_ L_ ({ frames := 1, cells := 0, slots := 0, locals := 20 } : Room).cells ({ frames := 1, cells := 0, slots := 0, locals := 20 } : Room).slots) := by
  refine MetFree.of_bodySF (plainFor_of_name pn_13) hisR ?_
  intro p e s m args below meth c s₁ Bd hml0 hP hK
  obtain ⟨rfl, hZ, hh⟩ := hP
  have hx := Bd.exec
  have hby := Bd.bytes
  have hml : c.maxLocals = 3 := hml0
  have hown : s.vm.findClass "java/lang/String" = some m.cls := findClass_of_methodNamed Bd.named
  have hnm := (name_of_methodNamed Bd.named Bd.method).1
  have X0 : Stand p l e ({ frames := 1, cells := 0, slots := 0, locals := 20 } : Room) s m #[(.ref o), (.ref o2)] below meth c s₁ [] 0 0 := Stand.of_body Bd
  have e0 : s₁.heap = h0 := by rw [← hh, Bd.state]; rfl
  have N0 := Fr.nil n0
  have pre0 : ∀ zz, Steps p.tables e below (s₁.setTop (mkF m 0 #[.val (.ref o), .val (.ref o2), .unset] [])) zz → Steps p.tables e below (s₁.setTop (entryFrame m #[(.ref o), (.ref o2)] 3)) zz := fun zz kz_ => castTop (ef_13 m o o2) kz_
  obtain ⟨kc, hkc, hcs⟩ := SK.1
  obtain ⟨T21, X21, e21, st21⟩ := instY X0 hx hZ hown (hwi hw 70 rfl) e0 (Ins.self EO2) (g := (mkF m 8 #[.val (.ref o), .val (.ref o2), .unset] [(.ref o2)])) rfl rfl (hb hby d13_8)
  obtain ⟨T22, X22, e22, st22⟩ := castY X21 hx hZ hown (hwi hw 70 rfl) e21 (Ins.self EO2) (g := (mkF m 15 #[.val (.ref o), .val (.ref o2), .unset] [(.ref o2)])) rfl rfl (hb hby d13_15)
  obtain ⟨T23, X23, e23, st23⟩ := getS2 X22 hx hZ hown (host := "") (Or.inl (hwi hw 15 rfl)) Via.refl e22 (Sta.ext O.2 hcs) (g := (mkF m 19 #[.val (.ref o), .val (.ref o2), .val (.ref o2)] [])) rfl (hb hby d13_19)
  obtain ⟨T24, X24, e24, st24⟩ := getF X23 hx hZ hown (host := "") (Or.inl (hwi hw 27 rfl)) Via.refl e23 FC (g := (mkF m 26 #[.val (.ref o), .val (.ref o2), .val (.ref o2)] [(.ref o)])) rfl rfl (hb hby d13_26)
  obtain ⟨T25, X25, e25, st25⟩ := getF X24 hx hZ hown (host := "") (Or.inl (hwi hw 27 rfl)) Via.refl e24 FC2 (g := (mkF m 30 #[.val (.ref o), .val (.ref o2), .val (.ref o2)] [(.ref o2), (.int (0 : Int32))])) rfl rfl (hb hby d13_30)
  obtain ⟨T26, X26, e26, st26⟩ := getF X25 hx hZ hown (host := "") (Or.inl (hwi hw 29 rfl)) Via.refl e25 FV (g := (mkF m 37 #[.val (.ref o), .val (.ref o2), .val (.ref o2)] [(.ref o)])) rfl rfl (hb hby d13_37)
  obtain ⟨T27, X27, e27, st27⟩ := getF X26 hx hZ hown (host := "") (Or.inl (hwi hw 29 rfl)) Via.refl e26 FV2 (g := (mkF m 41 #[.val (.ref o), .val (.ref o2), .val (.ref o2)] [(.ref o2), (.ref b)])) rfl rfl (hb hby d13_41)
  obtain ⟨_, _, ⟨T28, L28, k28, n28⟩, -, X28, ⟨Lc28, hQ28, l28, y28, z28⟩, st28⟩ := Jvm.LawKit.callS X27 hx (y := (⟨"java/lang/StringLatin1", "equals", "([B[B)Z"⟩ : MethodName)) hown (mvT hZ (hwi hw 71 rfl)) (mvT hZ (hwi hw 72 rfl)) (mvT hZ (hwi hw 51 rfl)) (mvT hZ (hwi hw 73 rfl)) (by decide) (backOf (W := 0) (rmLEQ l Z a0 hw [] b d n w h0 n0 Z0 hn FB FD) hZ (hwi hw 73 rfl) (hwi hw 51 rfl) (by decide) (by decide)) (g := (mkF m 44 #[.val (.ref o), .val (.ref o2), .val (.ref o2)] [(.ref d), (.ref b)])) rfl (by rw [hml]; rfl) (argsL := [(.ref b), (.ref d)]) (rest := []) (lenOf pd_13 rfl) rfl (by show 2 * 0 + _ ≤ _; exact Nat.le_of_eq rfl) (hb hby d13_44) (fun _ _ => ⟨rfl, e27, (by decide : 0 + 0 ≤ _), (by decide : 0 + 0 ≤ _)⟩)
  dsimp only [Pt.U, Pt.locs, Pt.cells, Pt.slots] at X28 l28 y28 z28 st28 hQ28
  obtain rfl : k28 = 0 := y28; obtain rfl : n28 = 0 := z28
  obtain ⟨rfl, N28q, e28⟩ := hQ28
  have N28 : Fr n0 L28 := by rw [l28]; exact Fr.app N0 N28q
  obtain ⟨fs, hr, hrun, hended, hW, hsame⟩ := X28.leave (v := some (.int (1 : Int32))) (fun h => by rw [Bd.returns] at h; cases h)
  refine ⟨_, _, pre0 _ ?_, hrun, hended, _, _, rfl, ?_, ⟨_, rfl⟩, hW, hsame.mono (by decide) (by decide)⟩
  · show Steps p.tables e below (s₁.setTop (mkF m 0 #[.val (.ref o), .val (.ref o2), .unset] [])) _
    refine XS.aloadN X0.here hx rfl (hb hby d13_0) rfl rfl ?_
    refine XS.aloadN X0.here hx rfl (hb hby d13_1) rfl rfl ?_
    refine Jvm.RoadKit.acmp (g := (mkF m 2 #[.val (.ref o), .val (.ref o2), .unset] [(.ref o2), (.ref o)])) X0 hx rfl rfl rfl (pc0 := 2) (pc' := 7) (same := false) rfl (hb hby d13_2) rfl (decide_eq_false fun q => hne (Value.ref.inj q)) (by decide) (by decide) ?_
    refine XS.aloadN X0.here hx rfl (hb hby d13_7) rfl rfl ?_
    show Steps p.tables e below (s₁.setTop (mkF m 8 #[.val (.ref o), .val (.ref o2), .unset] [(.ref o2)])) _
    refine st21 _ ?_
    refine XS.ifNo X21.here hx rfl (hb hby d13_11) rfl ((if0 _ _).trans (feq (by decide : ¬ ((1 : Int32) = (0 : Int32)))).1) ?_
    refine XS.aloadN X21.here hx rfl (hb hby d13_14) rfl rfl ?_
    show Steps p.tables e below (T21.setTop (mkF m 15 #[.val (.ref o), .val (.ref o2), .unset] [(.ref o2)])) _
    refine st22 _ ?_
    refine XS.astoreN X22.here hx rfl (hb hby d13_18) rfl rfl (l' := #[.val (.ref o), .val (.ref o2), .val (.ref o2)]) rfl ?_
    show Steps p.tables e below (T22.setTop (mkF m 19 #[.val (.ref o), .val (.ref o2), .val (.ref o2)] [])) _
    refine st23 _ ?_
    refine XS.ifNo X23.here hx rfl (hb hby d13_22) rfl ((if0 _ _).trans (feq hkc).1) ?_
    refine XS.aloadN X23.here hx rfl (hb hby d13_25) rfl rfl ?_
    show Steps p.tables e below (T23.setTop (mkF m 26 #[.val (.ref o), .val (.ref o2), .val (.ref o2)] [(.ref o)])) _
    refine st24 _ ?_
    refine XS.aloadN X24.here hx rfl (hb hby d13_29) rfl rfl ?_
    show Steps p.tables e below (T24.setTop (mkF m 30 #[.val (.ref o), .val (.ref o2), .val (.ref o2)] [(.ref o2), (.int (0 : Int32))])) _
    refine st25 _ ?_
    refine XS.icmpNo X25.here hx rfl (hb hby d13_33) rfl (teq (rfl : (0 : Int32) = (0 : Int32))).2 ?_
    refine XS.aloadN X25.here hx rfl (hb hby d13_36) rfl rfl ?_
    show Steps p.tables e below (T25.setTop (mkF m 37 #[.val (.ref o), .val (.ref o2), .val (.ref o2)] [(.ref o)])) _
    refine st26 _ ?_
    refine XS.aloadN X26.here hx rfl (hb hby d13_40) rfl rfl ?_
    show Steps p.tables e below (T26.setTop (mkF m 41 #[.val (.ref o), .val (.ref o2), .val (.ref o2)] [(.ref o2), (.ref b)])) _
    refine st27 _ ?_
    show Steps p.tables e below (T27.setTop (mkF m 44 #[.val (.ref o), .val (.ref o2), .val (.ref o2)] [(.ref d), (.ref b)])) _
    refine st28 _ ?_
    refine XS.ifNo X28.here hx rfl (hb hby d13_47) rfl ((if0 _ _).trans (feq (by decide : ¬ ((1 : Int32) = (0 : Int32)))).1) ?_
    refine XS.iconst X28.here hx rfl (hb hby d13_50) ?_
    refine XS.goto X28.here hx rfl (pc0 := 51) (pc' := 55) rfl (hb hby d13_51) (by decide) (by decide) ?_
    show Steps p.tables e below (T28.setTop (mkF m 55 #[.val (.ref o), .val (.ref o2), .val (.ref o2)] [(.int (1 : Int32))])) _
    exact retN X28 hx (t := .boolean) Bd.returns (by simp) (hb hby d13_55) hr
  · show QI (1 : Int32) h0 n0 _ T28.heap _
    rw [e28]
    exact ⟨rfl, N28, rfl⟩
set_option maxRecDepth 65536 in
set_option maxHeartbeats 40000000 in
theorem rmEQ (l : Launch) (Z : State) (a0 : Array Value) (hw : ∀ d ∈ tables_1, d.before a0 Z = true) (ws : List Jvm.Cond) (o o2 : Addr) (n : Nat) (w : Nat → Int32)  (h0 : Heap) (n0 : Nat) (Z0 : n0 ≤ h0.size) (hn : n ≤ 600) (O : Old Z n0 h0) (SK : StrSta Z) (S : StrV Z h0 o n (fun j => Value.int (w j))) (S2 : StrV Z h0 o2 n (fun j => Value.int (w j)))  :
    MetFree l (⟨"java/lang/String", "equals", "(Ljava/lang/Object;)Z"⟩ : MethodName) (head1 (Jvm.Cond.code (⟨"java/lang/String", "equals", "(Ljava/lang/Object;)Z"⟩ : MethodName) jdk_42_method_66_code 3 (some .boolean) :: ws) ({ frames := 1, cells := 0, slots := 0, locals := 20 } : Room)) (fun aa_ U_ => aa_ = #[(.ref o), (.ref o2)] ∧ Z.Warmed39 U_.vm ∧ U_.heap = h0) (fun _ _ _ _ _ => True) (fun _ U_ o_ V_ => ∃ v_ L_, o_ = .returned v_ ∧ QI (1 : Int32) h0 n0 v_ V_.heap L_ ∧ FrameEnd U_ o_ V_ L_ ({ frames := 1, cells := 0, slots := 0, locals := 20 } : Room).cells ({ frames := 1, cells := 0, slots := 0, locals := 20 } : Room).slots) := by
  by_cases hne : o = o2
  · subst hne; exact rmEQs l Z a0 hw ws o h0 n0 Z0
  · obtain ⟨EO, b, FV, FC, FB⟩ := S
    obtain ⟨EO2, d, FV2, FC2, FD⟩ := S2
    exact rmEQd l Z a0 hw ws o o2 b d n w h0 n0 Z0 hn O SK hne EO FC FV EO2 FC2 FV2 FB FD
theorem d18_0 : decode jdk_68_method_2_code 0 = .ok (.aload_n 0, 1) := by decide +kernel
theorem d18_1 : decode jdk_68_method_2_code 1 = .ok (.invokespecial 3, 3) := by decide +kernel
theorem d18_4 : decode jdk_68_method_2_code 4 = .ok (.getstatic 18, 3) := by decide +kernel
theorem d18_7 : decode jdk_68_method_2_code 7 = .ok (.ifCond .eq 18, 3) := by decide +kernel
theorem d18_10 : decode jdk_68_method_2_code 10 = .ok (.aload_n 0, 1) := by decide +kernel
theorem d18_11 : decode jdk_68_method_2_code 11 = .ok (.iload_n 1, 1) := by decide +kernel
theorem d18_12 : decode jdk_68_method_2_code 12 = .ok (.newarray .byte, 2) := by decide +kernel
theorem d18_14 : decode jdk_68_method_2_code 14 = .ok (.putfield 15, 3) := by decide +kernel
theorem d18_17 : decode jdk_68_method_2_code 17 = .ok (.aload_n 0, 1) := by decide +kernel
theorem d18_18 : decode jdk_68_method_2_code 18 = .ok (.iconst 0, 1) := by decide +kernel
theorem d18_19 : decode jdk_68_method_2_code 19 = .ok (.putfield 22, 3) := by decide +kernel
theorem d18_22 : decode jdk_68_method_2_code 22 = .ok (.goto 16, 3) := by decide +kernel
theorem d18_38 : decode jdk_68_method_2_code 38 = .ok (.return_, 1) := by decide +kernel
theorem pn_18 : plainName "java/lang/AbstractStringBuilder" = true := by first | (simp [plainName, overriddenIn]; done) | decide +kernel
theorem ef_18 (m : MethodId) (x0 : Addr) (x1 : Int32) : entryFrame m #[(.ref x0), (.int x1)] 2 = mkF m 0 #[.val (.ref x0), .val (.int x1)] [] := by first | (simp [entryFrame, mkF, argsToLocals, Value.category]; done) | rfl
set_option maxRecDepth 65536 in
set_option maxHeartbeats 40000000 in
theorem rmASB (l : Launch) (Z : State) (a0 : Array Value) (hw : ∀ d ∈ tables_1, d.before a0 Z = true) (ws : List Jvm.Cond) (o : Addr) (f : Nat → Value)  (h0 : Heap) (n0 : Nat) (Z0 : n0 ≤ h0.size) (O : Old Z n0 h0) (SK : StrSta Z) (EO : Exa Z h0 o "java/lang/StringBuilder") (FV : Fld Z h0 o "java/lang/AbstractStringBuilder" "value" "[B" .null) (FC : Fld Z h0 o "java/lang/AbstractStringBuilder" "coder" "B" (.int (0 : Int32))) (FN : Fld Z h0 o "java/lang/AbstractStringBuilder" "count" "I" (.int (Int32.ofNat 0))) (g_o : n0 ≤ o)  :
    MetFree l (⟨"java/lang/AbstractStringBuilder", "<init>", "(I)V"⟩ : MethodName) (head1 (Jvm.Cond.code (⟨"java/lang/AbstractStringBuilder", "<init>", "(I)V"⟩ : MethodName) jdk_68_method_2_code 2 none :: ws) ({ frames := 1, cells := 1, slots := 16, locals := 20 } : Room)) (fun aa_ U_ => aa_ = #[(.ref o), (.int (16 : Int32))] ∧ Z.Warmed39 U_.vm ∧ U_.heap = h0) (fun _ _ _ _ _ => True) (fun _ U_ o_ V_ => ∃ v_ L_, o_ = .returned v_ ∧ QSB Z o 16 0 f h0 n0 v_ V_.heap L_ ∧ FrameEnd U_ o_ V_ L_ ({ frames := 1, cells := 1, slots := 16, locals := 20 } : Room).cells ({ frames := 1, cells := 1, slots := 16, locals := 20 } : Room).slots) := by
  refine MetFree.of_bodySF (plainFor_of_name pn_18) hisR ?_
  intro p e s m args below meth c s₁ Bd hml0 hP hK
  obtain ⟨rfl, hZ, hh⟩ := hP
  have hx := Bd.exec
  have hby := Bd.bytes
  have hml : c.maxLocals = 2 := hml0
  have hown : s.vm.findClass "java/lang/AbstractStringBuilder" = some m.cls := findClass_of_methodNamed Bd.named
  have hnm := (name_of_methodNamed Bd.named Bd.method).1
  have X0 : Stand p l e ({ frames := 1, cells := 1, slots := 16, locals := 20 } : Room) s m #[(.ref o), (.int (16 : Int32))] below meth c s₁ [] 0 0 := Stand.of_body Bd
  have e0 : s₁.heap = h0 := by rw [← hh, Bd.state]; rfl
  have N0 := Fr.nil n0
  have pre0 : ∀ zz, Steps p.tables e below (s₁.setTop (mkF m 0 #[.val (.ref o), .val (.int (16 : Int32))] [])) zz → Steps p.tables e below (s₁.setTop (entryFrame m #[(.ref o), (.int (16 : Int32))] 2)) zz := fun zz kz_ => castTop (ef_18 m o (16 : Int32)) kz_
  obtain ⟨kc, hkc, hcs⟩ := SK.1
  obtain ⟨T29, X29, e29, st29⟩ := initO X0 hx hZ hown (hwi hw 102 rfl) (hwi hw 13 rfl) (hwi hw 14 rfl) e0 (g := (mkF m 1 #[.val (.ref o), .val (.int (16 : Int32))] [(.ref o)])) rfl (by rw [hml]; rfl) rfl (hb hby d18_1) (by decide) (W := 0) (by show 2 * 0 + _ ≤ _; exact Nat.le_of_eq rfl) (by decide)
  obtain ⟨T30, X30, e30, st30⟩ := getS2 X29 hx hZ hown (host := "") (Or.inl (hwi hw 103 rfl)) Via.refl e29 (Sta.ext O.2 hcs) (g := (mkF m 4 #[.val (.ref o), .val (.int (16 : Int32))] [])) rfl (hb hby d18_4)
  obtain ⟨T31, h31, X31, e31, E31, A31, B31, st31⟩ := nwB X30 hx hZ (hwi hw 20 rfl) e30 (g := (mkF m 12 #[.val (.ref o), .val (.int (16 : Int32))] [(.int (16 : Int32)), (.ref o)])) rfl (hb hby d18_12) (n := 16) rfl (cap := 16) (by decide) (by decide) (by decide) (by decide)
  obtain ⟨b31, q31⟩ : ∃ z, z = h0.size := ⟨_, rfl⟩
  rw [← q31] at A31 B31 st31
  have g_b31 : n0 ≤ b31 := Nat.le_trans Z0 (Nat.le_of_eq q31.symm)
  have sz_b31 : h0.size ≤ b31 := Nat.le_trans (Keep.refl h0 [o]).1 (Nat.le_of_eq q31.symm)
  have K31 := (Keep.refl h0 [o]).ext E31
  have Z31 : n0 ≤ h31.size := Nat.le_trans Z0 E31.1
  have ne_o_b31 : o ≠ b31 := Nat.ne_of_lt (Nat.lt_of_lt_of_le EO.lt (Nat.le_of_eq q31.symm))
  have EO_e31 := EO.ext E31
  have FV_e31 := FV.ext E31
  have FC_e31 := FC.ext E31
  have FN_e31 := FN.ext E31
  have O31 := O.ext E31
  obtain ⟨T32, h32, X32, e32, W32, st32⟩ := putF X31 hx hZ hown (host := "") (Or.inl (hwi hw 104 rfl)) Via.refl e31 FV_e31 EO_e31 (Or.inl (hwi hw 105 rfl)) (hwi hw 91 rfl) (ty := (.array .byte)) (by decide) rfl rfl (g := (mkF m 14 #[.val (.ref o), .val (.int (16 : Int32))] [(.ref b31), (.ref o)])) rfl rfl (hb hby d18_14)
  have Fw32 := FV_e31.same W32
  have EO_e32 := EO_e31.wr W32
  have FC_e32 := FC_e31.other W32 (Or.inr (slot_ne (Or.inl (hwi hw 107 rfl)) (Or.inl (hwi hw 105 rfl)) (by decide) (t := .byte) (t' := (.array .byte)) (by decide) (by decide)))
  have FN_e32 := FN_e31.other W32 (Or.inr (slot_ne (Or.inl (hwi hw 130 rfl)) (Or.inl (hwi hw 105 rfl)) (by decide) (t := .int) (t' := (.array .byte)) (by decide) (by decide)))
  have A31_e32 := A31.other W32 (Ne.symm ne_o_b31)
  have B31_e32 := B31.wr W32
  have N32 := Fr.snoc X32 N0 g_o
  have K32 := K31.wr W32 (Or.inl (List.mem_of_getElem? (i := 0) rfl))
  have Z32 : n0 ≤ h32.size := Nat.le_trans Z31 (Keep.of_wr W32).1
  have O32 := O31.wr W32 g_o
  obtain ⟨T33, h33, X33, e33, W33, st33⟩ := putFN X32 hx hZ hown (hwi hw 106 rfl) Via.refl e32 FC_e32 EO_e32 (Or.inl (hwi hw 107 rfl)) (hwi hw 91 rfl) (ty := .byte) (v' := (.int (0 : Int32))) (by decide) rfl (by decide) (g := (mkF m 19 #[.val (.ref o), .val (.int (16 : Int32))] [(.int (0 : Int32)), (.ref o)])) rfl rfl (hb hby d18_19)
  have Fw33 := FC_e32.same W33
  have EO_e33 := EO_e32.wr W33
  have Fw32_e33 := Fw32.other W33 (Or.inr (slot_ne (Or.inl (hwi hw 105 rfl)) (Or.inl (hwi hw 107 rfl)) (by decide) (t := (.array .byte)) (t' := .byte) (by decide) (by decide)))
  have FN_e33 := FN_e32.other W33 (Or.inr (slot_ne (Or.inl (hwi hw 130 rfl)) (Or.inl (hwi hw 107 rfl)) (by decide) (t := .int) (t' := .byte) (by decide) (by decide)))
  have A31_e33 := A31_e32.other W33 (Ne.symm ne_o_b31)
  have B31_e33 := B31_e32.wr W33
  have N33 := Fr.snoc X33 N32 g_o
  have K33 := K32.wr W33 (Or.inl (List.mem_of_getElem? (i := 0) rfl))
  have Z33 : n0 ≤ h33.size := Nat.le_trans Z32 (Keep.of_wr W33).1
  have O33 := O32.wr W33 g_o
  obtain ⟨fs, hr, hrun, hended, hW, hsame⟩ := X33.leave (v := none) (fun _ => rfl)
  refine ⟨_, _, pre0 _ ?_, hrun, hended, _, _, rfl, ?_, ⟨_, rfl⟩, hW, hsame.mono (by decide) (by decide)⟩
  · show Steps p.tables e below (s₁.setTop (mkF m 0 #[.val (.ref o), .val (.int (16 : Int32))] [])) _
    refine XS.aloadN X0.here hx rfl (hb hby d18_0) rfl rfl ?_
    show Steps p.tables e below (s₁.setTop (mkF m 1 #[.val (.ref o), .val (.int (16 : Int32))] [(.ref o)])) _
    refine st29 _ ?_
    show Steps p.tables e below (T29.setTop (mkF m 4 #[.val (.ref o), .val (.int (16 : Int32))] [])) _
    refine st30 _ ?_
    refine XS.ifNo X30.here hx rfl (hb hby d18_7) rfl ((if0 _ _).trans (feq hkc).1) ?_
    refine XS.aloadN X30.here hx rfl (hb hby d18_10) rfl rfl ?_
    refine XS.iloadN X30.here hx rfl (hb hby d18_11) rfl ?_
    show Steps p.tables e below (T30.setTop (mkF m 12 #[.val (.ref o), .val (.int (16 : Int32))] [(.int (16 : Int32)), (.ref o)])) _
    refine st31 _ ?_
    show Steps p.tables e below (T31.setTop (mkF m 14 #[.val (.ref o), .val (.int (16 : Int32))] [(.ref b31), (.ref o)])) _
    refine st32 _ ?_
    refine XS.aloadN X32.here hx rfl (hb hby d18_17) rfl rfl ?_
    refine XS.iconst X32.here hx rfl (hb hby d18_18) ?_
    show Steps p.tables e below (T32.setTop (mkF m 19 #[.val (.ref o), .val (.int (16 : Int32))] [(.int (0 : Int32)), (.ref o)])) _
    refine st33 _ ?_
    refine XS.goto X33.here hx rfl (pc0 := 22) (pc' := 38) rfl (hb hby d18_22) (by decide) (by decide) ?_
    show Steps p.tables e below (T33.setTop (mkF m 38 #[.val (.ref o), .val (.int (16 : Int32))] [])) _
    exact X33.returnOut hx Bd.returns (hb hby d18_38) hr
  · show QSB Z o 16 0 f h0 n0 _ T33.heap _
    exact ⟨rfl, N33, by rw [e33]; exact K33, b31, sz_b31, by rw [e33]; exact ⟨EO_e33, Fw32_e33, Fw33, FN_e33, B31_e33, _, A31_e33, fun _ _ => rfl, fun j hj => absurd hj (Nat.not_lt_zero _)⟩⟩
theorem d17_0 : decode jdk_67_method_1_code 0 = .ok (.aload_n 0, 1) := by decide +kernel
theorem d17_1 : decode jdk_67_method_1_code 1 = .ok (.bipush 16, 2) := by decide +kernel
theorem d17_3 : decode jdk_67_method_1_code 3 = .ok (.invokespecial 1, 3) := by decide +kernel
theorem d17_6 : decode jdk_67_method_1_code 6 = .ok (.return_, 1) := by decide +kernel
theorem pn_17 : plainName "java/lang/StringBuilder" = true := by first | (simp [plainName, overriddenIn]; done) | decide +kernel
theorem ef_17 (m : MethodId) (x0 : Addr) : entryFrame m #[(.ref x0)] 1 = mkF m 0 #[.val (.ref x0)] [] := by first | (simp [entryFrame, mkF, argsToLocals, Value.category]; done) | rfl
set_option maxRecDepth 65536 in
set_option maxHeartbeats 40000000 in
theorem rmSBI (l : Launch) (Z : State) (a0 : Array Value) (hw : ∀ d ∈ tables_1, d.before a0 Z = true) (ws : List Jvm.Cond) (o : Addr) (f : Nat → Value)  (h0 : Heap) (n0 : Nat) (Z0 : n0 ≤ h0.size) (O : Old Z n0 h0) (SK : StrSta Z) (EO : Exa Z h0 o "java/lang/StringBuilder") (FV : Fld Z h0 o "java/lang/AbstractStringBuilder" "value" "[B" .null) (FC : Fld Z h0 o "java/lang/AbstractStringBuilder" "coder" "B" (.int (0 : Int32))) (FN : Fld Z h0 o "java/lang/AbstractStringBuilder" "count" "I" (.int (Int32.ofNat 0))) (g_o : n0 ≤ o)  :
    MetFree l (⟨"java/lang/StringBuilder", "<init>", "()V"⟩ : MethodName) (head1 (Jvm.Cond.code (⟨"java/lang/StringBuilder", "<init>", "()V"⟩ : MethodName) jdk_67_method_1_code 1 none :: ws) ({ frames := 2, cells := 1, slots := 16, locals := 40 } : Room)) (fun aa_ U_ => aa_ = #[(.ref o)] ∧ Z.Warmed39 U_.vm ∧ U_.heap = h0) (fun _ _ _ _ _ => True) (fun _ U_ o_ V_ => ∃ v_ L_, o_ = .returned v_ ∧ QSB Z o 16 0 f h0 n0 v_ V_.heap L_ ∧ FrameEnd U_ o_ V_ L_ ({ frames := 2, cells := 1, slots := 16, locals := 40 } : Room).cells ({ frames := 2, cells := 1, slots := 16, locals := 40 } : Room).slots) := by
  refine MetFree.of_bodySF (plainFor_of_name pn_17) hisR ?_
  intro p e s m args below meth c s₁ Bd hml0 hP hK
  obtain ⟨rfl, hZ, hh⟩ := hP
  have hx := Bd.exec
  have hby := Bd.bytes
  have hml : c.maxLocals = 1 := hml0
  have hown : s.vm.findClass "java/lang/StringBuilder" = some m.cls := findClass_of_methodNamed Bd.named
  have hnm := (name_of_methodNamed Bd.named Bd.method).1
  have X0 : Stand p l e ({ frames := 2, cells := 1, slots := 16, locals := 40 } : Room) s m #[(.ref o)] below meth c s₁ [] 0 0 := Stand.of_body Bd
  have e0 : s₁.heap = h0 := by rw [← hh, Bd.state]; rfl
  have N0 := Fr.nil n0
  have pre0 : ∀ zz, Steps p.tables e below (s₁.setTop (mkF m 0 #[.val (.ref o)] [])) zz → Steps p.tables e below (s₁.setTop (entryFrame m #[(.ref o)] 1)) zz := fun zz kz_ => castTop (ef_17 m o) kz_
  obtain ⟨_, _, ⟨T34, L34, k34, n34⟩, -, X34, ⟨Lc34, hQ34, l34, y34, z34⟩, st34⟩ := X0.specialBack hx (y := (⟨"java/lang/AbstractStringBuilder", "<init>", "(I)V"⟩ : MethodName)) rfl hown (mvT hZ (hwi hw 96 rfl)) (mvT hZ (hwi hw 97 rfl)) (mvT hZ (hwi hw 101 rfl)) (by decide) (backOf (W := 0) (rmASB l Z a0 hw [] o f h0 n0 Z0 O SK EO FV FC FN g_o) hZ (hwi hw 101 rfl) (hwi hw 100 rfl) (by decide) (by decide)) (g := (mkF m 3 #[.val (.ref o)] [(.int (16 : Int32)), (.ref o)])) rfl (by rw [hml]; rfl) (Steps.refl _) (a := o) (argsL := [(.int (16 : Int32))]) (rest := []) (lenOf pd_15 rfl) rfl (by show 2 * 0 + _ ≤ _; exact Nat.le_of_eq rfl) (hb hby d17_3) (fun _ _ => ⟨rfl, e0, (by decide : 0 + 1 ≤ _), (by decide : 0 + 16 ≤ _)⟩)
  dsimp only [Pt.U, Pt.locs, Pt.cells, Pt.slots] at X34 l34 y34 z34 st34 hQ34
  obtain rfl : k34 = 1 := y34; obtain rfl : n34 = 16 := z34
  obtain ⟨rfl, N34q, K34, d34, hd34, S34⟩ := hQ34
  have N34 : Fr n0 L34 := by rw [l34]; exact Fr.app N0 N34q
  have KK34 := (Keep.refl h0 [o]).trans K34 (fun x r => by cases List.mem_singleton.mp r; exact (Or.inl (List.mem_of_getElem? (i := 0) rfl)))
  have Z34 : n0 ≤ T34.heap.size := Nat.le_trans Z0 K34.1
  have O34 := O.keep K34 (all1 g_o)
  obtain ⟨fs, hr, hrun, hended, hW, hsame⟩ := X34.leave (v := none) (fun _ => rfl)
  refine ⟨_, _, pre0 _ ?_, hrun, hended, _, _, rfl, ?_, ⟨_, rfl⟩, hW, hsame.mono (by decide) (by decide)⟩
  · show Steps p.tables e below (s₁.setTop (mkF m 0 #[.val (.ref o)] [])) _
    refine XS.aloadN X0.here hx rfl (hb hby d17_0) rfl rfl ?_
    refine XS.bipush X0.here hx rfl (hb hby d17_1) ?_
    show Steps p.tables e below (s₁.setTop (mkF m 3 #[.val (.ref o)] [(.int (16 : Int32)), (.ref o)])) _
    refine st34.trans ?_
    show Steps p.tables e below (T34.setTop (mkF m 6 #[.val (.ref o)] [])) _
    exact X34.returnOut hx Bd.returns (hb hby d17_6) hr
  · show QSB Z o 16 0 f h0 n0 _ T34.heap _
    exact ⟨rfl, N34, K34, d34, hd34, S34⟩
theorem d26_0 : decode jdk_29_method_65_code 0 = .ok (.iload_n 0, 1) := by decide +kernel
theorem d26_1 : decode jdk_29_method_65_code 1 = .ok (.iload_n 1, 1) := by decide +kernel
theorem d26_2 : decode jdk_29_method_65_code 2 = .ok (.if_icmp .lt 7, 3) := by decide +kernel
theorem d26_5 : decode jdk_29_method_65_code 5 = .ok (.iload_n 0, 1) := by decide +kernel
theorem d26_6 : decode jdk_29_method_65_code 6 = .ok (.goto 4, 3) := by decide +kernel
theorem d26_9 : decode jdk_29_method_65_code 9 = .ok (.iload_n 1, 1) := by decide +kernel
theorem d26_10 : decode jdk_29_method_65_code 10 = .ok (.ireturn, 1) := by decide +kernel
theorem ef_26 (m : MethodId) (x0 : Int32) (x1 : Int32) : entryFrame m #[(.int x0), (.int x1)] 2 = mkF m 0 #[.val (.int x0), .val (.int x1)] [] := by first | (simp [entryFrame, mkF, argsToLocals, Value.category]; done) | rfl
set_option maxRecDepth 65536 in
set_option maxHeartbeats 40000000 in
theorem rmMX0 (l : Launch) (Z : State) (a0 : Array Value) (hw : ∀ d ∈ tables_1, d.before a0 Z = true) (ws : List Jvm.Cond) (x y : Nat)  (h0 : Heap) (n0 : Nat) (Z0 : n0 ≤ h0.size) (hx' : x < 2147483648) (hy : y < 2147483648) (hq : x < y)  :
    MetFree l (⟨"java/lang/Math", "max", "(II)I"⟩ : MethodName) (head1 (Jvm.Cond.code (⟨"java/lang/Math", "max", "(II)I"⟩ : MethodName) jdk_29_method_65_code 2 (some .int) :: ws) ({ frames := 0, cells := 0, slots := 0, locals := 0 } : Room)) (fun aa_ U_ => aa_ = #[(.int (Int32.ofNat x)), (.int (Int32.ofNat y))] ∧ Z.Warmed39 U_.vm ∧ U_.heap = h0) (fun _ _ _ _ _ => True) (fun _ U_ o_ V_ => ∃ v_ L_, o_ = .returned v_ ∧ QI (Int32.ofNat y) h0 n0 v_ V_.heap L_ ∧ FrameEnd U_ o_ V_ L_ ({ frames := 0, cells := 0, slots := 0, locals := 0 } : Room).cells ({ frames := 0, cells := 0, slots := 0, locals := 0 } : Room).slots) := by
  refine MetFree.of_bodySF (Jvm.Free.JP.mathPlain rfl (by decide +kernel)) hisR ?_
  intro p e s m args below meth c s₁ Bd hml0 hP hK
  obtain ⟨rfl, hZ, hh⟩ := hP
  have hx := Bd.exec
  have hby := Bd.bytes
  have hml : c.maxLocals = 2 := hml0
  have hown : s.vm.findClass "java/lang/Math" = some m.cls := findClass_of_methodNamed Bd.named
  have hnm := (name_of_methodNamed Bd.named Bd.method).1
  have X0 : Stand p l e ({ frames := 0, cells := 0, slots := 0, locals := 0 } : Room) s m #[(.int (Int32.ofNat x)), (.int (Int32.ofNat y))] below meth c s₁ [] 0 0 := Stand.of_body Bd
  have e0 : s₁.heap = h0 := by rw [← hh, Bd.state]; rfl
  have N0 := Fr.nil n0
  have pre0 : ∀ zz, Steps p.tables e below (s₁.setTop (mkF m 0 #[.val (.int (Int32.ofNat x)), .val (.int (Int32.ofNat y))] [])) zz → Steps p.tables e below (s₁.setTop (entryFrame m #[(.int (Int32.ofNat x)), (.int (Int32.ofNat y))] 2)) zz := fun zz kz_ => castTop (ef_26 m (Int32.ofNat x) (Int32.ofNat y)) kz_
  obtain ⟨fs, hr, hrun, hended, hW, hsame⟩ := X0.leave (v := some (.int (Int32.ofNat y))) (fun h => by rw [Bd.returns] at h; cases h)
  refine ⟨_, _, pre0 _ ?_, hrun, hended, _, _, rfl, ?_, ⟨_, rfl⟩, hW, hsame.mono (by decide) (by decide)⟩
  · show Steps p.tables e below (s₁.setTop (mkF m 0 #[.val (.int (Int32.ofNat x)), .val (.int (Int32.ofNat y))] [])) _
    refine XS.iloadN X0.here hx rfl (hb hby d26_0) rfl ?_
    refine XS.iloadN X0.here hx rfl (hb hby d26_1) rfl ?_
    refine XS.icmpYes X0.here hx rfl (pc0 := 2) (pc' := 9) rfl (hb hby d26_2) rfl (tlt ((ltN hx' hy).mpr hq)).1 (by decide) (by decide) ?_
    refine XS.iloadN X0.here hx rfl (hb hby d26_9) rfl ?_
    show Steps p.tables e below (s₁.setTop (mkF m 10 #[.val (.int (Int32.ofNat x)), .val (.int (Int32.ofNat y))] [(.int (Int32.ofNat y))])) _
    exact retI X0 hx Bd.returns (hb hby d26_10) hr
  · show QI (Int32.ofNat y) h0 n0 _ s₁.heap _
    rw [e0]
    exact ⟨rfl, N0, rfl⟩
set_option maxRecDepth 65536 in
set_option maxHeartbeats 40000000 in
theorem rmMX1 (l : Launch) (Z : State) (a0 : Array Value) (hw : ∀ d ∈ tables_1, d.before a0 Z = true) (ws : List Jvm.Cond) (x y : Nat)  (h0 : Heap) (n0 : Nat) (Z0 : n0 ≤ h0.size) (hx' : x < 2147483648) (hy : y < 2147483648) (hq : ¬ x < y)  :
    MetFree l (⟨"java/lang/Math", "max", "(II)I"⟩ : MethodName) (head1 (Jvm.Cond.code (⟨"java/lang/Math", "max", "(II)I"⟩ : MethodName) jdk_29_method_65_code 2 (some .int) :: ws) ({ frames := 0, cells := 0, slots := 0, locals := 0 } : Room)) (fun aa_ U_ => aa_ = #[(.int (Int32.ofNat x)), (.int (Int32.ofNat y))] ∧ Z.Warmed39 U_.vm ∧ U_.heap = h0) (fun _ _ _ _ _ => True) (fun _ U_ o_ V_ => ∃ v_ L_, o_ = .returned v_ ∧ QI (Int32.ofNat x) h0 n0 v_ V_.heap L_ ∧ FrameEnd U_ o_ V_ L_ ({ frames := 0, cells := 0, slots := 0, locals := 0 } : Room).cells ({ frames := 0, cells := 0, slots := 0, locals := 0 } : Room).slots) := by
  refine MetFree.of_bodySF (Jvm.Free.JP.mathPlain rfl (by decide +kernel)) hisR ?_
  intro p e s m args below meth c s₁ Bd hml0 hP hK
  obtain ⟨rfl, hZ, hh⟩ := hP
  have hx := Bd.exec
  have hby := Bd.bytes
  have hml : c.maxLocals = 2 := hml0
  have hown : s.vm.findClass "java/lang/Math" = some m.cls := findClass_of_methodNamed Bd.named
  have hnm := (name_of_methodNamed Bd.named Bd.method).1
  have X0 : Stand p l e ({ frames := 0, cells := 0, slots := 0, locals := 0 } : Room) s m #[(.int (Int32.ofNat x)), (.int (Int32.ofNat y))] below meth c s₁ [] 0 0 := Stand.of_body Bd
  have e0 : s₁.heap = h0 := by rw [← hh, Bd.state]; rfl
  have N0 := Fr.nil n0
  have pre0 : ∀ zz, Steps p.tables e below (s₁.setTop (mkF m 0 #[.val (.int (Int32.ofNat x)), .val (.int (Int32.ofNat y))] [])) zz → Steps p.tables e below (s₁.setTop (entryFrame m #[(.int (Int32.ofNat x)), (.int (Int32.ofNat y))] 2)) zz := fun zz kz_ => castTop (ef_26 m (Int32.ofNat x) (Int32.ofNat y)) kz_
  obtain ⟨fs, hr, hrun, hended, hW, hsame⟩ := X0.leave (v := some (.int (Int32.ofNat x))) (fun h => by rw [Bd.returns] at h; cases h)
  refine ⟨_, _, pre0 _ ?_, hrun, hended, _, _, rfl, ?_, ⟨_, rfl⟩, hW, hsame.mono (by decide) (by decide)⟩
  · show Steps p.tables e below (s₁.setTop (mkF m 0 #[.val (.int (Int32.ofNat x)), .val (.int (Int32.ofNat y))] [])) _
    refine XS.iloadN X0.here hx rfl (hb hby d26_0) rfl ?_
    refine XS.iloadN X0.here hx rfl (hb hby d26_1) rfl ?_
    refine XS.icmpNo X0.here hx rfl (hb hby d26_2) rfl (flt (fun q => hq ((ltN hx' hy).mp q))).1 ?_
    refine XS.iloadN X0.here hx rfl (hb hby d26_5) rfl ?_
    refine XS.goto X0.here hx rfl (pc0 := 6) (pc' := 10) rfl (hb hby d26_6) (by decide) (by decide) ?_
    show Steps p.tables e below (s₁.setTop (mkF m 10 #[.val (.int (Int32.ofNat x)), .val (.int (Int32.ofNat y))] [(.int (Int32.ofNat x))])) _
    exact retI X0 hx Bd.returns (hb hby d26_10) hr
  · show QI (Int32.ofNat x) h0 n0 _ s₁.heap _
    rw [e0]
    exact ⟨rfl, N0, rfl⟩
set_option maxRecDepth 65536 in
set_option maxHeartbeats 40000000 in
theorem rmMX (l : Launch) (Z : State) (a0 : Array Value) (hw : ∀ d ∈ tables_1, d.before a0 Z = true) (ws : List Jvm.Cond) (x y : Nat)  (h0 : Heap) (n0 : Nat) (Z0 : n0 ≤ h0.size) (hx' : x < 2147483648) (hy : y < 2147483648)  :
    MetFree l (⟨"java/lang/Math", "max", "(II)I"⟩ : MethodName) (head1 (Jvm.Cond.code (⟨"java/lang/Math", "max", "(II)I"⟩ : MethodName) jdk_29_method_65_code 2 (some .int) :: ws) ({ frames := 0, cells := 0, slots := 0, locals := 0 } : Room)) (fun aa_ U_ => aa_ = #[(.int (Int32.ofNat x)), (.int (Int32.ofNat y))] ∧ Z.Warmed39 U_.vm ∧ U_.heap = h0) (fun _ _ _ _ _ => True) (fun _ U_ o_ V_ => ∃ v_ L_, o_ = .returned v_ ∧ QI (Int32.ofNat (max x y)) h0 n0 v_ V_.heap L_ ∧ FrameEnd U_ o_ V_ L_ ({ frames := 0, cells := 0, slots := 0, locals := 0 } : Room).cells ({ frames := 0, cells := 0, slots := 0, locals := 0 } : Room).slots) := by
  by_cases hq : x < y
  · rw [show max x y = y by omega]; exact rmMX0 l Z a0 hw ws x y h0 n0 Z0 hx' hy hq
  · rw [show max x y = x by omega]; exact rmMX1 l Z a0 hw ws x y h0 n0 Z0 hx' hy hq
set_option maxRecDepth 65536 in
set_option maxHeartbeats 40000000 in
theorem rmMN0 (l : Launch) (Z : State) (a0 : Array Value) (hw : ∀ d ∈ tables_1, d.before a0 Z = true) (ws : List Jvm.Cond) (x y : Nat)  (h0 : Heap) (n0 : Nat) (Z0 : n0 ≤ h0.size) (hx' : x < 2147483648) (hy : y < 2147483648) (hq : y < x)  :
    MetFree l (⟨"java/lang/Math", "min", "(II)I"⟩ : MethodName) (head1 (Jvm.Cond.code (⟨"java/lang/Math", "min", "(II)I"⟩ : MethodName) jdk_29_method_69_code 2 (some .int) :: ws) ({ frames := 0, cells := 0, slots := 0, locals := 0 } : Room)) (fun aa_ U_ => aa_ = #[(.int (Int32.ofNat x)), (.int (Int32.ofNat y))] ∧ Z.Warmed39 U_.vm ∧ U_.heap = h0) (fun _ _ _ _ _ => True) (fun _ U_ o_ V_ => ∃ v_ L_, o_ = .returned v_ ∧ QI (Int32.ofNat y) h0 n0 v_ V_.heap L_ ∧ FrameEnd U_ o_ V_ L_ ({ frames := 0, cells := 0, slots := 0, locals := 0 } : Room).cells ({ frames := 0, cells := 0, slots := 0, locals := 0 } : Room).slots) := by
  refine MetFree.of_bodySF (Jvm.Free.JP.mathPlain rfl (by decide +kernel)) hisR ?_
  intro p e s m args below meth c s₁ Bd hml0 hP hK
  obtain ⟨rfl, hZ, hh⟩ := hP
  have hx := Bd.exec
  have hby := Bd.bytes
  have hml : c.maxLocals = 2 := hml0
  have hown : s.vm.findClass "java/lang/Math" = some m.cls := findClass_of_methodNamed Bd.named
  have hnm := (name_of_methodNamed Bd.named Bd.method).1
  have X0 : Stand p l e ({ frames := 0, cells := 0, slots := 0, locals := 0 } : Room) s m #[(.int (Int32.ofNat x)), (.int (Int32.ofNat y))] below meth c s₁ [] 0 0 := Stand.of_body Bd
  have e0 : s₁.heap = h0 := by rw [← hh, Bd.state]; rfl
  have N0 := Fr.nil n0
  have pre0 : ∀ zz, Steps p.tables e below (s₁.setTop (mkF m 0 #[.val (.int (Int32.ofNat x)), .val (.int (Int32.ofNat y))] [])) zz → Steps p.tables e below (s₁.setTop (entryFrame m #[(.int (Int32.ofNat x)), (.int (Int32.ofNat y))] 2)) zz := fun zz kz_ => castTop (ef_28 m (Int32.ofNat x) (Int32.ofNat y)) kz_
  obtain ⟨fs, hr, hrun, hended, hW, hsame⟩ := X0.leave (v := some (.int (Int32.ofNat y))) (fun h => by rw [Bd.returns] at h; cases h)
  refine ⟨_, _, pre0 _ ?_, hrun, hended, _, _, rfl, ?_, ⟨_, rfl⟩, hW, hsame.mono (by decide) (by decide)⟩
  · show Steps p.tables e below (s₁.setTop (mkF m 0 #[.val (.int (Int32.ofNat x)), .val (.int (Int32.ofNat y))] [])) _
    refine XS.iloadN X0.here hx rfl (hb hby d28_0) rfl ?_
    refine XS.iloadN X0.here hx rfl (hb hby d28_1) rfl ?_
    refine XS.icmpYes X0.here hx rfl (pc0 := 2) (pc' := 9) rfl (hb hby d28_2) rfl (tlt ((ltN hy hx').mpr hq)).2.2.1 (by decide) (by decide) ?_
    refine XS.iloadN X0.here hx rfl (hb hby d28_9) rfl ?_
    show Steps p.tables e below (s₁.setTop (mkF m 10 #[.val (.int (Int32.ofNat x)), .val (.int (Int32.ofNat y))] [(.int (Int32.ofNat y))])) _
    exact retI X0 hx Bd.returns (hb hby d28_10) hr
  · show QI (Int32.ofNat y) h0 n0 _ s₁.heap _
    rw [e0]
    exact ⟨rfl, N0, rfl⟩
set_option maxRecDepth 65536 in
set_option maxHeartbeats 40000000 in
theorem rmMN1 (l : Launch) (Z : State) (a0 : Array Value) (hw : ∀ d ∈ tables_1, d.before a0 Z = true) (ws : List Jvm.Cond) (x y : Nat)  (h0 : Heap) (n0 : Nat) (Z0 : n0 ≤ h0.size) (hx' : x < 2147483648) (hy : y < 2147483648) (hq : ¬ y < x)  :
    MetFree l (⟨"java/lang/Math", "min", "(II)I"⟩ : MethodName) (head1 (Jvm.Cond.code (⟨"java/lang/Math", "min", "(II)I"⟩ : MethodName) jdk_29_method_69_code 2 (some .int) :: ws) ({ frames := 0, cells := 0, slots := 0, locals := 0 } : Room)) (fun aa_ U_ => aa_ = #[(.int (Int32.ofNat x)), (.int (Int32.ofNat y))] ∧ Z.Warmed39 U_.vm ∧ U_.heap = h0) (fun _ _ _ _ _ => True) (fun _ U_ o_ V_ => ∃ v_ L_, o_ = .returned v_ ∧ QI (Int32.ofNat x) h0 n0 v_ V_.heap L_ ∧ FrameEnd U_ o_ V_ L_ ({ frames := 0, cells := 0, slots := 0, locals := 0 } : Room).cells ({ frames := 0, cells := 0, slots := 0, locals := 0 } : Room).slots) := by
  refine MetFree.of_bodySF (Jvm.Free.JP.mathPlain rfl (by decide +kernel)) hisR ?_
  intro p e s m args below meth c s₁ Bd hml0 hP hK
  obtain ⟨rfl, hZ, hh⟩ := hP
  have hx := Bd.exec
  have hby := Bd.bytes
  have hml : c.maxLocals = 2 := hml0
  have hown : s.vm.findClass "java/lang/Math" = some m.cls := findClass_of_methodNamed Bd.named
  have hnm := (name_of_methodNamed Bd.named Bd.method).1
  have X0 : Stand p l e ({ frames := 0, cells := 0, slots := 0, locals := 0 } : Room) s m #[(.int (Int32.ofNat x)), (.int (Int32.ofNat y))] below meth c s₁ [] 0 0 := Stand.of_body Bd
  have e0 : s₁.heap = h0 := by rw [← hh, Bd.state]; rfl
  have N0 := Fr.nil n0
  have pre0 : ∀ zz, Steps p.tables e below (s₁.setTop (mkF m 0 #[.val (.int (Int32.ofNat x)), .val (.int (Int32.ofNat y))] [])) zz → Steps p.tables e below (s₁.setTop (entryFrame m #[(.int (Int32.ofNat x)), (.int (Int32.ofNat y))] 2)) zz := fun zz kz_ => castTop (ef_28 m (Int32.ofNat x) (Int32.ofNat y)) kz_
  obtain ⟨fs, hr, hrun, hended, hW, hsame⟩ := X0.leave (v := some (.int (Int32.ofNat x))) (fun h => by rw [Bd.returns] at h; cases h)
  refine ⟨_, _, pre0 _ ?_, hrun, hended, _, _, rfl, ?_, ⟨_, rfl⟩, hW, hsame.mono (by decide) (by decide)⟩
  · show Steps p.tables e below (s₁.setTop (mkF m 0 #[.val (.int (Int32.ofNat x)), .val (.int (Int32.ofNat y))] [])) _
    refine XS.iloadN X0.here hx rfl (hb hby d28_0) rfl ?_
    refine XS.iloadN X0.here hx rfl (hb hby d28_1) rfl ?_
    refine XS.icmpNo X0.here hx rfl (hb hby d28_2) rfl (flt (fun q => hq ((ltN hy hx').mp q))).2.2.1 ?_
    refine XS.iloadN X0.here hx rfl (hb hby d28_5) rfl ?_
    refine XS.goto X0.here hx rfl (pc0 := 6) (pc' := 10) rfl (hb hby d28_6) (by decide) (by decide) ?_
    show Steps p.tables e below (s₁.setTop (mkF m 10 #[.val (.int (Int32.ofNat x)), .val (.int (Int32.ofNat y))] [(.int (Int32.ofNat x))])) _
    exact retI X0 hx Bd.returns (hb hby d28_10) hr
  · show QI (Int32.ofNat x) h0 n0 _ s₁.heap _
    rw [e0]
    exact ⟨rfl, N0, rfl⟩
set_option maxRecDepth 65536 in
set_option maxHeartbeats 40000000 in
theorem rmMN (l : Launch) (Z : State) (a0 : Array Value) (hw : ∀ d ∈ tables_1, d.before a0 Z = true) (ws : List Jvm.Cond) (x y : Nat)  (h0 : Heap) (n0 : Nat) (Z0 : n0 ≤ h0.size) (hx' : x < 2147483648) (hy : y < 2147483648)  :
    MetFree l (⟨"java/lang/Math", "min", "(II)I"⟩ : MethodName) (head1 (Jvm.Cond.code (⟨"java/lang/Math", "min", "(II)I"⟩ : MethodName) jdk_29_method_69_code 2 (some .int) :: ws) ({ frames := 0, cells := 0, slots := 0, locals := 0 } : Room)) (fun aa_ U_ => aa_ = #[(.int (Int32.ofNat x)), (.int (Int32.ofNat y))] ∧ Z.Warmed39 U_.vm ∧ U_.heap = h0) (fun _ _ _ _ _ => True) (fun _ U_ o_ V_ => ∃ v_ L_, o_ = .returned v_ ∧ QI (Int32.ofNat (min x y)) h0 n0 v_ V_.heap L_ ∧ FrameEnd U_ o_ V_ L_ ({ frames := 0, cells := 0, slots := 0, locals := 0 } : Room).cells ({ frames := 0, cells := 0, slots := 0, locals := 0 } : Room).slots) := by
  by_cases hq : y < x
  · rw [show min x y = y by omega]; exact rmMN0 l Z a0 hw ws x y h0 n0 Z0 hx' hy hq
  · rw [show min x y = x by omega]; exact rmMN1 l Z a0 hw ws x y h0 n0 Z0 hx' hy hq
theorem d25_0 : decode jdk_48_method_27_code 0 = .ok (.iload_n 0, 1) := by decide +kernel
theorem d25_1 : decode jdk_48_method_27_code 1 = .ok (.iload_n 1, 1) := by decide +kernel
theorem d25_2 : decode jdk_48_method_27_code 2 = .ok (.iload_n 2, 1) := by decide +kernel
theorem d25_3 : decode jdk_48_method_27_code 3 = .ok (.invokestatic 194, 3) := by decide +kernel
theorem d25_6 : decode jdk_48_method_27_code 6 = .ok (.iadd, 1) := by decide +kernel
theorem d25_7 : decode jdk_48_method_27_code 7 = .ok (.istore_n 3, 1) := by decide +kernel
theorem d25_8 : decode jdk_48_method_27_code 8 = .ok (.iconst 0, 1) := by decide +kernel
theorem d25_9 : decode jdk_48_method_27_code 9 = .ok (.iload_n 3, 1) := by decide +kernel
theorem d25_10 : decode jdk_48_method_27_code 10 = .ok (.if_icmp .ge 11, 3) := by decide +kernel
theorem d25_13 : decode jdk_48_method_27_code 13 = .ok (.iload_n 3, 1) := by decide +kernel
theorem d25_14 : decode jdk_48_method_27_code 14 = .ok (.ldc 200, 2) := by decide +kernel
theorem d25_16 : decode jdk_48_method_27_code 16 = .ok (.if_icmp .gt 5, 3) := by decide +kernel
theorem d25_19 : decode jdk_48_method_27_code 19 = .ok (.iload_n 3, 1) := by decide +kernel
theorem d25_20 : decode jdk_48_method_27_code 20 = .ok (.ireturn, 1) := by decide +kernel
theorem pn_25 : plainName "jdk/internal/util/ArraysSupport" = true := by first | (simp [plainName, overriddenIn]; done) | decide +kernel
theorem ef_25 (m : MethodId) (x0 : Int32) (x1 : Int32) (x2 : Int32) : entryFrame m #[(.int x0), (.int x1), (.int x2)] 4 = mkF m 0 #[.val (.int x0), .val (.int x1), .val (.int x2), .unset] [] := by first | (simp [entryFrame, mkF, argsToLocals, Value.category]; done) | rfl
set_option maxRecDepth 65536 in
set_option maxHeartbeats 40000000 in
theorem rmNL (l : Launch) (Z : State) (a0 : Array Value) (hw : ∀ d ∈ tables_1, d.before a0 Z = true) (ws : List Jvm.Cond) (cap x y : Nat)  (h0 : Heap) (n0 : Nat) (Z0 : n0 ≤ h0.size) (hcap : cap ≤ 600) (hx' : x ≤ 600) (hy : y ≤ 600) (hy0 : 0 < y)  :
    MetFree l (⟨"jdk/internal/util/ArraysSupport", "newLength", "(III)I"⟩ : MethodName) (head1 (Jvm.Cond.code (⟨"jdk/internal/util/ArraysSupport", "newLength", "(III)I"⟩ : MethodName) jdk_48_method_27_code 4 (some .int) :: ws) ({ frames := 1, cells := 0, slots := 0, locals := 20 } : Room)) (fun aa_ U_ => aa_ = #[(.int (Int32.ofNat cap)), (.int (Int32.ofNat x)), (.int (Int32.ofNat y))] ∧ Z.Warmed39 U_.vm ∧ U_.heap = h0) (fun _ _ _ _ _ => True) (fun _ U_ o_ V_ => ∃ v_ L_, o_ = .returned v_ ∧ QI (Int32.ofNat (cap + max x y)) h0 n0 v_ V_.heap L_ ∧ FrameEnd U_ o_ V_ L_ ({ frames := 1, cells := 0, slots := 0, locals := 20 } : Room).cells ({ frames := 1, cells := 0, slots := 0, locals := 20 } : Room).slots) := by
  refine MetFree.of_bodySF (plainFor_of_name pn_25) hisR ?_
  intro p e s m args below meth c s₁ Bd hml0 hP hK
  obtain ⟨rfl, hZ, hh⟩ := hP
  have hx := Bd.exec
  have hby := Bd.bytes
  have hml : c.maxLocals = 4 := hml0
  have hown : s.vm.findClass "jdk/internal/util/ArraysSupport" = some m.cls := findClass_of_methodNamed Bd.named
  have hnm := (name_of_methodNamed Bd.named Bd.method).1
  have X0 : Stand p l e ({ frames := 1, cells := 0, slots := 0, locals := 20 } : Room) s m #[(.int (Int32.ofNat cap)), (.int (Int32.ofNat x)), (.int (Int32.ofNat y))] below meth c s₁ [] 0 0 := Stand.of_body Bd
  have e0 : s₁.heap = h0 := by rw [← hh, Bd.state]; rfl
  have N0 := Fr.nil n0
  have pre0 : ∀ zz, Steps p.tables e below (s₁.setTop (mkF m 0 #[.val (.int (Int32.ofNat cap)), .val (.int (Int32.ofNat x)), .val (.int (Int32.ofNat y)), .unset] [])) zz → Steps p.tables e below (s₁.setTop (entryFrame m #[(.int (Int32.ofNat cap)), (.int (Int32.ofNat x)), (.int (Int32.ofNat y))] 4)) zz := fun zz kz_ => castTop (ef_25 m (Int32.ofNat cap) (Int32.ofNat x) (Int32.ofNat y)) kz_
  obtain ⟨_, _, ⟨T35, L35, k35, n35⟩, -, X35, ⟨Lc35, hQ35, l35, y35, z35⟩, st35⟩ := Jvm.LawKit.callS X0 hx (y := (⟨"java/lang/Math", "max", "(II)I"⟩ : MethodName)) hown (mvT hZ (hwi hw 144 rfl)) (mvT hZ (hwi hw 145 rfl)) (mvT hZ (hwi hw 146 rfl)) (mvT hZ (hwi hw 147 rfl)) (by decide) (backOf (W := 1) (rmMX l Z a0 hw [] x y h0 n0 Z0 (by omega) (by omega)) hZ (hwi hw 147 rfl) (hwi hw 146 rfl) (by decide) (by decide)) (g := (mkF m 3 #[.val (.int (Int32.ofNat cap)), .val (.int (Int32.ofNat x)), .val (.int (Int32.ofNat y)), .unset] [(.int (Int32.ofNat y)), (.int (Int32.ofNat x)), (.int (Int32.ofNat cap))])) rfl (by rw [hml]; rfl) (argsL := [(.int (Int32.ofNat x)), (.int (Int32.ofNat y))]) (rest := [(.int (Int32.ofNat cap))]) (lenOf pd_21 rfl) rfl (by show 2 * 0 + _ ≤ _; exact Nat.le_of_eq rfl) (hb hby d25_3) (fun _ _ => ⟨rfl, e0, (by decide : 0 + 0 ≤ _), (by decide : 0 + 0 ≤ _)⟩)
  dsimp only [Pt.U, Pt.locs, Pt.cells, Pt.slots] at X35 l35 y35 z35 st35 hQ35
  obtain rfl : k35 = 0 := y35; obtain rfl : n35 = 0 := z35
  obtain ⟨rfl, N35q, e35⟩ := hQ35
  have N35 : Fr n0 L35 := by rw [l35]; exact Fr.app N0 N35q
  obtain ⟨fs, hr, hrun, hended, hW, hsame⟩ := X35.leave (v := some (.int (Int32.ofNat (cap + max x y)))) (fun h => by rw [Bd.returns] at h; cases h)
  refine ⟨_, _, pre0 _ ?_, hrun, hended, _, _, rfl, ?_, ⟨_, rfl⟩, hW, hsame.mono (by decide) (by decide)⟩
  · show Steps p.tables e below (s₁.setTop (mkF m 0 #[.val (.int (Int32.ofNat cap)), .val (.int (Int32.ofNat x)), .val (.int (Int32.ofNat y)), .unset] [])) _
    refine XS.iloadN X0.here hx rfl (hb hby d25_0) rfl ?_
    refine XS.iloadN X0.here hx rfl (hb hby d25_1) rfl ?_
    refine XS.iloadN X0.here hx rfl (hb hby d25_2) rfl ?_
    show Steps p.tables e below (s₁.setTop (mkF m 3 #[.val (.int (Int32.ofNat cap)), .val (.int (Int32.ofNat x)), .val (.int (Int32.ofNat y)), .unset] [(.int (Int32.ofNat y)), (.int (Int32.ofNat x)), (.int (Int32.ofNat cap))])) _
    refine st35 _ ?_
    refine XS.iadd X35.here hx rfl (hb hby d25_6) rfl ?_
    show Steps p.tables e below (T35.setTop (mkF m 7 #[.val (.int (Int32.ofNat cap)), .val (.int (Int32.ofNat x)), .val (.int (Int32.ofNat y)), .unset] [(.int ((Int32.ofNat cap) + (Int32.ofNat (max x y))))])) _
    rw [show ((Int32.ofNat cap) + (Int32.ofNat (max x y))) = (Int32.ofNat (cap + max x y)) from addN]
    show Steps p.tables e below (T35.setTop (mkF m 7 #[.val (.int (Int32.ofNat cap)), .val (.int (Int32.ofNat x)), .val (.int (Int32.ofNat y)), .unset] [(.int (Int32.ofNat (cap + max x y)))])) _
    refine XS.istoreN X35.here hx rfl (hb hby d25_7) rfl (l' := #[.val (.int (Int32.ofNat cap)), .val (.int (Int32.ofNat x)), .val (.int (Int32.ofNat y)), .val (.int (Int32.ofNat (cap + max x y)))]) rfl ?_
    refine XS.iconst X35.here hx rfl (hb hby d25_8) ?_
    refine XS.iloadN X35.here hx rfl (hb hby d25_9) rfl ?_
    refine XS.icmpNo X35.here hx rfl (hb hby d25_10) rfl (tlt ((ltN (i := 0) (by omega) (by omega)).mpr (by omega))).2.1 ?_
    refine XS.iloadN X35.here hx rfl (hb hby d25_13) rfl ?_
    refine X35.ldcInt hx hown (mvT hZ (hwi hw 148 rfl)) (g := (mkF m 14 #[.val (.int (Int32.ofNat cap)), .val (.int (Int32.ofNat x)), .val (.int (Int32.ofNat y)), .val (.int (Int32.ofNat (cap + max x y)))] [(.int (Int32.ofNat (cap + max x y)))])) rfl (hb hby d25_14) _ ?_
    show Steps p.tables e below (T35.setTop (mkF m 16 #[.val (.int (Int32.ofNat cap)), .val (.int (Int32.ofNat x)), .val (.int (Int32.ofNat y)), .val (.int (Int32.ofNat (cap + max x y)))] [(.int (2147483639 : Int32)), (.int (Int32.ofNat (cap + max x y)))])) _
    refine XS.icmpNo X35.here hx rfl (hb hby d25_16) rfl (flt (fun q => absurd ((ltN (i := 2147483639) (by omega) (by omega)).mp q) (by omega))).2.2.1 ?_
    refine XS.iloadN X35.here hx rfl (hb hby d25_19) rfl ?_
    show Steps p.tables e below (T35.setTop (mkF m 20 #[.val (.int (Int32.ofNat cap)), .val (.int (Int32.ofNat x)), .val (.int (Int32.ofNat y)), .val (.int (Int32.ofNat (cap + max x y)))] [(.int (Int32.ofNat (cap + max x y)))])) _
    exact retI X35 hx Bd.returns (hb hby d25_20) hr
  · show QI (Int32.ofNat (cap + max x y)) h0 n0 _ T35.heap _
    rw [e35]
    exact ⟨rfl, N35, rfl⟩
theorem d24_0 : decode jdk_68_method_10_code 0 = .ok (.aload_n 0, 1) := by decide +kernel
theorem d24_1 : decode jdk_68_method_10_code 1 = .ok (.getfield 15, 3) := by decide +kernel
theorem d24_4 : decode jdk_68_method_10_code 4 = .ok (.arraylength, 1) := by decide +kernel
theorem d24_5 : decode jdk_68_method_10_code 5 = .ok (.istore_n 2, 1) := by decide +kernel
theorem d24_6 : decode jdk_68_method_10_code 6 = .ok (.iload_n 1, 1) := by decide +kernel
theorem d24_7 : decode jdk_68_method_10_code 7 = .ok (.aload_n 0, 1) := by decide +kernel
theorem d24_8 : decode jdk_68_method_10_code 8 = .ok (.getfield 22, 3) := by decide +kernel
theorem d24_11 : decode jdk_68_method_10_code 11 = .ok (.ishl, 1) := by decide +kernel
theorem d24_12 : decode jdk_68_method_10_code 12 = .ok (.istore_n 3, 1) := by decide +kernel
theorem d24_13 : decode jdk_68_method_10_code 13 = .ok (.iload_n 3, 1) := by decide +kernel
theorem d24_14 : decode jdk_68_method_10_code 14 = .ok (.iload_n 2, 1) := by decide +kernel
theorem d24_15 : decode jdk_68_method_10_code 15 = .ok (.isub, 1) := by decide +kernel
theorem d24_16 : decode jdk_68_method_10_code 16 = .ok (.istore 4, 2) := by decide +kernel
theorem d24_18 : decode jdk_68_method_10_code 18 = .ok (.iload_n 2, 1) := by decide +kernel
theorem d24_19 : decode jdk_68_method_10_code 19 = .ok (.iload 4, 2) := by decide +kernel
theorem d24_21 : decode jdk_68_method_10_code 21 = .ok (.iload_n 2, 1) := by decide +kernel
theorem d24_22 : decode jdk_68_method_10_code 22 = .ok (.iconst 2, 1) := by decide +kernel
theorem d24_23 : decode jdk_68_method_10_code 23 = .ok (.aload_n 0, 1) := by decide +kernel
theorem d24_24 : decode jdk_68_method_10_code 24 = .ok (.getfield 22, 3) := by decide +kernel
theorem d24_27 : decode jdk_68_method_10_code 27 = .ok (.ishl, 1) := by decide +kernel
theorem d24_28 : decode jdk_68_method_10_code 28 = .ok (.iadd, 1) := by decide +kernel
theorem d24_29 : decode jdk_68_method_10_code 29 = .ok (.invokestatic 114, 3) := by decide +kernel
theorem d24_32 : decode jdk_68_method_10_code 32 = .ok (.istore 5, 2) := by decide +kernel
theorem d24_34 : decode jdk_68_method_10_code 34 = .ok (.iload 5, 2) := by decide +kernel
theorem d24_36 : decode jdk_68_method_10_code 36 = .ok (.ldc 39, 2) := by decide +kernel
theorem d24_38 : decode jdk_68_method_10_code 38 = .ok (.if_icmp .ne 13, 3) := by decide +kernel
theorem d24_51 : decode jdk_68_method_10_code 51 = .ok (.iload 5, 2) := by decide +kernel
theorem d24_53 : decode jdk_68_method_10_code 53 = .ok (.aload_n 0, 1) := by decide +kernel
theorem d24_54 : decode jdk_68_method_10_code 54 = .ok (.getfield 22, 3) := by decide +kernel
theorem d24_57 : decode jdk_68_method_10_code 57 = .ok (.ishr, 1) := by decide +kernel
theorem d24_58 : decode jdk_68_method_10_code 58 = .ok (.ireturn, 1) := by decide +kernel
theorem pn_24 : plainName "java/lang/AbstractStringBuilder" = true := by first | (simp [plainName, overriddenIn]; done) | decide +kernel
theorem ef_24 (m : MethodId) (x0 : Addr) (x1 : Int32) : entryFrame m #[(.ref x0), (.int x1)] 6 = mkF m 0 #[.val (.ref x0), .val (.int x1), .unset, .unset, .unset, .unset] [] := by first | (simp [entryFrame, mkF, argsToLocals, Value.category]; done) | rfl
set_option maxRecDepth 65536 in
set_option maxHeartbeats 40000000 in
theorem rmNC (l : Launch) (Z : State) (a0 : Array Value) (hw : ∀ d ∈ tables_1, d.before a0 Z = true) (ws : List Jvm.Cond) (o d : Addr) (cap cnt mn : Nat) (f : Nat → Value)  (h0 : Heap) (n0 : Nat) (Z0 : n0 ≤ h0.size) (hm : cap < mn) (hm' : mn ≤ 600) (hc2 : 2 * cap + 2 ≤ 600) (SB0 : SBd Z h0 o d cap cnt f)  :
    MetFree l (⟨"java/lang/AbstractStringBuilder", "newCapacity", "(I)I"⟩ : MethodName) (head1 (Jvm.Cond.code (⟨"java/lang/AbstractStringBuilder", "newCapacity", "(I)I"⟩ : MethodName) jdk_68_method_10_code 6 (some .int) :: ws) ({ frames := 2, cells := 0, slots := 0, locals := 45 } : Room)) (fun aa_ U_ => aa_ = #[(.ref o), (.int (Int32.ofNat mn))] ∧ Z.Warmed39 U_.vm ∧ U_.heap = h0) (fun _ _ _ _ _ => True) (fun _ U_ o_ V_ => ∃ v_ L_, o_ = .returned v_ ∧ QI (Int32.ofNat (max mn (2 * cap + 2))) h0 n0 v_ V_.heap L_ ∧ FrameEnd U_ o_ V_ L_ ({ frames := 2, cells := 0, slots := 0, locals := 45 } : Room).cells ({ frames := 2, cells := 0, slots := 0, locals := 45 } : Room).slots) := by
  refine MetFree.of_bodySF (plainFor_of_name pn_24) hisR ?_
  intro p e s m args below meth c s₁ Bd hml0 hP hK
  obtain ⟨rfl, hZ, hh⟩ := hP
  have hx := Bd.exec
  have hby := Bd.bytes
  have hml : c.maxLocals = 6 := hml0
  have hown : s.vm.findClass "java/lang/AbstractStringBuilder" = some m.cls := findClass_of_methodNamed Bd.named
  have hnm := (name_of_methodNamed Bd.named Bd.method).1
  have X0 : Stand p l e ({ frames := 2, cells := 0, slots := 0, locals := 45 } : Room) s m #[(.ref o), (.int (Int32.ofNat mn))] below meth c s₁ [] 0 0 := Stand.of_body Bd
  have e0 : s₁.heap = h0 := by rw [← hh, Bd.state]; rfl
  have N0 := Fr.nil n0
  have pre0 : ∀ zz, Steps p.tables e below (s₁.setTop (mkF m 0 #[.val (.ref o), .val (.int (Int32.ofNat mn)), .unset, .unset, .unset, .unset] [])) zz → Steps p.tables e below (s₁.setTop (entryFrame m #[(.ref o), (.int (Int32.ofNat mn))] 6)) zz := fun zz kz_ => castTop (ef_24 m o (Int32.ofNat mn)) kz_
  obtain ⟨EO, FV, FC, FN, ED, f1, FD, hft1, hag⟩ := id SB0
  have hod : o ≠ d := EO.ne ED (by decide)
  obtain ⟨T36, X36, e36, st36⟩ := getF X0 hx hZ hown (host := "") (Or.inl (hwi hw 104 rfl)) Via.refl e0 FV (g := (mkF m 1 #[.val (.ref o), .val (.int (Int32.ofNat mn)), .unset, .unset, .unset, .unset] [(.ref o)])) rfl rfl (hb hby d24_1)
  obtain ⟨T37, X37, e37, st37⟩ := getF X36 hx hZ hown (host := "") (Or.inl (hwi hw 106 rfl)) Via.refl e36 FC (g := (mkF m 8 #[.val (.ref o), .val (.int (Int32.ofNat mn)), .val (.int (Int32.ofNat cap)), .unset, .unset, .unset] [(.ref o), (.int (Int32.ofNat mn))])) rfl rfl (hb hby d24_8)
  obtain ⟨T38, X38, e38, st38⟩ := getF X37 hx hZ hown (host := "") (Or.inl (hwi hw 106 rfl)) Via.refl e37 FC (g := (mkF m 24 #[.val (.ref o), .val (.int (Int32.ofNat mn)), .val (.int (Int32.ofNat cap)), .val (.int (Int32.ofNat mn)), .val (.int (Int32.ofNat (mn - cap))), .unset] [(.ref o), (.int (2 : Int32)), (.int (Int32.ofNat cap)), (.int (Int32.ofNat (mn - cap))), (.int (Int32.ofNat cap))])) rfl rfl (hb hby d24_24)
  obtain ⟨_, _, ⟨T39, L39, k39, n39⟩, -, X39, ⟨Lc39, hQ39, l39, y39, z39⟩, st39⟩ := Jvm.LawKit.callS X38 hx (y := (⟨"jdk/internal/util/ArraysSupport", "newLength", "(III)I"⟩ : MethodName)) hown (mvT hZ (hwi hw 141 rfl)) (mvT hZ (hwi hw 142 rfl)) (mvT hZ (hwi hw 55 rfl)) (mvT hZ (hwi hw 143 rfl)) (by decide) (backOf (W := 0) (rmNL l Z a0 hw [] cap (mn - cap) (cap + 2) h0 n0 Z0 (by omega) (by omega) (by omega) (by omega)) hZ (hwi hw 143 rfl) (hwi hw 55 rfl) (by decide) (by decide)) (g := (mkF m 29 #[.val (.ref o), .val (.int (Int32.ofNat mn)), .val (.int (Int32.ofNat cap)), .val (.int (Int32.ofNat mn)), .val (.int (Int32.ofNat (mn - cap))), .unset] [(.int (Int32.ofNat (cap + 2))), (.int (Int32.ofNat (mn - cap))), (.int (Int32.ofNat cap))])) rfl (by rw [hml]; rfl) (argsL := [(.int (Int32.ofNat cap)), (.int (Int32.ofNat (mn - cap))), (.int (Int32.ofNat (cap + 2)))]) (rest := []) (lenOf pd_20 rfl) rfl (by show 2 * 0 + _ ≤ _; exact Nat.le_of_eq rfl) (hb hby d24_29) (fun _ _ => ⟨rfl, e38, (by decide : 0 + 0 ≤ _), (by decide : 0 + 0 ≤ _)⟩)
  dsimp only [Pt.U, Pt.locs, Pt.cells, Pt.slots] at X39 l39 y39 z39 st39 hQ39
  obtain rfl : k39 = 0 := y39; obtain rfl : n39 = 0 := z39
  obtain ⟨rfl, N39q, e39⟩ := hQ39
  have N39 : Fr n0 L39 := by rw [l39]; exact Fr.app N0 N39q
  obtain ⟨T40, X40, e40, st40⟩ := getF X39 hx hZ hown (host := "") (Or.inl (hwi hw 106 rfl)) Via.refl e39 FC (g := (mkF m 54 #[.val (.ref o), .val (.int (Int32.ofNat mn)), .val (.int (Int32.ofNat cap)), .val (.int (Int32.ofNat mn)), .val (.int (Int32.ofNat (mn - cap))), .val (.int (Int32.ofNat (max mn (2 * cap + 2))))] [(.ref o), (.int (Int32.ofNat (max mn (2 * cap + 2))))])) rfl rfl (hb hby d24_54)
  obtain ⟨fs, hr, hrun, hended, hW, hsame⟩ := X40.leave (v := some (.int (Int32.ofNat (max mn (2 * cap + 2))))) (fun h => by rw [Bd.returns] at h; cases h)
  refine ⟨_, _, pre0 _ ?_, hrun, hended, _, _, rfl, ?_, ⟨_, rfl⟩, hW, hsame.mono (by decide) (by decide)⟩
  · show Steps p.tables e below (s₁.setTop (mkF m 0 #[.val (.ref o), .val (.int (Int32.ofNat mn)), .unset, .unset, .unset, .unset] [])) _
    refine XS.aloadN X0.here hx rfl (hb hby d24_0) rfl rfl ?_
    show Steps p.tables e below (s₁.setTop (mkF m 1 #[.val (.ref o), .val (.int (Int32.ofNat mn)), .unset, .unset, .unset, .unset] [(.ref o)])) _
    refine st36 _ ?_
    show Steps p.tables e below (T36.setTop (mkF m 4 #[.val (.ref o), .val (.int (Int32.ofNat mn)), .unset, .unset, .unset, .unset] [(.ref d)])) _
    refine lenA X36 hx hZ e36 FD (g := (mkF m 4 #[.val (.ref o), .val (.int (Int32.ofNat mn)), .unset, .unset, .unset, .unset] [(.ref d)])) rfl rfl (hb hby d24_4) ?_
    refine XS.istoreN X36.here hx rfl (hb hby d24_5) rfl (l' := #[.val (.ref o), .val (.int (Int32.ofNat mn)), .val (.int (Int32.ofNat cap)), .unset, .unset, .unset]) rfl ?_
    refine XS.iloadN X36.here hx rfl (hb hby d24_6) rfl ?_
    refine XS.aloadN X36.here hx rfl (hb hby d24_7) rfl rfl ?_
    show Steps p.tables e below (T36.setTop (mkF m 8 #[.val (.ref o), .val (.int (Int32.ofNat mn)), .val (.int (Int32.ofNat cap)), .unset, .unset, .unset] [(.ref o), (.int (Int32.ofNat mn))])) _
    refine st37 _ ?_
    refine XS.ishl X37.here hx rfl (hb hby d24_11) rfl ?_
    show Steps p.tables e below (T37.setTop (mkF m 12 #[.val (.ref o), .val (.int (Int32.ofNat mn)), .val (.int (Int32.ofNat cap)), .unset, .unset, .unset] [(.int ((Int32.ofNat mn) <<< ((0 : Int32) &&& 31)))])) _
    rw [show ((Int32.ofNat mn) <<< ((0 : Int32) &&& 31)) = (Int32.ofNat mn) from shl0 _]
    show Steps p.tables e below (T37.setTop (mkF m 12 #[.val (.ref o), .val (.int (Int32.ofNat mn)), .val (.int (Int32.ofNat cap)), .unset, .unset, .unset] [(.int (Int32.ofNat mn))])) _
    refine XS.istoreN X37.here hx rfl (hb hby d24_12) rfl (l' := #[.val (.ref o), .val (.int (Int32.ofNat mn)), .val (.int (Int32.ofNat cap)), .val (.int (Int32.ofNat mn)), .unset, .unset]) rfl ?_
    refine XS.iloadN X37.here hx rfl (hb hby d24_13) rfl ?_
    refine XS.iloadN X37.here hx rfl (hb hby d24_14) rfl ?_
    refine XS.isub X37.here hx rfl (hb hby d24_15) rfl ?_
    show Steps p.tables e below (T37.setTop (mkF m 16 #[.val (.ref o), .val (.int (Int32.ofNat mn)), .val (.int (Int32.ofNat cap)), .val (.int (Int32.ofNat mn)), .unset, .unset] [(.int ((Int32.ofNat mn) - (Int32.ofNat cap)))])) _
    rw [show ((Int32.ofNat mn) - (Int32.ofNat cap)) = (Int32.ofNat (mn - cap)) from subN (by omega) (by omega)]
    show Steps p.tables e below (T37.setTop (mkF m 16 #[.val (.ref o), .val (.int (Int32.ofNat mn)), .val (.int (Int32.ofNat cap)), .val (.int (Int32.ofNat mn)), .unset, .unset] [(.int (Int32.ofNat (mn - cap)))])) _
    refine XS.istore X37.here hx rfl (hb hby d24_16) rfl (l' := #[.val (.ref o), .val (.int (Int32.ofNat mn)), .val (.int (Int32.ofNat cap)), .val (.int (Int32.ofNat mn)), .val (.int (Int32.ofNat (mn - cap))), .unset]) rfl ?_
    refine XS.iloadN X37.here hx rfl (hb hby d24_18) rfl ?_
    refine XS.iload X37.here hx rfl (hb hby d24_19) rfl ?_
    refine XS.iloadN X37.here hx rfl (hb hby d24_21) rfl ?_
    refine XS.iconst X37.here hx rfl (hb hby d24_22) ?_
    refine XS.aloadN X37.here hx rfl (hb hby d24_23) rfl rfl ?_
    show Steps p.tables e below (T37.setTop (mkF m 24 #[.val (.ref o), .val (.int (Int32.ofNat mn)), .val (.int (Int32.ofNat cap)), .val (.int (Int32.ofNat mn)), .val (.int (Int32.ofNat (mn - cap))), .unset] [(.ref o), (.int (2 : Int32)), (.int (Int32.ofNat cap)), (.int (Int32.ofNat (mn - cap))), (.int (Int32.ofNat cap))])) _
    refine st38 _ ?_
    refine XS.ishl X38.here hx rfl (hb hby d24_27) rfl ?_
    refine XS.iadd X38.here hx rfl (hb hby d24_28) rfl ?_
    show Steps p.tables e below (T38.setTop (mkF m 29 #[.val (.ref o), .val (.int (Int32.ofNat mn)), .val (.int (Int32.ofNat cap)), .val (.int (Int32.ofNat mn)), .val (.int (Int32.ofNat (mn - cap))), .unset] [(.int ((Int32.ofNat cap) + ((2 : Int32) <<< ((0 : Int32) &&& 31)))), (.int (Int32.ofNat (mn - cap))), (.int (Int32.ofNat cap))])) _
    rw [show ((Int32.ofNat cap) + ((2 : Int32) <<< ((0 : Int32) &&& 31))) = (Int32.ofNat (cap + 2)) from addN (m := 2)]
    show Steps p.tables e below (T38.setTop (mkF m 29 #[.val (.ref o), .val (.int (Int32.ofNat mn)), .val (.int (Int32.ofNat cap)), .val (.int (Int32.ofNat mn)), .val (.int (Int32.ofNat (mn - cap))), .unset] [(.int (Int32.ofNat (cap + 2))), (.int (Int32.ofNat (mn - cap))), (.int (Int32.ofNat cap))])) _
    refine st39 _ ?_
    show Steps p.tables e below (T39.setTop (mkF m 32 #[.val (.ref o), .val (.int (Int32.ofNat mn)), .val (.int (Int32.ofNat cap)), .val (.int (Int32.ofNat mn)), .val (.int (Int32.ofNat (mn - cap))), .unset] [(.int (Int32.ofNat (cap + max (mn - cap) (cap + 2))))])) _
    rw [show (Int32.ofNat (cap + max (mn - cap) (cap + 2))) = (Int32.ofNat (max mn (2 * cap + 2))) from congrArg Int32.ofNat (by omega)]
    show Steps p.tables e below (T39.setTop (mkF m 32 #[.val (.ref o), .val (.int (Int32.ofNat mn)), .val (.int (Int32.ofNat cap)), .val (.int (Int32.ofNat mn)), .val (.int (Int32.ofNat (mn - cap))), .unset] [(.int (Int32.ofNat (max mn (2 * cap + 2))))])) _
    refine XS.istore X39.here hx rfl (hb hby d24_32) rfl (l' := #[.val (.ref o), .val (.int (Int32.ofNat mn)), .val (.int (Int32.ofNat cap)), .val (.int (Int32.ofNat mn)), .val (.int (Int32.ofNat (mn - cap))), .val (.int (Int32.ofNat (max mn (2 * cap + 2))))]) rfl ?_
    refine XS.iload X39.here hx rfl (hb hby d24_34) rfl ?_
    refine X39.ldcInt hx hown (mvT hZ (hwi hw 149 rfl)) (g := (mkF m 36 #[.val (.ref o), .val (.int (Int32.ofNat mn)), .val (.int (Int32.ofNat cap)), .val (.int (Int32.ofNat mn)), .val (.int (Int32.ofNat (mn - cap))), .val (.int (Int32.ofNat (max mn (2 * cap + 2))))] [(.int (Int32.ofNat (max mn (2 * cap + 2))))])) rfl (hb hby d24_36) _ ?_
    refine XS.icmpYes X39.here hx rfl (pc0 := 38) (pc' := 51) rfl (hb hby d24_38) rfl (feq (neN (m := 2147483647) (by omega) (by omega) (by omega))).2 (by decide) (by decide) ?_
    refine XS.iload X39.here hx rfl (hb hby d24_51) rfl ?_
    refine XS.aloadN X39.here hx rfl (hb hby d24_53) rfl rfl ?_
    show Steps p.tables e below (T39.setTop (mkF m 54 #[.val (.ref o), .val (.int (Int32.ofNat mn)), .val (.int (Int32.ofNat cap)), .val (.int (Int32.ofNat mn)), .val (.int (Int32.ofNat (mn - cap))), .val (.int (Int32.ofNat (max mn (2 * cap + 2))))] [(.ref o), (.int (Int32.ofNat (max mn (2 * cap + 2))))])) _
    refine st40 _ ?_
    refine XS.ishr X40.here hx rfl (hb hby d24_57) rfl ?_
    show Steps p.tables e below (T40.setTop (mkF m 58 #[.val (.ref o), .val (.int (Int32.ofNat mn)), .val (.int (Int32.ofNat cap)), .val (.int (Int32.ofNat mn)), .val (.int (Int32.ofNat (mn - cap))), .val (.int (Int32.ofNat (max mn (2 * cap + 2))))] [(.int ((Int32.ofNat (max mn (2 * cap + 2))) >>> ((0 : Int32) &&& 31)))])) _
    rw [show ((Int32.ofNat (max mn (2 * cap + 2))) >>> ((0 : Int32) &&& 31)) = (Int32.ofNat (max mn (2 * cap + 2))) from shr0 _]
    show Steps p.tables e below (T40.setTop (mkF m 58 #[.val (.ref o), .val (.int (Int32.ofNat mn)), .val (.int (Int32.ofNat cap)), .val (.int (Int32.ofNat mn)), .val (.int (Int32.ofNat (mn - cap))), .val (.int (Int32.ofNat (max mn (2 * cap + 2))))] [(.int (Int32.ofNat (max mn (2 * cap + 2))))])) _
    exact retI X40 hx Bd.returns (hb hby d24_58) hr
  · show QI (Int32.ofNat (max mn (2 * cap + 2))) h0 n0 _ T40.heap _
    rw [e40]
    exact ⟨rfl, N39, rfl⟩
theorem d27_0 : decode jdk_65_method_121_code 0 = .ok (.iload_n 1, 1) := by decide +kernel
theorem d27_1 : decode jdk_65_method_121_code 1 = .ok (.aload_n 0, 1) := by decide +kernel
theorem d27_2 : decode jdk_65_method_121_code 2 = .ok (.arraylength, 1) := by decide +kernel
theorem d27_3 : decode jdk_65_method_121_code 3 = .ok (.if_icmp .ne 11, 3) := by decide +kernel
theorem d27_14 : decode jdk_65_method_121_code 14 = .ok (.iload_n 1, 1) := by decide +kernel
theorem d27_15 : decode jdk_65_method_121_code 15 = .ok (.newarray .byte, 2) := by decide +kernel
theorem d27_17 : decode jdk_65_method_121_code 17 = .ok (.astore_n 2, 1) := by decide +kernel
theorem d27_18 : decode jdk_65_method_121_code 18 = .ok (.aload_n 0, 1) := by decide +kernel
theorem d27_19 : decode jdk_65_method_121_code 19 = .ok (.iconst 0, 1) := by decide +kernel
theorem d27_20 : decode jdk_65_method_121_code 20 = .ok (.aload_n 2, 1) := by decide +kernel
theorem d27_21 : decode jdk_65_method_121_code 21 = .ok (.iconst 0, 1) := by decide +kernel
theorem d27_22 : decode jdk_65_method_121_code 22 = .ok (.aload_n 0, 1) := by decide +kernel
theorem d27_23 : decode jdk_65_method_121_code 23 = .ok (.arraylength, 1) := by decide +kernel
theorem d27_24 : decode jdk_65_method_121_code 24 = .ok (.iload_n 1, 1) := by decide +kernel
theorem d27_25 : decode jdk_65_method_121_code 25 = .ok (.invokestatic 304, 3) := by decide +kernel
theorem d27_28 : decode jdk_65_method_121_code 28 = .ok (.invokestatic 150, 3) := by decide +kernel
theorem d27_31 : decode jdk_65_method_121_code 31 = .ok (.aload_n 2, 1) := by decide +kernel
theorem d27_32 : decode jdk_65_method_121_code 32 = .ok (.areturn, 1) := by decide +kernel
theorem pn_27 : plainName "java/util/Arrays" = true := by first | (simp [plainName, overriddenIn]; done) | decide +kernel
theorem ef_27 (m : MethodId) (x0 : Addr) (x1 : Int32) : entryFrame m #[(.ref x0), (.int x1)] 3 = mkF m 0 #[.val (.ref x0), .val (.int x1), .unset] [] := by first | (simp [entryFrame, mkF, argsToLocals, Value.category]; done) | rfl
set_option maxRecDepth 65536 in
set_option maxHeartbeats 40000000 in
theorem rmCPY (l : Launch) (Z : State) (a0 : Array Value) (hw : ∀ d ∈ tables_1, d.before a0 Z = true) (ws : List Jvm.Cond) (d : Addr) (cap k : Nat) (f1 : Nat → Value)  (h0 : Heap) (n0 : Nat) (Z0 : n0 ≤ h0.size) (hk : k ≤ 600) (hck : cap < k) (ED : Exa Z h0 d "[B") (FD : AF Z h0 d .byte cap f1) (hft1 : ∀ j, j < cap → fits .byte (f1 j) = true)  :
    MetFree l (⟨"java/util/Arrays", "copyOf", "([BI)[B"⟩ : MethodName) (head1 (Jvm.Cond.code (⟨"java/util/Arrays", "copyOf", "([BI)[B"⟩ : MethodName) jdk_65_method_121_code 3 (some (.array .byte)) :: ws) ({ frames := 1, cells := 1, slots := 600, locals := 40 } : Room)) (fun aa_ U_ => aa_ = #[(.ref d), (.int (Int32.ofNat k))] ∧ Z.Warmed39 U_.vm ∧ U_.heap = h0) (fun _ _ _ _ _ => True) (fun _ U_ o_ V_ => ∃ v_ L_, o_ = .returned v_ ∧ QAx Z k (fun j => if j < cap then f1 j else z0 j) h0 n0 v_ V_.heap L_ ∧ FrameEnd U_ o_ V_ L_ ({ frames := 1, cells := 1, slots := 600, locals := 40 } : Room).cells ({ frames := 1, cells := 1, slots := 600, locals := 40 } : Room).slots) := by
  refine MetFree.of_bodySF (plainFor_of_name pn_27) hisR ?_
  intro p e s m args below meth c s₁ Bd hml0 hP hK
  obtain ⟨rfl, hZ, hh⟩ := hP
  have hx := Bd.exec
  have hby := Bd.bytes
  have hml : c.maxLocals = 3 := hml0
  have hown : s.vm.findClass "java/util/Arrays" = some m.cls := findClass_of_methodNamed Bd.named
  have hnm := (name_of_methodNamed Bd.named Bd.method).1
  have X0 : Stand p l e ({ frames := 1, cells := 1, slots := 600, locals := 40 } : Room) s m #[(.ref d), (.int (Int32.ofNat k))] below meth c s₁ [] 0 0 := Stand.of_body Bd
  have e0 : s₁.heap = h0 := by rw [← hh, Bd.state]; rfl
  have N0 := Fr.nil n0
  have pre0 : ∀ zz, Steps p.tables e below (s₁.setTop (mkF m 0 #[.val (.ref d), .val (.int (Int32.ofNat k)), .unset] [])) zz → Steps p.tables e below (s₁.setTop (entryFrame m #[(.ref d), (.int (Int32.ofNat k))] 3)) zz := fun zz kz_ => castTop (ef_27 m d (Int32.ofNat k)) kz_
  obtain ⟨T41, h41, X41, e41, E41, A41, B41, st41⟩ := nwB X0 hx hZ (hwi hw 20 rfl) e0 (g := (mkF m 15 #[.val (.ref d), .val (.int (Int32.ofNat k)), .unset] [(.int (Int32.ofNat k))])) rfl (hb hby d27_15) (n := k) rfl (cap := 600) (by omega) (by decide) (by decide) (by decide)
  obtain ⟨b41, q41⟩ : ∃ z, z = h0.size := ⟨_, rfl⟩
  rw [← q41] at A41 B41 st41
  have g_b41 : n0 ≤ b41 := Nat.le_trans Z0 (Nat.le_of_eq q41.symm)
  have sz_b41 : h0.size ≤ b41 := Nat.le_trans (Keep.refl h0 []).1 (Nat.le_of_eq q41.symm)
  have K41 := (Keep.refl h0 []).ext E41
  have Z41 : n0 ≤ h41.size := Nat.le_trans Z0 E41.1
  have ne_d_b41 : d ≠ b41 := Nat.ne_of_lt (Nat.lt_of_lt_of_le ED.lt (Nat.le_of_eq q41.symm))
  have ED_e41 := ED.ext E41
  have FD_e41 := FD.ext E41
  obtain ⟨_, _, ⟨T42, L42, k42, n42⟩, -, X42, ⟨Lc42, hQ42, l42, y42, z42⟩, st42⟩ := Jvm.LawKit.callS X41 hx (y := (⟨"java/lang/Math", "min", "(II)I"⟩ : MethodName)) hown (mvT hZ (hwi hw 154 rfl)) (mvT hZ (hwi hw 155 rfl)) (mvT hZ (hwi hw 146 rfl)) (mvT hZ (hwi hw 156 rfl)) (by decide) (backOf (W := 4) (rmMN l Z a0 hw [] cap k h41 n0 Z41 (by omega) (by omega)) hZ (hwi hw 156 rfl) (hwi hw 146 rfl) (by decide) (by decide)) (g := (mkF m 25 #[.val (.ref d), .val (.int (Int32.ofNat k)), .val (.ref b41)] [(.int (Int32.ofNat k)), (.int (Int32.ofNat cap)), (.int (0 : Int32)), (.ref b41), (.int (0 : Int32)), (.ref d)])) rfl (by rw [hml]; rfl) (argsL := [(.int (Int32.ofNat cap)), (.int (Int32.ofNat k))]) (rest := [(.int (0 : Int32)), (.ref b41), (.int (0 : Int32)), (.ref d)]) (lenOf pd_21 rfl) rfl (by show 2 * 0 + _ ≤ _; exact Nat.le_of_eq rfl) (hb hby d27_25) (fun _ _ => ⟨rfl, e41, (by decide : 1 + 0 ≤ _), (by decide : 600 + 0 ≤ _)⟩)
  dsimp only [Pt.U, Pt.locs, Pt.cells, Pt.slots] at X42 l42 y42 z42 st42 hQ42
  obtain rfl : k42 = 1 := y42; obtain rfl : n42 = 600 := z42
  obtain ⟨rfl, N42q, e42⟩ := hQ42
  have N42 : Fr n0 L42 := by rw [l42]; exact Fr.app N0 N42q
  obtain ⟨T43, h43, L43, X43, e43, N43, K43, A43, st43⟩ := cpF X42 hx hZ hown (hwi hw 157 rfl) (hwi hw 160 rfl) (hwi hw 158 rfl) (hwi hw 159 rfl) e42 FD_e41 A41 rfl (by omega) (by omega) (by omega) (by omega) hft1 (fun _ _ => rfl) N42 g_b41 (g := (mkF m 28 #[.val (.ref d), .val (.int (Int32.ofNat k)), .val (.ref b41)] [(.int (Int32.ofNat cap)), (.int (0 : Int32)), (.ref b41), (.int (0 : Int32)), (.ref d)])) rfl (by rw [hml]; rfl) rfl (hb hby d27_28) (by decide) (W := 0) (by show 2 * 0 + _ ≤ _; exact Nat.le_of_eq rfl) (by decide)
  have ED_e43 := ED_e41.keep K43
  have FD_e43 := FD_e41.keep K43 (notin1 ne_d_b41)
  have B41_e43 := B41.keep K43
  have KK43 := K41.trans K43 (fun x r => by cases List.mem_singleton.mp r; exact (Or.inr sz_b41))
  have Z43 : n0 ≤ h43.size := Nat.le_trans Z41 K43.1
  obtain ⟨fs, hr, hrun, hended, hW, hsame⟩ := X43.leave (v := some (.ref b41)) (fun h => by rw [Bd.returns] at h; cases h)
  refine ⟨_, _, pre0 _ ?_, hrun, hended, _, _, rfl, ?_, ⟨_, rfl⟩, hW, hsame.mono (by decide) (by decide)⟩
  · show Steps p.tables e below (s₁.setTop (mkF m 0 #[.val (.ref d), .val (.int (Int32.ofNat k)), .unset] [])) _
    refine XS.iloadN X0.here hx rfl (hb hby d27_0) rfl ?_
    refine XS.aloadN X0.here hx rfl (hb hby d27_1) rfl rfl ?_
    show Steps p.tables e below (s₁.setTop (mkF m 2 #[.val (.ref d), .val (.int (Int32.ofNat k)), .unset] [(.ref d), (.int (Int32.ofNat k))])) _
    refine lenA X0 hx hZ e0 FD (g := (mkF m 2 #[.val (.ref d), .val (.int (Int32.ofNat k)), .unset] [(.ref d), (.int (Int32.ofNat k))])) rfl rfl (hb hby d27_2) ?_
    refine XS.icmpYes X0.here hx rfl (pc0 := 3) (pc' := 14) rfl (hb hby d27_3) rfl (feq (neN (by omega) (by omega) (by omega))).2 (by decide) (by decide) ?_
    refine XS.iloadN X0.here hx rfl (hb hby d27_14) rfl ?_
    show Steps p.tables e below (s₁.setTop (mkF m 15 #[.val (.ref d), .val (.int (Int32.ofNat k)), .unset] [(.int (Int32.ofNat k))])) _
    refine st41 _ ?_
    refine XS.astoreN X41.here hx rfl (hb hby d27_17) rfl rfl (l' := #[.val (.ref d), .val (.int (Int32.ofNat k)), .val (.ref b41)]) rfl ?_
    refine XS.aloadN X41.here hx rfl (hb hby d27_18) rfl rfl ?_
    refine XS.iconst X41.here hx rfl (hb hby d27_19) ?_
    refine XS.aloadN X41.here hx rfl (hb hby d27_20) rfl rfl ?_
    refine XS.iconst X41.here hx rfl (hb hby d27_21) ?_
    show Steps p.tables e below (T41.setTop (mkF m 22 #[.val (.ref d), .val (.int (Int32.ofNat k)), .val (.ref b41)] [(.int (0 : Int32)), (.ref b41), (.int (0 : Int32)), (.ref d)])) _
    refine XS.aloadN X41.here hx rfl (hb hby d27_22) rfl rfl ?_
    show Steps p.tables e below (T41.setTop (mkF m 23 #[.val (.ref d), .val (.int (Int32.ofNat k)), .val (.ref b41)] [(.ref d), (.int (0 : Int32)), (.ref b41), (.int (0 : Int32)), (.ref d)])) _
    refine lenA X41 hx hZ e41 FD_e41 (g := (mkF m 23 #[.val (.ref d), .val (.int (Int32.ofNat k)), .val (.ref b41)] [(.ref d), (.int (0 : Int32)), (.ref b41), (.int (0 : Int32)), (.ref d)])) rfl rfl (hb hby d27_23) ?_
    refine XS.iloadN X41.here hx rfl (hb hby d27_24) rfl ?_
    show Steps p.tables e below (T41.setTop (mkF m 25 #[.val (.ref d), .val (.int (Int32.ofNat k)), .val (.ref b41)] [(.int (Int32.ofNat k)), (.int (Int32.ofNat cap)), (.int (0 : Int32)), (.ref b41), (.int (0 : Int32)), (.ref d)])) _
    refine st42 _ ?_
    show Steps p.tables e below (T42.setTop (mkF m 28 #[.val (.ref d), .val (.int (Int32.ofNat k)), .val (.ref b41)] [(.int (Int32.ofNat (min cap k))), (.int (0 : Int32)), (.ref b41), (.int (0 : Int32)), (.ref d)])) _
    rw [show (Int32.ofNat (min cap k)) = (Int32.ofNat cap) from congrArg Int32.ofNat (by omega)]
    show Steps p.tables e below (T42.setTop (mkF m 28 #[.val (.ref d), .val (.int (Int32.ofNat k)), .val (.ref b41)] [(.int (Int32.ofNat cap)), (.int (0 : Int32)), (.ref b41), (.int (0 : Int32)), (.ref d)])) _
    refine st43 _ ?_
    refine XS.aloadN X43.here hx rfl (hb hby d27_31) rfl rfl ?_
    show Steps p.tables e below (T43.setTop (mkF m 32 #[.val (.ref d), .val (.int (Int32.ofNat k)), .val (.ref b41)] [(.ref b41)])) _
    jvm_step X43.here [X43.here.top, hx, (hb hby d27_32), X43.method', Bd.returns, Value.isRef, FieldType.isReference]
    first | (intro acts; rw [hr _ acts rfl rfl rfl]) | rw [hr _ _ rfl rfl rfl]
    exact Steps.refl _
  · show QAx Z k (fun j => if j < cap then f1 j else z0 j) h0 n0 _ T43.heap _
    exact ⟨b41, rfl, N43, by rw [e43]; exact KK43, sz_b41, by rw [e43]; exact ⟨A43, B41_e43⟩⟩
theorem d23_0 : decode jdk_68_method_9_code 0 = .ok (.aload_n 0, 1) := by decide +kernel
theorem d23_1 : decode jdk_68_method_9_code 1 = .ok (.getfield 15, 3) := by decide +kernel
theorem d23_4 : decode jdk_68_method_9_code 4 = .ok (.arraylength, 1) := by decide +kernel
theorem d23_5 : decode jdk_68_method_9_code 5 = .ok (.aload_n 0, 1) := by decide +kernel
theorem d23_6 : decode jdk_68_method_9_code 6 = .ok (.getfield 22, 3) := by decide +kernel
theorem d23_9 : decode jdk_68_method_9_code 9 = .ok (.ishr, 1) := by decide +kernel
theorem d23_10 : decode jdk_68_method_9_code 10 = .ok (.istore_n 2, 1) := by decide +kernel
theorem d23_11 : decode jdk_68_method_9_code 11 = .ok (.iload_n 1, 1) := by decide +kernel
theorem d23_12 : decode jdk_68_method_9_code 12 = .ok (.iload_n 2, 1) := by decide +kernel
theorem d23_13 : decode jdk_68_method_9_code 13 = .ok (.isub, 1) := by decide +kernel
theorem d23_14 : decode jdk_68_method_9_code 14 = .ok (.ifCond .le 24, 3) := by decide +kernel
theorem d23_17 : decode jdk_68_method_9_code 17 = .ok (.aload_n 0, 1) := by decide +kernel
theorem d23_18 : decode jdk_68_method_9_code 18 = .ok (.aload_n 0, 1) := by decide +kernel
theorem d23_19 : decode jdk_68_method_9_code 19 = .ok (.getfield 15, 3) := by decide +kernel
theorem d23_22 : decode jdk_68_method_9_code 22 = .ok (.aload_n 0, 1) := by decide +kernel
theorem d23_23 : decode jdk_68_method_9_code 23 = .ok (.iload_n 1, 1) := by decide +kernel
theorem d23_24 : decode jdk_68_method_9_code 24 = .ok (.invokevirtual 104, 3) := by decide +kernel
theorem d23_27 : decode jdk_68_method_9_code 27 = .ok (.aload_n 0, 1) := by decide +kernel
theorem d23_28 : decode jdk_68_method_9_code 28 = .ok (.getfield 22, 3) := by decide +kernel
theorem d23_31 : decode jdk_68_method_9_code 31 = .ok (.ishl, 1) := by decide +kernel
theorem d23_32 : decode jdk_68_method_9_code 32 = .ok (.invokestatic 108, 3) := by decide +kernel
theorem d23_35 : decode jdk_68_method_9_code 35 = .ok (.putfield 15, 3) := by decide +kernel
theorem d23_38 : decode jdk_68_method_9_code 38 = .ok (.return_, 1) := by decide +kernel
theorem pn_23 : plainName "java/lang/AbstractStringBuilder" = true := by first | (simp [plainName, overriddenIn]; done) | decide +kernel
theorem ef_23 (m : MethodId) (x0 : Addr) (x1 : Int32) : entryFrame m #[(.ref x0), (.int x1)] 3 = mkF m 0 #[.val (.ref x0), .val (.int x1), .unset] [] := by first | (simp [entryFrame, mkF, argsToLocals, Value.category]; done) | rfl
set_option maxRecDepth 65536 in
set_option maxHeartbeats 40000000 in
theorem rmENf (l : Launch) (Z : State) (a0 : Array Value) (hw : ∀ d ∈ tables_1, d.before a0 Z = true) (ws : List Jvm.Cond) (o d : Addr) (cap cnt mn : Nat) (f : Nat → Value)  (h0 : Heap) (n0 : Nat) (Z0 : n0 ≤ h0.size) (hm : mn ≤ cap) (hcap : cap ≤ 600) (SB0 : SBd Z h0 o d cap cnt f)  :
    MetFree l (⟨"java/lang/AbstractStringBuilder", "ensureCapacityInternal", "(I)V"⟩ : MethodName) (head1 (Jvm.Cond.code (⟨"java/lang/AbstractStringBuilder", "ensureCapacityInternal", "(I)V"⟩ : MethodName) jdk_68_method_9_code 3 none :: ws) ({ frames := 3, cells := 0, slots := 0, locals := 75 } : Room)) (fun aa_ U_ => aa_ = #[(.ref o), (.int (Int32.ofNat mn))] ∧ Z.Warmed39 U_.vm ∧ U_.heap = h0) (fun _ _ _ _ _ => True) (fun _ U_ o_ V_ => ∃ v_ L_, o_ = .returned v_ ∧ QN  h0 n0 v_ V_.heap L_ ∧ FrameEnd U_ o_ V_ L_ ({ frames := 3, cells := 0, slots := 0, locals := 75 } : Room).cells ({ frames := 3, cells := 0, slots := 0, locals := 75 } : Room).slots) := by
  refine MetFree.of_bodySF (plainFor_of_name pn_23) hisR ?_
  intro p e s m args below meth c s₁ Bd hml0 hP hK
  obtain ⟨rfl, hZ, hh⟩ := hP
  have hx := Bd.exec
  have hby := Bd.bytes
  have hml : c.maxLocals = 3 := hml0
  have hown : s.vm.findClass "java/lang/AbstractStringBuilder" = some m.cls := findClass_of_methodNamed Bd.named
  have hnm := (name_of_methodNamed Bd.named Bd.method).1
  have X0 : Stand p l e ({ frames := 3, cells := 0, slots := 0, locals := 75 } : Room) s m #[(.ref o), (.int (Int32.ofNat mn))] below meth c s₁ [] 0 0 := Stand.of_body Bd
  have e0 : s₁.heap = h0 := by rw [← hh, Bd.state]; rfl
  have N0 := Fr.nil n0
  have pre0 : ∀ zz, Steps p.tables e below (s₁.setTop (mkF m 0 #[.val (.ref o), .val (.int (Int32.ofNat mn)), .unset] [])) zz → Steps p.tables e below (s₁.setTop (entryFrame m #[(.ref o), (.int (Int32.ofNat mn))] 3)) zz := fun zz kz_ => castTop (ef_23 m o (Int32.ofNat mn)) kz_
  obtain ⟨EO, FV, FC, FN, ED, f1, FD, hft1, hag⟩ := id SB0
  have hod : o ≠ d := EO.ne ED (by decide)
  obtain ⟨T44, X44, e44, st44⟩ := getF X0 hx hZ hown (host := "") (Or.inl (hwi hw 104 rfl)) Via.refl e0 FV (g := (mkF m 1 #[.val (.ref o), .val (.int (Int32.ofNat mn)), .unset] [(.ref o)])) rfl rfl (hb hby d23_1)
  obtain ⟨T45, X45, e45, st45⟩ := getF X44 hx hZ hown (host := "") (Or.inl (hwi hw 106 rfl)) Via.refl e44 FC (g := (mkF m 6 #[.val (.ref o), .val (.int (Int32.ofNat mn)), .unset] [(.ref o), (.int (Int32.ofNat cap))])) rfl rfl (hb hby d23_6)
  obtain ⟨fs, hr, hrun, hended, hW, hsame⟩ := X45.leave (v := none) (fun _ => rfl)
  refine ⟨_, _, pre0 _ ?_, hrun, hended, _, _, rfl, ?_, ⟨_, rfl⟩, hW, hsame.mono (by decide) (by decide)⟩
  · show Steps p.tables e below (s₁.setTop (mkF m 0 #[.val (.ref o), .val (.int (Int32.ofNat mn)), .unset] [])) _
    refine XS.aloadN X0.here hx rfl (hb hby d23_0) rfl rfl ?_
    show Steps p.tables e below (s₁.setTop (mkF m 1 #[.val (.ref o), .val (.int (Int32.ofNat mn)), .unset] [(.ref o)])) _
    refine st44 _ ?_
    show Steps p.tables e below (T44.setTop (mkF m 4 #[.val (.ref o), .val (.int (Int32.ofNat mn)), .unset] [(.ref d)])) _
    refine lenA X44 hx hZ e44 FD (g := (mkF m 4 #[.val (.ref o), .val (.int (Int32.ofNat mn)), .unset] [(.ref d)])) rfl rfl (hb hby d23_4) ?_
    refine XS.aloadN X44.here hx rfl (hb hby d23_5) rfl rfl ?_
    show Steps p.tables e below (T44.setTop (mkF m 6 #[.val (.ref o), .val (.int (Int32.ofNat mn)), .unset] [(.ref o), (.int (Int32.ofNat cap))])) _
    refine st45 _ ?_
    refine XS.ishr X45.here hx rfl (hb hby d23_9) rfl ?_
    show Steps p.tables e below (T45.setTop (mkF m 10 #[.val (.ref o), .val (.int (Int32.ofNat mn)), .unset] [(.int ((Int32.ofNat cap) >>> ((0 : Int32) &&& 31)))])) _
    rw [show ((Int32.ofNat cap) >>> ((0 : Int32) &&& 31)) = (Int32.ofNat cap) from shr0 _]
    show Steps p.tables e below (T45.setTop (mkF m 10 #[.val (.ref o), .val (.int (Int32.ofNat mn)), .unset] [(.int (Int32.ofNat cap))])) _
    refine XS.istoreN X45.here hx rfl (hb hby d23_10) rfl (l' := #[.val (.ref o), .val (.int (Int32.ofNat mn)), .val (.int (Int32.ofNat cap))]) rfl ?_
    refine XS.iloadN X45.here hx rfl (hb hby d23_11) rfl ?_
    refine XS.iloadN X45.here hx rfl (hb hby d23_12) rfl ?_
    refine XS.isub X45.here hx rfl (hb hby d23_13) rfl ?_
    refine XS.ifYes X45.here hx rfl (pc0 := 14) (pc' := 38) rfl (hb hby d23_14) rfl ((if0 _ _).trans (flt (leS (by omega) (by omega))).2.2.2) (by decide) (by decide) ?_
    show Steps p.tables e below (T45.setTop (mkF m 38 #[.val (.ref o), .val (.int (Int32.ofNat mn)), .val (.int (Int32.ofNat cap))] [])) _
    exact X45.returnOut hx Bd.returns (hb hby d23_38) hr
  · show QN  h0 n0 _ T45.heap _
    rw [e45]
    exact ⟨rfl, N0, rfl⟩
set_option maxRecDepth 65536 in
set_option maxHeartbeats 40000000 in
theorem rmENg (l : Launch) (Z : State) (a0 : Array Value) (hw : ∀ d ∈ tables_1, d.before a0 Z = true) (ws : List Jvm.Cond) (o d : Addr) (cap cnt mn : Nat) (f : Nat → Value)  (h0 : Heap) (n0 : Nat) (Z0 : n0 ≤ h0.size) (hm : cap < mn) (hm' : mn ≤ 600) (hc2 : 2 * cap + 2 ≤ 600) (hcn : cnt ≤ cap) (O : Old Z n0 h0) (g_o : n0 ≤ o) (SB0 : SBd Z h0 o d cap cnt f)  :
    MetFree l (⟨"java/lang/AbstractStringBuilder", "ensureCapacityInternal", "(I)V"⟩ : MethodName) (head1 (Jvm.Cond.code (⟨"java/lang/AbstractStringBuilder", "ensureCapacityInternal", "(I)V"⟩ : MethodName) jdk_68_method_9_code 3 none :: ws) ({ frames := 3, cells := 1, slots := 600, locals := 75 } : Room)) (fun aa_ U_ => aa_ = #[(.ref o), (.int (Int32.ofNat mn))] ∧ Z.Warmed39 U_.vm ∧ U_.heap = h0) (fun _ _ _ _ _ => True) (fun _ U_ o_ V_ => ∃ v_ L_, o_ = .returned v_ ∧ QSB Z o (max mn (2 * cap + 2)) cnt f h0 n0 v_ V_.heap L_ ∧ FrameEnd U_ o_ V_ L_ ({ frames := 3, cells := 1, slots := 600, locals := 75 } : Room).cells ({ frames := 3, cells := 1, slots := 600, locals := 75 } : Room).slots) := by
  refine MetFree.of_bodySF (plainFor_of_name pn_23) hisR ?_
  intro p e s m args below meth c s₁ Bd hml0 hP hK
  obtain ⟨rfl, hZ, hh⟩ := hP
  have hx := Bd.exec
  have hby := Bd.bytes
  have hml : c.maxLocals = 3 := hml0
  have hown : s.vm.findClass "java/lang/AbstractStringBuilder" = some m.cls := findClass_of_methodNamed Bd.named
  have hnm := (name_of_methodNamed Bd.named Bd.method).1
  have X0 : Stand p l e ({ frames := 3, cells := 1, slots := 600, locals := 75 } : Room) s m #[(.ref o), (.int (Int32.ofNat mn))] below meth c s₁ [] 0 0 := Stand.of_body Bd
  have e0 : s₁.heap = h0 := by rw [← hh, Bd.state]; rfl
  have N0 := Fr.nil n0
  have pre0 : ∀ zz, Steps p.tables e below (s₁.setTop (mkF m 0 #[.val (.ref o), .val (.int (Int32.ofNat mn)), .unset] [])) zz → Steps p.tables e below (s₁.setTop (entryFrame m #[(.ref o), (.int (Int32.ofNat mn))] 3)) zz := fun zz kz_ => castTop (ef_23 m o (Int32.ofNat mn)) kz_
  obtain ⟨EO, FV, FC, FN, ED, f1, FD, hft1, hag⟩ := id SB0
  have hod : o ≠ d := EO.ne ED (by decide)
  obtain ⟨T46, X46, e46, st46⟩ := getF X0 hx hZ hown (host := "") (Or.inl (hwi hw 104 rfl)) Via.refl e0 FV (g := (mkF m 1 #[.val (.ref o), .val (.int (Int32.ofNat mn)), .unset] [(.ref o)])) rfl rfl (hb hby d23_1)
  obtain ⟨T47, X47, e47, st47⟩ := getF X46 hx hZ hown (host := "") (Or.inl (hwi hw 106 rfl)) Via.refl e46 FC (g := (mkF m 6 #[.val (.ref o), .val (.int (Int32.ofNat mn)), .unset] [(.ref o), (.int (Int32.ofNat cap))])) rfl rfl (hb hby d23_6)
  obtain ⟨T48, X48, e48, st48⟩ := getF X47 hx hZ hown (host := "") (Or.inl (hwi hw 104 rfl)) Via.refl e47 FV (g := (mkF m 19 #[.val (.ref o), .val (.int (Int32.ofNat mn)), .val (.int (Int32.ofNat cap))] [(.ref o), (.ref o)])) rfl rfl (hb hby d23_19)
  obtain ⟨cq49, kq49, q49a, q49b, q49c⟩ := isOf hZ e48 EO
  obtain ⟨_, _, ⟨T49, L49, k49, n49⟩, -, X49, ⟨Lc49, hQ49, l49, y49, z49⟩, st49⟩ := X48.virtualBack hx (y := (⟨"java/lang/AbstractStringBuilder", "newCapacity", "(I)I"⟩ : MethodName)) (z := (⟨"java/lang/AbstractStringBuilder", "newCapacity", "(I)I"⟩ : MethodName)) hown (mvT hZ (hwi hw 136 rfl)) (mvT hZ (declOf (hwi hw 137 rfl) (hwi hw 140 rfl))) (notFace_of_selects (args := #[]) (mvT hZ (hwi hw 139 rfl))) (mvT hZ (hwi hw 139 rfl)) (mvT hZ (hwi hw 137 rfl)) (by decide) (backOf (W := 2) (rmNC l Z a0 hw [] o d cap cnt mn f h0 n0 Z0 hm hm' hc2 SB0) hZ (hwi hw 140 rfl) (hwi hw 100 rfl) (by decide) (by decide)) q49a q49c (g := (mkF m 24 #[.val (.ref o), .val (.int (Int32.ofNat mn)), .val (.int (Int32.ofNat cap))] [(.int (Int32.ofNat mn)), (.ref o), (.ref d), (.ref o)])) rfl (by rw [hml]; rfl) (Steps.refl _) (argsL := [(.int (Int32.ofNat mn))]) (rest := [(.ref d), (.ref o)]) (lenOf pd_19 rfl) rfl (by show 2 * 0 + _ ≤ _; exact Nat.le_of_eq rfl) (hb hby d23_24) (fun _ _ => ⟨rfl, e48, (by decide : 0 + 0 ≤ _), (by decide : 0 + 0 ≤ _)⟩)
  dsimp only [Pt.U, Pt.locs, Pt.cells, Pt.slots] at X49 l49 y49 z49 st49 hQ49
  obtain rfl : k49 = 0 := y49; obtain rfl : n49 = 0 := z49
  obtain ⟨rfl, N49q, e49⟩ := hQ49
  have N49 : Fr n0 L49 := by rw [l49]; exact Fr.app N0 N49q
  obtain ⟨T50, X50, e50, st50⟩ := getF X49 hx hZ hown (host := "") (Or.inl (hwi hw 106 rfl)) Via.refl e49 FC (g := (mkF m 28 #[.val (.ref o), .val (.int (Int32.ofNat mn)), .val (.int (Int32.ofNat cap))] [(.ref o), (.int (Int32.ofNat (max mn (2 * cap + 2)))), (.ref d), (.ref o)])) rfl rfl (hb hby d23_28)
  obtain ⟨_, _, ⟨T51, L51, k51, n51⟩, -, X51, ⟨Lc51, hQ51, l51, y51, z51⟩, st51⟩ := Jvm.LawKit.callS X50 hx (y := (⟨"java/util/Arrays", "copyOf", "([BI)[B"⟩ : MethodName)) hown (mvT hZ (hwi hw 150 rfl)) (mvT hZ (hwi hw 151 rfl)) (mvT hZ (hwi hw 152 rfl)) (mvT hZ (hwi hw 153 rfl)) (by decide) (backOf (W := 1) (rmCPY l Z a0 hw [] d cap (max mn (2 * cap + 2)) f1 h0 n0 Z0 (by omega) (by omega) ED FD hft1) hZ (hwi hw 153 rfl) (hwi hw 152 rfl) (by decide) (by decide)) (g := (mkF m 32 #[.val (.ref o), .val (.int (Int32.ofNat mn)), .val (.int (Int32.ofNat cap))] [(.int (Int32.ofNat (max mn (2 * cap + 2)))), (.ref d), (.ref o)])) rfl (by rw [hml]; rfl) (argsL := [(.ref d), (.int (Int32.ofNat (max mn (2 * cap + 2))))]) (rest := [(.ref o)]) (lenOf pd_22 rfl) rfl (by show 2 * 0 + _ ≤ _; exact Nat.le_of_eq rfl) (hb hby d23_32) (fun _ _ => ⟨rfl, e50, (by decide : 0 + 1 ≤ _), (by decide : 0 + 600 ≤ _)⟩)
  dsimp only [Pt.U, Pt.locs, Pt.cells, Pt.slots] at X51 l51 y51 z51 st51 hQ51
  obtain rfl : k51 = 1 := y51; obtain rfl : n51 = 600 := z51
  obtain ⟨b51, rfl, N51q, K51, zq51, A51, B51⟩ := hQ51
  have N51 : Fr n0 L51 := by rw [l51]; exact Fr.app N49 N51q
  have ne_d_b51 : d ≠ b51 := Nat.ne_of_lt (Nat.lt_of_lt_of_le ED.lt zq51)
  have ne_o_b51 : o ≠ b51 := Nat.ne_of_lt (Nat.lt_of_lt_of_le EO.lt zq51)
  have g_b51 : n0 ≤ b51 := Nat.le_trans Z0 zq51
  have sz_b51 : h0.size ≤ b51 := Nat.le_trans (Keep.refl h0 [o]).1 zq51
  have EO_e51 := EO.keep K51
  have FV_e51 := FV.keep K51 List.not_mem_nil
  have FC_e51 := FC.keep K51 List.not_mem_nil
  have FN_e51 := FN.keep K51 List.not_mem_nil
  have ED_e51 := ED.keep K51
  have FD_e51 := FD.keep K51 List.not_mem_nil
  have KK51 := (Keep.refl h0 [o]).trans K51 (fun x r => absurd r List.not_mem_nil)
  have Z51 : n0 ≤ T51.heap.size := Nat.le_trans Z0 K51.1
  have O51 := O.keep K51 all0'
  obtain ⟨T52, h52, X52, e52, W52, st52⟩ := putF X51 hx hZ hown (host := "") (Or.inl (hwi hw 104 rfl)) Via.refl rfl FV_e51 EO_e51 (Or.inl (hwi hw 105 rfl)) (hwi hw 91 rfl) (ty := (.array .byte)) (by decide) rfl rfl (g := (mkF m 35 #[.val (.ref o), .val (.int (Int32.ofNat mn)), .val (.int (Int32.ofNat cap))] [(.ref b51), (.ref o)])) rfl rfl (hb hby d23_35)
  have Fw52 := FV_e51.same W52
  have EO_e52 := EO_e51.wr W52
  have FC_e52 := FC_e51.other W52 (Or.inr (slot_ne (Or.inl (hwi hw 107 rfl)) (Or.inl (hwi hw 105 rfl)) (by decide) (t := .byte) (t' := (.array .byte)) (by decide) (by decide)))
  have FN_e52 := FN_e51.other W52 (Or.inr (slot_ne (Or.inl (hwi hw 130 rfl)) (Or.inl (hwi hw 105 rfl)) (by decide) (t := .int) (t' := (.array .byte)) (by decide) (by decide)))
  have ED_e52 := ED_e51.wr W52
  have FD_e52 := FD_e51.other W52 (Ne.symm hod)
  have A51_e52 := A51.other W52 (Ne.symm ne_o_b51)
  have B51_e52 := B51.wr W52
  have N52 := Fr.snoc X52 N51 g_o
  have K52 := KK51.wr W52 (Or.inl (List.mem_of_getElem? (i := 0) rfl))
  have Z52 : n0 ≤ h52.size := Nat.le_trans Z51 (Keep.of_wr W52).1
  have O52 := O51.wr W52 g_o
  obtain ⟨fs, hr, hrun, hended, hW, hsame⟩ := X52.leave (v := none) (fun _ => rfl)
  refine ⟨_, _, pre0 _ ?_, hrun, hended, _, _, rfl, ?_, ⟨_, rfl⟩, hW, hsame.mono (by decide) (by decide)⟩
  · show Steps p.tables e below (s₁.setTop (mkF m 0 #[.val (.ref o), .val (.int (Int32.ofNat mn)), .unset] [])) _
    refine XS.aloadN X0.here hx rfl (hb hby d23_0) rfl rfl ?_
    show Steps p.tables e below (s₁.setTop (mkF m 1 #[.val (.ref o), .val (.int (Int32.ofNat mn)), .unset] [(.ref o)])) _
    refine st46 _ ?_
    show Steps p.tables e below (T46.setTop (mkF m 4 #[.val (.ref o), .val (.int (Int32.ofNat mn)), .unset] [(.ref d)])) _
    refine lenA X46 hx hZ e46 FD (g := (mkF m 4 #[.val (.ref o), .val (.int (Int32.ofNat mn)), .unset] [(.ref d)])) rfl rfl (hb hby d23_4) ?_
    refine XS.aloadN X46.here hx rfl (hb hby d23_5) rfl rfl ?_
    show Steps p.tables e below (T46.setTop (mkF m 6 #[.val (.ref o), .val (.int (Int32.ofNat mn)), .unset] [(.ref o), (.int (Int32.ofNat cap))])) _
    refine st47 _ ?_
    refine XS.ishr X47.here hx rfl (hb hby d23_9) rfl ?_
    show Steps p.tables e below (T47.setTop (mkF m 10 #[.val (.ref o), .val (.int (Int32.ofNat mn)), .unset] [(.int ((Int32.ofNat cap) >>> ((0 : Int32) &&& 31)))])) _
    rw [show ((Int32.ofNat cap) >>> ((0 : Int32) &&& 31)) = (Int32.ofNat cap) from shr0 _]
    show Steps p.tables e below (T47.setTop (mkF m 10 #[.val (.ref o), .val (.int (Int32.ofNat mn)), .unset] [(.int (Int32.ofNat cap))])) _
    refine XS.istoreN X47.here hx rfl (hb hby d23_10) rfl (l' := #[.val (.ref o), .val (.int (Int32.ofNat mn)), .val (.int (Int32.ofNat cap))]) rfl ?_
    refine XS.iloadN X47.here hx rfl (hb hby d23_11) rfl ?_
    refine XS.iloadN X47.here hx rfl (hb hby d23_12) rfl ?_
    refine XS.isub X47.here hx rfl (hb hby d23_13) rfl ?_
    refine XS.ifNo X47.here hx rfl (hb hby d23_14) rfl ((if0 _ _).trans (tlt (gtS (by omega) (by omega))).2.2.2) ?_
    refine XS.aloadN X47.here hx rfl (hb hby d23_17) rfl rfl ?_
    show Steps p.tables e below (T47.setTop (mkF m 18 #[.val (.ref o), .val (.int (Int32.ofNat mn)), .val (.int (Int32.ofNat cap))] [(.ref o)])) _
    refine XS.aloadN X47.here hx rfl (hb hby d23_18) rfl rfl ?_
    show Steps p.tables e below (T47.setTop (mkF m 19 #[.val (.ref o), .val (.int (Int32.ofNat mn)), .val (.int (Int32.ofNat cap))] [(.ref o), (.ref o)])) _
    refine st48 _ ?_
    refine XS.aloadN X48.here hx rfl (hb hby d23_22) rfl rfl ?_
    refine XS.iloadN X48.here hx rfl (hb hby d23_23) rfl ?_
    show Steps p.tables e below (T48.setTop (mkF m 24 #[.val (.ref o), .val (.int (Int32.ofNat mn)), .val (.int (Int32.ofNat cap))] [(.int (Int32.ofNat mn)), (.ref o), (.ref d), (.ref o)])) _
    refine st49.trans ?_
    refine XS.aloadN X49.here hx rfl (hb hby d23_27) rfl rfl ?_
    show Steps p.tables e below (T49.setTop (mkF m 28 #[.val (.ref o), .val (.int (Int32.ofNat mn)), .val (.int (Int32.ofNat cap))] [(.ref o), (.int (Int32.ofNat (max mn (2 * cap + 2)))), (.ref d), (.ref o)])) _
    refine st50 _ ?_
    refine XS.ishl X50.here hx rfl (hb hby d23_31) rfl ?_
    show Steps p.tables e below (T50.setTop (mkF m 32 #[.val (.ref o), .val (.int (Int32.ofNat mn)), .val (.int (Int32.ofNat cap))] [(.int ((Int32.ofNat (max mn (2 * cap + 2))) <<< ((0 : Int32) &&& 31))), (.ref d), (.ref o)])) _
    rw [show ((Int32.ofNat (max mn (2 * cap + 2))) <<< ((0 : Int32) &&& 31)) = (Int32.ofNat (max mn (2 * cap + 2))) from shl0 _]
    show Steps p.tables e below (T50.setTop (mkF m 32 #[.val (.ref o), .val (.int (Int32.ofNat mn)), .val (.int (Int32.ofNat cap))] [(.int (Int32.ofNat (max mn (2 * cap + 2)))), (.ref d), (.ref o)])) _
    refine st51 _ ?_
    show Steps p.tables e below (T51.setTop (mkF m 35 #[.val (.ref o), .val (.int (Int32.ofNat mn)), .val (.int (Int32.ofNat cap))] [(.ref b51), (.ref o)])) _
    refine st52 _ ?_
    show Steps p.tables e below (T52.setTop (mkF m 38 #[.val (.ref o), .val (.int (Int32.ofNat mn)), .val (.int (Int32.ofNat cap))] [])) _
    exact X52.returnOut hx Bd.returns (hb hby d23_38) hr
  · show QSB Z o (max mn (2 * cap + 2)) cnt f h0 n0 _ T52.heap _
    exact ⟨rfl, N52, by rw [e52]; exact K52, b51, sz_b51, by rw [e52]; exact ⟨EO_e52, Fw52, FC_e52, FN_e52, B51_e52, _, A51_e52, ifFit hft1 fits_z0, fun j hj => (if_pos (by omega)).trans (hag j hj)⟩⟩
theorem d30_0 : decode jdk_68_method_71_code 0 = .ok (.getstatic 18, 3) := by decide +kernel
theorem d30_3 : decode jdk_68_method_71_code 3 = .ok (.ifCond .eq 18, 3) := by decide +kernel
theorem d30_6 : decode jdk_68_method_71_code 6 = .ok (.aload_n 0, 1) := by decide +kernel
theorem d30_7 : decode jdk_68_method_71_code 7 = .ok (.getfield 22, 3) := by decide +kernel
theorem d30_10 : decode jdk_68_method_71_code 10 = .ok (.aload_n 1, 1) := by decide +kernel
theorem d30_11 : decode jdk_68_method_71_code 11 = .ok (.invokevirtual 40, 3) := by decide +kernel
theorem d30_14 : decode jdk_68_method_71_code 14 = .ok (.if_icmp .eq 7, 3) := by decide +kernel
theorem d30_21 : decode jdk_68_method_71_code 21 = .ok (.return_, 1) := by decide +kernel
theorem pn_30 : plainName "java/lang/AbstractStringBuilder" = true := by first | (simp [plainName, overriddenIn]; done) | decide +kernel
theorem ef_30 (m : MethodId) (x0 : Addr) (x1 : Addr) : entryFrame m #[(.ref x0), (.ref x1)] 2 = mkF m 0 #[.val (.ref x0), .val (.ref x1)] [] := by first | (simp [entryFrame, mkF, argsToLocals, Value.category]; done) | rfl
set_option maxRecDepth 65536 in
set_option maxHeartbeats 40000000 in
theorem rmINF (l : Launch) (Z : State) (a0 : Array Value) (hw : ∀ d ∈ tables_1, d.before a0 Z = true) (ws : List Jvm.Cond) (o t d : Addr) (cap cnt n : Nat) (f w : Nat → Value)  (h0 : Heap) (n0 : Nat) (Z0 : n0 ≤ h0.size) (O : Old Z n0 h0) (SK : StrSta Z) (SB0 : SBd Z h0 o d cap cnt f) (S : StrF Z h0 t n w)  :
    MetFree l (⟨"java/lang/AbstractStringBuilder", "inflateIfNeededFor", "(Ljava/lang/String;)V"⟩ : MethodName) (head1 (Jvm.Cond.code (⟨"java/lang/AbstractStringBuilder", "inflateIfNeededFor", "(Ljava/lang/String;)V"⟩ : MethodName) jdk_68_method_71_code 2 none :: ws) ({ frames := 1, cells := 0, slots := 0, locals := 20 } : Room)) (fun aa_ U_ => aa_ = #[(.ref o), (.ref t)] ∧ Z.Warmed39 U_.vm ∧ U_.heap = h0) (fun _ _ _ _ _ => True) (fun _ U_ o_ V_ => ∃ v_ L_, o_ = .returned v_ ∧ QN  h0 n0 v_ V_.heap L_ ∧ FrameEnd U_ o_ V_ L_ ({ frames := 1, cells := 0, slots := 0, locals := 20 } : Room).cells ({ frames := 1, cells := 0, slots := 0, locals := 20 } : Room).slots) := by
  refine MetFree.of_bodySF (plainFor_of_name pn_30) hisR ?_
  intro p e s m args below meth c s₁ Bd hml0 hP hK
  obtain ⟨rfl, hZ, hh⟩ := hP
  have hx := Bd.exec
  have hby := Bd.bytes
  have hml : c.maxLocals = 2 := hml0
  have hown : s.vm.findClass "java/lang/AbstractStringBuilder" = some m.cls := findClass_of_methodNamed Bd.named
  have hnm := (name_of_methodNamed Bd.named Bd.method).1
  have X0 : Stand p l e ({ frames := 1, cells := 0, slots := 0, locals := 20 } : Room) s m #[(.ref o), (.ref t)] below meth c s₁ [] 0 0 := Stand.of_body Bd
  have e0 : s₁.heap = h0 := by rw [← hh, Bd.state]; rfl
  have N0 := Fr.nil n0
  have pre0 : ∀ zz, Steps p.tables e below (s₁.setTop (mkF m 0 #[.val (.ref o), .val (.ref t)] [])) zz → Steps p.tables e below (s₁.setTop (entryFrame m #[(.ref o), (.ref t)] 2)) zz := fun zz kz_ => castTop (ef_30 m o t) kz_
  obtain ⟨kc, hkc, hcs⟩ := SK.1
  obtain ⟨EO, FV, FC, FN, ED, f1, FD, hft1, hag⟩ := id SB0
  obtain ⟨⟨ET, bt, FTV, FTC, FTB⟩, hftw⟩ := id S
  obtain ⟨T53, X53, e53, st53⟩ := getS2 X0 hx hZ hown (host := "") (Or.inl (hwi hw 103 rfl)) Via.refl e0 (Sta.ext O.2 hcs) (g := (mkF m 0 #[.val (.ref o), .val (.ref t)] [])) rfl (hb hby d30_0)
  obtain ⟨T54, X54, e54, st54⟩ := getF X53 hx hZ hown (host := "") (Or.inl (hwi hw 106 rfl)) Via.refl e53 FC (g := (mkF m 7 #[.val (.ref o), .val (.ref t)] [(.ref o)])) rfl rfl (hb hby d30_7)
  obtain ⟨cq55, kq55, q55a, q55b, q55c⟩ := isOf hZ e54 ET
  obtain ⟨_, _, ⟨T55, L55, k55, n55⟩, -, X55, ⟨Lc55, hQ55, l55, y55, z55⟩, st55⟩ := X54.virtualBack hx (y := (⟨"java/lang/String", "coder", "()B"⟩ : MethodName)) (z := (⟨"java/lang/String", "coder", "()B"⟩ : MethodName)) hown (mvT hZ (hwi hw 171 rfl)) (mvT hZ (hwi hw 125 rfl)) (notFace_of_selects (args := #[]) (mvT hZ (hwi hw 127 rfl))) (mvT hZ (hwi hw 127 rfl)) (mvT hZ (hwi hw 126 rfl)) (by decide) (backOf (W := 1) (rmCD0 l Z a0 hw [] t h0 n0 Z0 O SK ET FTC) hZ (hwi hw 128 rfl) (hwi hw 3 rfl) (by decide) (by decide)) q55a q55c (g := (mkF m 11 #[.val (.ref o), .val (.ref t)] [(.ref t), (.int (0 : Int32))])) rfl (by rw [hml]; rfl) (Steps.refl _) (argsL := []) (rest := [(.int (0 : Int32))]) (lenOf pd_18 rfl) rfl (by show 2 * 0 + _ ≤ _; exact Nat.le_of_eq rfl) (hb hby d30_11) (fun _ _ => ⟨rfl, e54, (by decide : 0 + 0 ≤ _), (by decide : 0 + 0 ≤ _)⟩)
  dsimp only [Pt.U, Pt.locs, Pt.cells, Pt.slots] at X55 l55 y55 z55 st55 hQ55
  obtain rfl : k55 = 0 := y55; obtain rfl : n55 = 0 := z55
  obtain ⟨rfl, N55q, e55⟩ := hQ55
  have N55 : Fr n0 L55 := by rw [l55]; exact Fr.app N0 N55q
  obtain ⟨fs, hr, hrun, hended, hW, hsame⟩ := X55.leave (v := none) (fun _ => rfl)
  refine ⟨_, _, pre0 _ ?_, hrun, hended, _, _, rfl, ?_, ⟨_, rfl⟩, hW, hsame.mono (by decide) (by decide)⟩
  · show Steps p.tables e below (s₁.setTop (mkF m 0 #[.val (.ref o), .val (.ref t)] [])) _
    refine st53 _ ?_
    refine XS.ifNo X53.here hx rfl (hb hby d30_3) rfl ((if0 _ _).trans (feq hkc).1) ?_
    refine XS.aloadN X53.here hx rfl (hb hby d30_6) rfl rfl ?_
    show Steps p.tables e below (T53.setTop (mkF m 7 #[.val (.ref o), .val (.ref t)] [(.ref o)])) _
    refine st54 _ ?_
    refine XS.aloadN X54.here hx rfl (hb hby d30_10) rfl rfl ?_
    show Steps p.tables e below (T54.setTop (mkF m 11 #[.val (.ref o), .val (.ref t)] [(.ref t), (.int (0 : Int32))])) _
    refine st55.trans ?_
    refine XS.icmpYes X55.here hx rfl (pc0 := 14) (pc' := 21) rfl (hb hby d30_14) rfl (teq (rfl : (0 : Int32) = (0 : Int32))).1 (by decide) (by decide) ?_
    show Steps p.tables e below (T55.setTop (mkF m 21 #[.val (.ref o), .val (.ref t)] [])) _
    exact X55.returnOut hx Bd.returns (hb hby d30_21) hr
  · show QN  h0 n0 _ T55.heap _
    rw [e55]
    exact ⟨rfl, N55, rfl⟩
theorem d31_0 : decode jdk_42_method_147_code 0 = .ok (.aload_n 0, 1) := by decide +kernel
theorem d31_1 : decode jdk_42_method_147_code 1 = .ok (.invokevirtual 335, 3) := by decide +kernel
theorem d31_4 : decode jdk_42_method_147_code 4 = .ok (.iload_n 3, 1) := by decide +kernel
theorem d31_5 : decode jdk_42_method_147_code 5 = .ok (.if_icmp .ne 23, 3) := by decide +kernel
theorem d31_8 : decode jdk_42_method_147_code 8 = .ok (.aload_n 0, 1) := by decide +kernel
theorem d31_9 : decode jdk_42_method_147_code 9 = .ok (.getfield 9, 3) := by decide +kernel
theorem d31_12 : decode jdk_42_method_147_code 12 = .ok (.iconst 0, 1) := by decide +kernel
theorem d31_13 : decode jdk_42_method_147_code 13 = .ok (.aload_n 1, 1) := by decide +kernel
theorem d31_14 : decode jdk_42_method_147_code 14 = .ok (.iload_n 2, 1) := by decide +kernel
theorem d31_15 : decode jdk_42_method_147_code 15 = .ok (.iload_n 3, 1) := by decide +kernel
theorem d31_16 : decode jdk_42_method_147_code 16 = .ok (.ishl, 1) := by decide +kernel
theorem d31_17 : decode jdk_42_method_147_code 17 = .ok (.aload_n 0, 1) := by decide +kernel
theorem d31_18 : decode jdk_42_method_147_code 18 = .ok (.getfield 9, 3) := by decide +kernel
theorem d31_21 : decode jdk_42_method_147_code 21 = .ok (.arraylength, 1) := by decide +kernel
theorem d31_22 : decode jdk_42_method_147_code 22 = .ok (.invokestatic 212, 3) := by decide +kernel
theorem d31_25 : decode jdk_42_method_147_code 25 = .ok (.goto 18, 3) := by decide +kernel
theorem d31_43 : decode jdk_42_method_147_code 43 = .ok (.return_, 1) := by decide +kernel
theorem pn_31 : plainName "java/lang/String" = true := by first | (simp [plainName, overriddenIn]; done) | decide +kernel
theorem ef_31 (m : MethodId) (x0 : Addr) (x1 : Addr) (x2 : Int32) (x3 : Int32) : entryFrame m #[(.ref x0), (.ref x1), (.int x2), (.int x3)] 4 = mkF m 0 #[.val (.ref x0), .val (.ref x1), .val (.int x2), .val (.int x3)] [] := by first | (simp [entryFrame, mkF, argsToLocals, Value.category]; done) | rfl
set_option maxRecDepth 65536 in
set_option maxHeartbeats 40000000 in
theorem rmGB (l : Launch) (Z : State) (a0 : Array Value) (hw : ∀ d ∈ tables_1, d.before a0 Z = true) (ws : List Jvm.Cond) (t d : Addr) (cap cnt n : Nat) (f1 w : Nat → Value)  (h0 : Heap) (n0 : Nat) (Z0 : n0 ≤ h0.size) (O : Old Z n0 h0) (SK : StrSta Z) (hcn : cnt + n ≤ cap) (hcap : cap ≤ 600) (g_d : n0 ≤ d) (ED : Exa Z h0 d "[B") (FD : AF Z h0 d .byte cap f1) (hft1 : ∀ j, j < cap → fits .byte (f1 j) = true) (S : StrF Z h0 t n w)  :
    MetFree l (⟨"java/lang/String", "getBytes", "([BIB)V"⟩ : MethodName) (head1 (Jvm.Cond.code (⟨"java/lang/String", "getBytes", "([BIB)V"⟩ : MethodName) jdk_42_method_147_code 4 none :: ws) ({ frames := 1, cells := 0, slots := 0, locals := 40 } : Room)) (fun aa_ U_ => aa_ = #[(.ref t), (.ref d), (.int (Int32.ofNat cnt)), (.int (0 : Int32))] ∧ Z.Warmed39 U_.vm ∧ U_.heap = h0) (fun _ _ _ _ _ => True) (fun _ U_ o_ V_ => ∃ v_ L_, o_ = .returned v_ ∧ QK Z d .byte cap (fun j => if cnt ≤ j ∧ j < cnt + n then w (j - cnt) else f1 j) h0 n0 v_ V_.heap L_ ∧ FrameEnd U_ o_ V_ L_ ({ frames := 1, cells := 0, slots := 0, locals := 40 } : Room).cells ({ frames := 1, cells := 0, slots := 0, locals := 40 } : Room).slots) := by
  refine MetFree.of_bodySF (plainFor_of_name pn_31) hisR ?_
  intro p e s m args below meth c s₁ Bd hml0 hP hK
  obtain ⟨rfl, hZ, hh⟩ := hP
  have hx := Bd.exec
  have hby := Bd.bytes
  have hml : c.maxLocals = 4 := hml0
  have hown : s.vm.findClass "java/lang/String" = some m.cls := findClass_of_methodNamed Bd.named
  have hnm := (name_of_methodNamed Bd.named Bd.method).1
  have X0 : Stand p l e ({ frames := 1, cells := 0, slots := 0, locals := 40 } : Room) s m #[(.ref t), (.ref d), (.int (Int32.ofNat cnt)), (.int (0 : Int32))] below meth c s₁ [] 0 0 := Stand.of_body Bd
  have e0 : s₁.heap = h0 := by rw [← hh, Bd.state]; rfl
  have N0 := Fr.nil n0
  have pre0 : ∀ zz, Steps p.tables e below (s₁.setTop (mkF m 0 #[.val (.ref t), .val (.ref d), .val (.int (Int32.ofNat cnt)), .val (.int (0 : Int32))] [])) zz → Steps p.tables e below (s₁.setTop (entryFrame m #[(.ref t), (.ref d), (.int (Int32.ofNat cnt)), (.int (0 : Int32))] 4)) zz := fun zz kz_ => castTop (ef_31 m t d (Int32.ofNat cnt) (0 : Int32)) kz_
  obtain ⟨⟨ET, bt, FTV, FTC, FTB⟩, hftw⟩ := id S
  obtain ⟨cq56, kq56, q56a, q56b, q56c⟩ := isOf hZ e0 ET
  obtain ⟨_, _, ⟨T56, L56, k56, n56⟩, -, X56, ⟨Lc56, hQ56, l56, y56, z56⟩, st56⟩ := X0.virtualBack hx (y := (⟨"java/lang/String", "coder", "()B"⟩ : MethodName)) (z := (⟨"java/lang/String", "coder", "()B"⟩ : MethodName)) hown (mvT hZ (hwi hw 124 rfl)) (mvT hZ (hwi hw 125 rfl)) (notFace_of_selects (args := #[]) (mvT hZ (hwi hw 127 rfl))) (mvT hZ (hwi hw 127 rfl)) (mvT hZ (hwi hw 126 rfl)) (by decide) (backOf (W := 0) (rmCD0 l Z a0 hw [] t h0 n0 Z0 O SK ET FTC) hZ (hwi hw 128 rfl) (hwi hw 3 rfl) (by decide) (by decide)) q56a q56c (g := (mkF m 1 #[.val (.ref t), .val (.ref d), .val (.int (Int32.ofNat cnt)), .val (.int (0 : Int32))] [(.ref t)])) rfl (by rw [hml]; rfl) (Steps.refl _) (argsL := []) (rest := []) (lenOf pd_18 rfl) rfl (by show 2 * 0 + _ ≤ _; exact Nat.le_of_eq rfl) (hb hby d31_1) (fun _ _ => ⟨rfl, e0, (by decide : 0 + 0 ≤ _), (by decide : 0 + 0 ≤ _)⟩)
  dsimp only [Pt.U, Pt.locs, Pt.cells, Pt.slots] at X56 l56 y56 z56 st56 hQ56
  obtain rfl : k56 = 0 := y56; obtain rfl : n56 = 0 := z56
  obtain ⟨rfl, N56q, e56⟩ := hQ56
  have N56 : Fr n0 L56 := by rw [l56]; exact Fr.app N0 N56q
  obtain ⟨T57, X57, e57, st57⟩ := getF X56 hx hZ hown (host := "") (Or.inl (hwi hw 29 rfl)) Via.refl e56 FTV (g := (mkF m 9 #[.val (.ref t), .val (.ref d), .val (.int (Int32.ofNat cnt)), .val (.int (0 : Int32))] [(.ref t)])) rfl rfl (hb hby d31_9)
  obtain ⟨T58, X58, e58, st58⟩ := getF X57 hx hZ hown (host := "") (Or.inl (hwi hw 29 rfl)) Via.refl e57 FTV (g := (mkF m 18 #[.val (.ref t), .val (.ref d), .val (.int (Int32.ofNat cnt)), .val (.int (0 : Int32))] [(.ref t), (.int (Int32.ofNat cnt)), (.ref d), (.int (0 : Int32)), (.ref bt)])) rfl rfl (hb hby d31_18)
  obtain ⟨T59, h59, L59, X59, e59, N59, K59, A59, st59⟩ := cpD X58 hx hZ hown (hwi hw 177 rfl) (hwi hw 160 rfl) (hwi hw 158 rfl) (hwi hw 159 rfl) e58 FTB FD rfl (by omega) (by omega) (Nat.le_refl _) (by omega) hftw hft1 N56 g_d (g := (mkF m 22 #[.val (.ref t), .val (.ref d), .val (.int (Int32.ofNat cnt)), .val (.int (0 : Int32))] [(.int (Int32.ofNat n)), (.int (Int32.ofNat cnt)), (.ref d), (.int (0 : Int32)), (.ref bt)])) rfl (by rw [hml]; rfl) rfl (hb hby d31_22) (by decide) (W := 0) (by show 2 * 0 + _ ≤ _; exact Nat.le_of_eq rfl) (by decide)
  have ED_e59 := ED.keep K59
  have KK59 := (Keep.refl h0 [d]).trans K59 (fun x r => by cases List.mem_singleton.mp r; exact (Or.inl (List.mem_of_getElem? (i := 0) rfl)))
  have Z59 : n0 ≤ h59.size := Nat.le_trans Z0 K59.1
  have O59 := O.keep K59 (all1 g_d)
  obtain ⟨fs, hr, hrun, hended, hW, hsame⟩ := X59.leave (v := none) (fun _ => rfl)
  refine ⟨_, _, pre0 _ ?_, hrun, hended, _, _, rfl, ?_, ⟨_, rfl⟩, hW, hsame.mono (by decide) (by decide)⟩
  · show Steps p.tables e below (s₁.setTop (mkF m 0 #[.val (.ref t), .val (.ref d), .val (.int (Int32.ofNat cnt)), .val (.int (0 : Int32))] [])) _
    refine XS.aloadN X0.here hx rfl (hb hby d31_0) rfl rfl ?_
    show Steps p.tables e below (s₁.setTop (mkF m 1 #[.val (.ref t), .val (.ref d), .val (.int (Int32.ofNat cnt)), .val (.int (0 : Int32))] [(.ref t)])) _
    refine st56.trans ?_
    refine XS.iloadN X56.here hx rfl (hb hby d31_4) rfl ?_
    refine XS.icmpNo X56.here hx rfl (hb hby d31_5) rfl (teq (rfl : (0 : Int32) = (0 : Int32))).2 ?_
    refine XS.aloadN X56.here hx rfl (hb hby d31_8) rfl rfl ?_
    show Steps p.tables e below (T56.setTop (mkF m 9 #[.val (.ref t), .val (.ref d), .val (.int (Int32.ofNat cnt)), .val (.int (0 : Int32))] [(.ref t)])) _
    refine st57 _ ?_
    refine XS.iconst X57.here hx rfl (hb hby d31_12) ?_
    refine XS.aloadN X57.here hx rfl (hb hby d31_13) rfl rfl ?_
    refine XS.iloadN X57.here hx rfl (hb hby d31_14) rfl ?_
    refine XS.iloadN X57.here hx rfl (hb hby d31_15) rfl ?_
    refine XS.ishl X57.here hx rfl (hb hby d31_16) rfl ?_
    show Steps p.tables e below (T57.setTop (mkF m 17 #[.val (.ref t), .val (.ref d), .val (.int (Int32.ofNat cnt)), .val (.int (0 : Int32))] [(.int ((Int32.ofNat cnt) <<< ((0 : Int32) &&& 31))), (.ref d), (.int (0 : Int32)), (.ref bt)])) _
    rw [show ((Int32.ofNat cnt) <<< ((0 : Int32) &&& 31)) = (Int32.ofNat cnt) from shl0 _]
    show Steps p.tables e below (T57.setTop (mkF m 17 #[.val (.ref t), .val (.ref d), .val (.int (Int32.ofNat cnt)), .val (.int (0 : Int32))] [(.int (Int32.ofNat cnt)), (.ref d), (.int (0 : Int32)), (.ref bt)])) _
    refine XS.aloadN X57.here hx rfl (hb hby d31_17) rfl rfl ?_
    show Steps p.tables e below (T57.setTop (mkF m 18 #[.val (.ref t), .val (.ref d), .val (.int (Int32.ofNat cnt)), .val (.int (0 : Int32))] [(.ref t), (.int (Int32.ofNat cnt)), (.ref d), (.int (0 : Int32)), (.ref bt)])) _
    refine st58 _ ?_
    show Steps p.tables e below (T58.setTop (mkF m 21 #[.val (.ref t), .val (.ref d), .val (.int (Int32.ofNat cnt)), .val (.int (0 : Int32))] [(.ref bt), (.int (Int32.ofNat cnt)), (.ref d), (.int (0 : Int32)), (.ref bt)])) _
    refine lenA X58 hx hZ e58 FTB (g := (mkF m 21 #[.val (.ref t), .val (.ref d), .val (.int (Int32.ofNat cnt)), .val (.int (0 : Int32))] [(.ref bt), (.int (Int32.ofNat cnt)), (.ref d), (.int (0 : Int32)), (.ref bt)])) rfl rfl (hb hby d31_21) ?_
    show Steps p.tables e below (T58.setTop (mkF m 22 #[.val (.ref t), .val (.ref d), .val (.int (Int32.ofNat cnt)), .val (.int (0 : Int32))] [(.int (Int32.ofNat n)), (.int (Int32.ofNat cnt)), (.ref d), (.int (0 : Int32)), (.ref bt)])) _
    refine st59 _ ?_
    refine XS.goto X59.here hx rfl (pc0 := 25) (pc' := 43) rfl (hb hby d31_25) (by decide) (by decide) ?_
    show Steps p.tables e below (T59.setTop (mkF m 43 #[.val (.ref t), .val (.ref d), .val (.int (Int32.ofNat cnt)), .val (.int (0 : Int32))] [])) _
    exact X59.returnOut hx Bd.returns (hb hby d31_43) hr
  · show QK Z d .byte cap (fun j => if cnt ≤ j ∧ j < cnt + n then w (j - cnt) else f1 j) h0 n0 _ T59.heap _
    exact ⟨rfl, N59, by rw [e59]; exact KK59, by rw [e59]; exact A59⟩
theorem d29_0 : decode jdk_68_method_73_code 0 = .ok (.aload_n 0, 1) := by decide +kernel
theorem d29_1 : decode jdk_68_method_73_code 1 = .ok (.aload_n 2, 1) := by decide +kernel
theorem d29_2 : decode jdk_68_method_73_code 2 = .ok (.invokevirtual 397, 3) := by decide +kernel
theorem d29_5 : decode jdk_68_method_73_code 5 = .ok (.aload_n 2, 1) := by decide +kernel
theorem d29_6 : decode jdk_68_method_73_code 6 = .ok (.aload_n 0, 1) := by decide +kernel
theorem d29_7 : decode jdk_68_method_73_code 7 = .ok (.getfield 15, 3) := by decide +kernel
theorem d29_10 : decode jdk_68_method_73_code 10 = .ok (.iload_n 1, 1) := by decide +kernel
theorem d29_11 : decode jdk_68_method_73_code 11 = .ok (.aload_n 0, 1) := by decide +kernel
theorem d29_12 : decode jdk_68_method_73_code 12 = .ok (.getfield 22, 3) := by decide +kernel
theorem d29_15 : decode jdk_68_method_73_code 15 = .ok (.invokevirtual 399, 3) := by decide +kernel
theorem d29_18 : decode jdk_68_method_73_code 18 = .ok (.return_, 1) := by decide +kernel
theorem pn_29 : plainName "java/lang/AbstractStringBuilder" = true := by first | (simp [plainName, overriddenIn]; done) | decide +kernel
theorem ef_29 (m : MethodId) (x0 : Addr) (x1 : Int32) (x2 : Addr) : entryFrame m #[(.ref x0), (.int x1), (.ref x2)] 3 = mkF m 0 #[.val (.ref x0), .val (.int x1), .val (.ref x2)] [] := by first | (simp [entryFrame, mkF, argsToLocals, Value.category]; done) | rfl
set_option maxRecDepth 65536 in
set_option maxHeartbeats 40000000 in
theorem rmPUT (l : Launch) (Z : State) (a0 : Array Value) (hw : ∀ d ∈ tables_1, d.before a0 Z = true) (ws : List Jvm.Cond) (o t d : Addr) (cap cnt n : Nat) (f w : Nat → Value)  (h0 : Heap) (n0 : Nat) (Z0 : n0 ≤ h0.size) (O : Old Z n0 h0) (SK : StrSta Z) (hcn : cnt + n ≤ cap) (hcap : cap ≤ 600) (g_d : n0 ≤ d) (SB0 : SBd Z h0 o d cap cnt f) (S : StrF Z h0 t n w)  :
    MetFree l (⟨"java/lang/AbstractStringBuilder", "putStringAt", "(ILjava/lang/String;)V"⟩ : MethodName) (head1 (Jvm.Cond.code (⟨"java/lang/AbstractStringBuilder", "putStringAt", "(ILjava/lang/String;)V"⟩ : MethodName) jdk_68_method_73_code 3 none :: ws) ({ frames := 2, cells := 0, slots := 0, locals := 62 } : Room)) (fun aa_ U_ => aa_ = #[(.ref o), (.int (Int32.ofNat cnt)), (.ref t)] ∧ Z.Warmed39 U_.vm ∧ U_.heap = h0) (fun _ _ _ _ _ => True) (fun _ U_ o_ V_ => ∃ v_ L_, o_ = .returned v_ ∧ QPA Z o d cap cnt n f w h0 n0 v_ V_.heap L_ ∧ FrameEnd U_ o_ V_ L_ ({ frames := 2, cells := 0, slots := 0, locals := 62 } : Room).cells ({ frames := 2, cells := 0, slots := 0, locals := 62 } : Room).slots) := by
  refine MetFree.of_bodySF (plainFor_of_name pn_29) hisR ?_
  intro p e s m args below meth c s₁ Bd hml0 hP hK
  obtain ⟨rfl, hZ, hh⟩ := hP
  have hx := Bd.exec
  have hby := Bd.bytes
  have hml : c.maxLocals = 3 := hml0
  have hown : s.vm.findClass "java/lang/AbstractStringBuilder" = some m.cls := findClass_of_methodNamed Bd.named
  have hnm := (name_of_methodNamed Bd.named Bd.method).1
  have X0 : Stand p l e ({ frames := 2, cells := 0, slots := 0, locals := 62 } : Room) s m #[(.ref o), (.int (Int32.ofNat cnt)), (.ref t)] below meth c s₁ [] 0 0 := Stand.of_body Bd
  have e0 : s₁.heap = h0 := by rw [← hh, Bd.state]; rfl
  have N0 := Fr.nil n0
  have pre0 : ∀ zz, Steps p.tables e below (s₁.setTop (mkF m 0 #[.val (.ref o), .val (.int (Int32.ofNat cnt)), .val (.ref t)] [])) zz → Steps p.tables e below (s₁.setTop (entryFrame m #[(.ref o), (.int (Int32.ofNat cnt)), (.ref t)] 3)) zz := fun zz kz_ => castTop (ef_29 m o (Int32.ofNat cnt) t) kz_
  obtain ⟨EO, FV, FC, FN, ED, f1, FD, hft1, hag⟩ := id SB0
  have hod : o ≠ d := EO.ne ED (by decide)
  have ET0 := S.1.1
  obtain ⟨cq60, kq60, q60a, q60b, q60c⟩ := isOf hZ e0 EO
  obtain ⟨_, _, ⟨T60, L60, k60, n60⟩, -, X60, ⟨Lc60, hQ60, l60, y60, z60⟩, st60⟩ := X0.virtualBack hx (y := (⟨"java/lang/AbstractStringBuilder", "inflateIfNeededFor", "(Ljava/lang/String;)V"⟩ : MethodName)) (z := (⟨"java/lang/AbstractStringBuilder", "inflateIfNeededFor", "(Ljava/lang/String;)V"⟩ : MethodName)) hown (mvT hZ (hwi hw 166 rfl)) (mvT hZ (declOf (hwi hw 167 rfl) (hwi hw 170 rfl))) (notFace_of_selects (args := #[]) (mvT hZ (hwi hw 169 rfl))) (mvT hZ (hwi hw 169 rfl)) (mvT hZ (hwi hw 167 rfl)) (by decide) (backOf (W := 0) (rmINF l Z a0 hw [] o t d cap cnt n f w h0 n0 Z0 O SK SB0 S) hZ (hwi hw 170 rfl) (hwi hw 100 rfl) (by decide) (by decide)) q60a q60c (g := (mkF m 2 #[.val (.ref o), .val (.int (Int32.ofNat cnt)), .val (.ref t)] [(.ref t), (.ref o)])) rfl (by rw [hml]; rfl) (Steps.refl _) (argsL := [(.ref t)]) (rest := []) (lenOf pd_25 rfl) rfl (by show 2 * 0 + _ ≤ _; exact Nat.le_of_eq rfl) (hb hby d29_2) (fun _ _ => ⟨rfl, e0, (by decide : 0 + 0 ≤ _), (by decide : 0 + 0 ≤ _)⟩)
  dsimp only [Pt.U, Pt.locs, Pt.cells, Pt.slots] at X60 l60 y60 z60 st60 hQ60
  obtain rfl : k60 = 0 := y60; obtain rfl : n60 = 0 := z60
  obtain ⟨rfl, N60q, e60⟩ := hQ60
  have N60 : Fr n0 L60 := by rw [l60]; exact Fr.app N0 N60q
  obtain ⟨T61, X61, e61, st61⟩ := getF X60 hx hZ hown (host := "") (Or.inl (hwi hw 104 rfl)) Via.refl e60 FV (g := (mkF m 7 #[.val (.ref o), .val (.int (Int32.ofNat cnt)), .val (.ref t)] [(.ref o), (.ref t)])) rfl rfl (hb hby d29_7)
  obtain ⟨T62, X62, e62, st62⟩ := getF X61 hx hZ hown (host := "") (Or.inl (hwi hw 106 rfl)) Via.refl e61 FC (g := (mkF m 12 #[.val (.ref o), .val (.int (Int32.ofNat cnt)), .val (.ref t)] [(.ref o), (.int (Int32.ofNat cnt)), (.ref d), (.ref t)])) rfl rfl (hb hby d29_12)
  obtain ⟨cq63, kq63, q63a, q63b, q63c⟩ := isOf hZ e62 ET0
  obtain ⟨_, _, ⟨T63, L63, k63, n63⟩, -, X63, ⟨Lc63, hQ63, l63, y63, z63⟩, st63⟩ := X62.virtualBack hx (y := (⟨"java/lang/String", "getBytes", "([BIB)V"⟩ : MethodName)) (z := (⟨"java/lang/String", "getBytes", "([BIB)V"⟩ : MethodName)) hown (mvT hZ (hwi hw 172 rfl)) (mvT hZ (hwi hw 173 rfl)) (notFace_of_selects (args := #[]) (mvT hZ (hwi hw 175 rfl))) (mvT hZ (hwi hw 175 rfl)) (mvT hZ (hwi hw 174 rfl)) (by decide) (backOf (W := 0) (rmGB l Z a0 hw [] t d cap cnt n f1 w h0 n0 Z0 O SK hcn hcap g_d ED FD hft1 S) hZ (hwi hw 176 rfl) (hwi hw 3 rfl) (by decide) (by decide)) q63a q63c (g := (mkF m 15 #[.val (.ref o), .val (.int (Int32.ofNat cnt)), .val (.ref t)] [(.int (0 : Int32)), (.int (Int32.ofNat cnt)), (.ref d), (.ref t)])) rfl (by rw [hml]; rfl) (Steps.refl _) (argsL := [(.ref d), (.int (Int32.ofNat cnt)), (.int (0 : Int32))]) (rest := []) (lenOf pd_26 rfl) rfl (by show 2 * 0 + _ ≤ _; exact Nat.le_of_eq rfl) (hb hby d29_15) (fun _ _ => ⟨rfl, e62, (by decide : 0 + 0 ≤ _), (by decide : 0 + 0 ≤ _)⟩)
  dsimp only [Pt.U, Pt.locs, Pt.cells, Pt.slots] at X63 l63 y63 z63 st63 hQ63
  obtain rfl : k63 = 0 := y63; obtain rfl : n63 = 0 := z63
  obtain ⟨rfl, N63q, K63, A63⟩ := hQ63
  have N63 : Fr n0 L63 := by rw [l63]; exact Fr.app N60 N63q
  have KK63 := (Keep.refl h0 [d]).trans K63 (fun x r => by cases List.mem_singleton.mp r; exact (Or.inl (List.mem_of_getElem? (i := 0) rfl)))
  have Z63 : n0 ≤ T63.heap.size := Nat.le_trans Z0 K63.1
  have O63 := O.keep K63 (all1 g_d)
  obtain ⟨fs, hr, hrun, hended, hW, hsame⟩ := X63.leave (v := none) (fun _ => rfl)
  refine ⟨_, _, pre0 _ ?_, hrun, hended, _, _, rfl, ?_, ⟨_, rfl⟩, hW, hsame.mono (by decide) (by decide)⟩
  · show Steps p.tables e below (s₁.setTop (mkF m 0 #[.val (.ref o), .val (.int (Int32.ofNat cnt)), .val (.ref t)] [])) _
    refine XS.aloadN X0.here hx rfl (hb hby d29_0) rfl rfl ?_
    refine XS.aloadN X0.here hx rfl (hb hby d29_1) rfl rfl ?_
    show Steps p.tables e below (s₁.setTop (mkF m 2 #[.val (.ref o), .val (.int (Int32.ofNat cnt)), .val (.ref t)] [(.ref t), (.ref o)])) _
    refine st60.trans ?_
    refine XS.aloadN X60.here hx rfl (hb hby d29_5) rfl rfl ?_
    refine XS.aloadN X60.here hx rfl (hb hby d29_6) rfl rfl ?_
    show Steps p.tables e below (T60.setTop (mkF m 7 #[.val (.ref o), .val (.int (Int32.ofNat cnt)), .val (.ref t)] [(.ref o), (.ref t)])) _
    refine st61 _ ?_
    refine XS.iloadN X61.here hx rfl (hb hby d29_10) rfl ?_
    refine XS.aloadN X61.here hx rfl (hb hby d29_11) rfl rfl ?_
    show Steps p.tables e below (T61.setTop (mkF m 12 #[.val (.ref o), .val (.int (Int32.ofNat cnt)), .val (.ref t)] [(.ref o), (.int (Int32.ofNat cnt)), (.ref d), (.ref t)])) _
    refine st62 _ ?_
    show Steps p.tables e below (T62.setTop (mkF m 15 #[.val (.ref o), .val (.int (Int32.ofNat cnt)), .val (.ref t)] [(.int (0 : Int32)), (.int (Int32.ofNat cnt)), (.ref d), (.ref t)])) _
    refine st63.trans ?_
    show Steps p.tables e below (T63.setTop (mkF m 18 #[.val (.ref o), .val (.int (Int32.ofNat cnt)), .val (.ref t)] [])) _
    exact X63.returnOut hx Bd.returns (hb hby d29_18) hr
  · show QPA Z o d cap cnt n f w h0 n0 _ T63.heap _
    exact ⟨rfl, N63, K63, EO.keep K63, FV.keep K63 (notin1 hod), FC.keep K63 (notin1 hod), FN.keep K63 (notin1 hod), ED.keep K63, _, A63, putFit (fun _ _ => rfl) hft1 S.2, putC hag (fun _ _ => rfl) hcn⟩
theorem d20_0 : decode jdk_68_method_22_code 0 = .ok (.aload_n 1, 1) := by decide +kernel
theorem d20_1 : decode jdk_68_method_22_code 1 = .ok (.ifnonnull 8, 3) := by decide +kernel
theorem d20_9 : decode jdk_68_method_22_code 9 = .ok (.aload_n 1, 1) := by decide +kernel
theorem d20_10 : decode jdk_68_method_22_code 10 = .ok (.invokevirtual 32, 3) := by decide +kernel
theorem d20_13 : decode jdk_68_method_22_code 13 = .ok (.istore_n 2, 1) := by decide +kernel
theorem d20_14 : decode jdk_68_method_22_code 14 = .ok (.aload_n 0, 1) := by decide +kernel
theorem d20_15 : decode jdk_68_method_22_code 15 = .ok (.aload_n 0, 1) := by decide +kernel
theorem d20_16 : decode jdk_68_method_22_code 16 = .ok (.getfield 79, 3) := by decide +kernel
theorem d20_19 : decode jdk_68_method_22_code 19 = .ok (.iload_n 2, 1) := by decide +kernel
theorem d20_20 : decode jdk_68_method_22_code 20 = .ok (.iadd, 1) := by decide +kernel
theorem d20_21 : decode jdk_68_method_22_code 21 = .ok (.invokevirtual 100, 3) := by decide +kernel
theorem d20_24 : decode jdk_68_method_22_code 24 = .ok (.aload_n 0, 1) := by decide +kernel
theorem d20_25 : decode jdk_68_method_22_code 25 = .ok (.aload_n 0, 1) := by decide +kernel
theorem d20_26 : decode jdk_68_method_22_code 26 = .ok (.getfield 79, 3) := by decide +kernel
theorem d20_29 : decode jdk_68_method_22_code 29 = .ok (.aload_n 1, 1) := by decide +kernel
theorem d20_30 : decode jdk_68_method_22_code 30 = .ok (.invokevirtual 208, 3) := by decide +kernel
theorem d20_33 : decode jdk_68_method_22_code 33 = .ok (.aload_n 0, 1) := by decide +kernel
theorem d20_34 : decode jdk_68_method_22_code 34 = .ok (.dup, 1) := by decide +kernel
theorem d20_35 : decode jdk_68_method_22_code 35 = .ok (.getfield 79, 3) := by decide +kernel
theorem d20_38 : decode jdk_68_method_22_code 38 = .ok (.iload_n 2, 1) := by decide +kernel
theorem d20_39 : decode jdk_68_method_22_code 39 = .ok (.iadd, 1) := by decide +kernel
theorem d20_40 : decode jdk_68_method_22_code 40 = .ok (.putfield 79, 3) := by decide +kernel
theorem d20_43 : decode jdk_68_method_22_code 43 = .ok (.aload_n 0, 1) := by decide +kernel
theorem d20_44 : decode jdk_68_method_22_code 44 = .ok (.areturn, 1) := by decide +kernel
theorem pn_20 : plainName "java/lang/AbstractStringBuilder" = true := by first | (simp [plainName, overriddenIn]; done) | decide +kernel
theorem ef_20 (m : MethodId) (x0 : Addr) (x1 : Addr) : entryFrame m #[(.ref x0), (.ref x1)] 3 = mkF m 0 #[.val (.ref x0), .val (.ref x1), .unset] [] := by first | (simp [entryFrame, mkF, argsToLocals, Value.category]; done) | rfl
set_option maxRecDepth 65536 in
set_option maxHeartbeats 40000000 in
theorem rmAPf (l : Launch) (Z : State) (a0 : Array Value) (hw : ∀ d ∈ tables_1, d.before a0 Z = true) (ws : List Jvm.Cond) (o t d : Addr) (cap cnt n : Nat) (f w : Nat → Value)  (h0 : Heap) (n0 : Nat) (Z0 : n0 ≤ h0.size) (O : Old Z n0 h0) (SK : StrSta Z) (hcn : cnt + n ≤ cap) (hcap : cap ≤ 600) (g_o : n0 ≤ o) (g_d : n0 ≤ d) (hln : n ≤ 600) (SB0 : SBd Z h0 o d cap cnt f) (S : StrF Z h0 t n w)  :
    MetFree l (⟨"java/lang/AbstractStringBuilder", "append", "(Ljava/lang/String;)Ljava/lang/AbstractStringBuilder;"⟩ : MethodName) (head1 (Jvm.Cond.code (⟨"java/lang/AbstractStringBuilder", "append", "(Ljava/lang/String;)Ljava/lang/AbstractStringBuilder;"⟩ : MethodName) jdk_68_method_22_code 3 (some (.object "java/lang/AbstractStringBuilder")) :: ws) ({ frames := 4, cells := 0, slots := 0, locals := 100 } : Room)) (fun aa_ U_ => aa_ = #[(.ref o), (.ref t)] ∧ Z.Warmed39 U_.vm ∧ U_.heap = h0) (fun _ _ _ _ _ => True) (fun _ U_ o_ V_ => ∃ v_ L_, o_ = .returned v_ ∧ QPf Z o d cap (cnt + n) (fC cnt f w) h0 n0 v_ V_.heap L_ ∧ FrameEnd U_ o_ V_ L_ ({ frames := 4, cells := 0, slots := 0, locals := 100 } : Room).cells ({ frames := 4, cells := 0, slots := 0, locals := 100 } : Room).slots) := by
  refine MetFree.of_bodySF (plainFor_of_name pn_20) hisR ?_
  intro p e s m args below meth c s₁ Bd hml0 hP hK
  obtain ⟨rfl, hZ, hh⟩ := hP
  have hx := Bd.exec
  have hby := Bd.bytes
  have hml : c.maxLocals = 3 := hml0
  have hown : s.vm.findClass "java/lang/AbstractStringBuilder" = some m.cls := findClass_of_methodNamed Bd.named
  have hnm := (name_of_methodNamed Bd.named Bd.method).1
  have X0 : Stand p l e ({ frames := 4, cells := 0, slots := 0, locals := 100 } : Room) s m #[(.ref o), (.ref t)] below meth c s₁ [] 0 0 := Stand.of_body Bd
  have e0 : s₁.heap = h0 := by rw [← hh, Bd.state]; rfl
  have N0 := Fr.nil n0
  have pre0 : ∀ zz, Steps p.tables e below (s₁.setTop (mkF m 0 #[.val (.ref o), .val (.ref t), .unset] [])) zz → Steps p.tables e below (s₁.setTop (entryFrame m #[(.ref o), (.ref t)] 3)) zz := fun zz kz_ => castTop (ef_20 m o t) kz_
  obtain ⟨EO, FV, FC, FN, ED0, -⟩ := id SB0
  have ET0 := S.1.1
  obtain ⟨cq64, kq64, q64a, q64b, q64c⟩ := isOf hZ e0 ET0
  obtain ⟨_, _, ⟨T64, L64, k64, n64⟩, -, X64, ⟨Lc64, hQ64, l64, y64, z64⟩, st64⟩ := X0.virtualBack hx (y := (⟨"java/lang/String", "length", "()I"⟩ : MethodName)) (z := (⟨"java/lang/String", "length", "()I"⟩ : MethodName)) hown (mvT hZ (hwi hw 119 rfl)) (mvT hZ (hwi hw 120 rfl)) (notFace_of_selects (args := #[]) (mvT hZ (hwi hw 122 rfl))) (mvT hZ (hwi hw 122 rfl)) (mvT hZ (hwi hw 121 rfl)) (by decide) (backOf (W := 0) (rmLEN l Z a0 hw [] t n w h0 n0 Z0 hln O SK S.1) hZ (hwi hw 123 rfl) (hwi hw 3 rfl) (by decide) (by decide)) q64a q64c (g := (mkF m 10 #[.val (.ref o), .val (.ref t), .unset] [(.ref t)])) rfl (by rw [hml]; rfl) (Steps.refl _) (argsL := []) (rest := []) (lenOf pd_7 rfl) rfl (by show 2 * 0 + _ ≤ _; exact Nat.le_of_eq rfl) (hb hby d20_10) (fun _ _ => ⟨rfl, e0, (by decide : 0 + 0 ≤ _), (by decide : 0 + 0 ≤ _)⟩)
  dsimp only [Pt.U, Pt.locs, Pt.cells, Pt.slots] at X64 l64 y64 z64 st64 hQ64
  obtain rfl : k64 = 0 := y64; obtain rfl : n64 = 0 := z64
  obtain ⟨rfl, N64q, e64⟩ := hQ64
  have N64 : Fr n0 L64 := by rw [l64]; exact Fr.app N0 N64q
  obtain ⟨T65, X65, e65, st65⟩ := getF X64 hx hZ hown (host := "") (Or.inl (hwi hw 129 rfl)) Via.refl e64 FN (g := (mkF m 16 #[.val (.ref o), .val (.ref t), .val (.int (Int32.ofNat n))] [(.ref o), (.ref o)])) rfl rfl (hb hby d20_16)
  obtain ⟨cq66, kq66, q66a, q66b, q66c⟩ := isOf hZ e65 EO
  obtain ⟨_, _, ⟨T66, L66, k66, n66⟩, -, X66, ⟨Lc66, hQ66, l66, y66, z66⟩, st66⟩ := X65.virtualBack hx (y := (⟨"java/lang/AbstractStringBuilder", "ensureCapacityInternal", "(I)V"⟩ : MethodName)) (z := (⟨"java/lang/AbstractStringBuilder", "ensureCapacityInternal", "(I)V"⟩ : MethodName)) hown (mvT hZ (hwi hw 131 rfl)) (mvT hZ (declOf (hwi hw 132 rfl) (hwi hw 135 rfl))) (notFace_of_selects (args := #[]) (mvT hZ (hwi hw 134 rfl))) (mvT hZ (hwi hw 134 rfl)) (mvT hZ (hwi hw 132 rfl)) (by decide) (backOf (W := 0) (rmENf l Z a0 hw [] o d cap cnt (cnt + n) f h0 n0 Z0 hcn hcap SB0) hZ (hwi hw 135 rfl) (hwi hw 100 rfl) (by decide) (by decide)) q66a q66c (g := (mkF m 21 #[.val (.ref o), .val (.ref t), .val (.int (Int32.ofNat n))] [(.int (Int32.ofNat (cnt + n))), (.ref o)])) rfl (by rw [hml]; rfl) (Steps.refl _) (argsL := [(.int (Int32.ofNat (cnt + n)))]) (rest := []) (lenOf pd_15 rfl) rfl (by show 2 * 0 + _ ≤ _; exact Nat.le_of_eq rfl) (hb hby d20_21) (fun _ _ => ⟨rfl, e65, (by decide : 0 + 0 ≤ _), (by decide : 0 + 0 ≤ _)⟩)
  dsimp only [Pt.U, Pt.locs, Pt.cells, Pt.slots] at X66 l66 y66 z66 st66 hQ66
  obtain rfl : k66 = 0 := y66; obtain rfl : n66 = 0 := z66
  obtain ⟨rfl, N66q, e66⟩ := hQ66
  have N66 : Fr n0 L66 := by rw [l66]; exact Fr.app N64 N66q
  obtain ⟨T67, X67, e67, st67⟩ := getF X66 hx hZ hown (host := "") (Or.inl (hwi hw 129 rfl)) Via.refl e66 FN (g := (mkF m 26 #[.val (.ref o), .val (.ref t), .val (.int (Int32.ofNat n))] [(.ref o), (.ref o)])) rfl rfl (hb hby d20_26)
  obtain ⟨cq68, kq68, q68a, q68b, q68c⟩ := isOf hZ e67 EO
  obtain ⟨_, _, ⟨T68, L68, k68, n68⟩, -, X68, ⟨Lc68, hQ68, l68, y68, z68⟩, st68⟩ := X67.virtualBack hx (y := (⟨"java/lang/AbstractStringBuilder", "putStringAt", "(ILjava/lang/String;)V"⟩ : MethodName)) (z := (⟨"java/lang/AbstractStringBuilder", "putStringAt", "(ILjava/lang/String;)V"⟩ : MethodName)) hown (mvT hZ (hwi hw 161 rfl)) (mvT hZ (declOf (hwi hw 162 rfl) (hwi hw 165 rfl))) (notFace_of_selects (args := #[]) (mvT hZ (hwi hw 164 rfl))) (mvT hZ (hwi hw 164 rfl)) (mvT hZ (hwi hw 162 rfl)) (by decide) (backOf (W := 0) (rmPUT l Z a0 hw [] o t d cap cnt n f w h0 n0 Z0 O SK (by omega) (by omega) g_d SB0 S) hZ (hwi hw 165 rfl) (hwi hw 100 rfl) (by decide) (by decide)) q68a q68c (g := (mkF m 30 #[.val (.ref o), .val (.ref t), .val (.int (Int32.ofNat n))] [(.ref t), (.int (Int32.ofNat cnt)), (.ref o)])) rfl (by rw [hml]; rfl) (Steps.refl _) (argsL := [(.int (Int32.ofNat cnt)), (.ref t)]) (rest := []) (lenOf pd_24 rfl) rfl (by show 2 * 0 + _ ≤ _; exact Nat.le_of_eq rfl) (hb hby d20_30) (fun _ _ => ⟨rfl, e67, (by decide : 0 + 0 ≤ _), (by decide : 0 + 0 ≤ _)⟩)
  dsimp only [Pt.U, Pt.locs, Pt.cells, Pt.slots] at X68 l68 y68 z68 st68 hQ68
  obtain rfl : k68 = 0 := y68; obtain rfl : n68 = 0 := z68
  obtain ⟨rfl, N68q, K68, S68⟩ := hQ68
  have N68 : Fr n0 L68 := by rw [l68]; exact Fr.app N66 N68q
  have KK68 := (Keep.refl h0 [o, d]).trans K68 (fun x r => by cases List.mem_singleton.mp r; exact (Or.inl (List.mem_of_getElem? (i := 1) rfl)))
  have Z68 : n0 ≤ T68.heap.size := Nat.le_trans Z0 K68.1
  have O68 := O.keep K68 (all1 g_d)
  obtain ⟨EO68, FV68, FC68, FN68, ED68, f168, FD68, hft68, hag68⟩ := S68
  have hod68 : o ≠ d := EO68.ne ED68 (by decide)
  obtain ⟨T69, X69, e69, st69⟩ := getF X68 hx hZ hown (host := "") (Or.inl (hwi hw 129 rfl)) Via.refl rfl FN68 (g := (mkF m 35 #[.val (.ref o), .val (.ref t), .val (.int (Int32.ofNat n))] [(.ref o), (.ref o)])) rfl rfl (hb hby d20_35)
  obtain ⟨T70, h70, X70, e70, W70, st70⟩ := putF X69 hx hZ hown (host := "") (Or.inl (hwi hw 129 rfl)) Via.refl e69 FN68 EO68 (Or.inl (hwi hw 130 rfl)) (hwi hw 91 rfl) (ty := .int) (by decide) rfl rfl (g := (mkF m 40 #[.val (.ref o), .val (.ref t), .val (.int (Int32.ofNat n))] [(.int (Int32.ofNat (cnt + n))), (.ref o)])) rfl rfl (hb hby d20_40)
  have Fw70 := FN68.same W70
  have EO68_e70 := EO68.wr W70
  have FV68_e70 := FV68.other W70 (Or.inr (slot_ne (Or.inl (hwi hw 105 rfl)) (Or.inl (hwi hw 130 rfl)) (by decide) (t := (.array .byte)) (t' := .int) (by decide) (by decide)))
  have FC68_e70 := FC68.other W70 (Or.inr (slot_ne (Or.inl (hwi hw 107 rfl)) (Or.inl (hwi hw 130 rfl)) (by decide) (t := .byte) (t' := .int) (by decide) (by decide)))
  have ED68_e70 := ED68.wr W70
  have FD68_e70 := FD68.other W70 (Ne.symm hod68)
  have N70 := Fr.snoc X70 N68 g_o
  have K70 := KK68.wr W70 (Or.inl (List.mem_of_getElem? (i := 0) rfl))
  have Z70 : n0 ≤ h70.size := Nat.le_trans Z68 (Keep.of_wr W70).1
  have O70 := O68.wr W70 g_o
  obtain ⟨fs, hr, hrun, hended, hW, hsame⟩ := X70.leave (v := some (.ref o)) (fun h => by rw [Bd.returns] at h; cases h)
  refine ⟨_, _, pre0 _ ?_, hrun, hended, _, _, rfl, ?_, ⟨_, rfl⟩, hW, hsame.mono (by decide) (by decide)⟩
  · show Steps p.tables e below (s₁.setTop (mkF m 0 #[.val (.ref o), .val (.ref t), .unset] [])) _
    refine XS.aloadN X0.here hx rfl (hb hby d20_0) rfl rfl ?_
    refine XS.ifnonnullYes X0.here hx rfl (pc0 := 1) (pc' := 9) rfl (hb hby d20_1) rfl (by decide) (by decide) ?_
    refine XS.aloadN X0.here hx rfl (hb hby d20_9) rfl rfl ?_
    show Steps p.tables e below (s₁.setTop (mkF m 10 #[.val (.ref o), .val (.ref t), .unset] [(.ref t)])) _
    refine st64.trans ?_
    refine XS.istoreN X64.here hx rfl (hb hby d20_13) rfl (l' := #[.val (.ref o), .val (.ref t), .val (.int (Int32.ofNat n))]) rfl ?_
    refine XS.aloadN X64.here hx rfl (hb hby d20_14) rfl rfl ?_
    refine XS.aloadN X64.here hx rfl (hb hby d20_15) rfl rfl ?_
    show Steps p.tables e below (T64.setTop (mkF m 16 #[.val (.ref o), .val (.ref t), .val (.int (Int32.ofNat n))] [(.ref o), (.ref o)])) _
    refine st65 _ ?_
    refine XS.iloadN X65.here hx rfl (hb hby d20_19) rfl ?_
    refine XS.iadd X65.here hx rfl (hb hby d20_20) rfl ?_
    show Steps p.tables e below (T65.setTop (mkF m 21 #[.val (.ref o), .val (.ref t), .val (.int (Int32.ofNat n))] [(.int ((Int32.ofNat cnt) + (Int32.ofNat n))), (.ref o)])) _
    rw [show ((Int32.ofNat cnt) + (Int32.ofNat n)) = (Int32.ofNat (cnt + n)) from addN]
    show Steps p.tables e below (T65.setTop (mkF m 21 #[.val (.ref o), .val (.ref t), .val (.int (Int32.ofNat n))] [(.int (Int32.ofNat (cnt + n))), (.ref o)])) _
    refine st66.trans ?_
    refine XS.aloadN X66.here hx rfl (hb hby d20_24) rfl rfl ?_
    refine XS.aloadN X66.here hx rfl (hb hby d20_25) rfl rfl ?_
    show Steps p.tables e below (T66.setTop (mkF m 26 #[.val (.ref o), .val (.ref t), .val (.int (Int32.ofNat n))] [(.ref o), (.ref o)])) _
    refine st67 _ ?_
    refine XS.aloadN X67.here hx rfl (hb hby d20_29) rfl rfl ?_
    show Steps p.tables e below (T67.setTop (mkF m 30 #[.val (.ref o), .val (.ref t), .val (.int (Int32.ofNat n))] [(.ref t), (.int (Int32.ofNat cnt)), (.ref o)])) _
    refine st68.trans ?_
    refine XS.aloadN X68.here hx rfl (hb hby d20_33) rfl rfl ?_
    refine XS.dup X68.here hx rfl (hb hby d20_34) rfl rfl ?_
    show Steps p.tables e below (T68.setTop (mkF m 35 #[.val (.ref o), .val (.ref t), .val (.int (Int32.ofNat n))] [(.ref o), (.ref o)])) _
    refine st69 _ ?_
    refine XS.iloadN X69.here hx rfl (hb hby d20_38) rfl ?_
    refine XS.iadd X69.here hx rfl (hb hby d20_39) rfl ?_
    show Steps p.tables e below (T69.setTop (mkF m 40 #[.val (.ref o), .val (.ref t), .val (.int (Int32.ofNat n))] [(.int ((Int32.ofNat cnt) + (Int32.ofNat n))), (.ref o)])) _
    rw [show ((Int32.ofNat cnt) + (Int32.ofNat n)) = (Int32.ofNat (cnt + n)) from addN]
    show Steps p.tables e below (T69.setTop (mkF m 40 #[.val (.ref o), .val (.ref t), .val (.int (Int32.ofNat n))] [(.int (Int32.ofNat (cnt + n))), (.ref o)])) _
    refine st70 _ ?_
    refine XS.aloadN X70.here hx rfl (hb hby d20_43) rfl rfl ?_
    show Steps p.tables e below (T70.setTop (mkF m 44 #[.val (.ref o), .val (.ref t), .val (.int (Int32.ofNat n))] [(.ref o)])) _
    jvm_step X70.here [X70.here.top, hx, (hb hby d20_44), X70.method', Bd.returns, Value.isRef, FieldType.isReference]
    first | (intro acts; rw [hr _ acts rfl rfl rfl]) | rw [hr _ _ rfl rfl rfl]
    exact Steps.refl _
  · show QPf Z o d cap (cnt + n) (fC cnt f w) h0 n0 _ T70.heap _
    exact ⟨rfl, N70, by rw [e70]; exact K70, by rw [e70]; exact ⟨EO68_e70, FV68_e70, FC68_e70, Fw70, ED68_e70, _, FD68_e70, hft68, hag68⟩⟩
theorem d19_0 : decode jdk_67_method_7_code 0 = .ok (.aload_n 0, 1) := by decide +kernel
theorem d19_1 : decode jdk_67_method_7_code 1 = .ok (.aload_n 1, 1) := by decide +kernel
theorem d19_2 : decode jdk_67_method_7_code 2 = .ok (.invokespecial 29, 3) := by decide +kernel
theorem d19_5 : decode jdk_67_method_7_code 5 = .ok (.pop, 1) := by decide +kernel
theorem d19_6 : decode jdk_67_method_7_code 6 = .ok (.aload_n 0, 1) := by decide +kernel
theorem d19_7 : decode jdk_67_method_7_code 7 = .ok (.areturn, 1) := by decide +kernel
theorem pn_19 : plainName "java/lang/StringBuilder" = true := by first | (simp [plainName, overriddenIn]; done) | decide +kernel
theorem ef_19 (m : MethodId) (x0 : Addr) (x1 : Addr) : entryFrame m #[(.ref x0), (.ref x1)] 2 = mkF m 0 #[.val (.ref x0), .val (.ref x1)] [] := by first | (simp [entryFrame, mkF, argsToLocals, Value.category]; done) | rfl
set_option maxRecDepth 65536 in
set_option maxHeartbeats 40000000 in
theorem rmAPPf (l : Launch) (Z : State) (a0 : Array Value) (hw : ∀ d ∈ tables_1, d.before a0 Z = true) (ws : List Jvm.Cond) (o t d : Addr) (cap cnt n : Nat) (f w : Nat → Value)  (h0 : Heap) (n0 : Nat) (Z0 : n0 ≤ h0.size) (O : Old Z n0 h0) (SK : StrSta Z) (hcn : cnt + n ≤ cap) (hcap : cap ≤ 600) (g_o : n0 ≤ o) (g_d : n0 ≤ d) (hln : n ≤ 600) (SB0 : SBd Z h0 o d cap cnt f) (S : StrF Z h0 t n w)  :
    MetFree l (⟨"java/lang/StringBuilder", "append", "(Ljava/lang/String;)Ljava/lang/StringBuilder;"⟩ : MethodName) (head1 (Jvm.Cond.code (⟨"java/lang/StringBuilder", "append", "(Ljava/lang/String;)Ljava/lang/StringBuilder;"⟩ : MethodName) jdk_67_method_7_code 2 (some (.object "java/lang/StringBuilder")) :: ws) ({ frames := 5, cells := 0, slots := 0, locals := 116 } : Room)) (fun aa_ U_ => aa_ = #[(.ref o), (.ref t)] ∧ Z.Warmed39 U_.vm ∧ U_.heap = h0) (fun _ _ _ _ _ => True) (fun _ U_ o_ V_ => ∃ v_ L_, o_ = .returned v_ ∧ QPf Z o d cap (cnt + n) (fC cnt f w) h0 n0 v_ V_.heap L_ ∧ FrameEnd U_ o_ V_ L_ ({ frames := 5, cells := 0, slots := 0, locals := 116 } : Room).cells ({ frames := 5, cells := 0, slots := 0, locals := 116 } : Room).slots) := by
  refine MetFree.of_bodySF (plainFor_of_name pn_19) hisR ?_
  intro p e s m args below meth c s₁ Bd hml0 hP hK
  obtain ⟨rfl, hZ, hh⟩ := hP
  have hx := Bd.exec
  have hby := Bd.bytes
  have hml : c.maxLocals = 2 := hml0
  have hown : s.vm.findClass "java/lang/StringBuilder" = some m.cls := findClass_of_methodNamed Bd.named
  have hnm := (name_of_methodNamed Bd.named Bd.method).1
  have X0 : Stand p l e ({ frames := 5, cells := 0, slots := 0, locals := 116 } : Room) s m #[(.ref o), (.ref t)] below meth c s₁ [] 0 0 := Stand.of_body Bd
  have e0 : s₁.heap = h0 := by rw [← hh, Bd.state]; rfl
  have N0 := Fr.nil n0
  have pre0 : ∀ zz, Steps p.tables e below (s₁.setTop (mkF m 0 #[.val (.ref o), .val (.ref t)] [])) zz → Steps p.tables e below (s₁.setTop (entryFrame m #[(.ref o), (.ref t)] 2)) zz := fun zz kz_ => castTop (ef_19 m o t) kz_
  have EO1 := SB0.1
  obtain ⟨_, _, ⟨T71, L71, k71, n71⟩, -, X71, ⟨Lc71, hQ71, l71, y71, z71⟩, st71⟩ := superBack X0 hx hZ (y := (⟨"java/lang/AbstractStringBuilder", "append", "(Ljava/lang/String;)Ljava/lang/AbstractStringBuilder;"⟩ : MethodName)) hown (hwi hw 114 rfl) (sameSelf (hwi hw 117 rfl) (declOf (hwi hw 132 rfl) (hwi hw 135 rfl)) (notFace_of_selects (hwi hw 134 rfl)) rfl (by decide)) (hwi hw 115 rfl) (hwi hw 116 rfl) (by decide) (backOf (W := 0) (rmAPf l Z a0 hw [] o t d cap cnt n f w h0 n0 Z0 O SK hcn hcap g_o g_d hln SB0 S) hZ (hwi hw 118 rfl) (hwi hw 100 rfl) (by decide) (by decide)) e0 (Ins.self EO1) (g := (mkF m 2 #[.val (.ref o), .val (.ref t)] [(.ref t), (.ref o)])) rfl (by rw [hml]; rfl) (hwi hw 118 rfl) (argsL := [(.ref t)]) (rest := []) (lenOf pd_17 rfl) rfl (by show 2 * 0 + _ ≤ _; exact Nat.le_of_eq rfl) (hb hby d19_2) (fun _ _ => ⟨rfl, e0, (by decide : 0 + 0 ≤ _), (by decide : 0 + 0 ≤ _)⟩)
  dsimp only [Pt.U, Pt.locs, Pt.cells, Pt.slots] at X71 l71 y71 z71 st71 hQ71
  obtain rfl : k71 = 0 := y71; obtain rfl : n71 = 0 := z71
  obtain ⟨rfl, N71q, K71, S71⟩ := hQ71
  have N71 : Fr n0 L71 := by rw [l71]; exact Fr.app N0 N71q
  obtain ⟨fs, hr, hrun, hended, hW, hsame⟩ := X71.leave (v := some (.ref o)) (fun h => by rw [Bd.returns] at h; cases h)
  refine ⟨_, _, pre0 _ ?_, hrun, hended, _, _, rfl, ?_, ⟨_, rfl⟩, hW, hsame.mono (by decide) (by decide)⟩
  · show Steps p.tables e below (s₁.setTop (mkF m 0 #[.val (.ref o), .val (.ref t)] [])) _
    refine XS.aloadN X0.here hx rfl (hb hby d19_0) rfl rfl ?_
    refine XS.aloadN X0.here hx rfl (hb hby d19_1) rfl rfl ?_
    show Steps p.tables e below (s₁.setTop (mkF m 2 #[.val (.ref o), .val (.ref t)] [(.ref t), (.ref o)])) _
    refine st71.trans ?_
    refine XS.pop X71.here hx rfl (hb hby d19_5) rfl rfl ?_
    refine XS.aloadN X71.here hx rfl (hb hby d19_6) rfl rfl ?_
    show Steps p.tables e below (T71.setTop (mkF m 7 #[.val (.ref o), .val (.ref t)] [(.ref o)])) _
    jvm_step X71.here [X71.here.top, hx, (hb hby d19_7), X71.method', Bd.returns, Value.isRef, FieldType.isReference]
    first | (intro acts; rw [hr _ acts rfl rfl rfl]) | rw [hr _ _ rfl rfl rfl]
    exact Steps.refl _
  · show QPf Z o d cap (cnt + n) (fC cnt f w) h0 n0 _ T71.heap _
    exact ⟨rfl, N71, K71, S71⟩
set_option maxRecDepth 65536 in
set_option maxHeartbeats 40000000 in
theorem rmAPg (l : Launch) (Z : State) (a0 : Array Value) (hw : ∀ d ∈ tables_1, d.before a0 Z = true) (ws : List Jvm.Cond) (o t d : Addr) (cap cnt n : Nat) (f w : Nat → Value)  (h0 : Heap) (n0 : Nat) (Z0 : n0 ≤ h0.size) (O : Old Z n0 h0) (SK : StrSta Z) (hcn : cap < cnt + n) (hm' : cnt + n ≤ 600) (hc2 : 2 * cap + 2 ≤ 600) (hcc : cnt ≤ cap) (g_o : n0 ≤ o) (g_d : n0 ≤ d) (hln : n ≤ 600) (SB0 : SBd Z h0 o d cap cnt f) (S : StrF Z h0 t n w)  :
    MetFree l (⟨"java/lang/AbstractStringBuilder", "append", "(Ljava/lang/String;)Ljava/lang/AbstractStringBuilder;"⟩ : MethodName) (head1 (Jvm.Cond.code (⟨"java/lang/AbstractStringBuilder", "append", "(Ljava/lang/String;)Ljava/lang/AbstractStringBuilder;"⟩ : MethodName) jdk_68_method_22_code 3 (some (.object "java/lang/AbstractStringBuilder")) :: ws) ({ frames := 4, cells := 1, slots := 600, locals := 100 } : Room)) (fun aa_ U_ => aa_ = #[(.ref o), (.ref t)] ∧ Z.Warmed39 U_.vm ∧ U_.heap = h0) (fun _ _ _ _ _ => True) (fun _ U_ o_ V_ => ∃ v_ L_, o_ = .returned v_ ∧ QPg Z o (max (cnt + n) (2 * cap + 2)) (cnt + n) (fC cnt f w) h0 n0 v_ V_.heap L_ ∧ FrameEnd U_ o_ V_ L_ ({ frames := 4, cells := 1, slots := 600, locals := 100 } : Room).cells ({ frames := 4, cells := 1, slots := 600, locals := 100 } : Room).slots) := by
  refine MetFree.of_bodySF (plainFor_of_name pn_20) hisR ?_
  intro p e s m args below meth c s₁ Bd hml0 hP hK
  obtain ⟨rfl, hZ, hh⟩ := hP
  have hx := Bd.exec
  have hby := Bd.bytes
  have hml : c.maxLocals = 3 := hml0
  have hown : s.vm.findClass "java/lang/AbstractStringBuilder" = some m.cls := findClass_of_methodNamed Bd.named
  have hnm := (name_of_methodNamed Bd.named Bd.method).1
  have X0 : Stand p l e ({ frames := 4, cells := 1, slots := 600, locals := 100 } : Room) s m #[(.ref o), (.ref t)] below meth c s₁ [] 0 0 := Stand.of_body Bd
  have e0 : s₁.heap = h0 := by rw [← hh, Bd.state]; rfl
  have N0 := Fr.nil n0
  have pre0 : ∀ zz, Steps p.tables e below (s₁.setTop (mkF m 0 #[.val (.ref o), .val (.ref t), .unset] [])) zz → Steps p.tables e below (s₁.setTop (entryFrame m #[(.ref o), (.ref t)] 3)) zz := fun zz kz_ => castTop (ef_20 m o t) kz_
  obtain ⟨EO, FV, FC, FN, ED0, -⟩ := id SB0
  have ET0 := S.1.1
  obtain ⟨cq72, kq72, q72a, q72b, q72c⟩ := isOf hZ e0 ET0
  obtain ⟨_, _, ⟨T72, L72, k72, n72⟩, -, X72, ⟨Lc72, hQ72, l72, y72, z72⟩, st72⟩ := X0.virtualBack hx (y := (⟨"java/lang/String", "length", "()I"⟩ : MethodName)) (z := (⟨"java/lang/String", "length", "()I"⟩ : MethodName)) hown (mvT hZ (hwi hw 119 rfl)) (mvT hZ (hwi hw 120 rfl)) (notFace_of_selects (args := #[]) (mvT hZ (hwi hw 122 rfl))) (mvT hZ (hwi hw 122 rfl)) (mvT hZ (hwi hw 121 rfl)) (by decide) (backOf (W := 0) (rmLEN l Z a0 hw [] t n w h0 n0 Z0 hln O SK S.1) hZ (hwi hw 123 rfl) (hwi hw 3 rfl) (by decide) (by decide)) q72a q72c (g := (mkF m 10 #[.val (.ref o), .val (.ref t), .unset] [(.ref t)])) rfl (by rw [hml]; rfl) (Steps.refl _) (argsL := []) (rest := []) (lenOf pd_7 rfl) rfl (by show 2 * 0 + _ ≤ _; exact Nat.le_of_eq rfl) (hb hby d20_10) (fun _ _ => ⟨rfl, e0, (by decide : 0 + 0 ≤ _), (by decide : 0 + 0 ≤ _)⟩)
  dsimp only [Pt.U, Pt.locs, Pt.cells, Pt.slots] at X72 l72 y72 z72 st72 hQ72
  obtain rfl : k72 = 0 := y72; obtain rfl : n72 = 0 := z72
  obtain ⟨rfl, N72q, e72⟩ := hQ72
  have N72 : Fr n0 L72 := by rw [l72]; exact Fr.app N0 N72q
  obtain ⟨T73, X73, e73, st73⟩ := getF X72 hx hZ hown (host := "") (Or.inl (hwi hw 129 rfl)) Via.refl e72 FN (g := (mkF m 16 #[.val (.ref o), .val (.ref t), .val (.int (Int32.ofNat n))] [(.ref o), (.ref o)])) rfl rfl (hb hby d20_16)
  obtain ⟨cq74, kq74, q74a, q74b, q74c⟩ := isOf hZ e73 EO
  obtain ⟨_, _, ⟨T74, L74, k74, n74⟩, -, X74, ⟨Lc74, hQ74, l74, y74, z74⟩, st74⟩ := X73.virtualBack hx (y := (⟨"java/lang/AbstractStringBuilder", "ensureCapacityInternal", "(I)V"⟩ : MethodName)) (z := (⟨"java/lang/AbstractStringBuilder", "ensureCapacityInternal", "(I)V"⟩ : MethodName)) hown (mvT hZ (hwi hw 131 rfl)) (mvT hZ (declOf (hwi hw 132 rfl) (hwi hw 135 rfl))) (notFace_of_selects (args := #[]) (mvT hZ (hwi hw 134 rfl))) (mvT hZ (hwi hw 134 rfl)) (mvT hZ (hwi hw 132 rfl)) (by decide) (backOf (W := 0) (rmENg l Z a0 hw [] o d cap cnt (cnt + n) f h0 n0 Z0 hcn hm' hc2 hcc O g_o SB0) hZ (hwi hw 135 rfl) (hwi hw 100 rfl) (by decide) (by decide)) q74a q74c (g := (mkF m 21 #[.val (.ref o), .val (.ref t), .val (.int (Int32.ofNat n))] [(.int (Int32.ofNat (cnt + n))), (.ref o)])) rfl (by rw [hml]; rfl) (Steps.refl _) (argsL := [(.int (Int32.ofNat (cnt + n)))]) (rest := []) (lenOf pd_15 rfl) rfl (by show 2 * 0 + _ ≤ _; exact Nat.le_of_eq rfl) (hb hby d20_21) (fun _ _ => ⟨rfl, e73, (by decide : 0 + 1 ≤ _), (by decide : 0 + 600 ≤ _)⟩)
  dsimp only [Pt.U, Pt.locs, Pt.cells, Pt.slots] at X74 l74 y74 z74 st74 hQ74
  obtain rfl : k74 = 1 := y74; obtain rfl : n74 = 600 := z74
  obtain ⟨rfl, N74q, K74, d74, hd74, S74⟩ := hQ74
  have N74 : Fr n0 L74 := by rw [l74]; exact Fr.app N72 N74q
  have SS74 := S.keep1 K74 EO (by decide) (hwi hw 91 rfl)
  have EO_e74 := EO.keep K74
  have ET0_e74 := ET0.keep K74
  have KK74 := (Keep.refl h0 [o]).trans K74 (fun x r => by cases List.mem_singleton.mp r; exact (Or.inl (List.mem_of_getElem? (i := 0) rfl)))
  have Z74 : n0 ≤ T74.heap.size := Nat.le_trans Z0 K74.1
  have O74 := O.keep K74 (all1 g_o)
  obtain ⟨EO74, FV74, FC74, FN74, ED74, -⟩ := id S74
  have g_d74 : n0 ≤ d74 := Nat.le_trans Z0 hd74
  have sz_d74 := hd74
  obtain ⟨T75, X75, e75, st75⟩ := getF X74 hx hZ hown (host := "") (Or.inl (hwi hw 129 rfl)) Via.refl rfl FN74 (g := (mkF m 26 #[.val (.ref o), .val (.ref t), .val (.int (Int32.ofNat n))] [(.ref o), (.ref o)])) rfl rfl (hb hby d20_26)
  obtain ⟨cq76, kq76, q76a, q76b, q76c⟩ := isOf hZ e75 EO74
  obtain ⟨_, _, ⟨T76, L76, k76, n76⟩, -, X76, ⟨Lc76, hQ76, l76, y76, z76⟩, st76⟩ := X75.virtualBack hx (y := (⟨"java/lang/AbstractStringBuilder", "putStringAt", "(ILjava/lang/String;)V"⟩ : MethodName)) (z := (⟨"java/lang/AbstractStringBuilder", "putStringAt", "(ILjava/lang/String;)V"⟩ : MethodName)) hown (mvT hZ (hwi hw 161 rfl)) (mvT hZ (declOf (hwi hw 162 rfl) (hwi hw 165 rfl))) (notFace_of_selects (args := #[]) (mvT hZ (hwi hw 164 rfl))) (mvT hZ (hwi hw 164 rfl)) (mvT hZ (hwi hw 162 rfl)) (by decide) (backOf (W := 0) (rmPUT l Z a0 hw [] o t d74 (max (cnt + n) (2 * cap + 2)) cnt n f w T74.heap n0 Z74 O74 SK (by omega) (by omega) g_d74 S74 SS74) hZ (hwi hw 165 rfl) (hwi hw 100 rfl) (by decide) (by decide)) q76a q76c (g := (mkF m 30 #[.val (.ref o), .val (.ref t), .val (.int (Int32.ofNat n))] [(.ref t), (.int (Int32.ofNat cnt)), (.ref o)])) rfl (by rw [hml]; rfl) (Steps.refl _) (argsL := [(.int (Int32.ofNat cnt)), (.ref t)]) (rest := []) (lenOf pd_24 rfl) rfl (by show 2 * 0 + _ ≤ _; exact Nat.le_of_eq rfl) (hb hby d20_30) (fun _ _ => ⟨rfl, e75, (by decide : 1 + 0 ≤ _), (by decide : 600 + 0 ≤ _)⟩)
  dsimp only [Pt.U, Pt.locs, Pt.cells, Pt.slots] at X76 l76 y76 z76 st76 hQ76
  obtain rfl : k76 = 1 := y76; obtain rfl : n76 = 600 := z76
  obtain ⟨rfl, N76q, K76, S76⟩ := hQ76
  have N76 : Fr n0 L76 := by rw [l76]; exact Fr.app N74 N76q
  have KK76 := KK74.trans K76 (fun x r => by cases List.mem_singleton.mp r; exact (Or.inr sz_d74))
  have Z76 : n0 ≤ T76.heap.size := Nat.le_trans Z74 K76.1
  have O76 := O74.keep K76 (all1 g_d74)
  obtain ⟨EO76, FV76, FC76, FN76, ED76, f176, FD76, hft76, hag76⟩ := S76
  have hod76 : o ≠ d74 := EO76.ne ED76 (by decide)
  obtain ⟨T77, X77, e77, st77⟩ := getF X76 hx hZ hown (host := "") (Or.inl (hwi hw 129 rfl)) Via.refl rfl FN76 (g := (mkF m 35 #[.val (.ref o), .val (.ref t), .val (.int (Int32.ofNat n))] [(.ref o), (.ref o)])) rfl rfl (hb hby d20_35)
  obtain ⟨T78, h78, X78, e78, W78, st78⟩ := putF X77 hx hZ hown (host := "") (Or.inl (hwi hw 129 rfl)) Via.refl e77 FN76 EO76 (Or.inl (hwi hw 130 rfl)) (hwi hw 91 rfl) (ty := .int) (by decide) rfl rfl (g := (mkF m 40 #[.val (.ref o), .val (.ref t), .val (.int (Int32.ofNat n))] [(.int (Int32.ofNat (cnt + n))), (.ref o)])) rfl rfl (hb hby d20_40)
  have Fw78 := FN76.same W78
  have EO76_e78 := EO76.wr W78
  have FV76_e78 := FV76.other W78 (Or.inr (slot_ne (Or.inl (hwi hw 105 rfl)) (Or.inl (hwi hw 130 rfl)) (by decide) (t := (.array .byte)) (t' := .int) (by decide) (by decide)))
  have FC76_e78 := FC76.other W78 (Or.inr (slot_ne (Or.inl (hwi hw 107 rfl)) (Or.inl (hwi hw 130 rfl)) (by decide) (t := .byte) (t' := .int) (by decide) (by decide)))
  have ED76_e78 := ED76.wr W78
  have FD76_e78 := FD76.other W78 (Ne.symm hod76)
  have N78 := Fr.snoc X78 N76 g_o
  have K78 := KK76.wr W78 (Or.inl (List.mem_of_getElem? (i := 0) rfl))
  have Z78 : n0 ≤ h78.size := Nat.le_trans Z76 (Keep.of_wr W78).1
  have O78 := O76.wr W78 g_o
  obtain ⟨fs, hr, hrun, hended, hW, hsame⟩ := X78.leave (v := some (.ref o)) (fun h => by rw [Bd.returns] at h; cases h)
  refine ⟨_, _, pre0 _ ?_, hrun, hended, _, _, rfl, ?_, ⟨_, rfl⟩, hW, hsame.mono (by decide) (by decide)⟩
  · show Steps p.tables e below (s₁.setTop (mkF m 0 #[.val (.ref o), .val (.ref t), .unset] [])) _
    refine XS.aloadN X0.here hx rfl (hb hby d20_0) rfl rfl ?_
    refine XS.ifnonnullYes X0.here hx rfl (pc0 := 1) (pc' := 9) rfl (hb hby d20_1) rfl (by decide) (by decide) ?_
    refine XS.aloadN X0.here hx rfl (hb hby d20_9) rfl rfl ?_
    show Steps p.tables e below (s₁.setTop (mkF m 10 #[.val (.ref o), .val (.ref t), .unset] [(.ref t)])) _
    refine st72.trans ?_
    refine XS.istoreN X72.here hx rfl (hb hby d20_13) rfl (l' := #[.val (.ref o), .val (.ref t), .val (.int (Int32.ofNat n))]) rfl ?_
    refine XS.aloadN X72.here hx rfl (hb hby d20_14) rfl rfl ?_
    refine XS.aloadN X72.here hx rfl (hb hby d20_15) rfl rfl ?_
    show Steps p.tables e below (T72.setTop (mkF m 16 #[.val (.ref o), .val (.ref t), .val (.int (Int32.ofNat n))] [(.ref o), (.ref o)])) _
    refine st73 _ ?_
    refine XS.iloadN X73.here hx rfl (hb hby d20_19) rfl ?_
    refine XS.iadd X73.here hx rfl (hb hby d20_20) rfl ?_
    show Steps p.tables e below (T73.setTop (mkF m 21 #[.val (.ref o), .val (.ref t), .val (.int (Int32.ofNat n))] [(.int ((Int32.ofNat cnt) + (Int32.ofNat n))), (.ref o)])) _
    rw [show ((Int32.ofNat cnt) + (Int32.ofNat n)) = (Int32.ofNat (cnt + n)) from addN]
    show Steps p.tables e below (T73.setTop (mkF m 21 #[.val (.ref o), .val (.ref t), .val (.int (Int32.ofNat n))] [(.int (Int32.ofNat (cnt + n))), (.ref o)])) _
    refine st74.trans ?_
    refine XS.aloadN X74.here hx rfl (hb hby d20_24) rfl rfl ?_
    refine XS.aloadN X74.here hx rfl (hb hby d20_25) rfl rfl ?_
    show Steps p.tables e below (T74.setTop (mkF m 26 #[.val (.ref o), .val (.ref t), .val (.int (Int32.ofNat n))] [(.ref o), (.ref o)])) _
    refine st75 _ ?_
    refine XS.aloadN X75.here hx rfl (hb hby d20_29) rfl rfl ?_
    show Steps p.tables e below (T75.setTop (mkF m 30 #[.val (.ref o), .val (.ref t), .val (.int (Int32.ofNat n))] [(.ref t), (.int (Int32.ofNat cnt)), (.ref o)])) _
    refine st76.trans ?_
    refine XS.aloadN X76.here hx rfl (hb hby d20_33) rfl rfl ?_
    refine XS.dup X76.here hx rfl (hb hby d20_34) rfl rfl ?_
    show Steps p.tables e below (T76.setTop (mkF m 35 #[.val (.ref o), .val (.ref t), .val (.int (Int32.ofNat n))] [(.ref o), (.ref o)])) _
    refine st77 _ ?_
    refine XS.iloadN X77.here hx rfl (hb hby d20_38) rfl ?_
    refine XS.iadd X77.here hx rfl (hb hby d20_39) rfl ?_
    show Steps p.tables e below (T77.setTop (mkF m 40 #[.val (.ref o), .val (.ref t), .val (.int (Int32.ofNat n))] [(.int ((Int32.ofNat cnt) + (Int32.ofNat n))), (.ref o)])) _
    rw [show ((Int32.ofNat cnt) + (Int32.ofNat n)) = (Int32.ofNat (cnt + n)) from addN]
    show Steps p.tables e below (T77.setTop (mkF m 40 #[.val (.ref o), .val (.ref t), .val (.int (Int32.ofNat n))] [(.int (Int32.ofNat (cnt + n))), (.ref o)])) _
    refine st78 _ ?_
    refine XS.aloadN X78.here hx rfl (hb hby d20_43) rfl rfl ?_
    show Steps p.tables e below (T78.setTop (mkF m 44 #[.val (.ref o), .val (.ref t), .val (.int (Int32.ofNat n))] [(.ref o)])) _
    jvm_step X78.here [X78.here.top, hx, (hb hby d20_44), X78.method', Bd.returns, Value.isRef, FieldType.isReference]
    first | (intro acts; rw [hr _ acts rfl rfl rfl]) | rw [hr _ _ rfl rfl rfl]
    exact Steps.refl _
  · show QPg Z o (max (cnt + n) (2 * cap + 2)) (cnt + n) (fC cnt f w) h0 n0 _ T78.heap _
    exact ⟨rfl, N78, by rw [e78]; exact K78, d74, sz_d74, by rw [e78]; exact ⟨EO76_e78, FV76_e78, FC76_e78, Fw78, ED76_e78, _, FD76_e78, hft76, hag76⟩⟩
set_option maxRecDepth 65536 in
set_option maxHeartbeats 40000000 in
theorem rmAPPg (l : Launch) (Z : State) (a0 : Array Value) (hw : ∀ d ∈ tables_1, d.before a0 Z = true) (ws : List Jvm.Cond) (o t d : Addr) (cap cnt n : Nat) (f w : Nat → Value)  (h0 : Heap) (n0 : Nat) (Z0 : n0 ≤ h0.size) (O : Old Z n0 h0) (SK : StrSta Z) (hcn : cap < cnt + n) (hm' : cnt + n ≤ 600) (hc2 : 2 * cap + 2 ≤ 600) (hcc : cnt ≤ cap) (g_o : n0 ≤ o) (g_d : n0 ≤ d) (hln : n ≤ 600) (SB0 : SBd Z h0 o d cap cnt f) (S : StrF Z h0 t n w)  :
    MetFree l (⟨"java/lang/StringBuilder", "append", "(Ljava/lang/String;)Ljava/lang/StringBuilder;"⟩ : MethodName) (head1 (Jvm.Cond.code (⟨"java/lang/StringBuilder", "append", "(Ljava/lang/String;)Ljava/lang/StringBuilder;"⟩ : MethodName) jdk_67_method_7_code 2 (some (.object "java/lang/StringBuilder")) :: ws) ({ frames := 5, cells := 1, slots := 600, locals := 116 } : Room)) (fun aa_ U_ => aa_ = #[(.ref o), (.ref t)] ∧ Z.Warmed39 U_.vm ∧ U_.heap = h0) (fun _ _ _ _ _ => True) (fun _ U_ o_ V_ => ∃ v_ L_, o_ = .returned v_ ∧ QPg Z o (max (cnt + n) (2 * cap + 2)) (cnt + n) (fC cnt f w) h0 n0 v_ V_.heap L_ ∧ FrameEnd U_ o_ V_ L_ ({ frames := 5, cells := 1, slots := 600, locals := 116 } : Room).cells ({ frames := 5, cells := 1, slots := 600, locals := 116 } : Room).slots) := by
  refine MetFree.of_bodySF (plainFor_of_name pn_19) hisR ?_
  intro p e s m args below meth c s₁ Bd hml0 hP hK
  obtain ⟨rfl, hZ, hh⟩ := hP
  have hx := Bd.exec
  have hby := Bd.bytes
  have hml : c.maxLocals = 2 := hml0
  have hown : s.vm.findClass "java/lang/StringBuilder" = some m.cls := findClass_of_methodNamed Bd.named
  have hnm := (name_of_methodNamed Bd.named Bd.method).1
  have X0 : Stand p l e ({ frames := 5, cells := 1, slots := 600, locals := 116 } : Room) s m #[(.ref o), (.ref t)] below meth c s₁ [] 0 0 := Stand.of_body Bd
  have e0 : s₁.heap = h0 := by rw [← hh, Bd.state]; rfl
  have N0 := Fr.nil n0
  have pre0 : ∀ zz, Steps p.tables e below (s₁.setTop (mkF m 0 #[.val (.ref o), .val (.ref t)] [])) zz → Steps p.tables e below (s₁.setTop (entryFrame m #[(.ref o), (.ref t)] 2)) zz := fun zz kz_ => castTop (ef_19 m o t) kz_
  have EO1 := SB0.1
  obtain ⟨_, _, ⟨T79, L79, k79, n79⟩, -, X79, ⟨Lc79, hQ79, l79, y79, z79⟩, st79⟩ := superBack X0 hx hZ (y := (⟨"java/lang/AbstractStringBuilder", "append", "(Ljava/lang/String;)Ljava/lang/AbstractStringBuilder;"⟩ : MethodName)) hown (hwi hw 114 rfl) (sameSelf (hwi hw 117 rfl) (declOf (hwi hw 132 rfl) (hwi hw 135 rfl)) (notFace_of_selects (hwi hw 134 rfl)) rfl (by decide)) (hwi hw 115 rfl) (hwi hw 116 rfl) (by decide) (backOf (W := 0) (rmAPg l Z a0 hw [] o t d cap cnt n f w h0 n0 Z0 O SK hcn hm' hc2 hcc g_o g_d hln SB0 S) hZ (hwi hw 118 rfl) (hwi hw 100 rfl) (by decide) (by decide)) e0 (Ins.self EO1) (g := (mkF m 2 #[.val (.ref o), .val (.ref t)] [(.ref t), (.ref o)])) rfl (by rw [hml]; rfl) (hwi hw 118 rfl) (argsL := [(.ref t)]) (rest := []) (lenOf pd_17 rfl) rfl (by show 2 * 0 + _ ≤ _; exact Nat.le_of_eq rfl) (hb hby d19_2) (fun _ _ => ⟨rfl, e0, (by decide : 0 + 1 ≤ _), (by decide : 0 + 600 ≤ _)⟩)
  dsimp only [Pt.U, Pt.locs, Pt.cells, Pt.slots] at X79 l79 y79 z79 st79 hQ79
  obtain rfl : k79 = 1 := y79; obtain rfl : n79 = 600 := z79
  obtain ⟨rfl, N79q, K79, d79, hd79, S79⟩ := hQ79
  have N79 : Fr n0 L79 := by rw [l79]; exact Fr.app N0 N79q
  obtain ⟨fs, hr, hrun, hended, hW, hsame⟩ := X79.leave (v := some (.ref o)) (fun h => by rw [Bd.returns] at h; cases h)
  refine ⟨_, _, pre0 _ ?_, hrun, hended, _, _, rfl, ?_, ⟨_, rfl⟩, hW, hsame.mono (by decide) (by decide)⟩
  · show Steps p.tables e below (s₁.setTop (mkF m 0 #[.val (.ref o), .val (.ref t)] [])) _
    refine XS.aloadN X0.here hx rfl (hb hby d19_0) rfl rfl ?_
    refine XS.aloadN X0.here hx rfl (hb hby d19_1) rfl rfl ?_
    show Steps p.tables e below (s₁.setTop (mkF m 2 #[.val (.ref o), .val (.ref t)] [(.ref t), (.ref o)])) _
    refine st79.trans ?_
    refine XS.pop X79.here hx rfl (hb hby d19_5) rfl rfl ?_
    refine XS.aloadN X79.here hx rfl (hb hby d19_6) rfl rfl ?_
    show Steps p.tables e below (T79.setTop (mkF m 7 #[.val (.ref o), .val (.ref t)] [(.ref o)])) _
    jvm_step X79.here [X79.here.top, hx, (hb hby d19_7), X79.method', Bd.returns, Value.isRef, FieldType.isReference]
    first | (intro acts; rw [hr _ acts rfl rfl rfl]) | rw [hr _ _ rfl rfl rfl]
    exact Steps.refl _
  · show QPg Z o (max (cnt + n) (2 * cap + 2)) (cnt + n) (fC cnt f w) h0 n0 _ T79.heap _
    exact ⟨rfl, N79, K79, d79, hd79, S79⟩
theorem d35_0 : decode jdk_68_method_64_code 0 = .ok (.aload_n 0, 1) := by decide +kernel
theorem d35_1 : decode jdk_68_method_64_code 1 = .ok (.getfield 15, 3) := by decide +kernel
theorem d35_4 : decode jdk_68_method_64_code 4 = .ok (.areturn, 1) := by decide +kernel
theorem pn_35 : plainName "java/lang/AbstractStringBuilder" = true := by first | (simp [plainName, overriddenIn]; done) | decide +kernel
theorem ef_35 (m : MethodId) (x0 : Addr) : entryFrame m #[(.ref x0)] 1 = mkF m 0 #[.val (.ref x0)] [] := by first | (simp [entryFrame, mkF, argsToLocals, Value.category]; done) | rfl
set_option maxRecDepth 65536 in
set_option maxHeartbeats 40000000 in
theorem rmGV (l : Launch) (Z : State) (a0 : Array Value) (hw : ∀ d ∈ tables_1, d.before a0 Z = true) (ws : List Jvm.Cond) (o d : Addr) (cap cnt : Nat) (f : Nat → Value)  (h0 : Heap) (n0 : Nat) (Z0 : n0 ≤ h0.size) (SB0 : SBd Z h0 o d cap cnt f)  :
    MetFree l (⟨"java/lang/AbstractStringBuilder", "getValue", "()[B"⟩ : MethodName) (head1 (Jvm.Cond.code (⟨"java/lang/AbstractStringBuilder", "getValue", "()[B"⟩ : MethodName) jdk_68_method_64_code 1 (some (.array .byte)) :: ws) ({ frames := 0, cells := 0, slots := 0, locals := 0 } : Room)) (fun aa_ U_ => aa_ = #[(.ref o)] ∧ Z.Warmed39 U_.vm ∧ U_.heap = h0) (fun _ _ _ _ _ => True) (fun _ U_ o_ V_ => ∃ v_ L_, o_ = .returned v_ ∧ QRf d h0 n0 v_ V_.heap L_ ∧ FrameEnd U_ o_ V_ L_ ({ frames := 0, cells := 0, slots := 0, locals := 0 } : Room).cells ({ frames := 0, cells := 0, slots := 0, locals := 0 } : Room).slots) := by
  refine MetFree.of_bodySF (plainFor_of_name pn_35) hisR ?_
  intro p e s m args below meth c s₁ Bd hml0 hP hK
  obtain ⟨rfl, hZ, hh⟩ := hP
  have hx := Bd.exec
  have hby := Bd.bytes
  have hml : c.maxLocals = 1 := hml0
  have hown : s.vm.findClass "java/lang/AbstractStringBuilder" = some m.cls := findClass_of_methodNamed Bd.named
  have hnm := (name_of_methodNamed Bd.named Bd.method).1
  have X0 : Stand p l e ({ frames := 0, cells := 0, slots := 0, locals := 0 } : Room) s m #[(.ref o)] below meth c s₁ [] 0 0 := Stand.of_body Bd
  have e0 : s₁.heap = h0 := by rw [← hh, Bd.state]; rfl
  have N0 := Fr.nil n0
  have pre0 : ∀ zz, Steps p.tables e below (s₁.setTop (mkF m 0 #[.val (.ref o)] [])) zz → Steps p.tables e below (s₁.setTop (entryFrame m #[(.ref o)] 1)) zz := fun zz kz_ => castTop (ef_35 m o) kz_
  obtain ⟨EO, FV, FC, FN, ED, f1, FD, hft1, hag⟩ := id SB0
  obtain ⟨T80, X80, e80, st80⟩ := getF X0 hx hZ hown (host := "") (Or.inl (hwi hw 104 rfl)) Via.refl e0 FV (g := (mkF m 1 #[.val (.ref o)] [(.ref o)])) rfl rfl (hb hby d35_1)
  obtain ⟨fs, hr, hrun, hended, hW, hsame⟩ := X80.leave (v := some (.ref d)) (fun h => by rw [Bd.returns] at h; cases h)
  refine ⟨_, _, pre0 _ ?_, hrun, hended, _, _, rfl, ?_, ⟨_, rfl⟩, hW, hsame.mono (by decide) (by decide)⟩
  · show Steps p.tables e below (s₁.setTop (mkF m 0 #[.val (.ref o)] [])) _
    refine XS.aloadN X0.here hx rfl (hb hby d35_0) rfl rfl ?_
    show Steps p.tables e below (s₁.setTop (mkF m 1 #[.val (.ref o)] [(.ref o)])) _
    refine st80 _ ?_
    show Steps p.tables e below (T80.setTop (mkF m 4 #[.val (.ref o)] [(.ref d)])) _
    jvm_step X80.here [X80.here.top, hx, (hb hby d35_4), X80.method', Bd.returns, Value.isRef, FieldType.isReference]
    first | (intro acts; rw [hr _ acts rfl rfl rfl]) | rw [hr _ _ rfl rfl rfl]
    exact Steps.refl _
  · show QRf d h0 n0 _ T80.heap _
    rw [e80]
    exact ⟨rfl, N0, rfl⟩
theorem d37_0 : decode jdk_68_method_6_code 0 = .ok (.aload_n 0, 1) := by decide +kernel
theorem d37_1 : decode jdk_68_method_6_code 1 = .ok (.getfield 79, 3) := by decide +kernel
theorem d37_4 : decode jdk_68_method_6_code 4 = .ok (.ireturn, 1) := by decide +kernel
theorem pn_37 : plainName "java/lang/AbstractStringBuilder" = true := by first | (simp [plainName, overriddenIn]; done) | decide +kernel
theorem ef_37 (m : MethodId) (x0 : Addr) : entryFrame m #[(.ref x0)] 1 = mkF m 0 #[.val (.ref x0)] [] := by first | (simp [entryFrame, mkF, argsToLocals, Value.category]; done) | rfl
set_option maxRecDepth 65536 in
set_option maxHeartbeats 40000000 in
theorem rmAL (l : Launch) (Z : State) (a0 : Array Value) (hw : ∀ d ∈ tables_1, d.before a0 Z = true) (ws : List Jvm.Cond) (o d : Addr) (cap cnt : Nat) (f : Nat → Value)  (h0 : Heap) (n0 : Nat) (Z0 : n0 ≤ h0.size) (SB0 : SBd Z h0 o d cap cnt f)  :
    MetFree l (⟨"java/lang/AbstractStringBuilder", "length", "()I"⟩ : MethodName) (head1 (Jvm.Cond.code (⟨"java/lang/AbstractStringBuilder", "length", "()I"⟩ : MethodName) jdk_68_method_6_code 1 (some .int) :: ws) ({ frames := 0, cells := 0, slots := 0, locals := 0 } : Room)) (fun aa_ U_ => aa_ = #[(.ref o)] ∧ Z.Warmed39 U_.vm ∧ U_.heap = h0) (fun _ _ _ _ _ => True) (fun _ U_ o_ V_ => ∃ v_ L_, o_ = .returned v_ ∧ QI (Int32.ofNat cnt) h0 n0 v_ V_.heap L_ ∧ FrameEnd U_ o_ V_ L_ ({ frames := 0, cells := 0, slots := 0, locals := 0 } : Room).cells ({ frames := 0, cells := 0, slots := 0, locals := 0 } : Room).slots) := by
  refine MetFree.of_bodySF (plainFor_of_name pn_37) hisR ?_
  intro p e s m args below meth c s₁ Bd hml0 hP hK
  obtain ⟨rfl, hZ, hh⟩ := hP
  have hx := Bd.exec
  have hby := Bd.bytes
  have hml : c.maxLocals = 1 := hml0
  have hown : s.vm.findClass "java/lang/AbstractStringBuilder" = some m.cls := findClass_of_methodNamed Bd.named
  have hnm := (name_of_methodNamed Bd.named Bd.method).1
  have X0 : Stand p l e ({ frames := 0, cells := 0, slots := 0, locals := 0 } : Room) s m #[(.ref o)] below meth c s₁ [] 0 0 := Stand.of_body Bd
  have e0 : s₁.heap = h0 := by rw [← hh, Bd.state]; rfl
  have N0 := Fr.nil n0
  have pre0 : ∀ zz, Steps p.tables e below (s₁.setTop (mkF m 0 #[.val (.ref o)] [])) zz → Steps p.tables e below (s₁.setTop (entryFrame m #[(.ref o)] 1)) zz := fun zz kz_ => castTop (ef_37 m o) kz_
  obtain ⟨EO, FV, FC, FN, ED, f1, FD, hft1, hag⟩ := id SB0
  obtain ⟨T81, X81, e81, st81⟩ := getF X0 hx hZ hown (host := "") (Or.inl (hwi hw 129 rfl)) Via.refl e0 FN (g := (mkF m 1 #[.val (.ref o)] [(.ref o)])) rfl rfl (hb hby d37_1)
  obtain ⟨fs, hr, hrun, hended, hW, hsame⟩ := X81.leave (v := some (.int (Int32.ofNat cnt))) (fun h => by rw [Bd.returns] at h; cases h)
  refine ⟨_, _, pre0 _ ?_, hrun, hended, _, _, rfl, ?_, ⟨_, rfl⟩, hW, hsame.mono (by decide) (by decide)⟩
  · show Steps p.tables e below (s₁.setTop (mkF m 0 #[.val (.ref o)] [])) _
    refine XS.aloadN X0.here hx rfl (hb hby d37_0) rfl rfl ?_
    show Steps p.tables e below (s₁.setTop (mkF m 1 #[.val (.ref o)] [(.ref o)])) _
    refine st81 _ ?_
    show Steps p.tables e below (T81.setTop (mkF m 4 #[.val (.ref o)] [(.int (Int32.ofNat cnt))])) _
    exact retI X81 hx Bd.returns (hb hby d37_4) hr
  · show QI (Int32.ofNat cnt) h0 n0 _ T81.heap _
    rw [e81]
    exact ⟨rfl, N0, rfl⟩
theorem d36_0 : decode jdk_67_method_93_code 0 = .ok (.aload_n 0, 1) := by decide +kernel
theorem d36_1 : decode jdk_67_method_93_code 1 = .ok (.invokespecial 343, 3) := by decide +kernel
theorem d36_4 : decode jdk_67_method_93_code 4 = .ok (.ireturn, 1) := by decide +kernel
theorem pn_36 : plainName "java/lang/StringBuilder" = true := by first | (simp [plainName, overriddenIn]; done) | decide +kernel
theorem ef_36 (m : MethodId) (x0 : Addr) : entryFrame m #[(.ref x0)] 1 = mkF m 0 #[.val (.ref x0)] [] := by first | (simp [entryFrame, mkF, argsToLocals, Value.category]; done) | rfl
set_option maxRecDepth 65536 in
set_option maxHeartbeats 40000000 in
theorem rmSL (l : Launch) (Z : State) (a0 : Array Value) (hw : ∀ d ∈ tables_1, d.before a0 Z = true) (ws : List Jvm.Cond) (o d : Addr) (cap cnt : Nat) (f : Nat → Value)  (h0 : Heap) (n0 : Nat) (Z0 : n0 ≤ h0.size) (SB0 : SBd Z h0 o d cap cnt f)  :
    MetFree l (⟨"java/lang/StringBuilder", "length", "()I"⟩ : MethodName) (head1 (Jvm.Cond.code (⟨"java/lang/StringBuilder", "length", "()I"⟩ : MethodName) jdk_67_method_93_code 1 (some .int) :: ws) ({ frames := 1, cells := 0, slots := 0, locals := 16 } : Room)) (fun aa_ U_ => aa_ = #[(.ref o)] ∧ Z.Warmed39 U_.vm ∧ U_.heap = h0) (fun _ _ _ _ _ => True) (fun _ U_ o_ V_ => ∃ v_ L_, o_ = .returned v_ ∧ QI (Int32.ofNat cnt) h0 n0 v_ V_.heap L_ ∧ FrameEnd U_ o_ V_ L_ ({ frames := 1, cells := 0, slots := 0, locals := 16 } : Room).cells ({ frames := 1, cells := 0, slots := 0, locals := 16 } : Room).slots) := by
  refine MetFree.of_bodySF (plainFor_of_name pn_36) hisR ?_
  intro p e s m args below meth c s₁ Bd hml0 hP hK
  obtain ⟨rfl, hZ, hh⟩ := hP
  have hx := Bd.exec
  have hby := Bd.bytes
  have hml : c.maxLocals = 1 := hml0
  have hown : s.vm.findClass "java/lang/StringBuilder" = some m.cls := findClass_of_methodNamed Bd.named
  have hnm := (name_of_methodNamed Bd.named Bd.method).1
  have X0 : Stand p l e ({ frames := 1, cells := 0, slots := 0, locals := 16 } : Room) s m #[(.ref o)] below meth c s₁ [] 0 0 := Stand.of_body Bd
  have e0 : s₁.heap = h0 := by rw [← hh, Bd.state]; rfl
  have N0 := Fr.nil n0
  have pre0 : ∀ zz, Steps p.tables e below (s₁.setTop (mkF m 0 #[.val (.ref o)] [])) zz → Steps p.tables e below (s₁.setTop (entryFrame m #[(.ref o)] 1)) zz := fun zz kz_ => castTop (ef_36 m o) kz_
  have EO1 := SB0.1
  obtain ⟨_, _, ⟨T82, L82, k82, n82⟩, -, X82, ⟨Lc82, hQ82, l82, y82, z82⟩, st82⟩ := superBack X0 hx hZ (y := (⟨"java/lang/AbstractStringBuilder", "length", "()I"⟩ : MethodName)) hown (hwi hw 201 rfl) (sameSelf (hwi hw 196 rfl) (declOf (hwi hw 132 rfl) (hwi hw 135 rfl)) (notFace_of_selects (hwi hw 134 rfl)) rfl (by decide)) (hwi hw 197 rfl) (hwi hw 116 rfl) (by decide) (backOf (W := 0) (rmAL l Z a0 hw [] o d cap cnt f h0 n0 Z0 SB0) hZ (hwi hw 202 rfl) (hwi hw 100 rfl) (by decide) (by decide)) e0 (Ins.self EO1) (g := (mkF m 1 #[.val (.ref o)] [(.ref o)])) rfl (by rw [hml]; rfl) (hwi hw 202 rfl) (argsL := []) (rest := []) (lenOf pd_7 rfl) rfl (by show 2 * 0 + _ ≤ _; exact Nat.le_of_eq rfl) (hb hby d36_1) (fun _ _ => ⟨rfl, e0, (by decide : 0 + 0 ≤ _), (by decide : 0 + 0 ≤ _)⟩)
  dsimp only [Pt.U, Pt.locs, Pt.cells, Pt.slots] at X82 l82 y82 z82 st82 hQ82
  obtain rfl : k82 = 0 := y82; obtain rfl : n82 = 0 := z82
  obtain ⟨rfl, N82q, e82⟩ := hQ82
  have N82 : Fr n0 L82 := by rw [l82]; exact Fr.app N0 N82q
  obtain ⟨fs, hr, hrun, hended, hW, hsame⟩ := X82.leave (v := some (.int (Int32.ofNat cnt))) (fun h => by rw [Bd.returns] at h; cases h)
  refine ⟨_, _, pre0 _ ?_, hrun, hended, _, _, rfl, ?_, ⟨_, rfl⟩, hW, hsame.mono (by decide) (by decide)⟩
  · show Steps p.tables e below (s₁.setTop (mkF m 0 #[.val (.ref o)] [])) _
    refine XS.aloadN X0.here hx rfl (hb hby d36_0) rfl rfl ?_
    show Steps p.tables e below (s₁.setTop (mkF m 1 #[.val (.ref o)] [(.ref o)])) _
    refine st82.trans ?_
    show Steps p.tables e below (T82.setTop (mkF m 4 #[.val (.ref o)] [(.int (Int32.ofNat cnt))])) _
    exact retI X82 hx Bd.returns (hb hby d36_4) hr
  · show QI (Int32.ofNat cnt) h0 n0 _ T82.heap _
    rw [e82]
    exact ⟨rfl, N82, rfl⟩
theorem d38_0 : decode jdk_68_method_68_code 0 = .ok (.getstatic 18, 3) := by decide +kernel
theorem d38_3 : decode jdk_68_method_68_code 3 = .ok (.ifCond .eq 14, 3) := by decide +kernel
theorem d38_6 : decode jdk_68_method_68_code 6 = .ok (.aload_n 0, 1) := by decide +kernel
theorem d38_7 : decode jdk_68_method_68_code 7 = .ok (.getfield 22, 3) := by decide +kernel
theorem d38_10 : decode jdk_68_method_68_code 10 = .ok (.ifCond .ne 7, 3) := by decide +kernel
theorem d38_13 : decode jdk_68_method_68_code 13 = .ok (.iconst 1, 1) := by decide +kernel
theorem d38_14 : decode jdk_68_method_68_code 14 = .ok (.goto 4, 3) := by decide +kernel
theorem d38_18 : decode jdk_68_method_68_code 18 = .ok (.ireturn, 1) := by decide +kernel
theorem pn_38 : plainName "java/lang/AbstractStringBuilder" = true := by first | (simp [plainName, overriddenIn]; done) | decide +kernel
theorem ef_38 (m : MethodId) (x0 : Addr) : entryFrame m #[(.ref x0)] 1 = mkF m 0 #[.val (.ref x0)] [] := by first | (simp [entryFrame, mkF, argsToLocals, Value.category]; done) | rfl
set_option maxRecDepth 65536 in
set_option maxHeartbeats 40000000 in
theorem rmIA (l : Launch) (Z : State) (a0 : Array Value) (hw : ∀ d ∈ tables_1, d.before a0 Z = true) (ws : List Jvm.Cond) (o d : Addr) (cap cnt : Nat) (f : Nat → Value)  (h0 : Heap) (n0 : Nat) (Z0 : n0 ≤ h0.size) (O : Old Z n0 h0) (SK : StrSta Z) (SB0 : SBd Z h0 o d cap cnt f)  :
    MetFree l (⟨"java/lang/AbstractStringBuilder", "isLatin1", "()Z"⟩ : MethodName) (head1 (Jvm.Cond.code (⟨"java/lang/AbstractStringBuilder", "isLatin1", "()Z"⟩ : MethodName) jdk_68_method_68_code 1 (some .boolean) :: ws) ({ frames := 0, cells := 0, slots := 0, locals := 0 } : Room)) (fun aa_ U_ => aa_ = #[(.ref o)] ∧ Z.Warmed39 U_.vm ∧ U_.heap = h0) (fun _ _ _ _ _ => True) (fun _ U_ o_ V_ => ∃ v_ L_, o_ = .returned v_ ∧ QI (1 : Int32) h0 n0 v_ V_.heap L_ ∧ FrameEnd U_ o_ V_ L_ ({ frames := 0, cells := 0, slots := 0, locals := 0 } : Room).cells ({ frames := 0, cells := 0, slots := 0, locals := 0 } : Room).slots) := by
  refine MetFree.of_bodySF (plainFor_of_name pn_38) hisR ?_
  intro p e s m args below meth c s₁ Bd hml0 hP hK
  obtain ⟨rfl, hZ, hh⟩ := hP
  have hx := Bd.exec
  have hby := Bd.bytes
  have hml : c.maxLocals = 1 := hml0
  have hown : s.vm.findClass "java/lang/AbstractStringBuilder" = some m.cls := findClass_of_methodNamed Bd.named
  have hnm := (name_of_methodNamed Bd.named Bd.method).1
  have X0 : Stand p l e ({ frames := 0, cells := 0, slots := 0, locals := 0 } : Room) s m #[(.ref o)] below meth c s₁ [] 0 0 := Stand.of_body Bd
  have e0 : s₁.heap = h0 := by rw [← hh, Bd.state]; rfl
  have N0 := Fr.nil n0
  have pre0 : ∀ zz, Steps p.tables e below (s₁.setTop (mkF m 0 #[.val (.ref o)] [])) zz → Steps p.tables e below (s₁.setTop (entryFrame m #[(.ref o)] 1)) zz := fun zz kz_ => castTop (ef_38 m o) kz_
  obtain ⟨kc, hkc, hcs⟩ := SK.1
  obtain ⟨EO, FV, FC, FN, ED, f1, FD, hft1, hag⟩ := id SB0
  obtain ⟨T83, X83, e83, st83⟩ := getS2 X0 hx hZ hown (host := "") (Or.inl (hwi hw 103 rfl)) Via.refl e0 (Sta.ext O.2 hcs) (g := (mkF m 0 #[.val (.ref o)] [])) rfl (hb hby d38_0)
  obtain ⟨T84, X84, e84, st84⟩ := getF X83 hx hZ hown (host := "") (Or.inl (hwi hw 106 rfl)) Via.refl e83 FC (g := (mkF m 7 #[.val (.ref o)] [(.ref o)])) rfl rfl (hb hby d38_7)
  obtain ⟨fs, hr, hrun, hended, hW, hsame⟩ := X84.leave (v := some (.int (1 : Int32))) (fun h => by rw [Bd.returns] at h; cases h)
  refine ⟨_, _, pre0 _ ?_, hrun, hended, _, _, rfl, ?_, ⟨_, rfl⟩, hW, hsame.mono (by decide) (by decide)⟩
  · show Steps p.tables e below (s₁.setTop (mkF m 0 #[.val (.ref o)] [])) _
    refine st83 _ ?_
    refine XS.ifNo X83.here hx rfl (hb hby d38_3) rfl ((if0 _ _).trans (feq hkc).1) ?_
    refine XS.aloadN X83.here hx rfl (hb hby d38_6) rfl rfl ?_
    show Steps p.tables e below (T83.setTop (mkF m 7 #[.val (.ref o)] [(.ref o)])) _
    refine st84 _ ?_
    refine XS.ifNo X84.here hx rfl (hb hby d38_10) rfl ((if0 _ _).trans (teq (rfl : (0 : Int32) = (0 : Int32))).2) ?_
    refine XS.iconst X84.here hx rfl (hb hby d38_13) ?_
    refine XS.goto X84.here hx rfl (pc0 := 14) (pc' := 18) rfl (hb hby d38_14) (by decide) (by decide) ?_
    show Steps p.tables e below (T84.setTop (mkF m 18 #[.val (.ref o)] [(.int (1 : Int32))])) _
    exact retN X84 hx (t := .boolean) Bd.returns (by simp) (hb hby d38_18) hr
  · show QI (1 : Int32) h0 n0 _ T84.heap _
    rw [e84]
    exact ⟨rfl, N0, rfl⟩
set_option maxRecDepth 65536 in
set_option maxHeartbeats 40000000 in
theorem rmCRc (l : Launch) (Z : State) (a0 : Array Value) (hw : ∀ d ∈ tables_1, d.before a0 Z = true) (ws : List Jvm.Cond) (d : Addr) (cap : Nat) (f1 : Nat → Value)  (h0 : Heap) (n0 : Nat) (Z0 : n0 ≤ h0.size) (hcap : cap ≤ 600) (ED : Exa Z h0 d "[B") (FD : AF Z h0 d .byte cap f1) (hft1 : ∀ j, j < cap → fits .byte (f1 j) = true)  :
    MetFree l (⟨"java/util/Arrays", "copyOfRange", "([BII)[B"⟩ : MethodName) (head1 (Jvm.Cond.code (⟨"java/util/Arrays", "copyOfRange", "([BII)[B"⟩ : MethodName) jdk_65_method_132_code 3 (some (.array .byte)) :: ws) ({ frames := 2, cells := 1, slots := 600, locals := 60 } : Room)) (fun aa_ U_ => aa_ = #[(.ref d), (.int (0 : Int32)), (.int (Int32.ofNat cap))] ∧ Z.Warmed39 U_.vm ∧ U_.heap = h0) (fun _ _ _ _ _ => True) (fun _ U_ o_ V_ => ∃ v_ L_, o_ = .returned v_ ∧ QA Z .byte cap f1 h0 n0 v_ V_.heap L_ ∧ FrameEnd U_ o_ V_ L_ ({ frames := 2, cells := 1, slots := 600, locals := 60 } : Room).cells ({ frames := 2, cells := 1, slots := 600, locals := 60 } : Room).slots) := by
  refine MetFree.of_bodySF (plainFor_of_name pn_39) hisR ?_
  intro p e s m args below meth c s₁ Bd hml0 hP hK
  obtain ⟨rfl, hZ, hh⟩ := hP
  have hx := Bd.exec
  have hby := Bd.bytes
  have hml : c.maxLocals = 3 := hml0
  have hown : s.vm.findClass "java/util/Arrays" = some m.cls := findClass_of_methodNamed Bd.named
  have hnm := (name_of_methodNamed Bd.named Bd.method).1
  have X0 : Stand p l e ({ frames := 2, cells := 1, slots := 600, locals := 60 } : Room) s m #[(.ref d), (.int (0 : Int32)), (.int (Int32.ofNat cap))] below meth c s₁ [] 0 0 := Stand.of_body Bd
  have e0 : s₁.heap = h0 := by rw [← hh, Bd.state]; rfl
  have N0 := Fr.nil n0
  have pre0 : ∀ zz, Steps p.tables e below (s₁.setTop (mkF m 0 #[.val (.ref d), .val (.int (0 : Int32)), .val (.int (Int32.ofNat cap))] [])) zz → Steps p.tables e below (s₁.setTop (entryFrame m #[(.ref d), (.int (0 : Int32)), (.int (Int32.ofNat cap))] 3)) zz := fun zz kz_ => castTop (ef_39 m d (0 : Int32) (Int32.ofNat cap)) kz_
  obtain ⟨T85, h85, X85, e85, E85, A85, B85, st85⟩ := clB X0 hx hZ hown (hwi hw 233 rfl) (hwi hw 234 rfl) (hwi hw 238 rfl) (hwi hw 236 rfl) (hwi hw 237 rfl) (hwi hw 239 rfl) e0 FD ED hft1 (g := (mkF m 18 #[.val (.ref d), .val (.int (0 : Int32)), .val (.int (Int32.ofNat cap))] [(.ref d)])) rfl (by rw [hml]; rfl) rfl (hb hby d39_18) (by decide) (W := 0) (cap := 600) (by show 2 * 0 + _ ≤ _; exact Nat.le_of_eq rfl) (by decide) hcap (by decide) (by decide)
  obtain ⟨b85, q85⟩ : ∃ z, z = h0.size := ⟨_, rfl⟩
  rw [← q85] at A85 B85 st85
  have sz_b85 : h0.size ≤ b85 := Nat.le_of_eq q85.symm
  have K85 := (Keep.refl h0 []).ext E85
  obtain ⟨T86, X86, e86, st86⟩ := castY X85 hx hZ hown (hwi hw 240 rfl) e85 (Ins.self B85) (g := (mkF m 21 #[.val (.ref d), .val (.int (0 : Int32)), .val (.int (Int32.ofNat cap))] [(.ref b85)])) rfl rfl (hb hby d39_21)
  obtain ⟨fs, hr, hrun, hended, hW, hsame⟩ := X86.leave (v := some (.ref b85)) (fun h => by rw [Bd.returns] at h; cases h)
  refine ⟨_, _, pre0 _ ?_, hrun, hended, _, _, rfl, ?_, ⟨_, rfl⟩, hW, hsame.mono (by decide) (by decide)⟩
  · show Steps p.tables e below (s₁.setTop (mkF m 0 #[.val (.ref d), .val (.int (0 : Int32)), .val (.int (Int32.ofNat cap))] [])) _
    refine XS.iloadN X0.here hx rfl (hb hby d39_0) rfl ?_
    refine XS.ifNo X0.here hx rfl (hb hby d39_1) rfl ((if0 _ _).trans (teq (rfl : (0 : Int32) = (0 : Int32))).2) ?_
    refine XS.iloadN X0.here hx rfl (hb hby d39_4) rfl ?_
    refine XS.aloadN X0.here hx rfl (hb hby d39_5) rfl rfl ?_
    show Steps p.tables e below (s₁.setTop (mkF m 6 #[.val (.ref d), .val (.int (0 : Int32)), .val (.int (Int32.ofNat cap))] [(.ref d), (.int (Int32.ofNat cap))])) _
    refine lenA X0 hx hZ e0 FD (g := (mkF m 6 #[.val (.ref d), .val (.int (0 : Int32)), .val (.int (Int32.ofNat cap))] [(.ref d), (.int (Int32.ofNat cap))])) rfl rfl (hb hby d39_6) ?_
    refine XS.icmpYes X0.here hx rfl (pc0 := 7) (pc' := 17) rfl (hb hby d39_7) rfl (teq (rfl : (Int32.ofNat cap) = (Int32.ofNat cap))).1 (by decide) (by decide) ?_
    refine XS.aloadN X0.here hx rfl (hb hby d39_17) rfl rfl ?_
    show Steps p.tables e below (s₁.setTop (mkF m 18 #[.val (.ref d), .val (.int (0 : Int32)), .val (.int (Int32.ofNat cap))] [(.ref d)])) _
    refine st85 _ ?_
    show Steps p.tables e below (T85.setTop (mkF m 21 #[.val (.ref d), .val (.int (0 : Int32)), .val (.int (Int32.ofNat cap))] [(.ref b85)])) _
    refine st86 _ ?_
    show Steps p.tables e below (T86.setTop (mkF m 24 #[.val (.ref d), .val (.int (0 : Int32)), .val (.int (Int32.ofNat cap))] [(.ref b85)])) _
    jvm_step X86.here [X86.here.top, hx, (hb hby d39_24), X86.method', Bd.returns, Value.isRef, FieldType.isReference]
    first | (intro acts; rw [hr _ acts rfl rfl rfl]) | rw [hr _ _ rfl rfl rfl]
    exact Steps.refl _
  · show QA Z .byte cap f1 h0 n0 _ T86.heap _
    exact ⟨b85, rfl, N0, by rw [e86]; exact K85, sz_b85, by rw [e86]; exact A85⟩
theorem d34_0 : decode jdk_42_method_150_code 0 = .ok (.aload_n 0, 1) := by decide +kernel
theorem d34_1 : decode jdk_42_method_150_code 1 = .ok (.invokespecial 1, 3) := by decide +kernel
theorem d34_4 : decode jdk_42_method_150_code 4 = .ok (.aload_n 1, 1) := by decide +kernel
theorem d34_5 : decode jdk_42_method_150_code 5 = .ok (.invokevirtual 552, 3) := by decide +kernel
theorem d34_8 : decode jdk_42_method_150_code 8 = .ok (.astore_n 3, 1) := by decide +kernel
theorem d34_9 : decode jdk_42_method_150_code 9 = .ok (.aload_n 1, 1) := by decide +kernel
theorem d34_10 : decode jdk_42_method_150_code 10 = .ok (.invokevirtual 549, 3) := by decide +kernel
theorem d34_13 : decode jdk_42_method_150_code 13 = .ok (.istore 4, 2) := by decide +kernel
theorem d34_15 : decode jdk_42_method_150_code 15 = .ok (.aload_n 1, 1) := by decide +kernel
theorem d34_16 : decode jdk_42_method_150_code 16 = .ok (.invokevirtual 1047, 3) := by decide +kernel
theorem d34_19 : decode jdk_42_method_150_code 19 = .ok (.ifCond .eq 22, 3) := by decide +kernel
theorem d34_22 : decode jdk_42_method_150_code 22 = .ok (.aload_n 0, 1) := by decide +kernel
theorem d34_23 : decode jdk_42_method_150_code 23 = .ok (.iconst 0, 1) := by decide +kernel
theorem d34_24 : decode jdk_42_method_150_code 24 = .ok (.putfield 15, 3) := by decide +kernel
theorem d34_27 : decode jdk_42_method_150_code 27 = .ok (.aload_n 0, 1) := by decide +kernel
theorem d34_28 : decode jdk_42_method_150_code 28 = .ok (.aload_n 3, 1) := by decide +kernel
theorem d34_29 : decode jdk_42_method_150_code 29 = .ok (.iconst 0, 1) := by decide +kernel
theorem d34_30 : decode jdk_42_method_150_code 30 = .ok (.iload 4, 2) := by decide +kernel
theorem d34_32 : decode jdk_42_method_150_code 32 = .ok (.invokestatic 54, 3) := by decide +kernel
theorem d34_35 : decode jdk_42_method_150_code 35 = .ok (.putfield 9, 3) := by decide +kernel
theorem d34_38 : decode jdk_42_method_150_code 38 = .ok (.goto 59, 3) := by decide +kernel
theorem d34_97 : decode jdk_42_method_150_code 97 = .ok (.return_, 1) := by decide +kernel
theorem pn_34 : plainName "java/lang/String" = true := by first | (simp [plainName, overriddenIn]; done) | decide +kernel
theorem ef_34 (m : MethodId) (x0 : Addr) (x1 : Addr) : entryFrame m #[(.ref x0), (.ref x1), .null] 5 = mkF m 0 #[.val (.ref x0), .val (.ref x1), .val .null, .unset, .unset] [] := by first | (simp [entryFrame, mkF, argsToLocals, Value.category]; done) | rfl
theorem d33_0 : decode jdk_42_method_53_code 0 = .ok (.aload_n 0, 1) := by decide +kernel
theorem d33_1 : decode jdk_42_method_53_code 1 = .ok (.aload_n 1, 1) := by decide +kernel
theorem d33_2 : decode jdk_42_method_53_code 2 = .ok (.aconst_null, 1) := by decide +kernel
theorem d33_3 : decode jdk_42_method_53_code 3 = .ok (.invokespecial 489, 3) := by decide +kernel
theorem d33_6 : decode jdk_42_method_53_code 6 = .ok (.return_, 1) := by decide +kernel
theorem pn_33 : plainName "java/lang/String" = true := by first | (simp [plainName, overriddenIn]; done) | decide +kernel
theorem ef_33 (m : MethodId) (x0 : Addr) (x1 : Addr) : entryFrame m #[(.ref x0), (.ref x1)] 2 = mkF m 0 #[.val (.ref x0), .val (.ref x1)] [] := by first | (simp [entryFrame, mkF, argsToLocals, Value.category]; done) | rfl
theorem d32_0 : decode jdk_67_method_42_code 0 = .ok (.new 18, 3) := by decide +kernel
theorem d32_3 : decode jdk_67_method_42_code 3 = .ok (.dup, 1) := by decide +kernel
theorem d32_4 : decode jdk_67_method_42_code 4 = .ok (.aload_n 0, 1) := by decide +kernel
theorem d32_5 : decode jdk_67_method_42_code 5 = .ok (.invokespecial 137, 3) := by decide +kernel
theorem d32_8 : decode jdk_67_method_42_code 8 = .ok (.areturn, 1) := by decide +kernel
theorem pn_32 : plainName "java/lang/StringBuilder" = true := by first | (simp [plainName, overriddenIn]; done) | decide +kernel
theorem ef_32 (m : MethodId) (x0 : Addr) : entryFrame m #[(.ref x0)] 1 = mkF m 0 #[.val (.ref x0)] [] := by first | (simp [entryFrame, mkF, argsToLocals, Value.category]; done) | rfl
set_option maxRecDepth 65536 in
set_option maxHeartbeats 40000000 in
theorem rmJ40 (l : Launch) (Z : State) (a0 : Array Value) (hw : ∀ d ∈ tables_1, d.before a0 Z = true) (ws : List Jvm.Cond) (x o d : Addr) (cap cnt : Nat) (f : Nat → Value)  (h0 : Heap) (n0 : Nat) (Z0 : n0 ≤ h0.size) (O : Old Z n0 h0) (SK : StrSta Z) (hcc : cnt < cap) (hcap : cap ≤ 600) (EX : Exa Z h0 x "java/lang/String") (FXV : Fld Z h0 x "java/lang/String" "value" "[B" .null) (FXC : Fld Z h0 x "java/lang/String" "coder" "B" (.int (0 : Int32))) (g_x : n0 ≤ x) (SB0 : SBd Z h0 o d cap cnt f)  :
    MetFree l (⟨"java/lang/String", "<init>", "(Ljava/lang/AbstractStringBuilder;Ljava/lang/Void;)V"⟩ : MethodName) (head1 (Jvm.Cond.code (⟨"java/lang/String", "<init>", "(Ljava/lang/AbstractStringBuilder;Ljava/lang/Void;)V"⟩ : MethodName) jdk_42_method_150_code 5 none :: ws) ({ frames := 3, cells := 1, slots := 600, locals := 90 } : Room)) (fun aa_ U_ => aa_ = #[(.ref x), (.ref o), .null] ∧ Z.Warmed39 U_.vm ∧ U_.heap = h0) (fun _ _ _ _ _ => True) (fun _ U_ o_ V_ => ∃ v_ L_, o_ = .returned v_ ∧ QSF Z x cnt f h0 n0 v_ V_.heap L_ ∧ FrameEnd U_ o_ V_ L_ ({ frames := 3, cells := 1, slots := 600, locals := 90 } : Room).cells ({ frames := 3, cells := 1, slots := 600, locals := 90 } : Room).slots) := by
  refine MetFree.of_bodySF (plainFor_of_name pn_34) hisR ?_
  intro p e s m args below meth c s₁ Bd hml0 hP hK
  obtain ⟨rfl, hZ, hh⟩ := hP
  have hx := Bd.exec
  have hby := Bd.bytes
  have hml : c.maxLocals = 5 := hml0
  have hown : s.vm.findClass "java/lang/String" = some m.cls := findClass_of_methodNamed Bd.named
  have hnm := (name_of_methodNamed Bd.named Bd.method).1
  have X0 : Stand p l e ({ frames := 3, cells := 1, slots := 600, locals := 90 } : Room) s m #[(.ref x), (.ref o), .null] below meth c s₁ [] 0 0 := Stand.of_body Bd
  have e0 : s₁.heap = h0 := by rw [← hh, Bd.state]; rfl
  have N0 := Fr.nil n0
  have pre0 : ∀ zz, Steps p.tables e below (s₁.setTop (mkF m 0 #[.val (.ref x), .val (.ref o), .val .null, .unset, .unset] [])) zz → Steps p.tables e below (s₁.setTop (entryFrame m #[(.ref x), (.ref o), .null] 5)) zz := fun zz kz_ => castTop (ef_34 m x o) kz_
  obtain ⟨EO, FV, FC, FN, ED, f1, FD, hft1, hag⟩ := id SB0
  have hdx : d ≠ x := ED.ne EX (by decide)
  have hox : o ≠ x := EO.ne EX (by decide)
  obtain ⟨T87, X87, e87, st87⟩ := initO X0 hx hZ hown (hwi hw 12 rfl) (hwi hw 13 rfl) (hwi hw 14 rfl) e0 (g := (mkF m 1 #[.val (.ref x), .val (.ref o), .val .null, .unset, .unset] [(.ref x)])) rfl (by rw [hml]; rfl) rfl (hb hby d34_1) (by decide) (W := 0) (by show 2 * 0 + _ ≤ _; exact Nat.le_of_eq rfl) (by decide)
  obtain ⟨cq88, kq88, q88a, q88b, q88c⟩ := isOf hZ e87 EO
  obtain ⟨_, _, ⟨T88, L88, k88, n88⟩, -, X88, ⟨Lc88, hQ88, l88, y88, z88⟩, st88⟩ := X87.virtualBack hx (y := (⟨"java/lang/AbstractStringBuilder", "getValue", "()[B"⟩ : MethodName)) (z := (⟨"java/lang/AbstractStringBuilder", "getValue", "()[B"⟩ : MethodName)) hown (mvT hZ (hwi hw 190 rfl)) (mvT hZ (hwi hw 191 rfl)) (notFace_of_selects (args := #[]) (mvT hZ (hwi hw 193 rfl))) (mvT hZ (hwi hw 193 rfl)) (mvT hZ (hwi hw 192 rfl)) (by decide) (backOf (W := 0) (rmGV l Z a0 hw [] o d cap cnt f h0 n0 Z0 SB0) hZ (hwi hw 194 rfl) (hwi hw 100 rfl) (by decide) (by decide)) q88a q88c (g := (mkF m 5 #[.val (.ref x), .val (.ref o), .val .null, .unset, .unset] [(.ref o)])) rfl (by rw [hml]; rfl) (Steps.refl _) (argsL := []) (rest := []) (lenOf pd_30 rfl) rfl (by show 2 * 0 + _ ≤ _; exact Nat.le_of_eq rfl) (hb hby d34_5) (fun _ _ => ⟨rfl, e87, (by decide : 0 + 0 ≤ _), (by decide : 0 + 0 ≤ _)⟩)
  dsimp only [Pt.U, Pt.locs, Pt.cells, Pt.slots] at X88 l88 y88 z88 st88 hQ88
  obtain rfl : k88 = 0 := y88; obtain rfl : n88 = 0 := z88
  obtain ⟨rfl, N88q, e88⟩ := hQ88
  have N88 : Fr n0 L88 := by rw [l88]; exact Fr.app N0 N88q
  obtain ⟨cq89, kq89, q89a, q89b, q89c⟩ := isOf hZ e88 EO
  obtain ⟨_, _, ⟨T89, L89, k89, n89⟩, -, X89, ⟨Lc89, hQ89, l89, y89, z89⟩, st89⟩ := X88.virtualBack hx (y := (⟨"java/lang/AbstractStringBuilder", "length", "()I"⟩ : MethodName)) (z := (⟨"java/lang/StringBuilder", "length", "()I"⟩ : MethodName)) hown (mvT hZ (hwi hw 195 rfl)) (mvT hZ (hwi hw 196 rfl)) (nfOther (args := #[]) (y' := (⟨"java/lang/AbstractStringBuilder", "ensureCapacityInternal", "(I)V"⟩ : MethodName)) (mvT hZ (declOf (hwi hw 132 rfl) (hwi hw 135 rfl))) (notFace_of_selects (args := #[]) (mvT hZ (hwi hw 134 rfl))) rfl) (mvT hZ (hwi hw 198 rfl)) (mvT hZ (hwi hw 199 rfl)) (by decide) (backOf (W := 0) (rmSL l Z a0 hw [] o d cap cnt f h0 n0 Z0 SB0) hZ (hwi hw 200 rfl) (hwi hw 92 rfl) (by decide) (by decide)) q89a q89c (g := (mkF m 10 #[.val (.ref x), .val (.ref o), .val .null, .val (.ref d), .unset] [(.ref o)])) rfl (by rw [hml]; rfl) (Steps.refl _) (argsL := []) (rest := []) (lenOf pd_7 rfl) rfl (by show 2 * 0 + _ ≤ _; exact Nat.le_of_eq rfl) (hb hby d34_10) (fun _ _ => ⟨rfl, e88, (by decide : 0 + 0 ≤ _), (by decide : 0 + 0 ≤ _)⟩)
  dsimp only [Pt.U, Pt.locs, Pt.cells, Pt.slots] at X89 l89 y89 z89 st89 hQ89
  obtain rfl : k89 = 0 := y89; obtain rfl : n89 = 0 := z89
  obtain ⟨rfl, N89q, e89⟩ := hQ89
  have N89 : Fr n0 L89 := by rw [l89]; exact Fr.app N88 N89q
  obtain ⟨cq90, kq90, q90a, q90b, q90c⟩ := isOf hZ e89 EO
  obtain ⟨_, _, ⟨T90, L90, k90, n90⟩, -, X90, ⟨Lc90, hQ90, l90, y90, z90⟩, st90⟩ := X89.virtualBack hx (y := (⟨"java/lang/AbstractStringBuilder", "isLatin1", "()Z"⟩ : MethodName)) (z := (⟨"java/lang/AbstractStringBuilder", "isLatin1", "()Z"⟩ : MethodName)) hown (mvT hZ (hwi hw 203 rfl)) (mvT hZ (hwi hw 204 rfl)) (notFace_of_selects (args := #[]) (mvT hZ (hwi hw 206 rfl))) (mvT hZ (hwi hw 206 rfl)) (mvT hZ (hwi hw 205 rfl)) (by decide) (backOf (W := 0) (rmIA l Z a0 hw [] o d cap cnt f h0 n0 Z0 O SK SB0) hZ (hwi hw 207 rfl) (hwi hw 100 rfl) (by decide) (by decide)) q90a q90c (g := (mkF m 16 #[.val (.ref x), .val (.ref o), .val .null, .val (.ref d), .val (.int (Int32.ofNat cnt))] [(.ref o)])) rfl (by rw [hml]; rfl) (Steps.refl _) (argsL := []) (rest := []) (lenOf pd_8 rfl) rfl (by show 2 * 0 + _ ≤ _; exact Nat.le_of_eq rfl) (hb hby d34_16) (fun _ _ => ⟨rfl, e89, (by decide : 0 + 0 ≤ _), (by decide : 0 + 0 ≤ _)⟩)
  dsimp only [Pt.U, Pt.locs, Pt.cells, Pt.slots] at X90 l90 y90 z90 st90 hQ90
  obtain rfl : k90 = 0 := y90; obtain rfl : n90 = 0 := z90
  obtain ⟨rfl, N90q, e90⟩ := hQ90
  have N90 : Fr n0 L90 := by rw [l90]; exact Fr.app N89 N90q
  obtain ⟨T91, h91, X91, e91, W91, st91⟩ := putFN X90 hx hZ hown (hwi hw 27 rfl) Via.refl e90 FXC EX (Or.inr ⟨(hwi hw 28 rfl), rfl, hnm⟩) (hwi hw 2 rfl) (ty := .byte) (v' := (.int (0 : Int32))) (by decide) rfl (by decide) (g := (mkF m 24 #[.val (.ref x), .val (.ref o), .val .null, .val (.ref d), .val (.int (Int32.ofNat cnt))] [(.int (0 : Int32)), (.ref x)])) rfl rfl (hb hby d34_24)
  have Fw91 := FXC.same W91
  have EO_e91 := EO.wr W91
  have EX_e91 := EX.wr W91
  have FXV_e91 := FXV.other W91 (Or.inr (slot_ne (Or.inr (hwi hw 30 rfl)) (Or.inr (hwi hw 28 rfl)) (by decide) (t := (.array .byte)) (t' := .byte) (by decide) (by decide)))
  have ED_e91 := ED.wr W91
  have FD_e91 := FD.other W91 hdx
  have N91 := Fr.snoc X91 N90 g_x
  have K91 := (Keep.refl h0 [x]).wr W91 (Or.inl (List.mem_of_getElem? (i := 0) rfl))
  have Z91 : n0 ≤ h91.size := Nat.le_trans Z0 (Keep.of_wr W91).1
  have O91 := O.wr W91 g_x
  obtain ⟨_, _, ⟨T92, L92, k92, n92⟩, -, X92, ⟨Lc92, hQ92, l92, y92, z92⟩, st92⟩ := Jvm.LawKit.callS X91 hx (y := (⟨"java/util/Arrays", "copyOfRange", "([BII)[B"⟩ : MethodName)) hown (mvT hZ (hwi hw 208 rfl)) (mvT hZ (hwi hw 209 rfl)) (mvT hZ (hwi hw 152 rfl)) (mvT hZ (hwi hw 210 rfl)) (by decide) (backOf (W := 1) (rmCR l Z a0 hw [] d cap cnt f1 h91 n0 Z91 hcap hcc FD_e91 hft1) hZ (hwi hw 210 rfl) (hwi hw 152 rfl) (by decide) (by decide)) (g := (mkF m 32 #[.val (.ref x), .val (.ref o), .val .null, .val (.ref d), .val (.int (Int32.ofNat cnt))] [(.int (Int32.ofNat cnt)), (.int (0 : Int32)), (.ref d), (.ref x)])) rfl (by rw [hml]; rfl) (argsL := [(.ref d), (.int (0 : Int32)), (.int (Int32.ofNat cnt))]) (rest := [(.ref x)]) (lenOf pd_31 rfl) rfl (by show 2 * 0 + _ ≤ _; exact Nat.le_of_eq rfl) (hb hby d34_32) (fun _ _ => ⟨rfl, e91, (by decide : 0 + 1 ≤ _), (by decide : 0 + 600 ≤ _)⟩)
  dsimp only [Pt.U, Pt.locs, Pt.cells, Pt.slots] at X92 l92 y92 z92 st92 hQ92
  obtain rfl : k92 = 1 := y92; obtain rfl : n92 = 600 := z92
  obtain ⟨b92, rfl, N92q, K92, zq92, A92⟩ := hQ92
  have N92 : Fr n0 L92 := by rw [l92]; exact Fr.app N91 N92q
  have ne_d_b92 : d ≠ b92 := Nat.ne_of_lt (Nat.lt_of_lt_of_le ED_e91.lt zq92)
  have ne_o_b92 : o ≠ b92 := Nat.ne_of_lt (Nat.lt_of_lt_of_le EO_e91.lt zq92)
  have ne_x_b92 : x ≠ b92 := Nat.ne_of_lt (Nat.lt_of_lt_of_le EX_e91.lt zq92)
  have g_b92 : n0 ≤ b92 := Nat.le_trans Z91 zq92
  have sz_b92 : h0.size ≤ b92 := Nat.le_trans K91.1 zq92
  have EO_e92 := EO_e91.keep K92
  have EX_e92 := EX_e91.keep K92
  have FXV_e92 := FXV_e91.keep K92 List.not_mem_nil
  have Fw91_e92 := Fw91.keep K92 List.not_mem_nil
  have ED_e92 := ED_e91.keep K92
  have FD_e92 := FD_e91.keep K92 List.not_mem_nil
  have KK92 := K91.trans K92 (fun x r => absurd r List.not_mem_nil)
  have Z92 : n0 ≤ T92.heap.size := Nat.le_trans Z91 K92.1
  have O92 := O91.keep K92 all0'
  obtain ⟨T93, h93, X93, e93, W93, st93⟩ := putF X92 hx hZ hown (host := "") (Or.inl (hwi hw 29 rfl)) Via.refl rfl FXV_e92 EX_e92 (Or.inr ⟨(hwi hw 30 rfl), rfl, hnm⟩) (hwi hw 2 rfl) (ty := (.array .byte)) (by decide) rfl rfl (g := (mkF m 35 #[.val (.ref x), .val (.ref o), .val .null, .val (.ref d), .val (.int (Int32.ofNat cnt))] [(.ref b92), (.ref x)])) rfl rfl (hb hby d34_35)
  have Fw93 := FXV_e92.same W93
  have EO_e93 := EO_e92.wr W93
  have EX_e93 := EX_e92.wr W93
  have Fw91_e93 := Fw91_e92.other W93 (Or.inr (slot_ne (Or.inr (hwi hw 28 rfl)) (Or.inr (hwi hw 30 rfl)) (by decide) (t := .byte) (t' := (.array .byte)) (by decide) (by decide)))
  have ED_e93 := ED_e92.wr W93
  have FD_e93 := FD_e92.other W93 hdx
  have A92_e93 := A92.other W93 (Ne.symm ne_x_b92)
  have N93 := Fr.snoc X93 N92 g_x
  have K93 := KK92.wr W93 (Or.inl (List.mem_of_getElem? (i := 0) rfl))
  have Z93 : n0 ≤ h93.size := Nat.le_trans Z92 (Keep.of_wr W93).1
  have O93 := O92.wr W93 g_x
  obtain ⟨fs, hr, hrun, hended, hW, hsame⟩ := X93.leave (v := none) (fun _ => rfl)
  refine ⟨_, _, pre0 _ ?_, hrun, hended, _, _, rfl, ?_, ⟨_, rfl⟩, hW, hsame.mono (by decide) (by decide)⟩
  · show Steps p.tables e below (s₁.setTop (mkF m 0 #[.val (.ref x), .val (.ref o), .val .null, .unset, .unset] [])) _
    refine XS.aloadN X0.here hx rfl (hb hby d34_0) rfl rfl ?_
    show Steps p.tables e below (s₁.setTop (mkF m 1 #[.val (.ref x), .val (.ref o), .val .null, .unset, .unset] [(.ref x)])) _
    refine st87 _ ?_
    refine XS.aloadN X87.here hx rfl (hb hby d34_4) rfl rfl ?_
    show Steps p.tables e below (T87.setTop (mkF m 5 #[.val (.ref x), .val (.ref o), .val .null, .unset, .unset] [(.ref o)])) _
    refine st88.trans ?_
    refine XS.astoreN X88.here hx rfl (hb hby d34_8) rfl rfl (l' := #[.val (.ref x), .val (.ref o), .val .null, .val (.ref d), .unset]) rfl ?_
    refine XS.aloadN X88.here hx rfl (hb hby d34_9) rfl rfl ?_
    show Steps p.tables e below (T88.setTop (mkF m 10 #[.val (.ref x), .val (.ref o), .val .null, .val (.ref d), .unset] [(.ref o)])) _
    refine st89.trans ?_
    refine XS.istore X89.here hx rfl (hb hby d34_13) rfl (l' := #[.val (.ref x), .val (.ref o), .val .null, .val (.ref d), .val (.int (Int32.ofNat cnt))]) rfl ?_
    refine XS.aloadN X89.here hx rfl (hb hby d34_15) rfl rfl ?_
    show Steps p.tables e below (T89.setTop (mkF m 16 #[.val (.ref x), .val (.ref o), .val .null, .val (.ref d), .val (.int (Int32.ofNat cnt))] [(.ref o)])) _
    refine st90.trans ?_
    refine XS.ifNo X90.here hx rfl (hb hby d34_19) rfl ((if0 _ _).trans (feq (by decide : ¬ ((1 : Int32) = (0 : Int32)))).1) ?_
    refine XS.aloadN X90.here hx rfl (hb hby d34_22) rfl rfl ?_
    refine XS.iconst X90.here hx rfl (hb hby d34_23) ?_
    show Steps p.tables e below (T90.setTop (mkF m 24 #[.val (.ref x), .val (.ref o), .val .null, .val (.ref d), .val (.int (Int32.ofNat cnt))] [(.int (0 : Int32)), (.ref x)])) _
    refine st91 _ ?_
    refine XS.aloadN X91.here hx rfl (hb hby d34_27) rfl rfl ?_
    refine XS.aloadN X91.here hx rfl (hb hby d34_28) rfl rfl ?_
    refine XS.iconst X91.here hx rfl (hb hby d34_29) ?_
    refine XS.iload X91.here hx rfl (hb hby d34_30) rfl ?_
    show Steps p.tables e below (T91.setTop (mkF m 32 #[.val (.ref x), .val (.ref o), .val .null, .val (.ref d), .val (.int (Int32.ofNat cnt))] [(.int (Int32.ofNat cnt)), (.int (0 : Int32)), (.ref d), (.ref x)])) _
    refine st92 _ ?_
    show Steps p.tables e below (T92.setTop (mkF m 35 #[.val (.ref x), .val (.ref o), .val .null, .val (.ref d), .val (.int (Int32.ofNat cnt))] [(.ref b92), (.ref x)])) _
    refine st93 _ ?_
    refine XS.goto X93.here hx rfl (pc0 := 38) (pc' := 97) rfl (hb hby d34_38) (by decide) (by decide) ?_
    show Steps p.tables e below (T93.setTop (mkF m 97 #[.val (.ref x), .val (.ref o), .val .null, .val (.ref d), .val (.int (Int32.ofNat cnt))] [])) _
    exact X93.returnOut hx Bd.returns (hb hby d34_97) hr
  · show QSF Z x cnt f h0 n0 _ T93.heap _
    exact ⟨rfl, N93, by rw [e93]; exact K93, by rw [e93]; exact ⟨⟨EX_e93, b92, Fw93, Fw91_e93, A92_e93.congr hag⟩, fun j hj => by rw [← hag j hj]; exact hft1 j (by omega)⟩⟩
set_option maxRecDepth 65536 in
set_option maxHeartbeats 40000000 in
theorem rmJ10 (l : Launch) (Z : State) (a0 : Array Value) (hw : ∀ d ∈ tables_1, d.before a0 Z = true) (ws : List Jvm.Cond) (x o d : Addr) (cap cnt : Nat) (f : Nat → Value)  (h0 : Heap) (n0 : Nat) (Z0 : n0 ≤ h0.size) (O : Old Z n0 h0) (SK : StrSta Z) (hcc : cnt < cap) (hcap : cap ≤ 600) (EX : Exa Z h0 x "java/lang/String") (FXV : Fld Z h0 x "java/lang/String" "value" "[B" .null) (FXC : Fld Z h0 x "java/lang/String" "coder" "B" (.int (0 : Int32))) (g_x : n0 ≤ x) (SB0 : SBd Z h0 o d cap cnt f)  :
    MetFree l (⟨"java/lang/String", "<init>", "(Ljava/lang/StringBuilder;)V"⟩ : MethodName) (head1 (Jvm.Cond.code (⟨"java/lang/String", "<init>", "(Ljava/lang/StringBuilder;)V"⟩ : MethodName) jdk_42_method_53_code 2 none :: ws) ({ frames := 4, cells := 1, slots := 600, locals := 112 } : Room)) (fun aa_ U_ => aa_ = #[(.ref x), (.ref o)] ∧ Z.Warmed39 U_.vm ∧ U_.heap = h0) (fun _ _ _ _ _ => True) (fun _ U_ o_ V_ => ∃ v_ L_, o_ = .returned v_ ∧ QSF Z x cnt f h0 n0 v_ V_.heap L_ ∧ FrameEnd U_ o_ V_ L_ ({ frames := 4, cells := 1, slots := 600, locals := 112 } : Room).cells ({ frames := 4, cells := 1, slots := 600, locals := 112 } : Room).slots) := by
  refine MetFree.of_bodySF (plainFor_of_name pn_33) hisR ?_
  intro p e s m args below meth c s₁ Bd hml0 hP hK
  obtain ⟨rfl, hZ, hh⟩ := hP
  have hx := Bd.exec
  have hby := Bd.bytes
  have hml : c.maxLocals = 2 := hml0
  have hown : s.vm.findClass "java/lang/String" = some m.cls := findClass_of_methodNamed Bd.named
  have hnm := (name_of_methodNamed Bd.named Bd.method).1
  have X0 : Stand p l e ({ frames := 4, cells := 1, slots := 600, locals := 112 } : Room) s m #[(.ref x), (.ref o)] below meth c s₁ [] 0 0 := Stand.of_body Bd
  have e0 : s₁.heap = h0 := by rw [← hh, Bd.state]; rfl
  have N0 := Fr.nil n0
  have pre0 : ∀ zz, Steps p.tables e below (s₁.setTop (mkF m 0 #[.val (.ref x), .val (.ref o)] [])) zz → Steps p.tables e below (s₁.setTop (entryFrame m #[(.ref x), (.ref o)] 2)) zz := fun zz kz_ => castTop (ef_33 m x o) kz_
  obtain ⟨_, _, ⟨T94, L94, k94, n94⟩, -, X94, ⟨Lc94, hQ94, l94, y94, z94⟩, st94⟩ := X0.specialBack hx (y := (⟨"java/lang/String", "<init>", "(Ljava/lang/AbstractStringBuilder;Ljava/lang/Void;)V"⟩ : MethodName)) rfl hown (mvT hZ (hwi hw 187 rfl)) (mvT hZ (hwi hw 188 rfl)) (mvT hZ (hwi hw 189 rfl)) (by decide) (backOf (W := 0) (rmJ40 l Z a0 hw [] x o d cap cnt f h0 n0 Z0 O SK hcc hcap EX FXV FXC g_x SB0) hZ (hwi hw 189 rfl) (hwi hw 3 rfl) (by decide) (by decide)) (g := (mkF m 3 #[.val (.ref x), .val (.ref o)] [.null, (.ref o), (.ref x)])) rfl (by rw [hml]; rfl) (Steps.refl _) (a := x) (argsL := [(.ref o), .null]) (rest := []) (lenOf pd_29 rfl) rfl (by show 2 * 0 + _ ≤ _; exact Nat.le_of_eq rfl) (hb hby d33_3) (fun _ _ => ⟨rfl, e0, (by decide : 0 + 1 ≤ _), (by decide : 0 + 600 ≤ _)⟩)
  dsimp only [Pt.U, Pt.locs, Pt.cells, Pt.slots] at X94 l94 y94 z94 st94 hQ94
  obtain rfl : k94 = 1 := y94; obtain rfl : n94 = 600 := z94
  obtain ⟨rfl, N94q, K94, S94⟩ := hQ94
  have N94 : Fr n0 L94 := by rw [l94]; exact Fr.app N0 N94q
  have EX_e94 := EX.keep K94
  have KK94 := (Keep.refl h0 [x]).trans K94 (fun x r => by cases List.mem_singleton.mp r; exact (Or.inl (List.mem_of_getElem? (i := 0) rfl)))
  have Z94 : n0 ≤ T94.heap.size := Nat.le_trans Z0 K94.1
  have O94 := O.keep K94 (all1 g_x)
  obtain ⟨fs, hr, hrun, hended, hW, hsame⟩ := X94.leave (v := none) (fun _ => rfl)
  refine ⟨_, _, pre0 _ ?_, hrun, hended, _, _, rfl, ?_, ⟨_, rfl⟩, hW, hsame.mono (by decide) (by decide)⟩
  · show Steps p.tables e below (s₁.setTop (mkF m 0 #[.val (.ref x), .val (.ref o)] [])) _
    refine XS.aloadN X0.here hx rfl (hb hby d33_0) rfl rfl ?_
    refine XS.aloadN X0.here hx rfl (hb hby d33_1) rfl rfl ?_
    refine XS.aconstNull X0.here hx rfl (hb hby d33_2) ?_
    show Steps p.tables e below (s₁.setTop (mkF m 3 #[.val (.ref x), .val (.ref o)] [.null, (.ref o), (.ref x)])) _
    refine st94.trans ?_
    show Steps p.tables e below (T94.setTop (mkF m 6 #[.val (.ref x), .val (.ref o)] [])) _
    exact X94.returnOut hx Bd.returns (hb hby d33_6) hr
  · show QSF Z x cnt f h0 n0 _ T94.heap _
    exact ⟨rfl, N94, K94, S94⟩
set_option maxRecDepth 65536 in
set_option maxHeartbeats 40000000 in
theorem rmTS0 (l : Launch) (Z : State) (a0 : Array Value) (hw : ∀ d ∈ tables_1, d.before a0 Z = true) (ws : List Jvm.Cond) (o d : Addr) (cap cnt : Nat) (f : Nat → Value)  (h0 : Heap) (n0 : Nat) (Z0 : n0 ≤ h0.size) (O : Old Z n0 h0) (SK : StrSta Z) (hcc : cnt < cap) (hcap : cap ≤ 600) (SB0 : SBd Z h0 o d cap cnt f)  :
    MetFree l (⟨"java/lang/StringBuilder", "toString", "()Ljava/lang/String;"⟩ : MethodName) (head1 (Jvm.Cond.code (⟨"java/lang/StringBuilder", "toString", "()Ljava/lang/String;"⟩ : MethodName) jdk_67_method_42_code 1 (some (.object "java/lang/String")) :: ws) ({ frames := 5, cells := 2, slots := 604, locals := 134 } : Room)) (fun aa_ U_ => aa_ = #[(.ref o)] ∧ Z.Warmed39 U_.vm ∧ U_.heap = h0) (fun _ _ _ _ _ => True) (fun _ U_ o_ V_ => ∃ v_ L_, o_ = .returned v_ ∧ QTS Z cnt f h0 n0 v_ V_.heap L_ ∧ FrameEnd U_ o_ V_ L_ ({ frames := 5, cells := 2, slots := 604, locals := 134 } : Room).cells ({ frames := 5, cells := 2, slots := 604, locals := 134 } : Room).slots) := by
  refine MetFree.of_bodySF (plainFor_of_name pn_32) hisR ?_
  intro p e s m args below meth c s₁ Bd hml0 hP hK
  obtain ⟨rfl, hZ, hh⟩ := hP
  have hx := Bd.exec
  have hby := Bd.bytes
  have hml : c.maxLocals = 1 := hml0
  have hown : s.vm.findClass "java/lang/StringBuilder" = some m.cls := findClass_of_methodNamed Bd.named
  have hnm := (name_of_methodNamed Bd.named Bd.method).1
  have X0 : Stand p l e ({ frames := 5, cells := 2, slots := 604, locals := 134 } : Room) s m #[(.ref o)] below meth c s₁ [] 0 0 := Stand.of_body Bd
  have e0 : s₁.heap = h0 := by rw [← hh, Bd.state]; rfl
  have N0 := Fr.nil n0
  have pre0 : ∀ zz, Steps p.tables e below (s₁.setTop (mkF m 0 #[.val (.ref o)] [])) zz → Steps p.tables e below (s₁.setTop (entryFrame m #[(.ref o)] 1)) zz := fun zz kz_ => castTop (ef_32 m o) kz_
  obtain ⟨T95, h95, X95, e95, E95, A95, D95, -, st95⟩ := newO X0 hx hZ hown (hwi hw 183 rfl) (hwi hw 2 rfl) (hwi hw 3 rfl) e0 (g := (mkF m 0 #[.val (.ref o)] [])) rfl (hb hby d32_0) (by decide) (by decide)
  obtain ⟨b95, g95⟩ : ∃ z, z = h0.size := ⟨_, rfl⟩
  rw [← g95] at A95 D95 st95
  have E_b95 := A95
  have g_b95 : n0 ≤ b95 := Nat.le_trans Z0 (Nat.le_of_eq g95.symm)
  have sz_b95 : h0.size ≤ b95 := Nat.le_trans (Keep.refl h0 []).1 (Nat.le_of_eq g95.symm)
  have K95 := (Keep.refl h0 []).ext E95
  have Z95 : n0 ≤ h95.size := Nat.le_trans Z0 E95.1
  have F_coder_b95 : Fld Z h95 b95 "java/lang/String" "coder" "B" (.int (0 : Int32)) := D95 (Or.inr (hwi hw 28 rfl)) (ty := .byte) (by decide)
  have F_value_b95 : Fld Z h95 b95 "java/lang/String" "value" "[B" .null := D95 (Or.inr (hwi hw 30 rfl)) (ty := (.array .byte)) (by decide)
  have F_hash_b95 : Fld Z h95 b95 "java/lang/String" "hash" "I" (.int (0 : Int32)) := D95 (Or.inl (hwi hw 41 rfl)) (ty := .int) (by decide)
  have F_hashIsZero_b95 : Fld Z h95 b95 "java/lang/String" "hashIsZero" "Z" (.int (0 : Int32)) := D95 (Or.inl (hwi hw 43 rfl)) (ty := .boolean) (by decide)
  have O95 := O.ext E95
  obtain ⟨_, _, ⟨T96, L96, k96, n96⟩, -, X96, ⟨Lc96, hQ96, l96, y96, z96⟩, st96⟩ := X95.specialBack hx (y := (⟨"java/lang/String", "<init>", "(Ljava/lang/StringBuilder;)V"⟩ : MethodName)) rfl hown (mvT hZ (hwi hw 184 rfl)) (mvT hZ (hwi hw 185 rfl)) (mvT hZ (hwi hw 186 rfl)) (by decide) (backOf (W := 1) (rmJ10 l Z a0 hw [] b95 o d cap cnt f h95 n0 Z95 O95 SK hcc hcap E_b95 F_value_b95 F_coder_b95 g_b95 (SB0.ext E95)) hZ (hwi hw 186 rfl) (hwi hw 3 rfl) (by decide) (by decide)) (g := (mkF m 5 #[.val (.ref o)] [(.ref o), (.ref b95), (.ref b95)])) rfl (by rw [hml]; rfl) (Steps.refl _) (a := b95) (argsL := [(.ref o)]) (rest := [(.ref b95)]) (lenOf pd_28 rfl) rfl (by show 2 * 0 + _ ≤ _; exact Nat.le_of_eq rfl) (hb hby d32_5) (fun _ _ => ⟨rfl, e95, (by decide : 1 + 1 ≤ _), (by decide : 4 + 600 ≤ _)⟩)
  dsimp only [Pt.U, Pt.locs, Pt.cells, Pt.slots] at X96 l96 y96 z96 st96 hQ96
  obtain rfl : k96 = 2 := y96; obtain rfl : n96 = 604 := z96
  obtain ⟨rfl, N96q, K96, S96⟩ := hQ96
  have N96 : Fr n0 L96 := by rw [l96]; exact Fr.app N0 N96q
  have KK96 := K95.trans K96 (fun x r => by cases List.mem_singleton.mp r; exact (Or.inr sz_b95))
  have Z96 : n0 ≤ T96.heap.size := Nat.le_trans Z95 K96.1
  have O96 := O95.keep K96 (all1 g_b95)
  obtain ⟨fs, hr, hrun, hended, hW, hsame⟩ := X96.leave (v := some (.ref b95)) (fun h => by rw [Bd.returns] at h; cases h)
  refine ⟨_, _, pre0 _ ?_, hrun, hended, _, _, rfl, ?_, ⟨_, rfl⟩, hW, hsame.mono (by decide) (by decide)⟩
  · show Steps p.tables e below (s₁.setTop (mkF m 0 #[.val (.ref o)] [])) _
    refine st95 _ ?_
    refine XS.dup X95.here hx rfl (hb hby d32_3) rfl rfl ?_
    refine XS.aloadN X95.here hx rfl (hb hby d32_4) rfl rfl ?_
    show Steps p.tables e below (T95.setTop (mkF m 5 #[.val (.ref o)] [(.ref o), (.ref b95), (.ref b95)])) _
    refine st96.trans ?_
    show Steps p.tables e below (T96.setTop (mkF m 8 #[.val (.ref o)] [(.ref b95)])) _
    jvm_step X96.here [X96.here.top, hx, (hb hby d32_8), X96.method', Bd.returns, Value.isRef, FieldType.isReference]
    first | (intro acts; rw [hr _ acts rfl rfl rfl]) | rw [hr _ _ rfl rfl rfl]
    exact Steps.refl _
  · show QTS Z cnt f h0 n0 _ T96.heap _
    exact ⟨b95, rfl, N96, KK96, S96⟩
set_option maxRecDepth 65536 in
set_option maxHeartbeats 40000000 in
theorem rmJ41 (l : Launch) (Z : State) (a0 : Array Value) (hw : ∀ d ∈ tables_1, d.before a0 Z = true) (ws : List Jvm.Cond) (x o d : Addr) (cap cnt : Nat) (f : Nat → Value)  (h0 : Heap) (n0 : Nat) (Z0 : n0 ≤ h0.size) (O : Old Z n0 h0) (SK : StrSta Z) (hcc : cnt = cap) (hcap : cap ≤ 600) (EX : Exa Z h0 x "java/lang/String") (FXV : Fld Z h0 x "java/lang/String" "value" "[B" .null) (FXC : Fld Z h0 x "java/lang/String" "coder" "B" (.int (0 : Int32))) (g_x : n0 ≤ x) (SB0 : SBd Z h0 o d cap cnt f)  :
    MetFree l (⟨"java/lang/String", "<init>", "(Ljava/lang/AbstractStringBuilder;Ljava/lang/Void;)V"⟩ : MethodName) (head1 (Jvm.Cond.code (⟨"java/lang/String", "<init>", "(Ljava/lang/AbstractStringBuilder;Ljava/lang/Void;)V"⟩ : MethodName) jdk_42_method_150_code 5 none :: ws) ({ frames := 3, cells := 1, slots := 600, locals := 90 } : Room)) (fun aa_ U_ => aa_ = #[(.ref x), (.ref o), .null] ∧ Z.Warmed39 U_.vm ∧ U_.heap = h0) (fun _ _ _ _ _ => True) (fun _ U_ o_ V_ => ∃ v_ L_, o_ = .returned v_ ∧ QSF Z x cnt f h0 n0 v_ V_.heap L_ ∧ FrameEnd U_ o_ V_ L_ ({ frames := 3, cells := 1, slots := 600, locals := 90 } : Room).cells ({ frames := 3, cells := 1, slots := 600, locals := 90 } : Room).slots) := by
  refine MetFree.of_bodySF (plainFor_of_name pn_34) hisR ?_
  intro p e s m args below meth c s₁ Bd hml0 hP hK
  obtain ⟨rfl, hZ, hh⟩ := hP
  have hx := Bd.exec
  have hby := Bd.bytes
  have hml : c.maxLocals = 5 := hml0
  have hown : s.vm.findClass "java/lang/String" = some m.cls := findClass_of_methodNamed Bd.named
  have hnm := (name_of_methodNamed Bd.named Bd.method).1
  have X0 : Stand p l e ({ frames := 3, cells := 1, slots := 600, locals := 90 } : Room) s m #[(.ref x), (.ref o), .null] below meth c s₁ [] 0 0 := Stand.of_body Bd
  have e0 : s₁.heap = h0 := by rw [← hh, Bd.state]; rfl
  have N0 := Fr.nil n0
  have pre0 : ∀ zz, Steps p.tables e below (s₁.setTop (mkF m 0 #[.val (.ref x), .val (.ref o), .val .null, .unset, .unset] [])) zz → Steps p.tables e below (s₁.setTop (entryFrame m #[(.ref x), (.ref o), .null] 5)) zz := fun zz kz_ => castTop (ef_34 m x o) kz_
  obtain ⟨EO, FV, FC, FN, ED, f1, FD, hft1, hag⟩ := id SB0
  have hdx : d ≠ x := ED.ne EX (by decide)
  have hox : o ≠ x := EO.ne EX (by decide)
  obtain ⟨T97, X97, e97, st97⟩ := initO X0 hx hZ hown (hwi hw 12 rfl) (hwi hw 13 rfl) (hwi hw 14 rfl) e0 (g := (mkF m 1 #[.val (.ref x), .val (.ref o), .val .null, .unset, .unset] [(.ref x)])) rfl (by rw [hml]; rfl) rfl (hb hby d34_1) (by decide) (W := 0) (by show 2 * 0 + _ ≤ _; exact Nat.le_of_eq rfl) (by decide)
  obtain ⟨cq98, kq98, q98a, q98b, q98c⟩ := isOf hZ e97 EO
  obtain ⟨_, _, ⟨T98, L98, k98, n98⟩, -, X98, ⟨Lc98, hQ98, l98, y98, z98⟩, st98⟩ := X97.virtualBack hx (y := (⟨"java/lang/AbstractStringBuilder", "getValue", "()[B"⟩ : MethodName)) (z := (⟨"java/lang/AbstractStringBuilder", "getValue", "()[B"⟩ : MethodName)) hown (mvT hZ (hwi hw 190 rfl)) (mvT hZ (hwi hw 191 rfl)) (notFace_of_selects (args := #[]) (mvT hZ (hwi hw 193 rfl))) (mvT hZ (hwi hw 193 rfl)) (mvT hZ (hwi hw 192 rfl)) (by decide) (backOf (W := 0) (rmGV l Z a0 hw [] o d cap cnt f h0 n0 Z0 SB0) hZ (hwi hw 194 rfl) (hwi hw 100 rfl) (by decide) (by decide)) q98a q98c (g := (mkF m 5 #[.val (.ref x), .val (.ref o), .val .null, .unset, .unset] [(.ref o)])) rfl (by rw [hml]; rfl) (Steps.refl _) (argsL := []) (rest := []) (lenOf pd_30 rfl) rfl (by show 2 * 0 + _ ≤ _; exact Nat.le_of_eq rfl) (hb hby d34_5) (fun _ _ => ⟨rfl, e97, (by decide : 0 + 0 ≤ _), (by decide : 0 + 0 ≤ _)⟩)
  dsimp only [Pt.U, Pt.locs, Pt.cells, Pt.slots] at X98 l98 y98 z98 st98 hQ98
  obtain rfl : k98 = 0 := y98; obtain rfl : n98 = 0 := z98
  obtain ⟨rfl, N98q, e98⟩ := hQ98
  have N98 : Fr n0 L98 := by rw [l98]; exact Fr.app N0 N98q
  obtain ⟨cq99, kq99, q99a, q99b, q99c⟩ := isOf hZ e98 EO
  obtain ⟨_, _, ⟨T99, L99, k99, n99⟩, -, X99, ⟨Lc99, hQ99, l99, y99, z99⟩, st99⟩ := X98.virtualBack hx (y := (⟨"java/lang/AbstractStringBuilder", "length", "()I"⟩ : MethodName)) (z := (⟨"java/lang/StringBuilder", "length", "()I"⟩ : MethodName)) hown (mvT hZ (hwi hw 195 rfl)) (mvT hZ (hwi hw 196 rfl)) (nfOther (args := #[]) (y' := (⟨"java/lang/AbstractStringBuilder", "ensureCapacityInternal", "(I)V"⟩ : MethodName)) (mvT hZ (declOf (hwi hw 132 rfl) (hwi hw 135 rfl))) (notFace_of_selects (args := #[]) (mvT hZ (hwi hw 134 rfl))) rfl) (mvT hZ (hwi hw 198 rfl)) (mvT hZ (hwi hw 199 rfl)) (by decide) (backOf (W := 0) (rmSL l Z a0 hw [] o d cap cnt f h0 n0 Z0 SB0) hZ (hwi hw 200 rfl) (hwi hw 92 rfl) (by decide) (by decide)) q99a q99c (g := (mkF m 10 #[.val (.ref x), .val (.ref o), .val .null, .val (.ref d), .unset] [(.ref o)])) rfl (by rw [hml]; rfl) (Steps.refl _) (argsL := []) (rest := []) (lenOf pd_7 rfl) rfl (by show 2 * 0 + _ ≤ _; exact Nat.le_of_eq rfl) (hb hby d34_10) (fun _ _ => ⟨rfl, e98, (by decide : 0 + 0 ≤ _), (by decide : 0 + 0 ≤ _)⟩)
  dsimp only [Pt.U, Pt.locs, Pt.cells, Pt.slots] at X99 l99 y99 z99 st99 hQ99
  obtain rfl : k99 = 0 := y99; obtain rfl : n99 = 0 := z99
  obtain ⟨rfl, N99q, e99⟩ := hQ99
  have N99 : Fr n0 L99 := by rw [l99]; exact Fr.app N98 N99q
  obtain ⟨cq100, kq100, q100a, q100b, q100c⟩ := isOf hZ e99 EO
  obtain ⟨_, _, ⟨T100, L100, k100, n100⟩, -, X100, ⟨Lc100, hQ100, l100, y100, z100⟩, st100⟩ := X99.virtualBack hx (y := (⟨"java/lang/AbstractStringBuilder", "isLatin1", "()Z"⟩ : MethodName)) (z := (⟨"java/lang/AbstractStringBuilder", "isLatin1", "()Z"⟩ : MethodName)) hown (mvT hZ (hwi hw 203 rfl)) (mvT hZ (hwi hw 204 rfl)) (notFace_of_selects (args := #[]) (mvT hZ (hwi hw 206 rfl))) (mvT hZ (hwi hw 206 rfl)) (mvT hZ (hwi hw 205 rfl)) (by decide) (backOf (W := 0) (rmIA l Z a0 hw [] o d cap cnt f h0 n0 Z0 O SK SB0) hZ (hwi hw 207 rfl) (hwi hw 100 rfl) (by decide) (by decide)) q100a q100c (g := (mkF m 16 #[.val (.ref x), .val (.ref o), .val .null, .val (.ref d), .val (.int (Int32.ofNat cnt))] [(.ref o)])) rfl (by rw [hml]; rfl) (Steps.refl _) (argsL := []) (rest := []) (lenOf pd_8 rfl) rfl (by show 2 * 0 + _ ≤ _; exact Nat.le_of_eq rfl) (hb hby d34_16) (fun _ _ => ⟨rfl, e99, (by decide : 0 + 0 ≤ _), (by decide : 0 + 0 ≤ _)⟩)
  dsimp only [Pt.U, Pt.locs, Pt.cells, Pt.slots] at X100 l100 y100 z100 st100 hQ100
  obtain rfl : k100 = 0 := y100; obtain rfl : n100 = 0 := z100
  obtain ⟨rfl, N100q, e100⟩ := hQ100
  have N100 : Fr n0 L100 := by rw [l100]; exact Fr.app N99 N100q
  obtain ⟨T101, h101, X101, e101, W101, st101⟩ := putFN X100 hx hZ hown (hwi hw 27 rfl) Via.refl e100 FXC EX (Or.inr ⟨(hwi hw 28 rfl), rfl, hnm⟩) (hwi hw 2 rfl) (ty := .byte) (v' := (.int (0 : Int32))) (by decide) rfl (by decide) (g := (mkF m 24 #[.val (.ref x), .val (.ref o), .val .null, .val (.ref d), .val (.int (Int32.ofNat cnt))] [(.int (0 : Int32)), (.ref x)])) rfl rfl (hb hby d34_24)
  have Fw101 := FXC.same W101
  have EO_e101 := EO.wr W101
  have EX_e101 := EX.wr W101
  have FXV_e101 := FXV.other W101 (Or.inr (slot_ne (Or.inr (hwi hw 30 rfl)) (Or.inr (hwi hw 28 rfl)) (by decide) (t := (.array .byte)) (t' := .byte) (by decide) (by decide)))
  have ED_e101 := ED.wr W101
  have FD_e101 := FD.other W101 hdx
  have N101 := Fr.snoc X101 N100 g_x
  have K101 := (Keep.refl h0 [x]).wr W101 (Or.inl (List.mem_of_getElem? (i := 0) rfl))
  have Z101 : n0 ≤ h101.size := Nat.le_trans Z0 (Keep.of_wr W101).1
  have O101 := O.wr W101 g_x
  obtain ⟨_, _, ⟨T102, L102, k102, n102⟩, -, X102, ⟨Lc102, hQ102, l102, y102, z102⟩, st102⟩ := Jvm.LawKit.callS X101 hx (y := (⟨"java/util/Arrays", "copyOfRange", "([BII)[B"⟩ : MethodName)) hown (mvT hZ (hwi hw 208 rfl)) (mvT hZ (hwi hw 209 rfl)) (mvT hZ (hwi hw 152 rfl)) (mvT hZ (hwi hw 210 rfl)) (by decide) (backOf (W := 1) (rmCRc l Z a0 hw [] d cap f1 h101 n0 Z101 hcap ED_e101 FD_e101 hft1) hZ (hwi hw 210 rfl) (hwi hw 152 rfl) (by decide) (by decide)) (g := (mkF m 32 #[.val (.ref x), .val (.ref o), .val .null, .val (.ref d), .val (.int (Int32.ofNat cap))] [(.int (Int32.ofNat cap)), (.int (0 : Int32)), (.ref d), (.ref x)])) rfl (by rw [hml]; rfl) (argsL := [(.ref d), (.int (0 : Int32)), (.int (Int32.ofNat cap))]) (rest := [(.ref x)]) (lenOf pd_31 rfl) rfl (by show 2 * 0 + _ ≤ _; exact Nat.le_of_eq rfl) (hb hby d34_32) (fun _ _ => ⟨rfl, e101, (by decide : 0 + 1 ≤ _), (by decide : 0 + 600 ≤ _)⟩)
  dsimp only [Pt.U, Pt.locs, Pt.cells, Pt.slots] at X102 l102 y102 z102 st102 hQ102
  obtain rfl : k102 = 1 := y102; obtain rfl : n102 = 600 := z102
  obtain ⟨b102, rfl, N102q, K102, zq102, A102⟩ := hQ102
  have N102 : Fr n0 L102 := by rw [l102]; exact Fr.app N101 N102q
  have ne_d_b102 : d ≠ b102 := Nat.ne_of_lt (Nat.lt_of_lt_of_le ED_e101.lt zq102)
  have ne_o_b102 : o ≠ b102 := Nat.ne_of_lt (Nat.lt_of_lt_of_le EO_e101.lt zq102)
  have ne_x_b102 : x ≠ b102 := Nat.ne_of_lt (Nat.lt_of_lt_of_le EX_e101.lt zq102)
  have g_b102 : n0 ≤ b102 := Nat.le_trans Z101 zq102
  have sz_b102 : h0.size ≤ b102 := Nat.le_trans K101.1 zq102
  have EO_e102 := EO_e101.keep K102
  have EX_e102 := EX_e101.keep K102
  have FXV_e102 := FXV_e101.keep K102 List.not_mem_nil
  have Fw101_e102 := Fw101.keep K102 List.not_mem_nil
  have ED_e102 := ED_e101.keep K102
  have FD_e102 := FD_e101.keep K102 List.not_mem_nil
  have KK102 := K101.trans K102 (fun x r => absurd r List.not_mem_nil)
  have Z102 : n0 ≤ T102.heap.size := Nat.le_trans Z101 K102.1
  have O102 := O101.keep K102 all0'
  obtain ⟨T103, h103, X103, e103, W103, st103⟩ := putF X102 hx hZ hown (host := "") (Or.inl (hwi hw 29 rfl)) Via.refl rfl FXV_e102 EX_e102 (Or.inr ⟨(hwi hw 30 rfl), rfl, hnm⟩) (hwi hw 2 rfl) (ty := (.array .byte)) (by decide) rfl rfl (g := (mkF m 35 #[.val (.ref x), .val (.ref o), .val .null, .val (.ref d), .val (.int (Int32.ofNat cap))] [(.ref b102), (.ref x)])) rfl rfl (hb hby d34_35)
  have Fw103 := FXV_e102.same W103
  have EO_e103 := EO_e102.wr W103
  have EX_e103 := EX_e102.wr W103
  have Fw101_e103 := Fw101_e102.other W103 (Or.inr (slot_ne (Or.inr (hwi hw 28 rfl)) (Or.inr (hwi hw 30 rfl)) (by decide) (t := .byte) (t' := (.array .byte)) (by decide) (by decide)))
  have ED_e103 := ED_e102.wr W103
  have FD_e103 := FD_e102.other W103 hdx
  have A102_e103 := A102.other W103 (Ne.symm ne_x_b102)
  have N103 := Fr.snoc X103 N102 g_x
  have K103 := KK102.wr W103 (Or.inl (List.mem_of_getElem? (i := 0) rfl))
  have Z103 : n0 ≤ h103.size := Nat.le_trans Z102 (Keep.of_wr W103).1
  have O103 := O102.wr W103 g_x
  obtain ⟨fs, hr, hrun, hended, hW, hsame⟩ := X103.leave (v := none) (fun _ => rfl)
  refine ⟨_, _, pre0 _ ?_, hrun, hended, _, _, rfl, ?_, ⟨_, rfl⟩, hW, hsame.mono (by decide) (by decide)⟩
  · show Steps p.tables e below (s₁.setTop (mkF m 0 #[.val (.ref x), .val (.ref o), .val .null, .unset, .unset] [])) _
    refine XS.aloadN X0.here hx rfl (hb hby d34_0) rfl rfl ?_
    show Steps p.tables e below (s₁.setTop (mkF m 1 #[.val (.ref x), .val (.ref o), .val .null, .unset, .unset] [(.ref x)])) _
    refine st97 _ ?_
    refine XS.aloadN X97.here hx rfl (hb hby d34_4) rfl rfl ?_
    show Steps p.tables e below (T97.setTop (mkF m 5 #[.val (.ref x), .val (.ref o), .val .null, .unset, .unset] [(.ref o)])) _
    refine st98.trans ?_
    refine XS.astoreN X98.here hx rfl (hb hby d34_8) rfl rfl (l' := #[.val (.ref x), .val (.ref o), .val .null, .val (.ref d), .unset]) rfl ?_
    refine XS.aloadN X98.here hx rfl (hb hby d34_9) rfl rfl ?_
    show Steps p.tables e below (T98.setTop (mkF m 10 #[.val (.ref x), .val (.ref o), .val .null, .val (.ref d), .unset] [(.ref o)])) _
    refine st99.trans ?_
    refine XS.istore X99.here hx rfl (hb hby d34_13) rfl (l' := #[.val (.ref x), .val (.ref o), .val .null, .val (.ref d), .val (.int (Int32.ofNat cnt))]) rfl ?_
    refine XS.aloadN X99.here hx rfl (hb hby d34_15) rfl rfl ?_
    show Steps p.tables e below (T99.setTop (mkF m 16 #[.val (.ref x), .val (.ref o), .val .null, .val (.ref d), .val (.int (Int32.ofNat cnt))] [(.ref o)])) _
    refine st100.trans ?_
    refine XS.ifNo X100.here hx rfl (hb hby d34_19) rfl ((if0 _ _).trans (feq (by decide : ¬ ((1 : Int32) = (0 : Int32)))).1) ?_
    refine XS.aloadN X100.here hx rfl (hb hby d34_22) rfl rfl ?_
    refine XS.iconst X100.here hx rfl (hb hby d34_23) ?_
    show Steps p.tables e below (T100.setTop (mkF m 24 #[.val (.ref x), .val (.ref o), .val .null, .val (.ref d), .val (.int (Int32.ofNat cnt))] [(.int (0 : Int32)), (.ref x)])) _
    refine st101 _ ?_
    refine XS.aloadN X101.here hx rfl (hb hby d34_27) rfl rfl ?_
    refine XS.aloadN X101.here hx rfl (hb hby d34_28) rfl rfl ?_
    refine XS.iconst X101.here hx rfl (hb hby d34_29) ?_
    refine XS.iload X101.here hx rfl (hb hby d34_30) rfl ?_
    show Steps p.tables e below (T101.setTop (mkF m 32 #[.val (.ref x), .val (.ref o), .val .null, .val (.ref d), .val (.int (Int32.ofNat cnt))] [(.int (Int32.ofNat cnt)), (.int (0 : Int32)), (.ref d), (.ref x)])) _
    rw [show (Int32.ofNat cnt) = (Int32.ofNat cap) from congrArg Int32.ofNat hcc]
    show Steps p.tables e below (T101.setTop (mkF m 32 #[.val (.ref x), .val (.ref o), .val .null, .val (.ref d), .val (.int (Int32.ofNat cap))] [(.int (Int32.ofNat cap)), (.int (0 : Int32)), (.ref d), (.ref x)])) _
    refine st102 _ ?_
    show Steps p.tables e below (T102.setTop (mkF m 35 #[.val (.ref x), .val (.ref o), .val .null, .val (.ref d), .val (.int (Int32.ofNat cap))] [(.ref b102), (.ref x)])) _
    refine st103 _ ?_
    refine XS.goto X103.here hx rfl (pc0 := 38) (pc' := 97) rfl (hb hby d34_38) (by decide) (by decide) ?_
    show Steps p.tables e below (T103.setTop (mkF m 97 #[.val (.ref x), .val (.ref o), .val .null, .val (.ref d), .val (.int (Int32.ofNat cap))] [])) _
    exact X103.returnOut hx Bd.returns (hb hby d34_97) hr
  · show QSF Z x cnt f h0 n0 _ T103.heap _
    exact ⟨rfl, N103, by rw [e103]; exact K103, by rw [e103]; exact ⟨⟨EX_e103, b102, Fw103, Fw101_e103, (by rw [hcc]; exact A102_e103.congr fun j hj => hag j (by omega))⟩, fun j hj => by rw [← hag j hj]; exact hft1 j (by omega)⟩⟩
set_option maxRecDepth 65536 in
set_option maxHeartbeats 40000000 in
theorem rmJ11 (l : Launch) (Z : State) (a0 : Array Value) (hw : ∀ d ∈ tables_1, d.before a0 Z = true) (ws : List Jvm.Cond) (x o d : Addr) (cap cnt : Nat) (f : Nat → Value)  (h0 : Heap) (n0 : Nat) (Z0 : n0 ≤ h0.size) (O : Old Z n0 h0) (SK : StrSta Z) (hcc : cnt = cap) (hcap : cap ≤ 600) (EX : Exa Z h0 x "java/lang/String") (FXV : Fld Z h0 x "java/lang/String" "value" "[B" .null) (FXC : Fld Z h0 x "java/lang/String" "coder" "B" (.int (0 : Int32))) (g_x : n0 ≤ x) (SB0 : SBd Z h0 o d cap cnt f)  :
    MetFree l (⟨"java/lang/String", "<init>", "(Ljava/lang/StringBuilder;)V"⟩ : MethodName) (head1 (Jvm.Cond.code (⟨"java/lang/String", "<init>", "(Ljava/lang/StringBuilder;)V"⟩ : MethodName) jdk_42_method_53_code 2 none :: ws) ({ frames := 4, cells := 1, slots := 600, locals := 112 } : Room)) (fun aa_ U_ => aa_ = #[(.ref x), (.ref o)] ∧ Z.Warmed39 U_.vm ∧ U_.heap = h0) (fun _ _ _ _ _ => True) (fun _ U_ o_ V_ => ∃ v_ L_, o_ = .returned v_ ∧ QSF Z x cnt f h0 n0 v_ V_.heap L_ ∧ FrameEnd U_ o_ V_ L_ ({ frames := 4, cells := 1, slots := 600, locals := 112 } : Room).cells ({ frames := 4, cells := 1, slots := 600, locals := 112 } : Room).slots) := by
  refine MetFree.of_bodySF (plainFor_of_name pn_33) hisR ?_
  intro p e s m args below meth c s₁ Bd hml0 hP hK
  obtain ⟨rfl, hZ, hh⟩ := hP
  have hx := Bd.exec
  have hby := Bd.bytes
  have hml : c.maxLocals = 2 := hml0
  have hown : s.vm.findClass "java/lang/String" = some m.cls := findClass_of_methodNamed Bd.named
  have hnm := (name_of_methodNamed Bd.named Bd.method).1
  have X0 : Stand p l e ({ frames := 4, cells := 1, slots := 600, locals := 112 } : Room) s m #[(.ref x), (.ref o)] below meth c s₁ [] 0 0 := Stand.of_body Bd
  have e0 : s₁.heap = h0 := by rw [← hh, Bd.state]; rfl
  have N0 := Fr.nil n0
  have pre0 : ∀ zz, Steps p.tables e below (s₁.setTop (mkF m 0 #[.val (.ref x), .val (.ref o)] [])) zz → Steps p.tables e below (s₁.setTop (entryFrame m #[(.ref x), (.ref o)] 2)) zz := fun zz kz_ => castTop (ef_33 m x o) kz_
  obtain ⟨_, _, ⟨T104, L104, k104, n104⟩, -, X104, ⟨Lc104, hQ104, l104, y104, z104⟩, st104⟩ := X0.specialBack hx (y := (⟨"java/lang/String", "<init>", "(Ljava/lang/AbstractStringBuilder;Ljava/lang/Void;)V"⟩ : MethodName)) rfl hown (mvT hZ (hwi hw 187 rfl)) (mvT hZ (hwi hw 188 rfl)) (mvT hZ (hwi hw 189 rfl)) (by decide) (backOf (W := 0) (rmJ41 l Z a0 hw [] x o d cap cnt f h0 n0 Z0 O SK hcc hcap EX FXV FXC g_x SB0) hZ (hwi hw 189 rfl) (hwi hw 3 rfl) (by decide) (by decide)) (g := (mkF m 3 #[.val (.ref x), .val (.ref o)] [.null, (.ref o), (.ref x)])) rfl (by rw [hml]; rfl) (Steps.refl _) (a := x) (argsL := [(.ref o), .null]) (rest := []) (lenOf pd_29 rfl) rfl (by show 2 * 0 + _ ≤ _; exact Nat.le_of_eq rfl) (hb hby d33_3) (fun _ _ => ⟨rfl, e0, (by decide : 0 + 1 ≤ _), (by decide : 0 + 600 ≤ _)⟩)
  dsimp only [Pt.U, Pt.locs, Pt.cells, Pt.slots] at X104 l104 y104 z104 st104 hQ104
  obtain rfl : k104 = 1 := y104; obtain rfl : n104 = 600 := z104
  obtain ⟨rfl, N104q, K104, S104⟩ := hQ104
  have N104 : Fr n0 L104 := by rw [l104]; exact Fr.app N0 N104q
  have EX_e104 := EX.keep K104
  have KK104 := (Keep.refl h0 [x]).trans K104 (fun x r => by cases List.mem_singleton.mp r; exact (Or.inl (List.mem_of_getElem? (i := 0) rfl)))
  have Z104 : n0 ≤ T104.heap.size := Nat.le_trans Z0 K104.1
  have O104 := O.keep K104 (all1 g_x)
  obtain ⟨fs, hr, hrun, hended, hW, hsame⟩ := X104.leave (v := none) (fun _ => rfl)
  refine ⟨_, _, pre0 _ ?_, hrun, hended, _, _, rfl, ?_, ⟨_, rfl⟩, hW, hsame.mono (by decide) (by decide)⟩
  · show Steps p.tables e below (s₁.setTop (mkF m 0 #[.val (.ref x), .val (.ref o)] [])) _
    refine XS.aloadN X0.here hx rfl (hb hby d33_0) rfl rfl ?_
    refine XS.aloadN X0.here hx rfl (hb hby d33_1) rfl rfl ?_
    refine XS.aconstNull X0.here hx rfl (hb hby d33_2) ?_
    show Steps p.tables e below (s₁.setTop (mkF m 3 #[.val (.ref x), .val (.ref o)] [.null, (.ref o), (.ref x)])) _
    refine st104.trans ?_
    show Steps p.tables e below (T104.setTop (mkF m 6 #[.val (.ref x), .val (.ref o)] [])) _
    exact X104.returnOut hx Bd.returns (hb hby d33_6) hr
  · show QSF Z x cnt f h0 n0 _ T104.heap _
    exact ⟨rfl, N104, K104, S104⟩
set_option maxRecDepth 65536 in
set_option maxHeartbeats 40000000 in
theorem rmTS1 (l : Launch) (Z : State) (a0 : Array Value) (hw : ∀ d ∈ tables_1, d.before a0 Z = true) (ws : List Jvm.Cond) (o d : Addr) (cap cnt : Nat) (f : Nat → Value)  (h0 : Heap) (n0 : Nat) (Z0 : n0 ≤ h0.size) (O : Old Z n0 h0) (SK : StrSta Z) (hcc : cnt = cap) (hcap : cap ≤ 600) (SB0 : SBd Z h0 o d cap cnt f)  :
    MetFree l (⟨"java/lang/StringBuilder", "toString", "()Ljava/lang/String;"⟩ : MethodName) (head1 (Jvm.Cond.code (⟨"java/lang/StringBuilder", "toString", "()Ljava/lang/String;"⟩ : MethodName) jdk_67_method_42_code 1 (some (.object "java/lang/String")) :: ws) ({ frames := 5, cells := 2, slots := 604, locals := 134 } : Room)) (fun aa_ U_ => aa_ = #[(.ref o)] ∧ Z.Warmed39 U_.vm ∧ U_.heap = h0) (fun _ _ _ _ _ => True) (fun _ U_ o_ V_ => ∃ v_ L_, o_ = .returned v_ ∧ QTS Z cnt f h0 n0 v_ V_.heap L_ ∧ FrameEnd U_ o_ V_ L_ ({ frames := 5, cells := 2, slots := 604, locals := 134 } : Room).cells ({ frames := 5, cells := 2, slots := 604, locals := 134 } : Room).slots) := by
  refine MetFree.of_bodySF (plainFor_of_name pn_32) hisR ?_
  intro p e s m args below meth c s₁ Bd hml0 hP hK
  obtain ⟨rfl, hZ, hh⟩ := hP
  have hx := Bd.exec
  have hby := Bd.bytes
  have hml : c.maxLocals = 1 := hml0
  have hown : s.vm.findClass "java/lang/StringBuilder" = some m.cls := findClass_of_methodNamed Bd.named
  have hnm := (name_of_methodNamed Bd.named Bd.method).1
  have X0 : Stand p l e ({ frames := 5, cells := 2, slots := 604, locals := 134 } : Room) s m #[(.ref o)] below meth c s₁ [] 0 0 := Stand.of_body Bd
  have e0 : s₁.heap = h0 := by rw [← hh, Bd.state]; rfl
  have N0 := Fr.nil n0
  have pre0 : ∀ zz, Steps p.tables e below (s₁.setTop (mkF m 0 #[.val (.ref o)] [])) zz → Steps p.tables e below (s₁.setTop (entryFrame m #[(.ref o)] 1)) zz := fun zz kz_ => castTop (ef_32 m o) kz_
  obtain ⟨T105, h105, X105, e105, E105, A105, D105, -, st105⟩ := newO X0 hx hZ hown (hwi hw 183 rfl) (hwi hw 2 rfl) (hwi hw 3 rfl) e0 (g := (mkF m 0 #[.val (.ref o)] [])) rfl (hb hby d32_0) (by decide) (by decide)
  obtain ⟨b105, g105⟩ : ∃ z, z = h0.size := ⟨_, rfl⟩
  rw [← g105] at A105 D105 st105
  have E_b105 := A105
  have g_b105 : n0 ≤ b105 := Nat.le_trans Z0 (Nat.le_of_eq g105.symm)
  have sz_b105 : h0.size ≤ b105 := Nat.le_trans (Keep.refl h0 []).1 (Nat.le_of_eq g105.symm)
  have K105 := (Keep.refl h0 []).ext E105
  have Z105 : n0 ≤ h105.size := Nat.le_trans Z0 E105.1
  have F_coder_b105 : Fld Z h105 b105 "java/lang/String" "coder" "B" (.int (0 : Int32)) := D105 (Or.inr (hwi hw 28 rfl)) (ty := .byte) (by decide)
  have F_value_b105 : Fld Z h105 b105 "java/lang/String" "value" "[B" .null := D105 (Or.inr (hwi hw 30 rfl)) (ty := (.array .byte)) (by decide)
  have F_hash_b105 : Fld Z h105 b105 "java/lang/String" "hash" "I" (.int (0 : Int32)) := D105 (Or.inl (hwi hw 41 rfl)) (ty := .int) (by decide)
  have F_hashIsZero_b105 : Fld Z h105 b105 "java/lang/String" "hashIsZero" "Z" (.int (0 : Int32)) := D105 (Or.inl (hwi hw 43 rfl)) (ty := .boolean) (by decide)
  have O105 := O.ext E105
  obtain ⟨_, _, ⟨T106, L106, k106, n106⟩, -, X106, ⟨Lc106, hQ106, l106, y106, z106⟩, st106⟩ := X105.specialBack hx (y := (⟨"java/lang/String", "<init>", "(Ljava/lang/StringBuilder;)V"⟩ : MethodName)) rfl hown (mvT hZ (hwi hw 184 rfl)) (mvT hZ (hwi hw 185 rfl)) (mvT hZ (hwi hw 186 rfl)) (by decide) (backOf (W := 1) (rmJ11 l Z a0 hw [] b105 o d cap cnt f h105 n0 Z105 O105 SK hcc hcap E_b105 F_value_b105 F_coder_b105 g_b105 (SB0.ext E105)) hZ (hwi hw 186 rfl) (hwi hw 3 rfl) (by decide) (by decide)) (g := (mkF m 5 #[.val (.ref o)] [(.ref o), (.ref b105), (.ref b105)])) rfl (by rw [hml]; rfl) (Steps.refl _) (a := b105) (argsL := [(.ref o)]) (rest := [(.ref b105)]) (lenOf pd_28 rfl) rfl (by show 2 * 0 + _ ≤ _; exact Nat.le_of_eq rfl) (hb hby d32_5) (fun _ _ => ⟨rfl, e105, (by decide : 1 + 1 ≤ _), (by decide : 4 + 600 ≤ _)⟩)
  dsimp only [Pt.U, Pt.locs, Pt.cells, Pt.slots] at X106 l106 y106 z106 st106 hQ106
  obtain rfl : k106 = 2 := y106; obtain rfl : n106 = 604 := z106
  obtain ⟨rfl, N106q, K106, S106⟩ := hQ106
  have N106 : Fr n0 L106 := by rw [l106]; exact Fr.app N0 N106q
  have KK106 := K105.trans K106 (fun x r => by cases List.mem_singleton.mp r; exact (Or.inr sz_b105))
  have Z106 : n0 ≤ T106.heap.size := Nat.le_trans Z105 K106.1
  have O106 := O105.keep K106 (all1 g_b105)
  obtain ⟨fs, hr, hrun, hended, hW, hsame⟩ := X106.leave (v := some (.ref b105)) (fun h => by rw [Bd.returns] at h; cases h)
  refine ⟨_, _, pre0 _ ?_, hrun, hended, _, _, rfl, ?_, ⟨_, rfl⟩, hW, hsame.mono (by decide) (by decide)⟩
  · show Steps p.tables e below (s₁.setTop (mkF m 0 #[.val (.ref o)] [])) _
    refine st105 _ ?_
    refine XS.dup X105.here hx rfl (hb hby d32_3) rfl rfl ?_
    refine XS.aloadN X105.here hx rfl (hb hby d32_4) rfl rfl ?_
    show Steps p.tables e below (T105.setTop (mkF m 5 #[.val (.ref o)] [(.ref o), (.ref b105), (.ref b105)])) _
    refine st106.trans ?_
    show Steps p.tables e below (T106.setTop (mkF m 8 #[.val (.ref o)] [(.ref b105)])) _
    jvm_step X106.here [X106.here.top, hx, (hb hby d32_8), X106.method', Bd.returns, Value.isRef, FieldType.isReference]
    first | (intro acts; rw [hr _ acts rfl rfl rfl]) | rw [hr _ _ rfl rfl rfl]
    exact Steps.refl _
  · show QTS Z cnt f h0 n0 _ T106.heap _
    exact ⟨b105, rfl, N106, KK106, S106⟩
section Chain
variable {p : Program} {l : Launch} {e : Env} {R : Room} {s : State} {m : MethodId} {args : Array Value} {below : List Frame} {meth : Method} {c : Code} {T : State} {locs : List Loc} {cells slots : Nat} {Z : State} {a0 : Array Value} {EL : List (String × Nat)} {vmS vm0 vm1 : Vm} {hS h0 H H' base : Heap} {ws : List Addr} {n0 k0 k1 : Nat} {o t d d' : Addr} {cap cnt n cap' cnt' : Nat} {f f' w : Nat → Value}
/-- what a chain of appends carries, the builder aside -/
def CE (Z : State) (EL : List (String × Nat)) (vmS : Vm) (hS : Heap) (vm0 : Vm) (h0 : Heap) (ws : List Addr) (n0 k0 : Nat) (base H : Heap) : Prop := Keep h0 H ws ∧ n0 ≤ H.size ∧ Old Z n0 H ∧ CHr Z EL vmS hS vm0 H ∧ Keep base H [] ∧ k0 ≤ H.size
def CB (Z : State) (EL : List (String × Nat)) (vmS : Vm) (hS : Heap) (vm0 : Vm) (h0 : Heap) (ws : List Addr) (n0 k0 : Nat) (base H : Heap) (o d : Addr) (cap cnt : Nat) (f : Nat → Value) : Prop := CE Z EL vmS hS vm0 h0 ws n0 k0 base H ∧ SBd Z H o d cap cnt f ∧ Safe Z EL vm0 H d ∧ (base.size ≤ d ∧ n0 ≤ d ∧ h0.size ≤ d) ∧ base.size ≤ o ∧ n0 ≤ o ∧ h0.size ≤ o
theorem CE.step {vs : List Addr} (B : CE Z EL vmS hS vm0 h0 ws n0 k0 base H) (K : Keep H H' vs) (hv : ∀ x ∈ vs, base.size ≤ x ∧ n0 ≤ x ∧ h0.size ≤ x) (sf : ∀ x ∈ vs, Safe Z EL vm0 H x) : CE Z EL vmS hS vm0 h0 ws n0 k0 base H' := by
  obtain ⟨b1, b2, b3, b4, b5, b6⟩ := B
  exact ⟨b1.trans K fun x r => Or.inr (hv x r).2.2, Nat.le_trans b2 K.1, b3.keep K fun x r => (hv x r).2.1, b4.trans (CHr.keep K sf b4.1), b5.trans K fun x r => Or.inr (hv x r).1, Nat.le_trans b6 K.1⟩
theorem CE.ge (B : CE Z EL vmS hS vm0 h0 ws n0 k0 base H) {x : Addr} (hx : H.size ≤ x) : base.size ≤ x ∧ n0 ≤ x ∧ h0.size ≤ x := ⟨Nat.le_trans B.2.2.2.2.1.1 hx, Nat.le_trans B.2.1 hx, Nat.le_trans B.1.1 hx⟩
theorem SBd.safe (S : SBd Z H o d cap cnt f) (hal : Z.vm.Alike vm0) : Safe Z EL vm0 H o := Safe.exa hal S.1 (by decide) (by decide)
theorem CB.appg (B : CB Z EL vmS hS vm0 h0 ws n0 k0 base H o d cap cnt f) (hal : Z.vm.Alike vm0) (K : Keep H H' [o]) (hd : H.size ≤ d') (S : SBd Z H' o d' cap' cnt' f') : CB Z EL vmS hS vm0 h0 ws n0 k0 base H' o d' cap' cnt' f' := by
  obtain ⟨b1, b2, b3, b4, b5⟩ := B
  have sf := safe1 (b2.safe hal (EL := EL))
  exact ⟨b1.step K (fun x r => (List.mem_singleton.mp r) ▸ b5) sf, S, Safe.keep K sf b1.2.2.2.1.1 (Safe.new hd), b1.ge hd, b5⟩
theorem CB.appf (B : CB Z EL vmS hS vm0 h0 ws n0 k0 base H o d cap cnt f) (hal : Z.vm.Alike vm0) (K : Keep H H' [o, d]) (S : SBd Z H' o d cap' cnt' f') : CB Z EL vmS hS vm0 h0 ws n0 k0 base H' o d cap' cnt' f' := by
  obtain ⟨b1, b2, b3, b4, b5⟩ := B
  have sf := safe2 (b2.safe hal (EL := EL)) b3
  exact ⟨b1.step K (fun x r => (List.mem_cons.mp r).elim (fun q => q ▸ b5) fun r => (List.mem_singleton.mp r) ▸ b4) sf, S, Safe.keep K sf b1.2.2.2.1.1 b3, b4, b5⟩
theorem CB.ldc (B : CB Z EL vmS hS vm0 h0 ws n0 k0 base H o d cap cnt f) (E : Ext H H') (C : CHr Z EL vm0 H vm1 H') (hk : k1 ≤ H'.size) : CB Z EL vmS hS vm1 h0 ws n0 k1 base H' o d cap cnt f := by
  obtain ⟨⟨b1, b2, b3, b4, b5, -⟩, s1, s2, s3⟩ := B
  exact ⟨⟨b1.ext E, Nat.le_trans b2 E.1, b3.ext E, b4.trans C, b5.ext E, hk⟩, s1.ext E, C.safe s1.2.2.2.2.1.lt s2, s3⟩
/-- new StringBuilder -/
theorem cNEW {own : String} {index : Nat} (X : Stand p l e R s m args below meth c T locs cells slots) (hx : p.tables.exec = Jvm.exec) (hZ : Z.Warmed39 s.vm) (hw : ∀ d ∈ tables_1, d.before a0 Z = true) (hown : s.vm.findClass own = some m.cls) (wl : (Cond.classLink own index "java/lang/StringBuilder").before a0 Z = true) (eT : T.heap = H)
    (K : Keep h0 H ws) (Zp : n0 ≤ H.size) (O : Old Z n0 H) (C : CHr Z EL vmS hS vm0 H) (hk : k0 ≤ H.size) {g : JFrame} (hg : g.method = m) (hd : decode c.code g.pc = .ok (.new index, 3)) (hr : cells + 1 ≤ R.cells ∧ slots + 4 ≤ R.slots) :
    ∃ T' o, Stand p l e R s m args below meth c T' locs (cells + 1) (slots + 4) ∧ CE Z EL vmS hS vm0 h0 ws n0 k0 H T'.heap ∧ (Exa Z T'.heap o "java/lang/StringBuilder" ∧ Fld Z T'.heap o "java/lang/AbstractStringBuilder" "value" "[B" .null ∧ Fld Z T'.heap o "java/lang/AbstractStringBuilder" "coder" "B" (.int (0 : Int32)) ∧ Fld Z T'.heap o "java/lang/AbstractStringBuilder" "count" "I" (.int (Int32.ofNat 0))) ∧ (H.size ≤ o ∧ n0 ≤ o ∧ h0.size ≤ o) ∧
      ∀ target, Steps p.tables e below (T'.setTop { g with pc := g.pc + 3, stack := .ref o :: g.stack }) target → Steps p.tables e below (T.setTop g) target := by
  obtain ⟨T', h', X', e', E', A', D', -, st⟩ := newO X hx hZ hown wl (hwi hw 91 rfl) (hwi hw 92 rfl) eT hg hd hr.1 hr.2
  subst e'
  exact ⟨T', _, X', ⟨K.ext E', Nat.le_trans Zp E'.1, O.ext E', C.trans (CHr.ext E' C.1), (Keep.refl _ []).ext E', Nat.le_trans hk E'.1⟩, ⟨A', D' (Or.inl (hwi hw 105 rfl)) (ty := .array .byte) (by decide), D' (Or.inl (hwi hw 107 rfl)) (ty := .byte) (by decide), D' (Or.inl (hwi hw 130 rfl)) (ty := .int) (by decide)⟩, ⟨Nat.le_refl _, Zp, K.1⟩, st⟩
/-- its constructor -/
theorem cSBI {own : String} {index : Nat} (X : Stand p l e R s m args below meth c T locs cells slots) (hx : p.tables.exec = Jvm.exec) (hZ : Z.Warmed39 s.vm) (hw : ∀ d ∈ tables_1, d.before a0 Z = true) (hown : s.vm.findClass own = some m.cls) (wl : (Cond.methodLink own index ⟨"java/lang/StringBuilder", "<init>", "()V"⟩).before a0 Z = true) (SK : StrSta Z) (N : Fr n0 locs) (hal : Z.vm.Alike vm0)
    (B : CE Z EL vmS hS vm0 h0 ws n0 k0 base T.heap) (F : Exa Z T.heap o "java/lang/StringBuilder" ∧ Fld Z T.heap o "java/lang/AbstractStringBuilder" "value" "[B" .null ∧ Fld Z T.heap o "java/lang/AbstractStringBuilder" "coder" "B" (.int (0 : Int32)) ∧ Fld Z T.heap o "java/lang/AbstractStringBuilder" "count" "I" (.int (Int32.ofNat 0))) (ho : base.size ≤ o ∧ n0 ≤ o ∧ h0.size ≤ o)
    {g : JFrame} (hg : g.method = m) (hsize : g.locals.size = c.maxLocals) {rest : List Value} (hs : g.stack = .ref o :: rest) {W : Nat} (hW : 2 * g.monitorRoom + (rest.map fun v => v.category).sum ≤ W) (hd : decode c.code g.pc = .ok (.invokespecial index, 3)) (hr : 3 ≤ R.frames ∧ W + (1 + 11) + 40 ≤ R.locals ∧ cells + 1 ≤ R.cells ∧ slots + 16 ≤ R.slots) :
    ∃ T' L' d, Stand p l e R s m args below meth c T' L' (cells + 1) (slots + 16) ∧ Fr n0 L' ∧ CB Z EL vmS hS vm0 h0 ws n0 k0 base T'.heap o d 16 0 z0 ∧
      ∀ target, Steps p.tables e below (T'.setTop { g with pc := g.pc + 3, stack := rest }) target → Steps p.tables e below (T.setTop g) target := by
  obtain ⟨_, _, ⟨T', L', k', n'⟩, -, X', ⟨Lc, hQ, l', y', z'⟩, st⟩ := X.specialBack hx (y := (⟨"java/lang/StringBuilder", "<init>", "()V"⟩ : MethodName)) rfl hown (mvT hZ wl) (mvT hZ (hwi hw 94 rfl)) (mvT hZ (hwi hw 95 rfl)) (by decide) (backOf (W := W) (rmSBI l Z a0 hw [] o z0 T.heap n0 B.2.1 B.2.2.1 SK F.1 F.2.1 F.2.2.1 F.2.2.2 ho.2.1) hZ (hwi hw 95 rfl) (hwi hw 92 rfl) hr.1 hr.2.1) hg hsize (Steps.refl _) (a := o) (argsL := []) (rest := rest) (lenOf pd_2 rfl) hs hW hd (fun _ _ => ⟨rfl, rfl, hr.2.2.1, hr.2.2.2⟩)
  dsimp only [Pt.U, Pt.locs, Pt.cells, Pt.slots] at X' l' y' z' st hQ
  obtain ⟨rfl, Nq, K, d, hd', S⟩ := hQ
  rw [y', z'] at X'
  have sf := safe1 (Safe.exa (EL := EL) hal F.1 (by decide) (by decide))
  exact ⟨T', L', d, X', by rw [l']; exact Fr.app N Nq, ⟨B.step K (fun x r => (List.mem_singleton.mp r) ▸ ho) sf, S, Safe.keep K sf B.2.2.2.1.1 (Safe.new hd'), B.ge hd', ho⟩, fun target kt => st.trans kt⟩
/-- append, the array as it is -/
theorem cAPf {own : String} {index : Nat} (X : Stand p l e R s m args below meth c T locs cells slots) (hx : p.tables.exec = Jvm.exec) (hZ : Z.Warmed39 s.vm) (hw : ∀ d ∈ tables_1, d.before a0 Z = true) (hown : s.vm.findClass own = some m.cls) (wl : (Cond.methodLink own index (⟨"java/lang/StringBuilder", "append", "(Ljava/lang/String;)Ljava/lang/StringBuilder;"⟩ : MethodName)).before a0 Z = true) (eT : T.heap = H) (SK : StrSta Z) (N : Fr n0 locs) (hal : Z.vm.Alike vm0)
    (B : CB Z EL vmS hS vm0 h0 ws n0 k0 base H o d cap cnt f) (S : StrF Z H t n w) (hq : cnt + n ≤ cap ∧ cap ≤ 600 ∧ n ≤ 600 ∧ cap = cap' ∧ cnt + n = cnt')
    {g : JFrame} (hg : g.method = m) (hsize : g.locals.size = c.maxLocals) {rest : List Value} (hs : g.stack = .ref t :: .ref o :: rest) {W : Nat} (hW : 2 * g.monitorRoom + (rest.map fun v => v.category).sum ≤ W) (hd : decode c.code g.pc = .ok (.invokevirtual index, 3)) (hr : 6 ≤ R.frames ∧ W + (2 + 11) + 116 ≤ R.locals ∧ cells + 0 ≤ R.cells ∧ slots + 0 ≤ R.slots) :
    ∃ T' L' d', Stand p l e R s m args below meth c T' L' (cells + 0) (slots + 0) ∧ Fr n0 L' ∧ CB Z EL vmS hS vm0 h0 ws n0 k0 base T'.heap o d' cap' cnt' (fC cnt f w) ∧
      ∀ target, Steps p.tables e below (T'.setTop { g with pc := g.pc + 3, stack := .ref o :: rest }) target → Steps p.tables e below (T.setTop g) target := by
  obtain ⟨q1, q2, q3, rfl, rfl⟩ := hq
  obtain ⟨cq, kq, qa, qb, qc⟩ := isOf hZ eT B.2.1.1
  obtain ⟨_, _, ⟨T', L', k', n'⟩, -, X', ⟨Lc, hQ, l', y', z'⟩, st⟩ := X.virtualBack hx (y := (⟨"java/lang/StringBuilder", "append", "(Ljava/lang/String;)Ljava/lang/StringBuilder;"⟩ : MethodName)) (z := (⟨"java/lang/StringBuilder", "append", "(Ljava/lang/String;)Ljava/lang/StringBuilder;"⟩ : MethodName)) hown (mvT hZ wl) (mvT hZ (hwi hw 110 rfl)) (notFace_of_selects (args := #[]) (mvT hZ (hwi hw 112 rfl))) (mvT hZ (hwi hw 112 rfl)) (mvT hZ (hwi hw 111 rfl)) (by decide) (backOf (W := W) (rmAPPf l Z a0 hw [] o t d cap cnt n f w H n0 B.1.2.1 B.1.2.2.1 SK q1 q2 B.2.2.2.2.2.1 B.2.2.2.1.2.1 q3 B.2.1 S) hZ (hwi hw 113 rfl) (hwi hw 92 rfl) hr.1 hr.2.1) qa qc hg hsize (Steps.refl _) (argsL := [.ref t]) (rest := rest) (lenOf pd_16 rfl) hs hW hd (fun _ _ => ⟨rfl, eT, hr.2.2.1, hr.2.2.2⟩)
  dsimp only [Pt.U, Pt.locs, Pt.cells, Pt.slots] at X' l' y' z' st hQ
  obtain ⟨rfl, Nq, K, S'⟩ := hQ
  rw [y', z'] at X'
  exact ⟨T', L', d, X', by rw [l']; exact Fr.app N Nq, B.appf hal K S', fun target kt => st.trans kt⟩
/-- append, the array grows -/
theorem cAPg {own : String} {index : Nat} (X : Stand p l e R s m args below meth c T locs cells slots) (hx : p.tables.exec = Jvm.exec) (hZ : Z.Warmed39 s.vm) (hw : ∀ d ∈ tables_1, d.before a0 Z = true) (hown : s.vm.findClass own = some m.cls) (wl : (Cond.methodLink own index (⟨"java/lang/StringBuilder", "append", "(Ljava/lang/String;)Ljava/lang/StringBuilder;"⟩ : MethodName)).before a0 Z = true) (eT : T.heap = H) (SK : StrSta Z) (N : Fr n0 locs) (hal : Z.vm.Alike vm0)
    (B : CB Z EL vmS hS vm0 h0 ws n0 k0 base H o d cap cnt f) (S : StrF Z H t n w) (hq : cap < cnt + n ∧ cnt + n ≤ 600 ∧ 2 * cap + 2 ≤ 600 ∧ cnt ≤ cap ∧ n ≤ 600 ∧ max (cnt + n) (2 * cap + 2) = cap' ∧ cnt + n = cnt')
    {g : JFrame} (hg : g.method = m) (hsize : g.locals.size = c.maxLocals) {rest : List Value} (hs : g.stack = .ref t :: .ref o :: rest) {W : Nat} (hW : 2 * g.monitorRoom + (rest.map fun v => v.category).sum ≤ W) (hd : decode c.code g.pc = .ok (.invokevirtual index, 3)) (hr : 6 ≤ R.frames ∧ W + (2 + 11) + 116 ≤ R.locals ∧ cells + 1 ≤ R.cells ∧ slots + 600 ≤ R.slots) :
    ∃ T' L' d', Stand p l e R s m args below meth c T' L' (cells + 1) (slots + 600) ∧ Fr n0 L' ∧ CB Z EL vmS hS vm0 h0 ws n0 k0 base T'.heap o d' cap' cnt' (fC cnt f w) ∧
      ∀ target, Steps p.tables e below (T'.setTop { g with pc := g.pc + 3, stack := .ref o :: rest }) target → Steps p.tables e below (T.setTop g) target := by
  obtain ⟨q1, q2, q3, q4, q5, rfl, rfl⟩ := hq
  obtain ⟨cq, kq, qa, qb, qc⟩ := isOf hZ eT B.2.1.1
  obtain ⟨_, _, ⟨T', L', k', n'⟩, -, X', ⟨Lc, hQ, l', y', z'⟩, st⟩ := X.virtualBack hx (y := (⟨"java/lang/StringBuilder", "append", "(Ljava/lang/String;)Ljava/lang/StringBuilder;"⟩ : MethodName)) (z := (⟨"java/lang/StringBuilder", "append", "(Ljava/lang/String;)Ljava/lang/StringBuilder;"⟩ : MethodName)) hown (mvT hZ wl) (mvT hZ (hwi hw 110 rfl)) (notFace_of_selects (args := #[]) (mvT hZ (hwi hw 112 rfl))) (mvT hZ (hwi hw 112 rfl)) (mvT hZ (hwi hw 111 rfl)) (by decide) (backOf (W := W) (rmAPPg l Z a0 hw [] o t d cap cnt n f w H n0 B.1.2.1 B.1.2.2.1 SK q1 q2 q3 q4 B.2.2.2.2.2.1 B.2.2.2.1.2.1 q5 B.2.1 S) hZ (hwi hw 113 rfl) (hwi hw 92 rfl) hr.1 hr.2.1) qa qc hg hsize (Steps.refl _) (argsL := [.ref t]) (rest := rest) (lenOf pd_16 rfl) hs hW hd (fun _ _ => ⟨rfl, eT, hr.2.2.1, hr.2.2.2⟩)
  dsimp only [Pt.U, Pt.locs, Pt.cells, Pt.slots] at X' l' y' z' st hQ
  obtain ⟨rfl, Nq, K, d', hd', S'⟩ := hQ
  rw [y', z'] at X'
  exact ⟨T', L', d', X', by rw [l']; exact Fr.app N Nq, B.appg hal K hd' S', fun target kt => st.trans kt⟩
/-- toString -/
theorem cTS {own : String} {index : Nat} (X : Stand p l e R s m args below meth c T locs cells slots) (hx : p.tables.exec = Jvm.exec) (hZ : Z.Warmed39 s.vm) (hw : ∀ d ∈ tables_1, d.before a0 Z = true) (hown : s.vm.findClass own = some m.cls) (wl : (Cond.methodLink own index (⟨"java/lang/StringBuilder", "toString", "()Ljava/lang/String;"⟩ : MethodName)).before a0 Z = true) (eT : T.heap = H) (SK : StrSta Z) (N : Fr n0 locs)
    (B : CB Z EL vmS hS vm0 h0 ws n0 k0 base H o d cap cnt f) (hq : cnt ≤ cap ∧ cap ≤ 600)
    {g : JFrame} (hg : g.method = m) (hsize : g.locals.size = c.maxLocals) {rest : List Value} (hs : g.stack = .ref o :: rest) {W : Nat} (hW : 2 * g.monitorRoom + (rest.map fun v => v.category).sum ≤ W) (hd : decode c.code g.pc = .ok (.invokevirtual index, 3)) (hr : 6 ≤ R.frames ∧ W + (1 + 11) + 134 ≤ R.locals ∧ cells + 2 ≤ R.cells ∧ slots + 604 ≤ R.slots) :
    ∃ T' L' x, Stand p l e R s m args below meth c T' L' (cells + 2) (slots + 604) ∧ Fr n0 L' ∧ CE Z EL vmS hS vm0 h0 ws n0 k0 base T'.heap ∧ StrF Z T'.heap x cnt f ∧
      ∀ target, Steps p.tables e below (T'.setTop { g with pc := g.pc + 3, stack := .ref x :: rest }) target → Steps p.tables e below (T.setTop g) target := by
  obtain ⟨cq, kq, qa, qb, qc⟩ := isOf hZ eT B.2.1.1
  have M : MetFree l (⟨"java/lang/StringBuilder", "toString", "()Ljava/lang/String;"⟩ : MethodName) (head1 [Cond.code (⟨"java/lang/StringBuilder", "toString", "()Ljava/lang/String;"⟩ : MethodName) jdk_67_method_42_code 1 (some (.object "java/lang/String"))] ({ frames := 5, cells := 2, slots := 604, locals := 134 } : Room)) (fun aa_ U_ => aa_ = #[(.ref o)] ∧ Z.Warmed39 U_.vm ∧ U_.heap = H) (fun _ _ _ _ _ => True) (fun _ U_ o_ V_ => ∃ v_ L_, o_ = .returned v_ ∧ QTS Z cnt f H n0 v_ V_.heap L_ ∧ FrameEnd U_ o_ V_ L_ 2 604) := by
    by_cases q : cnt = cap
    · exact rmTS1 l Z a0 hw [] o d cap cnt f H n0 B.1.2.1 B.1.2.2.1 SK q hq.2 B.2.1
    · exact rmTS0 l Z a0 hw [] o d cap cnt f H n0 B.1.2.1 B.1.2.2.1 SK (by omega) hq.2 B.2.1
  obtain ⟨_, _, ⟨T', L', k', n'⟩, -, X', ⟨Lc, hQ, l', y', z'⟩, st⟩ := X.virtualBack hx (y := (⟨"java/lang/StringBuilder", "toString", "()Ljava/lang/String;"⟩ : MethodName)) (z := (⟨"java/lang/StringBuilder", "toString", "()Ljava/lang/String;"⟩ : MethodName)) hown (mvT hZ wl) (mvT hZ (hwi hw 179 rfl)) (notFace_of_selects (args := #[]) (mvT hZ (hwi hw 181 rfl))) (mvT hZ (hwi hw 181 rfl)) (mvT hZ (hwi hw 180 rfl)) (by decide) (backOf (W := W) M hZ (hwi hw 182 rfl) (hwi hw 92 rfl) hr.1 hr.2.1) qa qc hg hsize (Steps.refl _) (argsL := []) (rest := rest) (lenOf pd_27 rfl) hs hW hd (fun _ _ => ⟨rfl, eT, hr.2.2.1, hr.2.2.2⟩)
  dsimp only [Pt.U, Pt.locs, Pt.cells, Pt.slots] at X' l' y' z' st hQ
  obtain ⟨x, rfl, Nq, K, S'⟩ := hQ
  rw [y', z'] at X'
  exact ⟨T', L', x, X', by rw [l']; exact Fr.app N Nq, B.1.step K (fun _ r => absurd r List.not_mem_nil) (fun _ r => absurd r List.not_mem_nil), S', fun target kt => st.trans kt⟩
end Chain
set_option maxRecDepth 65536 in
set_option maxHeartbeats 40000000 in
theorem rmC3X (l : Launch) (Z : State) (a0 : Array Value) (hw : ∀ d ∈ tables_1, d.before a0 Z = true) (ws : List Jvm.Cond) (a : Addr) (n : Nat) (g : Nat → Int32)  (h0 : Heap) (n0 : Nat) (Z0 : n0 ≤ h0.size) (hn : n ≤ 16) (O : Old Z n0 h0) (SK : StrSta Z) (FA : AF Z h0 a .char n (Ca g)) (hsm : ∀ j, j < n → ¬ ((255 : Int32) < g j))  :
    MetFree l (⟨"java/lang/StringUTF16", "compress", "([CII)[B"⟩ : MethodName) (head1 (Jvm.Cond.code (⟨"java/lang/StringUTF16", "compress", "([CII)[B"⟩ : MethodName) jdk_52_method_16_code 6 (some (.array .byte)) :: ws) ({ frames := 3, cells := 1, slots := 16, locals := 60 } : Room)) (fun aa_ U_ => aa_ = #[(.ref a), (.int (0 : Int32)), (.int (Int32.ofNat n))] ∧ Z.Warmed39 U_.vm ∧ U_.heap = h0) (fun _ _ _ _ _ => True) (fun _ U_ o_ V_ => ∃ v_ L_, o_ = .returned v_ ∧ QAx Z n (Lb g) h0 n0 v_ V_.heap L_ ∧ FrameEnd U_ o_ V_ L_ ({ frames := 3, cells := 1, slots := 16, locals := 60 } : Room).cells ({ frames := 3, cells := 1, slots := 16, locals := 60 } : Room).slots) := by
  refine MetFree.of_bodySF (plainFor_of_name pn_4) hisR ?_
  intro p e s m args below meth c s₁ Bd hml0 hP hK
  obtain ⟨rfl, hZ, hh⟩ := hP
  have hx := Bd.exec
  have hby := Bd.bytes
  have hml : c.maxLocals = 6 := hml0
  have hown : s.vm.findClass "java/lang/StringUTF16" = some m.cls := findClass_of_methodNamed Bd.named
  have hnm := (name_of_methodNamed Bd.named Bd.method).1
  have X0 : Stand p l e ({ frames := 3, cells := 1, slots := 16, locals := 60 } : Room) s m #[(.ref a), (.int (0 : Int32)), (.int (Int32.ofNat n))] below meth c s₁ [] 0 0 := Stand.of_body Bd
  have e0 : s₁.heap = h0 := by rw [← hh, Bd.state]; rfl
  have N0 := Fr.nil n0
  have pre0 : ∀ zz, Steps p.tables e below (s₁.setTop (mkF m 0 #[.val (.ref a), .val (.int (0 : Int32)), .val (.int (Int32.ofNat n)), .unset, .unset, .unset] [])) zz → Steps p.tables e below (s₁.setTop (entryFrame m #[(.ref a), (.int (0 : Int32)), (.int (Int32.ofNat n))] 6)) zz := fun zz kz_ => castTop (ef_4 m a (0 : Int32) (Int32.ofNat n)) kz_
  obtain ⟨T107, h107, X107, e107, E107, A107, B107, st107⟩ := nwB X0 hx hZ (hwi hw 20 rfl) e0 (g := (mkF m 1 #[.val (.ref a), .val (.int (0 : Int32)), .val (.int (Int32.ofNat n)), .unset, .unset, .unset] [(.int (Int32.ofNat n))])) rfl (hb hby d4_1) (n := n) rfl (cap := 16) (by omega) (by decide) (by decide) (by decide)
  obtain ⟨b107, q107⟩ : ∃ z, z = h0.size := ⟨_, rfl⟩
  rw [← q107] at A107 B107 st107
  have g_b107 : n0 ≤ b107 := Nat.le_trans Z0 (Nat.le_of_eq q107.symm)
  have sz_b107 : h0.size ≤ b107 := Nat.le_trans (Keep.refl h0 []).1 (Nat.le_of_eq q107.symm)
  have K107 := (Keep.refl h0 []).ext E107
  have Z107 : n0 ≤ h107.size := Nat.le_trans Z0 E107.1
  have ne_a_b107 : a ≠ b107 := Nat.ne_of_lt (Nat.lt_of_lt_of_le FA.lt (Nat.le_of_eq q107.symm))
  have FA_e107 := FA.ext E107
  have O107 := O.ext E107
  obtain ⟨_, _, ⟨T108, L108, k108, n108⟩, -, X108, ⟨Lc108, hQ108, l108, y108, z108⟩, st108⟩ := Jvm.LawKit.callS X107 hx (y := (⟨"java/lang/StringUTF16", "compress", "([CI[BII)I"⟩ : MethodName)) hown (mvT hZ (hwi hw 21 rfl)) (mvT hZ (hwi hw 22 rfl)) (mvT hZ (hwi hw 18 rfl)) (mvT hZ (hwi hw 23 rfl)) (by decide) (backOf (W := 0) (rmC5A l Z a0 hw [] a b107 n g (fun _ => (.int (0 : Int32))) h107 n0 Z107 (by omega) FA_e107 A107 ne_a_b107 g_b107 hsm) hZ (hwi hw 23 rfl) (hwi hw 18 rfl) (by decide) (by decide)) (g := (mkF m 9 #[.val (.ref a), .val (.int (0 : Int32)), .val (.int (Int32.ofNat n)), .val (.ref b107), .unset, .unset] [(.int (Int32.ofNat n)), (.int (0 : Int32)), (.ref b107), (.int (0 : Int32)), (.ref a)])) rfl (by rw [hml]; rfl) (argsL := [(.ref a), (.int (0 : Int32)), (.ref b107), (.int (0 : Int32)), (.int (Int32.ofNat n))]) (rest := []) (lenOf pd_4 rfl) rfl (by show 2 * 0 + _ ≤ _; exact Nat.le_of_eq rfl) (hb hby d4_9) (fun _ _ => ⟨rfl, e107, (by decide : 1 + 0 ≤ _), (by decide : 16 + 0 ≤ _)⟩)
  dsimp only [Pt.U, Pt.locs, Pt.cells, Pt.slots] at X108 l108 y108 z108 st108 hQ108
  obtain rfl : k108 = 1 := y108; obtain rfl : n108 = 16 := z108
  obtain ⟨rfl, N108q, K108, f108, A108, hf108⟩ := hQ108
  have N108 : Fr n0 L108 := by rw [l108]; exact Fr.app N0 N108q
  have FA_e108 := FA_e107.keep K108 (notin1 ne_a_b107)
  have B107_e108 := B107.keep K108
  have KK108 := K107.trans K108 (fun x r => by cases List.mem_singleton.mp r; exact (Or.inr sz_b107))
  have Z108 : n0 ≤ T108.heap.size := Nat.le_trans Z107 K108.1
  have O108 := O107.keep K108 (all1 g_b107)
  obtain ⟨fs, hr, hrun, hended, hW, hsame⟩ := X108.leave (v := some (.ref b107)) (fun h => by rw [Bd.returns] at h; cases h)
  refine ⟨_, _, pre0 _ ?_, hrun, hended, _, _, rfl, ?_, ⟨_, rfl⟩, hW, hsame.mono (by decide) (by decide)⟩
  · show Steps p.tables e below (s₁.setTop (mkF m 0 #[.val (.ref a), .val (.int (0 : Int32)), .val (.int (Int32.ofNat n)), .unset, .unset, .unset] [])) _
    refine XS.iloadN X0.here hx rfl (hb hby d4_0) rfl ?_
    show Steps p.tables e below (s₁.setTop (mkF m 1 #[.val (.ref a), .val (.int (0 : Int32)), .val (.int (Int32.ofNat n)), .unset, .unset, .unset] [(.int (Int32.ofNat n))])) _
    refine st107 _ ?_
    refine XS.astoreN X107.here hx rfl (hb hby d4_3) rfl rfl (l' := #[.val (.ref a), .val (.int (0 : Int32)), .val (.int (Int32.ofNat n)), .val (.ref b107), .unset, .unset]) rfl ?_
    refine XS.aloadN X107.here hx rfl (hb hby d4_4) rfl rfl ?_
    refine XS.iloadN X107.here hx rfl (hb hby d4_5) rfl ?_
    refine XS.aloadN X107.here hx rfl (hb hby d4_6) rfl rfl ?_
    refine XS.iconst X107.here hx rfl (hb hby d4_7) ?_
    show Steps p.tables e below (T107.setTop (mkF m 8 #[.val (.ref a), .val (.int (0 : Int32)), .val (.int (Int32.ofNat n)), .val (.ref b107), .unset, .unset] [(.int (0 : Int32)), (.ref b107), (.int (0 : Int32)), (.ref a)])) _
    refine XS.iloadN X107.here hx rfl (hb hby d4_8) rfl ?_
    show Steps p.tables e below (T107.setTop (mkF m 9 #[.val (.ref a), .val (.int (0 : Int32)), .val (.int (Int32.ofNat n)), .val (.ref b107), .unset, .unset] [(.int (Int32.ofNat n)), (.int (0 : Int32)), (.ref b107), (.int (0 : Int32)), (.ref a)])) _
    refine st108 _ ?_
    refine XS.istore X108.here hx rfl (hb hby d4_12) rfl (l' := #[.val (.ref a), .val (.int (0 : Int32)), .val (.int (Int32.ofNat n)), .val (.ref b107), .val (.int (Int32.ofNat n)), .unset]) rfl ?_
    refine XS.iload X108.here hx rfl (hb hby d4_14) rfl ?_
    refine XS.iloadN X108.here hx rfl (hb hby d4_16) rfl ?_
    refine XS.icmpYes X108.here hx rfl (pc0 := 17) (pc' := 57) rfl (hb hby d4_17) rfl (teq (rfl : (Int32.ofNat n) = (Int32.ofNat n))).1 (by decide) (by decide) ?_
    refine XS.aloadN X108.here hx rfl (hb hby d4_57) rfl rfl ?_
    show Steps p.tables e below (T108.setTop (mkF m 58 #[.val (.ref a), .val (.int (0 : Int32)), .val (.int (Int32.ofNat n)), .val (.ref b107), .val (.int (Int32.ofNat n)), .unset] [(.ref b107)])) _
    jvm_step X108.here [X108.here.top, hx, (hb hby d4_58), X108.method', Bd.returns, Value.isRef, FieldType.isReference]
    first | (intro acts; rw [hr _ acts rfl rfl rfl]) | rw [hr _ _ rfl rfl rfl]
    exact Steps.refl _
  · show QAx Z n (Lb g) h0 n0 _ T108.heap _
    exact ⟨b107, rfl, N108, KK108, sz_b107, A108.congr hf108, B107_e108⟩
set_option maxRecDepth 65536 in
set_option maxHeartbeats 40000000 in
theorem rmI4X (l : Launch) (Z : State) (a0 : Array Value) (hw : ∀ d ∈ tables_1, d.before a0 Z = true) (ws : List Jvm.Cond) (o a : Addr) (n : Nat) (g : Nat → Int32)  (h0 : Heap) (n0 : Nat) (Z0 : n0 ≤ h0.size) (hn : n ≤ 16) (hp : 0 < n) (O : Old Z n0 h0) (SK : StrSta Z) (FA : AF Z h0 a .char n (Ca g)) (EO : Exa Z h0 o "java/lang/String") (FV : Fld Z h0 o "java/lang/String" "value" "[B" .null) (FC : Fld Z h0 o "java/lang/String" "coder" "B" (.int (0 : Int32))) (FH : Fld Z h0 o "java/lang/String" "hash" "I" (.int (0 : Int32))) (FZ : Fld Z h0 o "java/lang/String" "hashIsZero" "Z" (.int (0 : Int32))) (g_o : n0 ≤ o) (hao : a ≠ o) (hsm : ∀ j, j < n → ¬ ((255 : Int32) < g j))  :
    MetFree l (⟨"java/lang/String", "<init>", "([CIILjava/lang/Void;)V"⟩ : MethodName) (head1 (Jvm.Cond.code (⟨"java/lang/String", "<init>", "([CIILjava/lang/Void;)V"⟩ : MethodName) jdk_42_method_149_code 6 none :: ws) ({ frames := 4, cells := 1, slots := 16, locals := 100 } : Room)) (fun aa_ U_ => aa_ = #[(.ref o), (.ref a), (.int (0 : Int32)), (.int (Int32.ofNat n)), .null] ∧ Z.Warmed39 U_.vm ∧ U_.heap = h0) (fun _ _ _ _ _ => True) (fun _ U_ o_ V_ => ∃ v_ L_, o_ = .returned v_ ∧ QSx Z o n g h0 n0 v_ V_.heap L_ ∧ FrameEnd U_ o_ V_ L_ ({ frames := 4, cells := 1, slots := 16, locals := 100 } : Room).cells ({ frames := 4, cells := 1, slots := 16, locals := 100 } : Room).slots) := by
  refine MetFree.of_bodySF (plainFor_of_name pn_2) hisR ?_
  intro p e s m args below meth c s₁ Bd hml0 hP hK
  obtain ⟨rfl, hZ, hh⟩ := hP
  have hx := Bd.exec
  have hby := Bd.bytes
  have hml : c.maxLocals = 6 := hml0
  have hown : s.vm.findClass "java/lang/String" = some m.cls := findClass_of_methodNamed Bd.named
  have hnm := (name_of_methodNamed Bd.named Bd.method).1
  have X0 : Stand p l e ({ frames := 4, cells := 1, slots := 16, locals := 100 } : Room) s m #[(.ref o), (.ref a), (.int (0 : Int32)), (.int (Int32.ofNat n)), .null] below meth c s₁ [] 0 0 := Stand.of_body Bd
  have e0 : s₁.heap = h0 := by rw [← hh, Bd.state]; rfl
  have N0 := Fr.nil n0
  have pre0 : ∀ zz, Steps p.tables e below (s₁.setTop (mkF m 0 #[.val (.ref o), .val (.ref a), .val (.int (0 : Int32)), .val (.int (Int32.ofNat n)), .val .null, .unset] [])) zz → Steps p.tables e below (s₁.setTop (entryFrame m #[(.ref o), (.ref a), (.int (0 : Int32)), (.int (Int32.ofNat n)), .null] 6)) zz := fun zz kz_ => castTop (ef_2 m o a (0 : Int32) (Int32.ofNat n)) kz_
  obtain ⟨kc, hkc, hcs⟩ := SK.1
  obtain ⟨T109, X109, e109, st109⟩ := initO X0 hx hZ hown (hwi hw 12 rfl) (hwi hw 13 rfl) (hwi hw 14 rfl) e0 (g := (mkF m 1 #[.val (.ref o), .val (.ref a), .val (.int (0 : Int32)), .val (.int (Int32.ofNat n)), .val .null, .unset] [(.ref o)])) rfl (by rw [hml]; rfl) rfl (hb hby d2_1) (by decide) (W := 0) (by show 2 * 0 + _ ≤ _; exact Nat.le_of_eq rfl) (by decide)
  obtain ⟨T110, X110, e110, st110⟩ := getS2 X109 hx hZ hown (host := "") (Or.inl (hwi hw 15 rfl)) Via.refl e109 (Sta.ext O.2 hcs) (g := (mkF m 27 #[.val (.ref o), .val (.ref a), .val (.int (0 : Int32)), .val (.int (Int32.ofNat n)), .val .null, .unset] [])) rfl (hb hby d2_27)
  obtain ⟨_, _, ⟨T111, L111, k111, n111⟩, -, X111, ⟨Lc111, hQ111, l111, y111, z111⟩, st111⟩ := Jvm.LawKit.callS X110 hx (y := (⟨"java/lang/StringUTF16", "compress", "([CII)[B"⟩ : MethodName)) hown (mvT hZ (hwi hw 16 rfl)) (mvT hZ (hwi hw 17 rfl)) (mvT hZ (hwi hw 18 rfl)) (mvT hZ (hwi hw 19 rfl)) (by decide) (backOf (W := 0) (rmC3X l Z a0 hw [] a n g h0 n0 Z0 hn O SK FA hsm) hZ (hwi hw 19 rfl) (hwi hw 18 rfl) (by decide) (by decide)) (g := (mkF m 36 #[.val (.ref o), .val (.ref a), .val (.int (0 : Int32)), .val (.int (Int32.ofNat n)), .val .null, .unset] [(.int (Int32.ofNat n)), (.int (0 : Int32)), (.ref a)])) rfl (by rw [hml]; rfl) (argsL := [(.ref a), (.int (0 : Int32)), (.int (Int32.ofNat n))]) (rest := []) (lenOf pd_3 rfl) rfl (by show 2 * 0 + _ ≤ _; exact Nat.le_of_eq rfl) (hb hby d2_36) (fun _ _ => ⟨rfl, e110, (by decide : 0 + 1 ≤ _), (by decide : 0 + 16 ≤ _)⟩)
  dsimp only [Pt.U, Pt.locs, Pt.cells, Pt.slots] at X111 l111 y111 z111 st111 hQ111
  obtain rfl : k111 = 1 := y111; obtain rfl : n111 = 16 := z111
  obtain ⟨b111, rfl, N111q, K111, zq111, A111, B111⟩ := hQ111
  have N111 : Fr n0 L111 := by rw [l111]; exact Fr.app N0 N111q
  have ne_a_b111 : a ≠ b111 := Nat.ne_of_lt (Nat.lt_of_lt_of_le FA.lt zq111)
  have ne_o_b111 : o ≠ b111 := Nat.ne_of_lt (Nat.lt_of_lt_of_le EO.lt zq111)
  have g_b111 : n0 ≤ b111 := Nat.le_trans Z0 zq111
  have sz_b111 : h0.size ≤ b111 := Nat.le_trans (Keep.refl h0 [o]).1 zq111
  have EO_e111 := EO.keep K111
  have FV_e111 := FV.keep K111 List.not_mem_nil
  have FC_e111 := FC.keep K111 List.not_mem_nil
  have FH_e111 := FH.keep K111 List.not_mem_nil
  have FZ_e111 := FZ.keep K111 List.not_mem_nil
  have FA_e111 := FA.keep K111 List.not_mem_nil
  have KK111 := (Keep.refl h0 [o]).trans K111 (fun x r => absurd r List.not_mem_nil)
  have Z111 : n0 ≤ T111.heap.size := Nat.le_trans Z0 K111.1
  have O111 := O.keep K111 all0'
  obtain ⟨_, _, ⟨T112, L112, k112, n112⟩, -, X112, ⟨Lc112, hQ112, l112, y112, z112⟩, st112⟩ := Jvm.LawKit.callS X111 hx (y := (⟨"java/lang/StringUTF16", "coderFromArrayLen", "([BI)B"⟩ : MethodName)) hown (mvT hZ (hwi hw 24 rfl)) (mvT hZ (hwi hw 25 rfl)) (mvT hZ (hwi hw 18 rfl)) (mvT hZ (hwi hw 26 rfl)) (by decide) (backOf (W := 1) (rmCOA l Z a0 hw [] b111 n (Lb g) T111.heap n0 Z111 (by omega) A111) hZ (hwi hw 26 rfl) (hwi hw 18 rfl) (by decide) (by decide)) (g := (mkF m 45 #[.val (.ref o), .val (.ref a), .val (.int (0 : Int32)), .val (.int (Int32.ofNat n)), .val .null, .val (.ref b111)] [(.int (Int32.ofNat n)), (.ref b111), (.ref o)])) rfl (by rw [hml]; rfl) (argsL := [(.ref b111), (.int (Int32.ofNat n))]) (rest := [(.ref o)]) (lenOf pd_5 rfl) rfl (by show 2 * 0 + _ ≤ _; exact Nat.le_of_eq rfl) (hb hby d2_45) (fun _ _ => ⟨rfl, rfl, (by decide : 1 + 0 ≤ _), (by decide : 16 + 0 ≤ _)⟩)
  dsimp only [Pt.U, Pt.locs, Pt.cells, Pt.slots] at X112 l112 y112 z112 st112 hQ112
  obtain rfl : k112 = 1 := y112; obtain rfl : n112 = 16 := z112
  obtain ⟨rfl, N112q, e112⟩ := hQ112
  have N112 : Fr n0 L112 := by rw [l112]; exact Fr.app N111 N112q
  obtain ⟨T113, h113, X113, e113, W113, st113⟩ := putFN X112 hx hZ hown (hwi hw 27 rfl) Via.refl e112 FC_e111 EO_e111 (Or.inr ⟨(hwi hw 28 rfl), rfl, hnm⟩) (hwi hw 2 rfl) (ty := .byte) (v' := (.int (0 : Int32))) (by decide) rfl (by decide) (g := (mkF m 48 #[.val (.ref o), .val (.ref a), .val (.int (0 : Int32)), .val (.int (Int32.ofNat n)), .val .null, .val (.ref b111)] [(.int (0 : Int32)), (.ref o)])) rfl rfl (hb hby d2_48)
  have Fw113 := FC_e111.same W113
  have EO_e113 := EO_e111.wr W113
  have FV_e113 := FV_e111.other W113 (Or.inr (slot_ne (Or.inr (hwi hw 30 rfl)) (Or.inr (hwi hw 28 rfl)) (by decide) (t := (.array .byte)) (t' := .byte) (by decide) (by decide)))
  have FH_e113 := FH_e111.other W113 (Or.inr (slot_ne (Or.inl (hwi hw 41 rfl)) (Or.inr (hwi hw 28 rfl)) (by decide) (t := .int) (t' := .byte) (by decide) (by decide)))
  have FZ_e113 := FZ_e111.other W113 (Or.inr (slot_ne (Or.inl (hwi hw 43 rfl)) (Or.inr (hwi hw 28 rfl)) (by decide) (t := .boolean) (t' := .byte) (by decide) (by decide)))
  have FA_e113 := FA_e111.other W113 hao
  have A111_e113 := A111.other W113 (Ne.symm ne_o_b111)
  have B111_e113 := B111.wr W113
  have N113 := Fr.snoc X113 N112 g_o
  have K113 := KK111.wr W113 (Or.inl (List.mem_of_getElem? (i := 0) rfl))
  have Z113 : n0 ≤ h113.size := Nat.le_trans Z111 (Keep.of_wr W113).1
  have O113 := O111.wr W113 g_o
  obtain ⟨T114, h114, X114, e114, W114, st114⟩ := putF X113 hx hZ hown (host := "") (Or.inl (hwi hw 29 rfl)) Via.refl e113 FV_e113 EO_e113 (Or.inr ⟨(hwi hw 30 rfl), rfl, hnm⟩) (hwi hw 2 rfl) (ty := (.array .byte)) (by decide) rfl rfl (g := (mkF m 54 #[.val (.ref o), .val (.ref a), .val (.int (0 : Int32)), .val (.int (Int32.ofNat n)), .val .null, .val (.ref b111)] [(.ref b111), (.ref o)])) rfl rfl (hb hby d2_54)
  have Fw114 := FV_e113.same W114
  have EO_e114 := EO_e113.wr W114
  have Fw113_e114 := Fw113.other W114 (Or.inr (slot_ne (Or.inr (hwi hw 28 rfl)) (Or.inr (hwi hw 30 rfl)) (by decide) (t := .byte) (t' := (.array .byte)) (by decide) (by decide)))
  have FH_e114 := FH_e113.other W114 (Or.inr (slot_ne (Or.inl (hwi hw 41 rfl)) (Or.inr (hwi hw 30 rfl)) (by decide) (t := .int) (t' := (.array .byte)) (by decide) (by decide)))
  have FZ_e114 := FZ_e113.other W114 (Or.inr (slot_ne (Or.inl (hwi hw 43 rfl)) (Or.inr (hwi hw 30 rfl)) (by decide) (t := .boolean) (t' := (.array .byte)) (by decide) (by decide)))
  have FA_e114 := FA_e113.other W114 hao
  have A111_e114 := A111_e113.other W114 (Ne.symm ne_o_b111)
  have B111_e114 := B111_e113.wr W114
  have N114 := Fr.snoc X114 N113 g_o
  have K114 := K113.wr W114 (Or.inl (List.mem_of_getElem? (i := 0) rfl))
  have Z114 : n0 ≤ h114.size := Nat.le_trans Z113 (Keep.of_wr W114).1
  have O114 := O113.wr W114 g_o
  obtain ⟨fs, hr, hrun, hended, hW, hsame⟩ := X114.leave (v := none) (fun _ => rfl)
  refine ⟨_, _, pre0 _ ?_, hrun, hended, _, _, rfl, ?_, ⟨_, rfl⟩, hW, hsame.mono (by decide) (by decide)⟩
  · show Steps p.tables e below (s₁.setTop (mkF m 0 #[.val (.ref o), .val (.ref a), .val (.int (0 : Int32)), .val (.int (Int32.ofNat n)), .val .null, .unset] [])) _
    refine XS.aloadN X0.here hx rfl (hb hby d2_0) rfl rfl ?_
    show Steps p.tables e below (s₁.setTop (mkF m 1 #[.val (.ref o), .val (.ref a), .val (.int (0 : Int32)), .val (.int (Int32.ofNat n)), .val .null, .unset] [(.ref o)])) _
    refine st109 _ ?_
    refine XS.iloadN X109.here hx rfl (hb hby d2_4) rfl ?_
    refine XS.ifYes X109.here hx rfl (pc0 := 5) (pc' := 27) rfl (hb hby d2_5) rfl ((if0 _ _).trans (feq (neN (m := 0) (by omega) (by omega) (by omega))).2) (by decide) (by decide) ?_
    show Steps p.tables e below (T109.setTop (mkF m 27 #[.val (.ref o), .val (.ref a), .val (.int (0 : Int32)), .val (.int (Int32.ofNat n)), .val .null, .unset] [])) _
    refine st110 _ ?_
    refine XS.ifNo X110.here hx rfl (hb hby d2_30) rfl ((if0 _ _).trans (feq hkc).1) ?_
    refine XS.aloadN X110.here hx rfl (hb hby d2_33) rfl rfl ?_
    refine XS.iloadN X110.here hx rfl (hb hby d2_34) rfl ?_
    refine XS.iloadN X110.here hx rfl (hb hby d2_35) rfl ?_
    show Steps p.tables e below (T110.setTop (mkF m 36 #[.val (.ref o), .val (.ref a), .val (.int (0 : Int32)), .val (.int (Int32.ofNat n)), .val .null, .unset] [(.int (Int32.ofNat n)), (.int (0 : Int32)), (.ref a)])) _
    refine st111 _ ?_
    refine XS.astore X111.here hx rfl (hb hby d2_39) rfl rfl (l' := #[.val (.ref o), .val (.ref a), .val (.int (0 : Int32)), .val (.int (Int32.ofNat n)), .val .null, .val (.ref b111)]) rfl ?_
    refine XS.aloadN X111.here hx rfl (hb hby d2_41) rfl rfl ?_
    refine XS.aload X111.here hx rfl (hb hby d2_42) rfl rfl ?_
    refine XS.iloadN X111.here hx rfl (hb hby d2_44) rfl ?_
    show Steps p.tables e below (T111.setTop (mkF m 45 #[.val (.ref o), .val (.ref a), .val (.int (0 : Int32)), .val (.int (Int32.ofNat n)), .val .null, .val (.ref b111)] [(.int (Int32.ofNat n)), (.ref b111), (.ref o)])) _
    refine st112 _ ?_
    show Steps p.tables e below (T112.setTop (mkF m 48 #[.val (.ref o), .val (.ref a), .val (.int (0 : Int32)), .val (.int (Int32.ofNat n)), .val .null, .val (.ref b111)] [(.int (0 : Int32)), (.ref o)])) _
    refine st113 _ ?_
    refine XS.aloadN X113.here hx rfl (hb hby d2_51) rfl rfl ?_
    refine XS.aload X113.here hx rfl (hb hby d2_52) rfl rfl ?_
    show Steps p.tables e below (T113.setTop (mkF m 54 #[.val (.ref o), .val (.ref a), .val (.int (0 : Int32)), .val (.int (Int32.ofNat n)), .val .null, .val (.ref b111)] [(.ref b111), (.ref o)])) _
    refine st114 _ ?_
    show Steps p.tables e below (T114.setTop (mkF m 57 #[.val (.ref o), .val (.ref a), .val (.int (0 : Int32)), .val (.int (Int32.ofNat n)), .val .null, .val (.ref b111)] [])) _
    exact X114.returnOut hx Bd.returns (hb hby d2_57) hr
  · show QSx Z o n g h0 n0 _ T114.heap _
    exact ⟨rfl, N114, by rw [e114]; exact K114, by rw [e114]; exact ⟨EO_e114, b111, Fw114, Fw113_e114, A111_e114, B111_e114⟩, by rw [e114]; exact FH_e114, by rw [e114]; exact FZ_e114⟩
set_option maxRecDepth 65536 in
set_option maxHeartbeats 40000000 in
theorem rmI1X (l : Launch) (Z : State) (a0 : Array Value) (hw : ∀ d ∈ tables_1, d.before a0 Z = true) (ws : List Jvm.Cond) (o a : Addr) (n : Nat) (g : Nat → Int32)  (h0 : Heap) (n0 : Nat) (Z0 : n0 ≤ h0.size) (hn : n ≤ 16) (hp : 0 < n) (O : Old Z n0 h0) (SK : StrSta Z) (FA : AF Z h0 a .char n (Ca g)) (EO : Exa Z h0 o "java/lang/String") (FV : Fld Z h0 o "java/lang/String" "value" "[B" .null) (FC : Fld Z h0 o "java/lang/String" "coder" "B" (.int (0 : Int32))) (FH : Fld Z h0 o "java/lang/String" "hash" "I" (.int (0 : Int32))) (FZ : Fld Z h0 o "java/lang/String" "hashIsZero" "Z" (.int (0 : Int32))) (g_o : n0 ≤ o) (hao : a ≠ o) (hsm : ∀ j, j < n → ¬ ((255 : Int32) < g j))  :
    MetFree l (⟨"java/lang/String", "<init>", "([C)V"⟩ : MethodName) (head1 (Jvm.Cond.code (⟨"java/lang/String", "<init>", "([C)V"⟩ : MethodName) jdk_42_method_3_code 2 none :: ws) ({ frames := 5, cells := 1, slots := 16, locals := 124 } : Room)) (fun aa_ U_ => aa_ = #[(.ref o), (.ref a)] ∧ Z.Warmed39 U_.vm ∧ U_.heap = h0) (fun _ _ _ _ _ => True) (fun _ U_ o_ V_ => ∃ v_ L_, o_ = .returned v_ ∧ QSx Z o n g h0 n0 v_ V_.heap L_ ∧ FrameEnd U_ o_ V_ L_ ({ frames := 5, cells := 1, slots := 16, locals := 124 } : Room).cells ({ frames := 5, cells := 1, slots := 16, locals := 124 } : Room).slots) := by
  refine MetFree.of_bodySF (plainFor_of_name pn_1) hisR ?_
  intro p e s m args below meth c s₁ Bd hml0 hP hK
  obtain ⟨rfl, hZ, hh⟩ := hP
  have hx := Bd.exec
  have hby := Bd.bytes
  have hml : c.maxLocals = 2 := hml0
  have hown : s.vm.findClass "java/lang/String" = some m.cls := findClass_of_methodNamed Bd.named
  have hnm := (name_of_methodNamed Bd.named Bd.method).1
  have X0 : Stand p l e ({ frames := 5, cells := 1, slots := 16, locals := 124 } : Room) s m #[(.ref o), (.ref a)] below meth c s₁ [] 0 0 := Stand.of_body Bd
  have e0 : s₁.heap = h0 := by rw [← hh, Bd.state]; rfl
  have N0 := Fr.nil n0
  have pre0 : ∀ zz, Steps p.tables e below (s₁.setTop (mkF m 0 #[.val (.ref o), .val (.ref a)] [])) zz → Steps p.tables e below (s₁.setTop (entryFrame m #[(.ref o), (.ref a)] 2)) zz := fun zz kz_ => castTop (ef_1 m o a) kz_
  obtain ⟨_, _, ⟨T115, L115, k115, n115⟩, -, X115, ⟨Lc115, hQ115, l115, y115, z115⟩, st115⟩ := X0.specialBack hx (y := (⟨"java/lang/String", "<init>", "([CIILjava/lang/Void;)V"⟩ : MethodName)) rfl hown (mvT hZ (hwi hw 8 rfl)) (mvT hZ (hwi hw 9 rfl)) (mvT hZ (hwi hw 11 rfl)) (by decide) (backOf (W := 0) (rmI4X l Z a0 hw [] o a n g h0 n0 Z0 hn hp O SK FA EO FV FC FH FZ g_o hao hsm) hZ (hwi hw 11 rfl) (hwi hw 3 rfl) (by decide) (by decide)) (g := (mkF m 6 #[.val (.ref o), .val (.ref a)] [.null, (.int (Int32.ofNat n)), (.int (0 : Int32)), (.ref a), (.ref o)])) rfl (by rw [hml]; rfl) (Steps.refl _) (a := o) (argsL := [(.ref a), (.int (0 : Int32)), (.int (Int32.ofNat n)), .null]) (rest := []) (lenOf pd_1 rfl) rfl (by show 2 * 0 + _ ≤ _; exact Nat.le_of_eq rfl) (hb hby d1_6) (fun _ _ => ⟨rfl, e0, (by decide : 0 + 1 ≤ _), (by decide : 0 + 16 ≤ _)⟩)
  dsimp only [Pt.U, Pt.locs, Pt.cells, Pt.slots] at X115 l115 y115 z115 st115 hQ115
  obtain rfl : k115 = 1 := y115; obtain rfl : n115 = 16 := z115
  obtain ⟨rfl, N115q, K115, S115, H115, Y115⟩ := hQ115
  have N115 : Fr n0 L115 := by rw [l115]; exact Fr.app N0 N115q
  have KK115 := (Keep.refl h0 [o]).trans K115 (fun x r => by cases List.mem_singleton.mp r; exact (Or.inl (List.mem_of_getElem? (i := 0) rfl)))
  have Z115 : n0 ≤ T115.heap.size := Nat.le_trans Z0 K115.1
  have O115 := O.keep K115 (all1 g_o)
  obtain ⟨fs, hr, hrun, hended, hW, hsame⟩ := X115.leave (v := none) (fun _ => rfl)
  refine ⟨_, _, pre0 _ ?_, hrun, hended, _, _, rfl, ?_, ⟨_, rfl⟩, hW, hsame.mono (by decide) (by decide)⟩
  · show Steps p.tables e below (s₁.setTop (mkF m 0 #[.val (.ref o), .val (.ref a)] [])) _
    refine XS.aloadN X0.here hx rfl (hb hby d1_0) rfl rfl ?_
    refine XS.aloadN X0.here hx rfl (hb hby d1_1) rfl rfl ?_
    refine XS.iconst X0.here hx rfl (hb hby d1_2) ?_
    refine XS.aloadN X0.here hx rfl (hb hby d1_3) rfl rfl ?_
    show Steps p.tables e below (s₁.setTop (mkF m 4 #[.val (.ref o), .val (.ref a)] [(.ref a), (.int (0 : Int32)), (.ref a), (.ref o)])) _
    refine lenA X0 hx hZ e0 FA (g := (mkF m 4 #[.val (.ref o), .val (.ref a)] [(.ref a), (.int (0 : Int32)), (.ref a), (.ref o)])) rfl rfl (hb hby d1_4) ?_
    refine XS.aconstNull X0.here hx rfl (hb hby d1_5) ?_
    show Steps p.tables e below (s₁.setTop (mkF m 6 #[.val (.ref o), .val (.ref a)] [.null, (.int (Int32.ofNat n)), (.int (0 : Int32)), (.ref a), (.ref o)])) _
    refine st115.trans ?_
    show Steps p.tables e below (T115.setTop (mkF m 9 #[.val (.ref o), .val (.ref a)] [])) _
    exact X115.returnOut hx Bd.returns (hb hby d1_9) hr
  · show QSx Z o n g h0 n0 _ T115.heap _
    exact ⟨rfl, N115, KK115, S115, H115, Y115⟩
theorem d12_0 : decode jdk_48_method_5_code 0 = .ok (.iload_n 2, 1) := by decide +kernel
theorem d12_1 : decode jdk_48_method_5_code 1 = .ok (.iload_n 3, 1) := by decide +kernel
theorem d12_2 : decode jdk_48_method_5_code 2 = .ok (.iadd, 1) := by decide +kernel
theorem d12_3 : decode jdk_48_method_5_code 3 = .ok (.istore 4, 2) := by decide +kernel
theorem d12_5 : decode jdk_48_method_5_code 5 = .ok (.iload_n 2, 1) := by decide +kernel
theorem d12_6 : decode jdk_48_method_5_code 6 = .ok (.istore 5, 2) := by decide +kernel
theorem d12_8 : decode jdk_48_method_5_code 8 = .ok (.iload 5, 2) := by decide +kernel
theorem d12_10 : decode jdk_48_method_5_code 10 = .ok (.iload 4, 2) := by decide +kernel
theorem d12_12 : decode jdk_48_method_5_code 12 = .ok (.if_icmp .ge 23, 3) := by decide +kernel
theorem d12_15 : decode jdk_48_method_5_code 15 = .ok (.bipush 31, 2) := by decide +kernel
theorem d12_17 : decode jdk_48_method_5_code 17 = .ok (.iload_n 0, 1) := by decide +kernel
theorem d12_18 : decode jdk_48_method_5_code 18 = .ok (.imul, 1) := by decide +kernel
theorem d12_19 : decode jdk_48_method_5_code 19 = .ok (.aload_n 1, 1) := by decide +kernel
theorem d12_20 : decode jdk_48_method_5_code 20 = .ok (.iload 5, 2) := by decide +kernel
theorem d12_22 : decode jdk_48_method_5_code 22 = .ok (.baload, 1) := by decide +kernel
theorem d12_23 : decode jdk_48_method_5_code 23 = .ok (.sipush 255, 3) := by decide +kernel
theorem d12_26 : decode jdk_48_method_5_code 26 = .ok (.iand, 1) := by decide +kernel
theorem d12_27 : decode jdk_48_method_5_code 27 = .ok (.iadd, 1) := by decide +kernel
theorem d12_28 : decode jdk_48_method_5_code 28 = .ok (.istore_n 0, 1) := by decide +kernel
theorem d12_29 : decode jdk_48_method_5_code 29 = .ok (.iinc 5 1, 3) := by decide +kernel
theorem d12_32 : decode jdk_48_method_5_code 32 = .ok (.goto (-24), 3) := by decide +kernel
theorem d12_35 : decode jdk_48_method_5_code 35 = .ok (.iload_n 0, 1) := by decide +kernel
theorem d12_36 : decode jdk_48_method_5_code 36 = .ok (.ireturn, 1) := by decide +kernel
theorem pn_12 : plainName "jdk/internal/util/ArraysSupport" = true := by first | (simp [plainName, overriddenIn]; done) | decide +kernel
theorem ef_12 (m : MethodId) (x0 : Int32) (x1 : Addr) (x2 : Int32) (x3 : Int32) : entryFrame m #[(.int x0), (.ref x1), (.int x2), (.int x3)] 6 = mkF m 0 #[.val (.int x0), .val (.ref x1), .val (.int x2), .val (.int x3), .unset, .unset] [] := by first | (simp [entryFrame, mkF, argsToLocals, Value.category]; done) | rfl
set_option maxRecDepth 65536 in
set_option maxHeartbeats 40000000 in
theorem tnH {p : Program} {l : Launch} {e : Env} {R : Room} {s : State} {m : MethodId} {args : Array Value} {below : List Frame} {meth : Method} {c : Code} {T0 : State} {locs : List Loc} {cells slots : Nat} {Z : State} {a0 : Array Value} {h0 : Heap} (b : Addr) (i n : Nat) (w : Nat → Int32) (X0 : Stand p l e R s m args below meth c T0 locs cells slots) (hx : p.tables.exec = Jvm.exec) (hZ : Z.Warmed39 s.vm) (hw : ∀ d ∈ tables_1, d.before a0 Z = true) (hby : c.code = jdk_48_method_5_code) (hown : s.vm.findClass "jdk/internal/util/ArraysSupport" = some m.cls) (e0 : T0.heap = h0) (hn : n ≤ 16) (hi : i < n) (FB : AF Z h0 b .byte n (fun j => Value.int (w j))) {target : State} (kt : Steps p.tables e below (T0.setTop (mkF m 8 #[.val (.int (hashF w (i + 1))), .val (.ref b), .val (.int (0 : Int32)), .val (.int (Int32.ofNat n)), .val (.int (Int32.ofNat n)), .val (.int (Int32.ofNat (i + 1)))] [])) target) : Steps p.tables e below (T0.setTop (mkF m 8 #[.val (.int (hashF w i)), .val (.ref b), .val (.int (0 : Int32)), .val (.int (Int32.ofNat n)), .val (.int (Int32.ofNat n)), .val (.int (Int32.ofNat i))] [])) target := by
  show Steps p.tables e below (T0.setTop (mkF m 8 #[.val (.int (hashF w i)), .val (.ref b), .val (.int (0 : Int32)), .val (.int (Int32.ofNat n)), .val (.int (Int32.ofNat n)), .val (.int (Int32.ofNat i))] [])) _
  refine XS.iload X0.here hx rfl (hb hby d12_8) rfl ?_
  refine XS.iload X0.here hx rfl (hb hby d12_10) rfl ?_
  refine XS.icmpNo X0.here hx rfl (hb hby d12_12) rfl (tlt ((ltN (by omega) (by omega)).mpr hi)).2.1 ?_
  refine XS.bipush X0.here hx rfl (hb hby d12_15) ?_
  refine XS.iloadN X0.here hx rfl (hb hby d12_17) rfl ?_
  refine XS.imul X0.here hx rfl (hb hby d12_18) rfl ?_
  show Steps p.tables e below (T0.setTop (mkF m 19 #[.val (.int (hashF w i)), .val (.ref b), .val (.int (0 : Int32)), .val (.int (Int32.ofNat n)), .val (.int (Int32.ofNat n)), .val (.int (Int32.ofNat i))] [(.int ((31 : Int32) * (hashF w i)))])) _
  refine XS.aloadN X0.here hx rfl (hb hby d12_19) rfl rfl ?_
  refine XS.iload X0.here hx rfl (hb hby d12_20) rfl ?_
  show Steps p.tables e below (T0.setTop (mkF m 22 #[.val (.int (hashF w i)), .val (.ref b), .val (.int (0 : Int32)), .val (.int (Int32.ofNat n)), .val (.int (Int32.ofNat n)), .val (.int (Int32.ofNat i))] [(.int (Int32.ofNat i)), (.ref b), (.int ((31 : Int32) * (hashF w i)))])) _
  refine ldBy X0 hx hZ e0 FB (i := i) hi (by omega) (v := (.int (w i))) rfl (g := (mkF m 22 #[.val (.int (hashF w i)), .val (.ref b), .val (.int (0 : Int32)), .val (.int (Int32.ofNat n)), .val (.int (Int32.ofNat n)), .val (.int (Int32.ofNat i))] [(.int (Int32.ofNat i)), (.ref b), (.int ((31 : Int32) * (hashF w i)))])) rfl rfl (hb hby d12_22) ?_
  refine XS.sipush X0.here hx rfl (hb hby d12_23) ?_
  refine XS.iand X0.here hx rfl (hb hby d12_26) rfl ?_
  refine XS.iadd X0.here hx rfl (hb hby d12_27) rfl ?_
  show Steps p.tables e below (T0.setTop (mkF m 28 #[.val (.int (hashF w i)), .val (.ref b), .val (.int (0 : Int32)), .val (.int (Int32.ofNat n)), .val (.int (Int32.ofNat n)), .val (.int (Int32.ofNat i))] [(.int (((31 : Int32) * (hashF w i)) + ((w i) &&& (255 : Int32))))])) _
  rw [show (((31 : Int32) * (hashF w i)) + ((w i) &&& (255 : Int32))) = (hashF w (i + 1)) from rfl]
  show Steps p.tables e below (T0.setTop (mkF m 28 #[.val (.int (hashF w i)), .val (.ref b), .val (.int (0 : Int32)), .val (.int (Int32.ofNat n)), .val (.int (Int32.ofNat n)), .val (.int (Int32.ofNat i))] [(.int (hashF w (i + 1)))])) _
  refine XS.istoreN X0.here hx rfl (hb hby d12_28) rfl (l' := #[.val (.int (hashF w (i + 1))), .val (.ref b), .val (.int (0 : Int32)), .val (.int (Int32.ofNat n)), .val (.int (Int32.ofNat n)), .val (.int (Int32.ofNat i))]) rfl ?_
  refine XS.iinc X0.here hx rfl (hb hby d12_29) rfl (l' := #[.val (.int (hashF w (i + 1))), .val (.ref b), .val (.int (0 : Int32)), .val (.int (Int32.ofNat n)), .val (.int (Int32.ofNat n)), .val (.int ((Int32.ofNat i) + (1 : Int32)))]) rfl ?_
  show Steps p.tables e below (T0.setTop (mkF m 32 #[.val (.int (hashF w (i + 1))), .val (.ref b), .val (.int (0 : Int32)), .val (.int (Int32.ofNat n)), .val (.int (Int32.ofNat n)), .val (.int ((Int32.ofNat i) + (1 : Int32)))] [])) _
  rw [show ((Int32.ofNat i) + (1 : Int32)) = (Int32.ofNat (i + 1)) from succN i]
  show Steps p.tables e below (T0.setTop (mkF m 32 #[.val (.int (hashF w (i + 1))), .val (.ref b), .val (.int (0 : Int32)), .val (.int (Int32.ofNat n)), .val (.int (Int32.ofNat n)), .val (.int (Int32.ofNat (i + 1)))] [])) _
  refine XS.goto X0.here hx rfl (pc0 := 32) (pc' := 8) rfl (hb hby d12_32) (by decide) (by decide) ?_
  exact kt
set_option maxRecDepth 65536 in
set_option maxHeartbeats 40000000 in
theorem exH {p : Program} {l : Launch} {e : Env} {R : Room} {s : State} {m : MethodId} {args : Array Value} {below : List Frame} {meth : Method} {c : Code} {T0 : State} {locs : List Loc} {cells slots : Nat} {Z : State} {a0 : Array Value} {h0 : Heap} (b : Addr) (n : Nat) (w : Nat → Int32) (X0 : Stand p l e R s m args below meth c T0 locs cells slots) (hx : p.tables.exec = Jvm.exec) (hZ : Z.Warmed39 s.vm) (hw : ∀ d ∈ tables_1, d.before a0 Z = true) (hby : c.code = jdk_48_method_5_code) (hown : s.vm.findClass "jdk/internal/util/ArraysSupport" = some m.cls) (e0 : T0.heap = h0) (hn : n ≤ 16) {target : State} (kt : Steps p.tables e below (T0.setTop (mkF m 35 #[.val (.int (hashF w n)), .val (.ref b), .val (.int (0 : Int32)), .val (.int (Int32.ofNat n)), .val (.int (Int32.ofNat n)), .val (.int (Int32.ofNat n))] [])) target) : Steps p.tables e below (T0.setTop (mkF m 8 #[.val (.int (hashF w n)), .val (.ref b), .val (.int (0 : Int32)), .val (.int (Int32.ofNat n)), .val (.int (Int32.ofNat n)), .val (.int (Int32.ofNat n))] [])) target := by
  show Steps p.tables e below (T0.setTop (mkF m 8 #[.val (.int (hashF w n)), .val (.ref b), .val (.int (0 : Int32)), .val (.int (Int32.ofNat n)), .val (.int (Int32.ofNat n)), .val (.int (Int32.ofNat n))] [])) _
  refine XS.iload X0.here hx rfl (hb hby d12_8) rfl ?_
  refine XS.iload X0.here hx rfl (hb hby d12_10) rfl ?_
  refine XS.icmpYes X0.here hx rfl (pc0 := 12) (pc' := 35) rfl (hb hby d12_12) rfl (flt (fun q => absurd ((ltN (by omega) (by omega)).mp q) (Nat.lt_irrefl _))).2.1 (by decide) (by decide) ?_
  exact kt
set_option maxRecDepth 65536 in
set_option maxHeartbeats 40000000 in
theorem lpH {p : Program} {l : Launch} {e : Env} {R : Room} {s : State} {m : MethodId} {args : Array Value} {below : List Frame} {meth : Method} {c : Code} {T0 : State} {locs : List Loc} {cells slots : Nat} {Z : State} {a0 : Array Value} {h0 : Heap} (b : Addr) (n : Nat) (w : Nat → Int32) (X0 : Stand p l e R s m args below meth c T0 locs cells slots) (hx : p.tables.exec = Jvm.exec) (hZ : Z.Warmed39 s.vm) (hw : ∀ d ∈ tables_1, d.before a0 Z = true) (hby : c.code = jdk_48_method_5_code) (hown : s.vm.findClass "jdk/internal/util/ArraysSupport" = some m.cls) (e0 : T0.heap = h0) (hn : n ≤ 16) (FB : AF Z h0 b .byte n (fun j => Value.int (w j))) {target : State} (kt : Steps p.tables e below (T0.setTop (mkF m 35 #[.val (.int (hashF w n)), .val (.ref b), .val (.int (0 : Int32)), .val (.int (Int32.ofNat n)), .val (.int (Int32.ofNat n)), .val (.int (Int32.ofNat n))] [])) target) : ∀ k i, i + k = n → Steps p.tables e below (T0.setTop (mkF m 8 #[.val (.int (hashF w i)), .val (.ref b), .val (.int (0 : Int32)), .val (.int (Int32.ofNat n)), .val (.int (Int32.ofNat n)), .val (.int (Int32.ofNat i))] [])) target := by
  intro k
  induction k with
  | zero => intro i hk; obtain rfl : i = n := by omega
            exact exH b i w X0 hx hZ hw hby hown e0 hn kt
  | succ k ih => intro i hk; exact tnH b i n w X0 hx hZ hw hby hown e0 hn (by omega) FB (ih (i + 1) (by omega))
set_option maxRecDepth 65536 in
set_option maxHeartbeats 40000000 in
theorem rmSH (l : Launch) (Z : State) (a0 : Array Value) (hw : ∀ d ∈ tables_1, d.before a0 Z = true) (ws : List Jvm.Cond) (b : Addr) (n : Nat) (w : Nat → Int32)  (h0 : Heap) (n0 : Nat) (Z0 : n0 ≤ h0.size) (hn : n ≤ 16) (FB : AF Z h0 b .byte n (fun j => Value.int (w j)))  :
    MetFree l (⟨"jdk/internal/util/ArraysSupport", "signedHashCode", "(I[BII)I"⟩ : MethodName) (head1 (Jvm.Cond.code (⟨"jdk/internal/util/ArraysSupport", "signedHashCode", "(I[BII)I"⟩ : MethodName) jdk_48_method_5_code 6 (some .int) :: ws) ({ frames := 0, cells := 0, slots := 0, locals := 0 } : Room)) (fun aa_ U_ => aa_ = #[(.int (0 : Int32)), (.ref b), (.int (0 : Int32)), (.int (Int32.ofNat n))] ∧ Z.Warmed39 U_.vm ∧ U_.heap = h0) (fun _ _ _ _ _ => True) (fun _ U_ o_ V_ => ∃ v_ L_, o_ = .returned v_ ∧ QI (hashF w n) h0 n0 v_ V_.heap L_ ∧ FrameEnd U_ o_ V_ L_ ({ frames := 0, cells := 0, slots := 0, locals := 0 } : Room).cells ({ frames := 0, cells := 0, slots := 0, locals := 0 } : Room).slots) := by
  refine MetFree.of_bodySF (plainFor_of_name pn_12) hisR ?_
  intro p e s m args below meth c s₁ Bd hml0 hP hK
  obtain ⟨rfl, hZ, hh⟩ := hP
  have hx := Bd.exec
  have hby := Bd.bytes
  have hml : c.maxLocals = 6 := hml0
  have hown : s.vm.findClass "jdk/internal/util/ArraysSupport" = some m.cls := findClass_of_methodNamed Bd.named
  have hnm := (name_of_methodNamed Bd.named Bd.method).1
  have X0 : Stand p l e ({ frames := 0, cells := 0, slots := 0, locals := 0 } : Room) s m #[(.int (0 : Int32)), (.ref b), (.int (0 : Int32)), (.int (Int32.ofNat n))] below meth c s₁ [] 0 0 := Stand.of_body Bd
  have e0 : s₁.heap = h0 := by rw [← hh, Bd.state]; rfl
  have N0 := Fr.nil n0
  have pre0 : ∀ zz, Steps p.tables e below (s₁.setTop (mkF m 0 #[.val (.int (0 : Int32)), .val (.ref b), .val (.int (0 : Int32)), .val (.int (Int32.ofNat n)), .unset, .unset] [])) zz → Steps p.tables e below (s₁.setTop (entryFrame m #[(.int (0 : Int32)), (.ref b), (.int (0 : Int32)), (.int (Int32.ofNat n))] 6)) zz := fun zz kz_ => castTop (ef_12 m (0 : Int32) b (0 : Int32) (Int32.ofNat n)) kz_
  obtain ⟨fs, hr, hrun, hended, hW, hsame⟩ := X0.leave (v := some (.int (hashF w n))) (fun h => by rw [Bd.returns] at h; cases h)
  refine ⟨_, _, pre0 _ ?_, hrun, hended, _, _, rfl, ?_, ⟨_, rfl⟩, hW, hsame.mono (by decide) (by decide)⟩
  · show Steps p.tables e below (s₁.setTop (mkF m 0 #[.val (.int (0 : Int32)), .val (.ref b), .val (.int (0 : Int32)), .val (.int (Int32.ofNat n)), .unset, .unset] [])) _
    refine XS.iloadN X0.here hx rfl (hb hby d12_0) rfl ?_
    refine XS.iloadN X0.here hx rfl (hb hby d12_1) rfl ?_
    refine XS.iadd X0.here hx rfl (hb hby d12_2) rfl ?_
    show Steps p.tables e below (s₁.setTop (mkF m 3 #[.val (.int (0 : Int32)), .val (.ref b), .val (.int (0 : Int32)), .val (.int (Int32.ofNat n)), .unset, .unset] [(.int ((0 : Int32) + (Int32.ofNat n)))])) _
    rw [show ((0 : Int32) + (Int32.ofNat n)) = (Int32.ofNat n) from Int32.zero_add _]
    show Steps p.tables e below (s₁.setTop (mkF m 3 #[.val (.int (0 : Int32)), .val (.ref b), .val (.int (0 : Int32)), .val (.int (Int32.ofNat n)), .unset, .unset] [(.int (Int32.ofNat n))])) _
    refine XS.istore X0.here hx rfl (hb hby d12_3) rfl (l' := #[.val (.int (0 : Int32)), .val (.ref b), .val (.int (0 : Int32)), .val (.int (Int32.ofNat n)), .val (.int (Int32.ofNat n)), .unset]) rfl ?_
    refine XS.iloadN X0.here hx rfl (hb hby d12_5) rfl ?_
    refine XS.istore X0.here hx rfl (hb hby d12_6) rfl (l' := #[.val (.int (0 : Int32)), .val (.ref b), .val (.int (0 : Int32)), .val (.int (Int32.ofNat n)), .val (.int (Int32.ofNat n)), .val (.int (0 : Int32))]) rfl ?_
    show Steps p.tables e below (s₁.setTop (mkF m 8 #[.val (.int (hashF w 0)), .val (.ref b), .val (.int (0 : Int32)), .val (.int (Int32.ofNat n)), .val (.int (Int32.ofNat n)), .val (.int (Int32.ofNat 0))] [])) _
    refine lpH b n w X0 hx hZ hw hby hown e0 hn FB ?_ n 0 (by omega)
    refine XS.iloadN X0.here hx rfl (hb hby d12_35) rfl ?_
    show Steps p.tables e below (s₁.setTop (mkF m 36 #[.val (.int (hashF w n)), .val (.ref b), .val (.int (0 : Int32)), .val (.int (Int32.ofNat n)), .val (.int (Int32.ofNat n)), .val (.int (Int32.ofNat n))] [(.int (hashF w n))])) _
    exact retI X0 hx Bd.returns (hb hby d12_36) hr
  · show QI (hashF w n) h0 n0 _ s₁.heap _
    rw [e0]
    exact ⟨rfl, N0, rfl⟩
theorem d11_0 : decode jdk_48_method_4_code 0 = .ok (.iload 4, 2) := by decide +kernel
theorem d11_2 : decode jdk_48_method_4_code 2 = .ok (.tableswitch 127 4 10 #[42, 55, 127, 127, 88, 101, 114], 42) := by decide +kernel
theorem d11_44 : decode jdk_48_method_4_code 44 = .ok (.iload_n 3, 1) := by decide +kernel
theorem d11_45 : decode jdk_48_method_4_code 45 = .ok (.aload_n 0, 1) := by decide +kernel
theorem d11_46 : decode jdk_48_method_4_code 46 = .ok (.checkcast 60, 3) := by decide +kernel
theorem d11_49 : decode jdk_48_method_4_code 49 = .ok (.iload_n 1, 1) := by decide +kernel
theorem d11_50 : decode jdk_48_method_4_code 50 = .ok (.iload_n 2, 1) := by decide +kernel
theorem d11_51 : decode jdk_48_method_4_code 51 = .ok (.invokestatic 62, 3) := by decide +kernel
theorem d11_54 : decode jdk_48_method_4_code 54 = .ok (.goto 103, 3) := by decide +kernel
theorem d11_157 : decode jdk_48_method_4_code 157 = .ok (.ireturn, 1) := by decide +kernel
theorem pn_11 : plainName "jdk/internal/util/ArraysSupport" = true := by first | (simp [plainName, overriddenIn]; done) | decide +kernel
theorem ef_11 (m : MethodId) (x0 : Addr) (x1 : Int32) (x2 : Int32) (x3 : Int32) (x4 : Int32) : entryFrame m #[(.ref x0), (.int x1), (.int x2), (.int x3), (.int x4)] 5 = mkF m 0 #[.val (.ref x0), .val (.int x1), .val (.int x2), .val (.int x3), .val (.int x4)] [] := by first | (simp [entryFrame, mkF, argsToLocals, Value.category]; done) | rfl
set_option maxRecDepth 65536 in
set_option maxHeartbeats 40000000 in
theorem rmVH (l : Launch) (Z : State) (a0 : Array Value) (hw : ∀ d ∈ tables_1, d.before a0 Z = true) (ws : List Jvm.Cond) (b : Addr) (n : Nat) (w : Nat → Int32)  (h0 : Heap) (n0 : Nat) (Z0 : n0 ≤ h0.size) (hn : n ≤ 16) (EB : Exa Z h0 b "[B") (FB : AF Z h0 b .byte n (fun j => Value.int (w j)))  :
    MetFree l (⟨"jdk/internal/util/ArraysSupport", "vectorizedHashCode", "(Ljava/lang/Object;IIII)I"⟩ : MethodName) (head1 (Jvm.Cond.code (⟨"jdk/internal/util/ArraysSupport", "vectorizedHashCode", "(Ljava/lang/Object;IIII)I"⟩ : MethodName) jdk_48_method_4_code 5 (some .int) :: ws) ({ frames := 1, cells := 0, slots := 0, locals := 24 } : Room)) (fun aa_ U_ => aa_ = #[(.ref b), (.int (0 : Int32)), (.int (Int32.ofNat n)), (.int (0 : Int32)), (.int (4 : Int32))] ∧ Z.Warmed39 U_.vm ∧ U_.heap = h0) (fun _ _ _ _ _ => True) (fun _ U_ o_ V_ => ∃ v_ L_, o_ = .returned v_ ∧ QI (hashF w n) h0 n0 v_ V_.heap L_ ∧ FrameEnd U_ o_ V_ L_ ({ frames := 1, cells := 0, slots := 0, locals := 24 } : Room).cells ({ frames := 1, cells := 0, slots := 0, locals := 24 } : Room).slots) := by
  refine MetFree.of_bodySF (plainFor_of_name pn_11) hisR ?_
  intro p e s m args below meth c s₁ Bd hml0 hP hK
  obtain ⟨rfl, hZ, hh⟩ := hP
  have hx := Bd.exec
  have hby := Bd.bytes
  have hml : c.maxLocals = 5 := hml0
  have hown : s.vm.findClass "jdk/internal/util/ArraysSupport" = some m.cls := findClass_of_methodNamed Bd.named
  have hnm := (name_of_methodNamed Bd.named Bd.method).1
  have X0 : Stand p l e ({ frames := 1, cells := 0, slots := 0, locals := 24 } : Room) s m #[(.ref b), (.int (0 : Int32)), (.int (Int32.ofNat n)), (.int (0 : Int32)), (.int (4 : Int32))] below meth c s₁ [] 0 0 := Stand.of_body Bd
  have e0 : s₁.heap = h0 := by rw [← hh, Bd.state]; rfl
  have N0 := Fr.nil n0
  have pre0 : ∀ zz, Steps p.tables e below (s₁.setTop (mkF m 0 #[.val (.ref b), .val (.int (0 : Int32)), .val (.int (Int32.ofNat n)), .val (.int (0 : Int32)), .val (.int (4 : Int32))] [])) zz → Steps p.tables e below (s₁.setTop (entryFrame m #[(.ref b), (.int (0 : Int32)), (.int (Int32.ofNat n)), (.int (0 : Int32)), (.int (4 : Int32))] 5)) zz := fun zz kz_ => castTop (ef_11 m b (0 : Int32) (Int32.ofNat n) (0 : Int32) (4 : Int32)) kz_
  obtain ⟨T116, X116, e116, st116⟩ := castY X0 hx hZ hown (hwi hw 57 rfl) e0 (Ins.self EB) (g := (mkF m 46 #[.val (.ref b), .val (.int (0 : Int32)), .val (.int (Int32.ofNat n)), .val (.int (0 : Int32)), .val (.int (4 : Int32))] [(.ref b), (.int (0 : Int32))])) rfl rfl (hb hby d11_46)
  obtain ⟨_, _, ⟨T117, L117, k117, n117⟩, -, X117, ⟨Lc117, hQ117, l117, y117, z117⟩, st117⟩ := Jvm.LawKit.callS X116 hx (y := (⟨"jdk/internal/util/ArraysSupport", "signedHashCode", "(I[BII)I"⟩ : MethodName)) hown (mvT hZ (hwi hw 59 rfl)) (mvT hZ (hwi hw 60 rfl)) (mvT hZ (hwi hw 55 rfl)) (mvT hZ (hwi hw 61 rfl)) (by decide) (backOf (W := 0) (rmSH l Z a0 hw [] b n w h0 n0 Z0 hn FB) hZ (hwi hw 61 rfl) (hwi hw 55 rfl) (by decide) (by decide)) (g := (mkF m 51 #[.val (.ref b), .val (.int (0 : Int32)), .val (.int (Int32.ofNat n)), .val (.int (0 : Int32)), .val (.int (4 : Int32))] [(.int (Int32.ofNat n)), (.int (0 : Int32)), (.ref b), (.int (0 : Int32))])) rfl (by rw [hml]; rfl) (argsL := [(.int (0 : Int32)), (.ref b), (.int (0 : Int32)), (.int (Int32.ofNat n))]) (rest := []) (lenOf pd_11 rfl) rfl (by show 2 * 0 + _ ≤ _; exact Nat.le_of_eq rfl) (hb hby d11_51) (fun _ _ => ⟨rfl, e116, (by decide : 0 + 0 ≤ _), (by decide : 0 + 0 ≤ _)⟩)
  dsimp only [Pt.U, Pt.locs, Pt.cells, Pt.slots] at X117 l117 y117 z117 st117 hQ117
  obtain rfl : k117 = 0 := y117; obtain rfl : n117 = 0 := z117
  obtain ⟨rfl, N117q, e117⟩ := hQ117
  have N117 : Fr n0 L117 := by rw [l117]; exact Fr.app N0 N117q
  obtain ⟨fs, hr, hrun, hended, hW, hsame⟩ := X117.leave (v := some (.int (hashF w n))) (fun h => by rw [Bd.returns] at h; cases h)
  refine ⟨_, _, pre0 _ ?_, hrun, hended, _, _, rfl, ?_, ⟨_, rfl⟩, hW, hsame.mono (by decide) (by decide)⟩
  · show Steps p.tables e below (s₁.setTop (mkF m 0 #[.val (.ref b), .val (.int (0 : Int32)), .val (.int (Int32.ofNat n)), .val (.int (0 : Int32)), .val (.int (4 : Int32))] [])) _
    refine XS.iload X0.here hx rfl (hb hby d11_0) rfl ?_
    refine XS.tswIn X0.here hx rfl (pc0 := 2) (pc' := 44) rfl (hb hby d11_2) rfl (by decide) (o := 42) (by decide) (by decide) (by decide) ?_
    show Steps p.tables e below (s₁.setTop (mkF m 44 #[.val (.ref b), .val (.int (0 : Int32)), .val (.int (Int32.ofNat n)), .val (.int (0 : Int32)), .val (.int (4 : Int32))] [])) _
    refine XS.iloadN X0.here hx rfl (hb hby d11_44) rfl ?_
    refine XS.aloadN X0.here hx rfl (hb hby d11_45) rfl rfl ?_
    show Steps p.tables e below (s₁.setTop (mkF m 46 #[.val (.ref b), .val (.int (0 : Int32)), .val (.int (Int32.ofNat n)), .val (.int (0 : Int32)), .val (.int (4 : Int32))] [(.ref b), (.int (0 : Int32))])) _
    refine st116 _ ?_
    refine XS.iloadN X116.here hx rfl (hb hby d11_49) rfl ?_
    refine XS.iloadN X116.here hx rfl (hb hby d11_50) rfl ?_
    show Steps p.tables e below (T116.setTop (mkF m 51 #[.val (.ref b), .val (.int (0 : Int32)), .val (.int (Int32.ofNat n)), .val (.int (0 : Int32)), .val (.int (4 : Int32))] [(.int (Int32.ofNat n)), (.int (0 : Int32)), (.ref b), (.int (0 : Int32))])) _
    refine st117 _ ?_
    refine XS.goto X117.here hx rfl (pc0 := 54) (pc' := 157) rfl (hb hby d11_54) (by decide) (by decide) ?_
    show Steps p.tables e below (T117.setTop (mkF m 157 #[.val (.ref b), .val (.int (0 : Int32)), .val (.int (Int32.ofNat n)), .val (.int (0 : Int32)), .val (.int (4 : Int32))] [(.int (hashF w n))])) _
    exact retI X117 hx Bd.returns (hb hby d11_157) hr
  · show QI (hashF w n) h0 n0 _ T117.heap _
    rw [e117]
    exact ⟨rfl, N117, rfl⟩
theorem d10_0 : decode jdk_43_method_21_code 0 = .ok (.aload_n 0, 1) := by decide +kernel
theorem d10_1 : decode jdk_43_method_21_code 1 = .ok (.arraylength, 1) := by decide +kernel
theorem d10_2 : decode jdk_43_method_21_code 2 = .ok (.lookupswitch 40 #[(0, 26), (1, 30)], 26) := by decide +kernel
theorem d10_42 : decode jdk_43_method_21_code 42 = .ok (.aload_n 0, 1) := by decide +kernel
theorem d10_43 : decode jdk_43_method_21_code 43 = .ok (.iconst 0, 1) := by decide +kernel
theorem d10_44 : decode jdk_43_method_21_code 44 = .ok (.aload_n 0, 1) := by decide +kernel
theorem d10_45 : decode jdk_43_method_21_code 45 = .ok (.arraylength, 1) := by decide +kernel
theorem d10_46 : decode jdk_43_method_21_code 46 = .ok (.iconst 0, 1) := by decide +kernel
theorem d10_47 : decode jdk_43_method_21_code 47 = .ok (.iconst 4, 1) := by decide +kernel
theorem d10_48 : decode jdk_43_method_21_code 48 = .ok (.invokestatic 84, 3) := by decide +kernel
theorem d10_51 : decode jdk_43_method_21_code 51 = .ok (.ireturn, 1) := by decide +kernel
theorem pn_10 : plainName "java/lang/StringLatin1" = true := by first | (simp [plainName, overriddenIn]; done) | decide +kernel
theorem ef_10 (m : MethodId) (x0 : Addr) : entryFrame m #[(.ref x0)] 1 = mkF m 0 #[.val (.ref x0)] [] := by first | (simp [entryFrame, mkF, argsToLocals, Value.category]; done) | rfl
theorem d8_0 : decode jdk_42_method_78_code 0 = .ok (.aload_n 0, 1) := by decide +kernel
theorem d8_1 : decode jdk_42_method_78_code 1 = .ok (.getfield 19, 3) := by decide +kernel
theorem d8_4 : decode jdk_42_method_78_code 4 = .ok (.istore_n 1, 1) := by decide +kernel
theorem d8_5 : decode jdk_42_method_78_code 5 = .ok (.iload_n 1, 1) := by decide +kernel
theorem d8_6 : decode jdk_42_method_78_code 6 = .ok (.ifCond .ne 52, 3) := by decide +kernel
theorem d8_9 : decode jdk_42_method_78_code 9 = .ok (.aload_n 0, 1) := by decide +kernel
theorem d8_10 : decode jdk_42_method_78_code 10 = .ok (.getfield 23, 3) := by decide +kernel
theorem d8_13 : decode jdk_42_method_78_code 13 = .ok (.ifCond .ne 45, 3) := by decide +kernel
theorem d8_16 : decode jdk_42_method_78_code 16 = .ok (.aload_n 0, 1) := by decide +kernel
theorem d8_17 : decode jdk_42_method_78_code 17 = .ok (.invokevirtual 492, 3) := by decide +kernel
theorem d8_20 : decode jdk_42_method_78_code 20 = .ok (.ifCond .eq 13, 3) := by decide +kernel
theorem d8_23 : decode jdk_42_method_78_code 23 = .ok (.aload_n 0, 1) := by decide +kernel
theorem d8_24 : decode jdk_42_method_78_code 24 = .ok (.getfield 9, 3) := by decide +kernel
theorem d8_27 : decode jdk_42_method_78_code 27 = .ok (.invokestatic 628, 3) := by decide +kernel
theorem d8_30 : decode jdk_42_method_78_code 30 = .ok (.goto 10, 3) := by decide +kernel
theorem d8_40 : decode jdk_42_method_78_code 40 = .ok (.istore_n 1, 1) := by decide +kernel
theorem d8_41 : decode jdk_42_method_78_code 41 = .ok (.iload_n 1, 1) := by decide +kernel
theorem d8_42 : decode jdk_42_method_78_code 42 = .ok (.ifCond .ne 11, 3) := by decide +kernel
theorem d8_53 : decode jdk_42_method_78_code 53 = .ok (.aload_n 0, 1) := by decide +kernel
theorem d8_54 : decode jdk_42_method_78_code 54 = .ok (.iload_n 1, 1) := by decide +kernel
theorem d8_55 : decode jdk_42_method_78_code 55 = .ok (.putfield 19, 3) := by decide +kernel
theorem d8_58 : decode jdk_42_method_78_code 58 = .ok (.iload_n 1, 1) := by decide +kernel
theorem d8_59 : decode jdk_42_method_78_code 59 = .ok (.ireturn, 1) := by decide +kernel
theorem pn_8 : plainName "java/lang/String" = true := by first | (simp [plainName, overriddenIn]; done) | decide +kernel
theorem ef_8 (m : MethodId) (x0 : Addr) : entryFrame m #[(.ref x0)] 2 = mkF m 0 #[.val (.ref x0), .unset] [] := by first | (simp [entryFrame, mkF, argsToLocals, Value.category]; done) | rfl
set_option maxRecDepth 65536 in
set_option maxHeartbeats 40000000 in
theorem rmLH0 (l : Launch) (Z : State) (a0 : Array Value) (hw : ∀ d ∈ tables_1, d.before a0 Z = true) (ws : List Jvm.Cond) (b : Addr) (w : Nat → Int32)  (h0 : Heap) (n0 : Nat) (Z0 : n0 ≤ h0.size) (EB : Exa Z h0 b "[B") (FB : AF Z h0 b .byte 7 (fun j => Value.int (w j)))  :
    MetFree l (⟨"java/lang/StringLatin1", "hashCode", "([B)I"⟩ : MethodName) (head1 (Jvm.Cond.code (⟨"java/lang/StringLatin1", "hashCode", "([B)I"⟩ : MethodName) jdk_43_method_21_code 1 (some .int) :: ws) ({ frames := 2, cells := 0, slots := 0, locals := 46 } : Room)) (fun aa_ U_ => aa_ = #[(.ref b)] ∧ Z.Warmed39 U_.vm ∧ U_.heap = h0) (fun _ _ _ _ _ => True) (fun _ U_ o_ V_ => ∃ v_ L_, o_ = .returned v_ ∧ QI (hashF w 7) h0 n0 v_ V_.heap L_ ∧ FrameEnd U_ o_ V_ L_ ({ frames := 2, cells := 0, slots := 0, locals := 46 } : Room).cells ({ frames := 2, cells := 0, slots := 0, locals := 46 } : Room).slots) := by
  refine MetFree.of_bodySF (plainFor_of_name pn_10) hisR ?_
  intro p e s m args below meth c s₁ Bd hml0 hP hK
  obtain ⟨rfl, hZ, hh⟩ := hP
  have hx := Bd.exec
  have hby := Bd.bytes
  have hml : c.maxLocals = 1 := hml0
  have hown : s.vm.findClass "java/lang/StringLatin1" = some m.cls := findClass_of_methodNamed Bd.named
  have hnm := (name_of_methodNamed Bd.named Bd.method).1
  have X0 : Stand p l e ({ frames := 2, cells := 0, slots := 0, locals := 46 } : Room) s m #[(.ref b)] below meth c s₁ [] 0 0 := Stand.of_body Bd
  have e0 : s₁.heap = h0 := by rw [← hh, Bd.state]; rfl
  have N0 := Fr.nil n0
  have pre0 : ∀ zz, Steps p.tables e below (s₁.setTop (mkF m 0 #[.val (.ref b)] [])) zz → Steps p.tables e below (s₁.setTop (entryFrame m #[(.ref b)] 1)) zz := fun zz kz_ => castTop (ef_10 m b) kz_
  obtain ⟨_, _, ⟨T118, L118, k118, n118⟩, -, X118, ⟨Lc118, hQ118, l118, y118, z118⟩, st118⟩ := Jvm.LawKit.callS X0 hx (y := (⟨"jdk/internal/util/ArraysSupport", "vectorizedHashCode", "(Ljava/lang/Object;IIII)I"⟩ : MethodName)) hown (mvT hZ (hwi hw 53 rfl)) (mvT hZ (hwi hw 54 rfl)) (mvT hZ (hwi hw 55 rfl)) (mvT hZ (hwi hw 56 rfl)) (by decide) (backOf (W := 0) (rmVH l Z a0 hw [] b 7 w h0 n0 Z0 (by decide) EB FB) hZ (hwi hw 56 rfl) (hwi hw 55 rfl) (by decide) (by decide)) (g := (mkF m 48 #[.val (.ref b)] [(.int (4 : Int32)), (.int (0 : Int32)), (.int (Int32.ofNat 7)), (.int (0 : Int32)), (.ref b)])) rfl (by rw [hml]; rfl) (argsL := [(.ref b), (.int (0 : Int32)), (.int (Int32.ofNat 7)), (.int (0 : Int32)), (.int (4 : Int32))]) (rest := []) (lenOf pd_10 rfl) rfl (by show 2 * 0 + _ ≤ _; exact Nat.le_of_eq rfl) (hb hby d10_48) (fun _ _ => ⟨rfl, e0, (by decide : 0 + 0 ≤ _), (by decide : 0 + 0 ≤ _)⟩)
  dsimp only [Pt.U, Pt.locs, Pt.cells, Pt.slots] at X118 l118 y118 z118 st118 hQ118
  obtain rfl : k118 = 0 := y118; obtain rfl : n118 = 0 := z118
  obtain ⟨rfl, N118q, e118⟩ := hQ118
  have N118 : Fr n0 L118 := by rw [l118]; exact Fr.app N0 N118q
  obtain ⟨fs, hr, hrun, hended, hW, hsame⟩ := X118.leave (v := some (.int (hashF w 7))) (fun h => by rw [Bd.returns] at h; cases h)
  refine ⟨_, _, pre0 _ ?_, hrun, hended, _, _, rfl, ?_, ⟨_, rfl⟩, hW, hsame.mono (by decide) (by decide)⟩
  · show Steps p.tables e below (s₁.setTop (mkF m 0 #[.val (.ref b)] [])) _
    refine XS.aloadN X0.here hx rfl (hb hby d10_0) rfl rfl ?_
    show Steps p.tables e below (s₁.setTop (mkF m 1 #[.val (.ref b)] [(.ref b)])) _
    refine lenA X0 hx hZ e0 FB (g := (mkF m 1 #[.val (.ref b)] [(.ref b)])) rfl rfl (hb hby d10_1) ?_
    show Steps p.tables e below (s₁.setTop (mkF m 2 #[.val (.ref b)] [(.int (Int32.ofNat 7))])) _
    rw [show (Int32.ofNat 7) = (7 : Int32) from rfl]
    show Steps p.tables e below (s₁.setTop (mkF m 2 #[.val (.ref b)] [(.int (7 : Int32))])) _
    refine Jvm.Stand.lookupswitchMiss X0 hx (g := (mkF m 2 #[.val (.ref b)] [(.int (7 : Int32))])) rfl rfl (hb hby d10_2) (by decide) (by decide) (by show (0 : Int) ≤ ((2 : Nat) : Int) + 40; decide) _ ?_
    show Steps p.tables e below (s₁.setTop (mkF m 42 #[.val (.ref b)] [])) _
    refine XS.aloadN X0.here hx rfl (hb hby d10_42) rfl rfl ?_
    refine XS.iconst X0.here hx rfl (hb hby d10_43) ?_
    refine XS.aloadN X0.here hx rfl (hb hby d10_44) rfl rfl ?_
    show Steps p.tables e below (s₁.setTop (mkF m 45 #[.val (.ref b)] [(.ref b), (.int (0 : Int32)), (.ref b)])) _
    refine lenA X0 hx hZ e0 FB (g := (mkF m 45 #[.val (.ref b)] [(.ref b), (.int (0 : Int32)), (.ref b)])) rfl rfl (hb hby d10_45) ?_
    refine XS.iconst X0.here hx rfl (hb hby d10_46) ?_
    refine XS.iconst X0.here hx rfl (hb hby d10_47) ?_
    show Steps p.tables e below (s₁.setTop (mkF m 48 #[.val (.ref b)] [(.int (4 : Int32)), (.int (0 : Int32)), (.int (Int32.ofNat 7)), (.int (0 : Int32)), (.ref b)])) _
    refine st118 _ ?_
    show Steps p.tables e below (T118.setTop (mkF m 51 #[.val (.ref b)] [(.int (hashF w 7))])) _
    exact retI X118 hx Bd.returns (hb hby d10_51) hr
  · show QI (hashF w 7) h0 n0 _ T118.heap _
    rw [e118]
    exact ⟨rfl, N118, rfl⟩
set_option maxRecDepth 65536 in
set_option maxHeartbeats 40000000 in
theorem rmHC0 (l : Launch) (Z : State) (a0 : Array Value) (hw : ∀ d ∈ tables_1, d.before a0 Z = true) (ws : List Jvm.Cond) (o : Addr) (w : Nat → Int32)  (h0 : Heap) (n0 : Nat) (Z0 : n0 ≤ h0.size) (O : Old Z n0 h0) (SK : StrSta Z) (g_o : n0 ≤ o) (hv : hashF w 7 = (-1791128108 : Int32)) (S : StrX Z h0 o 7 (fun j => Value.int (w j))) (FH : Fld Z h0 o "java/lang/String" "hash" "I" (.int (0 : Int32))) (FZ : Fld Z h0 o "java/lang/String" "hashIsZero" "Z" (.int (0 : Int32)))  :
    MetFree l (⟨"java/lang/String", "hashCode", "()I"⟩ : MethodName) (head1 (Jvm.Cond.code (⟨"java/lang/String", "hashCode", "()I"⟩ : MethodName) jdk_42_method_78_code 2 (some .int) :: ws) ({ frames := 3, cells := 0, slots := 0, locals := 70 } : Room)) (fun aa_ U_ => aa_ = #[(.ref o)] ∧ Z.Warmed39 U_.vm ∧ U_.heap = h0) (fun _ _ _ _ _ => True) (fun _ U_ o_ V_ => ∃ v_ L_, o_ = .returned v_ ∧ QH Z o 7 (fun j => Value.int (w j)) (-1791128108 : Int32) h0 n0 v_ V_.heap L_ ∧ FrameEnd U_ o_ V_ L_ ({ frames := 3, cells := 0, slots := 0, locals := 70 } : Room).cells ({ frames := 3, cells := 0, slots := 0, locals := 70 } : Room).slots) := by
  refine MetFree.of_bodySF (plainFor_of_name pn_8) hisR ?_
  intro p e s m args below meth c s₁ Bd hml0 hP hK
  obtain ⟨rfl, hZ, hh⟩ := hP
  have hx := Bd.exec
  have hby := Bd.bytes
  have hml : c.maxLocals = 2 := hml0
  have hown : s.vm.findClass "java/lang/String" = some m.cls := findClass_of_methodNamed Bd.named
  have hnm := (name_of_methodNamed Bd.named Bd.method).1
  have X0 : Stand p l e ({ frames := 3, cells := 0, slots := 0, locals := 70 } : Room) s m #[(.ref o)] below meth c s₁ [] 0 0 := Stand.of_body Bd
  have e0 : s₁.heap = h0 := by rw [← hh, Bd.state]; rfl
  have N0 := Fr.nil n0
  have pre0 : ∀ zz, Steps p.tables e below (s₁.setTop (mkF m 0 #[.val (.ref o), .unset] [])) zz → Steps p.tables e below (s₁.setTop (entryFrame m #[(.ref o)] 2)) zz := fun zz kz_ => castTop (ef_8 m o) kz_
  obtain ⟨EO, b, FV, FC, FB, EB⟩ := S
  have hbo : b ≠ o := EB.ne EO (by decide)
  obtain ⟨T119, X119, e119, st119⟩ := getF X0 hx hZ hown (host := "") (Or.inl (hwi hw 40 rfl)) Via.refl e0 FH (g := (mkF m 1 #[.val (.ref o), .unset] [(.ref o)])) rfl rfl (hb hby d8_1)
  obtain ⟨T120, X120, e120, st120⟩ := getF X119 hx hZ hown (host := "") (Or.inl (hwi hw 42 rfl)) Via.refl e119 FZ (g := (mkF m 10 #[.val (.ref o), .val (.int (0 : Int32))] [(.ref o)])) rfl rfl (hb hby d8_10)
  obtain ⟨cq121, kq121, q121a, q121b, q121c⟩ := isOf hZ e120 EO
  obtain ⟨_, _, ⟨T121, L121, k121, n121⟩, -, X121, ⟨Lc121, hQ121, l121, y121, z121⟩, st121⟩ := X120.virtualBack hx (y := (⟨"java/lang/String", "isLatin1", "()Z"⟩ : MethodName)) (z := (⟨"java/lang/String", "isLatin1", "()Z"⟩ : MethodName)) hown (mvT hZ (hwi hw 44 rfl)) (mvT hZ (hwi hw 45 rfl)) (notFace_of_selects (args := #[]) (mvT hZ (hwi hw 47 rfl))) (mvT hZ (hwi hw 47 rfl)) (mvT hZ (hwi hw 46 rfl)) (by decide) (backOf (W := 0) (rmIL0 l Z a0 hw [] o h0 n0 Z0 O SK EO FC) hZ (hwi hw 48 rfl) (hwi hw 3 rfl) (by decide) (by decide)) q121a q121c (g := (mkF m 17 #[.val (.ref o), .val (.int (0 : Int32))] [(.ref o)])) rfl (by rw [hml]; rfl) (Steps.refl _) (argsL := []) (rest := []) (lenOf pd_8 rfl) rfl (by show 2 * 0 + _ ≤ _; exact Nat.le_of_eq rfl) (hb hby d8_17) (fun _ _ => ⟨rfl, e120, (by decide : 0 + 0 ≤ _), (by decide : 0 + 0 ≤ _)⟩)
  dsimp only [Pt.U, Pt.locs, Pt.cells, Pt.slots] at X121 l121 y121 z121 st121 hQ121
  obtain rfl : k121 = 0 := y121; obtain rfl : n121 = 0 := z121
  obtain ⟨rfl, N121q, e121⟩ := hQ121
  have N121 : Fr n0 L121 := by rw [l121]; exact Fr.app N0 N121q
  obtain ⟨T122, X122, e122, st122⟩ := getF X121 hx hZ hown (host := "") (Or.inl (hwi hw 29 rfl)) Via.refl e121 FV (g := (mkF m 24 #[.val (.ref o), .val (.int (0 : Int32))] [(.ref o)])) rfl rfl (hb hby d8_24)
  obtain ⟨_, _, ⟨T123, L123, k123, n123⟩, -, X123, ⟨Lc123, hQ123, l123, y123, z123⟩, st123⟩ := Jvm.LawKit.callS X122 hx (y := (⟨"java/lang/StringLatin1", "hashCode", "([B)I"⟩ : MethodName)) hown (mvT hZ (hwi hw 49 rfl)) (mvT hZ (hwi hw 50 rfl)) (mvT hZ (hwi hw 51 rfl)) (mvT hZ (hwi hw 52 rfl)) (by decide) (backOf (W := 0) (rmLH0 l Z a0 hw [] b w h0 n0 Z0 EB FB) hZ (hwi hw 52 rfl) (hwi hw 51 rfl) (by decide) (by decide)) (g := (mkF m 27 #[.val (.ref o), .val (.int (0 : Int32))] [(.ref b)])) rfl (by rw [hml]; rfl) (argsL := [(.ref b)]) (rest := []) (lenOf pd_9 rfl) rfl (by show 2 * 0 + _ ≤ _; exact Nat.le_of_eq rfl) (hb hby d8_27) (fun _ _ => ⟨rfl, e122, (by decide : 0 + 0 ≤ _), (by decide : 0 + 0 ≤ _)⟩)
  dsimp only [Pt.U, Pt.locs, Pt.cells, Pt.slots] at X123 l123 y123 z123 st123 hQ123
  obtain rfl : k123 = 0 := y123; obtain rfl : n123 = 0 := z123
  obtain ⟨rfl, N123q, e123⟩ := hQ123
  have N123 : Fr n0 L123 := by rw [l123]; exact Fr.app N121 N123q
  obtain ⟨T124, h124, X124, e124, W124, st124⟩ := putF X123 hx hZ hown (host := "") (Or.inl (hwi hw 40 rfl)) Via.refl e123 FH EO (Or.inl (hwi hw 41 rfl)) (hwi hw 2 rfl) (ty := .int) (by decide) rfl rfl (g := (mkF m 55 #[.val (.ref o), .val (.int (-1791128108 : Int32))] [(.int (-1791128108 : Int32)), (.ref o)])) rfl rfl (hb hby d8_55)
  have Fw124 := FH.same W124
  have EO_e124 := EO.wr W124
  have FV_e124 := FV.other W124 (Or.inr (slot_ne (Or.inr (hwi hw 30 rfl)) (Or.inl (hwi hw 41 rfl)) (by decide) (t := (.array .byte)) (t' := .int) (by decide) (by decide)))
  have FC_e124 := FC.other W124 (Or.inr (slot_ne (Or.inr (hwi hw 28 rfl)) (Or.inl (hwi hw 41 rfl)) (by decide) (t := .byte) (t' := .int) (by decide) (by decide)))
  have FZ_e124 := FZ.other W124 (Or.inr (slot_ne (Or.inl (hwi hw 43 rfl)) (Or.inl (hwi hw 41 rfl)) (by decide) (t := .boolean) (t' := .int) (by decide) (by decide)))
  have FB_e124 := FB.other W124 hbo
  have EB_e124 := EB.wr W124
  have N124 := Fr.snoc X124 N123 g_o
  have K124 := (Keep.refl h0 [o]).wr W124 (Or.inl (List.mem_of_getElem? (i := 0) rfl))
  have Z124 : n0 ≤ h124.size := Nat.le_trans Z0 (Keep.of_wr W124).1
  have O124 := O.wr W124 g_o
  obtain ⟨fs, hr, hrun, hended, hW, hsame⟩ := X124.leave (v := some (.int (-1791128108 : Int32))) (fun h => by rw [Bd.returns] at h; cases h)
  refine ⟨_, _, pre0 _ ?_, hrun, hended, _, _, rfl, ?_, ⟨_, rfl⟩, hW, hsame.mono (by decide) (by decide)⟩
  · show Steps p.tables e below (s₁.setTop (mkF m 0 #[.val (.ref o), .unset] [])) _
    refine XS.aloadN X0.here hx rfl (hb hby d8_0) rfl rfl ?_
    show Steps p.tables e below (s₁.setTop (mkF m 1 #[.val (.ref o), .unset] [(.ref o)])) _
    refine st119 _ ?_
    refine XS.istoreN X119.here hx rfl (hb hby d8_4) rfl (l' := #[.val (.ref o), .val (.int (0 : Int32))]) rfl ?_
    refine XS.iloadN X119.here hx rfl (hb hby d8_5) rfl ?_
    refine XS.ifNo X119.here hx rfl (hb hby d8_6) rfl ((if0 _ _).trans (teq (rfl : (0 : Int32) = (0 : Int32))).2) ?_
    refine XS.aloadN X119.here hx rfl (hb hby d8_9) rfl rfl ?_
    show Steps p.tables e below (T119.setTop (mkF m 10 #[.val (.ref o), .val (.int (0 : Int32))] [(.ref o)])) _
    refine st120 _ ?_
    refine XS.ifNo X120.here hx rfl (hb hby d8_13) rfl ((if0 _ _).trans (teq (rfl : (0 : Int32) = (0 : Int32))).2) ?_
    refine XS.aloadN X120.here hx rfl (hb hby d8_16) rfl rfl ?_
    show Steps p.tables e below (T120.setTop (mkF m 17 #[.val (.ref o), .val (.int (0 : Int32))] [(.ref o)])) _
    refine st121.trans ?_
    refine XS.ifNo X121.here hx rfl (hb hby d8_20) rfl ((if0 _ _).trans (feq (by decide : ¬ ((1 : Int32) = (0 : Int32)))).1) ?_
    refine XS.aloadN X121.here hx rfl (hb hby d8_23) rfl rfl ?_
    show Steps p.tables e below (T121.setTop (mkF m 24 #[.val (.ref o), .val (.int (0 : Int32))] [(.ref o)])) _
    refine st122 _ ?_
    show Steps p.tables e below (T122.setTop (mkF m 27 #[.val (.ref o), .val (.int (0 : Int32))] [(.ref b)])) _
    refine st123 _ ?_
    refine XS.goto X123.here hx rfl (pc0 := 30) (pc' := 40) rfl (hb hby d8_30) (by decide) (by decide) ?_
    show Steps p.tables e below (T123.setTop (mkF m 40 #[.val (.ref o), .val (.int (0 : Int32))] [(.int (hashF w 7))])) _
    rw [show (hashF w 7) = (-1791128108 : Int32) from hv]
    show Steps p.tables e below (T123.setTop (mkF m 40 #[.val (.ref o), .val (.int (0 : Int32))] [(.int (-1791128108 : Int32))])) _
    refine XS.istoreN X123.here hx rfl (hb hby d8_40) rfl (l' := #[.val (.ref o), .val (.int (-1791128108 : Int32))]) rfl ?_
    refine XS.iloadN X123.here hx rfl (hb hby d8_41) rfl ?_
    refine XS.ifYes X123.here hx rfl (pc0 := 42) (pc' := 53) rfl (hb hby d8_42) rfl ((if0 _ _).trans (feq (by decide : ¬ ((-1791128108 : Int32) = (0 : Int32)))).2) (by decide) (by decide) ?_
    refine XS.aloadN X123.here hx rfl (hb hby d8_53) rfl rfl ?_
    refine XS.iloadN X123.here hx rfl (hb hby d8_54) rfl ?_
    show Steps p.tables e below (T123.setTop (mkF m 55 #[.val (.ref o), .val (.int (-1791128108 : Int32))] [(.int (-1791128108 : Int32)), (.ref o)])) _
    refine st124 _ ?_
    refine XS.iloadN X124.here hx rfl (hb hby d8_58) rfl ?_
    show Steps p.tables e below (T124.setTop (mkF m 59 #[.val (.ref o), .val (.int (-1791128108 : Int32))] [(.int (-1791128108 : Int32))])) _
    exact retI X124 hx Bd.returns (hb hby d8_59) hr
  · show QH Z o 7 (fun j => Value.int (w j)) (-1791128108 : Int32) h0 n0 _ T124.heap _
    exact ⟨rfl, N124, by rw [e124]; exact K124, by rw [e124]; exact ⟨EO_e124, b, FV_e124, FC_e124, FB_e124⟩⟩
set_option maxRecDepth 65536 in
set_option maxHeartbeats 40000000 in
theorem rmLH1 (l : Launch) (Z : State) (a0 : Array Value) (hw : ∀ d ∈ tables_1, d.before a0 Z = true) (ws : List Jvm.Cond) (b : Addr) (w : Nat → Int32)  (h0 : Heap) (n0 : Nat) (Z0 : n0 ≤ h0.size) (EB : Exa Z h0 b "[B") (FB : AF Z h0 b .byte 5 (fun j => Value.int (w j)))  :
    MetFree l (⟨"java/lang/StringLatin1", "hashCode", "([B)I"⟩ : MethodName) (head1 (Jvm.Cond.code (⟨"java/lang/StringLatin1", "hashCode", "([B)I"⟩ : MethodName) jdk_43_method_21_code 1 (some .int) :: ws) ({ frames := 2, cells := 0, slots := 0, locals := 46 } : Room)) (fun aa_ U_ => aa_ = #[(.ref b)] ∧ Z.Warmed39 U_.vm ∧ U_.heap = h0) (fun _ _ _ _ _ => True) (fun _ U_ o_ V_ => ∃ v_ L_, o_ = .returned v_ ∧ QI (hashF w 5) h0 n0 v_ V_.heap L_ ∧ FrameEnd U_ o_ V_ L_ ({ frames := 2, cells := 0, slots := 0, locals := 46 } : Room).cells ({ frames := 2, cells := 0, slots := 0, locals := 46 } : Room).slots) := by
  refine MetFree.of_bodySF (plainFor_of_name pn_10) hisR ?_
  intro p e s m args below meth c s₁ Bd hml0 hP hK
  obtain ⟨rfl, hZ, hh⟩ := hP
  have hx := Bd.exec
  have hby := Bd.bytes
  have hml : c.maxLocals = 1 := hml0
  have hown : s.vm.findClass "java/lang/StringLatin1" = some m.cls := findClass_of_methodNamed Bd.named
  have hnm := (name_of_methodNamed Bd.named Bd.method).1
  have X0 : Stand p l e ({ frames := 2, cells := 0, slots := 0, locals := 46 } : Room) s m #[(.ref b)] below meth c s₁ [] 0 0 := Stand.of_body Bd
  have e0 : s₁.heap = h0 := by rw [← hh, Bd.state]; rfl
  have N0 := Fr.nil n0
  have pre0 : ∀ zz, Steps p.tables e below (s₁.setTop (mkF m 0 #[.val (.ref b)] [])) zz → Steps p.tables e below (s₁.setTop (entryFrame m #[(.ref b)] 1)) zz := fun zz kz_ => castTop (ef_10 m b) kz_
  obtain ⟨_, _, ⟨T125, L125, k125, n125⟩, -, X125, ⟨Lc125, hQ125, l125, y125, z125⟩, st125⟩ := Jvm.LawKit.callS X0 hx (y := (⟨"jdk/internal/util/ArraysSupport", "vectorizedHashCode", "(Ljava/lang/Object;IIII)I"⟩ : MethodName)) hown (mvT hZ (hwi hw 53 rfl)) (mvT hZ (hwi hw 54 rfl)) (mvT hZ (hwi hw 55 rfl)) (mvT hZ (hwi hw 56 rfl)) (by decide) (backOf (W := 0) (rmVH l Z a0 hw [] b 5 w h0 n0 Z0 (by decide) EB FB) hZ (hwi hw 56 rfl) (hwi hw 55 rfl) (by decide) (by decide)) (g := (mkF m 48 #[.val (.ref b)] [(.int (4 : Int32)), (.int (0 : Int32)), (.int (Int32.ofNat 5)), (.int (0 : Int32)), (.ref b)])) rfl (by rw [hml]; rfl) (argsL := [(.ref b), (.int (0 : Int32)), (.int (Int32.ofNat 5)), (.int (0 : Int32)), (.int (4 : Int32))]) (rest := []) (lenOf pd_10 rfl) rfl (by show 2 * 0 + _ ≤ _; exact Nat.le_of_eq rfl) (hb hby d10_48) (fun _ _ => ⟨rfl, e0, (by decide : 0 + 0 ≤ _), (by decide : 0 + 0 ≤ _)⟩)
  dsimp only [Pt.U, Pt.locs, Pt.cells, Pt.slots] at X125 l125 y125 z125 st125 hQ125
  obtain rfl : k125 = 0 := y125; obtain rfl : n125 = 0 := z125
  obtain ⟨rfl, N125q, e125⟩ := hQ125
  have N125 : Fr n0 L125 := by rw [l125]; exact Fr.app N0 N125q
  obtain ⟨fs, hr, hrun, hended, hW, hsame⟩ := X125.leave (v := some (.int (hashF w 5))) (fun h => by rw [Bd.returns] at h; cases h)
  refine ⟨_, _, pre0 _ ?_, hrun, hended, _, _, rfl, ?_, ⟨_, rfl⟩, hW, hsame.mono (by decide) (by decide)⟩
  · show Steps p.tables e below (s₁.setTop (mkF m 0 #[.val (.ref b)] [])) _
    refine XS.aloadN X0.here hx rfl (hb hby d10_0) rfl rfl ?_
    show Steps p.tables e below (s₁.setTop (mkF m 1 #[.val (.ref b)] [(.ref b)])) _
    refine lenA X0 hx hZ e0 FB (g := (mkF m 1 #[.val (.ref b)] [(.ref b)])) rfl rfl (hb hby d10_1) ?_
    show Steps p.tables e below (s₁.setTop (mkF m 2 #[.val (.ref b)] [(.int (Int32.ofNat 5))])) _
    rw [show (Int32.ofNat 5) = (5 : Int32) from rfl]
    show Steps p.tables e below (s₁.setTop (mkF m 2 #[.val (.ref b)] [(.int (5 : Int32))])) _
    refine Jvm.Stand.lookupswitchMiss X0 hx (g := (mkF m 2 #[.val (.ref b)] [(.int (5 : Int32))])) rfl rfl (hb hby d10_2) (by decide) (by decide) (by show (0 : Int) ≤ ((2 : Nat) : Int) + 40; decide) _ ?_
    show Steps p.tables e below (s₁.setTop (mkF m 42 #[.val (.ref b)] [])) _
    refine XS.aloadN X0.here hx rfl (hb hby d10_42) rfl rfl ?_
    refine XS.iconst X0.here hx rfl (hb hby d10_43) ?_
    refine XS.aloadN X0.here hx rfl (hb hby d10_44) rfl rfl ?_
    show Steps p.tables e below (s₁.setTop (mkF m 45 #[.val (.ref b)] [(.ref b), (.int (0 : Int32)), (.ref b)])) _
    refine lenA X0 hx hZ e0 FB (g := (mkF m 45 #[.val (.ref b)] [(.ref b), (.int (0 : Int32)), (.ref b)])) rfl rfl (hb hby d10_45) ?_
    refine XS.iconst X0.here hx rfl (hb hby d10_46) ?_
    refine XS.iconst X0.here hx rfl (hb hby d10_47) ?_
    show Steps p.tables e below (s₁.setTop (mkF m 48 #[.val (.ref b)] [(.int (4 : Int32)), (.int (0 : Int32)), (.int (Int32.ofNat 5)), (.int (0 : Int32)), (.ref b)])) _
    refine st125 _ ?_
    show Steps p.tables e below (T125.setTop (mkF m 51 #[.val (.ref b)] [(.int (hashF w 5))])) _
    exact retI X125 hx Bd.returns (hb hby d10_51) hr
  · show QI (hashF w 5) h0 n0 _ T125.heap _
    rw [e125]
    exact ⟨rfl, N125, rfl⟩
set_option maxRecDepth 65536 in
set_option maxHeartbeats 40000000 in
theorem rmHC1 (l : Launch) (Z : State) (a0 : Array Value) (hw : ∀ d ∈ tables_1, d.before a0 Z = true) (ws : List Jvm.Cond) (o : Addr) (w : Nat → Int32)  (h0 : Heap) (n0 : Nat) (Z0 : n0 ≤ h0.size) (O : Old Z n0 h0) (SK : StrSta Z) (g_o : n0 ≤ o) (hv : hashF w 5 = (74798178 : Int32)) (S : StrX Z h0 o 5 (fun j => Value.int (w j))) (FH : Fld Z h0 o "java/lang/String" "hash" "I" (.int (0 : Int32))) (FZ : Fld Z h0 o "java/lang/String" "hashIsZero" "Z" (.int (0 : Int32)))  :
    MetFree l (⟨"java/lang/String", "hashCode", "()I"⟩ : MethodName) (head1 (Jvm.Cond.code (⟨"java/lang/String", "hashCode", "()I"⟩ : MethodName) jdk_42_method_78_code 2 (some .int) :: ws) ({ frames := 3, cells := 0, slots := 0, locals := 70 } : Room)) (fun aa_ U_ => aa_ = #[(.ref o)] ∧ Z.Warmed39 U_.vm ∧ U_.heap = h0) (fun _ _ _ _ _ => True) (fun _ U_ o_ V_ => ∃ v_ L_, o_ = .returned v_ ∧ QH Z o 5 (fun j => Value.int (w j)) (74798178 : Int32) h0 n0 v_ V_.heap L_ ∧ FrameEnd U_ o_ V_ L_ ({ frames := 3, cells := 0, slots := 0, locals := 70 } : Room).cells ({ frames := 3, cells := 0, slots := 0, locals := 70 } : Room).slots) := by
  refine MetFree.of_bodySF (plainFor_of_name pn_8) hisR ?_
  intro p e s m args below meth c s₁ Bd hml0 hP hK
  obtain ⟨rfl, hZ, hh⟩ := hP
  have hx := Bd.exec
  have hby := Bd.bytes
  have hml : c.maxLocals = 2 := hml0
  have hown : s.vm.findClass "java/lang/String" = some m.cls := findClass_of_methodNamed Bd.named
  have hnm := (name_of_methodNamed Bd.named Bd.method).1
  have X0 : Stand p l e ({ frames := 3, cells := 0, slots := 0, locals := 70 } : Room) s m #[(.ref o)] below meth c s₁ [] 0 0 := Stand.of_body Bd
  have e0 : s₁.heap = h0 := by rw [← hh, Bd.state]; rfl
  have N0 := Fr.nil n0
  have pre0 : ∀ zz, Steps p.tables e below (s₁.setTop (mkF m 0 #[.val (.ref o), .unset] [])) zz → Steps p.tables e below (s₁.setTop (entryFrame m #[(.ref o)] 2)) zz := fun zz kz_ => castTop (ef_8 m o) kz_
  obtain ⟨EO, b, FV, FC, FB, EB⟩ := S
  have hbo : b ≠ o := EB.ne EO (by decide)
  obtain ⟨T126, X126, e126, st126⟩ := getF X0 hx hZ hown (host := "") (Or.inl (hwi hw 40 rfl)) Via.refl e0 FH (g := (mkF m 1 #[.val (.ref o), .unset] [(.ref o)])) rfl rfl (hb hby d8_1)
  obtain ⟨T127, X127, e127, st127⟩ := getF X126 hx hZ hown (host := "") (Or.inl (hwi hw 42 rfl)) Via.refl e126 FZ (g := (mkF m 10 #[.val (.ref o), .val (.int (0 : Int32))] [(.ref o)])) rfl rfl (hb hby d8_10)
  obtain ⟨cq128, kq128, q128a, q128b, q128c⟩ := isOf hZ e127 EO
  obtain ⟨_, _, ⟨T128, L128, k128, n128⟩, -, X128, ⟨Lc128, hQ128, l128, y128, z128⟩, st128⟩ := X127.virtualBack hx (y := (⟨"java/lang/String", "isLatin1", "()Z"⟩ : MethodName)) (z := (⟨"java/lang/String", "isLatin1", "()Z"⟩ : MethodName)) hown (mvT hZ (hwi hw 44 rfl)) (mvT hZ (hwi hw 45 rfl)) (notFace_of_selects (args := #[]) (mvT hZ (hwi hw 47 rfl))) (mvT hZ (hwi hw 47 rfl)) (mvT hZ (hwi hw 46 rfl)) (by decide) (backOf (W := 0) (rmIL0 l Z a0 hw [] o h0 n0 Z0 O SK EO FC) hZ (hwi hw 48 rfl) (hwi hw 3 rfl) (by decide) (by decide)) q128a q128c (g := (mkF m 17 #[.val (.ref o), .val (.int (0 : Int32))] [(.ref o)])) rfl (by rw [hml]; rfl) (Steps.refl _) (argsL := []) (rest := []) (lenOf pd_8 rfl) rfl (by show 2 * 0 + _ ≤ _; exact Nat.le_of_eq rfl) (hb hby d8_17) (fun _ _ => ⟨rfl, e127, (by decide : 0 + 0 ≤ _), (by decide : 0 + 0 ≤ _)⟩)
  dsimp only [Pt.U, Pt.locs, Pt.cells, Pt.slots] at X128 l128 y128 z128 st128 hQ128
  obtain rfl : k128 = 0 := y128; obtain rfl : n128 = 0 := z128
  obtain ⟨rfl, N128q, e128⟩ := hQ128
  have N128 : Fr n0 L128 := by rw [l128]; exact Fr.app N0 N128q
  obtain ⟨T129, X129, e129, st129⟩ := getF X128 hx hZ hown (host := "") (Or.inl (hwi hw 29 rfl)) Via.refl e128 FV (g := (mkF m 24 #[.val (.ref o), .val (.int (0 : Int32))] [(.ref o)])) rfl rfl (hb hby d8_24)
  obtain ⟨_, _, ⟨T130, L130, k130, n130⟩, -, X130, ⟨Lc130, hQ130, l130, y130, z130⟩, st130⟩ := Jvm.LawKit.callS X129 hx (y := (⟨"java/lang/StringLatin1", "hashCode", "([B)I"⟩ : MethodName)) hown (mvT hZ (hwi hw 49 rfl)) (mvT hZ (hwi hw 50 rfl)) (mvT hZ (hwi hw 51 rfl)) (mvT hZ (hwi hw 52 rfl)) (by decide) (backOf (W := 0) (rmLH1 l Z a0 hw [] b w h0 n0 Z0 EB FB) hZ (hwi hw 52 rfl) (hwi hw 51 rfl) (by decide) (by decide)) (g := (mkF m 27 #[.val (.ref o), .val (.int (0 : Int32))] [(.ref b)])) rfl (by rw [hml]; rfl) (argsL := [(.ref b)]) (rest := []) (lenOf pd_9 rfl) rfl (by show 2 * 0 + _ ≤ _; exact Nat.le_of_eq rfl) (hb hby d8_27) (fun _ _ => ⟨rfl, e129, (by decide : 0 + 0 ≤ _), (by decide : 0 + 0 ≤ _)⟩)
  dsimp only [Pt.U, Pt.locs, Pt.cells, Pt.slots] at X130 l130 y130 z130 st130 hQ130
  obtain rfl : k130 = 0 := y130; obtain rfl : n130 = 0 := z130
  obtain ⟨rfl, N130q, e130⟩ := hQ130
  have N130 : Fr n0 L130 := by rw [l130]; exact Fr.app N128 N130q
  obtain ⟨T131, h131, X131, e131, W131, st131⟩ := putF X130 hx hZ hown (host := "") (Or.inl (hwi hw 40 rfl)) Via.refl e130 FH EO (Or.inl (hwi hw 41 rfl)) (hwi hw 2 rfl) (ty := .int) (by decide) rfl rfl (g := (mkF m 55 #[.val (.ref o), .val (.int (74798178 : Int32))] [(.int (74798178 : Int32)), (.ref o)])) rfl rfl (hb hby d8_55)
  have Fw131 := FH.same W131
  have EO_e131 := EO.wr W131
  have FV_e131 := FV.other W131 (Or.inr (slot_ne (Or.inr (hwi hw 30 rfl)) (Or.inl (hwi hw 41 rfl)) (by decide) (t := (.array .byte)) (t' := .int) (by decide) (by decide)))
  have FC_e131 := FC.other W131 (Or.inr (slot_ne (Or.inr (hwi hw 28 rfl)) (Or.inl (hwi hw 41 rfl)) (by decide) (t := .byte) (t' := .int) (by decide) (by decide)))
  have FZ_e131 := FZ.other W131 (Or.inr (slot_ne (Or.inl (hwi hw 43 rfl)) (Or.inl (hwi hw 41 rfl)) (by decide) (t := .boolean) (t' := .int) (by decide) (by decide)))
  have FB_e131 := FB.other W131 hbo
  have EB_e131 := EB.wr W131
  have N131 := Fr.snoc X131 N130 g_o
  have K131 := (Keep.refl h0 [o]).wr W131 (Or.inl (List.mem_of_getElem? (i := 0) rfl))
  have Z131 : n0 ≤ h131.size := Nat.le_trans Z0 (Keep.of_wr W131).1
  have O131 := O.wr W131 g_o
  obtain ⟨fs, hr, hrun, hended, hW, hsame⟩ := X131.leave (v := some (.int (74798178 : Int32))) (fun h => by rw [Bd.returns] at h; cases h)
  refine ⟨_, _, pre0 _ ?_, hrun, hended, _, _, rfl, ?_, ⟨_, rfl⟩, hW, hsame.mono (by decide) (by decide)⟩
  · show Steps p.tables e below (s₁.setTop (mkF m 0 #[.val (.ref o), .unset] [])) _
    refine XS.aloadN X0.here hx rfl (hb hby d8_0) rfl rfl ?_
    show Steps p.tables e below (s₁.setTop (mkF m 1 #[.val (.ref o), .unset] [(.ref o)])) _
    refine st126 _ ?_
    refine XS.istoreN X126.here hx rfl (hb hby d8_4) rfl (l' := #[.val (.ref o), .val (.int (0 : Int32))]) rfl ?_
    refine XS.iloadN X126.here hx rfl (hb hby d8_5) rfl ?_
    refine XS.ifNo X126.here hx rfl (hb hby d8_6) rfl ((if0 _ _).trans (teq (rfl : (0 : Int32) = (0 : Int32))).2) ?_
    refine XS.aloadN X126.here hx rfl (hb hby d8_9) rfl rfl ?_
    show Steps p.tables e below (T126.setTop (mkF m 10 #[.val (.ref o), .val (.int (0 : Int32))] [(.ref o)])) _
    refine st127 _ ?_
    refine XS.ifNo X127.here hx rfl (hb hby d8_13) rfl ((if0 _ _).trans (teq (rfl : (0 : Int32) = (0 : Int32))).2) ?_
    refine XS.aloadN X127.here hx rfl (hb hby d8_16) rfl rfl ?_
    show Steps p.tables e below (T127.setTop (mkF m 17 #[.val (.ref o), .val (.int (0 : Int32))] [(.ref o)])) _
    refine st128.trans ?_
    refine XS.ifNo X128.here hx rfl (hb hby d8_20) rfl ((if0 _ _).trans (feq (by decide : ¬ ((1 : Int32) = (0 : Int32)))).1) ?_
    refine XS.aloadN X128.here hx rfl (hb hby d8_23) rfl rfl ?_
    show Steps p.tables e below (T128.setTop (mkF m 24 #[.val (.ref o), .val (.int (0 : Int32))] [(.ref o)])) _
    refine st129 _ ?_
    show Steps p.tables e below (T129.setTop (mkF m 27 #[.val (.ref o), .val (.int (0 : Int32))] [(.ref b)])) _
    refine st130 _ ?_
    refine XS.goto X130.here hx rfl (pc0 := 30) (pc' := 40) rfl (hb hby d8_30) (by decide) (by decide) ?_
    show Steps p.tables e below (T130.setTop (mkF m 40 #[.val (.ref o), .val (.int (0 : Int32))] [(.int (hashF w 5))])) _
    rw [show (hashF w 5) = (74798178 : Int32) from hv]
    show Steps p.tables e below (T130.setTop (mkF m 40 #[.val (.ref o), .val (.int (0 : Int32))] [(.int (74798178 : Int32))])) _
    refine XS.istoreN X130.here hx rfl (hb hby d8_40) rfl (l' := #[.val (.ref o), .val (.int (74798178 : Int32))]) rfl ?_
    refine XS.iloadN X130.here hx rfl (hb hby d8_41) rfl ?_
    refine XS.ifYes X130.here hx rfl (pc0 := 42) (pc' := 53) rfl (hb hby d8_42) rfl ((if0 _ _).trans (feq (by decide : ¬ ((74798178 : Int32) = (0 : Int32)))).2) (by decide) (by decide) ?_
    refine XS.aloadN X130.here hx rfl (hb hby d8_53) rfl rfl ?_
    refine XS.iloadN X130.here hx rfl (hb hby d8_54) rfl ?_
    show Steps p.tables e below (T130.setTop (mkF m 55 #[.val (.ref o), .val (.int (74798178 : Int32))] [(.int (74798178 : Int32)), (.ref o)])) _
    refine st131 _ ?_
    refine XS.iloadN X131.here hx rfl (hb hby d8_58) rfl ?_
    show Steps p.tables e below (T131.setTop (mkF m 59 #[.val (.ref o), .val (.int (74798178 : Int32))] [(.int (74798178 : Int32))])) _
    exact retI X131 hx Bd.returns (hb hby d8_59) hr
  · show QH Z o 5 (fun j => Value.int (w j)) (74798178 : Int32) h0 n0 _ T131.heap _
    exact ⟨rfl, N131, by rw [e131]; exact K131, by rw [e131]; exact ⟨EO_e131, b, FV_e131, FC_e131, FB_e131⟩⟩
set_option maxRecDepth 65536 in
set_option maxHeartbeats 40000000 in
theorem rmLH2 (l : Launch) (Z : State) (a0 : Array Value) (hw : ∀ d ∈ tables_1, d.before a0 Z = true) (ws : List Jvm.Cond) (b : Addr) (w : Nat → Int32)  (h0 : Heap) (n0 : Nat) (Z0 : n0 ≤ h0.size) (EB : Exa Z h0 b "[B") (FB : AF Z h0 b .byte 10 (fun j => Value.int (w j)))  :
    MetFree l (⟨"java/lang/StringLatin1", "hashCode", "([B)I"⟩ : MethodName) (head1 (Jvm.Cond.code (⟨"java/lang/StringLatin1", "hashCode", "([B)I"⟩ : MethodName) jdk_43_method_21_code 1 (some .int) :: ws) ({ frames := 2, cells := 0, slots := 0, locals := 46 } : Room)) (fun aa_ U_ => aa_ = #[(.ref b)] ∧ Z.Warmed39 U_.vm ∧ U_.heap = h0) (fun _ _ _ _ _ => True) (fun _ U_ o_ V_ => ∃ v_ L_, o_ = .returned v_ ∧ QI (hashF w 10) h0 n0 v_ V_.heap L_ ∧ FrameEnd U_ o_ V_ L_ ({ frames := 2, cells := 0, slots := 0, locals := 46 } : Room).cells ({ frames := 2, cells := 0, slots := 0, locals := 46 } : Room).slots) := by
  refine MetFree.of_bodySF (plainFor_of_name pn_10) hisR ?_
  intro p e s m args below meth c s₁ Bd hml0 hP hK
  obtain ⟨rfl, hZ, hh⟩ := hP
  have hx := Bd.exec
  have hby := Bd.bytes
  have hml : c.maxLocals = 1 := hml0
  have hown : s.vm.findClass "java/lang/StringLatin1" = some m.cls := findClass_of_methodNamed Bd.named
  have hnm := (name_of_methodNamed Bd.named Bd.method).1
  have X0 : Stand p l e ({ frames := 2, cells := 0, slots := 0, locals := 46 } : Room) s m #[(.ref b)] below meth c s₁ [] 0 0 := Stand.of_body Bd
  have e0 : s₁.heap = h0 := by rw [← hh, Bd.state]; rfl
  have N0 := Fr.nil n0
  have pre0 : ∀ zz, Steps p.tables e below (s₁.setTop (mkF m 0 #[.val (.ref b)] [])) zz → Steps p.tables e below (s₁.setTop (entryFrame m #[(.ref b)] 1)) zz := fun zz kz_ => castTop (ef_10 m b) kz_
  obtain ⟨_, _, ⟨T132, L132, k132, n132⟩, -, X132, ⟨Lc132, hQ132, l132, y132, z132⟩, st132⟩ := Jvm.LawKit.callS X0 hx (y := (⟨"jdk/internal/util/ArraysSupport", "vectorizedHashCode", "(Ljava/lang/Object;IIII)I"⟩ : MethodName)) hown (mvT hZ (hwi hw 53 rfl)) (mvT hZ (hwi hw 54 rfl)) (mvT hZ (hwi hw 55 rfl)) (mvT hZ (hwi hw 56 rfl)) (by decide) (backOf (W := 0) (rmVH l Z a0 hw [] b 10 w h0 n0 Z0 (by decide) EB FB) hZ (hwi hw 56 rfl) (hwi hw 55 rfl) (by decide) (by decide)) (g := (mkF m 48 #[.val (.ref b)] [(.int (4 : Int32)), (.int (0 : Int32)), (.int (Int32.ofNat 10)), (.int (0 : Int32)), (.ref b)])) rfl (by rw [hml]; rfl) (argsL := [(.ref b), (.int (0 : Int32)), (.int (Int32.ofNat 10)), (.int (0 : Int32)), (.int (4 : Int32))]) (rest := []) (lenOf pd_10 rfl) rfl (by show 2 * 0 + _ ≤ _; exact Nat.le_of_eq rfl) (hb hby d10_48) (fun _ _ => ⟨rfl, e0, (by decide : 0 + 0 ≤ _), (by decide : 0 + 0 ≤ _)⟩)
  dsimp only [Pt.U, Pt.locs, Pt.cells, Pt.slots] at X132 l132 y132 z132 st132 hQ132
  obtain rfl : k132 = 0 := y132; obtain rfl : n132 = 0 := z132
  obtain ⟨rfl, N132q, e132⟩ := hQ132
  have N132 : Fr n0 L132 := by rw [l132]; exact Fr.app N0 N132q
  obtain ⟨fs, hr, hrun, hended, hW, hsame⟩ := X132.leave (v := some (.int (hashF w 10))) (fun h => by rw [Bd.returns] at h; cases h)
  refine ⟨_, _, pre0 _ ?_, hrun, hended, _, _, rfl, ?_, ⟨_, rfl⟩, hW, hsame.mono (by decide) (by decide)⟩
  · show Steps p.tables e below (s₁.setTop (mkF m 0 #[.val (.ref b)] [])) _
    refine XS.aloadN X0.here hx rfl (hb hby d10_0) rfl rfl ?_
    show Steps p.tables e below (s₁.setTop (mkF m 1 #[.val (.ref b)] [(.ref b)])) _
    refine lenA X0 hx hZ e0 FB (g := (mkF m 1 #[.val (.ref b)] [(.ref b)])) rfl rfl (hb hby d10_1) ?_
    show Steps p.tables e below (s₁.setTop (mkF m 2 #[.val (.ref b)] [(.int (Int32.ofNat 10))])) _
    rw [show (Int32.ofNat 10) = (10 : Int32) from rfl]
    show Steps p.tables e below (s₁.setTop (mkF m 2 #[.val (.ref b)] [(.int (10 : Int32))])) _
    refine Jvm.Stand.lookupswitchMiss X0 hx (g := (mkF m 2 #[.val (.ref b)] [(.int (10 : Int32))])) rfl rfl (hb hby d10_2) (by decide) (by decide) (by show (0 : Int) ≤ ((2 : Nat) : Int) + 40; decide) _ ?_
    show Steps p.tables e below (s₁.setTop (mkF m 42 #[.val (.ref b)] [])) _
    refine XS.aloadN X0.here hx rfl (hb hby d10_42) rfl rfl ?_
    refine XS.iconst X0.here hx rfl (hb hby d10_43) ?_
    refine XS.aloadN X0.here hx rfl (hb hby d10_44) rfl rfl ?_
    show Steps p.tables e below (s₁.setTop (mkF m 45 #[.val (.ref b)] [(.ref b), (.int (0 : Int32)), (.ref b)])) _
    refine lenA X0 hx hZ e0 FB (g := (mkF m 45 #[.val (.ref b)] [(.ref b), (.int (0 : Int32)), (.ref b)])) rfl rfl (hb hby d10_45) ?_
    refine XS.iconst X0.here hx rfl (hb hby d10_46) ?_
    refine XS.iconst X0.here hx rfl (hb hby d10_47) ?_
    show Steps p.tables e below (s₁.setTop (mkF m 48 #[.val (.ref b)] [(.int (4 : Int32)), (.int (0 : Int32)), (.int (Int32.ofNat 10)), (.int (0 : Int32)), (.ref b)])) _
    refine st132 _ ?_
    show Steps p.tables e below (T132.setTop (mkF m 51 #[.val (.ref b)] [(.int (hashF w 10))])) _
    exact retI X132 hx Bd.returns (hb hby d10_51) hr
  · show QI (hashF w 10) h0 n0 _ T132.heap _
    rw [e132]
    exact ⟨rfl, N132, rfl⟩
set_option maxRecDepth 65536 in
set_option maxHeartbeats 40000000 in
theorem rmHC2 (l : Launch) (Z : State) (a0 : Array Value) (hw : ∀ d ∈ tables_1, d.before a0 Z = true) (ws : List Jvm.Cond) (o : Addr) (w : Nat → Int32)  (h0 : Heap) (n0 : Nat) (Z0 : n0 ≤ h0.size) (O : Old Z n0 h0) (SK : StrSta Z) (g_o : n0 ≤ o) (hv : hashF w 10 = (-112048300 : Int32)) (S : StrX Z h0 o 10 (fun j => Value.int (w j))) (FH : Fld Z h0 o "java/lang/String" "hash" "I" (.int (0 : Int32))) (FZ : Fld Z h0 o "java/lang/String" "hashIsZero" "Z" (.int (0 : Int32)))  :
    MetFree l (⟨"java/lang/String", "hashCode", "()I"⟩ : MethodName) (head1 (Jvm.Cond.code (⟨"java/lang/String", "hashCode", "()I"⟩ : MethodName) jdk_42_method_78_code 2 (some .int) :: ws) ({ frames := 3, cells := 0, slots := 0, locals := 70 } : Room)) (fun aa_ U_ => aa_ = #[(.ref o)] ∧ Z.Warmed39 U_.vm ∧ U_.heap = h0) (fun _ _ _ _ _ => True) (fun _ U_ o_ V_ => ∃ v_ L_, o_ = .returned v_ ∧ QH Z o 10 (fun j => Value.int (w j)) (-112048300 : Int32) h0 n0 v_ V_.heap L_ ∧ FrameEnd U_ o_ V_ L_ ({ frames := 3, cells := 0, slots := 0, locals := 70 } : Room).cells ({ frames := 3, cells := 0, slots := 0, locals := 70 } : Room).slots) := by
  refine MetFree.of_bodySF (plainFor_of_name pn_8) hisR ?_
  intro p e s m args below meth c s₁ Bd hml0 hP hK
  obtain ⟨rfl, hZ, hh⟩ := hP
  have hx := Bd.exec
  have hby := Bd.bytes
  have hml : c.maxLocals = 2 := hml0
  have hown : s.vm.findClass "java/lang/String" = some m.cls := findClass_of_methodNamed Bd.named
  have hnm := (name_of_methodNamed Bd.named Bd.method).1
  have X0 : Stand p l e ({ frames := 3, cells := 0, slots := 0, locals := 70 } : Room) s m #[(.ref o)] below meth c s₁ [] 0 0 := Stand.of_body Bd
  have e0 : s₁.heap = h0 := by rw [← hh, Bd.state]; rfl
  have N0 := Fr.nil n0
  have pre0 : ∀ zz, Steps p.tables e below (s₁.setTop (mkF m 0 #[.val (.ref o), .unset] [])) zz → Steps p.tables e below (s₁.setTop (entryFrame m #[(.ref o)] 2)) zz := fun zz kz_ => castTop (ef_8 m o) kz_
  obtain ⟨EO, b, FV, FC, FB, EB⟩ := S
  have hbo : b ≠ o := EB.ne EO (by decide)
  obtain ⟨T133, X133, e133, st133⟩ := getF X0 hx hZ hown (host := "") (Or.inl (hwi hw 40 rfl)) Via.refl e0 FH (g := (mkF m 1 #[.val (.ref o), .unset] [(.ref o)])) rfl rfl (hb hby d8_1)
  obtain ⟨T134, X134, e134, st134⟩ := getF X133 hx hZ hown (host := "") (Or.inl (hwi hw 42 rfl)) Via.refl e133 FZ (g := (mkF m 10 #[.val (.ref o), .val (.int (0 : Int32))] [(.ref o)])) rfl rfl (hb hby d8_10)
  obtain ⟨cq135, kq135, q135a, q135b, q135c⟩ := isOf hZ e134 EO
  obtain ⟨_, _, ⟨T135, L135, k135, n135⟩, -, X135, ⟨Lc135, hQ135, l135, y135, z135⟩, st135⟩ := X134.virtualBack hx (y := (⟨"java/lang/String", "isLatin1", "()Z"⟩ : MethodName)) (z := (⟨"java/lang/String", "isLatin1", "()Z"⟩ : MethodName)) hown (mvT hZ (hwi hw 44 rfl)) (mvT hZ (hwi hw 45 rfl)) (notFace_of_selects (args := #[]) (mvT hZ (hwi hw 47 rfl))) (mvT hZ (hwi hw 47 rfl)) (mvT hZ (hwi hw 46 rfl)) (by decide) (backOf (W := 0) (rmIL0 l Z a0 hw [] o h0 n0 Z0 O SK EO FC) hZ (hwi hw 48 rfl) (hwi hw 3 rfl) (by decide) (by decide)) q135a q135c (g := (mkF m 17 #[.val (.ref o), .val (.int (0 : Int32))] [(.ref o)])) rfl (by rw [hml]; rfl) (Steps.refl _) (argsL := []) (rest := []) (lenOf pd_8 rfl) rfl (by show 2 * 0 + _ ≤ _; exact Nat.le_of_eq rfl) (hb hby d8_17) (fun _ _ => ⟨rfl, e134, (by decide : 0 + 0 ≤ _), (by decide : 0 + 0 ≤ _)⟩)
  dsimp only [Pt.U, Pt.locs, Pt.cells, Pt.slots] at X135 l135 y135 z135 st135 hQ135
  obtain rfl : k135 = 0 := y135; obtain rfl : n135 = 0 := z135
  obtain ⟨rfl, N135q, e135⟩ := hQ135
  have N135 : Fr n0 L135 := by rw [l135]; exact Fr.app N0 N135q
  obtain ⟨T136, X136, e136, st136⟩ := getF X135 hx hZ hown (host := "") (Or.inl (hwi hw 29 rfl)) Via.refl e135 FV (g := (mkF m 24 #[.val (.ref o), .val (.int (0 : Int32))] [(.ref o)])) rfl rfl (hb hby d8_24)
  obtain ⟨_, _, ⟨T137, L137, k137, n137⟩, -, X137, ⟨Lc137, hQ137, l137, y137, z137⟩, st137⟩ := Jvm.LawKit.callS X136 hx (y := (⟨"java/lang/StringLatin1", "hashCode", "([B)I"⟩ : MethodName)) hown (mvT hZ (hwi hw 49 rfl)) (mvT hZ (hwi hw 50 rfl)) (mvT hZ (hwi hw 51 rfl)) (mvT hZ (hwi hw 52 rfl)) (by decide) (backOf (W := 0) (rmLH2 l Z a0 hw [] b w h0 n0 Z0 EB FB) hZ (hwi hw 52 rfl) (hwi hw 51 rfl) (by decide) (by decide)) (g := (mkF m 27 #[.val (.ref o), .val (.int (0 : Int32))] [(.ref b)])) rfl (by rw [hml]; rfl) (argsL := [(.ref b)]) (rest := []) (lenOf pd_9 rfl) rfl (by show 2 * 0 + _ ≤ _; exact Nat.le_of_eq rfl) (hb hby d8_27) (fun _ _ => ⟨rfl, e136, (by decide : 0 + 0 ≤ _), (by decide : 0 + 0 ≤ _)⟩)
  dsimp only [Pt.U, Pt.locs, Pt.cells, Pt.slots] at X137 l137 y137 z137 st137 hQ137
  obtain rfl : k137 = 0 := y137; obtain rfl : n137 = 0 := z137
  obtain ⟨rfl, N137q, e137⟩ := hQ137
  have N137 : Fr n0 L137 := by rw [l137]; exact Fr.app N135 N137q
  obtain ⟨T138, h138, X138, e138, W138, st138⟩ := putF X137 hx hZ hown (host := "") (Or.inl (hwi hw 40 rfl)) Via.refl e137 FH EO (Or.inl (hwi hw 41 rfl)) (hwi hw 2 rfl) (ty := .int) (by decide) rfl rfl (g := (mkF m 55 #[.val (.ref o), .val (.int (-112048300 : Int32))] [(.int (-112048300 : Int32)), (.ref o)])) rfl rfl (hb hby d8_55)
  have Fw138 := FH.same W138
  have EO_e138 := EO.wr W138
  have FV_e138 := FV.other W138 (Or.inr (slot_ne (Or.inr (hwi hw 30 rfl)) (Or.inl (hwi hw 41 rfl)) (by decide) (t := (.array .byte)) (t' := .int) (by decide) (by decide)))
  have FC_e138 := FC.other W138 (Or.inr (slot_ne (Or.inr (hwi hw 28 rfl)) (Or.inl (hwi hw 41 rfl)) (by decide) (t := .byte) (t' := .int) (by decide) (by decide)))
  have FZ_e138 := FZ.other W138 (Or.inr (slot_ne (Or.inl (hwi hw 43 rfl)) (Or.inl (hwi hw 41 rfl)) (by decide) (t := .boolean) (t' := .int) (by decide) (by decide)))
  have FB_e138 := FB.other W138 hbo
  have EB_e138 := EB.wr W138
  have N138 := Fr.snoc X138 N137 g_o
  have K138 := (Keep.refl h0 [o]).wr W138 (Or.inl (List.mem_of_getElem? (i := 0) rfl))
  have Z138 : n0 ≤ h138.size := Nat.le_trans Z0 (Keep.of_wr W138).1
  have O138 := O.wr W138 g_o
  obtain ⟨fs, hr, hrun, hended, hW, hsame⟩ := X138.leave (v := some (.int (-112048300 : Int32))) (fun h => by rw [Bd.returns] at h; cases h)
  refine ⟨_, _, pre0 _ ?_, hrun, hended, _, _, rfl, ?_, ⟨_, rfl⟩, hW, hsame.mono (by decide) (by decide)⟩
  · show Steps p.tables e below (s₁.setTop (mkF m 0 #[.val (.ref o), .unset] [])) _
    refine XS.aloadN X0.here hx rfl (hb hby d8_0) rfl rfl ?_
    show Steps p.tables e below (s₁.setTop (mkF m 1 #[.val (.ref o), .unset] [(.ref o)])) _
    refine st133 _ ?_
    refine XS.istoreN X133.here hx rfl (hb hby d8_4) rfl (l' := #[.val (.ref o), .val (.int (0 : Int32))]) rfl ?_
    refine XS.iloadN X133.here hx rfl (hb hby d8_5) rfl ?_
    refine XS.ifNo X133.here hx rfl (hb hby d8_6) rfl ((if0 _ _).trans (teq (rfl : (0 : Int32) = (0 : Int32))).2) ?_
    refine XS.aloadN X133.here hx rfl (hb hby d8_9) rfl rfl ?_
    show Steps p.tables e below (T133.setTop (mkF m 10 #[.val (.ref o), .val (.int (0 : Int32))] [(.ref o)])) _
    refine st134 _ ?_
    refine XS.ifNo X134.here hx rfl (hb hby d8_13) rfl ((if0 _ _).trans (teq (rfl : (0 : Int32) = (0 : Int32))).2) ?_
    refine XS.aloadN X134.here hx rfl (hb hby d8_16) rfl rfl ?_
    show Steps p.tables e below (T134.setTop (mkF m 17 #[.val (.ref o), .val (.int (0 : Int32))] [(.ref o)])) _
    refine st135.trans ?_
    refine XS.ifNo X135.here hx rfl (hb hby d8_20) rfl ((if0 _ _).trans (feq (by decide : ¬ ((1 : Int32) = (0 : Int32)))).1) ?_
    refine XS.aloadN X135.here hx rfl (hb hby d8_23) rfl rfl ?_
    show Steps p.tables e below (T135.setTop (mkF m 24 #[.val (.ref o), .val (.int (0 : Int32))] [(.ref o)])) _
    refine st136 _ ?_
    show Steps p.tables e below (T136.setTop (mkF m 27 #[.val (.ref o), .val (.int (0 : Int32))] [(.ref b)])) _
    refine st137 _ ?_
    refine XS.goto X137.here hx rfl (pc0 := 30) (pc' := 40) rfl (hb hby d8_30) (by decide) (by decide) ?_
    show Steps p.tables e below (T137.setTop (mkF m 40 #[.val (.ref o), .val (.int (0 : Int32))] [(.int (hashF w 10))])) _
    rw [show (hashF w 10) = (-112048300 : Int32) from hv]
    show Steps p.tables e below (T137.setTop (mkF m 40 #[.val (.ref o), .val (.int (0 : Int32))] [(.int (-112048300 : Int32))])) _
    refine XS.istoreN X137.here hx rfl (hb hby d8_40) rfl (l' := #[.val (.ref o), .val (.int (-112048300 : Int32))]) rfl ?_
    refine XS.iloadN X137.here hx rfl (hb hby d8_41) rfl ?_
    refine XS.ifYes X137.here hx rfl (pc0 := 42) (pc' := 53) rfl (hb hby d8_42) rfl ((if0 _ _).trans (feq (by decide : ¬ ((-112048300 : Int32) = (0 : Int32)))).2) (by decide) (by decide) ?_
    refine XS.aloadN X137.here hx rfl (hb hby d8_53) rfl rfl ?_
    refine XS.iloadN X137.here hx rfl (hb hby d8_54) rfl ?_
    show Steps p.tables e below (T137.setTop (mkF m 55 #[.val (.ref o), .val (.int (-112048300 : Int32))] [(.int (-112048300 : Int32)), (.ref o)])) _
    refine st138 _ ?_
    refine XS.iloadN X138.here hx rfl (hb hby d8_58) rfl ?_
    show Steps p.tables e below (T138.setTop (mkF m 59 #[.val (.ref o), .val (.int (-112048300 : Int32))] [(.int (-112048300 : Int32))])) _
    exact retI X138 hx Bd.returns (hb hby d8_59) hr
  · show QH Z o 10 (fun j => Value.int (w j)) (-112048300 : Int32) h0 n0 _ T138.heap _
    exact ⟨rfl, N138, by rw [e138]; exact K138, by rw [e138]; exact ⟨EO_e138, b, FV_e138, FC_e138, FB_e138⟩⟩
theorem d16_0 : decode prog_6_method_1_code 0 = .ok (.aload_n 0, 1) := by decide +kernel
theorem d16_1 : decode prog_6_method_1_code 1 = .ok (.invokespecial 1, 3) := by decide +kernel
theorem d16_4 : decode prog_6_method_1_code 4 = .ok (.aload_n 0, 1) := by decide +kernel
theorem d16_5 : decode prog_6_method_1_code 5 = .ok (.new 7, 3) := by decide +kernel
theorem d16_8 : decode prog_6_method_1_code 8 = .ok (.dup, 1) := by decide +kernel
theorem d16_9 : decode prog_6_method_1_code 9 = .ok (.invokespecial 9, 3) := by decide +kernel
theorem d16_12 : decode prog_6_method_1_code 12 = .ok (.ldc 12, 2) := by decide +kernel
theorem d16_14 : decode prog_6_method_1_code 14 = .ok (.invokevirtual 14, 3) := by decide +kernel
theorem d16_17 : decode prog_6_method_1_code 17 = .ok (.aload_n 1, 1) := by decide +kernel
theorem d16_18 : decode prog_6_method_1_code 18 = .ok (.invokevirtual 14, 3) := by decide +kernel
theorem d16_21 : decode prog_6_method_1_code 21 = .ok (.invokevirtual 18, 3) := by decide +kernel
theorem d16_24 : decode prog_6_method_1_code 24 = .ok (.putfield 22, 3) := by decide +kernel
theorem d16_27 : decode prog_6_method_1_code 27 = .ok (.aload_n 0, 1) := by decide +kernel
theorem d16_28 : decode prog_6_method_1_code 28 = .ok (.new 7, 3) := by decide +kernel
theorem d16_31 : decode prog_6_method_1_code 31 = .ok (.dup, 1) := by decide +kernel
theorem d16_32 : decode prog_6_method_1_code 32 = .ok (.invokespecial 9, 3) := by decide +kernel
theorem d16_35 : decode prog_6_method_1_code 35 = .ok (.aload_n 1, 1) := by decide +kernel
theorem d16_36 : decode prog_6_method_1_code 36 = .ok (.invokevirtual 14, 3) := by decide +kernel
theorem d16_39 : decode prog_6_method_1_code 39 = .ok (.ldc 26, 2) := by decide +kernel
theorem d16_41 : decode prog_6_method_1_code 41 = .ok (.invokevirtual 14, 3) := by decide +kernel
theorem d16_44 : decode prog_6_method_1_code 44 = .ok (.aload_n 2, 1) := by decide +kernel
theorem d16_45 : decode prog_6_method_1_code 45 = .ok (.invokevirtual 14, 3) := by decide +kernel
theorem d16_48 : decode prog_6_method_1_code 48 = .ok (.invokevirtual 18, 3) := by decide +kernel
theorem d16_51 : decode prog_6_method_1_code 51 = .ok (.putfield 28, 3) := by decide +kernel
theorem d16_54 : decode prog_6_method_1_code 54 = .ok (.aload_n 0, 1) := by decide +kernel
theorem d16_55 : decode prog_6_method_1_code 55 = .ok (.new 7, 3) := by decide +kernel
theorem d16_58 : decode prog_6_method_1_code 58 = .ok (.dup, 1) := by decide +kernel
theorem d16_59 : decode prog_6_method_1_code 59 = .ok (.invokespecial 9, 3) := by decide +kernel
theorem d16_62 : decode prog_6_method_1_code 62 = .ok (.ldc 31, 2) := by decide +kernel
theorem d16_64 : decode prog_6_method_1_code 64 = .ok (.invokevirtual 14, 3) := by decide +kernel
theorem d16_67 : decode prog_6_method_1_code 67 = .ok (.aload_n 0, 1) := by decide +kernel
theorem d16_68 : decode prog_6_method_1_code 68 = .ok (.getfield 28, 3) := by decide +kernel
theorem d16_71 : decode prog_6_method_1_code 71 = .ok (.invokevirtual 14, 3) := by decide +kernel
theorem d16_74 : decode prog_6_method_1_code 74 = .ok (.ldc 33, 2) := by decide +kernel
theorem d16_76 : decode prog_6_method_1_code 76 = .ok (.invokevirtual 14, 3) := by decide +kernel
theorem d16_79 : decode prog_6_method_1_code 79 = .ok (.invokevirtual 18, 3) := by decide +kernel
theorem d16_82 : decode prog_6_method_1_code 82 = .ok (.putfield 35, 3) := by decide +kernel
theorem d16_85 : decode prog_6_method_1_code 85 = .ok (.aload_n 0, 1) := by decide +kernel
theorem d16_86 : decode prog_6_method_1_code 86 = .ok (.aload_n 3, 1) := by decide +kernel
theorem d16_87 : decode prog_6_method_1_code 87 = .ok (.putfield 38, 3) := by decide +kernel
theorem d16_90 : decode prog_6_method_1_code 90 = .ok (.aload_n 0, 1) := by decide +kernel
theorem d16_91 : decode prog_6_method_1_code 91 = .ok (.aload 4, 2) := by decide +kernel
theorem d16_93 : decode prog_6_method_1_code 93 = .ok (.putfield 41, 3) := by decide +kernel
theorem d16_96 : decode prog_6_method_1_code 96 = .ok (.aload_n 0, 1) := by decide +kernel
theorem d16_97 : decode prog_6_method_1_code 97 = .ok (.aload 5, 2) := by decide +kernel
theorem d16_99 : decode prog_6_method_1_code 99 = .ok (.putfield 44, 3) := by decide +kernel
theorem d16_102 : decode prog_6_method_1_code 102 = .ok (.new 7, 3) := by decide +kernel
theorem d16_105 : decode prog_6_method_1_code 105 = .ok (.dup, 1) := by decide +kernel
theorem d16_106 : decode prog_6_method_1_code 106 = .ok (.invokespecial 9, 3) := by decide +kernel
theorem d16_109 : decode prog_6_method_1_code 109 = .ok (.ldc 47, 2) := by decide +kernel
theorem d16_111 : decode prog_6_method_1_code 111 = .ok (.invokevirtual 14, 3) := by decide +kernel
theorem d16_114 : decode prog_6_method_1_code 114 = .ok (.aload_n 0, 1) := by decide +kernel
theorem d16_115 : decode prog_6_method_1_code 115 = .ok (.getfield 22, 3) := by decide +kernel
theorem d16_118 : decode prog_6_method_1_code 118 = .ok (.invokevirtual 14, 3) := by decide +kernel
theorem d16_121 : decode prog_6_method_1_code 121 = .ok (.invokevirtual 18, 3) := by decide +kernel
theorem d16_124 : decode prog_6_method_1_code 124 = .ok (.astore 6, 2) := by decide +kernel
theorem d16_126 : decode prog_6_method_1_code 126 = .ok (.aload_n 0, 1) := by decide +kernel
theorem d16_127 : decode prog_6_method_1_code 127 = .ok (.new 7, 3) := by decide +kernel
theorem d16_130 : decode prog_6_method_1_code 130 = .ok (.dup, 1) := by decide +kernel
theorem d16_131 : decode prog_6_method_1_code 131 = .ok (.invokespecial 9, 3) := by decide +kernel
theorem d16_134 : decode prog_6_method_1_code 134 = .ok (.ldc 49, 2) := by decide +kernel
theorem d16_136 : decode prog_6_method_1_code 136 = .ok (.invokevirtual 14, 3) := by decide +kernel
theorem d16_139 : decode prog_6_method_1_code 139 = .ok (.aload 6, 2) := by decide +kernel
theorem d16_141 : decode prog_6_method_1_code 141 = .ok (.invokevirtual 14, 3) := by decide +kernel
theorem d16_144 : decode prog_6_method_1_code 144 = .ok (.invokevirtual 18, 3) := by decide +kernel
theorem d16_147 : decode prog_6_method_1_code 147 = .ok (.putfield 51, 3) := by decide +kernel
theorem d16_150 : decode prog_6_method_1_code 150 = .ok (.aload_n 0, 1) := by decide +kernel
theorem d16_151 : decode prog_6_method_1_code 151 = .ok (.new 7, 3) := by decide +kernel
theorem d16_154 : decode prog_6_method_1_code 154 = .ok (.dup, 1) := by decide +kernel
theorem d16_155 : decode prog_6_method_1_code 155 = .ok (.invokespecial 9, 3) := by decide +kernel
theorem d16_158 : decode prog_6_method_1_code 158 = .ok (.ldc 54, 2) := by decide +kernel
theorem d16_160 : decode prog_6_method_1_code 160 = .ok (.invokevirtual 14, 3) := by decide +kernel
theorem d16_163 : decode prog_6_method_1_code 163 = .ok (.aload_n 0, 1) := by decide +kernel
theorem d16_164 : decode prog_6_method_1_code 164 = .ok (.getfield 28, 3) := by decide +kernel
theorem d16_167 : decode prog_6_method_1_code 167 = .ok (.invokevirtual 14, 3) := by decide +kernel
theorem d16_170 : decode prog_6_method_1_code 170 = .ok (.aload 6, 2) := by decide +kernel
theorem d16_172 : decode prog_6_method_1_code 172 = .ok (.invokevirtual 14, 3) := by decide +kernel
theorem d16_175 : decode prog_6_method_1_code 175 = .ok (.invokevirtual 18, 3) := by decide +kernel
theorem d16_178 : decode prog_6_method_1_code 178 = .ok (.putfield 56, 3) := by decide +kernel
theorem d16_181 : decode prog_6_method_1_code 181 = .ok (.return_, 1) := by decide +kernel
theorem pn_16 : plainName "com/example/rigorous_lock/rigorouslock/io/SqlDialect" = true := by first | (simp [plainName, overriddenIn]; done) | decide +kernel
theorem ef_16 (m : MethodId) (x0 : Addr) (x1 : Addr) (x2 : Addr) (x3 : Addr) (x4 : Addr) (x5 : Addr) : entryFrame m #[(.ref x0), (.ref x1), (.ref x2), (.ref x3), (.ref x4), (.ref x5)] 7 = mkF m 0 #[.val (.ref x0), .val (.ref x1), .val (.ref x2), .val (.ref x3), .val (.ref x4), .val (.ref x5), .unset] [] := by first | (simp [entryFrame, mkF, argsToLocals, Value.category]; done) | rfl
def Lsc_SqlDialect_12 : List Value := [(.int (114 : Int32)), (.int (105 : Int32)), (.int (103 : Int32)), (.int (111 : Int32)), (.int (114 : Int32)), (.int (111 : Int32)), (.int (117 : Int32)), (.int (115 : Int32)), (.int (95 : Int32)), (.int (108 : Int32)), (.int (111 : Int32)), (.int (99 : Int32)), (.int (107 : Int32)), (.int (46 : Int32)), (.int (101 : Int32)), (.int (120 : Int32)), (.int (112 : Int32)), (.int (105 : Int32)), (.int (114 : Int32)), (.int (101 : Int32)), (.int (115 : Int32)), (.int (95 : Int32)), (.int (97 : Int32)), (.int (116 : Int32)), (.int (32 : Int32)), (.int (62 : Int32)), (.int (32 : Int32))]
def sc_SqlDialect_12 : Nat → Value := fun j => Lsc_SqlDialect_12.getD j (.int (0 : Int32))
theorem ft_sc_SqlDialect_12 (n : Nat) : ∀ j, j < n → fits .byte (sc_SqlDialect_12 j) = true := fitsL (by decide +kernel) n
def Lsc_SqlDialect_26 : List Value := [(.int (32 : Int32)), (.int (43 : Int32)), (.int (32 : Int32))]
def sc_SqlDialect_26 : Nat → Value := fun j => Lsc_SqlDialect_26.getD j (.int (0 : Int32))
theorem ft_sc_SqlDialect_26 (n : Nat) : ∀ j, j < n → fits .byte (sc_SqlDialect_26 j) = true := fitsL (by decide +kernel) n
def Lsc_SqlDialect_31 : List Value := [(.int (73 : Int32)), (.int (78 : Int32)), (.int (83 : Int32)), (.int (69 : Int32)), (.int (82 : Int32)), (.int (84 : Int32)), (.int (32 : Int32)), (.int (73 : Int32)), (.int (78 : Int32)), (.int (84 : Int32)), (.int (79 : Int32)), (.int (32 : Int32)), (.int (114 : Int32)), (.int (105 : Int32)), (.int (103 : Int32)), (.int (111 : Int32)), (.int (114 : Int32)), (.int (111 : Int32)), (.int (117 : Int32)), (.int (115 : Int32)), (.int (95 : Int32)), (.int (108 : Int32)), (.int (111 : Int32)), (.int (99 : Int32)), (.int (107 : Int32)), (.int (32 : Int32)), (.int (40 : Int32)), (.int (110 : Int32)), (.int (97 : Int32)), (.int (109 : Int32)), (.int (101 : Int32)), (.int (44 : Int32)), (.int (32 : Int32)), (.int (111 : Int32)), (.int (119 : Int32)), (.int (110 : Int32)), (.int (101 : Int32)), (.int (114 : Int32)), (.int (95 : Int32)), (.int (116 : Int32)), (.int (111 : Int32)), (.int (107 : Int32)), (.int (101 : Int32)), (.int (110 : Int32)), (.int (44 : Int32)), (.int (32 : Int32)), (.int (101 : Int32)), (.int (120 : Int32)), (.int (112 : Int32)), (.int (105 : Int32)), (.int (114 : Int32)), (.int (101 : Int32)), (.int (115 : Int32)), (.int (95 : Int32)), (.int (97 : Int32)), (.int (116 : Int32)), (.int (44 : Int32)), (.int (32 : Int32)), (.int (102 : Int32)), (.int (101 : Int32)), (.int (110 : Int32)), (.int (99 : Int32)), (.int (105 : Int32)), (.int (110 : Int32)), (.int (103 : Int32)), (.int (95 : Int32)), (.int (116 : Int32)), (.int (111 : Int32)), (.int (107 : Int32)), (.int (101 : Int32)), (.int (110 : Int32)), (.int (41 : Int32)), (.int (32 : Int32)), (.int (86 : Int32)), (.int (65 : Int32)), (.int (76 : Int32)), (.int (85 : Int32)), (.int (69 : Int32)), (.int (83 : Int32)), (.int (32 : Int32)), (.int (40 : Int32)), (.int (63 : Int32)), (.int (44 : Int32)), (.int (32 : Int32)), (.int (63 : Int32)), (.int (44 : Int32)), (.int (32 : Int32))]
def sc_SqlDialect_31 : Nat → Value := fun j => Lsc_SqlDialect_31.getD j (.int (0 : Int32))
theorem ft_sc_SqlDialect_31 (n : Nat) : ∀ j, j < n → fits .byte (sc_SqlDialect_31 j) = true := fitsL (by decide +kernel) n
def Lsc_SqlDialect_33 : List Value := [(.int (44 : Int32)), (.int (32 : Int32))]
def sc_SqlDialect_33 : Nat → Value := fun j => Lsc_SqlDialect_33.getD j (.int (0 : Int32))
theorem ft_sc_SqlDialect_33 (n : Nat) : ∀ j, j < n → fits .byte (sc_SqlDialect_33 j) = true := fitsL (by decide +kernel) n
def Lsc_SqlDialect_47 : List Value := [(.int (32 : Int32)), (.int (87 : Int32)), (.int (72 : Int32)), (.int (69 : Int32)), (.int (82 : Int32)), (.int (69 : Int32)), (.int (32 : Int32)), (.int (110 : Int32)), (.int (97 : Int32)), (.int (109 : Int32)), (.int (101 : Int32)), (.int (32 : Int32)), (.int (61 : Int32)), (.int (32 : Int32)), (.int (63 : Int32)), (.int (32 : Int32)), (.int (65 : Int32)), (.int (78 : Int32)), (.int (68 : Int32)), (.int (32 : Int32)), (.int (111 : Int32)), (.int (119 : Int32)), (.int (110 : Int32)), (.int (101 : Int32)), (.int (114 : Int32)), (.int (95 : Int32)), (.int (116 : Int32)), (.int (111 : Int32)), (.int (107 : Int32)), (.int (101 : Int32)), (.int (110 : Int32)), (.int (32 : Int32)), (.int (61 : Int32)), (.int (32 : Int32)), (.int (63 : Int32)), (.int (32 : Int32)), (.int (65 : Int32)), (.int (78 : Int32)), (.int (68 : Int32)), (.int (32 : Int32))]
def sc_SqlDialect_47 : Nat → Value := fun j => Lsc_SqlDialect_47.getD j (.int (0 : Int32))
theorem ft_sc_SqlDialect_47 (n : Nat) : ∀ j, j < n → fits .byte (sc_SqlDialect_47 j) = true := fitsL (by decide +kernel) n
def Lsc_SqlDialect_49 : List Value := [(.int (85 : Int32)), (.int (80 : Int32)), (.int (68 : Int32)), (.int (65 : Int32)), (.int (84 : Int32)), (.int (69 : Int32)), (.int (32 : Int32)), (.int (114 : Int32)), (.int (105 : Int32)), (.int (103 : Int32)), (.int (111 : Int32)), (.int (114 : Int32)), (.int (111 : Int32)), (.int (117 : Int32)), (.int (115 : Int32)), (.int (95 : Int32)), (.int (108 : Int32)), (.int (111 : Int32)), (.int (99 : Int32)), (.int (107 : Int32)), (.int (32 : Int32)), (.int (83 : Int32)), (.int (69 : Int32)), (.int (84 : Int32)), (.int (32 : Int32)), (.int (111 : Int32)), (.int (119 : Int32)), (.int (110 : Int32)), (.int (101 : Int32)), (.int (114 : Int32)), (.int (95 : Int32)), (.int (116 : Int32)), (.int (111 : Int32)), (.int (107 : Int32)), (.int (101 : Int32)), (.int (110 : Int32)), (.int (32 : Int32)), (.int (61 : Int32)), (.int (32 : Int32)), (.int (78 : Int32)), (.int (85 : Int32)), (.int (76 : Int32)), (.int (76 : Int32)), (.int (44 : Int32)), (.int (32 : Int32)), (.int (101 : Int32)), (.int (120 : Int32)), (.int (112 : Int32)), (.int (105 : Int32)), (.int (114 : Int32)), (.int (101 : Int32)), (.int (115 : Int32)), (.int (95 : Int32)), (.int (97 : Int32)), (.int (116 : Int32)), (.int (32 : Int32)), (.int (61 : Int32)), (.int (32 : Int32)), (.int (78 : Int32)), (.int (85 : Int32)), (.int (76 : Int32)), (.int (76 : Int32))]
def sc_SqlDialect_49 : Nat → Value := fun j => Lsc_SqlDialect_49.getD j (.int (0 : Int32))
theorem ft_sc_SqlDialect_49 (n : Nat) : ∀ j, j < n → fits .byte (sc_SqlDialect_49 j) = true := fitsL (by decide +kernel) n
def Lsc_SqlDialect_54 : List Value := [(.int (85 : Int32)), (.int (80 : Int32)), (.int (68 : Int32)), (.int (65 : Int32)), (.int (84 : Int32)), (.int (69 : Int32)), (.int (32 : Int32)), (.int (114 : Int32)), (.int (105 : Int32)), (.int (103 : Int32)), (.int (111 : Int32)), (.int (114 : Int32)), (.int (111 : Int32)), (.int (117 : Int32)), (.int (115 : Int32)), (.int (95 : Int32)), (.int (108 : Int32)), (.int (111 : Int32)), (.int (99 : Int32)), (.int (107 : Int32)), (.int (32 : Int32)), (.int (83 : Int32)), (.int (69 : Int32)), (.int (84 : Int32)), (.int (32 : Int32)), (.int (101 : Int32)), (.int (120 : Int32)), (.int (112 : Int32)), (.int (105 : Int32)), (.int (114 : Int32)), (.int (101 : Int32)), (.int (115 : Int32)), (.int (95 : Int32)), (.int (97 : Int32)), (.int (116 : Int32)), (.int (32 : Int32)), (.int (61 : Int32)), (.int (32 : Int32))]
def sc_SqlDialect_54 : Nat → Value := fun j => Lsc_SqlDialect_54.getD j (.int (0 : Int32))
theorem ft_sc_SqlDialect_54 (n : Nat) : ∀ j, j < n → fits .byte (sc_SqlDialect_54 j) = true := fitsL (by decide +kernel) n
set_option maxRecDepth 65536 in
set_option maxHeartbeats 40000000 in
theorem rmSD0 (l : Launch) (Z : State) (a0 : Array Value) (hw : ∀ d ∈ tables_1, d.before a0 Z = true) (ws : List Jvm.Cond) (o t1 t2 t3 t4 t5 : Addr) (wn wi : Nat → Value)  (h0 : Heap) (n0 : Nat) (Z0 : n0 ≤ h0.size) (O : Old Z n0 h0) (SK : StrSta Z) (hEL : EW Z a0 EL1) (EO : Exa Z h0 o "com/example/rigorous_lock/rigorouslock/io/MariaDbDialect") (F0 : Fld Z h0 o "com/example/rigorous_lock/rigorouslock/io/SqlDialect" "held" "Ljava/lang/String;" .null) (F1 : Fld Z h0 o "com/example/rigorous_lock/rigorouslock/io/SqlDialect" "leaseEnd" "Ljava/lang/String;" .null) (F2 : Fld Z h0 o "com/example/rigorous_lock/rigorouslock/io/SqlDialect" "insertNewRow" "Ljava/lang/String;" .null) (F3 : Fld Z h0 o "com/example/rigorous_lock/rigorouslock/io/SqlDialect" "createTable" "Ljava/lang/String;" .null) (F4 : Fld Z h0 o "com/example/rigorous_lock/rigorouslock/io/SqlDialect" "timeLeftQuery" "Ljava/lang/String;" .null) (F5 : Fld Z h0 o "com/example/rigorous_lock/rigorouslock/io/SqlDialect" "missingTableState" "Ljava/lang/String;" .null) (F6 : Fld Z h0 o "com/example/rigorous_lock/rigorouslock/io/SqlDialect" "releaseStatement" "Ljava/lang/String;" .null) (F7 : Fld Z h0 o "com/example/rigorous_lock/rigorouslock/io/SqlDialect" "renewStatement" "Ljava/lang/String;" .null) (F8 : Fld Z h0 o "com/example/rigorous_lock/rigorouslock/io/MariaDbDialect" "takeStatement" "Ljava/lang/String;" .null) (g_o : n0 ≤ o) (ST1 : StrF Z h0 t1 16 wn) (ST2 : StrF Z h0 t2 22 wi)  :
    MetFree l (⟨"com/example/rigorous_lock/rigorouslock/io/SqlDialect", "<init>", "(Ljava/lang/String;Ljava/lang/String;Ljava/lang/String;Ljava/lang/String;Ljava/lang/String;)V"⟩ : MethodName) (head1 (Jvm.Cond.code (⟨"com/example/rigorous_lock/rigorouslock/io/SqlDialect", "<init>", "(Ljava/lang/String;Ljava/lang/String;Ljava/lang/String;Ljava/lang/String;Ljava/lang/String;)V"⟩ : MethodName) prog_6_method_1_code 7 none :: ws) ({ frames := 6, cells := 51, slots := 12608, locals := 165 } : Room)) (fun aa_ U_ => aa_ = #[(.ref o), (.ref t1), (.ref t2), (.ref t3), (.ref t4), (.ref t5)] ∧ Z.Warmed39 U_.vm ∧ U_.heap = h0 ∧ CHv Z EL1 U_.vm h0) (fun _ _ _ _ _ => True) (fun _ U_ o_ V_ => ∃ v_ L_, o_ = .returned v_ ∧ QSD Z "com/example/rigorous_lock/rigorouslock/io/MariaDbDialect" o 43 41 130 (fC 19 (fC 16 (fC 0 z0 wn) sc_SqlDialect_26) wi) h0 n0 v_ V_.heap L_ ∧ CHr Z EL1 U_.vm U_.heap V_.vm V_.heap ∧ ReturnedEndW U_ o_ V_ L_ ({ frames := 6, cells := 51, slots := 12608, locals := 165 } : Room).cells ({ frames := 6, cells := 51, slots := 12608, locals := 165 } : Room).slots) := by
  refine MetFree.of_bodySF (plainFor_of_name pn_16) hisR ?_
  intro p e s m args below meth c s₁ Bd hml0 hP hK
  obtain ⟨rfl, hZ, hh, CH0⟩ := hP
  have hx := Bd.exec
  have hby := Bd.bytes
  have hml : c.maxLocals = 7 := hml0
  have hown : s.vm.findClass "com/example/rigorous_lock/rigorouslock/io/SqlDialect" = some m.cls := findClass_of_methodNamed Bd.named
  have hnm := (name_of_methodNamed Bd.named Bd.method).1
  have X0 : Stand p l e ({ frames := 6, cells := 51, slots := 12608, locals := 165 } : Room) s m #[(.ref o), (.ref t1), (.ref t2), (.ref t3), (.ref t4), (.ref t5)] below meth c s₁ [] 0 0 := Stand.of_body Bd
  have e0 : s₁.heap = h0 := by rw [← hh, Bd.state]; rfl
  have N0 := Fr.nil n0
  have pre0 : ∀ zz, Steps p.tables e below (s₁.setTop (mkF m 0 #[.val (.ref o), .val (.ref t1), .val (.ref t2), .val (.ref t3), .val (.ref t4), .val (.ref t5), .unset] [])) zz → Steps p.tables e below (s₁.setTop (entryFrame m #[(.ref o), (.ref t1), (.ref t2), (.ref t3), (.ref t4), (.ref t5)] 7)) zz := fun zz kz_ => castTop (ef_16 m o t1 t2 t3 t4 t5) kz_
  have hwS : ∀ a ∈ Bundle.stringAtoms, a.before a0 Z = true := fun d hd => hw d (by simpa using (List.all_eq_true.mp (by decide +kernel : (Bundle.stringAtoms.all fun c => tables_1.contains c) = true)) d hd)
  obtain ⟨T139, X139, e139, st139⟩ := initO X0 hx hZ hown (hwi hw 89 rfl) (hwi hw 13 rfl) (hwi hw 14 rfl) e0 (g := (mkF m 1 #[.val (.ref o), .val (.ref t1), .val (.ref t2), .val (.ref t3), .val (.ref t4), .val (.ref t5), .unset] [(.ref o)])) rfl (by rw [hml]; rfl) rfl (hb hby d16_1) (by decide) (W := 0) (by show 2 * 0 + _ ≤ _; exact Nat.le_of_eq rfl) (by decide)
  obtain ⟨T140, b140, X140, B140, F140, ho140, st140⟩ := cNEW X139 hx hZ hw hown (hwi hw 90 rfl) e139 (Keep.refl h0 [o]) Z0 O (CHr.refl CH0) (Nat.zero_le _) (g := (mkF m 5 #[.val (.ref o), .val (.ref t1), .val (.ref t2), .val (.ref t3), .val (.ref t4), .val (.ref t5), .unset] [(.ref o)])) rfl (hb hby d16_5) (by decide)
  obtain ⟨T141, L141, d141, X141, N141, B141, st141⟩ := cSBI X140 hx hZ hw hown (hwi hw 93 rfl) SK N0 hZ.alike B140 F140 ho140 (g := (mkF m 9 #[.val (.ref o), .val (.ref t1), .val (.ref t2), .val (.ref t3), .val (.ref t4), .val (.ref t5), .unset] [(.ref b140), (.ref b140), (.ref o)])) rfl (by rw [hml]; rfl) rfl (W := 2) (by show 2 * 0 + _ ≤ _; exact Nat.le_of_eq rfl) (hb hby d16_9) (by decide)
  obtain ⟨a142, T142, h142, k142, v142, kk142, X142, e142, E142, hS142, hk142, hZ142, hown142, Ex142, Fc142, Fv142, Av142, -, -, C142, -, -, st142⟩ := ldcCH (s := s) (vm0 := s.vm) (EL := EL1) X141 hx hZ hown (hwi hw 108 rfl) hwS rfl ((State.WarmedH.refl s).since 0) B141.1.2.2.2.2.2 hEL (List.mem_of_getElem? (i := 19) rfl) B141.1.2.2.2.1.1 (vs := Lsc_SqlDialect_12) (z := (27 : Int32)) (by decide +kernel) (by decide) (by decide +kernel) (g := (mkF m 12 #[.val (.ref o), .val (.ref t1), .val (.ref t2), .val (.ref t3), .val (.ref t4), .val (.ref t5), .unset] [(.ref b140), (.ref o)])) rfl (hb hby d16_12) (n := 108) (by decide +kernel) (by decide) (by decide) (by decide)
  have SC142 : StrF Z h142 a142 27 sc_SqlDialect_12 := ⟨⟨Ex142, v142, Fv142, Fc142, afOf Av142 rfl⟩, ft_sc_SqlDialect_12 _⟩
  have B142 := B141.ldc E142 C142 hk142
  obtain ⟨T143, L143, d143, X143, N143, B143, st143⟩ := cAPg X142 hx hZ142 hw hown142 (hwi hw 109 rfl) e142 SK N141 hZ142.alike B142 SC142 (cap' := 34) (cnt' := 27) (by decide) (g := (mkF m 14 #[.val (.ref o), .val (.ref t1), .val (.ref t2), .val (.ref t3), .val (.ref t4), .val (.ref t5), .unset] [(.ref a142), (.ref b140), (.ref o)])) rfl (by rw [hml]; rfl) rfl (W := 1) (by show 2 * 0 + _ ≤ _; exact Nat.le_of_eq rfl) (hb hby d16_14) (by decide)
  obtain ⟨T144, L144, d144, X144, N144, B144, st144⟩ := cAPg X143 hx hZ142 hw hown142 (hwi hw 109 rfl) rfl SK N143 hZ142.alike B143 (ST1.keep B143.1.2.2.2.2.1) (cap' := 70) (cnt' := 43) (by decide) (g := (mkF m 18 #[.val (.ref o), .val (.ref t1), .val (.ref t2), .val (.ref t3), .val (.ref t4), .val (.ref t5), .unset] [(.ref t1), (.ref b140), (.ref o)])) rfl (by rw [hml]; rfl) rfl (W := 1) (by show 2 * 0 + _ ≤ _; exact Nat.le_of_eq rfl) (hb hby d16_18) (by decide)
  obtain ⟨T145, L145, o145, X145, N145, B145, S145, st145⟩ := cTS X144 hx hZ142 hw hown142 (hwi hw 178 rfl) rfl SK N144 B144 (by decide) (g := (mkF m 21 #[.val (.ref o), .val (.ref t1), .val (.ref t2), .val (.ref t3), .val (.ref t4), .val (.ref t5), .unset] [(.ref b140), (.ref o)])) rfl (by rw [hml]; rfl) rfl (W := 1) (by show 2 * 0 + _ ≤ _; exact Nat.le_of_eq rfl) (hb hby d16_21) (by decide)
  obtain ⟨K145, Z145, O145, CR145, KB145, hk145⟩ := B145
  have ST1_x145 := ST1.keep KB145
  have ST2_x145 := ST2.keep KB145
  have EO_x145 := EO.keep KB145
  have F0_x145 := F0.keep KB145 List.not_mem_nil
  have F1_x145 := F1.keep KB145 List.not_mem_nil
  have F2_x145 := F2.keep KB145 List.not_mem_nil
  have F3_x145 := F3.keep KB145 List.not_mem_nil
  have F4_x145 := F4.keep KB145 List.not_mem_nil
  have F5_x145 := F5.keep KB145 List.not_mem_nil
  have F6_x145 := F6.keep KB145 List.not_mem_nil
  have F7_x145 := F7.keep KB145 List.not_mem_nil
  have F8_x145 := F8.keep KB145 List.not_mem_nil
  obtain ⟨wt145, SG145⟩ : ∃ w, StrF Z T145.heap o145 43 w := ⟨_, S145⟩
  obtain ⟨T146, h146, X146, e146, W146, st146⟩ := putF X145 hx hZ142 hown142 (host := "") (Or.inl (hwi hw 217 rfl)) Via.refl rfl F0_x145 EO_x145 (Or.inr ⟨(hwi hw 218 rfl), rfl, hnm⟩) (hwi hw 75 rfl) (ty := (.object "java/lang/String")) (by decide) rfl rfl (g := (mkF m 24 #[.val (.ref o), .val (.ref t1), .val (.ref t2), .val (.ref t3), .val (.ref t4), .val (.ref t5), .unset] [(.ref o145), (.ref o)])) rfl rfl (hb hby d16_24)
  have Fw146 := F0_x145.same W146
  have EO_x145_e146 := EO_x145.wr W146
  have F1_x145_e146 := F1_x145.other W146 (Or.inr (slot_ne (Or.inr (hwi hw 221 rfl)) (Or.inr (hwi hw 218 rfl)) (by decide) (t := (.object "java/lang/String")) (t' := (.object "java/lang/String")) (by decide) (by decide)))
  have F2_x145_e146 := F2_x145.other W146 (Or.inr (slot_ne (Or.inr (hwi hw 225 rfl)) (Or.inr (hwi hw 218 rfl)) (by decide) (t := (.object "java/lang/String")) (t' := (.object "java/lang/String")) (by decide) (by decide)))
  have F3_x145_e146 := F3_x145.other W146 (Or.inr (slot_ne (Or.inr (hwi hw 227 rfl)) (Or.inr (hwi hw 218 rfl)) (by decide) (t := (.object "java/lang/String")) (t' := (.object "java/lang/String")) (by decide) (by decide)))
  have F4_x145_e146 := F4_x145.other W146 (Or.inr (slot_ne (Or.inr (hwi hw 229 rfl)) (Or.inr (hwi hw 218 rfl)) (by decide) (t := (.object "java/lang/String")) (t' := (.object "java/lang/String")) (by decide) (by decide)))
  have F5_x145_e146 := F5_x145.other W146 (Or.inr (slot_ne (Or.inr (hwi hw 231 rfl)) (Or.inr (hwi hw 218 rfl)) (by decide) (t := (.object "java/lang/String")) (t' := (.object "java/lang/String")) (by decide) (by decide)))
  have F6_x145_e146 := F6_x145.other W146 (Or.inr (slot_ne (Or.inr (hwi hw 243 rfl)) (Or.inr (hwi hw 218 rfl)) (by decide) (t := (.object "java/lang/String")) (t' := (.object "java/lang/String")) (by decide) (by decide)))
  have F7_x145_e146 := F7_x145.other W146 (Or.inr (slot_ne (Or.inr (hwi hw 246 rfl)) (Or.inr (hwi hw 218 rfl)) (by decide) (t := (.object "java/lang/String")) (t' := (.object "java/lang/String")) (by decide) (by decide)))
  have F8_x145_e146 := F8_x145.other W146 (Or.inr (slot_ne (Or.inr (hwi hw 263 rfl)) (Or.inr (hwi hw 218 rfl)) (by decide) (t := (.object "java/lang/String")) (t' := (.object "java/lang/String")) (by decide) (by decide)))
  have N146 := Fr.snoc X146 N145 g_o
  have K146 := K145.wr W146 (Or.inl (List.mem_of_getElem? (i := 0) rfl))
  have Z146 : n0 ≤ h146.size := Nat.le_trans Z145 (Keep.of_wr W146).1
  have hk146 := Nat.le_trans hk145 (Keep.of_wr W146).1
  have O146 := O145.wr W146 g_o
  have CR146 := CR145.trans (CHr.wr W146 (Safe.exa hZ142.alike EO_x145 (by decide) (by decide)) CR145.1)
  have SF146_o := Safe.wr W146 (Safe.exa hZ142.alike EO_x145 (by decide) (by decide)) CR145.1 (Safe.exa hZ142.alike EO_x145 (by decide) (by decide))
  have CH146 := CHv.wr W146 (Safe.exa hZ142.alike EO_x145 (by decide) (by decide)) CR145.1
  have ST1_x146 := ST1_x145.wrO EO_x145 (by decide) (hwi hw 75 rfl) W146
  have ST2_x146 := ST2_x145.wrO EO_x145 (by decide) (hwi hw 75 rfl) W146
  have SG145_x146 := SG145.wrO EO_x145 (by decide) (hwi hw 75 rfl) W146
  obtain ⟨T147, b147, X147, B147, F147, ho147, st147⟩ := cNEW X146 hx hZ142 hw hown142 (hwi hw 90 rfl) e146 K146 Z146 O146 CR146 hk146 (g := (mkF m 28 #[.val (.ref o), .val (.ref t1), .val (.ref t2), .val (.ref t3), .val (.ref t4), .val (.ref t5), .unset] [(.ref o)])) rfl (hb hby d16_28) (by decide)
  obtain ⟨T148, L148, d148, X148, N148, B148, st148⟩ := cSBI X147 hx hZ142 hw hown142 (hwi hw 93 rfl) SK N146 hZ142.alike B147 F147 ho147 (g := (mkF m 32 #[.val (.ref o), .val (.ref t1), .val (.ref t2), .val (.ref t3), .val (.ref t4), .val (.ref t5), .unset] [(.ref b147), (.ref b147), (.ref o)])) rfl (by rw [hml]; rfl) rfl (W := 2) (by show 2 * 0 + _ ≤ _; exact Nat.le_of_eq rfl) (hb hby d16_32) (by decide)
  obtain ⟨T149, L149, d149, X149, N149, B149, st149⟩ := cAPf X148 hx hZ142 hw hown142 (hwi hw 109 rfl) rfl SK N148 hZ142.alike B148 (ST1_x146.keep B148.1.2.2.2.2.1) (cap' := 16) (cnt' := 16) (by decide) (g := (mkF m 36 #[.val (.ref o), .val (.ref t1), .val (.ref t2), .val (.ref t3), .val (.ref t4), .val (.ref t5), .unset] [(.ref t1), (.ref b147), (.ref o)])) rfl (by rw [hml]; rfl) rfl (W := 1) (by show 2 * 0 + _ ≤ _; exact Nat.le_of_eq rfl) (hb hby d16_36) (by decide)
  obtain ⟨a150, T150, h150, k150, v150, kk150, X150, e150, E150, hS150, hk150, hZ150, hown150, Ex150, Fc150, Fv150, Av150, -, -, C150, -, -, st150⟩ := ldcCH (s := s) (vm0 := T142.vm) (EL := EL1) X149 hx hZ142 hown142 (hwi hw 219 rfl) hwS rfl hS142 B149.1.2.2.2.2.2 hEL (List.mem_of_getElem? (i := 20) rfl) B149.1.2.2.2.1.1 (vs := Lsc_SqlDialect_26) (z := (3 : Int32)) (by decide +kernel) (by decide) (by decide +kernel) (g := (mkF m 39 #[.val (.ref o), .val (.ref t1), .val (.ref t2), .val (.ref t3), .val (.ref t4), .val (.ref t5), .unset] [(.ref b147), (.ref o)])) rfl (hb hby d16_39) (n := 12) (by decide +kernel) (by decide) (by decide) (by decide)
  have SC150 : StrF Z h150 a150 3 sc_SqlDialect_26 := ⟨⟨Ex150, v150, Fv150, Fc150, afOf Av150 rfl⟩, ft_sc_SqlDialect_26 _⟩
  have B150 := B149.ldc E150 C150 hk150
  obtain ⟨T151, L151, d151, X151, N151, B151, st151⟩ := cAPg X150 hx hZ150 hw hown150 (hwi hw 109 rfl) e150 SK N149 hZ150.alike B150 SC150 (cap' := 34) (cnt' := 19) (by decide) (g := (mkF m 41 #[.val (.ref o), .val (.ref t1), .val (.ref t2), .val (.ref t3), .val (.ref t4), .val (.ref t5), .unset] [(.ref a150), (.ref b147), (.ref o)])) rfl (by rw [hml]; rfl) rfl (W := 1) (by show 2 * 0 + _ ≤ _; exact Nat.le_of_eq rfl) (hb hby d16_41) (by decide)
  obtain ⟨T152, L152, d152, X152, N152, B152, st152⟩ := cAPg X151 hx hZ150 hw hown150 (hwi hw 109 rfl) rfl SK N151 hZ150.alike B151 (ST2_x146.keep B151.1.2.2.2.2.1) (cap' := 70) (cnt' := 41) (by decide) (g := (mkF m 45 #[.val (.ref o), .val (.ref t1), .val (.ref t2), .val (.ref t3), .val (.ref t4), .val (.ref t5), .unset] [(.ref t2), (.ref b147), (.ref o)])) rfl (by rw [hml]; rfl) rfl (W := 1) (by show 2 * 0 + _ ≤ _; exact Nat.le_of_eq rfl) (hb hby d16_45) (by decide)
  obtain ⟨T153, L153, o153, X153, N153, B153, S153, st153⟩ := cTS X152 hx hZ150 hw hown150 (hwi hw 178 rfl) rfl SK N152 B152 (by decide) (g := (mkF m 48 #[.val (.ref o), .val (.ref t1), .val (.ref t2), .val (.ref t3), .val (.ref t4), .val (.ref t5), .unset] [(.ref b147), (.ref o)])) rfl (by rw [hml]; rfl) rfl (W := 1) (by show 2 * 0 + _ ≤ _; exact Nat.le_of_eq rfl) (hb hby d16_48) (by decide)
  obtain ⟨K153, Z153, O153, CR153, KB153, hk153⟩ := B153
  have ST1_x153 := ST1_x146.keep KB153
  have ST2_x153 := ST2_x146.keep KB153
  have SG145_x153 := SG145_x146.keep KB153
  have EO_x153 := EO_x145_e146.keep KB153
  have Fw146_x153 := Fw146.keep KB153 List.not_mem_nil
  have F1_x153 := F1_x145_e146.keep KB153 List.not_mem_nil
  have F2_x153 := F2_x145_e146.keep KB153 List.not_mem_nil
  have F3_x153 := F3_x145_e146.keep KB153 List.not_mem_nil
  have F4_x153 := F4_x145_e146.keep KB153 List.not_mem_nil
  have F5_x153 := F5_x145_e146.keep KB153 List.not_mem_nil
  have F6_x153 := F6_x145_e146.keep KB153 List.not_mem_nil
  have F7_x153 := F7_x145_e146.keep KB153 List.not_mem_nil
  have F8_x153 := F8_x145_e146.keep KB153 List.not_mem_nil
  obtain ⟨T154, h154, X154, e154, W154, st154⟩ := putF X153 hx hZ150 hown150 (host := "") (Or.inl (hwi hw 220 rfl)) Via.refl rfl F1_x153 EO_x153 (Or.inr ⟨(hwi hw 221 rfl), rfl, hnm⟩) (hwi hw 75 rfl) (ty := (.object "java/lang/String")) (by decide) rfl rfl (g := (mkF m 51 #[.val (.ref o), .val (.ref t1), .val (.ref t2), .val (.ref t3), .val (.ref t4), .val (.ref t5), .unset] [(.ref o153), (.ref o)])) rfl rfl (hb hby d16_51)
  have Fw154 := F1_x153.same W154
  have EO_x153_e154 := EO_x153.wr W154
  have Fw146_x153_e154 := Fw146_x153.other W154 (Or.inr (slot_ne (Or.inr (hwi hw 218 rfl)) (Or.inr (hwi hw 221 rfl)) (by decide) (t := (.object "java/lang/String")) (t' := (.object "java/lang/String")) (by decide) (by decide)))
  have F2_x153_e154 := F2_x153.other W154 (Or.inr (slot_ne (Or.inr (hwi hw 225 rfl)) (Or.inr (hwi hw 221 rfl)) (by decide) (t := (.object "java/lang/String")) (t' := (.object "java/lang/String")) (by decide) (by decide)))
  have F3_x153_e154 := F3_x153.other W154 (Or.inr (slot_ne (Or.inr (hwi hw 227 rfl)) (Or.inr (hwi hw 221 rfl)) (by decide) (t := (.object "java/lang/String")) (t' := (.object "java/lang/String")) (by decide) (by decide)))
  have F4_x153_e154 := F4_x153.other W154 (Or.inr (slot_ne (Or.inr (hwi hw 229 rfl)) (Or.inr (hwi hw 221 rfl)) (by decide) (t := (.object "java/lang/String")) (t' := (.object "java/lang/String")) (by decide) (by decide)))
  have F5_x153_e154 := F5_x153.other W154 (Or.inr (slot_ne (Or.inr (hwi hw 231 rfl)) (Or.inr (hwi hw 221 rfl)) (by decide) (t := (.object "java/lang/String")) (t' := (.object "java/lang/String")) (by decide) (by decide)))
  have F6_x153_e154 := F6_x153.other W154 (Or.inr (slot_ne (Or.inr (hwi hw 243 rfl)) (Or.inr (hwi hw 221 rfl)) (by decide) (t := (.object "java/lang/String")) (t' := (.object "java/lang/String")) (by decide) (by decide)))
  have F7_x153_e154 := F7_x153.other W154 (Or.inr (slot_ne (Or.inr (hwi hw 246 rfl)) (Or.inr (hwi hw 221 rfl)) (by decide) (t := (.object "java/lang/String")) (t' := (.object "java/lang/String")) (by decide) (by decide)))
  have F8_x153_e154 := F8_x153.other W154 (Or.inr (slot_ne (Or.inr (hwi hw 263 rfl)) (Or.inr (hwi hw 221 rfl)) (by decide) (t := (.object "java/lang/String")) (t' := (.object "java/lang/String")) (by decide) (by decide)))
  have N154 := Fr.snoc X154 N153 g_o
  have K154 := K153.wr W154 (Or.inl (List.mem_of_getElem? (i := 0) rfl))
  have Z154 : n0 ≤ h154.size := Nat.le_trans Z153 (Keep.of_wr W154).1
  have hk154 := Nat.le_trans hk153 (Keep.of_wr W154).1
  have O154 := O153.wr W154 g_o
  have CR154 := CR153.trans (CHr.wr W154 (Safe.exa hZ150.alike EO_x153 (by decide) (by decide)) CR153.1)
  have SF154_o := Safe.wr W154 (Safe.exa hZ150.alike EO_x153 (by decide) (by decide)) CR153.1 (Safe.exa hZ150.alike EO_x153 (by decide) (by decide))
  have CH154 := CHv.wr W154 (Safe.exa hZ150.alike EO_x153 (by decide) (by decide)) CR153.1
  have ST1_x154 := ST1_x153.wrO EO_x153 (by decide) (hwi hw 75 rfl) W154
  have ST2_x154 := ST2_x153.wrO EO_x153 (by decide) (hwi hw 75 rfl) W154
  have SG145_x154 := SG145_x153.wrO EO_x153 (by decide) (hwi hw 75 rfl) W154
  have S153_x154 := S153.wrO EO_x153 (by decide) (hwi hw 75 rfl) W154
  obtain ⟨T155, b155, X155, B155, F155, ho155, st155⟩ := cNEW X154 hx hZ150 hw hown150 (hwi hw 90 rfl) e154 K154 Z154 O154 CR154 hk154 (g := (mkF m 55 #[.val (.ref o), .val (.ref t1), .val (.ref t2), .val (.ref t3), .val (.ref t4), .val (.ref t5), .unset] [(.ref o)])) rfl (hb hby d16_55) (by decide)
  obtain ⟨T156, L156, d156, X156, N156, B156, st156⟩ := cSBI X155 hx hZ150 hw hown150 (hwi hw 93 rfl) SK N154 hZ150.alike B155 F155 ho155 (g := (mkF m 59 #[.val (.ref o), .val (.ref t1), .val (.ref t2), .val (.ref t3), .val (.ref t4), .val (.ref t5), .unset] [(.ref b155), (.ref b155), (.ref o)])) rfl (by rw [hml]; rfl) rfl (W := 2) (by show 2 * 0 + _ ≤ _; exact Nat.le_of_eq rfl) (hb hby d16_59) (by decide)
  obtain ⟨a157, T157, h157, k157, v157, kk157, X157, e157, E157, hS157, hk157, hZ157, hown157, Ex157, Fc157, Fv157, Av157, -, -, C157, -, -, st157⟩ := ldcCH (s := s) (vm0 := T150.vm) (EL := EL1) X156 hx hZ150 hown150 (hwi hw 222 rfl) hwS rfl hS150 B156.1.2.2.2.2.2 hEL (List.mem_of_getElem? (i := 21) rfl) B156.1.2.2.2.1.1 (vs := Lsc_SqlDialect_31) (z := (87 : Int32)) (by decide +kernel) (by decide) (by decide +kernel) (g := (mkF m 62 #[.val (.ref o), .val (.ref t1), .val (.ref t2), .val (.ref t3), .val (.ref t4), .val (.ref t5), .unset] [(.ref b155), (.ref o)])) rfl (hb hby d16_62) (n := 348) (by decide +kernel) (by decide) (by decide) (by decide)
  have SC157 : StrF Z h157 a157 87 sc_SqlDialect_31 := ⟨⟨Ex157, v157, Fv157, Fc157, afOf Av157 rfl⟩, ft_sc_SqlDialect_31 _⟩
  have B157 := B156.ldc E157 C157 hk157
  obtain ⟨T158, L158, d158, X158, N158, B158, st158⟩ := cAPg X157 hx hZ157 hw hown157 (hwi hw 109 rfl) e157 SK N156 hZ157.alike B157 SC157 (cap' := 87) (cnt' := 87) (by decide) (g := (mkF m 64 #[.val (.ref o), .val (.ref t1), .val (.ref t2), .val (.ref t3), .val (.ref t4), .val (.ref t5), .unset] [(.ref a157), (.ref b155), (.ref o)])) rfl (by rw [hml]; rfl) rfl (W := 1) (by show 2 * 0 + _ ≤ _; exact Nat.le_of_eq rfl) (hb hby d16_64) (by decide)
  obtain ⟨T159, X159, e159, st159⟩ := getF X158 hx hZ157 hown157 (host := "") (Or.inl (hwi hw 220 rfl)) Via.refl rfl (Fw154.keep B158.1.2.2.2.2.1 List.not_mem_nil) (g := (mkF m 68 #[.val (.ref o), .val (.ref t1), .val (.ref t2), .val (.ref t3), .val (.ref t4), .val (.ref t5), .unset] [(.ref o), (.ref b155), (.ref o)])) rfl rfl (hb hby d16_68)
  obtain ⟨T160, L160, d160, X160, N160, B160, st160⟩ := cAPg X159 hx hZ157 hw hown157 (hwi hw 109 rfl) e159 SK N158 hZ157.alike B158 (S153_x154.keep B158.1.2.2.2.2.1) (cap' := 176) (cnt' := 128) (by decide) (g := (mkF m 71 #[.val (.ref o), .val (.ref t1), .val (.ref t2), .val (.ref t3), .val (.ref t4), .val (.ref t5), .unset] [(.ref o153), (.ref b155), (.ref o)])) rfl (by rw [hml]; rfl) rfl (W := 1) (by show 2 * 0 + _ ≤ _; exact Nat.le_of_eq rfl) (hb hby d16_71) (by decide)
  obtain ⟨a161, T161, h161, k161, v161, kk161, X161, e161, E161, hS161, hk161, hZ161, hown161, Ex161, Fc161, Fv161, Av161, -, -, C161, -, -, st161⟩ := ldcCH (s := s) (vm0 := T157.vm) (EL := EL1) X160 hx hZ157 hown157 (hwi hw 223 rfl) hwS rfl hS157 B160.1.2.2.2.2.2 hEL (List.mem_of_getElem? (i := 22) rfl) B160.1.2.2.2.1.1 (vs := Lsc_SqlDialect_33) (z := (2 : Int32)) (by decide +kernel) (by decide) (by decide +kernel) (g := (mkF m 74 #[.val (.ref o), .val (.ref t1), .val (.ref t2), .val (.ref t3), .val (.ref t4), .val (.ref t5), .unset] [(.ref b155), (.ref o)])) rfl (hb hby d16_74) (n := 8) (by decide +kernel) (by decide) (by decide) (by decide)
  have SC161 : StrF Z h161 a161 2 sc_SqlDialect_33 := ⟨⟨Ex161, v161, Fv161, Fc161, afOf Av161 rfl⟩, ft_sc_SqlDialect_33 _⟩
  have B161 := B160.ldc E161 C161 hk161
  obtain ⟨T162, L162, d162, X162, N162, B162, st162⟩ := cAPf X161 hx hZ161 hw hown161 (hwi hw 109 rfl) e161 SK N160 hZ161.alike B161 SC161 (cap' := 176) (cnt' := 130) (by decide) (g := (mkF m 76 #[.val (.ref o), .val (.ref t1), .val (.ref t2), .val (.ref t3), .val (.ref t4), .val (.ref t5), .unset] [(.ref a161), (.ref b155), (.ref o)])) rfl (by rw [hml]; rfl) rfl (W := 1) (by show 2 * 0 + _ ≤ _; exact Nat.le_of_eq rfl) (hb hby d16_76) (by decide)
  obtain ⟨T163, L163, o163, X163, N163, B163, S163, st163⟩ := cTS X162 hx hZ161 hw hown161 (hwi hw 178 rfl) rfl SK N162 B162 (by decide) (g := (mkF m 79 #[.val (.ref o), .val (.ref t1), .val (.ref t2), .val (.ref t3), .val (.ref t4), .val (.ref t5), .unset] [(.ref b155), (.ref o)])) rfl (by rw [hml]; rfl) rfl (W := 1) (by show 2 * 0 + _ ≤ _; exact Nat.le_of_eq rfl) (hb hby d16_79) (by decide)
  obtain ⟨K163, Z163, O163, CR163, KB163, hk163⟩ := B163
  have ST1_x163 := ST1_x154.keep KB163
  have ST2_x163 := ST2_x154.keep KB163
  have SG145_x163 := SG145_x154.keep KB163
  have S153_x163 := S153_x154.keep KB163
  have EO_x163 := EO_x153_e154.keep KB163
  have Fw146_x163 := Fw146_x153_e154.keep KB163 List.not_mem_nil
  have Fw154_x163 := Fw154.keep KB163 List.not_mem_nil
  have F2_x163 := F2_x153_e154.keep KB163 List.not_mem_nil
  have F3_x163 := F3_x153_e154.keep KB163 List.not_mem_nil
  have F4_x163 := F4_x153_e154.keep KB163 List.not_mem_nil
  have F5_x163 := F5_x153_e154.keep KB163 List.not_mem_nil
  have F6_x163 := F6_x153_e154.keep KB163 List.not_mem_nil
  have F7_x163 := F7_x153_e154.keep KB163 List.not_mem_nil
  have F8_x163 := F8_x153_e154.keep KB163 List.not_mem_nil
  obtain ⟨wt163, SG163⟩ : ∃ w, StrF Z T163.heap o163 130 w := ⟨_, S163⟩
  obtain ⟨T164, h164, X164, e164, W164, st164⟩ := putF X163 hx hZ161 hown161 (host := "") (Or.inl (hwi hw 224 rfl)) Via.refl rfl F2_x163 EO_x163 (Or.inr ⟨(hwi hw 225 rfl), rfl, hnm⟩) (hwi hw 75 rfl) (ty := (.object "java/lang/String")) (by decide) rfl rfl (g := (mkF m 82 #[.val (.ref o), .val (.ref t1), .val (.ref t2), .val (.ref t3), .val (.ref t4), .val (.ref t5), .unset] [(.ref o163), (.ref o)])) rfl rfl (hb hby d16_82)
  have Fw164 := F2_x163.same W164
  have EO_x163_e164 := EO_x163.wr W164
  have Fw146_x163_e164 := Fw146_x163.other W164 (Or.inr (slot_ne (Or.inr (hwi hw 218 rfl)) (Or.inr (hwi hw 225 rfl)) (by decide) (t := (.object "java/lang/String")) (t' := (.object "java/lang/String")) (by decide) (by decide)))
  have Fw154_x163_e164 := Fw154_x163.other W164 (Or.inr (slot_ne (Or.inr (hwi hw 221 rfl)) (Or.inr (hwi hw 225 rfl)) (by decide) (t := (.object "java/lang/String")) (t' := (.object "java/lang/String")) (by decide) (by decide)))
  have F3_x163_e164 := F3_x163.other W164 (Or.inr (slot_ne (Or.inr (hwi hw 227 rfl)) (Or.inr (hwi hw 225 rfl)) (by decide) (t := (.object "java/lang/String")) (t' := (.object "java/lang/String")) (by decide) (by decide)))
  have F4_x163_e164 := F4_x163.other W164 (Or.inr (slot_ne (Or.inr (hwi hw 229 rfl)) (Or.inr (hwi hw 225 rfl)) (by decide) (t := (.object "java/lang/String")) (t' := (.object "java/lang/String")) (by decide) (by decide)))
  have F5_x163_e164 := F5_x163.other W164 (Or.inr (slot_ne (Or.inr (hwi hw 231 rfl)) (Or.inr (hwi hw 225 rfl)) (by decide) (t := (.object "java/lang/String")) (t' := (.object "java/lang/String")) (by decide) (by decide)))
  have F6_x163_e164 := F6_x163.other W164 (Or.inr (slot_ne (Or.inr (hwi hw 243 rfl)) (Or.inr (hwi hw 225 rfl)) (by decide) (t := (.object "java/lang/String")) (t' := (.object "java/lang/String")) (by decide) (by decide)))
  have F7_x163_e164 := F7_x163.other W164 (Or.inr (slot_ne (Or.inr (hwi hw 246 rfl)) (Or.inr (hwi hw 225 rfl)) (by decide) (t := (.object "java/lang/String")) (t' := (.object "java/lang/String")) (by decide) (by decide)))
  have F8_x163_e164 := F8_x163.other W164 (Or.inr (slot_ne (Or.inr (hwi hw 263 rfl)) (Or.inr (hwi hw 225 rfl)) (by decide) (t := (.object "java/lang/String")) (t' := (.object "java/lang/String")) (by decide) (by decide)))
  have N164 := Fr.snoc X164 N163 g_o
  have K164 := K163.wr W164 (Or.inl (List.mem_of_getElem? (i := 0) rfl))
  have Z164 : n0 ≤ h164.size := Nat.le_trans Z163 (Keep.of_wr W164).1
  have hk164 := Nat.le_trans hk163 (Keep.of_wr W164).1
  have O164 := O163.wr W164 g_o
  have CR164 := CR163.trans (CHr.wr W164 (Safe.exa hZ161.alike EO_x163 (by decide) (by decide)) CR163.1)
  have SF164_o := Safe.wr W164 (Safe.exa hZ161.alike EO_x163 (by decide) (by decide)) CR163.1 (Safe.exa hZ161.alike EO_x163 (by decide) (by decide))
  have CH164 := CHv.wr W164 (Safe.exa hZ161.alike EO_x163 (by decide) (by decide)) CR163.1
  have ST1_x164 := ST1_x163.wrO EO_x163 (by decide) (hwi hw 75 rfl) W164
  have ST2_x164 := ST2_x163.wrO EO_x163 (by decide) (hwi hw 75 rfl) W164
  have SG145_x164 := SG145_x163.wrO EO_x163 (by decide) (hwi hw 75 rfl) W164
  have S153_x164 := S153_x163.wrO EO_x163 (by decide) (hwi hw 75 rfl) W164
  have SG163_x164 := SG163.wrO EO_x163 (by decide) (hwi hw 75 rfl) W164
  obtain ⟨T165, h165, X165, e165, W165, st165⟩ := putF X164 hx hZ161 hown161 (host := "") (Or.inl (hwi hw 226 rfl)) Via.refl e164 F3_x163_e164 EO_x163_e164 (Or.inr ⟨(hwi hw 227 rfl), rfl, hnm⟩) (hwi hw 75 rfl) (ty := (.object "java/lang/String")) (by decide) rfl rfl (g := (mkF m 87 #[.val (.ref o), .val (.ref t1), .val (.ref t2), .val (.ref t3), .val (.ref t4), .val (.ref t5), .unset] [(.ref t3), (.ref o)])) rfl rfl (hb hby d16_87)
  have Fw165 := F3_x163_e164.same W165
  have EO_x163_e165 := EO_x163_e164.wr W165
  have Fw146_x163_e165 := Fw146_x163_e164.other W165 (Or.inr (slot_ne (Or.inr (hwi hw 218 rfl)) (Or.inr (hwi hw 227 rfl)) (by decide) (t := (.object "java/lang/String")) (t' := (.object "java/lang/String")) (by decide) (by decide)))
  have Fw154_x163_e165 := Fw154_x163_e164.other W165 (Or.inr (slot_ne (Or.inr (hwi hw 221 rfl)) (Or.inr (hwi hw 227 rfl)) (by decide) (t := (.object "java/lang/String")) (t' := (.object "java/lang/String")) (by decide) (by decide)))
  have Fw164_e165 := Fw164.other W165 (Or.inr (slot_ne (Or.inr (hwi hw 225 rfl)) (Or.inr (hwi hw 227 rfl)) (by decide) (t := (.object "java/lang/String")) (t' := (.object "java/lang/String")) (by decide) (by decide)))
  have F4_x163_e165 := F4_x163_e164.other W165 (Or.inr (slot_ne (Or.inr (hwi hw 229 rfl)) (Or.inr (hwi hw 227 rfl)) (by decide) (t := (.object "java/lang/String")) (t' := (.object "java/lang/String")) (by decide) (by decide)))
  have F5_x163_e165 := F5_x163_e164.other W165 (Or.inr (slot_ne (Or.inr (hwi hw 231 rfl)) (Or.inr (hwi hw 227 rfl)) (by decide) (t := (.object "java/lang/String")) (t' := (.object "java/lang/String")) (by decide) (by decide)))
  have F6_x163_e165 := F6_x163_e164.other W165 (Or.inr (slot_ne (Or.inr (hwi hw 243 rfl)) (Or.inr (hwi hw 227 rfl)) (by decide) (t := (.object "java/lang/String")) (t' := (.object "java/lang/String")) (by decide) (by decide)))
  have F7_x163_e165 := F7_x163_e164.other W165 (Or.inr (slot_ne (Or.inr (hwi hw 246 rfl)) (Or.inr (hwi hw 227 rfl)) (by decide) (t := (.object "java/lang/String")) (t' := (.object "java/lang/String")) (by decide) (by decide)))
  have F8_x163_e165 := F8_x163_e164.other W165 (Or.inr (slot_ne (Or.inr (hwi hw 263 rfl)) (Or.inr (hwi hw 227 rfl)) (by decide) (t := (.object "java/lang/String")) (t' := (.object "java/lang/String")) (by decide) (by decide)))
  have N165 := Fr.snoc X165 N164 g_o
  have K165 := K164.wr W165 (Or.inl (List.mem_of_getElem? (i := 0) rfl))
  have Z165 : n0 ≤ h165.size := Nat.le_trans Z164 (Keep.of_wr W165).1
  have hk165 := Nat.le_trans hk164 (Keep.of_wr W165).1
  have O165 := O164.wr W165 g_o
  have CR165 := CR164.trans (CHr.wr W165 (Safe.exa hZ161.alike EO_x163_e164 (by decide) (by decide)) CH164)
  have SF165_o := Safe.wr W165 (Safe.exa hZ161.alike EO_x163_e164 (by decide) (by decide)) CH164 (Safe.exa hZ161.alike EO_x163_e164 (by decide) (by decide))
  have CH165 := CHv.wr W165 (Safe.exa hZ161.alike EO_x163_e164 (by decide) (by decide)) CH164
  have ST1_x165 := ST1_x164.wrO EO_x163_e164 (by decide) (hwi hw 75 rfl) W165
  have ST2_x165 := ST2_x164.wrO EO_x163_e164 (by decide) (hwi hw 75 rfl) W165
  have SG145_x165 := SG145_x164.wrO EO_x163_e164 (by decide) (hwi hw 75 rfl) W165
  have S153_x165 := S153_x164.wrO EO_x163_e164 (by decide) (hwi hw 75 rfl) W165
  have SG163_x165 := SG163_x164.wrO EO_x163_e164 (by decide) (hwi hw 75 rfl) W165
  obtain ⟨T166, h166, X166, e166, W166, st166⟩ := putF X165 hx hZ161 hown161 (host := "") (Or.inl (hwi hw 228 rfl)) Via.refl e165 F4_x163_e165 EO_x163_e165 (Or.inr ⟨(hwi hw 229 rfl), rfl, hnm⟩) (hwi hw 75 rfl) (ty := (.object "java/lang/String")) (by decide) rfl rfl (g := (mkF m 93 #[.val (.ref o), .val (.ref t1), .val (.ref t2), .val (.ref t3), .val (.ref t4), .val (.ref t5), .unset] [(.ref t4), (.ref o)])) rfl rfl (hb hby d16_93)
  have Fw166 := F4_x163_e165.same W166
  have EO_x163_e166 := EO_x163_e165.wr W166
  have Fw146_x163_e166 := Fw146_x163_e165.other W166 (Or.inr (slot_ne (Or.inr (hwi hw 218 rfl)) (Or.inr (hwi hw 229 rfl)) (by decide) (t := (.object "java/lang/String")) (t' := (.object "java/lang/String")) (by decide) (by decide)))
  have Fw154_x163_e166 := Fw154_x163_e165.other W166 (Or.inr (slot_ne (Or.inr (hwi hw 221 rfl)) (Or.inr (hwi hw 229 rfl)) (by decide) (t := (.object "java/lang/String")) (t' := (.object "java/lang/String")) (by decide) (by decide)))
  have Fw164_e166 := Fw164_e165.other W166 (Or.inr (slot_ne (Or.inr (hwi hw 225 rfl)) (Or.inr (hwi hw 229 rfl)) (by decide) (t := (.object "java/lang/String")) (t' := (.object "java/lang/String")) (by decide) (by decide)))
  have Fw165_e166 := Fw165.other W166 (Or.inr (slot_ne (Or.inr (hwi hw 227 rfl)) (Or.inr (hwi hw 229 rfl)) (by decide) (t := (.object "java/lang/String")) (t' := (.object "java/lang/String")) (by decide) (by decide)))
  have F5_x163_e166 := F5_x163_e165.other W166 (Or.inr (slot_ne (Or.inr (hwi hw 231 rfl)) (Or.inr (hwi hw 229 rfl)) (by decide) (t := (.object "java/lang/String")) (t' := (.object "java/lang/String")) (by decide) (by decide)))
  have F6_x163_e166 := F6_x163_e165.other W166 (Or.inr (slot_ne (Or.inr (hwi hw 243 rfl)) (Or.inr (hwi hw 229 rfl)) (by decide) (t := (.object "java/lang/String")) (t' := (.object "java/lang/String")) (by decide) (by decide)))
  have F7_x163_e166 := F7_x163_e165.other W166 (Or.inr (slot_ne (Or.inr (hwi hw 246 rfl)) (Or.inr (hwi hw 229 rfl)) (by decide) (t := (.object "java/lang/String")) (t' := (.object "java/lang/String")) (by decide) (by decide)))
  have F8_x163_e166 := F8_x163_e165.other W166 (Or.inr (slot_ne (Or.inr (hwi hw 263 rfl)) (Or.inr (hwi hw 229 rfl)) (by decide) (t := (.object "java/lang/String")) (t' := (.object "java/lang/String")) (by decide) (by decide)))
  have N166 := Fr.snoc X166 N165 g_o
  have K166 := K165.wr W166 (Or.inl (List.mem_of_getElem? (i := 0) rfl))
  have Z166 : n0 ≤ h166.size := Nat.le_trans Z165 (Keep.of_wr W166).1
  have hk166 := Nat.le_trans hk165 (Keep.of_wr W166).1
  have O166 := O165.wr W166 g_o
  have CR166 := CR165.trans (CHr.wr W166 (Safe.exa hZ161.alike EO_x163_e165 (by decide) (by decide)) CH165)
  have SF166_o := Safe.wr W166 (Safe.exa hZ161.alike EO_x163_e165 (by decide) (by decide)) CH165 (Safe.exa hZ161.alike EO_x163_e165 (by decide) (by decide))
  have CH166 := CHv.wr W166 (Safe.exa hZ161.alike EO_x163_e165 (by decide) (by decide)) CH165
  have ST1_x166 := ST1_x165.wrO EO_x163_e165 (by decide) (hwi hw 75 rfl) W166
  have ST2_x166 := ST2_x165.wrO EO_x163_e165 (by decide) (hwi hw 75 rfl) W166
  have SG145_x166 := SG145_x165.wrO EO_x163_e165 (by decide) (hwi hw 75 rfl) W166
  have S153_x166 := S153_x165.wrO EO_x163_e165 (by decide) (hwi hw 75 rfl) W166
  have SG163_x166 := SG163_x165.wrO EO_x163_e165 (by decide) (hwi hw 75 rfl) W166
  obtain ⟨T167, h167, X167, e167, W167, st167⟩ := putF X166 hx hZ161 hown161 (host := "") (Or.inl (hwi hw 230 rfl)) Via.refl e166 F5_x163_e166 EO_x163_e166 (Or.inr ⟨(hwi hw 231 rfl), rfl, hnm⟩) (hwi hw 75 rfl) (ty := (.object "java/lang/String")) (by decide) rfl rfl (g := (mkF m 99 #[.val (.ref o), .val (.ref t1), .val (.ref t2), .val (.ref t3), .val (.ref t4), .val (.ref t5), .unset] [(.ref t5), (.ref o)])) rfl rfl (hb hby d16_99)
  have Fw167 := F5_x163_e166.same W167
  have EO_x163_e167 := EO_x163_e166.wr W167
  have Fw146_x163_e167 := Fw146_x163_e166.other W167 (Or.inr (slot_ne (Or.inr (hwi hw 218 rfl)) (Or.inr (hwi hw 231 rfl)) (by decide) (t := (.object "java/lang/String")) (t' := (.object "java/lang/String")) (by decide) (by decide)))
  have Fw154_x163_e167 := Fw154_x163_e166.other W167 (Or.inr (slot_ne (Or.inr (hwi hw 221 rfl)) (Or.inr (hwi hw 231 rfl)) (by decide) (t := (.object "java/lang/String")) (t' := (.object "java/lang/String")) (by decide) (by decide)))
  have Fw164_e167 := Fw164_e166.other W167 (Or.inr (slot_ne (Or.inr (hwi hw 225 rfl)) (Or.inr (hwi hw 231 rfl)) (by decide) (t := (.object "java/lang/String")) (t' := (.object "java/lang/String")) (by decide) (by decide)))
  have Fw165_e167 := Fw165_e166.other W167 (Or.inr (slot_ne (Or.inr (hwi hw 227 rfl)) (Or.inr (hwi hw 231 rfl)) (by decide) (t := (.object "java/lang/String")) (t' := (.object "java/lang/String")) (by decide) (by decide)))
  have Fw166_e167 := Fw166.other W167 (Or.inr (slot_ne (Or.inr (hwi hw 229 rfl)) (Or.inr (hwi hw 231 rfl)) (by decide) (t := (.object "java/lang/String")) (t' := (.object "java/lang/String")) (by decide) (by decide)))
  have F6_x163_e167 := F6_x163_e166.other W167 (Or.inr (slot_ne (Or.inr (hwi hw 243 rfl)) (Or.inr (hwi hw 231 rfl)) (by decide) (t := (.object "java/lang/String")) (t' := (.object "java/lang/String")) (by decide) (by decide)))
  have F7_x163_e167 := F7_x163_e166.other W167 (Or.inr (slot_ne (Or.inr (hwi hw 246 rfl)) (Or.inr (hwi hw 231 rfl)) (by decide) (t := (.object "java/lang/String")) (t' := (.object "java/lang/String")) (by decide) (by decide)))
  have F8_x163_e167 := F8_x163_e166.other W167 (Or.inr (slot_ne (Or.inr (hwi hw 263 rfl)) (Or.inr (hwi hw 231 rfl)) (by decide) (t := (.object "java/lang/String")) (t' := (.object "java/lang/String")) (by decide) (by decide)))
  have N167 := Fr.snoc X167 N166 g_o
  have K167 := K166.wr W167 (Or.inl (List.mem_of_getElem? (i := 0) rfl))
  have Z167 : n0 ≤ h167.size := Nat.le_trans Z166 (Keep.of_wr W167).1
  have hk167 := Nat.le_trans hk166 (Keep.of_wr W167).1
  have O167 := O166.wr W167 g_o
  have CR167 := CR166.trans (CHr.wr W167 (Safe.exa hZ161.alike EO_x163_e166 (by decide) (by decide)) CH166)
  have SF167_o := Safe.wr W167 (Safe.exa hZ161.alike EO_x163_e166 (by decide) (by decide)) CH166 (Safe.exa hZ161.alike EO_x163_e166 (by decide) (by decide))
  have CH167 := CHv.wr W167 (Safe.exa hZ161.alike EO_x163_e166 (by decide) (by decide)) CH166
  have ST1_x167 := ST1_x166.wrO EO_x163_e166 (by decide) (hwi hw 75 rfl) W167
  have ST2_x167 := ST2_x166.wrO EO_x163_e166 (by decide) (hwi hw 75 rfl) W167
  have SG145_x167 := SG145_x166.wrO EO_x163_e166 (by decide) (hwi hw 75 rfl) W167
  have S153_x167 := S153_x166.wrO EO_x163_e166 (by decide) (hwi hw 75 rfl) W167
  have SG163_x167 := SG163_x166.wrO EO_x163_e166 (by decide) (hwi hw 75 rfl) W167
  obtain ⟨T168, b168, X168, B168, F168, ho168, st168⟩ := cNEW X167 hx hZ161 hw hown161 (hwi hw 90 rfl) e167 K167 Z167 O167 CR167 hk167 (g := (mkF m 102 #[.val (.ref o), .val (.ref t1), .val (.ref t2), .val (.ref t3), .val (.ref t4), .val (.ref t5), .unset] [])) rfl (hb hby d16_102) (by decide)
  obtain ⟨T169, L169, d169, X169, N169, B169, st169⟩ := cSBI X168 hx hZ161 hw hown161 (hwi hw 93 rfl) SK N167 hZ161.alike B168 F168 ho168 (g := (mkF m 106 #[.val (.ref o), .val (.ref t1), .val (.ref t2), .val (.ref t3), .val (.ref t4), .val (.ref t5), .unset] [(.ref b168), (.ref b168)])) rfl (by rw [hml]; rfl) rfl (W := 1) (by show 2 * 0 + _ ≤ _; exact Nat.le_of_eq rfl) (hb hby d16_106) (by decide)
  obtain ⟨a170, T170, h170, k170, v170, kk170, X170, e170, E170, hS170, hk170, hZ170, hown170, Ex170, Fc170, Fv170, Av170, -, -, C170, -, -, st170⟩ := ldcCH (s := s) (vm0 := T161.vm) (EL := EL1) X169 hx hZ161 hown161 (hwi hw 232 rfl) hwS rfl hS161 B169.1.2.2.2.2.2 hEL (List.mem_of_getElem? (i := 23) rfl) B169.1.2.2.2.1.1 (vs := Lsc_SqlDialect_47) (z := (40 : Int32)) (by decide +kernel) (by decide) (by decide +kernel) (g := (mkF m 109 #[.val (.ref o), .val (.ref t1), .val (.ref t2), .val (.ref t3), .val (.ref t4), .val (.ref t5), .unset] [(.ref b168)])) rfl (hb hby d16_109) (n := 160) (by decide +kernel) (by decide) (by decide) (by decide)
  have SC170 : StrF Z h170 a170 40 sc_SqlDialect_47 := ⟨⟨Ex170, v170, Fv170, Fc170, afOf Av170 rfl⟩, ft_sc_SqlDialect_47 _⟩
  have B170 := B169.ldc E170 C170 hk170
  obtain ⟨T171, L171, d171, X171, N171, B171, st171⟩ := cAPg X170 hx hZ170 hw hown170 (hwi hw 109 rfl) e170 SK N169 hZ170.alike B170 SC170 (cap' := 40) (cnt' := 40) (by decide) (g := (mkF m 111 #[.val (.ref o), .val (.ref t1), .val (.ref t2), .val (.ref t3), .val (.ref t4), .val (.ref t5), .unset] [(.ref a170), (.ref b168)])) rfl (by rw [hml]; rfl) rfl (W := 0) (by show 2 * 0 + _ ≤ _; exact Nat.le_of_eq rfl) (hb hby d16_111) (by decide)
  obtain ⟨T172, X172, e172, st172⟩ := getF X171 hx hZ170 hown170 (host := "") (Or.inl (hwi hw 217 rfl)) Via.refl rfl (Fw146_x163_e167.keep B171.1.2.2.2.2.1 List.not_mem_nil) (g := (mkF m 115 #[.val (.ref o), .val (.ref t1), .val (.ref t2), .val (.ref t3), .val (.ref t4), .val (.ref t5), .unset] [(.ref o), (.ref b168)])) rfl rfl (hb hby d16_115)
  obtain ⟨T173, L173, d173, X173, N173, B173, st173⟩ := cAPg X172 hx hZ170 hw hown170 (hwi hw 109 rfl) e172 SK N171 hZ170.alike B171 (SG145_x167.keep B171.1.2.2.2.2.1) (cap' := 83) (cnt' := 83) (by decide) (g := (mkF m 118 #[.val (.ref o), .val (.ref t1), .val (.ref t2), .val (.ref t3), .val (.ref t4), .val (.ref t5), .unset] [(.ref o145), (.ref b168)])) rfl (by rw [hml]; rfl) rfl (W := 0) (by show 2 * 0 + _ ≤ _; exact Nat.le_of_eq rfl) (hb hby d16_118) (by decide)
  obtain ⟨T174, L174, o174, X174, N174, B174, S174, st174⟩ := cTS X173 hx hZ170 hw hown170 (hwi hw 178 rfl) rfl SK N173 B173 (by decide) (g := (mkF m 121 #[.val (.ref o), .val (.ref t1), .val (.ref t2), .val (.ref t3), .val (.ref t4), .val (.ref t5), .unset] [(.ref b168)])) rfl (by rw [hml]; rfl) rfl (W := 0) (by show 2 * 0 + _ ≤ _; exact Nat.le_of_eq rfl) (hb hby d16_121) (by decide)
  obtain ⟨K174, Z174, O174, CR174, KB174, hk174⟩ := B174
  have ST1_x174 := ST1_x167.keep KB174
  have ST2_x174 := ST2_x167.keep KB174
  have SG145_x174 := SG145_x167.keep KB174
  have S153_x174 := S153_x167.keep KB174
  have SG163_x174 := SG163_x167.keep KB174
  have EO_x174 := EO_x163_e167.keep KB174
  have Fw146_x174 := Fw146_x163_e167.keep KB174 List.not_mem_nil
  have Fw154_x174 := Fw154_x163_e167.keep KB174 List.not_mem_nil
  have Fw164_x174 := Fw164_e167.keep KB174 List.not_mem_nil
  have Fw165_x174 := Fw165_e167.keep KB174 List.not_mem_nil
  have Fw166_x174 := Fw166_e167.keep KB174 List.not_mem_nil
  have Fw167_x174 := Fw167.keep KB174 List.not_mem_nil
  have F6_x174 := F6_x163_e167.keep KB174 List.not_mem_nil
  have F7_x174 := F7_x163_e167.keep KB174 List.not_mem_nil
  have F8_x174 := F8_x163_e167.keep KB174 List.not_mem_nil
  obtain ⟨wt174, SG174⟩ : ∃ w, StrF Z T174.heap o174 83 w := ⟨_, S174⟩
  obtain ⟨T175, b175, X175, B175, F175, ho175, st175⟩ := cNEW X174 hx hZ170 hw hown170 (hwi hw 90 rfl) rfl K174 Z174 O174 CR174 hk174 (g := (mkF m 127 #[.val (.ref o), .val (.ref t1), .val (.ref t2), .val (.ref t3), .val (.ref t4), .val (.ref t5), .val (.ref o174)] [(.ref o)])) rfl (hb hby d16_127) (by decide)
  obtain ⟨T176, L176, d176, X176, N176, B176, st176⟩ := cSBI X175 hx hZ170 hw hown170 (hwi hw 93 rfl) SK N174 hZ170.alike B175 F175 ho175 (g := (mkF m 131 #[.val (.ref o), .val (.ref t1), .val (.ref t2), .val (.ref t3), .val (.ref t4), .val (.ref t5), .val (.ref o174)] [(.ref b175), (.ref b175), (.ref o)])) rfl (by rw [hml]; rfl) rfl (W := 2) (by show 2 * 0 + _ ≤ _; exact Nat.le_of_eq rfl) (hb hby d16_131) (by decide)
  obtain ⟨a177, T177, h177, k177, v177, kk177, X177, e177, E177, hS177, hk177, hZ177, hown177, Ex177, Fc177, Fv177, Av177, -, -, C177, -, -, st177⟩ := ldcCH (s := s) (vm0 := T170.vm) (EL := EL1) X176 hx hZ170 hown170 (hwi hw 241 rfl) hwS rfl hS170 B176.1.2.2.2.2.2 hEL (List.mem_of_getElem? (i := 24) rfl) B176.1.2.2.2.1.1 (vs := Lsc_SqlDialect_49) (z := (62 : Int32)) (by decide +kernel) (by decide) (by decide +kernel) (g := (mkF m 134 #[.val (.ref o), .val (.ref t1), .val (.ref t2), .val (.ref t3), .val (.ref t4), .val (.ref t5), .val (.ref o174)] [(.ref b175), (.ref o)])) rfl (hb hby d16_134) (n := 248) (by decide +kernel) (by decide) (by decide) (by decide)
  have SC177 : StrF Z h177 a177 62 sc_SqlDialect_49 := ⟨⟨Ex177, v177, Fv177, Fc177, afOf Av177 rfl⟩, ft_sc_SqlDialect_49 _⟩
  have B177 := B176.ldc E177 C177 hk177
  obtain ⟨T178, L178, d178, X178, N178, B178, st178⟩ := cAPg X177 hx hZ177 hw hown177 (hwi hw 109 rfl) e177 SK N176 hZ177.alike B177 SC177 (cap' := 62) (cnt' := 62) (by decide) (g := (mkF m 136 #[.val (.ref o), .val (.ref t1), .val (.ref t2), .val (.ref t3), .val (.ref t4), .val (.ref t5), .val (.ref o174)] [(.ref a177), (.ref b175), (.ref o)])) rfl (by rw [hml]; rfl) rfl (W := 1) (by show 2 * 0 + _ ≤ _; exact Nat.le_of_eq rfl) (hb hby d16_136) (by decide)
  obtain ⟨T179, L179, d179, X179, N179, B179, st179⟩ := cAPg X178 hx hZ177 hw hown177 (hwi hw 109 rfl) rfl SK N178 hZ177.alike B178 (SG174.keep B178.1.2.2.2.2.1) (cap' := 145) (cnt' := 145) (by decide) (g := (mkF m 141 #[.val (.ref o), .val (.ref t1), .val (.ref t2), .val (.ref t3), .val (.ref t4), .val (.ref t5), .val (.ref o174)] [(.ref o174), (.ref b175), (.ref o)])) rfl (by rw [hml]; rfl) rfl (W := 1) (by show 2 * 0 + _ ≤ _; exact Nat.le_of_eq rfl) (hb hby d16_141) (by decide)
  obtain ⟨T180, L180, o180, X180, N180, B180, S180, st180⟩ := cTS X179 hx hZ177 hw hown177 (hwi hw 178 rfl) rfl SK N179 B179 (by decide) (g := (mkF m 144 #[.val (.ref o), .val (.ref t1), .val (.ref t2), .val (.ref t3), .val (.ref t4), .val (.ref t5), .val (.ref o174)] [(.ref b175), (.ref o)])) rfl (by rw [hml]; rfl) rfl (W := 1) (by show 2 * 0 + _ ≤ _; exact Nat.le_of_eq rfl) (hb hby d16_144) (by decide)
  obtain ⟨K180, Z180, O180, CR180, KB180, hk180⟩ := B180
  have ST1_x180 := ST1_x174.keep KB180
  have ST2_x180 := ST2_x174.keep KB180
  have SG145_x180 := SG145_x174.keep KB180
  have S153_x180 := S153_x174.keep KB180
  have SG163_x180 := SG163_x174.keep KB180
  have SG174_x180 := SG174.keep KB180
  have EO_x180 := EO_x174.keep KB180
  have Fw146_x180 := Fw146_x174.keep KB180 List.not_mem_nil
  have Fw154_x180 := Fw154_x174.keep KB180 List.not_mem_nil
  have Fw164_x180 := Fw164_x174.keep KB180 List.not_mem_nil
  have Fw165_x180 := Fw165_x174.keep KB180 List.not_mem_nil
  have Fw166_x180 := Fw166_x174.keep KB180 List.not_mem_nil
  have Fw167_x180 := Fw167_x174.keep KB180 List.not_mem_nil
  have F6_x180 := F6_x174.keep KB180 List.not_mem_nil
  have F7_x180 := F7_x174.keep KB180 List.not_mem_nil
  have F8_x180 := F8_x174.keep KB180 List.not_mem_nil
  obtain ⟨wt180, SG180⟩ : ∃ w, StrF Z T180.heap o180 145 w := ⟨_, S180⟩
  obtain ⟨T181, h181, X181, e181, W181, st181⟩ := putF X180 hx hZ177 hown177 (host := "") (Or.inl (hwi hw 242 rfl)) Via.refl rfl F6_x180 EO_x180 (Or.inr ⟨(hwi hw 243 rfl), rfl, hnm⟩) (hwi hw 75 rfl) (ty := (.object "java/lang/String")) (by decide) rfl rfl (g := (mkF m 147 #[.val (.ref o), .val (.ref t1), .val (.ref t2), .val (.ref t3), .val (.ref t4), .val (.ref t5), .val (.ref o174)] [(.ref o180), (.ref o)])) rfl rfl (hb hby d16_147)
  have Fw181 := F6_x180.same W181
  have EO_x180_e181 := EO_x180.wr W181
  have Fw146_x180_e181 := Fw146_x180.other W181 (Or.inr (slot_ne (Or.inr (hwi hw 218 rfl)) (Or.inr (hwi hw 243 rfl)) (by decide) (t := (.object "java/lang/String")) (t' := (.object "java/lang/String")) (by decide) (by decide)))
  have Fw154_x180_e181 := Fw154_x180.other W181 (Or.inr (slot_ne (Or.inr (hwi hw 221 rfl)) (Or.inr (hwi hw 243 rfl)) (by decide) (t := (.object "java/lang/String")) (t' := (.object "java/lang/String")) (by decide) (by decide)))
  have Fw164_x180_e181 := Fw164_x180.other W181 (Or.inr (slot_ne (Or.inr (hwi hw 225 rfl)) (Or.inr (hwi hw 243 rfl)) (by decide) (t := (.object "java/lang/String")) (t' := (.object "java/lang/String")) (by decide) (by decide)))
  have Fw165_x180_e181 := Fw165_x180.other W181 (Or.inr (slot_ne (Or.inr (hwi hw 227 rfl)) (Or.inr (hwi hw 243 rfl)) (by decide) (t := (.object "java/lang/String")) (t' := (.object "java/lang/String")) (by decide) (by decide)))
  have Fw166_x180_e181 := Fw166_x180.other W181 (Or.inr (slot_ne (Or.inr (hwi hw 229 rfl)) (Or.inr (hwi hw 243 rfl)) (by decide) (t := (.object "java/lang/String")) (t' := (.object "java/lang/String")) (by decide) (by decide)))
  have Fw167_x180_e181 := Fw167_x180.other W181 (Or.inr (slot_ne (Or.inr (hwi hw 231 rfl)) (Or.inr (hwi hw 243 rfl)) (by decide) (t := (.object "java/lang/String")) (t' := (.object "java/lang/String")) (by decide) (by decide)))
  have F7_x180_e181 := F7_x180.other W181 (Or.inr (slot_ne (Or.inr (hwi hw 246 rfl)) (Or.inr (hwi hw 243 rfl)) (by decide) (t := (.object "java/lang/String")) (t' := (.object "java/lang/String")) (by decide) (by decide)))
  have F8_x180_e181 := F8_x180.other W181 (Or.inr (slot_ne (Or.inr (hwi hw 263 rfl)) (Or.inr (hwi hw 243 rfl)) (by decide) (t := (.object "java/lang/String")) (t' := (.object "java/lang/String")) (by decide) (by decide)))
  have N181 := Fr.snoc X181 N180 g_o
  have K181 := K180.wr W181 (Or.inl (List.mem_of_getElem? (i := 0) rfl))
  have Z181 : n0 ≤ h181.size := Nat.le_trans Z180 (Keep.of_wr W181).1
  have hk181 := Nat.le_trans hk180 (Keep.of_wr W181).1
  have O181 := O180.wr W181 g_o
  have CR181 := CR180.trans (CHr.wr W181 (Safe.exa hZ177.alike EO_x180 (by decide) (by decide)) CR180.1)
  have SF181_o := Safe.wr W181 (Safe.exa hZ177.alike EO_x180 (by decide) (by decide)) CR180.1 (Safe.exa hZ177.alike EO_x180 (by decide) (by decide))
  have CH181 := CHv.wr W181 (Safe.exa hZ177.alike EO_x180 (by decide) (by decide)) CR180.1
  have ST1_x181 := ST1_x180.wrO EO_x180 (by decide) (hwi hw 75 rfl) W181
  have ST2_x181 := ST2_x180.wrO EO_x180 (by decide) (hwi hw 75 rfl) W181
  have SG145_x181 := SG145_x180.wrO EO_x180 (by decide) (hwi hw 75 rfl) W181
  have S153_x181 := S153_x180.wrO EO_x180 (by decide) (hwi hw 75 rfl) W181
  have SG163_x181 := SG163_x180.wrO EO_x180 (by decide) (hwi hw 75 rfl) W181
  have SG174_x181 := SG174_x180.wrO EO_x180 (by decide) (hwi hw 75 rfl) W181
  have SG180_x181 := SG180.wrO EO_x180 (by decide) (hwi hw 75 rfl) W181
  obtain ⟨T182, b182, X182, B182, F182, ho182, st182⟩ := cNEW X181 hx hZ177 hw hown177 (hwi hw 90 rfl) e181 K181 Z181 O181 CR181 hk181 (g := (mkF m 151 #[.val (.ref o), .val (.ref t1), .val (.ref t2), .val (.ref t3), .val (.ref t4), .val (.ref t5), .val (.ref o174)] [(.ref o)])) rfl (hb hby d16_151) (by decide)
  obtain ⟨T183, L183, d183, X183, N183, B183, st183⟩ := cSBI X182 hx hZ177 hw hown177 (hwi hw 93 rfl) SK N181 hZ177.alike B182 F182 ho182 (g := (mkF m 155 #[.val (.ref o), .val (.ref t1), .val (.ref t2), .val (.ref t3), .val (.ref t4), .val (.ref t5), .val (.ref o174)] [(.ref b182), (.ref b182), (.ref o)])) rfl (by rw [hml]; rfl) rfl (W := 2) (by show 2 * 0 + _ ≤ _; exact Nat.le_of_eq rfl) (hb hby d16_155) (by decide)
  obtain ⟨a184, T184, h184, k184, v184, kk184, X184, e184, E184, hS184, hk184, hZ184, hown184, Ex184, Fc184, Fv184, Av184, -, -, C184, -, -, st184⟩ := ldcCH (s := s) (vm0 := T177.vm) (EL := EL1) X183 hx hZ177 hown177 (hwi hw 244 rfl) hwS rfl hS177 B183.1.2.2.2.2.2 hEL (List.mem_of_getElem? (i := 25) rfl) B183.1.2.2.2.1.1 (vs := Lsc_SqlDialect_54) (z := (38 : Int32)) (by decide +kernel) (by decide) (by decide +kernel) (g := (mkF m 158 #[.val (.ref o), .val (.ref t1), .val (.ref t2), .val (.ref t3), .val (.ref t4), .val (.ref t5), .val (.ref o174)] [(.ref b182), (.ref o)])) rfl (hb hby d16_158) (n := 152) (by decide +kernel) (by decide) (by decide) (by decide)
  have SC184 : StrF Z h184 a184 38 sc_SqlDialect_54 := ⟨⟨Ex184, v184, Fv184, Fc184, afOf Av184 rfl⟩, ft_sc_SqlDialect_54 _⟩
  have B184 := B183.ldc E184 C184 hk184
  obtain ⟨T185, L185, d185, X185, N185, B185, st185⟩ := cAPg X184 hx hZ184 hw hown184 (hwi hw 109 rfl) e184 SK N183 hZ184.alike B184 SC184 (cap' := 38) (cnt' := 38) (by decide) (g := (mkF m 160 #[.val (.ref o), .val (.ref t1), .val (.ref t2), .val (.ref t3), .val (.ref t4), .val (.ref t5), .val (.ref o174)] [(.ref a184), (.ref b182), (.ref o)])) rfl (by rw [hml]; rfl) rfl (W := 1) (by show 2 * 0 + _ ≤ _; exact Nat.le_of_eq rfl) (hb hby d16_160) (by decide)
  obtain ⟨T186, X186, e186, st186⟩ := getF X185 hx hZ184 hown184 (host := "") (Or.inl (hwi hw 220 rfl)) Via.refl rfl (Fw154_x180_e181.keep B185.1.2.2.2.2.1 List.not_mem_nil) (g := (mkF m 164 #[.val (.ref o), .val (.ref t1), .val (.ref t2), .val (.ref t3), .val (.ref t4), .val (.ref t5), .val (.ref o174)] [(.ref o), (.ref b182), (.ref o)])) rfl rfl (hb hby d16_164)
  obtain ⟨T187, L187, d187, X187, N187, B187, st187⟩ := cAPg X186 hx hZ184 hw hown184 (hwi hw 109 rfl) e186 SK N185 hZ184.alike B185 (S153_x181.keep B185.1.2.2.2.2.1) (cap' := 79) (cnt' := 79) (by decide) (g := (mkF m 167 #[.val (.ref o), .val (.ref t1), .val (.ref t2), .val (.ref t3), .val (.ref t4), .val (.ref t5), .val (.ref o174)] [(.ref o153), (.ref b182), (.ref o)])) rfl (by rw [hml]; rfl) rfl (W := 1) (by show 2 * 0 + _ ≤ _; exact Nat.le_of_eq rfl) (hb hby d16_167) (by decide)
  obtain ⟨T188, L188, d188, X188, N188, B188, st188⟩ := cAPg X187 hx hZ184 hw hown184 (hwi hw 109 rfl) rfl SK N187 hZ184.alike B187 (SG174_x181.keep B187.1.2.2.2.2.1) (cap' := 162) (cnt' := 162) (by decide) (g := (mkF m 172 #[.val (.ref o), .val (.ref t1), .val (.ref t2), .val (.ref t3), .val (.ref t4), .val (.ref t5), .val (.ref o174)] [(.ref o174), (.ref b182), (.ref o)])) rfl (by rw [hml]; rfl) rfl (W := 1) (by show 2 * 0 + _ ≤ _; exact Nat.le_of_eq rfl) (hb hby d16_172) (by decide)
  obtain ⟨T189, L189, o189, X189, N189, B189, S189, st189⟩ := cTS X188 hx hZ184 hw hown184 (hwi hw 178 rfl) rfl SK N188 B188 (by decide) (g := (mkF m 175 #[.val (.ref o), .val (.ref t1), .val (.ref t2), .val (.ref t3), .val (.ref t4), .val (.ref t5), .val (.ref o174)] [(.ref b182), (.ref o)])) rfl (by rw [hml]; rfl) rfl (W := 1) (by show 2 * 0 + _ ≤ _; exact Nat.le_of_eq rfl) (hb hby d16_175) (by decide)
  obtain ⟨K189, Z189, O189, CR189, KB189, hk189⟩ := B189
  have ST1_x189 := ST1_x181.keep KB189
  have ST2_x189 := ST2_x181.keep KB189
  have SG145_x189 := SG145_x181.keep KB189
  have S153_x189 := S153_x181.keep KB189
  have SG163_x189 := SG163_x181.keep KB189
  have SG174_x189 := SG174_x181.keep KB189
  have SG180_x189 := SG180_x181.keep KB189
  have EO_x189 := EO_x180_e181.keep KB189
  have Fw146_x189 := Fw146_x180_e181.keep KB189 List.not_mem_nil
  have Fw154_x189 := Fw154_x180_e181.keep KB189 List.not_mem_nil
  have Fw164_x189 := Fw164_x180_e181.keep KB189 List.not_mem_nil
  have Fw165_x189 := Fw165_x180_e181.keep KB189 List.not_mem_nil
  have Fw166_x189 := Fw166_x180_e181.keep KB189 List.not_mem_nil
  have Fw167_x189 := Fw167_x180_e181.keep KB189 List.not_mem_nil
  have Fw181_x189 := Fw181.keep KB189 List.not_mem_nil
  have F7_x189 := F7_x180_e181.keep KB189 List.not_mem_nil
  have F8_x189 := F8_x180_e181.keep KB189 List.not_mem_nil
  obtain ⟨wt189, SG189⟩ : ∃ w, StrF Z T189.heap o189 162 w := ⟨_, S189⟩
  obtain ⟨T190, h190, X190, e190, W190, st190⟩ := putF X189 hx hZ184 hown184 (host := "") (Or.inl (hwi hw 245 rfl)) Via.refl rfl F7_x189 EO_x189 (Or.inr ⟨(hwi hw 246 rfl), rfl, hnm⟩) (hwi hw 75 rfl) (ty := (.object "java/lang/String")) (by decide) rfl rfl (g := (mkF m 178 #[.val (.ref o), .val (.ref t1), .val (.ref t2), .val (.ref t3), .val (.ref t4), .val (.ref t5), .val (.ref o174)] [(.ref o189), (.ref o)])) rfl rfl (hb hby d16_178)
  have Fw190 := F7_x189.same W190
  have EO_x189_e190 := EO_x189.wr W190
  have Fw146_x189_e190 := Fw146_x189.other W190 (Or.inr (slot_ne (Or.inr (hwi hw 218 rfl)) (Or.inr (hwi hw 246 rfl)) (by decide) (t := (.object "java/lang/String")) (t' := (.object "java/lang/String")) (by decide) (by decide)))
  have Fw154_x189_e190 := Fw154_x189.other W190 (Or.inr (slot_ne (Or.inr (hwi hw 221 rfl)) (Or.inr (hwi hw 246 rfl)) (by decide) (t := (.object "java/lang/String")) (t' := (.object "java/lang/String")) (by decide) (by decide)))
  have Fw164_x189_e190 := Fw164_x189.other W190 (Or.inr (slot_ne (Or.inr (hwi hw 225 rfl)) (Or.inr (hwi hw 246 rfl)) (by decide) (t := (.object "java/lang/String")) (t' := (.object "java/lang/String")) (by decide) (by decide)))
  have Fw165_x189_e190 := Fw165_x189.other W190 (Or.inr (slot_ne (Or.inr (hwi hw 227 rfl)) (Or.inr (hwi hw 246 rfl)) (by decide) (t := (.object "java/lang/String")) (t' := (.object "java/lang/String")) (by decide) (by decide)))
  have Fw166_x189_e190 := Fw166_x189.other W190 (Or.inr (slot_ne (Or.inr (hwi hw 229 rfl)) (Or.inr (hwi hw 246 rfl)) (by decide) (t := (.object "java/lang/String")) (t' := (.object "java/lang/String")) (by decide) (by decide)))
  have Fw167_x189_e190 := Fw167_x189.other W190 (Or.inr (slot_ne (Or.inr (hwi hw 231 rfl)) (Or.inr (hwi hw 246 rfl)) (by decide) (t := (.object "java/lang/String")) (t' := (.object "java/lang/String")) (by decide) (by decide)))
  have Fw181_x189_e190 := Fw181_x189.other W190 (Or.inr (slot_ne (Or.inr (hwi hw 243 rfl)) (Or.inr (hwi hw 246 rfl)) (by decide) (t := (.object "java/lang/String")) (t' := (.object "java/lang/String")) (by decide) (by decide)))
  have F8_x189_e190 := F8_x189.other W190 (Or.inr (slot_ne (Or.inr (hwi hw 263 rfl)) (Or.inr (hwi hw 246 rfl)) (by decide) (t := (.object "java/lang/String")) (t' := (.object "java/lang/String")) (by decide) (by decide)))
  have N190 := Fr.snoc X190 N189 g_o
  have K190 := K189.wr W190 (Or.inl (List.mem_of_getElem? (i := 0) rfl))
  have Z190 : n0 ≤ h190.size := Nat.le_trans Z189 (Keep.of_wr W190).1
  have hk190 := Nat.le_trans hk189 (Keep.of_wr W190).1
  have O190 := O189.wr W190 g_o
  have CR190 := CR189.trans (CHr.wr W190 (Safe.exa hZ184.alike EO_x189 (by decide) (by decide)) CR189.1)
  have SF190_o := Safe.wr W190 (Safe.exa hZ184.alike EO_x189 (by decide) (by decide)) CR189.1 (Safe.exa hZ184.alike EO_x189 (by decide) (by decide))
  have CH190 := CHv.wr W190 (Safe.exa hZ184.alike EO_x189 (by decide) (by decide)) CR189.1
  have ST1_x190 := ST1_x189.wrO EO_x189 (by decide) (hwi hw 75 rfl) W190
  have ST2_x190 := ST2_x189.wrO EO_x189 (by decide) (hwi hw 75 rfl) W190
  have SG145_x190 := SG145_x189.wrO EO_x189 (by decide) (hwi hw 75 rfl) W190
  have S153_x190 := S153_x189.wrO EO_x189 (by decide) (hwi hw 75 rfl) W190
  have SG163_x190 := SG163_x189.wrO EO_x189 (by decide) (hwi hw 75 rfl) W190
  have SG174_x190 := SG174_x189.wrO EO_x189 (by decide) (hwi hw 75 rfl) W190
  have SG180_x190 := SG180_x189.wrO EO_x189 (by decide) (hwi hw 75 rfl) W190
  have SG189_x190 := SG189.wrO EO_x189 (by decide) (hwi hw 75 rfl) W190
  obtain ⟨fs, hr, hrun, hended, -, hWW, hBB, hSS⟩ := Stand.leaveW (s := s) (vm₁ := T184.vm) X190 hS184 (by rw [e190]; exact hk190) (v := none) (fun _ => rfl)
  refine ⟨_, _, pre0 _ ?_, hrun, hended, _, _, rfl, ?_, ?_, ⟨_, rfl⟩, hWW, hBB, hSS.mono (by decide) (by decide)⟩
  · show Steps p.tables e below (s₁.setTop (mkF m 0 #[.val (.ref o), .val (.ref t1), .val (.ref t2), .val (.ref t3), .val (.ref t4), .val (.ref t5), .unset] [])) _
    refine XS.aloadN X0.here hx rfl (hb hby d16_0) rfl rfl ?_
    show Steps p.tables e below (s₁.setTop (mkF m 1 #[.val (.ref o), .val (.ref t1), .val (.ref t2), .val (.ref t3), .val (.ref t4), .val (.ref t5), .unset] [(.ref o)])) _
    refine st139 _ ?_
    refine XS.aloadN X139.here hx rfl (hb hby d16_4) rfl rfl ?_
    show Steps p.tables e below (T139.setTop (mkF m 5 #[.val (.ref o), .val (.ref t1), .val (.ref t2), .val (.ref t3), .val (.ref t4), .val (.ref t5), .unset] [(.ref o)])) _
    refine st140 _ ?_
    refine XS.dup X140.here hx rfl (hb hby d16_8) rfl rfl ?_
    show Steps p.tables e below (T140.setTop (mkF m 9 #[.val (.ref o), .val (.ref t1), .val (.ref t2), .val (.ref t3), .val (.ref t4), .val (.ref t5), .unset] [(.ref b140), (.ref b140), (.ref o)])) _
    refine st141 _ ?_
    show Steps p.tables e below (T141.setTop (mkF m 12 #[.val (.ref o), .val (.ref t1), .val (.ref t2), .val (.ref t3), .val (.ref t4), .val (.ref t5), .unset] [(.ref b140), (.ref o)])) _
    refine st142 _ ?_
    show Steps p.tables e below (T142.setTop (mkF m 14 #[.val (.ref o), .val (.ref t1), .val (.ref t2), .val (.ref t3), .val (.ref t4), .val (.ref t5), .unset] [(.ref a142), (.ref b140), (.ref o)])) _
    refine st143 _ ?_
    refine XS.aloadN X143.here hx rfl (hb hby d16_17) rfl rfl ?_
    show Steps p.tables e below (T143.setTop (mkF m 18 #[.val (.ref o), .val (.ref t1), .val (.ref t2), .val (.ref t3), .val (.ref t4), .val (.ref t5), .unset] [(.ref t1), (.ref b140), (.ref o)])) _
    refine st144 _ ?_
    show Steps p.tables e below (T144.setTop (mkF m 21 #[.val (.ref o), .val (.ref t1), .val (.ref t2), .val (.ref t3), .val (.ref t4), .val (.ref t5), .unset] [(.ref b140), (.ref o)])) _
    refine st145 _ ?_
    show Steps p.tables e below (T145.setTop (mkF m 24 #[.val (.ref o), .val (.ref t1), .val (.ref t2), .val (.ref t3), .val (.ref t4), .val (.ref t5), .unset] [(.ref o145), (.ref o)])) _
    refine st146 _ ?_
    refine XS.aloadN X146.here hx rfl (hb hby d16_27) rfl rfl ?_
    show Steps p.tables e below (T146.setTop (mkF m 28 #[.val (.ref o), .val (.ref t1), .val (.ref t2), .val (.ref t3), .val (.ref t4), .val (.ref t5), .unset] [(.ref o)])) _
    refine st147 _ ?_
    refine XS.dup X147.here hx rfl (hb hby d16_31) rfl rfl ?_
    show Steps p.tables e below (T147.setTop (mkF m 32 #[.val (.ref o), .val (.ref t1), .val (.ref t2), .val (.ref t3), .val (.ref t4), .val (.ref t5), .unset] [(.ref b147), (.ref b147), (.ref o)])) _
    refine st148 _ ?_
    refine XS.aloadN X148.here hx rfl (hb hby d16_35) rfl rfl ?_
    show Steps p.tables e below (T148.setTop (mkF m 36 #[.val (.ref o), .val (.ref t1), .val (.ref t2), .val (.ref t3), .val (.ref t4), .val (.ref t5), .unset] [(.ref t1), (.ref b147), (.ref o)])) _
    refine st149 _ ?_
    show Steps p.tables e below (T149.setTop (mkF m 39 #[.val (.ref o), .val (.ref t1), .val (.ref t2), .val (.ref t3), .val (.ref t4), .val (.ref t5), .unset] [(.ref b147), (.ref o)])) _
    refine st150 _ ?_
    show Steps p.tables e below (T150.setTop (mkF m 41 #[.val (.ref o), .val (.ref t1), .val (.ref t2), .val (.ref t3), .val (.ref t4), .val (.ref t5), .unset] [(.ref a150), (.ref b147), (.ref o)])) _
    refine st151 _ ?_
    refine XS.aloadN X151.here hx rfl (hb hby d16_44) rfl rfl ?_
    show Steps p.tables e below (T151.setTop (mkF m 45 #[.val (.ref o), .val (.ref t1), .val (.ref t2), .val (.ref t3), .val (.ref t4), .val (.ref t5), .unset] [(.ref t2), (.ref b147), (.ref o)])) _
    refine st152 _ ?_
    show Steps p.tables e below (T152.setTop (mkF m 48 #[.val (.ref o), .val (.ref t1), .val (.ref t2), .val (.ref t3), .val (.ref t4), .val (.ref t5), .unset] [(.ref b147), (.ref o)])) _
    refine st153 _ ?_
    show Steps p.tables e below (T153.setTop (mkF m 51 #[.val (.ref o), .val (.ref t1), .val (.ref t2), .val (.ref t3), .val (.ref t4), .val (.ref t5), .unset] [(.ref o153), (.ref o)])) _
    refine st154 _ ?_
    refine XS.aloadN X154.here hx rfl (hb hby d16_54) rfl rfl ?_
    show Steps p.tables e below (T154.setTop (mkF m 55 #[.val (.ref o), .val (.ref t1), .val (.ref t2), .val (.ref t3), .val (.ref t4), .val (.ref t5), .unset] [(.ref o)])) _
    refine st155 _ ?_
    refine XS.dup X155.here hx rfl (hb hby d16_58) rfl rfl ?_
    show Steps p.tables e below (T155.setTop (mkF m 59 #[.val (.ref o), .val (.ref t1), .val (.ref t2), .val (.ref t3), .val (.ref t4), .val (.ref t5), .unset] [(.ref b155), (.ref b155), (.ref o)])) _
    refine st156 _ ?_
    show Steps p.tables e below (T156.setTop (mkF m 62 #[.val (.ref o), .val (.ref t1), .val (.ref t2), .val (.ref t3), .val (.ref t4), .val (.ref t5), .unset] [(.ref b155), (.ref o)])) _
    refine st157 _ ?_
    show Steps p.tables e below (T157.setTop (mkF m 64 #[.val (.ref o), .val (.ref t1), .val (.ref t2), .val (.ref t3), .val (.ref t4), .val (.ref t5), .unset] [(.ref a157), (.ref b155), (.ref o)])) _
    refine st158 _ ?_
    refine XS.aloadN X158.here hx rfl (hb hby d16_67) rfl rfl ?_
    show Steps p.tables e below (T158.setTop (mkF m 68 #[.val (.ref o), .val (.ref t1), .val (.ref t2), .val (.ref t3), .val (.ref t4), .val (.ref t5), .unset] [(.ref o), (.ref b155), (.ref o)])) _
    refine st159 _ ?_
    show Steps p.tables e below (T159.setTop (mkF m 71 #[.val (.ref o), .val (.ref t1), .val (.ref t2), .val (.ref t3), .val (.ref t4), .val (.ref t5), .unset] [(.ref o153), (.ref b155), (.ref o)])) _
    refine st160 _ ?_
    show Steps p.tables e below (T160.setTop (mkF m 74 #[.val (.ref o), .val (.ref t1), .val (.ref t2), .val (.ref t3), .val (.ref t4), .val (.ref t5), .unset] [(.ref b155), (.ref o)])) _
    refine st161 _ ?_
    show Steps p.tables e below (T161.setTop (mkF m 76 #[.val (.ref o), .val (.ref t1), .val (.ref t2), .val (.ref t3), .val (.ref t4), .val (.ref t5), .unset] [(.ref a161), (.ref b155), (.ref o)])) _
    refine st162 _ ?_
    show Steps p.tables e below (T162.setTop (mkF m 79 #[.val (.ref o), .val (.ref t1), .val (.ref t2), .val (.ref t3), .val (.ref t4), .val (.ref t5), .unset] [(.ref b155), (.ref o)])) _
    refine st163 _ ?_
    show Steps p.tables e below (T163.setTop (mkF m 82 #[.val (.ref o), .val (.ref t1), .val (.ref t2), .val (.ref t3), .val (.ref t4), .val (.ref t5), .unset] [(.ref o163), (.ref o)])) _
    refine st164 _ ?_
    refine XS.aloadN X164.here hx rfl (hb hby d16_85) rfl rfl ?_
    refine XS.aloadN X164.here hx rfl (hb hby d16_86) rfl rfl ?_
    show Steps p.tables e below (T164.setTop (mkF m 87 #[.val (.ref o), .val (.ref t1), .val (.ref t2), .val (.ref t3), .val (.ref t4), .val (.ref t5), .unset] [(.ref t3), (.ref o)])) _
    refine st165 _ ?_
    refine XS.aloadN X165.here hx rfl (hb hby d16_90) rfl rfl ?_
    refine XS.aload X165.here hx rfl (hb hby d16_91) rfl rfl ?_
    show Steps p.tables e below (T165.setTop (mkF m 93 #[.val (.ref o), .val (.ref t1), .val (.ref t2), .val (.ref t3), .val (.ref t4), .val (.ref t5), .unset] [(.ref t4), (.ref o)])) _
    refine st166 _ ?_
    refine XS.aloadN X166.here hx rfl (hb hby d16_96) rfl rfl ?_
    refine XS.aload X166.here hx rfl (hb hby d16_97) rfl rfl ?_
    show Steps p.tables e below (T166.setTop (mkF m 99 #[.val (.ref o), .val (.ref t1), .val (.ref t2), .val (.ref t3), .val (.ref t4), .val (.ref t5), .unset] [(.ref t5), (.ref o)])) _
    refine st167 _ ?_
    show Steps p.tables e below (T167.setTop (mkF m 102 #[.val (.ref o), .val (.ref t1), .val (.ref t2), .val (.ref t3), .val (.ref t4), .val (.ref t5), .unset] [])) _
    refine st168 _ ?_
    refine XS.dup X168.here hx rfl (hb hby d16_105) rfl rfl ?_
    show Steps p.tables e below (T168.setTop (mkF m 106 #[.val (.ref o), .val (.ref t1), .val (.ref t2), .val (.ref t3), .val (.ref t4), .val (.ref t5), .unset] [(.ref b168), (.ref b168)])) _
    refine st169 _ ?_
    show Steps p.tables e below (T169.setTop (mkF m 109 #[.val (.ref o), .val (.ref t1), .val (.ref t2), .val (.ref t3), .val (.ref t4), .val (.ref t5), .unset] [(.ref b168)])) _
    refine st170 _ ?_
    show Steps p.tables e below (T170.setTop (mkF m 111 #[.val (.ref o), .val (.ref t1), .val (.ref t2), .val (.ref t3), .val (.ref t4), .val (.ref t5), .unset] [(.ref a170), (.ref b168)])) _
    refine st171 _ ?_
    refine XS.aloadN X171.here hx rfl (hb hby d16_114) rfl rfl ?_
    show Steps p.tables e below (T171.setTop (mkF m 115 #[.val (.ref o), .val (.ref t1), .val (.ref t2), .val (.ref t3), .val (.ref t4), .val (.ref t5), .unset] [(.ref o), (.ref b168)])) _
    refine st172 _ ?_
    show Steps p.tables e below (T172.setTop (mkF m 118 #[.val (.ref o), .val (.ref t1), .val (.ref t2), .val (.ref t3), .val (.ref t4), .val (.ref t5), .unset] [(.ref o145), (.ref b168)])) _
    refine st173 _ ?_
    show Steps p.tables e below (T173.setTop (mkF m 121 #[.val (.ref o), .val (.ref t1), .val (.ref t2), .val (.ref t3), .val (.ref t4), .val (.ref t5), .unset] [(.ref b168)])) _
    refine st174 _ ?_
    refine XS.astore X174.here hx rfl (hb hby d16_124) rfl rfl (l' := #[.val (.ref o), .val (.ref t1), .val (.ref t2), .val (.ref t3), .val (.ref t4), .val (.ref t5), .val (.ref o174)]) rfl ?_
    refine XS.aloadN X174.here hx rfl (hb hby d16_126) rfl rfl ?_
    show Steps p.tables e below (T174.setTop (mkF m 127 #[.val (.ref o), .val (.ref t1), .val (.ref t2), .val (.ref t3), .val (.ref t4), .val (.ref t5), .val (.ref o174)] [(.ref o)])) _
    refine st175 _ ?_
    refine XS.dup X175.here hx rfl (hb hby d16_130) rfl rfl ?_
    show Steps p.tables e below (T175.setTop (mkF m 131 #[.val (.ref o), .val (.ref t1), .val (.ref t2), .val (.ref t3), .val (.ref t4), .val (.ref t5), .val (.ref o174)] [(.ref b175), (.ref b175), (.ref o)])) _
    refine st176 _ ?_
    show Steps p.tables e below (T176.setTop (mkF m 134 #[.val (.ref o), .val (.ref t1), .val (.ref t2), .val (.ref t3), .val (.ref t4), .val (.ref t5), .val (.ref o174)] [(.ref b175), (.ref o)])) _
    refine st177 _ ?_
    show Steps p.tables e below (T177.setTop (mkF m 136 #[.val (.ref o), .val (.ref t1), .val (.ref t2), .val (.ref t3), .val (.ref t4), .val (.ref t5), .val (.ref o174)] [(.ref a177), (.ref b175), (.ref o)])) _
    refine st178 _ ?_
    refine XS.aload X178.here hx rfl (hb hby d16_139) rfl rfl ?_
    show Steps p.tables e below (T178.setTop (mkF m 141 #[.val (.ref o), .val (.ref t1), .val (.ref t2), .val (.ref t3), .val (.ref t4), .val (.ref t5), .val (.ref o174)] [(.ref o174), (.ref b175), (.ref o)])) _
    refine st179 _ ?_
    show Steps p.tables e below (T179.setTop (mkF m 144 #[.val (.ref o), .val (.ref t1), .val (.ref t2), .val (.ref t3), .val (.ref t4), .val (.ref t5), .val (.ref o174)] [(.ref b175), (.ref o)])) _
    refine st180 _ ?_
    show Steps p.tables e below (T180.setTop (mkF m 147 #[.val (.ref o), .val (.ref t1), .val (.ref t2), .val (.ref t3), .val (.ref t4), .val (.ref t5), .val (.ref o174)] [(.ref o180), (.ref o)])) _
    refine st181 _ ?_
    refine XS.aloadN X181.here hx rfl (hb hby d16_150) rfl rfl ?_
    show Steps p.tables e below (T181.setTop (mkF m 151 #[.val (.ref o), .val (.ref t1), .val (.ref t2), .val (.ref t3), .val (.ref t4), .val (.ref t5), .val (.ref o174)] [(.ref o)])) _
    refine st182 _ ?_
    refine XS.dup X182.here hx rfl (hb hby d16_154) rfl rfl ?_
    show Steps p.tables e below (T182.setTop (mkF m 155 #[.val (.ref o), .val (.ref t1), .val (.ref t2), .val (.ref t3), .val (.ref t4), .val (.ref t5), .val (.ref o174)] [(.ref b182), (.ref b182), (.ref o)])) _
    refine st183 _ ?_
    show Steps p.tables e below (T183.setTop (mkF m 158 #[.val (.ref o), .val (.ref t1), .val (.ref t2), .val (.ref t3), .val (.ref t4), .val (.ref t5), .val (.ref o174)] [(.ref b182), (.ref o)])) _
    refine st184 _ ?_
    show Steps p.tables e below (T184.setTop (mkF m 160 #[.val (.ref o), .val (.ref t1), .val (.ref t2), .val (.ref t3), .val (.ref t4), .val (.ref t5), .val (.ref o174)] [(.ref a184), (.ref b182), (.ref o)])) _
    refine st185 _ ?_
    refine XS.aloadN X185.here hx rfl (hb hby d16_163) rfl rfl ?_
    show Steps p.tables e below (T185.setTop (mkF m 164 #[.val (.ref o), .val (.ref t1), .val (.ref t2), .val (.ref t3), .val (.ref t4), .val (.ref t5), .val (.ref o174)] [(.ref o), (.ref b182), (.ref o)])) _
    refine st186 _ ?_
    show Steps p.tables e below (T186.setTop (mkF m 167 #[.val (.ref o), .val (.ref t1), .val (.ref t2), .val (.ref t3), .val (.ref t4), .val (.ref t5), .val (.ref o174)] [(.ref o153), (.ref b182), (.ref o)])) _
    refine st187 _ ?_
    refine XS.aload X187.here hx rfl (hb hby d16_170) rfl rfl ?_
    show Steps p.tables e below (T187.setTop (mkF m 172 #[.val (.ref o), .val (.ref t1), .val (.ref t2), .val (.ref t3), .val (.ref t4), .val (.ref t5), .val (.ref o174)] [(.ref o174), (.ref b182), (.ref o)])) _
    refine st188 _ ?_
    show Steps p.tables e below (T188.setTop (mkF m 175 #[.val (.ref o), .val (.ref t1), .val (.ref t2), .val (.ref t3), .val (.ref t4), .val (.ref t5), .val (.ref o174)] [(.ref b182), (.ref o)])) _
    refine st189 _ ?_
    show Steps p.tables e below (T189.setTop (mkF m 178 #[.val (.ref o), .val (.ref t1), .val (.ref t2), .val (.ref t3), .val (.ref t4), .val (.ref t5), .val (.ref o174)] [(.ref o189), (.ref o)])) _
    refine st190 _ ?_
    show Steps p.tables e below (T190.setTop (mkF m 181 #[.val (.ref o), .val (.ref t1), .val (.ref t2), .val (.ref t3), .val (.ref t4), .val (.ref t5), .val (.ref o174)] [])) _
    exact X190.returnOut hx Bd.returns (hb hby d16_181) hr
  · show QSD Z "com/example/rigorous_lock/rigorouslock/io/MariaDbDialect" o 43 41 130 (fC 19 (fC 16 (fC 0 z0 wn) sc_SqlDialect_26) wi) h0 n0 _ T190.heap _
    exact ⟨rfl, N190, by rw [e190]; exact K190, by rw [e190]; exact EO_x189_e190, by rw [e190]; exact F8_x189_e190, o145, o153, o163, wt145, wt163, by rw [e190]; exact Fw146_x189_e190, by rw [e190]; exact SG145_x190, by rw [e190]; exact Fw154_x189_e190, by rw [e190]; exact S153_x190, by rw [e190]; exact Fw164_x189_e190, by rw [e190]; exact SG163_x190⟩
  · show CHr Z EL1 s.vm s.heap T190.vm T190.heap
    have q := CR190.trans (CHv.at (s := s) (vm0 := T184.vm) X190 hZ184 hEL CH190)
    rw [hh, e190]
    exact q
set_option maxRecDepth 65536 in
set_option maxHeartbeats 40000000 in
theorem rmSD1 (l : Launch) (Z : State) (a0 : Array Value) (hw : ∀ d ∈ tables_1, d.before a0 Z = true) (ws : List Jvm.Cond) (o t1 t2 t3 t4 t5 : Addr) (wn wi : Nat → Value)  (h0 : Heap) (n0 : Nat) (Z0 : n0 ≤ h0.size) (O : Old Z n0 h0) (SK : StrSta Z) (hEL : EW Z a0 EL1) (EO : Exa Z h0 o "com/example/rigorous_lock/rigorouslock/io/PostgresDialect") (F0 : Fld Z h0 o "com/example/rigorous_lock/rigorouslock/io/SqlDialect" "held" "Ljava/lang/String;" .null) (F1 : Fld Z h0 o "com/example/rigorous_lock/rigorouslock/io/SqlDialect" "leaseEnd" "Ljava/lang/String;" .null) (F2 : Fld Z h0 o "com/example/rigorous_lock/rigorouslock/io/SqlDialect" "insertNewRow" "Ljava/lang/String;" .null) (F3 : Fld Z h0 o "com/example/rigorous_lock/rigorouslock/io/SqlDialect" "createTable" "Ljava/lang/String;" .null) (F4 : Fld Z h0 o "com/example/rigorous_lock/rigorouslock/io/SqlDialect" "timeLeftQuery" "Ljava/lang/String;" .null) (F5 : Fld Z h0 o "com/example/rigorous_lock/rigorouslock/io/SqlDialect" "missingTableState" "Ljava/lang/String;" .null) (F6 : Fld Z h0 o "com/example/rigorous_lock/rigorouslock/io/SqlDialect" "releaseStatement" "Ljava/lang/String;" .null) (F7 : Fld Z h0 o "com/example/rigorous_lock/rigorouslock/io/SqlDialect" "renewStatement" "Ljava/lang/String;" .null) (F8 : Fld Z h0 o "com/example/rigorous_lock/rigorouslock/io/PostgresDialect" "takeStatement" "Ljava/lang/String;" .null) (g_o : n0 ≤ o) (ST1 : StrF Z h0 t1 21 wn) (ST2 : StrF Z h0 t2 28 wi)  :
    MetFree l (⟨"com/example/rigorous_lock/rigorouslock/io/SqlDialect", "<init>", "(Ljava/lang/String;Ljava/lang/String;Ljava/lang/String;Ljava/lang/String;Ljava/lang/String;)V"⟩ : MethodName) (head1 (Jvm.Cond.code (⟨"com/example/rigorous_lock/rigorouslock/io/SqlDialect", "<init>", "(Ljava/lang/String;Ljava/lang/String;Ljava/lang/String;Ljava/lang/String;Ljava/lang/String;)V"⟩ : MethodName) prog_6_method_1_code 7 none :: ws) ({ frames := 6, cells := 51, slots := 12608, locals := 165 } : Room)) (fun aa_ U_ => aa_ = #[(.ref o), (.ref t1), (.ref t2), (.ref t3), (.ref t4), (.ref t5)] ∧ Z.Warmed39 U_.vm ∧ U_.heap = h0 ∧ CHv Z EL1 U_.vm h0) (fun _ _ _ _ _ => True) (fun _ U_ o_ V_ => ∃ v_ L_, o_ = .returned v_ ∧ QSD Z "com/example/rigorous_lock/rigorouslock/io/PostgresDialect" o 48 52 141 (fC 24 (fC 21 (fC 0 z0 wn) sc_SqlDialect_26) wi) h0 n0 v_ V_.heap L_ ∧ CHr Z EL1 U_.vm U_.heap V_.vm V_.heap ∧ ReturnedEndW U_ o_ V_ L_ ({ frames := 6, cells := 51, slots := 12608, locals := 165 } : Room).cells ({ frames := 6, cells := 51, slots := 12608, locals := 165 } : Room).slots) := by
  refine MetFree.of_bodySF (plainFor_of_name pn_16) hisR ?_
  intro p e s m args below meth c s₁ Bd hml0 hP hK
  obtain ⟨rfl, hZ, hh, CH0⟩ := hP
  have hx := Bd.exec
  have hby := Bd.bytes
  have hml : c.maxLocals = 7 := hml0
  have hown : s.vm.findClass "com/example/rigorous_lock/rigorouslock/io/SqlDialect" = some m.cls := findClass_of_methodNamed Bd.named
  have hnm := (name_of_methodNamed Bd.named Bd.method).1
  have X0 : Stand p l e ({ frames := 6, cells := 51, slots := 12608, locals := 165 } : Room) s m #[(.ref o), (.ref t1), (.ref t2), (.ref t3), (.ref t4), (.ref t5)] below meth c s₁ [] 0 0 := Stand.of_body Bd
  have e0 : s₁.heap = h0 := by rw [← hh, Bd.state]; rfl
  have N0 := Fr.nil n0
  have pre0 : ∀ zz, Steps p.tables e below (s₁.setTop (mkF m 0 #[.val (.ref o), .val (.ref t1), .val (.ref t2), .val (.ref t3), .val (.ref t4), .val (.ref t5), .unset] [])) zz → Steps p.tables e below (s₁.setTop (entryFrame m #[(.ref o), (.ref t1), (.ref t2), (.ref t3), (.ref t4), (.ref t5)] 7)) zz := fun zz kz_ => castTop (ef_16 m o t1 t2 t3 t4 t5) kz_
  have hwS : ∀ a ∈ Bundle.stringAtoms, a.before a0 Z = true := fun d hd => hw d (by simpa using (List.all_eq_true.mp (by decide +kernel : (Bundle.stringAtoms.all fun c => tables_1.contains c) = true)) d hd)
  obtain ⟨T191, X191, e191, st191⟩ := initO X0 hx hZ hown (hwi hw 89 rfl) (hwi hw 13 rfl) (hwi hw 14 rfl) e0 (g := (mkF m 1 #[.val (.ref o), .val (.ref t1), .val (.ref t2), .val (.ref t3), .val (.ref t4), .val (.ref t5), .unset] [(.ref o)])) rfl (by rw [hml]; rfl) rfl (hb hby d16_1) (by decide) (W := 0) (by show 2 * 0 + _ ≤ _; exact Nat.le_of_eq rfl) (by decide)
  obtain ⟨T192, b192, X192, B192, F192, ho192, st192⟩ := cNEW X191 hx hZ hw hown (hwi hw 90 rfl) e191 (Keep.refl h0 [o]) Z0 O (CHr.refl CH0) (Nat.zero_le _) (g := (mkF m 5 #[.val (.ref o), .val (.ref t1), .val (.ref t2), .val (.ref t3), .val (.ref t4), .val (.ref t5), .unset] [(.ref o)])) rfl (hb hby d16_5) (by decide)
  obtain ⟨T193, L193, d193, X193, N193, B193, st193⟩ := cSBI X192 hx hZ hw hown (hwi hw 93 rfl) SK N0 hZ.alike B192 F192 ho192 (g := (mkF m 9 #[.val (.ref o), .val (.ref t1), .val (.ref t2), .val (.ref t3), .val (.ref t4), .val (.ref t5), .unset] [(.ref b192), (.ref b192), (.ref o)])) rfl (by rw [hml]; rfl) rfl (W := 2) (by show 2 * 0 + _ ≤ _; exact Nat.le_of_eq rfl) (hb hby d16_9) (by decide)
  obtain ⟨a194, T194, h194, k194, v194, kk194, X194, e194, E194, hS194, hk194, hZ194, hown194, Ex194, Fc194, Fv194, Av194, -, -, C194, -, -, st194⟩ := ldcCH (s := s) (vm0 := s.vm) (EL := EL1) X193 hx hZ hown (hwi hw 108 rfl) hwS rfl ((State.WarmedH.refl s).since 0) B193.1.2.2.2.2.2 hEL (List.mem_of_getElem? (i := 19) rfl) B193.1.2.2.2.1.1 (vs := Lsc_SqlDialect_12) (z := (27 : Int32)) (by decide +kernel) (by decide) (by decide +kernel) (g := (mkF m 12 #[.val (.ref o), .val (.ref t1), .val (.ref t2), .val (.ref t3), .val (.ref t4), .val (.ref t5), .unset] [(.ref b192), (.ref o)])) rfl (hb hby d16_12) (n := 108) (by decide +kernel) (by decide) (by decide) (by decide)
  have SC194 : StrF Z h194 a194 27 sc_SqlDialect_12 := ⟨⟨Ex194, v194, Fv194, Fc194, afOf Av194 rfl⟩, ft_sc_SqlDialect_12 _⟩
  have B194 := B193.ldc E194 C194 hk194
  obtain ⟨T195, L195, d195, X195, N195, B195, st195⟩ := cAPg X194 hx hZ194 hw hown194 (hwi hw 109 rfl) e194 SK N193 hZ194.alike B194 SC194 (cap' := 34) (cnt' := 27) (by decide) (g := (mkF m 14 #[.val (.ref o), .val (.ref t1), .val (.ref t2), .val (.ref t3), .val (.ref t4), .val (.ref t5), .unset] [(.ref a194), (.ref b192), (.ref o)])) rfl (by rw [hml]; rfl) rfl (W := 1) (by show 2 * 0 + _ ≤ _; exact Nat.le_of_eq rfl) (hb hby d16_14) (by decide)
  obtain ⟨T196, L196, d196, X196, N196, B196, st196⟩ := cAPg X195 hx hZ194 hw hown194 (hwi hw 109 rfl) rfl SK N195 hZ194.alike B195 (ST1.keep B195.1.2.2.2.2.1) (cap' := 70) (cnt' := 48) (by decide) (g := (mkF m 18 #[.val (.ref o), .val (.ref t1), .val (.ref t2), .val (.ref t3), .val (.ref t4), .val (.ref t5), .unset] [(.ref t1), (.ref b192), (.ref o)])) rfl (by rw [hml]; rfl) rfl (W := 1) (by show 2 * 0 + _ ≤ _; exact Nat.le_of_eq rfl) (hb hby d16_18) (by decide)
  obtain ⟨T197, L197, o197, X197, N197, B197, S197, st197⟩ := cTS X196 hx hZ194 hw hown194 (hwi hw 178 rfl) rfl SK N196 B196 (by decide) (g := (mkF m 21 #[.val (.ref o), .val (.ref t1), .val (.ref t2), .val (.ref t3), .val (.ref t4), .val (.ref t5), .unset] [(.ref b192), (.ref o)])) rfl (by rw [hml]; rfl) rfl (W := 1) (by show 2 * 0 + _ ≤ _; exact Nat.le_of_eq rfl) (hb hby d16_21) (by decide)
  obtain ⟨K197, Z197, O197, CR197, KB197, hk197⟩ := B197
  have ST1_x197 := ST1.keep KB197
  have ST2_x197 := ST2.keep KB197
  have EO_x197 := EO.keep KB197
  have F0_x197 := F0.keep KB197 List.not_mem_nil
  have F1_x197 := F1.keep KB197 List.not_mem_nil
  have F2_x197 := F2.keep KB197 List.not_mem_nil
  have F3_x197 := F3.keep KB197 List.not_mem_nil
  have F4_x197 := F4.keep KB197 List.not_mem_nil
  have F5_x197 := F5.keep KB197 List.not_mem_nil
  have F6_x197 := F6.keep KB197 List.not_mem_nil
  have F7_x197 := F7.keep KB197 List.not_mem_nil
  have F8_x197 := F8.keep KB197 List.not_mem_nil
  obtain ⟨wt197, SG197⟩ : ∃ w, StrF Z T197.heap o197 48 w := ⟨_, S197⟩
  obtain ⟨T198, h198, X198, e198, W198, st198⟩ := putF X197 hx hZ194 hown194 (host := "") (Or.inl (hwi hw 217 rfl)) Via.refl rfl F0_x197 EO_x197 (Or.inr ⟨(hwi hw 282 rfl), rfl, hnm⟩) (hwi hw 271 rfl) (ty := (.object "java/lang/String")) (by decide) rfl rfl (g := (mkF m 24 #[.val (.ref o), .val (.ref t1), .val (.ref t2), .val (.ref t3), .val (.ref t4), .val (.ref t5), .unset] [(.ref o197), (.ref o)])) rfl rfl (hb hby d16_24)
  have Fw198 := F0_x197.same W198
  have EO_x197_e198 := EO_x197.wr W198
  have F1_x197_e198 := F1_x197.other W198 (Or.inr (slot_ne (Or.inr (hwi hw 283 rfl)) (Or.inr (hwi hw 282 rfl)) (by decide) (t := (.object "java/lang/String")) (t' := (.object "java/lang/String")) (by decide) (by decide)))
  have F2_x197_e198 := F2_x197.other W198 (Or.inr (slot_ne (Or.inr (hwi hw 284 rfl)) (Or.inr (hwi hw 282 rfl)) (by decide) (t := (.object "java/lang/String")) (t' := (.object "java/lang/String")) (by decide) (by decide)))
  have F3_x197_e198 := F3_x197.other W198 (Or.inr (slot_ne (Or.inr (hwi hw 285 rfl)) (Or.inr (hwi hw 282 rfl)) (by decide) (t := (.object "java/lang/String")) (t' := (.object "java/lang/String")) (by decide) (by decide)))
  have F4_x197_e198 := F4_x197.other W198 (Or.inr (slot_ne (Or.inr (hwi hw 286 rfl)) (Or.inr (hwi hw 282 rfl)) (by decide) (t := (.object "java/lang/String")) (t' := (.object "java/lang/String")) (by decide) (by decide)))
  have F5_x197_e198 := F5_x197.other W198 (Or.inr (slot_ne (Or.inr (hwi hw 287 rfl)) (Or.inr (hwi hw 282 rfl)) (by decide) (t := (.object "java/lang/String")) (t' := (.object "java/lang/String")) (by decide) (by decide)))
  have F6_x197_e198 := F6_x197.other W198 (Or.inr (slot_ne (Or.inr (hwi hw 288 rfl)) (Or.inr (hwi hw 282 rfl)) (by decide) (t := (.object "java/lang/String")) (t' := (.object "java/lang/String")) (by decide) (by decide)))
  have F7_x197_e198 := F7_x197.other W198 (Or.inr (slot_ne (Or.inr (hwi hw 289 rfl)) (Or.inr (hwi hw 282 rfl)) (by decide) (t := (.object "java/lang/String")) (t' := (.object "java/lang/String")) (by decide) (by decide)))
  have F8_x197_e198 := F8_x197.other W198 (Or.inr (slot_ne (Or.inr (hwi hw 303 rfl)) (Or.inr (hwi hw 282 rfl)) (by decide) (t := (.object "java/lang/String")) (t' := (.object "java/lang/String")) (by decide) (by decide)))
  have N198 := Fr.snoc X198 N197 g_o
  have K198 := K197.wr W198 (Or.inl (List.mem_of_getElem? (i := 0) rfl))
  have Z198 : n0 ≤ h198.size := Nat.le_trans Z197 (Keep.of_wr W198).1
  have hk198 := Nat.le_trans hk197 (Keep.of_wr W198).1
  have O198 := O197.wr W198 g_o
  have CR198 := CR197.trans (CHr.wr W198 (Safe.exa hZ194.alike EO_x197 (by decide) (by decide)) CR197.1)
  have SF198_o := Safe.wr W198 (Safe.exa hZ194.alike EO_x197 (by decide) (by decide)) CR197.1 (Safe.exa hZ194.alike EO_x197 (by decide) (by decide))
  have CH198 := CHv.wr W198 (Safe.exa hZ194.alike EO_x197 (by decide) (by decide)) CR197.1
  have ST1_x198 := ST1_x197.wrO EO_x197 (by decide) (hwi hw 271 rfl) W198
  have ST2_x198 := ST2_x197.wrO EO_x197 (by decide) (hwi hw 271 rfl) W198
  have SG197_x198 := SG197.wrO EO_x197 (by decide) (hwi hw 271 rfl) W198
  obtain ⟨T199, b199, X199, B199, F199, ho199, st199⟩ := cNEW X198 hx hZ194 hw hown194 (hwi hw 90 rfl) e198 K198 Z198 O198 CR198 hk198 (g := (mkF m 28 #[.val (.ref o), .val (.ref t1), .val (.ref t2), .val (.ref t3), .val (.ref t4), .val (.ref t5), .unset] [(.ref o)])) rfl (hb hby d16_28) (by decide)
  obtain ⟨T200, L200, d200, X200, N200, B200, st200⟩ := cSBI X199 hx hZ194 hw hown194 (hwi hw 93 rfl) SK N198 hZ194.alike B199 F199 ho199 (g := (mkF m 32 #[.val (.ref o), .val (.ref t1), .val (.ref t2), .val (.ref t3), .val (.ref t4), .val (.ref t5), .unset] [(.ref b199), (.ref b199), (.ref o)])) rfl (by rw [hml]; rfl) rfl (W := 2) (by show 2 * 0 + _ ≤ _; exact Nat.le_of_eq rfl) (hb hby d16_32) (by decide)
  obtain ⟨T201, L201, d201, X201, N201, B201, st201⟩ := cAPg X200 hx hZ194 hw hown194 (hwi hw 109 rfl) rfl SK N200 hZ194.alike B200 (ST1_x198.keep B200.1.2.2.2.2.1) (cap' := 34) (cnt' := 21) (by decide) (g := (mkF m 36 #[.val (.ref o), .val (.ref t1), .val (.ref t2), .val (.ref t3), .val (.ref t4), .val (.ref t5), .unset] [(.ref t1), (.ref b199), (.ref o)])) rfl (by rw [hml]; rfl) rfl (W := 1) (by show 2 * 0 + _ ≤ _; exact Nat.le_of_eq rfl) (hb hby d16_36) (by decide)
  obtain ⟨a202, T202, h202, k202, v202, kk202, X202, e202, E202, hS202, hk202, hZ202, hown202, Ex202, Fc202, Fv202, Av202, -, -, C202, -, -, st202⟩ := ldcCH (s := s) (vm0 := T194.vm) (EL := EL1) X201 hx hZ194 hown194 (hwi hw 219 rfl) hwS rfl hS194 B201.1.2.2.2.2.2 hEL (List.mem_of_getElem? (i := 20) rfl) B201.1.2.2.2.1.1 (vs := Lsc_SqlDialect_26) (z := (3 : Int32)) (by decide +kernel) (by decide) (by decide +kernel) (g := (mkF m 39 #[.val (.ref o), .val (.ref t1), .val (.ref t2), .val (.ref t3), .val (.ref t4), .val (.ref t5), .unset] [(.ref b199), (.ref o)])) rfl (hb hby d16_39) (n := 12) (by decide +kernel) (by decide) (by decide) (by decide)
  have SC202 : StrF Z h202 a202 3 sc_SqlDialect_26 := ⟨⟨Ex202, v202, Fv202, Fc202, afOf Av202 rfl⟩, ft_sc_SqlDialect_26 _⟩
  have B202 := B201.ldc E202 C202 hk202
  obtain ⟨T203, L203, d203, X203, N203, B203, st203⟩ := cAPf X202 hx hZ202 hw hown202 (hwi hw 109 rfl) e202 SK N201 hZ202.alike B202 SC202 (cap' := 34) (cnt' := 24) (by decide) (g := (mkF m 41 #[.val (.ref o), .val (.ref t1), .val (.ref t2), .val (.ref t3), .val (.ref t4), .val (.ref t5), .unset] [(.ref a202), (.ref b199), (.ref o)])) rfl (by rw [hml]; rfl) rfl (W := 1) (by show 2 * 0 + _ ≤ _; exact Nat.le_of_eq rfl) (hb hby d16_41) (by decide)
  obtain ⟨T204, L204, d204, X204, N204, B204, st204⟩ := cAPg X203 hx hZ202 hw hown202 (hwi hw 109 rfl) rfl SK N203 hZ202.alike B203 (ST2_x198.keep B203.1.2.2.2.2.1) (cap' := 70) (cnt' := 52) (by decide) (g := (mkF m 45 #[.val (.ref o), .val (.ref t1), .val (.ref t2), .val (.ref t3), .val (.ref t4), .val (.ref t5), .unset] [(.ref t2), (.ref b199), (.ref o)])) rfl (by rw [hml]; rfl) rfl (W := 1) (by show 2 * 0 + _ ≤ _; exact Nat.le_of_eq rfl) (hb hby d16_45) (by decide)
  obtain ⟨T205, L205, o205, X205, N205, B205, S205, st205⟩ := cTS X204 hx hZ202 hw hown202 (hwi hw 178 rfl) rfl SK N204 B204 (by decide) (g := (mkF m 48 #[.val (.ref o), .val (.ref t1), .val (.ref t2), .val (.ref t3), .val (.ref t4), .val (.ref t5), .unset] [(.ref b199), (.ref o)])) rfl (by rw [hml]; rfl) rfl (W := 1) (by show 2 * 0 + _ ≤ _; exact Nat.le_of_eq rfl) (hb hby d16_48) (by decide)
  obtain ⟨K205, Z205, O205, CR205, KB205, hk205⟩ := B205
  have ST1_x205 := ST1_x198.keep KB205
  have ST2_x205 := ST2_x198.keep KB205
  have SG197_x205 := SG197_x198.keep KB205
  have EO_x205 := EO_x197_e198.keep KB205
  have Fw198_x205 := Fw198.keep KB205 List.not_mem_nil
  have F1_x205 := F1_x197_e198.keep KB205 List.not_mem_nil
  have F2_x205 := F2_x197_e198.keep KB205 List.not_mem_nil
  have F3_x205 := F3_x197_e198.keep KB205 List.not_mem_nil
  have F4_x205 := F4_x197_e198.keep KB205 List.not_mem_nil
  have F5_x205 := F5_x197_e198.keep KB205 List.not_mem_nil
  have F6_x205 := F6_x197_e198.keep KB205 List.not_mem_nil
  have F7_x205 := F7_x197_e198.keep KB205 List.not_mem_nil
  have F8_x205 := F8_x197_e198.keep KB205 List.not_mem_nil
  obtain ⟨T206, h206, X206, e206, W206, st206⟩ := putF X205 hx hZ202 hown202 (host := "") (Or.inl (hwi hw 220 rfl)) Via.refl rfl F1_x205 EO_x205 (Or.inr ⟨(hwi hw 283 rfl), rfl, hnm⟩) (hwi hw 271 rfl) (ty := (.object "java/lang/String")) (by decide) rfl rfl (g := (mkF m 51 #[.val (.ref o), .val (.ref t1), .val (.ref t2), .val (.ref t3), .val (.ref t4), .val (.ref t5), .unset] [(.ref o205), (.ref o)])) rfl rfl (hb hby d16_51)
  have Fw206 := F1_x205.same W206
  have EO_x205_e206 := EO_x205.wr W206
  have Fw198_x205_e206 := Fw198_x205.other W206 (Or.inr (slot_ne (Or.inr (hwi hw 282 rfl)) (Or.inr (hwi hw 283 rfl)) (by decide) (t := (.object "java/lang/String")) (t' := (.object "java/lang/String")) (by decide) (by decide)))
  have F2_x205_e206 := F2_x205.other W206 (Or.inr (slot_ne (Or.inr (hwi hw 284 rfl)) (Or.inr (hwi hw 283 rfl)) (by decide) (t := (.object "java/lang/String")) (t' := (.object "java/lang/String")) (by decide) (by decide)))
  have F3_x205_e206 := F3_x205.other W206 (Or.inr (slot_ne (Or.inr (hwi hw 285 rfl)) (Or.inr (hwi hw 283 rfl)) (by decide) (t := (.object "java/lang/String")) (t' := (.object "java/lang/String")) (by decide) (by decide)))
  have F4_x205_e206 := F4_x205.other W206 (Or.inr (slot_ne (Or.inr (hwi hw 286 rfl)) (Or.inr (hwi hw 283 rfl)) (by decide) (t := (.object "java/lang/String")) (t' := (.object "java/lang/String")) (by decide) (by decide)))
  have F5_x205_e206 := F5_x205.other W206 (Or.inr (slot_ne (Or.inr (hwi hw 287 rfl)) (Or.inr (hwi hw 283 rfl)) (by decide) (t := (.object "java/lang/String")) (t' := (.object "java/lang/String")) (by decide) (by decide)))
  have F6_x205_e206 := F6_x205.other W206 (Or.inr (slot_ne (Or.inr (hwi hw 288 rfl)) (Or.inr (hwi hw 283 rfl)) (by decide) (t := (.object "java/lang/String")) (t' := (.object "java/lang/String")) (by decide) (by decide)))
  have F7_x205_e206 := F7_x205.other W206 (Or.inr (slot_ne (Or.inr (hwi hw 289 rfl)) (Or.inr (hwi hw 283 rfl)) (by decide) (t := (.object "java/lang/String")) (t' := (.object "java/lang/String")) (by decide) (by decide)))
  have F8_x205_e206 := F8_x205.other W206 (Or.inr (slot_ne (Or.inr (hwi hw 303 rfl)) (Or.inr (hwi hw 283 rfl)) (by decide) (t := (.object "java/lang/String")) (t' := (.object "java/lang/String")) (by decide) (by decide)))
  have N206 := Fr.snoc X206 N205 g_o
  have K206 := K205.wr W206 (Or.inl (List.mem_of_getElem? (i := 0) rfl))
  have Z206 : n0 ≤ h206.size := Nat.le_trans Z205 (Keep.of_wr W206).1
  have hk206 := Nat.le_trans hk205 (Keep.of_wr W206).1
  have O206 := O205.wr W206 g_o
  have CR206 := CR205.trans (CHr.wr W206 (Safe.exa hZ202.alike EO_x205 (by decide) (by decide)) CR205.1)
  have SF206_o := Safe.wr W206 (Safe.exa hZ202.alike EO_x205 (by decide) (by decide)) CR205.1 (Safe.exa hZ202.alike EO_x205 (by decide) (by decide))
  have CH206 := CHv.wr W206 (Safe.exa hZ202.alike EO_x205 (by decide) (by decide)) CR205.1
  have ST1_x206 := ST1_x205.wrO EO_x205 (by decide) (hwi hw 271 rfl) W206
  have ST2_x206 := ST2_x205.wrO EO_x205 (by decide) (hwi hw 271 rfl) W206
  have SG197_x206 := SG197_x205.wrO EO_x205 (by decide) (hwi hw 271 rfl) W206
  have S205_x206 := S205.wrO EO_x205 (by decide) (hwi hw 271 rfl) W206
  obtain ⟨T207, b207, X207, B207, F207, ho207, st207⟩ := cNEW X206 hx hZ202 hw hown202 (hwi hw 90 rfl) e206 K206 Z206 O206 CR206 hk206 (g := (mkF m 55 #[.val (.ref o), .val (.ref t1), .val (.ref t2), .val (.ref t3), .val (.ref t4), .val (.ref t5), .unset] [(.ref o)])) rfl (hb hby d16_55) (by decide)
  obtain ⟨T208, L208, d208, X208, N208, B208, st208⟩ := cSBI X207 hx hZ202 hw hown202 (hwi hw 93 rfl) SK N206 hZ202.alike B207 F207 ho207 (g := (mkF m 59 #[.val (.ref o), .val (.ref t1), .val (.ref t2), .val (.ref t3), .val (.ref t4), .val (.ref t5), .unset] [(.ref b207), (.ref b207), (.ref o)])) rfl (by rw [hml]; rfl) rfl (W := 2) (by show 2 * 0 + _ ≤ _; exact Nat.le_of_eq rfl) (hb hby d16_59) (by decide)
  obtain ⟨a209, T209, h209, k209, v209, kk209, X209, e209, E209, hS209, hk209, hZ209, hown209, Ex209, Fc209, Fv209, Av209, -, -, C209, -, -, st209⟩ := ldcCH (s := s) (vm0 := T202.vm) (EL := EL1) X208 hx hZ202 hown202 (hwi hw 222 rfl) hwS rfl hS202 B208.1.2.2.2.2.2 hEL (List.mem_of_getElem? (i := 21) rfl) B208.1.2.2.2.1.1 (vs := Lsc_SqlDialect_31) (z := (87 : Int32)) (by decide +kernel) (by decide) (by decide +kernel) (g := (mkF m 62 #[.val (.ref o), .val (.ref t1), .val (.ref t2), .val (.ref t3), .val (.ref t4), .val (.ref t5), .unset] [(.ref b207), (.ref o)])) rfl (hb hby d16_62) (n := 348) (by decide +kernel) (by decide) (by decide) (by decide)
  have SC209 : StrF Z h209 a209 87 sc_SqlDialect_31 := ⟨⟨Ex209, v209, Fv209, Fc209, afOf Av209 rfl⟩, ft_sc_SqlDialect_31 _⟩
  have B209 := B208.ldc E209 C209 hk209
  obtain ⟨T210, L210, d210, X210, N210, B210, st210⟩ := cAPg X209 hx hZ209 hw hown209 (hwi hw 109 rfl) e209 SK N208 hZ209.alike B209 SC209 (cap' := 87) (cnt' := 87) (by decide) (g := (mkF m 64 #[.val (.ref o), .val (.ref t1), .val (.ref t2), .val (.ref t3), .val (.ref t4), .val (.ref t5), .unset] [(.ref a209), (.ref b207), (.ref o)])) rfl (by rw [hml]; rfl) rfl (W := 1) (by show 2 * 0 + _ ≤ _; exact Nat.le_of_eq rfl) (hb hby d16_64) (by decide)
  obtain ⟨T211, X211, e211, st211⟩ := getF X210 hx hZ209 hown209 (host := "") (Or.inl (hwi hw 220 rfl)) Via.refl rfl (Fw206.keep B210.1.2.2.2.2.1 List.not_mem_nil) (g := (mkF m 68 #[.val (.ref o), .val (.ref t1), .val (.ref t2), .val (.ref t3), .val (.ref t4), .val (.ref t5), .unset] [(.ref o), (.ref b207), (.ref o)])) rfl rfl (hb hby d16_68)
  obtain ⟨T212, L212, d212, X212, N212, B212, st212⟩ := cAPg X211 hx hZ209 hw hown209 (hwi hw 109 rfl) e211 SK N210 hZ209.alike B210 (S205_x206.keep B210.1.2.2.2.2.1) (cap' := 176) (cnt' := 139) (by decide) (g := (mkF m 71 #[.val (.ref o), .val (.ref t1), .val (.ref t2), .val (.ref t3), .val (.ref t4), .val (.ref t5), .unset] [(.ref o205), (.ref b207), (.ref o)])) rfl (by rw [hml]; rfl) rfl (W := 1) (by show 2 * 0 + _ ≤ _; exact Nat.le_of_eq rfl) (hb hby d16_71) (by decide)
  obtain ⟨a213, T213, h213, k213, v213, kk213, X213, e213, E213, hS213, hk213, hZ213, hown213, Ex213, Fc213, Fv213, Av213, -, -, C213, -, -, st213⟩ := ldcCH (s := s) (vm0 := T209.vm) (EL := EL1) X212 hx hZ209 hown209 (hwi hw 223 rfl) hwS rfl hS209 B212.1.2.2.2.2.2 hEL (List.mem_of_getElem? (i := 22) rfl) B212.1.2.2.2.1.1 (vs := Lsc_SqlDialect_33) (z := (2 : Int32)) (by decide +kernel) (by decide) (by decide +kernel) (g := (mkF m 74 #[.val (.ref o), .val (.ref t1), .val (.ref t2), .val (.ref t3), .val (.ref t4), .val (.ref t5), .unset] [(.ref b207), (.ref o)])) rfl (hb hby d16_74) (n := 8) (by decide +kernel) (by decide) (by decide) (by decide)
  have SC213 : StrF Z h213 a213 2 sc_SqlDialect_33 := ⟨⟨Ex213, v213, Fv213, Fc213, afOf Av213 rfl⟩, ft_sc_SqlDialect_33 _⟩
  have B213 := B212.ldc E213 C213 hk213
  obtain ⟨T214, L214, d214, X214, N214, B214, st214⟩ := cAPf X213 hx hZ213 hw hown213 (hwi hw 109 rfl) e213 SK N212 hZ213.alike B213 SC213 (cap' := 176) (cnt' := 141) (by decide) (g := (mkF m 76 #[.val (.ref o), .val (.ref t1), .val (.ref t2), .val (.ref t3), .val (.ref t4), .val (.ref t5), .unset] [(.ref a213), (.ref b207), (.ref o)])) rfl (by rw [hml]; rfl) rfl (W := 1) (by show 2 * 0 + _ ≤ _; exact Nat.le_of_eq rfl) (hb hby d16_76) (by decide)
  obtain ⟨T215, L215, o215, X215, N215, B215, S215, st215⟩ := cTS X214 hx hZ213 hw hown213 (hwi hw 178 rfl) rfl SK N214 B214 (by decide) (g := (mkF m 79 #[.val (.ref o), .val (.ref t1), .val (.ref t2), .val (.ref t3), .val (.ref t4), .val (.ref t5), .unset] [(.ref b207), (.ref o)])) rfl (by rw [hml]; rfl) rfl (W := 1) (by show 2 * 0 + _ ≤ _; exact Nat.le_of_eq rfl) (hb hby d16_79) (by decide)
  obtain ⟨K215, Z215, O215, CR215, KB215, hk215⟩ := B215
  have ST1_x215 := ST1_x206.keep KB215
  have ST2_x215 := ST2_x206.keep KB215
  have SG197_x215 := SG197_x206.keep KB215
  have S205_x215 := S205_x206.keep KB215
  have EO_x215 := EO_x205_e206.keep KB215
  have Fw198_x215 := Fw198_x205_e206.keep KB215 List.not_mem_nil
  have Fw206_x215 := Fw206.keep KB215 List.not_mem_nil
  have F2_x215 := F2_x205_e206.keep KB215 List.not_mem_nil
  have F3_x215 := F3_x205_e206.keep KB215 List.not_mem_nil
  have F4_x215 := F4_x205_e206.keep KB215 List.not_mem_nil
  have F5_x215 := F5_x205_e206.keep KB215 List.not_mem_nil
  have F6_x215 := F6_x205_e206.keep KB215 List.not_mem_nil
  have F7_x215 := F7_x205_e206.keep KB215 List.not_mem_nil
  have F8_x215 := F8_x205_e206.keep KB215 List.not_mem_nil
  obtain ⟨wt215, SG215⟩ : ∃ w, StrF Z T215.heap o215 141 w := ⟨_, S215⟩
  obtain ⟨T216, h216, X216, e216, W216, st216⟩ := putF X215 hx hZ213 hown213 (host := "") (Or.inl (hwi hw 224 rfl)) Via.refl rfl F2_x215 EO_x215 (Or.inr ⟨(hwi hw 284 rfl), rfl, hnm⟩) (hwi hw 271 rfl) (ty := (.object "java/lang/String")) (by decide) rfl rfl (g := (mkF m 82 #[.val (.ref o), .val (.ref t1), .val (.ref t2), .val (.ref t3), .val (.ref t4), .val (.ref t5), .unset] [(.ref o215), (.ref o)])) rfl rfl (hb hby d16_82)
  have Fw216 := F2_x215.same W216
  have EO_x215_e216 := EO_x215.wr W216
  have Fw198_x215_e216 := Fw198_x215.other W216 (Or.inr (slot_ne (Or.inr (hwi hw 282 rfl)) (Or.inr (hwi hw 284 rfl)) (by decide) (t := (.object "java/lang/String")) (t' := (.object "java/lang/String")) (by decide) (by decide)))
  have Fw206_x215_e216 := Fw206_x215.other W216 (Or.inr (slot_ne (Or.inr (hwi hw 283 rfl)) (Or.inr (hwi hw 284 rfl)) (by decide) (t := (.object "java/lang/String")) (t' := (.object "java/lang/String")) (by decide) (by decide)))
  have F3_x215_e216 := F3_x215.other W216 (Or.inr (slot_ne (Or.inr (hwi hw 285 rfl)) (Or.inr (hwi hw 284 rfl)) (by decide) (t := (.object "java/lang/String")) (t' := (.object "java/lang/String")) (by decide) (by decide)))
  have F4_x215_e216 := F4_x215.other W216 (Or.inr (slot_ne (Or.inr (hwi hw 286 rfl)) (Or.inr (hwi hw 284 rfl)) (by decide) (t := (.object "java/lang/String")) (t' := (.object "java/lang/String")) (by decide) (by decide)))
  have F5_x215_e216 := F5_x215.other W216 (Or.inr (slot_ne (Or.inr (hwi hw 287 rfl)) (Or.inr (hwi hw 284 rfl)) (by decide) (t := (.object "java/lang/String")) (t' := (.object "java/lang/String")) (by decide) (by decide)))
  have F6_x215_e216 := F6_x215.other W216 (Or.inr (slot_ne (Or.inr (hwi hw 288 rfl)) (Or.inr (hwi hw 284 rfl)) (by decide) (t := (.object "java/lang/String")) (t' := (.object "java/lang/String")) (by decide) (by decide)))
  have F7_x215_e216 := F7_x215.other W216 (Or.inr (slot_ne (Or.inr (hwi hw 289 rfl)) (Or.inr (hwi hw 284 rfl)) (by decide) (t := (.object "java/lang/String")) (t' := (.object "java/lang/String")) (by decide) (by decide)))
  have F8_x215_e216 := F8_x215.other W216 (Or.inr (slot_ne (Or.inr (hwi hw 303 rfl)) (Or.inr (hwi hw 284 rfl)) (by decide) (t := (.object "java/lang/String")) (t' := (.object "java/lang/String")) (by decide) (by decide)))
  have N216 := Fr.snoc X216 N215 g_o
  have K216 := K215.wr W216 (Or.inl (List.mem_of_getElem? (i := 0) rfl))
  have Z216 : n0 ≤ h216.size := Nat.le_trans Z215 (Keep.of_wr W216).1
  have hk216 := Nat.le_trans hk215 (Keep.of_wr W216).1
  have O216 := O215.wr W216 g_o
  have CR216 := CR215.trans (CHr.wr W216 (Safe.exa hZ213.alike EO_x215 (by decide) (by decide)) CR215.1)
  have SF216_o := Safe.wr W216 (Safe.exa hZ213.alike EO_x215 (by decide) (by decide)) CR215.1 (Safe.exa hZ213.alike EO_x215 (by decide) (by decide))
  have CH216 := CHv.wr W216 (Safe.exa hZ213.alike EO_x215 (by decide) (by decide)) CR215.1
  have ST1_x216 := ST1_x215.wrO EO_x215 (by decide) (hwi hw 271 rfl) W216
  have ST2_x216 := ST2_x215.wrO EO_x215 (by decide) (hwi hw 271 rfl) W216
  have SG197_x216 := SG197_x215.wrO EO_x215 (by decide) (hwi hw 271 rfl) W216
  have S205_x216 := S205_x215.wrO EO_x215 (by decide) (hwi hw 271 rfl) W216
  have SG215_x216 := SG215.wrO EO_x215 (by decide) (hwi hw 271 rfl) W216
  obtain ⟨T217, h217, X217, e217, W217, st217⟩ := putF X216 hx hZ213 hown213 (host := "") (Or.inl (hwi hw 226 rfl)) Via.refl e216 F3_x215_e216 EO_x215_e216 (Or.inr ⟨(hwi hw 285 rfl), rfl, hnm⟩) (hwi hw 271 rfl) (ty := (.object "java/lang/String")) (by decide) rfl rfl (g := (mkF m 87 #[.val (.ref o), .val (.ref t1), .val (.ref t2), .val (.ref t3), .val (.ref t4), .val (.ref t5), .unset] [(.ref t3), (.ref o)])) rfl rfl (hb hby d16_87)
  have Fw217 := F3_x215_e216.same W217
  have EO_x215_e217 := EO_x215_e216.wr W217
  have Fw198_x215_e217 := Fw198_x215_e216.other W217 (Or.inr (slot_ne (Or.inr (hwi hw 282 rfl)) (Or.inr (hwi hw 285 rfl)) (by decide) (t := (.object "java/lang/String")) (t' := (.object "java/lang/String")) (by decide) (by decide)))
  have Fw206_x215_e217 := Fw206_x215_e216.other W217 (Or.inr (slot_ne (Or.inr (hwi hw 283 rfl)) (Or.inr (hwi hw 285 rfl)) (by decide) (t := (.object "java/lang/String")) (t' := (.object "java/lang/String")) (by decide) (by decide)))
  have Fw216_e217 := Fw216.other W217 (Or.inr (slot_ne (Or.inr (hwi hw 284 rfl)) (Or.inr (hwi hw 285 rfl)) (by decide) (t := (.object "java/lang/String")) (t' := (.object "java/lang/String")) (by decide) (by decide)))
  have F4_x215_e217 := F4_x215_e216.other W217 (Or.inr (slot_ne (Or.inr (hwi hw 286 rfl)) (Or.inr (hwi hw 285 rfl)) (by decide) (t := (.object "java/lang/String")) (t' := (.object "java/lang/String")) (by decide) (by decide)))
  have F5_x215_e217 := F5_x215_e216.other W217 (Or.inr (slot_ne (Or.inr (hwi hw 287 rfl)) (Or.inr (hwi hw 285 rfl)) (by decide) (t := (.object "java/lang/String")) (t' := (.object "java/lang/String")) (by decide) (by decide)))
  have F6_x215_e217 := F6_x215_e216.other W217 (Or.inr (slot_ne (Or.inr (hwi hw 288 rfl)) (Or.inr (hwi hw 285 rfl)) (by decide) (t := (.object "java/lang/String")) (t' := (.object "java/lang/String")) (by decide) (by decide)))
  have F7_x215_e217 := F7_x215_e216.other W217 (Or.inr (slot_ne (Or.inr (hwi hw 289 rfl)) (Or.inr (hwi hw 285 rfl)) (by decide) (t := (.object "java/lang/String")) (t' := (.object "java/lang/String")) (by decide) (by decide)))
  have F8_x215_e217 := F8_x215_e216.other W217 (Or.inr (slot_ne (Or.inr (hwi hw 303 rfl)) (Or.inr (hwi hw 285 rfl)) (by decide) (t := (.object "java/lang/String")) (t' := (.object "java/lang/String")) (by decide) (by decide)))
  have N217 := Fr.snoc X217 N216 g_o
  have K217 := K216.wr W217 (Or.inl (List.mem_of_getElem? (i := 0) rfl))
  have Z217 : n0 ≤ h217.size := Nat.le_trans Z216 (Keep.of_wr W217).1
  have hk217 := Nat.le_trans hk216 (Keep.of_wr W217).1
  have O217 := O216.wr W217 g_o
  have CR217 := CR216.trans (CHr.wr W217 (Safe.exa hZ213.alike EO_x215_e216 (by decide) (by decide)) CH216)
  have SF217_o := Safe.wr W217 (Safe.exa hZ213.alike EO_x215_e216 (by decide) (by decide)) CH216 (Safe.exa hZ213.alike EO_x215_e216 (by decide) (by decide))
  have CH217 := CHv.wr W217 (Safe.exa hZ213.alike EO_x215_e216 (by decide) (by decide)) CH216
  have ST1_x217 := ST1_x216.wrO EO_x215_e216 (by decide) (hwi hw 271 rfl) W217
  have ST2_x217 := ST2_x216.wrO EO_x215_e216 (by decide) (hwi hw 271 rfl) W217
  have SG197_x217 := SG197_x216.wrO EO_x215_e216 (by decide) (hwi hw 271 rfl) W217
  have S205_x217 := S205_x216.wrO EO_x215_e216 (by decide) (hwi hw 271 rfl) W217
  have SG215_x217 := SG215_x216.wrO EO_x215_e216 (by decide) (hwi hw 271 rfl) W217
  obtain ⟨T218, h218, X218, e218, W218, st218⟩ := putF X217 hx hZ213 hown213 (host := "") (Or.inl (hwi hw 228 rfl)) Via.refl e217 F4_x215_e217 EO_x215_e217 (Or.inr ⟨(hwi hw 286 rfl), rfl, hnm⟩) (hwi hw 271 rfl) (ty := (.object "java/lang/String")) (by decide) rfl rfl (g := (mkF m 93 #[.val (.ref o), .val (.ref t1), .val (.ref t2), .val (.ref t3), .val (.ref t4), .val (.ref t5), .unset] [(.ref t4), (.ref o)])) rfl rfl (hb hby d16_93)
  have Fw218 := F4_x215_e217.same W218
  have EO_x215_e218 := EO_x215_e217.wr W218
  have Fw198_x215_e218 := Fw198_x215_e217.other W218 (Or.inr (slot_ne (Or.inr (hwi hw 282 rfl)) (Or.inr (hwi hw 286 rfl)) (by decide) (t := (.object "java/lang/String")) (t' := (.object "java/lang/String")) (by decide) (by decide)))
  have Fw206_x215_e218 := Fw206_x215_e217.other W218 (Or.inr (slot_ne (Or.inr (hwi hw 283 rfl)) (Or.inr (hwi hw 286 rfl)) (by decide) (t := (.object "java/lang/String")) (t' := (.object "java/lang/String")) (by decide) (by decide)))
  have Fw216_e218 := Fw216_e217.other W218 (Or.inr (slot_ne (Or.inr (hwi hw 284 rfl)) (Or.inr (hwi hw 286 rfl)) (by decide) (t := (.object "java/lang/String")) (t' := (.object "java/lang/String")) (by decide) (by decide)))
  have Fw217_e218 := Fw217.other W218 (Or.inr (slot_ne (Or.inr (hwi hw 285 rfl)) (Or.inr (hwi hw 286 rfl)) (by decide) (t := (.object "java/lang/String")) (t' := (.object "java/lang/String")) (by decide) (by decide)))
  have F5_x215_e218 := F5_x215_e217.other W218 (Or.inr (slot_ne (Or.inr (hwi hw 287 rfl)) (Or.inr (hwi hw 286 rfl)) (by decide) (t := (.object "java/lang/String")) (t' := (.object "java/lang/String")) (by decide) (by decide)))
  have F6_x215_e218 := F6_x215_e217.other W218 (Or.inr (slot_ne (Or.inr (hwi hw 288 rfl)) (Or.inr (hwi hw 286 rfl)) (by decide) (t := (.object "java/lang/String")) (t' := (.object "java/lang/String")) (by decide) (by decide)))
  have F7_x215_e218 := F7_x215_e217.other W218 (Or.inr (slot_ne (Or.inr (hwi hw 289 rfl)) (Or.inr (hwi hw 286 rfl)) (by decide) (t := (.object "java/lang/String")) (t' := (.object "java/lang/String")) (by decide) (by decide)))
  have F8_x215_e218 := F8_x215_e217.other W218 (Or.inr (slot_ne (Or.inr (hwi hw 303 rfl)) (Or.inr (hwi hw 286 rfl)) (by decide) (t := (.object "java/lang/String")) (t' := (.object "java/lang/String")) (by decide) (by decide)))
  have N218 := Fr.snoc X218 N217 g_o
  have K218 := K217.wr W218 (Or.inl (List.mem_of_getElem? (i := 0) rfl))
  have Z218 : n0 ≤ h218.size := Nat.le_trans Z217 (Keep.of_wr W218).1
  have hk218 := Nat.le_trans hk217 (Keep.of_wr W218).1
  have O218 := O217.wr W218 g_o
  have CR218 := CR217.trans (CHr.wr W218 (Safe.exa hZ213.alike EO_x215_e217 (by decide) (by decide)) CH217)
  have SF218_o := Safe.wr W218 (Safe.exa hZ213.alike EO_x215_e217 (by decide) (by decide)) CH217 (Safe.exa hZ213.alike EO_x215_e217 (by decide) (by decide))
  have CH218 := CHv.wr W218 (Safe.exa hZ213.alike EO_x215_e217 (by decide) (by decide)) CH217
  have ST1_x218 := ST1_x217.wrO EO_x215_e217 (by decide) (hwi hw 271 rfl) W218
  have ST2_x218 := ST2_x217.wrO EO_x215_e217 (by decide) (hwi hw 271 rfl) W218
  have SG197_x218 := SG197_x217.wrO EO_x215_e217 (by decide) (hwi hw 271 rfl) W218
  have S205_x218 := S205_x217.wrO EO_x215_e217 (by decide) (hwi hw 271 rfl) W218
  have SG215_x218 := SG215_x217.wrO EO_x215_e217 (by decide) (hwi hw 271 rfl) W218
  obtain ⟨T219, h219, X219, e219, W219, st219⟩ := putF X218 hx hZ213 hown213 (host := "") (Or.inl (hwi hw 230 rfl)) Via.refl e218 F5_x215_e218 EO_x215_e218 (Or.inr ⟨(hwi hw 287 rfl), rfl, hnm⟩) (hwi hw 271 rfl) (ty := (.object "java/lang/String")) (by decide) rfl rfl (g := (mkF m 99 #[.val (.ref o), .val (.ref t1), .val (.ref t2), .val (.ref t3), .val (.ref t4), .val (.ref t5), .unset] [(.ref t5), (.ref o)])) rfl rfl (hb hby d16_99)
  have Fw219 := F5_x215_e218.same W219
  have EO_x215_e219 := EO_x215_e218.wr W219
  have Fw198_x215_e219 := Fw198_x215_e218.other W219 (Or.inr (slot_ne (Or.inr (hwi hw 282 rfl)) (Or.inr (hwi hw 287 rfl)) (by decide) (t := (.object "java/lang/String")) (t' := (.object "java/lang/String")) (by decide) (by decide)))
  have Fw206_x215_e219 := Fw206_x215_e218.other W219 (Or.inr (slot_ne (Or.inr (hwi hw 283 rfl)) (Or.inr (hwi hw 287 rfl)) (by decide) (t := (.object "java/lang/String")) (t' := (.object "java/lang/String")) (by decide) (by decide)))
  have Fw216_e219 := Fw216_e218.other W219 (Or.inr (slot_ne (Or.inr (hwi hw 284 rfl)) (Or.inr (hwi hw 287 rfl)) (by decide) (t := (.object "java/lang/String")) (t' := (.object "java/lang/String")) (by decide) (by decide)))
  have Fw217_e219 := Fw217_e218.other W219 (Or.inr (slot_ne (Or.inr (hwi hw 285 rfl)) (Or.inr (hwi hw 287 rfl)) (by decide) (t := (.object "java/lang/String")) (t' := (.object "java/lang/String")) (by decide) (by decide)))
  have Fw218_e219 := Fw218.other W219 (Or.inr (slot_ne (Or.inr (hwi hw 286 rfl)) (Or.inr (hwi hw 287 rfl)) (by decide) (t := (.object "java/lang/String")) (t' := (.object "java/lang/String")) (by decide) (by decide)))
  have F6_x215_e219 := F6_x215_e218.other W219 (Or.inr (slot_ne (Or.inr (hwi hw 288 rfl)) (Or.inr (hwi hw 287 rfl)) (by decide) (t := (.object "java/lang/String")) (t' := (.object "java/lang/String")) (by decide) (by decide)))
  have F7_x215_e219 := F7_x215_e218.other W219 (Or.inr (slot_ne (Or.inr (hwi hw 289 rfl)) (Or.inr (hwi hw 287 rfl)) (by decide) (t := (.object "java/lang/String")) (t' := (.object "java/lang/String")) (by decide) (by decide)))
  have F8_x215_e219 := F8_x215_e218.other W219 (Or.inr (slot_ne (Or.inr (hwi hw 303 rfl)) (Or.inr (hwi hw 287 rfl)) (by decide) (t := (.object "java/lang/String")) (t' := (.object "java/lang/String")) (by decide) (by decide)))
  have N219 := Fr.snoc X219 N218 g_o
  have K219 := K218.wr W219 (Or.inl (List.mem_of_getElem? (i := 0) rfl))
  have Z219 : n0 ≤ h219.size := Nat.le_trans Z218 (Keep.of_wr W219).1
  have hk219 := Nat.le_trans hk218 (Keep.of_wr W219).1
  have O219 := O218.wr W219 g_o
  have CR219 := CR218.trans (CHr.wr W219 (Safe.exa hZ213.alike EO_x215_e218 (by decide) (by decide)) CH218)
  have SF219_o := Safe.wr W219 (Safe.exa hZ213.alike EO_x215_e218 (by decide) (by decide)) CH218 (Safe.exa hZ213.alike EO_x215_e218 (by decide) (by decide))
  have CH219 := CHv.wr W219 (Safe.exa hZ213.alike EO_x215_e218 (by decide) (by decide)) CH218
  have ST1_x219 := ST1_x218.wrO EO_x215_e218 (by decide) (hwi hw 271 rfl) W219
  have ST2_x219 := ST2_x218.wrO EO_x215_e218 (by decide) (hwi hw 271 rfl) W219
  have SG197_x219 := SG197_x218.wrO EO_x215_e218 (by decide) (hwi hw 271 rfl) W219
  have S205_x219 := S205_x218.wrO EO_x215_e218 (by decide) (hwi hw 271 rfl) W219
  have SG215_x219 := SG215_x218.wrO EO_x215_e218 (by decide) (hwi hw 271 rfl) W219
  obtain ⟨T220, b220, X220, B220, F220, ho220, st220⟩ := cNEW X219 hx hZ213 hw hown213 (hwi hw 90 rfl) e219 K219 Z219 O219 CR219 hk219 (g := (mkF m 102 #[.val (.ref o), .val (.ref t1), .val (.ref t2), .val (.ref t3), .val (.ref t4), .val (.ref t5), .unset] [])) rfl (hb hby d16_102) (by decide)
  obtain ⟨T221, L221, d221, X221, N221, B221, st221⟩ := cSBI X220 hx hZ213 hw hown213 (hwi hw 93 rfl) SK N219 hZ213.alike B220 F220 ho220 (g := (mkF m 106 #[.val (.ref o), .val (.ref t1), .val (.ref t2), .val (.ref t3), .val (.ref t4), .val (.ref t5), .unset] [(.ref b220), (.ref b220)])) rfl (by rw [hml]; rfl) rfl (W := 1) (by show 2 * 0 + _ ≤ _; exact Nat.le_of_eq rfl) (hb hby d16_106) (by decide)
  obtain ⟨a222, T222, h222, k222, v222, kk222, X222, e222, E222, hS222, hk222, hZ222, hown222, Ex222, Fc222, Fv222, Av222, -, -, C222, -, -, st222⟩ := ldcCH (s := s) (vm0 := T213.vm) (EL := EL1) X221 hx hZ213 hown213 (hwi hw 232 rfl) hwS rfl hS213 B221.1.2.2.2.2.2 hEL (List.mem_of_getElem? (i := 23) rfl) B221.1.2.2.2.1.1 (vs := Lsc_SqlDialect_47) (z := (40 : Int32)) (by decide +kernel) (by decide) (by decide +kernel) (g := (mkF m 109 #[.val (.ref o), .val (.ref t1), .val (.ref t2), .val (.ref t3), .val (.ref t4), .val (.ref t5), .unset] [(.ref b220)])) rfl (hb hby d16_109) (n := 160) (by decide +kernel) (by decide) (by decide) (by decide)
  have SC222 : StrF Z h222 a222 40 sc_SqlDialect_47 := ⟨⟨Ex222, v222, Fv222, Fc222, afOf Av222 rfl⟩, ft_sc_SqlDialect_47 _⟩
  have B222 := B221.ldc E222 C222 hk222
  obtain ⟨T223, L223, d223, X223, N223, B223, st223⟩ := cAPg X222 hx hZ222 hw hown222 (hwi hw 109 rfl) e222 SK N221 hZ222.alike B222 SC222 (cap' := 40) (cnt' := 40) (by decide) (g := (mkF m 111 #[.val (.ref o), .val (.ref t1), .val (.ref t2), .val (.ref t3), .val (.ref t4), .val (.ref t5), .unset] [(.ref a222), (.ref b220)])) rfl (by rw [hml]; rfl) rfl (W := 0) (by show 2 * 0 + _ ≤ _; exact Nat.le_of_eq rfl) (hb hby d16_111) (by decide)
  obtain ⟨T224, X224, e224, st224⟩ := getF X223 hx hZ222 hown222 (host := "") (Or.inl (hwi hw 217 rfl)) Via.refl rfl (Fw198_x215_e219.keep B223.1.2.2.2.2.1 List.not_mem_nil) (g := (mkF m 115 #[.val (.ref o), .val (.ref t1), .val (.ref t2), .val (.ref t3), .val (.ref t4), .val (.ref t5), .unset] [(.ref o), (.ref b220)])) rfl rfl (hb hby d16_115)
  obtain ⟨T225, L225, d225, X225, N225, B225, st225⟩ := cAPg X224 hx hZ222 hw hown222 (hwi hw 109 rfl) e224 SK N223 hZ222.alike B223 (SG197_x219.keep B223.1.2.2.2.2.1) (cap' := 88) (cnt' := 88) (by decide) (g := (mkF m 118 #[.val (.ref o), .val (.ref t1), .val (.ref t2), .val (.ref t3), .val (.ref t4), .val (.ref t5), .unset] [(.ref o197), (.ref b220)])) rfl (by rw [hml]; rfl) rfl (W := 0) (by show 2 * 0 + _ ≤ _; exact Nat.le_of_eq rfl) (hb hby d16_118) (by decide)
  obtain ⟨T226, L226, o226, X226, N226, B226, S226, st226⟩ := cTS X225 hx hZ222 hw hown222 (hwi hw 178 rfl) rfl SK N225 B225 (by decide) (g := (mkF m 121 #[.val (.ref o), .val (.ref t1), .val (.ref t2), .val (.ref t3), .val (.ref t4), .val (.ref t5), .unset] [(.ref b220)])) rfl (by rw [hml]; rfl) rfl (W := 0) (by show 2 * 0 + _ ≤ _; exact Nat.le_of_eq rfl) (hb hby d16_121) (by decide)
  obtain ⟨K226, Z226, O226, CR226, KB226, hk226⟩ := B226
  have ST1_x226 := ST1_x219.keep KB226
  have ST2_x226 := ST2_x219.keep KB226
  have SG197_x226 := SG197_x219.keep KB226
  have S205_x226 := S205_x219.keep KB226
  have SG215_x226 := SG215_x219.keep KB226
  have EO_x226 := EO_x215_e219.keep KB226
  have Fw198_x226 := Fw198_x215_e219.keep KB226 List.not_mem_nil
  have Fw206_x226 := Fw206_x215_e219.keep KB226 List.not_mem_nil
  have Fw216_x226 := Fw216_e219.keep KB226 List.not_mem_nil
  have Fw217_x226 := Fw217_e219.keep KB226 List.not_mem_nil
  have Fw218_x226 := Fw218_e219.keep KB226 List.not_mem_nil
  have Fw219_x226 := Fw219.keep KB226 List.not_mem_nil
  have F6_x226 := F6_x215_e219.keep KB226 List.not_mem_nil
  have F7_x226 := F7_x215_e219.keep KB226 List.not_mem_nil
  have F8_x226 := F8_x215_e219.keep KB226 List.not_mem_nil
  obtain ⟨wt226, SG226⟩ : ∃ w, StrF Z T226.heap o226 88 w := ⟨_, S226⟩
  obtain ⟨T227, b227, X227, B227, F227, ho227, st227⟩ := cNEW X226 hx hZ222 hw hown222 (hwi hw 90 rfl) rfl K226 Z226 O226 CR226 hk226 (g := (mkF m 127 #[.val (.ref o), .val (.ref t1), .val (.ref t2), .val (.ref t3), .val (.ref t4), .val (.ref t5), .val (.ref o226)] [(.ref o)])) rfl (hb hby d16_127) (by decide)
  obtain ⟨T228, L228, d228, X228, N228, B228, st228⟩ := cSBI X227 hx hZ222 hw hown222 (hwi hw 93 rfl) SK N226 hZ222.alike B227 F227 ho227 (g := (mkF m 131 #[.val (.ref o), .val (.ref t1), .val (.ref t2), .val (.ref t3), .val (.ref t4), .val (.ref t5), .val (.ref o226)] [(.ref b227), (.ref b227), (.ref o)])) rfl (by rw [hml]; rfl) rfl (W := 2) (by show 2 * 0 + _ ≤ _; exact Nat.le_of_eq rfl) (hb hby d16_131) (by decide)
  obtain ⟨a229, T229, h229, k229, v229, kk229, X229, e229, E229, hS229, hk229, hZ229, hown229, Ex229, Fc229, Fv229, Av229, -, -, C229, -, -, st229⟩ := ldcCH (s := s) (vm0 := T222.vm) (EL := EL1) X228 hx hZ222 hown222 (hwi hw 241 rfl) hwS rfl hS222 B228.1.2.2.2.2.2 hEL (List.mem_of_getElem? (i := 24) rfl) B228.1.2.2.2.1.1 (vs := Lsc_SqlDialect_49) (z := (62 : Int32)) (by decide +kernel) (by decide) (by decide +kernel) (g := (mkF m 134 #[.val (.ref o), .val (.ref t1), .val (.ref t2), .val (.ref t3), .val (.ref t4), .val (.ref t5), .val (.ref o226)] [(.ref b227), (.ref o)])) rfl (hb hby d16_134) (n := 248) (by decide +kernel) (by decide) (by decide) (by decide)
  have SC229 : StrF Z h229 a229 62 sc_SqlDialect_49 := ⟨⟨Ex229, v229, Fv229, Fc229, afOf Av229 rfl⟩, ft_sc_SqlDialect_49 _⟩
  have B229 := B228.ldc E229 C229 hk229
  obtain ⟨T230, L230, d230, X230, N230, B230, st230⟩ := cAPg X229 hx hZ229 hw hown229 (hwi hw 109 rfl) e229 SK N228 hZ229.alike B229 SC229 (cap' := 62) (cnt' := 62) (by decide) (g := (mkF m 136 #[.val (.ref o), .val (.ref t1), .val (.ref t2), .val (.ref t3), .val (.ref t4), .val (.ref t5), .val (.ref o226)] [(.ref a229), (.ref b227), (.ref o)])) rfl (by rw [hml]; rfl) rfl (W := 1) (by show 2 * 0 + _ ≤ _; exact Nat.le_of_eq rfl) (hb hby d16_136) (by decide)
  obtain ⟨T231, L231, d231, X231, N231, B231, st231⟩ := cAPg X230 hx hZ229 hw hown229 (hwi hw 109 rfl) rfl SK N230 hZ229.alike B230 (SG226.keep B230.1.2.2.2.2.1) (cap' := 150) (cnt' := 150) (by decide) (g := (mkF m 141 #[.val (.ref o), .val (.ref t1), .val (.ref t2), .val (.ref t3), .val (.ref t4), .val (.ref t5), .val (.ref o226)] [(.ref o226), (.ref b227), (.ref o)])) rfl (by rw [hml]; rfl) rfl (W := 1) (by show 2 * 0 + _ ≤ _; exact Nat.le_of_eq rfl) (hb hby d16_141) (by decide)
  obtain ⟨T232, L232, o232, X232, N232, B232, S232, st232⟩ := cTS X231 hx hZ229 hw hown229 (hwi hw 178 rfl) rfl SK N231 B231 (by decide) (g := (mkF m 144 #[.val (.ref o), .val (.ref t1), .val (.ref t2), .val (.ref t3), .val (.ref t4), .val (.ref t5), .val (.ref o226)] [(.ref b227), (.ref o)])) rfl (by rw [hml]; rfl) rfl (W := 1) (by show 2 * 0 + _ ≤ _; exact Nat.le_of_eq rfl) (hb hby d16_144) (by decide)
  obtain ⟨K232, Z232, O232, CR232, KB232, hk232⟩ := B232
  have ST1_x232 := ST1_x226.keep KB232
  have ST2_x232 := ST2_x226.keep KB232
  have SG197_x232 := SG197_x226.keep KB232
  have S205_x232 := S205_x226.keep KB232
  have SG215_x232 := SG215_x226.keep KB232
  have SG226_x232 := SG226.keep KB232
  have EO_x232 := EO_x226.keep KB232
  have Fw198_x232 := Fw198_x226.keep KB232 List.not_mem_nil
  have Fw206_x232 := Fw206_x226.keep KB232 List.not_mem_nil
  have Fw216_x232 := Fw216_x226.keep KB232 List.not_mem_nil
  have Fw217_x232 := Fw217_x226.keep KB232 List.not_mem_nil
  have Fw218_x232 := Fw218_x226.keep KB232 List.not_mem_nil
  have Fw219_x232 := Fw219_x226.keep KB232 List.not_mem_nil
  have F6_x232 := F6_x226.keep KB232 List.not_mem_nil
  have F7_x232 := F7_x226.keep KB232 List.not_mem_nil
  have F8_x232 := F8_x226.keep KB232 List.not_mem_nil
  obtain ⟨wt232, SG232⟩ : ∃ w, StrF Z T232.heap o232 150 w := ⟨_, S232⟩
  obtain ⟨T233, h233, X233, e233, W233, st233⟩ := putF X232 hx hZ229 hown229 (host := "") (Or.inl (hwi hw 242 rfl)) Via.refl rfl F6_x232 EO_x232 (Or.inr ⟨(hwi hw 288 rfl), rfl, hnm⟩) (hwi hw 271 rfl) (ty := (.object "java/lang/String")) (by decide) rfl rfl (g := (mkF m 147 #[.val (.ref o), .val (.ref t1), .val (.ref t2), .val (.ref t3), .val (.ref t4), .val (.ref t5), .val (.ref o226)] [(.ref o232), (.ref o)])) rfl rfl (hb hby d16_147)
  have Fw233 := F6_x232.same W233
  have EO_x232_e233 := EO_x232.wr W233
  have Fw198_x232_e233 := Fw198_x232.other W233 (Or.inr (slot_ne (Or.inr (hwi hw 282 rfl)) (Or.inr (hwi hw 288 rfl)) (by decide) (t := (.object "java/lang/String")) (t' := (.object "java/lang/String")) (by decide) (by decide)))
  have Fw206_x232_e233 := Fw206_x232.other W233 (Or.inr (slot_ne (Or.inr (hwi hw 283 rfl)) (Or.inr (hwi hw 288 rfl)) (by decide) (t := (.object "java/lang/String")) (t' := (.object "java/lang/String")) (by decide) (by decide)))
  have Fw216_x232_e233 := Fw216_x232.other W233 (Or.inr (slot_ne (Or.inr (hwi hw 284 rfl)) (Or.inr (hwi hw 288 rfl)) (by decide) (t := (.object "java/lang/String")) (t' := (.object "java/lang/String")) (by decide) (by decide)))
  have Fw217_x232_e233 := Fw217_x232.other W233 (Or.inr (slot_ne (Or.inr (hwi hw 285 rfl)) (Or.inr (hwi hw 288 rfl)) (by decide) (t := (.object "java/lang/String")) (t' := (.object "java/lang/String")) (by decide) (by decide)))
  have Fw218_x232_e233 := Fw218_x232.other W233 (Or.inr (slot_ne (Or.inr (hwi hw 286 rfl)) (Or.inr (hwi hw 288 rfl)) (by decide) (t := (.object "java/lang/String")) (t' := (.object "java/lang/String")) (by decide) (by decide)))
  have Fw219_x232_e233 := Fw219_x232.other W233 (Or.inr (slot_ne (Or.inr (hwi hw 287 rfl)) (Or.inr (hwi hw 288 rfl)) (by decide) (t := (.object "java/lang/String")) (t' := (.object "java/lang/String")) (by decide) (by decide)))
  have F7_x232_e233 := F7_x232.other W233 (Or.inr (slot_ne (Or.inr (hwi hw 289 rfl)) (Or.inr (hwi hw 288 rfl)) (by decide) (t := (.object "java/lang/String")) (t' := (.object "java/lang/String")) (by decide) (by decide)))
  have F8_x232_e233 := F8_x232.other W233 (Or.inr (slot_ne (Or.inr (hwi hw 303 rfl)) (Or.inr (hwi hw 288 rfl)) (by decide) (t := (.object "java/lang/String")) (t' := (.object "java/lang/String")) (by decide) (by decide)))
  have N233 := Fr.snoc X233 N232 g_o
  have K233 := K232.wr W233 (Or.inl (List.mem_of_getElem? (i := 0) rfl))
  have Z233 : n0 ≤ h233.size := Nat.le_trans Z232 (Keep.of_wr W233).1
  have hk233 := Nat.le_trans hk232 (Keep.of_wr W233).1
  have O233 := O232.wr W233 g_o
  have CR233 := CR232.trans (CHr.wr W233 (Safe.exa hZ229.alike EO_x232 (by decide) (by decide)) CR232.1)
  have SF233_o := Safe.wr W233 (Safe.exa hZ229.alike EO_x232 (by decide) (by decide)) CR232.1 (Safe.exa hZ229.alike EO_x232 (by decide) (by decide))
  have CH233 := CHv.wr W233 (Safe.exa hZ229.alike EO_x232 (by decide) (by decide)) CR232.1
  have ST1_x233 := ST1_x232.wrO EO_x232 (by decide) (hwi hw 271 rfl) W233
  have ST2_x233 := ST2_x232.wrO EO_x232 (by decide) (hwi hw 271 rfl) W233
  have SG197_x233 := SG197_x232.wrO EO_x232 (by decide) (hwi hw 271 rfl) W233
  have S205_x233 := S205_x232.wrO EO_x232 (by decide) (hwi hw 271 rfl) W233
  have SG215_x233 := SG215_x232.wrO EO_x232 (by decide) (hwi hw 271 rfl) W233
  have SG226_x233 := SG226_x232.wrO EO_x232 (by decide) (hwi hw 271 rfl) W233
  have SG232_x233 := SG232.wrO EO_x232 (by decide) (hwi hw 271 rfl) W233
  obtain ⟨T234, b234, X234, B234, F234, ho234, st234⟩ := cNEW X233 hx hZ229 hw hown229 (hwi hw 90 rfl) e233 K233 Z233 O233 CR233 hk233 (g := (mkF m 151 #[.val (.ref o), .val (.ref t1), .val (.ref t2), .val (.ref t3), .val (.ref t4), .val (.ref t5), .val (.ref o226)] [(.ref o)])) rfl (hb hby d16_151) (by decide)
  obtain ⟨T235, L235, d235, X235, N235, B235, st235⟩ := cSBI X234 hx hZ229 hw hown229 (hwi hw 93 rfl) SK N233 hZ229.alike B234 F234 ho234 (g := (mkF m 155 #[.val (.ref o), .val (.ref t1), .val (.ref t2), .val (.ref t3), .val (.ref t4), .val (.ref t5), .val (.ref o226)] [(.ref b234), (.ref b234), (.ref o)])) rfl (by rw [hml]; rfl) rfl (W := 2) (by show 2 * 0 + _ ≤ _; exact Nat.le_of_eq rfl) (hb hby d16_155) (by decide)
  obtain ⟨a236, T236, h236, k236, v236, kk236, X236, e236, E236, hS236, hk236, hZ236, hown236, Ex236, Fc236, Fv236, Av236, -, -, C236, -, -, st236⟩ := ldcCH (s := s) (vm0 := T229.vm) (EL := EL1) X235 hx hZ229 hown229 (hwi hw 244 rfl) hwS rfl hS229 B235.1.2.2.2.2.2 hEL (List.mem_of_getElem? (i := 25) rfl) B235.1.2.2.2.1.1 (vs := Lsc_SqlDialect_54) (z := (38 : Int32)) (by decide +kernel) (by decide) (by decide +kernel) (g := (mkF m 158 #[.val (.ref o), .val (.ref t1), .val (.ref t2), .val (.ref t3), .val (.ref t4), .val (.ref t5), .val (.ref o226)] [(.ref b234), (.ref o)])) rfl (hb hby d16_158) (n := 152) (by decide +kernel) (by decide) (by decide) (by decide)
  have SC236 : StrF Z h236 a236 38 sc_SqlDialect_54 := ⟨⟨Ex236, v236, Fv236, Fc236, afOf Av236 rfl⟩, ft_sc_SqlDialect_54 _⟩
  have B236 := B235.ldc E236 C236 hk236
  obtain ⟨T237, L237, d237, X237, N237, B237, st237⟩ := cAPg X236 hx hZ236 hw hown236 (hwi hw 109 rfl) e236 SK N235 hZ236.alike B236 SC236 (cap' := 38) (cnt' := 38) (by decide) (g := (mkF m 160 #[.val (.ref o), .val (.ref t1), .val (.ref t2), .val (.ref t3), .val (.ref t4), .val (.ref t5), .val (.ref o226)] [(.ref a236), (.ref b234), (.ref o)])) rfl (by rw [hml]; rfl) rfl (W := 1) (by show 2 * 0 + _ ≤ _; exact Nat.le_of_eq rfl) (hb hby d16_160) (by decide)
  obtain ⟨T238, X238, e238, st238⟩ := getF X237 hx hZ236 hown236 (host := "") (Or.inl (hwi hw 220 rfl)) Via.refl rfl (Fw206_x232_e233.keep B237.1.2.2.2.2.1 List.not_mem_nil) (g := (mkF m 164 #[.val (.ref o), .val (.ref t1), .val (.ref t2), .val (.ref t3), .val (.ref t4), .val (.ref t5), .val (.ref o226)] [(.ref o), (.ref b234), (.ref o)])) rfl rfl (hb hby d16_164)
  obtain ⟨T239, L239, d239, X239, N239, B239, st239⟩ := cAPg X238 hx hZ236 hw hown236 (hwi hw 109 rfl) e238 SK N237 hZ236.alike B237 (S205_x233.keep B237.1.2.2.2.2.1) (cap' := 90) (cnt' := 90) (by decide) (g := (mkF m 167 #[.val (.ref o), .val (.ref t1), .val (.ref t2), .val (.ref t3), .val (.ref t4), .val (.ref t5), .val (.ref o226)] [(.ref o205), (.ref b234), (.ref o)])) rfl (by rw [hml]; rfl) rfl (W := 1) (by show 2 * 0 + _ ≤ _; exact Nat.le_of_eq rfl) (hb hby d16_167) (by decide)
  obtain ⟨T240, L240, d240, X240, N240, B240, st240⟩ := cAPg X239 hx hZ236 hw hown236 (hwi hw 109 rfl) rfl SK N239 hZ236.alike B239 (SG226_x233.keep B239.1.2.2.2.2.1) (cap' := 182) (cnt' := 178) (by decide) (g := (mkF m 172 #[.val (.ref o), .val (.ref t1), .val (.ref t2), .val (.ref t3), .val (.ref t4), .val (.ref t5), .val (.ref o226)] [(.ref o226), (.ref b234), (.ref o)])) rfl (by rw [hml]; rfl) rfl (W := 1) (by show 2 * 0 + _ ≤ _; exact Nat.le_of_eq rfl) (hb hby d16_172) (by decide)
  obtain ⟨T241, L241, o241, X241, N241, B241, S241, st241⟩ := cTS X240 hx hZ236 hw hown236 (hwi hw 178 rfl) rfl SK N240 B240 (by decide) (g := (mkF m 175 #[.val (.ref o), .val (.ref t1), .val (.ref t2), .val (.ref t3), .val (.ref t4), .val (.ref t5), .val (.ref o226)] [(.ref b234), (.ref o)])) rfl (by rw [hml]; rfl) rfl (W := 1) (by show 2 * 0 + _ ≤ _; exact Nat.le_of_eq rfl) (hb hby d16_175) (by decide)
  obtain ⟨K241, Z241, O241, CR241, KB241, hk241⟩ := B241
  have ST1_x241 := ST1_x233.keep KB241
  have ST2_x241 := ST2_x233.keep KB241
  have SG197_x241 := SG197_x233.keep KB241
  have S205_x241 := S205_x233.keep KB241
  have SG215_x241 := SG215_x233.keep KB241
  have SG226_x241 := SG226_x233.keep KB241
  have SG232_x241 := SG232_x233.keep KB241
  have EO_x241 := EO_x232_e233.keep KB241
  have Fw198_x241 := Fw198_x232_e233.keep KB241 List.not_mem_nil
  have Fw206_x241 := Fw206_x232_e233.keep KB241 List.not_mem_nil
  have Fw216_x241 := Fw216_x232_e233.keep KB241 List.not_mem_nil
  have Fw217_x241 := Fw217_x232_e233.keep KB241 List.not_mem_nil
  have Fw218_x241 := Fw218_x232_e233.keep KB241 List.not_mem_nil
  have Fw219_x241 := Fw219_x232_e233.keep KB241 List.not_mem_nil
  have Fw233_x241 := Fw233.keep KB241 List.not_mem_nil
  have F7_x241 := F7_x232_e233.keep KB241 List.not_mem_nil
  have F8_x241 := F8_x232_e233.keep KB241 List.not_mem_nil
  obtain ⟨wt241, SG241⟩ : ∃ w, StrF Z T241.heap o241 178 w := ⟨_, S241⟩
  obtain ⟨T242, h242, X242, e242, W242, st242⟩ := putF X241 hx hZ236 hown236 (host := "") (Or.inl (hwi hw 245 rfl)) Via.refl rfl F7_x241 EO_x241 (Or.inr ⟨(hwi hw 289 rfl), rfl, hnm⟩) (hwi hw 271 rfl) (ty := (.object "java/lang/String")) (by decide) rfl rfl (g := (mkF m 178 #[.val (.ref o), .val (.ref t1), .val (.ref t2), .val (.ref t3), .val (.ref t4), .val (.ref t5), .val (.ref o226)] [(.ref o241), (.ref o)])) rfl rfl (hb hby d16_178)
  have Fw242 := F7_x241.same W242
  have EO_x241_e242 := EO_x241.wr W242
  have Fw198_x241_e242 := Fw198_x241.other W242 (Or.inr (slot_ne (Or.inr (hwi hw 282 rfl)) (Or.inr (hwi hw 289 rfl)) (by decide) (t := (.object "java/lang/String")) (t' := (.object "java/lang/String")) (by decide) (by decide)))
  have Fw206_x241_e242 := Fw206_x241.other W242 (Or.inr (slot_ne (Or.inr (hwi hw 283 rfl)) (Or.inr (hwi hw 289 rfl)) (by decide) (t := (.object "java/lang/String")) (t' := (.object "java/lang/String")) (by decide) (by decide)))
  have Fw216_x241_e242 := Fw216_x241.other W242 (Or.inr (slot_ne (Or.inr (hwi hw 284 rfl)) (Or.inr (hwi hw 289 rfl)) (by decide) (t := (.object "java/lang/String")) (t' := (.object "java/lang/String")) (by decide) (by decide)))
  have Fw217_x241_e242 := Fw217_x241.other W242 (Or.inr (slot_ne (Or.inr (hwi hw 285 rfl)) (Or.inr (hwi hw 289 rfl)) (by decide) (t := (.object "java/lang/String")) (t' := (.object "java/lang/String")) (by decide) (by decide)))
  have Fw218_x241_e242 := Fw218_x241.other W242 (Or.inr (slot_ne (Or.inr (hwi hw 286 rfl)) (Or.inr (hwi hw 289 rfl)) (by decide) (t := (.object "java/lang/String")) (t' := (.object "java/lang/String")) (by decide) (by decide)))
  have Fw219_x241_e242 := Fw219_x241.other W242 (Or.inr (slot_ne (Or.inr (hwi hw 287 rfl)) (Or.inr (hwi hw 289 rfl)) (by decide) (t := (.object "java/lang/String")) (t' := (.object "java/lang/String")) (by decide) (by decide)))
  have Fw233_x241_e242 := Fw233_x241.other W242 (Or.inr (slot_ne (Or.inr (hwi hw 288 rfl)) (Or.inr (hwi hw 289 rfl)) (by decide) (t := (.object "java/lang/String")) (t' := (.object "java/lang/String")) (by decide) (by decide)))
  have F8_x241_e242 := F8_x241.other W242 (Or.inr (slot_ne (Or.inr (hwi hw 303 rfl)) (Or.inr (hwi hw 289 rfl)) (by decide) (t := (.object "java/lang/String")) (t' := (.object "java/lang/String")) (by decide) (by decide)))
  have N242 := Fr.snoc X242 N241 g_o
  have K242 := K241.wr W242 (Or.inl (List.mem_of_getElem? (i := 0) rfl))
  have Z242 : n0 ≤ h242.size := Nat.le_trans Z241 (Keep.of_wr W242).1
  have hk242 := Nat.le_trans hk241 (Keep.of_wr W242).1
  have O242 := O241.wr W242 g_o
  have CR242 := CR241.trans (CHr.wr W242 (Safe.exa hZ236.alike EO_x241 (by decide) (by decide)) CR241.1)
  have SF242_o := Safe.wr W242 (Safe.exa hZ236.alike EO_x241 (by decide) (by decide)) CR241.1 (Safe.exa hZ236.alike EO_x241 (by decide) (by decide))
  have CH242 := CHv.wr W242 (Safe.exa hZ236.alike EO_x241 (by decide) (by decide)) CR241.1
  have ST1_x242 := ST1_x241.wrO EO_x241 (by decide) (hwi hw 271 rfl) W242
  have ST2_x242 := ST2_x241.wrO EO_x241 (by decide) (hwi hw 271 rfl) W242
  have SG197_x242 := SG197_x241.wrO EO_x241 (by decide) (hwi hw 271 rfl) W242
  have S205_x242 := S205_x241.wrO EO_x241 (by decide) (hwi hw 271 rfl) W242
  have SG215_x242 := SG215_x241.wrO EO_x241 (by decide) (hwi hw 271 rfl) W242
  have SG226_x242 := SG226_x241.wrO EO_x241 (by decide) (hwi hw 271 rfl) W242
  have SG232_x242 := SG232_x241.wrO EO_x241 (by decide) (hwi hw 271 rfl) W242
  have SG241_x242 := SG241.wrO EO_x241 (by decide) (hwi hw 271 rfl) W242
  obtain ⟨fs, hr, hrun, hended, -, hWW, hBB, hSS⟩ := Stand.leaveW (s := s) (vm₁ := T236.vm) X242 hS236 (by rw [e242]; exact hk242) (v := none) (fun _ => rfl)
  refine ⟨_, _, pre0 _ ?_, hrun, hended, _, _, rfl, ?_, ?_, ⟨_, rfl⟩, hWW, hBB, hSS.mono (by decide) (by decide)⟩
  · show Steps p.tables e below (s₁.setTop (mkF m 0 #[.val (.ref o), .val (.ref t1), .val (.ref t2), .val (.ref t3), .val (.ref t4), .val (.ref t5), .unset] [])) _
    refine XS.aloadN X0.here hx rfl (hb hby d16_0) rfl rfl ?_
    show Steps p.tables e below (s₁.setTop (mkF m 1 #[.val (.ref o), .val (.ref t1), .val (.ref t2), .val (.ref t3), .val (.ref t4), .val (.ref t5), .unset] [(.ref o)])) _
    refine st191 _ ?_
    refine XS.aloadN X191.here hx rfl (hb hby d16_4) rfl rfl ?_
    show Steps p.tables e below (T191.setTop (mkF m 5 #[.val (.ref o), .val (.ref t1), .val (.ref t2), .val (.ref t3), .val (.ref t4), .val (.ref t5), .unset] [(.ref o)])) _
    refine st192 _ ?_
    refine XS.dup X192.here hx rfl (hb hby d16_8) rfl rfl ?_
    show Steps p.tables e below (T192.setTop (mkF m 9 #[.val (.ref o), .val (.ref t1), .val (.ref t2), .val (.ref t3), .val (.ref t4), .val (.ref t5), .unset] [(.ref b192), (.ref b192), (.ref o)])) _
    refine st193 _ ?_
    show Steps p.tables e below (T193.setTop (mkF m 12 #[.val (.ref o), .val (.ref t1), .val (.ref t2), .val (.ref t3), .val (.ref t4), .val (.ref t5), .unset] [(.ref b192), (.ref o)])) _
    refine st194 _ ?_
    show Steps p.tables e below (T194.setTop (mkF m 14 #[.val (.ref o), .val (.ref t1), .val (.ref t2), .val (.ref t3), .val (.ref t4), .val (.ref t5), .unset] [(.ref a194), (.ref b192), (.ref o)])) _
    refine st195 _ ?_
    refine XS.aloadN X195.here hx rfl (hb hby d16_17) rfl rfl ?_
    show Steps p.tables e below (T195.setTop (mkF m 18 #[.val (.ref o), .val (.ref t1), .val (.ref t2), .val (.ref t3), .val (.ref t4), .val (.ref t5), .unset] [(.ref t1), (.ref b192), (.ref o)])) _
    refine st196 _ ?_
    show Steps p.tables e below (T196.setTop (mkF m 21 #[.val (.ref o), .val (.ref t1), .val (.ref t2), .val (.ref t3), .val (.ref t4), .val (.ref t5), .unset] [(.ref b192), (.ref o)])) _
    refine st197 _ ?_
    show Steps p.tables e below (T197.setTop (mkF m 24 #[.val (.ref o), .val (.ref t1), .val (.ref t2), .val (.ref t3), .val (.ref t4), .val (.ref t5), .unset] [(.ref o197), (.ref o)])) _
    refine st198 _ ?_
    refine XS.aloadN X198.here hx rfl (hb hby d16_27) rfl rfl ?_
    show Steps p.tables e below (T198.setTop (mkF m 28 #[.val (.ref o), .val (.ref t1), .val (.ref t2), .val (.ref t3), .val (.ref t4), .val (.ref t5), .unset] [(.ref o)])) _
    refine st199 _ ?_
    refine XS.dup X199.here hx rfl (hb hby d16_31) rfl rfl ?_
    show Steps p.tables e below (T199.setTop (mkF m 32 #[.val (.ref o), .val (.ref t1), .val (.ref t2), .val (.ref t3), .val (.ref t4), .val (.ref t5), .unset] [(.ref b199), (.ref b199), (.ref o)])) _
    refine st200 _ ?_
    refine XS.aloadN X200.here hx rfl (hb hby d16_35) rfl rfl ?_
    show Steps p.tables e below (T200.setTop (mkF m 36 #[.val (.ref o), .val (.ref t1), .val (.ref t2), .val (.ref t3), .val (.ref t4), .val (.ref t5), .unset] [(.ref t1), (.ref b199), (.ref o)])) _
    refine st201 _ ?_
    show Steps p.tables e below (T201.setTop (mkF m 39 #[.val (.ref o), .val (.ref t1), .val (.ref t2), .val (.ref t3), .val (.ref t4), .val (.ref t5), .unset] [(.ref b199), (.ref o)])) _
    refine st202 _ ?_
    show Steps p.tables e below (T202.setTop (mkF m 41 #[.val (.ref o), .val (.ref t1), .val (.ref t2), .val (.ref t3), .val (.ref t4), .val (.ref t5), .unset] [(.ref a202), (.ref b199), (.ref o)])) _
    refine st203 _ ?_
    refine XS.aloadN X203.here hx rfl (hb hby d16_44) rfl rfl ?_
    show Steps p.tables e below (T203.setTop (mkF m 45 #[.val (.ref o), .val (.ref t1), .val (.ref t2), .val (.ref t3), .val (.ref t4), .val (.ref t5), .unset] [(.ref t2), (.ref b199), (.ref o)])) _
    refine st204 _ ?_
    show Steps p.tables e below (T204.setTop (mkF m 48 #[.val (.ref o), .val (.ref t1), .val (.ref t2), .val (.ref t3), .val (.ref t4), .val (.ref t5), .unset] [(.ref b199), (.ref o)])) _
    refine st205 _ ?_
    show Steps p.tables e below (T205.setTop (mkF m 51 #[.val (.ref o), .val (.ref t1), .val (.ref t2), .val (.ref t3), .val (.ref t4), .val (.ref t5), .unset] [(.ref o205), (.ref o)])) _
    refine st206 _ ?_
    refine XS.aloadN X206.here hx rfl (hb hby d16_54) rfl rfl ?_
    show Steps p.tables e below (T206.setTop (mkF m 55 #[.val (.ref o), .val (.ref t1), .val (.ref t2), .val (.ref t3), .val (.ref t4), .val (.ref t5), .unset] [(.ref o)])) _
    refine st207 _ ?_
    refine XS.dup X207.here hx rfl (hb hby d16_58) rfl rfl ?_
    show Steps p.tables e below (T207.setTop (mkF m 59 #[.val (.ref o), .val (.ref t1), .val (.ref t2), .val (.ref t3), .val (.ref t4), .val (.ref t5), .unset] [(.ref b207), (.ref b207), (.ref o)])) _
    refine st208 _ ?_
    show Steps p.tables e below (T208.setTop (mkF m 62 #[.val (.ref o), .val (.ref t1), .val (.ref t2), .val (.ref t3), .val (.ref t4), .val (.ref t5), .unset] [(.ref b207), (.ref o)])) _
    refine st209 _ ?_
    show Steps p.tables e below (T209.setTop (mkF m 64 #[.val (.ref o), .val (.ref t1), .val (.ref t2), .val (.ref t3), .val (.ref t4), .val (.ref t5), .unset] [(.ref a209), (.ref b207), (.ref o)])) _
    refine st210 _ ?_
    refine XS.aloadN X210.here hx rfl (hb hby d16_67) rfl rfl ?_
    show Steps p.tables e below (T210.setTop (mkF m 68 #[.val (.ref o), .val (.ref t1), .val (.ref t2), .val (.ref t3), .val (.ref t4), .val (.ref t5), .unset] [(.ref o), (.ref b207), (.ref o)])) _
    refine st211 _ ?_
    show Steps p.tables e below (T211.setTop (mkF m 71 #[.val (.ref o), .val (.ref t1), .val (.ref t2), .val (.ref t3), .val (.ref t4), .val (.ref t5), .unset] [(.ref o205), (.ref b207), (.ref o)])) _
    refine st212 _ ?_
    show Steps p.tables e below (T212.setTop (mkF m 74 #[.val (.ref o), .val (.ref t1), .val (.ref t2), .val (.ref t3), .val (.ref t4), .val (.ref t5), .unset] [(.ref b207), (.ref o)])) _
    refine st213 _ ?_
    show Steps p.tables e below (T213.setTop (mkF m 76 #[.val (.ref o), .val (.ref t1), .val (.ref t2), .val (.ref t3), .val (.ref t4), .val (.ref t5), .unset] [(.ref a213), (.ref b207), (.ref o)])) _
    refine st214 _ ?_
    show Steps p.tables e below (T214.setTop (mkF m 79 #[.val (.ref o), .val (.ref t1), .val (.ref t2), .val (.ref t3), .val (.ref t4), .val (.ref t5), .unset] [(.ref b207), (.ref o)])) _
    refine st215 _ ?_
    show Steps p.tables e below (T215.setTop (mkF m 82 #[.val (.ref o), .val (.ref t1), .val (.ref t2), .val (.ref t3), .val (.ref t4), .val (.ref t5), .unset] [(.ref o215), (.ref o)])) _
    refine st216 _ ?_
    refine XS.aloadN X216.here hx rfl (hb hby d16_85) rfl rfl ?_
    refine XS.aloadN X216.here hx rfl (hb hby d16_86) rfl rfl ?_
    show Steps p.tables e below (T216.setTop (mkF m 87 #[.val (.ref o), .val (.ref t1), .val (.ref t2), .val (.ref t3), .val (.ref t4), .val (.ref t5), .unset] [(.ref t3), (.ref o)])) _
    refine st217 _ ?_
    refine XS.aloadN X217.here hx rfl (hb hby d16_90) rfl rfl ?_
    refine XS.aload X217.here hx rfl (hb hby d16_91) rfl rfl ?_
    show Steps p.tables e below (T217.setTop (mkF m 93 #[.val (.ref o), .val (.ref t1), .val (.ref t2), .val (.ref t3), .val (.ref t4), .val (.ref t5), .unset] [(.ref t4), (.ref o)])) _
    refine st218 _ ?_
    refine XS.aloadN X218.here hx rfl (hb hby d16_96) rfl rfl ?_
    refine XS.aload X218.here hx rfl (hb hby d16_97) rfl rfl ?_
    show Steps p.tables e below (T218.setTop (mkF m 99 #[.val (.ref o), .val (.ref t1), .val (.ref t2), .val (.ref t3), .val (.ref t4), .val (.ref t5), .unset] [(.ref t5), (.ref o)])) _
    refine st219 _ ?_
    show Steps p.tables e below (T219.setTop (mkF m 102 #[.val (.ref o), .val (.ref t1), .val (.ref t2), .val (.ref t3), .val (.ref t4), .val (.ref t5), .unset] [])) _
    refine st220 _ ?_
    refine XS.dup X220.here hx rfl (hb hby d16_105) rfl rfl ?_
    show Steps p.tables e below (T220.setTop (mkF m 106 #[.val (.ref o), .val (.ref t1), .val (.ref t2), .val (.ref t3), .val (.ref t4), .val (.ref t5), .unset] [(.ref b220), (.ref b220)])) _
    refine st221 _ ?_
    show Steps p.tables e below (T221.setTop (mkF m 109 #[.val (.ref o), .val (.ref t1), .val (.ref t2), .val (.ref t3), .val (.ref t4), .val (.ref t5), .unset] [(.ref b220)])) _
    refine st222 _ ?_
    show Steps p.tables e below (T222.setTop (mkF m 111 #[.val (.ref o), .val (.ref t1), .val (.ref t2), .val (.ref t3), .val (.ref t4), .val (.ref t5), .unset] [(.ref a222), (.ref b220)])) _
    refine st223 _ ?_
    refine XS.aloadN X223.here hx rfl (hb hby d16_114) rfl rfl ?_
    show Steps p.tables e below (T223.setTop (mkF m 115 #[.val (.ref o), .val (.ref t1), .val (.ref t2), .val (.ref t3), .val (.ref t4), .val (.ref t5), .unset] [(.ref o), (.ref b220)])) _
    refine st224 _ ?_
    show Steps p.tables e below (T224.setTop (mkF m 118 #[.val (.ref o), .val (.ref t1), .val (.ref t2), .val (.ref t3), .val (.ref t4), .val (.ref t5), .unset] [(.ref o197), (.ref b220)])) _
    refine st225 _ ?_
    show Steps p.tables e below (T225.setTop (mkF m 121 #[.val (.ref o), .val (.ref t1), .val (.ref t2), .val (.ref t3), .val (.ref t4), .val (.ref t5), .unset] [(.ref b220)])) _
    refine st226 _ ?_
    refine XS.astore X226.here hx rfl (hb hby d16_124) rfl rfl (l' := #[.val (.ref o), .val (.ref t1), .val (.ref t2), .val (.ref t3), .val (.ref t4), .val (.ref t5), .val (.ref o226)]) rfl ?_
    refine XS.aloadN X226.here hx rfl (hb hby d16_126) rfl rfl ?_
    show Steps p.tables e below (T226.setTop (mkF m 127 #[.val (.ref o), .val (.ref t1), .val (.ref t2), .val (.ref t3), .val (.ref t4), .val (.ref t5), .val (.ref o226)] [(.ref o)])) _
    refine st227 _ ?_
    refine XS.dup X227.here hx rfl (hb hby d16_130) rfl rfl ?_
    show Steps p.tables e below (T227.setTop (mkF m 131 #[.val (.ref o), .val (.ref t1), .val (.ref t2), .val (.ref t3), .val (.ref t4), .val (.ref t5), .val (.ref o226)] [(.ref b227), (.ref b227), (.ref o)])) _
    refine st228 _ ?_
    show Steps p.tables e below (T228.setTop (mkF m 134 #[.val (.ref o), .val (.ref t1), .val (.ref t2), .val (.ref t3), .val (.ref t4), .val (.ref t5), .val (.ref o226)] [(.ref b227), (.ref o)])) _
    refine st229 _ ?_
    show Steps p.tables e below (T229.setTop (mkF m 136 #[.val (.ref o), .val (.ref t1), .val (.ref t2), .val (.ref t3), .val (.ref t4), .val (.ref t5), .val (.ref o226)] [(.ref a229), (.ref b227), (.ref o)])) _
    refine st230 _ ?_
    refine XS.aload X230.here hx rfl (hb hby d16_139) rfl rfl ?_
    show Steps p.tables e below (T230.setTop (mkF m 141 #[.val (.ref o), .val (.ref t1), .val (.ref t2), .val (.ref t3), .val (.ref t4), .val (.ref t5), .val (.ref o226)] [(.ref o226), (.ref b227), (.ref o)])) _
    refine st231 _ ?_
    show Steps p.tables e below (T231.setTop (mkF m 144 #[.val (.ref o), .val (.ref t1), .val (.ref t2), .val (.ref t3), .val (.ref t4), .val (.ref t5), .val (.ref o226)] [(.ref b227), (.ref o)])) _
    refine st232 _ ?_
    show Steps p.tables e below (T232.setTop (mkF m 147 #[.val (.ref o), .val (.ref t1), .val (.ref t2), .val (.ref t3), .val (.ref t4), .val (.ref t5), .val (.ref o226)] [(.ref o232), (.ref o)])) _
    refine st233 _ ?_
    refine XS.aloadN X233.here hx rfl (hb hby d16_150) rfl rfl ?_
    show Steps p.tables e below (T233.setTop (mkF m 151 #[.val (.ref o), .val (.ref t1), .val (.ref t2), .val (.ref t3), .val (.ref t4), .val (.ref t5), .val (.ref o226)] [(.ref o)])) _
    refine st234 _ ?_
    refine XS.dup X234.here hx rfl (hb hby d16_154) rfl rfl ?_
    show Steps p.tables e below (T234.setTop (mkF m 155 #[.val (.ref o), .val (.ref t1), .val (.ref t2), .val (.ref t3), .val (.ref t4), .val (.ref t5), .val (.ref o226)] [(.ref b234), (.ref b234), (.ref o)])) _
    refine st235 _ ?_
    show Steps p.tables e below (T235.setTop (mkF m 158 #[.val (.ref o), .val (.ref t1), .val (.ref t2), .val (.ref t3), .val (.ref t4), .val (.ref t5), .val (.ref o226)] [(.ref b234), (.ref o)])) _
    refine st236 _ ?_
    show Steps p.tables e below (T236.setTop (mkF m 160 #[.val (.ref o), .val (.ref t1), .val (.ref t2), .val (.ref t3), .val (.ref t4), .val (.ref t5), .val (.ref o226)] [(.ref a236), (.ref b234), (.ref o)])) _
    refine st237 _ ?_
    refine XS.aloadN X237.here hx rfl (hb hby d16_163) rfl rfl ?_
    show Steps p.tables e below (T237.setTop (mkF m 164 #[.val (.ref o), .val (.ref t1), .val (.ref t2), .val (.ref t3), .val (.ref t4), .val (.ref t5), .val (.ref o226)] [(.ref o), (.ref b234), (.ref o)])) _
    refine st238 _ ?_
    show Steps p.tables e below (T238.setTop (mkF m 167 #[.val (.ref o), .val (.ref t1), .val (.ref t2), .val (.ref t3), .val (.ref t4), .val (.ref t5), .val (.ref o226)] [(.ref o205), (.ref b234), (.ref o)])) _
    refine st239 _ ?_
    refine XS.aload X239.here hx rfl (hb hby d16_170) rfl rfl ?_
    show Steps p.tables e below (T239.setTop (mkF m 172 #[.val (.ref o), .val (.ref t1), .val (.ref t2), .val (.ref t3), .val (.ref t4), .val (.ref t5), .val (.ref o226)] [(.ref o226), (.ref b234), (.ref o)])) _
    refine st240 _ ?_
    show Steps p.tables e below (T240.setTop (mkF m 175 #[.val (.ref o), .val (.ref t1), .val (.ref t2), .val (.ref t3), .val (.ref t4), .val (.ref t5), .val (.ref o226)] [(.ref b234), (.ref o)])) _
    refine st241 _ ?_
    show Steps p.tables e below (T241.setTop (mkF m 178 #[.val (.ref o), .val (.ref t1), .val (.ref t2), .val (.ref t3), .val (.ref t4), .val (.ref t5), .val (.ref o226)] [(.ref o241), (.ref o)])) _
    refine st242 _ ?_
    show Steps p.tables e below (T242.setTop (mkF m 181 #[.val (.ref o), .val (.ref t1), .val (.ref t2), .val (.ref t3), .val (.ref t4), .val (.ref t5), .val (.ref o226)] [])) _
    exact X242.returnOut hx Bd.returns (hb hby d16_181) hr
  · show QSD Z "com/example/rigorous_lock/rigorouslock/io/PostgresDialect" o 48 52 141 (fC 24 (fC 21 (fC 0 z0 wn) sc_SqlDialect_26) wi) h0 n0 _ T242.heap _
    exact ⟨rfl, N242, by rw [e242]; exact K242, by rw [e242]; exact EO_x241_e242, by rw [e242]; exact F8_x241_e242, o197, o205, o215, wt197, wt215, by rw [e242]; exact Fw198_x241_e242, by rw [e242]; exact SG197_x242, by rw [e242]; exact Fw206_x241_e242, by rw [e242]; exact S205_x242, by rw [e242]; exact Fw216_x241_e242, by rw [e242]; exact SG215_x242⟩
  · show CHr Z EL1 s.vm s.heap T242.vm T242.heap
    have q := CR242.trans (CHv.at (s := s) (vm0 := T236.vm) X242 hZ236 hEL CH242)
    rw [hh, e242]
    exact q
theorem d15_0 : decode prog_2_method_1_code 0 = .ok (.aload_n 0, 1) := by decide +kernel
theorem d15_1 : decode prog_2_method_1_code 1 = .ok (.ldc 5, 2) := by decide +kernel
theorem d15_3 : decode prog_2_method_1_code 3 = .ok (.ldc 7, 2) := by decide +kernel
theorem d15_5 : decode prog_2_method_1_code 5 = .ok (.ldc 11, 2) := by decide +kernel
theorem d15_7 : decode prog_2_method_1_code 7 = .ok (.ldc 13, 2) := by decide +kernel
theorem d15_9 : decode prog_2_method_1_code 9 = .ok (.ldc 15, 2) := by decide +kernel
theorem d15_11 : decode prog_2_method_1_code 11 = .ok (.invokespecial 17, 3) := by decide +kernel
theorem d15_14 : decode prog_2_method_1_code 14 = .ok (.aload_n 0, 1) := by decide +kernel
theorem d15_15 : decode prog_2_method_1_code 15 = .ok (.new 21, 3) := by decide +kernel
theorem d15_18 : decode prog_2_method_1_code 18 = .ok (.dup, 1) := by decide +kernel
theorem d15_19 : decode prog_2_method_1_code 19 = .ok (.invokespecial 23, 3) := by decide +kernel
theorem d15_22 : decode prog_2_method_1_code 22 = .ok (.aload_n 0, 1) := by decide +kernel
theorem d15_23 : decode prog_2_method_1_code 23 = .ok (.getfield 26, 3) := by decide +kernel
theorem d15_26 : decode prog_2_method_1_code 26 = .ok (.invokevirtual 30, 3) := by decide +kernel
theorem d15_29 : decode prog_2_method_1_code 29 = .ok (.ldc 34, 2) := by decide +kernel
theorem d15_31 : decode prog_2_method_1_code 31 = .ok (.invokevirtual 30, 3) := by decide +kernel
theorem d15_34 : decode prog_2_method_1_code 34 = .ok (.aload_n 0, 1) := by decide +kernel
theorem d15_35 : decode prog_2_method_1_code 35 = .ok (.getfield 36, 3) := by decide +kernel
theorem d15_38 : decode prog_2_method_1_code 38 = .ok (.invokevirtual 30, 3) := by decide +kernel
theorem d15_41 : decode prog_2_method_1_code 41 = .ok (.ldc 39, 2) := by decide +kernel
theorem d15_43 : decode prog_2_method_1_code 43 = .ok (.invokevirtual 30, 3) := by decide +kernel
theorem d15_46 : decode prog_2_method_1_code 46 = .ok (.aload_n 0, 1) := by decide +kernel
theorem d15_47 : decode prog_2_method_1_code 47 = .ok (.getfield 36, 3) := by decide +kernel
theorem d15_50 : decode prog_2_method_1_code 50 = .ok (.invokevirtual 30, 3) := by decide +kernel
theorem d15_53 : decode prog_2_method_1_code 53 = .ok (.ldc 41, 2) := by decide +kernel
theorem d15_55 : decode prog_2_method_1_code 55 = .ok (.invokevirtual 30, 3) := by decide +kernel
theorem d15_58 : decode prog_2_method_1_code 58 = .ok (.aload_n 0, 1) := by decide +kernel
theorem d15_59 : decode prog_2_method_1_code 59 = .ok (.getfield 36, 3) := by decide +kernel
theorem d15_62 : decode prog_2_method_1_code 62 = .ok (.invokevirtual 30, 3) := by decide +kernel
theorem d15_65 : decode prog_2_method_1_code 65 = .ok (.ldc 43, 2) := by decide +kernel
theorem d15_67 : decode prog_2_method_1_code 67 = .ok (.invokevirtual 30, 3) := by decide +kernel
theorem d15_70 : decode prog_2_method_1_code 70 = .ok (.aload_n 0, 1) := by decide +kernel
theorem d15_71 : decode prog_2_method_1_code 71 = .ok (.getfield 45, 3) := by decide +kernel
theorem d15_74 : decode prog_2_method_1_code 74 = .ok (.invokevirtual 30, 3) := by decide +kernel
theorem d15_77 : decode prog_2_method_1_code 77 = .ok (.ldc 48, 2) := by decide +kernel
theorem d15_79 : decode prog_2_method_1_code 79 = .ok (.invokevirtual 30, 3) := by decide +kernel
theorem d15_82 : decode prog_2_method_1_code 82 = .ok (.invokevirtual 50, 3) := by decide +kernel
theorem d15_85 : decode prog_2_method_1_code 85 = .ok (.putfield 54, 3) := by decide +kernel
theorem d15_88 : decode prog_2_method_1_code 88 = .ok (.return_, 1) := by decide +kernel
theorem pn_15 : plainName "com/example/rigorous_lock/rigorouslock/io/MariaDbDialect" = true := by first | (simp [plainName, overriddenIn]; done) | decide +kernel
theorem ef_15 (m : MethodId) (x0 : Addr) : entryFrame m #[(.ref x0)] 1 = mkF m 0 #[.val (.ref x0)] [] := by first | (simp [entryFrame, mkF, argsToLocals, Value.category]; done) | rfl
def Lsc_MariaDbDialect_5 : List Value := [(.int (85 : Int32)), (.int (84 : Int32)), (.int (67 : Int32)), (.int (95 : Int32)), (.int (84 : Int32)), (.int (73 : Int32)), (.int (77 : Int32)), (.int (69 : Int32)), (.int (83 : Int32)), (.int (84 : Int32)), (.int (65 : Int32)), (.int (77 : Int32)), (.int (80 : Int32)), (.int (40 : Int32)), (.int (54 : Int32)), (.int (41 : Int32))]
def sc_MariaDbDialect_5 : Nat → Value := fun j => Lsc_MariaDbDialect_5.getD j (.int (0 : Int32))
theorem ft_sc_MariaDbDialect_5 (n : Nat) : ∀ j, j < n → fits .byte (sc_MariaDbDialect_5 j) = true := fitsL (by decide +kernel) n
def Lsc_MariaDbDialect_7 : List Value := [(.int (73 : Int32)), (.int (78 : Int32)), (.int (84 : Int32)), (.int (69 : Int32)), (.int (82 : Int32)), (.int (86 : Int32)), (.int (65 : Int32)), (.int (76 : Int32)), (.int (32 : Int32)), (.int (63 : Int32)), (.int (32 : Int32)), (.int (77 : Int32)), (.int (73 : Int32)), (.int (67 : Int32)), (.int (82 : Int32)), (.int (79 : Int32)), (.int (83 : Int32)), (.int (69 : Int32)), (.int (67 : Int32)), (.int (79 : Int32)), (.int (78 : Int32)), (.int (68 : Int32))]
def sc_MariaDbDialect_7 : Nat → Value := fun j => Lsc_MariaDbDialect_7.getD j (.int (0 : Int32))
theorem ft_sc_MariaDbDialect_7 (n : Nat) : ∀ j, j < n → fits .byte (sc_MariaDbDialect_7 j) = true := fitsL (by decide +kernel) n
def Lsc_MariaDbDialect_34 : List Value := [(.int (76 : Int32)), (.int (65 : Int32)), (.int (83 : Int32)), (.int (84 : Int32)), (.int (95 : Int32)), (.int (73 : Int32)), (.int (78 : Int32)), (.int (83 : Int32)), (.int (69 : Int32)), (.int (82 : Int32)), (.int (84 : Int32)), (.int (95 : Int32)), (.int (73 : Int32)), (.int (68 : Int32)), (.int (40 : Int32)), (.int (49 : Int32)), (.int (41 : Int32)), (.int (41 : Int32)), (.int (32 : Int32)), (.int (79 : Int32)), (.int (78 : Int32)), (.int (32 : Int32)), (.int (68 : Int32)), (.int (85 : Int32)), (.int (80 : Int32)), (.int (76 : Int32)), (.int (73 : Int32)), (.int (67 : Int32)), (.int (65 : Int32)), (.int (84 : Int32)), (.int (69 : Int32)), (.int (32 : Int32)), (.int (75 : Int32)), (.int (69 : Int32)), (.int (89 : Int32)), (.int (32 : Int32)), (.int (85 : Int32)), (.int (80 : Int32)), (.int (68 : Int32)), (.int (65 : Int32)), (.int (84 : Int32)), (.int (69 : Int32)), (.int (32 : Int32)), (.int (102 : Int32)), (.int (101 : Int32)), (.int (110 : Int32)), (.int (99 : Int32)), (.int (105 : Int32)), (.int (110 : Int32)), (.int (103 : Int32)), (.int (95 : Int32)), (.int (116 : Int32)), (.int (111 : Int32)), (.int (107 : Int32)), (.int (101 : Int32)), (.int (110 : Int32)), (.int (32 : Int32)), (.int (61 : Int32)), (.int (32 : Int32)), (.int (73 : Int32)), (.int (70 : Int32)), (.int (40 : Int32))]
def sc_MariaDbDialect_34 : Nat → Value := fun j => Lsc_MariaDbDialect_34.getD j (.int (0 : Int32))
theorem ft_sc_MariaDbDialect_34 (n : Nat) : ∀ j, j < n → fits .byte (sc_MariaDbDialect_34 j) = true := fitsL (by decide +kernel) n
def Lsc_MariaDbDialect_39 : List Value := [(.int (44 : Int32)), (.int (32 : Int32)), (.int (102 : Int32)), (.int (101 : Int32)), (.int (110 : Int32)), (.int (99 : Int32)), (.int (105 : Int32)), (.int (110 : Int32)), (.int (103 : Int32)), (.int (95 : Int32)), (.int (116 : Int32)), (.int (111 : Int32)), (.int (107 : Int32)), (.int (101 : Int32)), (.int (110 : Int32)), (.int (32 : Int32)), (.int (43 : Int32)), (.int (32 : Int32)), (.int (76 : Int32)), (.int (65 : Int32)), (.int (83 : Int32)), (.int (84 : Int32)), (.int (95 : Int32)), (.int (73 : Int32)), (.int (78 : Int32)), (.int (83 : Int32)), (.int (69 : Int32)), (.int (82 : Int32)), (.int (84 : Int32)), (.int (95 : Int32)), (.int (73 : Int32)), (.int (68 : Int32)), (.int (40 : Int32)), (.int (48 : Int32)), (.int (41 : Int32)), (.int (44 : Int32)), (.int (32 : Int32)), (.int (76 : Int32)), (.int (65 : Int32)), (.int (83 : Int32)), (.int (84 : Int32)), (.int (95 : Int32)), (.int (73 : Int32)), (.int (78 : Int32)), (.int (83 : Int32)), (.int (69 : Int32)), (.int (82 : Int32)), (.int (84 : Int32)), (.int (95 : Int32)), (.int (73 : Int32)), (.int (68 : Int32)), (.int (40 : Int32)), (.int (102 : Int32)), (.int (101 : Int32)), (.int (110 : Int32)), (.int (99 : Int32)), (.int (105 : Int32)), (.int (110 : Int32)), (.int (103 : Int32)), (.int (95 : Int32)), (.int (116 : Int32)), (.int (111 : Int32)), (.int (107 : Int32)), (.int (101 : Int32)), (.int (110 : Int32)), (.int (32 : Int32)), (.int (43 : Int32)), (.int (32 : Int32)), (.int (49 : Int32)), (.int (41 : Int32)), (.int (41 : Int32)), (.int (44 : Int32)), (.int (32 : Int32)), (.int (111 : Int32)), (.int (119 : Int32)), (.int (110 : Int32)), (.int (101 : Int32)), (.int (114 : Int32)), (.int (95 : Int32)), (.int (116 : Int32)), (.int (111 : Int32)), (.int (107 : Int32)), (.int (101 : Int32)), (.int (110 : Int32)), (.int (32 : Int32)), (.int (61 : Int32)), (.int (32 : Int32)), (.int (73 : Int32)), (.int (70 : Int32)), (.int (40 : Int32))]
def sc_MariaDbDialect_39 : Nat → Value := fun j => Lsc_MariaDbDialect_39.getD j (.int (0 : Int32))
theorem ft_sc_MariaDbDialect_39 (n : Nat) : ∀ j, j < n → fits .byte (sc_MariaDbDialect_39 j) = true := fitsL (by decide +kernel) n
def Lsc_MariaDbDialect_41 : List Value := [(.int (44 : Int32)), (.int (32 : Int32)), (.int (111 : Int32)), (.int (119 : Int32)), (.int (110 : Int32)), (.int (101 : Int32)), (.int (114 : Int32)), (.int (95 : Int32)), (.int (116 : Int32)), (.int (111 : Int32)), (.int (107 : Int32)), (.int (101 : Int32)), (.int (110 : Int32)), (.int (44 : Int32)), (.int (32 : Int32)), (.int (63 : Int32)), (.int (41 : Int32)), (.int (44 : Int32)), (.int (32 : Int32)), (.int (101 : Int32)), (.int (120 : Int32)), (.int (112 : Int32)), (.int (105 : Int32)), (.int (114 : Int32)), (.int (101 : Int32)), (.int (115 : Int32)), (.int (95 : Int32)), (.int (97 : Int32)), (.int (116 : Int32)), (.int (32 : Int32)), (.int (61 : Int32)), (.int (32 : Int32)), (.int (73 : Int32)), (.int (70 : Int32)), (.int (40 : Int32))]
def sc_MariaDbDialect_41 : Nat → Value := fun j => Lsc_MariaDbDialect_41.getD j (.int (0 : Int32))
theorem ft_sc_MariaDbDialect_41 (n : Nat) : ∀ j, j < n → fits .byte (sc_MariaDbDialect_41 j) = true := fitsL (by decide +kernel) n
def Lsc_MariaDbDialect_43 : List Value := [(.int (44 : Int32)), (.int (32 : Int32)), (.int (101 : Int32)), (.int (120 : Int32)), (.int (112 : Int32)), (.int (105 : Int32)), (.int (114 : Int32)), (.int (101 : Int32)), (.int (115 : Int32)), (.int (95 : Int32)), (.int (97 : Int32)), (.int (116 : Int32)), (.int (44 : Int32)), (.int (32 : Int32))]
def sc_MariaDbDialect_43 : Nat → Value := fun j => Lsc_MariaDbDialect_43.getD j (.int (0 : Int32))
theorem ft_sc_MariaDbDialect_43 (n : Nat) : ∀ j, j < n → fits .byte (sc_MariaDbDialect_43 j) = true := fitsL (by decide +kernel) n
def Lsc_MariaDbDialect_48 : List Value := [(.int (41 : Int32))]
def sc_MariaDbDialect_48 : Nat → Value := fun j => Lsc_MariaDbDialect_48.getD j (.int (0 : Int32))
theorem ft_sc_MariaDbDialect_48 (n : Nat) : ∀ j, j < n → fits .byte (sc_MariaDbDialect_48 j) = true := fitsL (by decide +kernel) n
set_option maxRecDepth 65536 in
set_option maxHeartbeats 40000000 in
theorem rmMD0 (l : Launch) (Z : State) (a0 : Array Value) (hw : ∀ d ∈ tables_1, d.before a0 Z = true) (ws : List Jvm.Cond) (o : Addr)  (h0 : Heap) (n0 : Nat) (Z0 : n0 ≤ h0.size) (O : Old Z n0 h0) (SK : StrSta Z) (hEL : EW Z a0 EL1) (EO : Exa Z h0 o "com/example/rigorous_lock/rigorouslock/io/MariaDbDialect") (F0 : Fld Z h0 o "com/example/rigorous_lock/rigorouslock/io/SqlDialect" "held" "Ljava/lang/String;" .null) (F1 : Fld Z h0 o "com/example/rigorous_lock/rigorouslock/io/SqlDialect" "leaseEnd" "Ljava/lang/String;" .null) (F2 : Fld Z h0 o "com/example/rigorous_lock/rigorouslock/io/SqlDialect" "insertNewRow" "Ljava/lang/String;" .null) (F3 : Fld Z h0 o "com/example/rigorous_lock/rigorouslock/io/SqlDialect" "createTable" "Ljava/lang/String;" .null) (F4 : Fld Z h0 o "com/example/rigorous_lock/rigorouslock/io/SqlDialect" "timeLeftQuery" "Ljava/lang/String;" .null) (F5 : Fld Z h0 o "com/example/rigorous_lock/rigorouslock/io/SqlDialect" "missingTableState" "Ljava/lang/String;" .null) (F6 : Fld Z h0 o "com/example/rigorous_lock/rigorouslock/io/SqlDialect" "releaseStatement" "Ljava/lang/String;" .null) (F7 : Fld Z h0 o "com/example/rigorous_lock/rigorouslock/io/SqlDialect" "renewStatement" "Ljava/lang/String;" .null) (F8 : Fld Z h0 o "com/example/rigorous_lock/rigorouslock/io/MariaDbDialect" "takeStatement" "Ljava/lang/String;" .null) (g_o : n0 ≤ o)  :
    MetFree l (⟨"com/example/rigorous_lock/rigorouslock/io/MariaDbDialect", "<init>", "()V"⟩ : MethodName) (head1 (Jvm.Cond.code (⟨"com/example/rigorous_lock/rigorouslock/io/MariaDbDialect", "<init>", "()V"⟩ : MethodName) prog_2_method_1_code 1 none :: ws) ({ frames := 7, cells := 78, slots := 17232, locals := 190 } : Room)) (fun aa_ U_ => aa_ = #[(.ref o)] ∧ Z.Warmed39 U_.vm ∧ U_.heap = h0 ∧ CHv Z EL1 U_.vm h0) (fun _ _ _ _ _ => True) (fun _ U_ o_ V_ => ∃ v_ L_, o_ = .returned v_ ∧ QMD Z "com/example/rigorous_lock/rigorouslock/io/MariaDbDialect" o 41 (fC 19 (fC 16 (fC 0 z0 sc_MariaDbDialect_5) sc_SqlDialect_26) sc_MariaDbDialect_7) h0 n0 v_ V_.heap L_ ∧ CHr Z EL1 U_.vm U_.heap V_.vm V_.heap ∧ ReturnedEndW U_ o_ V_ L_ ({ frames := 7, cells := 78, slots := 17232, locals := 190 } : Room).cells ({ frames := 7, cells := 78, slots := 17232, locals := 190 } : Room).slots) := by
  refine MetFree.of_bodySF (plainFor_of_name pn_15) hisR ?_
  intro p e s m args below meth c s₁ Bd hml0 hP hK
  obtain ⟨rfl, hZ, hh, CH0⟩ := hP
  have hx := Bd.exec
  have hby := Bd.bytes
  have hml : c.maxLocals = 1 := hml0
  have hown : s.vm.findClass "com/example/rigorous_lock/rigorouslock/io/MariaDbDialect" = some m.cls := findClass_of_methodNamed Bd.named
  have hnm := (name_of_methodNamed Bd.named Bd.method).1
  have X0 : Stand p l e ({ frames := 7, cells := 78, slots := 17232, locals := 190 } : Room) s m #[(.ref o)] below meth c s₁ [] 0 0 := Stand.of_body Bd
  have e0 : s₁.heap = h0 := by rw [← hh, Bd.state]; rfl
  have N0 := Fr.nil n0
  have pre0 : ∀ zz, Steps p.tables e below (s₁.setTop (mkF m 0 #[.val (.ref o)] [])) zz → Steps p.tables e below (s₁.setTop (entryFrame m #[(.ref o)] 1)) zz := fun zz kz_ => castTop (ef_15 m o) kz_
  have hwS : ∀ a ∈ Bundle.stringAtoms, a.before a0 Z = true := fun d hd => hw d (by simpa using (List.all_eq_true.mp (by decide +kernel : (Bundle.stringAtoms.all fun c => tables_1.contains c) = true)) d hd)
  obtain ⟨a243, T243, h243, k243, v243, kk243, X243, e243, E243, hS243, hk243, hZ243, hown243, Ex243, Fc243, Fv243, Av243, -, -, C243, -, -, st243⟩ := ldcCH (s := s) (vm0 := s.vm) (EL := EL1) X0 hx hZ hown (hwi hw 80 rfl) hwS e0 ((State.WarmedH.refl s).since 0) (Nat.zero_le _) hEL (List.mem_of_getElem? (i := 0) rfl) CH0 (vs := Lsc_MariaDbDialect_5) (z := (16 : Int32)) (by decide +kernel) (by decide) (by decide +kernel) (g := (mkF m 1 #[.val (.ref o)] [(.ref o)])) rfl (hb hby d15_1) (n := 64) (by decide +kernel) (by decide) (by decide) (by decide)
  have SC243 : StrF Z h243 a243 16 sc_MariaDbDialect_5 := ⟨⟨Ex243, v243, Fv243, Fc243, afOf Av243 rfl⟩, ft_sc_MariaDbDialect_5 _⟩
  have EO_e243 := EO.ext E243
  have F0_e243 := F0.ext E243
  have F1_e243 := F1.ext E243
  have F2_e243 := F2.ext E243
  have F3_e243 := F3.ext E243
  have F4_e243 := F4.ext E243
  have F5_e243 := F5.ext E243
  have F6_e243 := F6.ext E243
  have F7_e243 := F7.ext E243
  have F8_e243 := F8.ext E243
  have O243 := O.ext E243
  have K243 := (Keep.refl h0 [o]).ext E243
  have Z243 : n0 ≤ h243.size := Nat.le_trans Z0 E243.1
  have CR243 := (CHr.refl CH0).trans C243
  obtain ⟨a244, T244, h244, k244, v244, kk244, X244, e244, E244, hS244, hk244, hZ244, hown244, Ex244, Fc244, Fv244, Av244, -, -, C244, -, -, st244⟩ := ldcCH (s := s) (vm0 := T243.vm) (EL := EL1) X243 hx hZ243 hown243 (hwi hw 81 rfl) hwS e243 hS243 hk243 hEL (List.mem_of_getElem? (i := 1) rfl) C243.1 (vs := Lsc_MariaDbDialect_7) (z := (22 : Int32)) (by decide +kernel) (by decide) (by decide +kernel) (g := (mkF m 3 #[.val (.ref o)] [(.ref a243), (.ref o)])) rfl (hb hby d15_3) (n := 88) (by decide +kernel) (by decide) (by decide) (by decide)
  have SC244 : StrF Z h244 a244 22 sc_MariaDbDialect_7 := ⟨⟨Ex244, v244, Fv244, Fc244, afOf Av244 rfl⟩, ft_sc_MariaDbDialect_7 _⟩
  have EO_e244 := EO_e243.ext E244
  have F0_e244 := F0_e243.ext E244
  have F1_e244 := F1_e243.ext E244
  have F2_e244 := F2_e243.ext E244
  have F3_e244 := F3_e243.ext E244
  have F4_e244 := F4_e243.ext E244
  have F5_e244 := F5_e243.ext E244
  have F6_e244 := F6_e243.ext E244
  have F7_e244 := F7_e243.ext E244
  have F8_e244 := F8_e243.ext E244
  have O244 := O243.ext E244
  have K244 := K243.ext E244
  have Z244 : n0 ≤ h244.size := Nat.le_trans Z243 E244.1
  have CR244 := CR243.trans C244
  have SC243_x244 := SC243.ext E244
  obtain ⟨a245, T245, h245, k245, X245, e245, E245, hS245, hk245, hZ245, hown245, C245, -, st245⟩ := ldcOH (s := s) (vm0 := T244.vm) (EL := EL1) X244 hx hZ244 hown244 (hwi hw 82 rfl) hwS e244 hS244 hk244 hEL C244.1 (g := (mkF m 5 #[.val (.ref o)] [(.ref a244), (.ref a243), (.ref o)])) rfl (hb hby d15_5) (n := 792) (by decide +kernel) (by decide) (by decide) (by decide)
  have EO_e245 := EO_e244.ext E245
  have F0_e245 := F0_e244.ext E245
  have F1_e245 := F1_e244.ext E245
  have F2_e245 := F2_e244.ext E245
  have F3_e245 := F3_e244.ext E245
  have F4_e245 := F4_e244.ext E245
  have F5_e245 := F5_e244.ext E245
  have F6_e245 := F6_e244.ext E245
  have F7_e245 := F7_e244.ext E245
  have F8_e245 := F8_e244.ext E245
  have O245 := O244.ext E245
  have K245 := K244.ext E245
  have Z245 : n0 ≤ h245.size := Nat.le_trans Z244 E245.1
  have CR245 := CR244.trans C245
  have SC243_x245 := SC243_x244.ext E245
  have SC244_x245 := SC244.ext E245
  obtain ⟨a246, T246, h246, k246, X246, e246, E246, hS246, hk246, hZ246, hown246, C246, -, st246⟩ := ldcOH (s := s) (vm0 := T245.vm) (EL := EL1) X245 hx hZ245 hown245 (hwi hw 83 rfl) hwS e245 hS245 hk245 hEL C245.1 (g := (mkF m 7 #[.val (.ref o)] [(.ref a245), (.ref a244), (.ref a243), (.ref o)])) rfl (hb hby d15_7) (n := 388) (by decide +kernel) (by decide) (by decide) (by decide)
  have EO_e246 := EO_e245.ext E246
  have F0_e246 := F0_e245.ext E246
  have F1_e246 := F1_e245.ext E246
  have F2_e246 := F2_e245.ext E246
  have F3_e246 := F3_e245.ext E246
  have F4_e246 := F4_e245.ext E246
  have F5_e246 := F5_e245.ext E246
  have F6_e246 := F6_e245.ext E246
  have F7_e246 := F7_e245.ext E246
  have F8_e246 := F8_e245.ext E246
  have O246 := O245.ext E246
  have K246 := K245.ext E246
  have Z246 : n0 ≤ h246.size := Nat.le_trans Z245 E246.1
  have CR246 := CR245.trans C246
  have SC243_x246 := SC243_x245.ext E246
  have SC244_x246 := SC244_x245.ext E246
  obtain ⟨a247, T247, h247, k247, X247, e247, E247, hS247, hk247, hZ247, hown247, C247, -, st247⟩ := ldcOH (s := s) (vm0 := T246.vm) (EL := EL1) X246 hx hZ246 hown246 (hwi hw 84 rfl) hwS e246 hS246 hk246 hEL C246.1 (g := (mkF m 9 #[.val (.ref o)] [(.ref a246), (.ref a245), (.ref a244), (.ref a243), (.ref o)])) rfl (hb hby d15_9) (n := 20) (by decide +kernel) (by decide) (by decide) (by decide)
  have EO_e247 := EO_e246.ext E247
  have F0_e247 := F0_e246.ext E247
  have F1_e247 := F1_e246.ext E247
  have F2_e247 := F2_e246.ext E247
  have F3_e247 := F3_e246.ext E247
  have F4_e247 := F4_e246.ext E247
  have F5_e247 := F5_e246.ext E247
  have F6_e247 := F6_e246.ext E247
  have F7_e247 := F7_e246.ext E247
  have F8_e247 := F8_e246.ext E247
  have O247 := O246.ext E247
  have K247 := K246.ext E247
  have Z247 : n0 ≤ h247.size := Nat.le_trans Z246 E247.1
  have CR247 := CR246.trans C247
  have SC243_x247 := SC243_x246.ext E247
  have SC244_x247 := SC244_x246.ext E247
  obtain ⟨_, _, ⟨T248, L248, k248, n248⟩, -, X248, hS2248, hg248, ⟨Lc248, hQ248, l248, y248, z248, C248⟩, st248⟩ := X247.specialBackS hx (y := (⟨"com/example/rigorous_lock/rigorouslock/io/SqlDialect", "<init>", "(Ljava/lang/String;Ljava/lang/String;Ljava/lang/String;Ljava/lang/String;Ljava/lang/String;)V"⟩ : MethodName)) rfl hown247 (mvT hZ247 (hwi hw 85 rfl)) (mvT hZ247 (hwi hw 86 rfl)) (mvT hZ247 (hwi hw 88 rfl)) (by decide) (backOfSH (s := s) (vm0 := T247.vm) (EL := EL1) (W := 0) (rmSD0 l Z a0 hw [] o a243 a244 a245 a246 a247 sc_MariaDbDialect_5 sc_MariaDbDialect_7 h247 n0 Z247 O247 SK hEL EO_e247 F0_e247 F1_e247 F2_e247 F3_e247 F4_e247 F5_e247 F6_e247 F7_e247 F8_e247 g_o SC243_x247 SC244_x247) hZ247 (hwi hw 88 rfl) (hwi hw 33 rfl) (by decide) (by decide) hEL C247.1) (g := (mkF m 11 #[.val (.ref o)] [(.ref a247), (.ref a246), (.ref a245), (.ref a244), (.ref a243), (.ref o)])) rfl (by rw [hml]; rfl) (Steps.refl _) (a := o) (argsL := [(.ref a243), (.ref a244), (.ref a245), (.ref a246), (.ref a247)]) (rest := []) (lenOf pd_14 rfl) rfl (by show 2 * 0 + _ ≤ _; exact Nat.le_of_eq rfl) (hb hby d15_11) (fun _ _ => ⟨rfl, e247, (by decide : 10 + 51 ≤ _), (by decide : 1372 + 12608 ≤ _)⟩)
  dsimp only [Pt.U, Pt.locs, Pt.cells, Pt.slots] at X248 l248 y248 z248 st248 hQ248 hS2248 hg248 C248
  obtain rfl : k248 = 61 := y248; obtain rfl : n248 = 13980 := z248
  obtain ⟨rfl, N248q, K248, S248⟩ := hQ248
  have N248 : Fr n0 L248 := by rw [l248]; exact Fr.app N0 N248q
  have CR248 := CR247.trans C248
  have hS248 := foldS hS247 (by rw [e247]; exact hk247) hS2248 hg248
  have hZ248 : Z.Warmed39 (s.setVm T248.vm).vm := State.Warmed39.trans hZ247 hS2248.1
  have hown248 : (s.setVm T248.vm).vm.findClass "com/example/rigorous_lock/rigorouslock/io/MariaDbDialect" = some m.cls := by rw [show (s.setVm T248.vm).vm = T248.vm from rfl, hS2248.1.alike.findClass]; exact hown247
  obtain ⟨EO248, F8248, x1248, x2248, x3248, w1248, w3248, F0248, S1248, F1248, S2248, F2248, S3248⟩ := S248
  have KK248 := K247.trans K248 (fun x r => by cases List.mem_singleton.mp r; exact (Or.inl (List.mem_of_getElem? (i := 0) rfl)))
  have Z248 : n0 ≤ T248.heap.size := Nat.le_trans Z247 K248.1
  have O248 := O247.keep K248 (all1 g_o)
  obtain ⟨T249, b249, X249, B249, F249, ho249, st249⟩ := cNEW X248 hx hZ248 hw hown248 (hwi hw 247 rfl) rfl KK248 Z248 O248 CR248 (Nat.le_refl _) (g := (mkF m 15 #[.val (.ref o)] [(.ref o)])) rfl (hb hby d15_15) (by decide)
  obtain ⟨T250, L250, d250, X250, N250, B250, st250⟩ := cSBI X249 hx hZ248 hw hown248 (hwi hw 248 rfl) SK N248 hZ248.alike B249 F249 ho249 (g := (mkF m 19 #[.val (.ref o)] [(.ref b249), (.ref b249), (.ref o)])) rfl (by rw [hml]; rfl) rfl (W := 2) (by show 2 * 0 + _ ≤ _; exact Nat.le_of_eq rfl) (hb hby d15_19) (by decide)
  obtain ⟨T251, X251, e251, st251⟩ := getF X250 hx hZ248 hown248 (host := "") (Or.inl (hwi hw 249 rfl)) (Via.of (hwi hw 250 rfl)) rfl (F2248.keep B250.1.2.2.2.2.1 List.not_mem_nil) (g := (mkF m 23 #[.val (.ref o)] [(.ref o), (.ref b249), (.ref o)])) rfl rfl (hb hby d15_23)
  obtain ⟨T252, L252, d252, X252, N252, B252, st252⟩ := cAPg X251 hx hZ248 hw hown248 (hwi hw 251 rfl) e251 SK N250 hZ248.alike B250 (S3248.keep B250.1.2.2.2.2.1) (cap' := 130) (cnt' := 130) (by decide) (g := (mkF m 26 #[.val (.ref o)] [(.ref x3248), (.ref b249), (.ref o)])) rfl (by rw [hml]; rfl) rfl (W := 1) (by show 2 * 0 + _ ≤ _; exact Nat.le_of_eq rfl) (hb hby d15_26) (by decide)
  obtain ⟨a253, T253, h253, k253, v253, kk253, X253, e253, E253, hS253, hk253, hZ253, hown253, Ex253, Fc253, Fv253, Av253, -, -, C253, -, -, st253⟩ := ldcCH (s := s) (vm0 := T248.vm) (EL := EL1) X252 hx hZ248 hown248 (hwi hw 252 rfl) hwS rfl hS248 B252.1.2.2.2.2.2 hEL (List.mem_of_getElem? (i := 5) rfl) B252.1.2.2.2.1.1 (vs := Lsc_MariaDbDialect_34) (z := (62 : Int32)) (by decide +kernel) (by decide) (by decide +kernel) (g := (mkF m 29 #[.val (.ref o)] [(.ref b249), (.ref o)])) rfl (hb hby d15_29) (n := 248) (by decide +kernel) (by decide) (by decide) (by decide)
  have SC253 : StrF Z h253 a253 62 sc_MariaDbDialect_34 := ⟨⟨Ex253, v253, Fv253, Fc253, afOf Av253 rfl⟩, ft_sc_MariaDbDialect_34 _⟩
  have B253 := B252.ldc E253 C253 hk253
  obtain ⟨T254, L254, d254, X254, N254, B254, st254⟩ := cAPg X253 hx hZ253 hw hown253 (hwi hw 251 rfl) e253 SK N252 hZ253.alike B253 SC253 (cap' := 262) (cnt' := 192) (by decide) (g := (mkF m 31 #[.val (.ref o)] [(.ref a253), (.ref b249), (.ref o)])) rfl (by rw [hml]; rfl) rfl (W := 1) (by show 2 * 0 + _ ≤ _; exact Nat.le_of_eq rfl) (hb hby d15_31) (by decide)
  obtain ⟨T255, X255, e255, st255⟩ := getF X254 hx hZ253 hown253 (host := "") (Or.inl (hwi hw 253 rfl)) (Via.of (hwi hw 254 rfl)) rfl (F0248.keep B254.1.2.2.2.2.1 List.not_mem_nil) (g := (mkF m 35 #[.val (.ref o)] [(.ref o), (.ref b249), (.ref o)])) rfl rfl (hb hby d15_35)
  obtain ⟨T256, L256, d256, X256, N256, B256, st256⟩ := cAPf X255 hx hZ253 hw hown253 (hwi hw 251 rfl) e255 SK N254 hZ253.alike B254 (S1248.keep B254.1.2.2.2.2.1) (cap' := 262) (cnt' := 235) (by decide) (g := (mkF m 38 #[.val (.ref o)] [(.ref x1248), (.ref b249), (.ref o)])) rfl (by rw [hml]; rfl) rfl (W := 1) (by show 2 * 0 + _ ≤ _; exact Nat.le_of_eq rfl) (hb hby d15_38) (by decide)
  obtain ⟨a257, T257, h257, k257, v257, kk257, X257, e257, E257, hS257, hk257, hZ257, hown257, Ex257, Fc257, Fv257, Av257, -, -, C257, -, -, st257⟩ := ldcCH (s := s) (vm0 := T253.vm) (EL := EL1) X256 hx hZ253 hown253 (hwi hw 255 rfl) hwS rfl hS253 B256.1.2.2.2.2.2 hEL (List.mem_of_getElem? (i := 6) rfl) B256.1.2.2.2.1.1 (vs := Lsc_MariaDbDialect_39) (z := (90 : Int32)) (by decide +kernel) (by decide) (by decide +kernel) (g := (mkF m 41 #[.val (.ref o)] [(.ref b249), (.ref o)])) rfl (hb hby d15_41) (n := 360) (by decide +kernel) (by decide) (by decide) (by decide)
  have SC257 : StrF Z h257 a257 90 sc_MariaDbDialect_39 := ⟨⟨Ex257, v257, Fv257, Fc257, afOf Av257 rfl⟩, ft_sc_MariaDbDialect_39 _⟩
  have B257 := B256.ldc E257 C257 hk257
  obtain ⟨T258, L258, d258, X258, N258, B258, st258⟩ := cAPg X257 hx hZ257 hw hown257 (hwi hw 251 rfl) e257 SK N256 hZ257.alike B257 SC257 (cap' := 526) (cnt' := 325) (by decide) (g := (mkF m 43 #[.val (.ref o)] [(.ref a257), (.ref b249), (.ref o)])) rfl (by rw [hml]; rfl) rfl (W := 1) (by show 2 * 0 + _ ≤ _; exact Nat.le_of_eq rfl) (hb hby d15_43) (by decide)
  obtain ⟨T259, X259, e259, st259⟩ := getF X258 hx hZ257 hown257 (host := "") (Or.inl (hwi hw 253 rfl)) (Via.of (hwi hw 254 rfl)) rfl (F0248.keep B258.1.2.2.2.2.1 List.not_mem_nil) (g := (mkF m 47 #[.val (.ref o)] [(.ref o), (.ref b249), (.ref o)])) rfl rfl (hb hby d15_47)
  obtain ⟨T260, L260, d260, X260, N260, B260, st260⟩ := cAPf X259 hx hZ257 hw hown257 (hwi hw 251 rfl) e259 SK N258 hZ257.alike B258 (S1248.keep B258.1.2.2.2.2.1) (cap' := 526) (cnt' := 368) (by decide) (g := (mkF m 50 #[.val (.ref o)] [(.ref x1248), (.ref b249), (.ref o)])) rfl (by rw [hml]; rfl) rfl (W := 1) (by show 2 * 0 + _ ≤ _; exact Nat.le_of_eq rfl) (hb hby d15_50) (by decide)
  obtain ⟨a261, T261, h261, k261, v261, kk261, X261, e261, E261, hS261, hk261, hZ261, hown261, Ex261, Fc261, Fv261, Av261, -, -, C261, -, -, st261⟩ := ldcCH (s := s) (vm0 := T257.vm) (EL := EL1) X260 hx hZ257 hown257 (hwi hw 256 rfl) hwS rfl hS257 B260.1.2.2.2.2.2 hEL (List.mem_of_getElem? (i := 7) rfl) B260.1.2.2.2.1.1 (vs := Lsc_MariaDbDialect_41) (z := (35 : Int32)) (by decide +kernel) (by decide) (by decide +kernel) (g := (mkF m 53 #[.val (.ref o)] [(.ref b249), (.ref o)])) rfl (hb hby d15_53) (n := 140) (by decide +kernel) (by decide) (by decide) (by decide)
  have SC261 : StrF Z h261 a261 35 sc_MariaDbDialect_41 := ⟨⟨Ex261, v261, Fv261, Fc261, afOf Av261 rfl⟩, ft_sc_MariaDbDialect_41 _⟩
  have B261 := B260.ldc E261 C261 hk261
  obtain ⟨T262, L262, d262, X262, N262, B262, st262⟩ := cAPf X261 hx hZ261 hw hown261 (hwi hw 251 rfl) e261 SK N260 hZ261.alike B261 SC261 (cap' := 526) (cnt' := 403) (by decide) (g := (mkF m 55 #[.val (.ref o)] [(.ref a261), (.ref b249), (.ref o)])) rfl (by rw [hml]; rfl) rfl (W := 1) (by show 2 * 0 + _ ≤ _; exact Nat.le_of_eq rfl) (hb hby d15_55) (by decide)
  obtain ⟨T263, X263, e263, st263⟩ := getF X262 hx hZ261 hown261 (host := "") (Or.inl (hwi hw 253 rfl)) (Via.of (hwi hw 254 rfl)) rfl (F0248.keep B262.1.2.2.2.2.1 List.not_mem_nil) (g := (mkF m 59 #[.val (.ref o)] [(.ref o), (.ref b249), (.ref o)])) rfl rfl (hb hby d15_59)
  obtain ⟨T264, L264, d264, X264, N264, B264, st264⟩ := cAPf X263 hx hZ261 hw hown261 (hwi hw 251 rfl) e263 SK N262 hZ261.alike B262 (S1248.keep B262.1.2.2.2.2.1) (cap' := 526) (cnt' := 446) (by decide) (g := (mkF m 62 #[.val (.ref o)] [(.ref x1248), (.ref b249), (.ref o)])) rfl (by rw [hml]; rfl) rfl (W := 1) (by show 2 * 0 + _ ≤ _; exact Nat.le_of_eq rfl) (hb hby d15_62) (by decide)
  obtain ⟨a265, T265, h265, k265, v265, kk265, X265, e265, E265, hS265, hk265, hZ265, hown265, Ex265, Fc265, Fv265, Av265, -, -, C265, -, -, st265⟩ := ldcCH (s := s) (vm0 := T261.vm) (EL := EL1) X264 hx hZ261 hown261 (hwi hw 257 rfl) hwS rfl hS261 B264.1.2.2.2.2.2 hEL (List.mem_of_getElem? (i := 8) rfl) B264.1.2.2.2.1.1 (vs := Lsc_MariaDbDialect_43) (z := (14 : Int32)) (by decide +kernel) (by decide) (by decide +kernel) (g := (mkF m 65 #[.val (.ref o)] [(.ref b249), (.ref o)])) rfl (hb hby d15_65) (n := 56) (by decide +kernel) (by decide) (by decide) (by decide)
  have SC265 : StrF Z h265 a265 14 sc_MariaDbDialect_43 := ⟨⟨Ex265, v265, Fv265, Fc265, afOf Av265 rfl⟩, ft_sc_MariaDbDialect_43 _⟩
  have B265 := B264.ldc E265 C265 hk265
  obtain ⟨T266, L266, d266, X266, N266, B266, st266⟩ := cAPf X265 hx hZ265 hw hown265 (hwi hw 251 rfl) e265 SK N264 hZ265.alike B265 SC265 (cap' := 526) (cnt' := 460) (by decide) (g := (mkF m 67 #[.val (.ref o)] [(.ref a265), (.ref b249), (.ref o)])) rfl (by rw [hml]; rfl) rfl (W := 1) (by show 2 * 0 + _ ≤ _; exact Nat.le_of_eq rfl) (hb hby d15_67) (by decide)
  obtain ⟨T267, X267, e267, st267⟩ := getF X266 hx hZ265 hown265 (host := "") (Or.inl (hwi hw 258 rfl)) (Via.of (hwi hw 259 rfl)) rfl (F1248.keep B266.1.2.2.2.2.1 List.not_mem_nil) (g := (mkF m 71 #[.val (.ref o)] [(.ref o), (.ref b249), (.ref o)])) rfl rfl (hb hby d15_71)
  obtain ⟨T268, L268, d268, X268, N268, B268, st268⟩ := cAPf X267 hx hZ265 hw hown265 (hwi hw 251 rfl) e267 SK N266 hZ265.alike B266 (S2248.keep B266.1.2.2.2.2.1) (cap' := 526) (cnt' := 501) (by decide) (g := (mkF m 74 #[.val (.ref o)] [(.ref x2248), (.ref b249), (.ref o)])) rfl (by rw [hml]; rfl) rfl (W := 1) (by show 2 * 0 + _ ≤ _; exact Nat.le_of_eq rfl) (hb hby d15_74) (by decide)
  obtain ⟨a269, T269, h269, k269, v269, kk269, X269, e269, E269, hS269, hk269, hZ269, hown269, Ex269, Fc269, Fv269, Av269, -, -, C269, -, -, st269⟩ := ldcCH (s := s) (vm0 := T265.vm) (EL := EL1) X268 hx hZ265 hown265 (hwi hw 260 rfl) hwS rfl hS265 B268.1.2.2.2.2.2 hEL (List.mem_of_getElem? (i := 9) rfl) B268.1.2.2.2.1.1 (vs := Lsc_MariaDbDialect_48) (z := (1 : Int32)) (by decide +kernel) (by decide) (by decide +kernel) (g := (mkF m 77 #[.val (.ref o)] [(.ref b249), (.ref o)])) rfl (hb hby d15_77) (n := 4) (by decide +kernel) (by decide) (by decide) (by decide)
  have SC269 : StrF Z h269 a269 1 sc_MariaDbDialect_48 := ⟨⟨Ex269, v269, Fv269, Fc269, afOf Av269 rfl⟩, ft_sc_MariaDbDialect_48 _⟩
  have B269 := B268.ldc E269 C269 hk269
  obtain ⟨T270, L270, d270, X270, N270, B270, st270⟩ := cAPf X269 hx hZ269 hw hown269 (hwi hw 251 rfl) e269 SK N268 hZ269.alike B269 SC269 (cap' := 526) (cnt' := 502) (by decide) (g := (mkF m 79 #[.val (.ref o)] [(.ref a269), (.ref b249), (.ref o)])) rfl (by rw [hml]; rfl) rfl (W := 1) (by show 2 * 0 + _ ≤ _; exact Nat.le_of_eq rfl) (hb hby d15_79) (by decide)
  obtain ⟨T271, L271, o271, X271, N271, B271, S271, st271⟩ := cTS X270 hx hZ269 hw hown269 (hwi hw 261 rfl) rfl SK N270 B270 (by decide) (g := (mkF m 82 #[.val (.ref o)] [(.ref b249), (.ref o)])) rfl (by rw [hml]; rfl) rfl (W := 1) (by show 2 * 0 + _ ≤ _; exact Nat.le_of_eq rfl) (hb hby d15_82) (by decide)
  obtain ⟨K271, Z271, O271, CR271, KB271, hk271⟩ := B271
  have S1248_x271 := S1248.keep KB271
  have S2248_x271 := S2248.keep KB271
  have S3248_x271 := S3248.keep KB271
  have EO248_x271 := EO248.keep KB271
  have F0248_x271 := F0248.keep KB271 List.not_mem_nil
  have F1248_x271 := F1248.keep KB271 List.not_mem_nil
  have F2248_x271 := F2248.keep KB271 List.not_mem_nil
  have F8248_x271 := F8248.keep KB271 List.not_mem_nil
  obtain ⟨wt271, SG271⟩ : ∃ w, StrF Z T271.heap o271 502 w := ⟨_, S271⟩
  obtain ⟨T272, h272, X272, e272, W272, st272⟩ := putF X271 hx hZ269 hown269 (host := "") (Or.inl (hwi hw 262 rfl)) Via.refl rfl F8248_x271 EO248_x271 (Or.inr ⟨(hwi hw 263 rfl), rfl, hnm⟩) (hwi hw 75 rfl) (ty := (.object "java/lang/String")) (by decide) rfl rfl (g := (mkF m 85 #[.val (.ref o)] [(.ref o271), (.ref o)])) rfl rfl (hb hby d15_85)
  have Fw272 := F8248_x271.same W272
  have EO248_x271_e272 := EO248_x271.wr W272
  have F0248_x271_e272 := F0248_x271.other W272 (Or.inr (slot_ne (Or.inr (hwi hw 218 rfl)) (Or.inr (hwi hw 263 rfl)) (by decide) (t := (.object "java/lang/String")) (t' := (.object "java/lang/String")) (by decide) (by decide)))
  have F1248_x271_e272 := F1248_x271.other W272 (Or.inr (slot_ne (Or.inr (hwi hw 221 rfl)) (Or.inr (hwi hw 263 rfl)) (by decide) (t := (.object "java/lang/String")) (t' := (.object "java/lang/String")) (by decide) (by decide)))
  have F2248_x271_e272 := F2248_x271.other W272 (Or.inr (slot_ne (Or.inr (hwi hw 225 rfl)) (Or.inr (hwi hw 263 rfl)) (by decide) (t := (.object "java/lang/String")) (t' := (.object "java/lang/String")) (by decide) (by decide)))
  have N272 := Fr.snoc X272 N271 g_o
  have K272 := K271.wr W272 (Or.inl (List.mem_of_getElem? (i := 0) rfl))
  have Z272 : n0 ≤ h272.size := Nat.le_trans Z271 (Keep.of_wr W272).1
  have hk272 := Nat.le_trans hk271 (Keep.of_wr W272).1
  have O272 := O271.wr W272 g_o
  have CR272 := CR271.trans (CHr.wr W272 (Safe.exa hZ269.alike EO248_x271 (by decide) (by decide)) CR271.1)
  have SF272_o := Safe.wr W272 (Safe.exa hZ269.alike EO248_x271 (by decide) (by decide)) CR271.1 (Safe.exa hZ269.alike EO248_x271 (by decide) (by decide))
  have CH272 := CHv.wr W272 (Safe.exa hZ269.alike EO248_x271 (by decide) (by decide)) CR271.1
  have S1248_x272 := S1248_x271.wrO EO248_x271 (by decide) (hwi hw 75 rfl) W272
  have S2248_x272 := S2248_x271.wrO EO248_x271 (by decide) (hwi hw 75 rfl) W272
  have S3248_x272 := S3248_x271.wrO EO248_x271 (by decide) (hwi hw 75 rfl) W272
  have SG271_x272 := SG271.wrO EO248_x271 (by decide) (hwi hw 75 rfl) W272
  obtain ⟨fs, hr, hrun, hended, -, hWW, hBB, hSS⟩ := Stand.leaveW (s := s) (vm₁ := T269.vm) X272 hS269 (by rw [e272]; exact hk272) (v := none) (fun _ => rfl)
  refine ⟨_, _, pre0 _ ?_, hrun, hended, _, _, rfl, ?_, ?_, ⟨_, rfl⟩, hWW, hBB, hSS.mono (by decide) (by decide)⟩
  · show Steps p.tables e below (s₁.setTop (mkF m 0 #[.val (.ref o)] [])) _
    refine XS.aloadN X0.here hx rfl (hb hby d15_0) rfl rfl ?_
    show Steps p.tables e below (s₁.setTop (mkF m 1 #[.val (.ref o)] [(.ref o)])) _
    refine st243 _ ?_
    show Steps p.tables e below (T243.setTop (mkF m 3 #[.val (.ref o)] [(.ref a243), (.ref o)])) _
    refine st244 _ ?_
    show Steps p.tables e below (T244.setTop (mkF m 5 #[.val (.ref o)] [(.ref a244), (.ref a243), (.ref o)])) _
    refine st245 _ ?_
    show Steps p.tables e below (T245.setTop (mkF m 7 #[.val (.ref o)] [(.ref a245), (.ref a244), (.ref a243), (.ref o)])) _
    refine st246 _ ?_
    show Steps p.tables e below (T246.setTop (mkF m 9 #[.val (.ref o)] [(.ref a246), (.ref a245), (.ref a244), (.ref a243), (.ref o)])) _
    refine st247 _ ?_
    show Steps p.tables e below (T247.setTop (mkF m 11 #[.val (.ref o)] [(.ref a247), (.ref a246), (.ref a245), (.ref a244), (.ref a243), (.ref o)])) _
    refine st248.trans ?_
    refine XS.aloadN X248.here hx rfl (hb hby d15_14) rfl rfl ?_
    show Steps p.tables e below (T248.setTop (mkF m 15 #[.val (.ref o)] [(.ref o)])) _
    refine st249 _ ?_
    refine XS.dup X249.here hx rfl (hb hby d15_18) rfl rfl ?_
    show Steps p.tables e below (T249.setTop (mkF m 19 #[.val (.ref o)] [(.ref b249), (.ref b249), (.ref o)])) _
    refine st250 _ ?_
    refine XS.aloadN X250.here hx rfl (hb hby d15_22) rfl rfl ?_
    show Steps p.tables e below (T250.setTop (mkF m 23 #[.val (.ref o)] [(.ref o), (.ref b249), (.ref o)])) _
    refine st251 _ ?_
    show Steps p.tables e below (T251.setTop (mkF m 26 #[.val (.ref o)] [(.ref x3248), (.ref b249), (.ref o)])) _
    refine st252 _ ?_
    show Steps p.tables e below (T252.setTop (mkF m 29 #[.val (.ref o)] [(.ref b249), (.ref o)])) _
    refine st253 _ ?_
    show Steps p.tables e below (T253.setTop (mkF m 31 #[.val (.ref o)] [(.ref a253), (.ref b249), (.ref o)])) _
    refine st254 _ ?_
    refine XS.aloadN X254.here hx rfl (hb hby d15_34) rfl rfl ?_
    show Steps p.tables e below (T254.setTop (mkF m 35 #[.val (.ref o)] [(.ref o), (.ref b249), (.ref o)])) _
    refine st255 _ ?_
    show Steps p.tables e below (T255.setTop (mkF m 38 #[.val (.ref o)] [(.ref x1248), (.ref b249), (.ref o)])) _
    refine st256 _ ?_
    show Steps p.tables e below (T256.setTop (mkF m 41 #[.val (.ref o)] [(.ref b249), (.ref o)])) _
    refine st257 _ ?_
    show Steps p.tables e below (T257.setTop (mkF m 43 #[.val (.ref o)] [(.ref a257), (.ref b249), (.ref o)])) _
    refine st258 _ ?_
    refine XS.aloadN X258.here hx rfl (hb hby d15_46) rfl rfl ?_
    show Steps p.tables e below (T258.setTop (mkF m 47 #[.val (.ref o)] [(.ref o), (.ref b249), (.ref o)])) _
    refine st259 _ ?_
    show Steps p.tables e below (T259.setTop (mkF m 50 #[.val (.ref o)] [(.ref x1248), (.ref b249), (.ref o)])) _
    refine st260 _ ?_
    show Steps p.tables e below (T260.setTop (mkF m 53 #[.val (.ref o)] [(.ref b249), (.ref o)])) _
    refine st261 _ ?_
    show Steps p.tables e below (T261.setTop (mkF m 55 #[.val (.ref o)] [(.ref a261), (.ref b249), (.ref o)])) _
    refine st262 _ ?_
    refine XS.aloadN X262.here hx rfl (hb hby d15_58) rfl rfl ?_
    show Steps p.tables e below (T262.setTop (mkF m 59 #[.val (.ref o)] [(.ref o), (.ref b249), (.ref o)])) _
    refine st263 _ ?_
    show Steps p.tables e below (T263.setTop (mkF m 62 #[.val (.ref o)] [(.ref x1248), (.ref b249), (.ref o)])) _
    refine st264 _ ?_
    show Steps p.tables e below (T264.setTop (mkF m 65 #[.val (.ref o)] [(.ref b249), (.ref o)])) _
    refine st265 _ ?_
    show Steps p.tables e below (T265.setTop (mkF m 67 #[.val (.ref o)] [(.ref a265), (.ref b249), (.ref o)])) _
    refine st266 _ ?_
    refine XS.aloadN X266.here hx rfl (hb hby d15_70) rfl rfl ?_
    show Steps p.tables e below (T266.setTop (mkF m 71 #[.val (.ref o)] [(.ref o), (.ref b249), (.ref o)])) _
    refine st267 _ ?_
    show Steps p.tables e below (T267.setTop (mkF m 74 #[.val (.ref o)] [(.ref x2248), (.ref b249), (.ref o)])) _
    refine st268 _ ?_
    show Steps p.tables e below (T268.setTop (mkF m 77 #[.val (.ref o)] [(.ref b249), (.ref o)])) _
    refine st269 _ ?_
    show Steps p.tables e below (T269.setTop (mkF m 79 #[.val (.ref o)] [(.ref a269), (.ref b249), (.ref o)])) _
    refine st270 _ ?_
    show Steps p.tables e below (T270.setTop (mkF m 82 #[.val (.ref o)] [(.ref b249), (.ref o)])) _
    refine st271 _ ?_
    show Steps p.tables e below (T271.setTop (mkF m 85 #[.val (.ref o)] [(.ref o271), (.ref o)])) _
    refine st272 _ ?_
    show Steps p.tables e below (T272.setTop (mkF m 88 #[.val (.ref o)] [])) _
    exact X272.returnOut hx Bd.returns (hb hby d15_88) hr
  · show QMD Z "com/example/rigorous_lock/rigorouslock/io/MariaDbDialect" o 41 (fC 19 (fC 16 (fC 0 z0 sc_MariaDbDialect_5) sc_SqlDialect_26) sc_MariaDbDialect_7) h0 n0 _ T272.heap _
    exact ⟨rfl, N272, by rw [e272]; exact K272, by rw [e272]; exact EO248_x271_e272, x2248, by rw [e272]; exact F1248_x271_e272, by rw [e272]; exact S2248_x272⟩
  · show CHr Z EL1 s.vm s.heap T272.vm T272.heap
    have q := CR272.trans (CHv.at (s := s) (vm0 := T269.vm) X272 hZ269 hEL CH272)
    rw [hh, e272]
    exact q
theorem d42_0 : decode prog_4_method_1_code 0 = .ok (.aload_n 0, 1) := by decide +kernel
theorem d42_1 : decode prog_4_method_1_code 1 = .ok (.ldc 3, 2) := by decide +kernel
theorem d42_3 : decode prog_4_method_1_code 3 = .ok (.ldc 5, 2) := by decide +kernel
theorem d42_5 : decode prog_4_method_1_code 5 = .ok (.ldc 9, 2) := by decide +kernel
theorem d42_7 : decode prog_4_method_1_code 7 = .ok (.ldc 11, 2) := by decide +kernel
theorem d42_9 : decode prog_4_method_1_code 9 = .ok (.ldc 13, 2) := by decide +kernel
theorem d42_11 : decode prog_4_method_1_code 11 = .ok (.invokespecial 15, 3) := by decide +kernel
theorem d42_14 : decode prog_4_method_1_code 14 = .ok (.aload_n 0, 1) := by decide +kernel
theorem d42_15 : decode prog_4_method_1_code 15 = .ok (.new 19, 3) := by decide +kernel
theorem d42_18 : decode prog_4_method_1_code 18 = .ok (.dup, 1) := by decide +kernel
theorem d42_19 : decode prog_4_method_1_code 19 = .ok (.invokespecial 21, 3) := by decide +kernel
theorem d42_22 : decode prog_4_method_1_code 22 = .ok (.aload_n 0, 1) := by decide +kernel
theorem d42_23 : decode prog_4_method_1_code 23 = .ok (.getfield 24, 3) := by decide +kernel
theorem d42_26 : decode prog_4_method_1_code 26 = .ok (.invokevirtual 28, 3) := by decide +kernel
theorem d42_29 : decode prog_4_method_1_code 29 = .ok (.ldc 32, 2) := by decide +kernel
theorem d42_31 : decode prog_4_method_1_code 31 = .ok (.invokevirtual 28, 3) := by decide +kernel
theorem d42_34 : decode prog_4_method_1_code 34 = .ok (.ldc 34, 2) := by decide +kernel
theorem d42_36 : decode prog_4_method_1_code 36 = .ok (.invokevirtual 28, 3) := by decide +kernel
theorem d42_39 : decode prog_4_method_1_code 39 = .ok (.ldc 36, 2) := by decide +kernel
theorem d42_41 : decode prog_4_method_1_code 41 = .ok (.invokevirtual 28, 3) := by decide +kernel
theorem d42_44 : decode prog_4_method_1_code 44 = .ok (.aload_n 0, 1) := by decide +kernel
theorem d42_45 : decode prog_4_method_1_code 45 = .ok (.getfield 38, 3) := by decide +kernel
theorem d42_48 : decode prog_4_method_1_code 48 = .ok (.invokevirtual 28, 3) := by decide +kernel
theorem d42_51 : decode prog_4_method_1_code 51 = .ok (.ldc 41, 2) := by decide +kernel
theorem d42_53 : decode prog_4_method_1_code 53 = .ok (.invokevirtual 28, 3) := by decide +kernel
theorem d42_56 : decode prog_4_method_1_code 56 = .ok (.invokevirtual 43, 3) := by decide +kernel
theorem d42_59 : decode prog_4_method_1_code 59 = .ok (.putfield 47, 3) := by decide +kernel
theorem d42_62 : decode prog_4_method_1_code 62 = .ok (.return_, 1) := by decide +kernel
theorem pn_42 : plainName "com/example/rigorous_lock/rigorouslock/io/PostgresDialect" = true := by first | (simp [plainName, overriddenIn]; done) | decide +kernel
theorem ef_42 (m : MethodId) (x0 : Addr) : entryFrame m #[(.ref x0)] 1 = mkF m 0 #[.val (.ref x0)] [] := by first | (simp [entryFrame, mkF, argsToLocals, Value.category]; done) | rfl
def Lsc_PostgresDialect_3 : List Value := [(.int (115 : Int32)), (.int (116 : Int32)), (.int (97 : Int32)), (.int (116 : Int32)), (.int (101 : Int32)), (.int (109 : Int32)), (.int (101 : Int32)), (.int (110 : Int32)), (.int (116 : Int32)), (.int (95 : Int32)), (.int (116 : Int32)), (.int (105 : Int32)), (.int (109 : Int32)), (.int (101 : Int32)), (.int (115 : Int32)), (.int (116 : Int32)), (.int (97 : Int32)), (.int (109 : Int32)), (.int (112 : Int32)), (.int (40 : Int32)), (.int (41 : Int32))]
def sc_PostgresDialect_3 : Nat → Value := fun j => Lsc_PostgresDialect_3.getD j (.int (0 : Int32))
theorem ft_sc_PostgresDialect_3 (n : Nat) : ∀ j, j < n → fits .byte (sc_PostgresDialect_3 j) = true := fitsL (by decide +kernel) n
def Lsc_PostgresDialect_5 : List Value := [(.int (63 : Int32)), (.int (32 : Int32)), (.int (42 : Int32)), (.int (32 : Int32)), (.int (73 : Int32)), (.int (78 : Int32)), (.int (84 : Int32)), (.int (69 : Int32)), (.int (82 : Int32)), (.int (86 : Int32)), (.int (65 : Int32)), (.int (76 : Int32)), (.int (32 : Int32)), (.int (39 : Int32)), (.int (49 : Int32)), (.int (32 : Int32)), (.int (109 : Int32)), (.int (105 : Int32)), (.int (99 : Int32)), (.int (114 : Int32)), (.int (111 : Int32)), (.int (115 : Int32)), (.int (101 : Int32)), (.int (99 : Int32)), (.int (111 : Int32)), (.int (110 : Int32)), (.int (100 : Int32)), (.int (39 : Int32))]
def sc_PostgresDialect_5 : Nat → Value := fun j => Lsc_PostgresDialect_5.getD j (.int (0 : Int32))
theorem ft_sc_PostgresDialect_5 (n : Nat) : ∀ j, j < n → fits .byte (sc_PostgresDialect_5 j) = true := fitsL (by decide +kernel) n
def Lsc_PostgresDialect_32 : List Value := [(.int (49 : Int32)), (.int (41 : Int32)), (.int (32 : Int32)), (.int (79 : Int32)), (.int (78 : Int32)), (.int (32 : Int32)), (.int (67 : Int32)), (.int (79 : Int32)), (.int (78 : Int32)), (.int (70 : Int32)), (.int (76 : Int32)), (.int (73 : Int32)), (.int (67 : Int32)), (.int (84 : Int32)), (.int (32 : Int32)), (.int (40 : Int32)), (.int (110 : Int32)), (.int (97 : Int32)), (.int (109 : Int32)), (.int (101 : Int32)), (.int (41 : Int32)), (.int (32 : Int32)), (.int (68 : Int32)), (.int (79 : Int32)), (.int (32 : Int32)), (.int (85 : Int32)), (.int (80 : Int32)), (.int (68 : Int32)), (.int (65 : Int32)), (.int (84 : Int32)), (.int (69 : Int32)), (.int (32 : Int32)), (.int (83 : Int32)), (.int (69 : Int32)), (.int (84 : Int32)), (.int (32 : Int32)), (.int (111 : Int32)), (.int (119 : Int32)), (.int (110 : Int32)), (.int (101 : Int32)), (.int (114 : Int32)), (.int (95 : Int32)), (.int (116 : Int32)), (.int (111 : Int32)), (.int (107 : Int32)), (.int (101 : Int32)), (.int (110 : Int32)), (.int (32 : Int32)), (.int (61 : Int32)), (.int (32 : Int32)), (.int (69 : Int32)), (.int (88 : Int32)), (.int (67 : Int32)), (.int (76 : Int32)), (.int (85 : Int32)), (.int (68 : Int32)), (.int (69 : Int32)), (.int (68 : Int32)), (.int (46 : Int32)), (.int (111 : Int32)), (.int (119 : Int32)), (.int (110 : Int32)), (.int (101 : Int32)), (.int (114 : Int32)), (.int (95 : Int32)), (.int (116 : Int32)), (.int (111 : Int32)), (.int (107 : Int32)), (.int (101 : Int32)), (.int (110 : Int32)), (.int (44 : Int32)), (.int (32 : Int32)), (.int (101 : Int32)), (.int (120 : Int32)), (.int (112 : Int32)), (.int (105 : Int32)), (.int (114 : Int32)), (.int (101 : Int32)), (.int (115 : Int32)), (.int (95 : Int32)), (.int (97 : Int32)), (.int (116 : Int32)), (.int (32 : Int32)), (.int (61 : Int32)), (.int (32 : Int32)), (.int (69 : Int32)), (.int (88 : Int32)), (.int (67 : Int32)), (.int (76 : Int32)), (.int (85 : Int32)), (.int (68 : Int32)), (.int (69 : Int32)), (.int (68 : Int32)), (.int (46 : Int32)), (.int (101 : Int32)), (.int (120 : Int32)), (.int (112 : Int32)), (.int (105 : Int32)), (.int (114 : Int32)), (.int (101 : Int32)), (.int (115 : Int32)), (.int (95 : Int32)), (.int (97 : Int32)), (.int (116 : Int32)), (.int (44 : Int32)), (.int (32 : Int32)), (.int (102 : Int32)), (.int (101 : Int32)), (.int (110 : Int32)), (.int (99 : Int32)), (.int (105 : Int32)), (.int (110 : Int32)), (.int (103 : Int32)), (.int (95 : Int32)), (.int (116 : Int32)), (.int (111 : Int32)), (.int (107 : Int32)), (.int (101 : Int32)), (.int (110 : Int32)), (.int (32 : Int32)), (.int (61 : Int32)), (.int (32 : Int32))]
def sc_PostgresDialect_32 : Nat → Value := fun j => Lsc_PostgresDialect_32.getD j (.int (0 : Int32))
theorem ft_sc_PostgresDialect_32 (n : Nat) : ∀ j, j < n → fits .byte (sc_PostgresDialect_32 j) = true := fitsL (by decide +kernel) n
def Lsc_PostgresDialect_34 : List Value := [(.int (114 : Int32)), (.int (105 : Int32)), (.int (103 : Int32)), (.int (111 : Int32)), (.int (114 : Int32)), (.int (111 : Int32)), (.int (117 : Int32)), (.int (115 : Int32)), (.int (95 : Int32)), (.int (108 : Int32)), (.int (111 : Int32)), (.int (99 : Int32)), (.int (107 : Int32))]
def sc_PostgresDialect_34 : Nat → Value := fun j => Lsc_PostgresDialect_34.getD j (.int (0 : Int32))
theorem ft_sc_PostgresDialect_34 (n : Nat) : ∀ j, j < n → fits .byte (sc_PostgresDialect_34 j) = true := fitsL (by decide +kernel) n
def Lsc_PostgresDialect_36 : List Value := [(.int (46 : Int32)), (.int (102 : Int32)), (.int (101 : Int32)), (.int (110 : Int32)), (.int (99 : Int32)), (.int (105 : Int32)), (.int (110 : Int32)), (.int (103 : Int32)), (.int (95 : Int32)), (.int (116 : Int32)), (.int (111 : Int32)), (.int (107 : Int32)), (.int (101 : Int32)), (.int (110 : Int32)), (.int (32 : Int32)), (.int (43 : Int32)), (.int (32 : Int32)), (.int (49 : Int32)), (.int (32 : Int32)), (.int (87 : Int32)), (.int (72 : Int32)), (.int (69 : Int32)), (.int (82 : Int32)), (.int (69 : Int32)), (.int (32 : Int32)), (.int (40 : Int32))]
def sc_PostgresDialect_36 : Nat → Value := fun j => Lsc_PostgresDialect_36.getD j (.int (0 : Int32))
theorem ft_sc_PostgresDialect_36 (n : Nat) : ∀ j, j < n → fits .byte (sc_PostgresDialect_36 j) = true := fitsL (by decide +kernel) n
def Lsc_PostgresDialect_41 : List Value := [(.int (41 : Int32)), (.int (32 : Int32)), (.int (73 : Int32)), (.int (83 : Int32)), (.int (32 : Int32)), (.int (78 : Int32)), (.int (79 : Int32)), (.int (84 : Int32)), (.int (32 : Int32)), (.int (84 : Int32)), (.int (82 : Int32)), (.int (85 : Int32)), (.int (69 : Int32)), (.int (32 : Int32)), (.int (82 : Int32)), (.int (69 : Int32)), (.int (84 : Int32)), (.int (85 : Int32)), (.int (82 : Int32)), (.int (78 : Int32)), (.int (73 : Int32)), (.int (78 : Int32)), (.int (71 : Int32)), (.int (32 : Int32)), (.int (102 : Int32)), (.int (101 : Int32)), (.int (110 : Int32)), (.int (99 : Int32)), (.int (105 : Int32)), (.int (110 : Int32)), (.int (103 : Int32)), (.int (95 : Int32)), (.int (116 : Int32)), (.int (111 : Int32)), (.int (107 : Int32)), (.int (101 : Int32)), (.int (110 : Int32))]
def sc_PostgresDialect_41 : Nat → Value := fun j => Lsc_PostgresDialect_41.getD j (.int (0 : Int32))
theorem ft_sc_PostgresDialect_41 (n : Nat) : ∀ j, j < n → fits .byte (sc_PostgresDialect_41 j) = true := fitsL (by decide +kernel) n
set_option maxRecDepth 65536 in
set_option maxHeartbeats 40000000 in
theorem rmMD1 (l : Launch) (Z : State) (a0 : Array Value) (hw : ∀ d ∈ tables_1, d.before a0 Z = true) (ws : List Jvm.Cond) (o : Addr)  (h0 : Heap) (n0 : Nat) (Z0 : n0 ≤ h0.size) (O : Old Z n0 h0) (SK : StrSta Z) (hEL : EW Z a0 EL1) (EO : Exa Z h0 o "com/example/rigorous_lock/rigorouslock/io/PostgresDialect") (F0 : Fld Z h0 o "com/example/rigorous_lock/rigorouslock/io/SqlDialect" "held" "Ljava/lang/String;" .null) (F1 : Fld Z h0 o "com/example/rigorous_lock/rigorouslock/io/SqlDialect" "leaseEnd" "Ljava/lang/String;" .null) (F2 : Fld Z h0 o "com/example/rigorous_lock/rigorouslock/io/SqlDialect" "insertNewRow" "Ljava/lang/String;" .null) (F3 : Fld Z h0 o "com/example/rigorous_lock/rigorouslock/io/SqlDialect" "createTable" "Ljava/lang/String;" .null) (F4 : Fld Z h0 o "com/example/rigorous_lock/rigorouslock/io/SqlDialect" "timeLeftQuery" "Ljava/lang/String;" .null) (F5 : Fld Z h0 o "com/example/rigorous_lock/rigorouslock/io/SqlDialect" "missingTableState" "Ljava/lang/String;" .null) (F6 : Fld Z h0 o "com/example/rigorous_lock/rigorouslock/io/SqlDialect" "releaseStatement" "Ljava/lang/String;" .null) (F7 : Fld Z h0 o "com/example/rigorous_lock/rigorouslock/io/SqlDialect" "renewStatement" "Ljava/lang/String;" .null) (F8 : Fld Z h0 o "com/example/rigorous_lock/rigorouslock/io/PostgresDialect" "takeStatement" "Ljava/lang/String;" .null) (g_o : n0 ≤ o)  :
    MetFree l (⟨"com/example/rigorous_lock/rigorouslock/io/PostgresDialect", "<init>", "()V"⟩ : MethodName) (head1 (Jvm.Cond.code (⟨"com/example/rigorous_lock/rigorouslock/io/PostgresDialect", "<init>", "()V"⟩ : MethodName) prog_4_method_1_code 1 none :: ws) ({ frames := 7, cells := 76, slots := 17160, locals := 190 } : Room)) (fun aa_ U_ => aa_ = #[(.ref o)] ∧ Z.Warmed39 U_.vm ∧ U_.heap = h0 ∧ CHv Z EL1 U_.vm h0) (fun _ _ _ _ _ => True) (fun _ U_ o_ V_ => ∃ v_ L_, o_ = .returned v_ ∧ QMD Z "com/example/rigorous_lock/rigorouslock/io/PostgresDialect" o 52 (fC 24 (fC 21 (fC 0 z0 sc_PostgresDialect_3) sc_SqlDialect_26) sc_PostgresDialect_5) h0 n0 v_ V_.heap L_ ∧ CHr Z EL1 U_.vm U_.heap V_.vm V_.heap ∧ ReturnedEndW U_ o_ V_ L_ ({ frames := 7, cells := 76, slots := 17160, locals := 190 } : Room).cells ({ frames := 7, cells := 76, slots := 17160, locals := 190 } : Room).slots) := by
  refine MetFree.of_bodySF (plainFor_of_name pn_42) hisR ?_
  intro p e s m args below meth c s₁ Bd hml0 hP hK
  obtain ⟨rfl, hZ, hh, CH0⟩ := hP
  have hx := Bd.exec
  have hby := Bd.bytes
  have hml : c.maxLocals = 1 := hml0
  have hown : s.vm.findClass "com/example/rigorous_lock/rigorouslock/io/PostgresDialect" = some m.cls := findClass_of_methodNamed Bd.named
  have hnm := (name_of_methodNamed Bd.named Bd.method).1
  have X0 : Stand p l e ({ frames := 7, cells := 76, slots := 17160, locals := 190 } : Room) s m #[(.ref o)] below meth c s₁ [] 0 0 := Stand.of_body Bd
  have e0 : s₁.heap = h0 := by rw [← hh, Bd.state]; rfl
  have N0 := Fr.nil n0
  have pre0 : ∀ zz, Steps p.tables e below (s₁.setTop (mkF m 0 #[.val (.ref o)] [])) zz → Steps p.tables e below (s₁.setTop (entryFrame m #[(.ref o)] 1)) zz := fun zz kz_ => castTop (ef_42 m o) kz_
  have hwS : ∀ a ∈ Bundle.stringAtoms, a.before a0 Z = true := fun d hd => hw d (by simpa using (List.all_eq_true.mp (by decide +kernel : (Bundle.stringAtoms.all fun c => tables_1.contains c) = true)) d hd)
  obtain ⟨a273, T273, h273, k273, v273, kk273, X273, e273, E273, hS273, hk273, hZ273, hown273, Ex273, Fc273, Fv273, Av273, -, -, C273, -, -, st273⟩ := ldcCH (s := s) (vm0 := s.vm) (EL := EL1) X0 hx hZ hown (hwi hw 276 rfl) hwS e0 ((State.WarmedH.refl s).since 0) (Nat.zero_le _) hEL (List.mem_of_getElem? (i := 10) rfl) CH0 (vs := Lsc_PostgresDialect_3) (z := (21 : Int32)) (by decide +kernel) (by decide) (by decide +kernel) (g := (mkF m 1 #[.val (.ref o)] [(.ref o)])) rfl (hb hby d42_1) (n := 84) (by decide +kernel) (by decide) (by decide) (by decide)
  have SC273 : StrF Z h273 a273 21 sc_PostgresDialect_3 := ⟨⟨Ex273, v273, Fv273, Fc273, afOf Av273 rfl⟩, ft_sc_PostgresDialect_3 _⟩
  have EO_e273 := EO.ext E273
  have F0_e273 := F0.ext E273
  have F1_e273 := F1.ext E273
  have F2_e273 := F2.ext E273
  have F3_e273 := F3.ext E273
  have F4_e273 := F4.ext E273
  have F5_e273 := F5.ext E273
  have F6_e273 := F6.ext E273
  have F7_e273 := F7.ext E273
  have F8_e273 := F8.ext E273
  have O273 := O.ext E273
  have K273 := (Keep.refl h0 [o]).ext E273
  have Z273 : n0 ≤ h273.size := Nat.le_trans Z0 E273.1
  have CR273 := (CHr.refl CH0).trans C273
  obtain ⟨a274, T274, h274, k274, v274, kk274, X274, e274, E274, hS274, hk274, hZ274, hown274, Ex274, Fc274, Fv274, Av274, -, -, C274, -, -, st274⟩ := ldcCH (s := s) (vm0 := T273.vm) (EL := EL1) X273 hx hZ273 hown273 (hwi hw 277 rfl) hwS e273 hS273 hk273 hEL (List.mem_of_getElem? (i := 11) rfl) C273.1 (vs := Lsc_PostgresDialect_5) (z := (28 : Int32)) (by decide +kernel) (by decide) (by decide +kernel) (g := (mkF m 3 #[.val (.ref o)] [(.ref a273), (.ref o)])) rfl (hb hby d42_3) (n := 112) (by decide +kernel) (by decide) (by decide) (by decide)
  have SC274 : StrF Z h274 a274 28 sc_PostgresDialect_5 := ⟨⟨Ex274, v274, Fv274, Fc274, afOf Av274 rfl⟩, ft_sc_PostgresDialect_5 _⟩
  have EO_e274 := EO_e273.ext E274
  have F0_e274 := F0_e273.ext E274
  have F1_e274 := F1_e273.ext E274
  have F2_e274 := F2_e273.ext E274
  have F3_e274 := F3_e273.ext E274
  have F4_e274 := F4_e273.ext E274
  have F5_e274 := F5_e273.ext E274
  have F6_e274 := F6_e273.ext E274
  have F7_e274 := F7_e273.ext E274
  have F8_e274 := F8_e273.ext E274
  have O274 := O273.ext E274
  have K274 := K273.ext E274
  have Z274 : n0 ≤ h274.size := Nat.le_trans Z273 E274.1
  have CR274 := CR273.trans C274
  have SC273_x274 := SC273.ext E274
  obtain ⟨a275, T275, h275, k275, X275, e275, E275, hS275, hk275, hZ275, hown275, C275, -, st275⟩ := ldcOH (s := s) (vm0 := T274.vm) (EL := EL1) X274 hx hZ274 hown274 (hwi hw 278 rfl) hwS e274 hS274 hk274 hEL C274.1 (g := (mkF m 5 #[.val (.ref o)] [(.ref a274), (.ref a273), (.ref o)])) rfl (hb hby d42_5) (n := 624) (by decide +kernel) (by decide) (by decide) (by decide)
  have EO_e275 := EO_e274.ext E275
  have F0_e275 := F0_e274.ext E275
  have F1_e275 := F1_e274.ext E275
  have F2_e275 := F2_e274.ext E275
  have F3_e275 := F3_e274.ext E275
  have F4_e275 := F4_e274.ext E275
  have F5_e275 := F5_e274.ext E275
  have F6_e275 := F6_e274.ext E275
  have F7_e275 := F7_e274.ext E275
  have F8_e275 := F8_e274.ext E275
  have O275 := O274.ext E275
  have K275 := K274.ext E275
  have Z275 : n0 ≤ h275.size := Nat.le_trans Z274 E275.1
  have CR275 := CR274.trans C275
  have SC273_x275 := SC273_x274.ext E275
  have SC274_x275 := SC274.ext E275
  obtain ⟨a276, T276, h276, k276, X276, e276, E276, hS276, hk276, hZ276, hown276, C276, -, st276⟩ := ldcOH (s := s) (vm0 := T275.vm) (EL := EL1) X275 hx hZ275 hown275 (hwi hw 279 rfl) hwS e275 hS275 hk275 hEL C275.1 (g := (mkF m 7 #[.val (.ref o)] [(.ref a275), (.ref a274), (.ref a273), (.ref o)])) rfl (hb hby d42_7) (n := 460) (by decide +kernel) (by decide) (by decide) (by decide)
  have EO_e276 := EO_e275.ext E276
  have F0_e276 := F0_e275.ext E276
  have F1_e276 := F1_e275.ext E276
  have F2_e276 := F2_e275.ext E276
  have F3_e276 := F3_e275.ext E276
  have F4_e276 := F4_e275.ext E276
  have F5_e276 := F5_e275.ext E276
  have F6_e276 := F6_e275.ext E276
  have F7_e276 := F7_e275.ext E276
  have F8_e276 := F8_e275.ext E276
  have O276 := O275.ext E276
  have K276 := K275.ext E276
  have Z276 : n0 ≤ h276.size := Nat.le_trans Z275 E276.1
  have CR276 := CR275.trans C276
  have SC273_x276 := SC273_x275.ext E276
  have SC274_x276 := SC274_x275.ext E276
  obtain ⟨a277, T277, h277, k277, X277, e277, E277, hS277, hk277, hZ277, hown277, C277, -, st277⟩ := ldcOH (s := s) (vm0 := T276.vm) (EL := EL1) X276 hx hZ276 hown276 (hwi hw 280 rfl) hwS e276 hS276 hk276 hEL C276.1 (g := (mkF m 9 #[.val (.ref o)] [(.ref a276), (.ref a275), (.ref a274), (.ref a273), (.ref o)])) rfl (hb hby d42_9) (n := 20) (by decide +kernel) (by decide) (by decide) (by decide)
  have EO_e277 := EO_e276.ext E277
  have F0_e277 := F0_e276.ext E277
  have F1_e277 := F1_e276.ext E277
  have F2_e277 := F2_e276.ext E277
  have F3_e277 := F3_e276.ext E277
  have F4_e277 := F4_e276.ext E277
  have F5_e277 := F5_e276.ext E277
  have F6_e277 := F6_e276.ext E277
  have F7_e277 := F7_e276.ext E277
  have F8_e277 := F8_e276.ext E277
  have O277 := O276.ext E277
  have K277 := K276.ext E277
  have Z277 : n0 ≤ h277.size := Nat.le_trans Z276 E277.1
  have CR277 := CR276.trans C277
  have SC273_x277 := SC273_x276.ext E277
  have SC274_x277 := SC274_x276.ext E277
  obtain ⟨_, _, ⟨T278, L278, k278, n278⟩, -, X278, hS2278, hg278, ⟨Lc278, hQ278, l278, y278, z278, C278⟩, st278⟩ := X277.specialBackS hx (y := (⟨"com/example/rigorous_lock/rigorouslock/io/SqlDialect", "<init>", "(Ljava/lang/String;Ljava/lang/String;Ljava/lang/String;Ljava/lang/String;Ljava/lang/String;)V"⟩ : MethodName)) rfl hown277 (mvT hZ277 (hwi hw 281 rfl)) (mvT hZ277 (hwi hw 86 rfl)) (mvT hZ277 (hwi hw 88 rfl)) (by decide) (backOfSH (s := s) (vm0 := T277.vm) (EL := EL1) (W := 0) (rmSD1 l Z a0 hw [] o a273 a274 a275 a276 a277 sc_PostgresDialect_3 sc_PostgresDialect_5 h277 n0 Z277 O277 SK hEL EO_e277 F0_e277 F1_e277 F2_e277 F3_e277 F4_e277 F5_e277 F6_e277 F7_e277 F8_e277 g_o SC273_x277 SC274_x277) hZ277 (hwi hw 88 rfl) (hwi hw 33 rfl) (by decide) (by decide) hEL C277.1) (g := (mkF m 11 #[.val (.ref o)] [(.ref a277), (.ref a276), (.ref a275), (.ref a274), (.ref a273), (.ref o)])) rfl (by rw [hml]; rfl) (Steps.refl _) (a := o) (argsL := [(.ref a273), (.ref a274), (.ref a275), (.ref a276), (.ref a277)]) (rest := []) (lenOf pd_14 rfl) rfl (by show 2 * 0 + _ ≤ _; exact Nat.le_of_eq rfl) (hb hby d42_11) (fun _ _ => ⟨rfl, e277, (by decide : 10 + 51 ≤ _), (by decide : 1320 + 12608 ≤ _)⟩)
  dsimp only [Pt.U, Pt.locs, Pt.cells, Pt.slots] at X278 l278 y278 z278 st278 hQ278 hS2278 hg278 C278
  obtain rfl : k278 = 61 := y278; obtain rfl : n278 = 13928 := z278
  obtain ⟨rfl, N278q, K278, S278⟩ := hQ278
  have N278 : Fr n0 L278 := by rw [l278]; exact Fr.app N0 N278q
  have CR278 := CR277.trans C278
  have hS278 := foldS hS277 (by rw [e277]; exact hk277) hS2278 hg278
  have hZ278 : Z.Warmed39 (s.setVm T278.vm).vm := State.Warmed39.trans hZ277 hS2278.1
  have hown278 : (s.setVm T278.vm).vm.findClass "com/example/rigorous_lock/rigorouslock/io/PostgresDialect" = some m.cls := by rw [show (s.setVm T278.vm).vm = T278.vm from rfl, hS2278.1.alike.findClass]; exact hown277
  obtain ⟨EO278, F8278, x1278, x2278, x3278, w1278, w3278, F0278, S1278, F1278, S2278, F2278, S3278⟩ := S278
  have KK278 := K277.trans K278 (fun x r => by cases List.mem_singleton.mp r; exact (Or.inl (List.mem_of_getElem? (i := 0) rfl)))
  have Z278 : n0 ≤ T278.heap.size := Nat.le_trans Z277 K278.1
  have O278 := O277.keep K278 (all1 g_o)
  obtain ⟨T279, b279, X279, B279, F279, ho279, st279⟩ := cNEW X278 hx hZ278 hw hown278 (hwi hw 290 rfl) rfl KK278 Z278 O278 CR278 (Nat.le_refl _) (g := (mkF m 15 #[.val (.ref o)] [(.ref o)])) rfl (hb hby d42_15) (by decide)
  obtain ⟨T280, L280, d280, X280, N280, B280, st280⟩ := cSBI X279 hx hZ278 hw hown278 (hwi hw 291 rfl) SK N278 hZ278.alike B279 F279 ho279 (g := (mkF m 19 #[.val (.ref o)] [(.ref b279), (.ref b279), (.ref o)])) rfl (by rw [hml]; rfl) rfl (W := 2) (by show 2 * 0 + _ ≤ _; exact Nat.le_of_eq rfl) (hb hby d42_19) (by decide)
  obtain ⟨T281, X281, e281, st281⟩ := getF X280 hx hZ278 hown278 (host := "") (Or.inl (hwi hw 292 rfl)) (Via.of (hwi hw 293 rfl)) rfl (F2278.keep B280.1.2.2.2.2.1 List.not_mem_nil) (g := (mkF m 23 #[.val (.ref o)] [(.ref o), (.ref b279), (.ref o)])) rfl rfl (hb hby d42_23)
  obtain ⟨T282, L282, d282, X282, N282, B282, st282⟩ := cAPg X281 hx hZ278 hw hown278 (hwi hw 294 rfl) e281 SK N280 hZ278.alike B280 (S3278.keep B280.1.2.2.2.2.1) (cap' := 141) (cnt' := 141) (by decide) (g := (mkF m 26 #[.val (.ref o)] [(.ref x3278), (.ref b279), (.ref o)])) rfl (by rw [hml]; rfl) rfl (W := 1) (by show 2 * 0 + _ ≤ _; exact Nat.le_of_eq rfl) (hb hby d42_26) (by decide)
  obtain ⟨a283, T283, h283, k283, v283, kk283, X283, e283, E283, hS283, hk283, hZ283, hown283, Ex283, Fc283, Fv283, Av283, -, -, C283, -, -, st283⟩ := ldcCH (s := s) (vm0 := T278.vm) (EL := EL1) X282 hx hZ278 hown278 (hwi hw 295 rfl) hwS rfl hS278 B282.1.2.2.2.2.2 hEL (List.mem_of_getElem? (i := 15) rfl) B282.1.2.2.2.1.1 (vs := Lsc_PostgresDialect_32) (z := (122 : Int32)) (by decide +kernel) (by decide) (by decide +kernel) (g := (mkF m 29 #[.val (.ref o)] [(.ref b279), (.ref o)])) rfl (hb hby d42_29) (n := 488) (by decide +kernel) (by decide) (by decide) (by decide)
  have SC283 : StrF Z h283 a283 122 sc_PostgresDialect_32 := ⟨⟨Ex283, v283, Fv283, Fc283, afOf Av283 rfl⟩, ft_sc_PostgresDialect_32 _⟩
  have B283 := B282.ldc E283 C283 hk283
  obtain ⟨T284, L284, d284, X284, N284, B284, st284⟩ := cAPg X283 hx hZ283 hw hown283 (hwi hw 294 rfl) e283 SK N282 hZ283.alike B283 SC283 (cap' := 284) (cnt' := 263) (by decide) (g := (mkF m 31 #[.val (.ref o)] [(.ref a283), (.ref b279), (.ref o)])) rfl (by rw [hml]; rfl) rfl (W := 1) (by show 2 * 0 + _ ≤ _; exact Nat.le_of_eq rfl) (hb hby d42_31) (by decide)
  obtain ⟨a285, T285, h285, k285, v285, kk285, X285, e285, E285, hS285, hk285, hZ285, hown285, Ex285, Fc285, Fv285, Av285, -, -, C285, -, -, st285⟩ := ldcCH (s := s) (vm0 := T283.vm) (EL := EL1) X284 hx hZ283 hown283 (hwi hw 296 rfl) hwS rfl hS283 B284.1.2.2.2.2.2 hEL (List.mem_of_getElem? (i := 16) rfl) B284.1.2.2.2.1.1 (vs := Lsc_PostgresDialect_34) (z := (13 : Int32)) (by decide +kernel) (by decide) (by decide +kernel) (g := (mkF m 34 #[.val (.ref o)] [(.ref b279), (.ref o)])) rfl (hb hby d42_34) (n := 52) (by decide +kernel) (by decide) (by decide) (by decide)
  have SC285 : StrF Z h285 a285 13 sc_PostgresDialect_34 := ⟨⟨Ex285, v285, Fv285, Fc285, afOf Av285 rfl⟩, ft_sc_PostgresDialect_34 _⟩
  have B285 := B284.ldc E285 C285 hk285
  obtain ⟨T286, L286, d286, X286, N286, B286, st286⟩ := cAPf X285 hx hZ285 hw hown285 (hwi hw 294 rfl) e285 SK N284 hZ285.alike B285 SC285 (cap' := 284) (cnt' := 276) (by decide) (g := (mkF m 36 #[.val (.ref o)] [(.ref a285), (.ref b279), (.ref o)])) rfl (by rw [hml]; rfl) rfl (W := 1) (by show 2 * 0 + _ ≤ _; exact Nat.le_of_eq rfl) (hb hby d42_36) (by decide)
  obtain ⟨a287, T287, h287, k287, v287, kk287, X287, e287, E287, hS287, hk287, hZ287, hown287, Ex287, Fc287, Fv287, Av287, -, -, C287, -, -, st287⟩ := ldcCH (s := s) (vm0 := T285.vm) (EL := EL1) X286 hx hZ285 hown285 (hwi hw 297 rfl) hwS rfl hS285 B286.1.2.2.2.2.2 hEL (List.mem_of_getElem? (i := 17) rfl) B286.1.2.2.2.1.1 (vs := Lsc_PostgresDialect_36) (z := (26 : Int32)) (by decide +kernel) (by decide) (by decide +kernel) (g := (mkF m 39 #[.val (.ref o)] [(.ref b279), (.ref o)])) rfl (hb hby d42_39) (n := 104) (by decide +kernel) (by decide) (by decide) (by decide)
  have SC287 : StrF Z h287 a287 26 sc_PostgresDialect_36 := ⟨⟨Ex287, v287, Fv287, Fc287, afOf Av287 rfl⟩, ft_sc_PostgresDialect_36 _⟩
  have B287 := B286.ldc E287 C287 hk287
  obtain ⟨T288, L288, d288, X288, N288, B288, st288⟩ := cAPg X287 hx hZ287 hw hown287 (hwi hw 294 rfl) e287 SK N286 hZ287.alike B287 SC287 (cap' := 570) (cnt' := 302) (by decide) (g := (mkF m 41 #[.val (.ref o)] [(.ref a287), (.ref b279), (.ref o)])) rfl (by rw [hml]; rfl) rfl (W := 1) (by show 2 * 0 + _ ≤ _; exact Nat.le_of_eq rfl) (hb hby d42_41) (by decide)
  obtain ⟨T289, X289, e289, st289⟩ := getF X288 hx hZ287 hown287 (host := "") (Or.inl (hwi hw 298 rfl)) (Via.of (hwi hw 299 rfl)) rfl (F0278.keep B288.1.2.2.2.2.1 List.not_mem_nil) (g := (mkF m 45 #[.val (.ref o)] [(.ref o), (.ref b279), (.ref o)])) rfl rfl (hb hby d42_45)
  obtain ⟨T290, L290, d290, X290, N290, B290, st290⟩ := cAPf X289 hx hZ287 hw hown287 (hwi hw 294 rfl) e289 SK N288 hZ287.alike B288 (S1278.keep B288.1.2.2.2.2.1) (cap' := 570) (cnt' := 350) (by decide) (g := (mkF m 48 #[.val (.ref o)] [(.ref x1278), (.ref b279), (.ref o)])) rfl (by rw [hml]; rfl) rfl (W := 1) (by show 2 * 0 + _ ≤ _; exact Nat.le_of_eq rfl) (hb hby d42_48) (by decide)
  obtain ⟨a291, T291, h291, k291, v291, kk291, X291, e291, E291, hS291, hk291, hZ291, hown291, Ex291, Fc291, Fv291, Av291, -, -, C291, -, -, st291⟩ := ldcCH (s := s) (vm0 := T287.vm) (EL := EL1) X290 hx hZ287 hown287 (hwi hw 300 rfl) hwS rfl hS287 B290.1.2.2.2.2.2 hEL (List.mem_of_getElem? (i := 18) rfl) B290.1.2.2.2.1.1 (vs := Lsc_PostgresDialect_41) (z := (37 : Int32)) (by decide +kernel) (by decide) (by decide +kernel) (g := (mkF m 51 #[.val (.ref o)] [(.ref b279), (.ref o)])) rfl (hb hby d42_51) (n := 148) (by decide +kernel) (by decide) (by decide) (by decide)
  have SC291 : StrF Z h291 a291 37 sc_PostgresDialect_41 := ⟨⟨Ex291, v291, Fv291, Fc291, afOf Av291 rfl⟩, ft_sc_PostgresDialect_41 _⟩
  have B291 := B290.ldc E291 C291 hk291
  obtain ⟨T292, L292, d292, X292, N292, B292, st292⟩ := cAPf X291 hx hZ291 hw hown291 (hwi hw 294 rfl) e291 SK N290 hZ291.alike B291 SC291 (cap' := 570) (cnt' := 387) (by decide) (g := (mkF m 53 #[.val (.ref o)] [(.ref a291), (.ref b279), (.ref o)])) rfl (by rw [hml]; rfl) rfl (W := 1) (by show 2 * 0 + _ ≤ _; exact Nat.le_of_eq rfl) (hb hby d42_53) (by decide)
  obtain ⟨T293, L293, o293, X293, N293, B293, S293, st293⟩ := cTS X292 hx hZ291 hw hown291 (hwi hw 301 rfl) rfl SK N292 B292 (by decide) (g := (mkF m 56 #[.val (.ref o)] [(.ref b279), (.ref o)])) rfl (by rw [hml]; rfl) rfl (W := 1) (by show 2 * 0 + _ ≤ _; exact Nat.le_of_eq rfl) (hb hby d42_56) (by decide)
  obtain ⟨K293, Z293, O293, CR293, KB293, hk293⟩ := B293
  have S1278_x293 := S1278.keep KB293
  have S2278_x293 := S2278.keep KB293
  have S3278_x293 := S3278.keep KB293
  have EO278_x293 := EO278.keep KB293
  have F0278_x293 := F0278.keep KB293 List.not_mem_nil
  have F1278_x293 := F1278.keep KB293 List.not_mem_nil
  have F2278_x293 := F2278.keep KB293 List.not_mem_nil
  have F8278_x293 := F8278.keep KB293 List.not_mem_nil
  obtain ⟨wt293, SG293⟩ : ∃ w, StrF Z T293.heap o293 387 w := ⟨_, S293⟩
  obtain ⟨T294, h294, X294, e294, W294, st294⟩ := putF X293 hx hZ291 hown291 (host := "") (Or.inl (hwi hw 302 rfl)) Via.refl rfl F8278_x293 EO278_x293 (Or.inr ⟨(hwi hw 303 rfl), rfl, hnm⟩) (hwi hw 271 rfl) (ty := (.object "java/lang/String")) (by decide) rfl rfl (g := (mkF m 59 #[.val (.ref o)] [(.ref o293), (.ref o)])) rfl rfl (hb hby d42_59)
  have Fw294 := F8278_x293.same W294
  have EO278_x293_e294 := EO278_x293.wr W294
  have F0278_x293_e294 := F0278_x293.other W294 (Or.inr (slot_ne (Or.inr (hwi hw 282 rfl)) (Or.inr (hwi hw 303 rfl)) (by decide) (t := (.object "java/lang/String")) (t' := (.object "java/lang/String")) (by decide) (by decide)))
  have F1278_x293_e294 := F1278_x293.other W294 (Or.inr (slot_ne (Or.inr (hwi hw 283 rfl)) (Or.inr (hwi hw 303 rfl)) (by decide) (t := (.object "java/lang/String")) (t' := (.object "java/lang/String")) (by decide) (by decide)))
  have F2278_x293_e294 := F2278_x293.other W294 (Or.inr (slot_ne (Or.inr (hwi hw 284 rfl)) (Or.inr (hwi hw 303 rfl)) (by decide) (t := (.object "java/lang/String")) (t' := (.object "java/lang/String")) (by decide) (by decide)))
  have N294 := Fr.snoc X294 N293 g_o
  have K294 := K293.wr W294 (Or.inl (List.mem_of_getElem? (i := 0) rfl))
  have Z294 : n0 ≤ h294.size := Nat.le_trans Z293 (Keep.of_wr W294).1
  have hk294 := Nat.le_trans hk293 (Keep.of_wr W294).1
  have O294 := O293.wr W294 g_o
  have CR294 := CR293.trans (CHr.wr W294 (Safe.exa hZ291.alike EO278_x293 (by decide) (by decide)) CR293.1)
  have SF294_o := Safe.wr W294 (Safe.exa hZ291.alike EO278_x293 (by decide) (by decide)) CR293.1 (Safe.exa hZ291.alike EO278_x293 (by decide) (by decide))
  have CH294 := CHv.wr W294 (Safe.exa hZ291.alike EO278_x293 (by decide) (by decide)) CR293.1
  have S1278_x294 := S1278_x293.wrO EO278_x293 (by decide) (hwi hw 271 rfl) W294
  have S2278_x294 := S2278_x293.wrO EO278_x293 (by decide) (hwi hw 271 rfl) W294
  have S3278_x294 := S3278_x293.wrO EO278_x293 (by decide) (hwi hw 271 rfl) W294
  have SG293_x294 := SG293.wrO EO278_x293 (by decide) (hwi hw 271 rfl) W294
  obtain ⟨fs, hr, hrun, hended, -, hWW, hBB, hSS⟩ := Stand.leaveW (s := s) (vm₁ := T291.vm) X294 hS291 (by rw [e294]; exact hk294) (v := none) (fun _ => rfl)
  refine ⟨_, _, pre0 _ ?_, hrun, hended, _, _, rfl, ?_, ?_, ⟨_, rfl⟩, hWW, hBB, hSS.mono (by decide) (by decide)⟩
  · show Steps p.tables e below (s₁.setTop (mkF m 0 #[.val (.ref o)] [])) _
    refine XS.aloadN X0.here hx rfl (hb hby d42_0) rfl rfl ?_
    show Steps p.tables e below (s₁.setTop (mkF m 1 #[.val (.ref o)] [(.ref o)])) _
    refine st273 _ ?_
    show Steps p.tables e below (T273.setTop (mkF m 3 #[.val (.ref o)] [(.ref a273), (.ref o)])) _
    refine st274 _ ?_
    show Steps p.tables e below (T274.setTop (mkF m 5 #[.val (.ref o)] [(.ref a274), (.ref a273), (.ref o)])) _
    refine st275 _ ?_
    show Steps p.tables e below (T275.setTop (mkF m 7 #[.val (.ref o)] [(.ref a275), (.ref a274), (.ref a273), (.ref o)])) _
    refine st276 _ ?_
    show Steps p.tables e below (T276.setTop (mkF m 9 #[.val (.ref o)] [(.ref a276), (.ref a275), (.ref a274), (.ref a273), (.ref o)])) _
    refine st277 _ ?_
    show Steps p.tables e below (T277.setTop (mkF m 11 #[.val (.ref o)] [(.ref a277), (.ref a276), (.ref a275), (.ref a274), (.ref a273), (.ref o)])) _
    refine st278.trans ?_
    refine XS.aloadN X278.here hx rfl (hb hby d42_14) rfl rfl ?_
    show Steps p.tables e below (T278.setTop (mkF m 15 #[.val (.ref o)] [(.ref o)])) _
    refine st279 _ ?_
    refine XS.dup X279.here hx rfl (hb hby d42_18) rfl rfl ?_
    show Steps p.tables e below (T279.setTop (mkF m 19 #[.val (.ref o)] [(.ref b279), (.ref b279), (.ref o)])) _
    refine st280 _ ?_
    refine XS.aloadN X280.here hx rfl (hb hby d42_22) rfl rfl ?_
    show Steps p.tables e below (T280.setTop (mkF m 23 #[.val (.ref o)] [(.ref o), (.ref b279), (.ref o)])) _
    refine st281 _ ?_
    show Steps p.tables e below (T281.setTop (mkF m 26 #[.val (.ref o)] [(.ref x3278), (.ref b279), (.ref o)])) _
    refine st282 _ ?_
    show Steps p.tables e below (T282.setTop (mkF m 29 #[.val (.ref o)] [(.ref b279), (.ref o)])) _
    refine st283 _ ?_
    show Steps p.tables e below (T283.setTop (mkF m 31 #[.val (.ref o)] [(.ref a283), (.ref b279), (.ref o)])) _
    refine st284 _ ?_
    show Steps p.tables e below (T284.setTop (mkF m 34 #[.val (.ref o)] [(.ref b279), (.ref o)])) _
    refine st285 _ ?_
    show Steps p.tables e below (T285.setTop (mkF m 36 #[.val (.ref o)] [(.ref a285), (.ref b279), (.ref o)])) _
    refine st286 _ ?_
    show Steps p.tables e below (T286.setTop (mkF m 39 #[.val (.ref o)] [(.ref b279), (.ref o)])) _
    refine st287 _ ?_
    show Steps p.tables e below (T287.setTop (mkF m 41 #[.val (.ref o)] [(.ref a287), (.ref b279), (.ref o)])) _
    refine st288 _ ?_
    refine XS.aloadN X288.here hx rfl (hb hby d42_44) rfl rfl ?_
    show Steps p.tables e below (T288.setTop (mkF m 45 #[.val (.ref o)] [(.ref o), (.ref b279), (.ref o)])) _
    refine st289 _ ?_
    show Steps p.tables e below (T289.setTop (mkF m 48 #[.val (.ref o)] [(.ref x1278), (.ref b279), (.ref o)])) _
    refine st290 _ ?_
    show Steps p.tables e below (T290.setTop (mkF m 51 #[.val (.ref o)] [(.ref b279), (.ref o)])) _
    refine st291 _ ?_
    show Steps p.tables e below (T291.setTop (mkF m 53 #[.val (.ref o)] [(.ref a291), (.ref b279), (.ref o)])) _
    refine st292 _ ?_
    show Steps p.tables e below (T292.setTop (mkF m 56 #[.val (.ref o)] [(.ref b279), (.ref o)])) _
    refine st293 _ ?_
    show Steps p.tables e below (T293.setTop (mkF m 59 #[.val (.ref o)] [(.ref o293), (.ref o)])) _
    refine st294 _ ?_
    show Steps p.tables e below (T294.setTop (mkF m 62 #[.val (.ref o)] [])) _
    exact X294.returnOut hx Bd.returns (hb hby d42_62) hr
  · show QMD Z "com/example/rigorous_lock/rigorouslock/io/PostgresDialect" o 52 (fC 24 (fC 21 (fC 0 z0 sc_PostgresDialect_3) sc_SqlDialect_26) sc_PostgresDialect_5) h0 n0 _ T294.heap _
    exact ⟨rfl, N294, by rw [e294]; exact K294, by rw [e294]; exact EO278_x293_e294, x2278, by rw [e294]; exact F1278_x293_e294, by rw [e294]; exact S2278_x294⟩
  · show CHr Z EL1 s.vm s.heap T294.vm T294.heap
    have q := CR294.trans (CHv.at (s := s) (vm0 := T291.vm) X294 hZ291 hEL CH294)
    rw [hh, e294]
    exact q
def gl (l : List Int32) : Nat → Int32 := fun j => l.getD j 0
theorem updS {F : Nat → Value} {l : List Int32} {i : Nat} {v : Value} (P : ∀ j, j < i → F j = Ca (gl l) j) (hv : v = .int (gl l i)) : ∀ j, j < i + 1 → upd F i v j = Ca (gl l) j := fun j hj => by
  unfold upd
  by_cases q : j = i
  · rw [if_pos q, hv, q]; rfl
  · rw [if_neg q]; exact P j (by omega)
theorem upd0 {F : Nat → Value} {l : List Int32} : ∀ j, j < 0 → F j = Ca (gl l) j := fun j hj => absurd hj (Nat.not_lt_zero _)
def nl0 : List Int32 := [77, 97, 114, 105, 97, 68, 66]
def nq0 : Nat → Int32 := fun j => b8 (gl nl0 j)
def nl1 : List Int32 := [77, 121, 83, 81, 76]
def nq1 : Nat → Int32 := fun j => b8 (gl nl1 j)
def nl2 : List Int32 := [80, 111, 115, 116, 103, 114, 101, 83, 81, 76]
def nq2 : Nat → Int32 := fun j => b8 (gl nl2 j)
theorem d7_0 : decode prog_6_method_2_code 0 = .ok (.aload_n 0, 1) := by decide +kernel
theorem d7_1 : decode prog_6_method_2_code 1 = .ok (.astore_n 1, 1) := by decide +kernel
theorem d7_2 : decode prog_6_method_2_code 2 = .ok (.iconst (-1), 1) := by decide +kernel
theorem d7_3 : decode prog_6_method_2_code 3 = .ok (.istore_n 2, 1) := by decide +kernel
theorem d7_4 : decode prog_6_method_2_code 4 = .ok (.aload_n 1, 1) := by decide +kernel
theorem d7_5 : decode prog_6_method_2_code 5 = .ok (.invokevirtual 59, 3) := by decide +kernel
theorem d7_8 : decode prog_6_method_2_code 8 = .ok (.lookupswitch 75 #[(-1791128108, 36), (-112048300, 64), (74798178, 50)], 36) := by decide +kernel
theorem d7_44 : decode prog_6_method_2_code 44 = .ok (.aload_n 1, 1) := by decide +kernel
theorem d7_45 : decode prog_6_method_2_code 45 = .ok (.ldc 65, 2) := by decide +kernel
theorem d7_47 : decode prog_6_method_2_code 47 = .ok (.invokevirtual 67, 3) := by decide +kernel
theorem d7_50 : decode prog_6_method_2_code 50 = .ok (.ifCond .eq 33, 3) := by decide +kernel
theorem d7_53 : decode prog_6_method_2_code 53 = .ok (.iconst 0, 1) := by decide +kernel
theorem d7_54 : decode prog_6_method_2_code 54 = .ok (.istore_n 2, 1) := by decide +kernel
theorem d7_55 : decode prog_6_method_2_code 55 = .ok (.goto 28, 3) := by decide +kernel
theorem d7_58 : decode prog_6_method_2_code 58 = .ok (.aload_n 1, 1) := by decide +kernel
theorem d7_59 : decode prog_6_method_2_code 59 = .ok (.ldc 71, 2) := by decide +kernel
theorem d7_61 : decode prog_6_method_2_code 61 = .ok (.invokevirtual 67, 3) := by decide +kernel
theorem d7_64 : decode prog_6_method_2_code 64 = .ok (.ifCond .eq 19, 3) := by decide +kernel
theorem d7_67 : decode prog_6_method_2_code 67 = .ok (.iconst 1, 1) := by decide +kernel
theorem d7_68 : decode prog_6_method_2_code 68 = .ok (.istore_n 2, 1) := by decide +kernel
theorem d7_69 : decode prog_6_method_2_code 69 = .ok (.goto 14, 3) := by decide +kernel
theorem d7_72 : decode prog_6_method_2_code 72 = .ok (.aload_n 1, 1) := by decide +kernel
theorem d7_73 : decode prog_6_method_2_code 73 = .ok (.ldc 73, 2) := by decide +kernel
theorem d7_75 : decode prog_6_method_2_code 75 = .ok (.invokevirtual 67, 3) := by decide +kernel
theorem d7_78 : decode prog_6_method_2_code 78 = .ok (.ifCond .eq 5, 3) := by decide +kernel
theorem d7_81 : decode prog_6_method_2_code 81 = .ok (.iconst 2, 1) := by decide +kernel
theorem d7_82 : decode prog_6_method_2_code 82 = .ok (.istore_n 2, 1) := by decide +kernel
theorem d7_83 : decode prog_6_method_2_code 83 = .ok (.iload_n 2, 1) := by decide +kernel
theorem d7_84 : decode prog_6_method_2_code 84 = .ok (.tableswitch 48 0 2 #[28, 28, 38], 28) := by decide +kernel
theorem d7_112 : decode prog_6_method_2_code 112 = .ok (.new 75, 3) := by decide +kernel
theorem d7_115 : decode prog_6_method_2_code 115 = .ok (.dup, 1) := by decide +kernel
theorem d7_116 : decode prog_6_method_2_code 116 = .ok (.invokespecial 77, 3) := by decide +kernel
theorem d7_119 : decode prog_6_method_2_code 119 = .ok (.goto 40, 3) := by decide +kernel
theorem d7_122 : decode prog_6_method_2_code 122 = .ok (.new 78, 3) := by decide +kernel
theorem d7_125 : decode prog_6_method_2_code 125 = .ok (.dup, 1) := by decide +kernel
theorem d7_126 : decode prog_6_method_2_code 126 = .ok (.invokespecial 80, 3) := by decide +kernel
theorem d7_129 : decode prog_6_method_2_code 129 = .ok (.goto 30, 3) := by decide +kernel
theorem d7_159 : decode prog_6_method_2_code 159 = .ok (.areturn, 1) := by decide +kernel
theorem pn_7 : plainName "com/example/rigorous_lock/rigorouslock/io/SqlDialect" = true := by first | (simp [plainName, overriddenIn]; done) | decide +kernel
theorem ef_7 (m : MethodId) (x0 : Addr) : entryFrame m #[(.ref x0)] 3 = mkF m 0 #[.val (.ref x0), .unset, .unset] [] := by first | (simp [entryFrame, mkF, argsToLocals, Value.category]; done) | rfl
def Lsc_SqlDialect_65 : List Value := [(.int (77 : Int32)), (.int (97 : Int32)), (.int (114 : Int32)), (.int (105 : Int32)), (.int (97 : Int32)), (.int (68 : Int32)), (.int (66 : Int32))]
def sc_SqlDialect_65 : Nat → Value := fun j => Lsc_SqlDialect_65.getD j (.int (0 : Int32))
theorem ft_sc_SqlDialect_65 (n : Nat) : ∀ j, j < n → fits .byte (sc_SqlDialect_65 j) = true := fitsL (by decide +kernel) n
set_option maxRecDepth 65536 in
set_option maxHeartbeats 40000000 in
theorem rmOF0 (l : Launch) (Z : State) (a0 : Array Value) (hw : ∀ d ∈ tables_1, d.before a0 Z = true) (ws : List Jvm.Cond) (o : Addr)  (h0 : Heap) (n0 : Nat) (Z0 : n0 ≤ h0.size) (O : Old Z n0 h0) (SK : StrSta Z) (hEL : EW Z a0 EL1) (g_o : n0 ≤ o) (S0 : StrX Z h0 o 7 (fun j => Value.int (nq0 j))) (FH : Fld Z h0 o "java/lang/String" "hash" "I" (.int (0 : Int32))) (FZ : Fld Z h0 o "java/lang/String" "hashIsZero" "Z" (.int (0 : Int32)))  :
    MetFree l (⟨"com/example/rigorous_lock/rigorouslock/io/SqlDialect", "of", "(Ljava/lang/String;)Lcom/example/rigorous_lock/rigorouslock/io/SqlDialect;"⟩ : MethodName) (head1 (Jvm.Cond.code (⟨"com/example/rigorous_lock/rigorouslock/io/SqlDialect", "of", "(Ljava/lang/String;)Lcom/example/rigorous_lock/rigorouslock/io/SqlDialect;"⟩ : MethodName) prog_6_method_2_code 3 (some (.object "com/example/rigorous_lock/rigorouslock/io/SqlDialect")) :: ws) ({ frames := 8, cells := 81, slots := 17273, locals := 214 } : Room)) (fun aa_ U_ => aa_ = #[(.ref o)] ∧ Z.Warmed39 U_.vm ∧ U_.heap = h0 ∧ CHv Z EL1 U_.vm h0 ∧ Safe Z EL1 U_.vm h0 o) (fun _ _ _ _ _ => True) (fun _ U_ o_ V_ => ∃ v_ L_, o_ = .returned v_ ∧ QOF Z "com/example/rigorous_lock/rigorouslock/io/MariaDbDialect" o 41 (fC 19 (fC 16 (fC 0 z0 sc_MariaDbDialect_5) sc_SqlDialect_26) sc_MariaDbDialect_7) h0 n0 v_ V_.heap L_ ∧ CHr Z EL1 U_.vm U_.heap V_.vm V_.heap ∧ ReturnedEndW U_ o_ V_ L_ ({ frames := 8, cells := 81, slots := 17273, locals := 214 } : Room).cells ({ frames := 8, cells := 81, slots := 17273, locals := 214 } : Room).slots) := by
  refine MetFree.of_bodySF (plainFor_of_name pn_7) hisR ?_
  intro p e s m args below meth c s₁ Bd hml0 hP hK
  obtain ⟨rfl, hZ, hh, CH0, SF0⟩ := hP
  have hx := Bd.exec
  have hby := Bd.bytes
  have hml : c.maxLocals = 3 := hml0
  have hown : s.vm.findClass "com/example/rigorous_lock/rigorouslock/io/SqlDialect" = some m.cls := findClass_of_methodNamed Bd.named
  have hnm := (name_of_methodNamed Bd.named Bd.method).1
  have X0 : Stand p l e ({ frames := 8, cells := 81, slots := 17273, locals := 214 } : Room) s m #[(.ref o)] below meth c s₁ [] 0 0 := Stand.of_body Bd
  have e0 : s₁.heap = h0 := by rw [← hh, Bd.state]; rfl
  have N0 := Fr.nil n0
  have pre0 : ∀ zz, Steps p.tables e below (s₁.setTop (mkF m 0 #[.val (.ref o), .unset, .unset] [])) zz → Steps p.tables e below (s₁.setTop (entryFrame m #[(.ref o)] 3)) zz := fun zz kz_ => castTop (ef_7 m o) kz_
  have hwS : ∀ a ∈ Bundle.stringAtoms, a.before a0 Z = true := fun d hd => hw d (by simpa using (List.all_eq_true.mp (by decide +kernel : (Bundle.stringAtoms.all fun c => tables_1.contains c) = true)) d hd)
  have EO := S0.1
  obtain ⟨cq295, kq295, q295a, q295b, q295c⟩ := isOf hZ e0 EO
  obtain ⟨_, _, ⟨T295, L295, k295, n295⟩, -, X295, ⟨Lc295, hQ295, l295, y295, z295⟩, st295⟩ := X0.virtualBack hx (y := (⟨"java/lang/String", "hashCode", "()I"⟩ : MethodName)) (z := (⟨"java/lang/String", "hashCode", "()I"⟩ : MethodName)) hown (mvT hZ (hwi hw 35 rfl)) (mvT hZ (hwi hw 36 rfl)) (notFace_of_selects (args := #[]) (mvT hZ (hwi hw 38 rfl))) (mvT hZ (hwi hw 38 rfl)) (mvT hZ (hwi hw 37 rfl)) (by decide) (backOf (W := 0) (rmHC0 l Z a0 hw [] o nq0 h0 n0 Z0 O SK g_o (by decide +kernel) S0 FH FZ) hZ (hwi hw 39 rfl) (hwi hw 3 rfl) (by decide) (by decide)) q295a q295c (g := (mkF m 5 #[.val (.ref o), .val (.ref o), .val (.int (-1 : Int32))] [(.ref o)])) rfl (by rw [hml]; rfl) (Steps.refl _) (argsL := []) (rest := []) (lenOf pd_7 rfl) rfl (by show 2 * 0 + _ ≤ _; exact Nat.le_of_eq rfl) (hb hby d7_5) (fun _ _ => ⟨rfl, e0, (by decide : 0 + 0 ≤ _), (by decide : 0 + 0 ≤ _)⟩)
  dsimp only [Pt.U, Pt.locs, Pt.cells, Pt.slots] at X295 l295 y295 z295 st295 hQ295
  obtain rfl : k295 = 0 := y295; obtain rfl : n295 = 0 := z295
  obtain ⟨rfl, N295q, K295, S295⟩ := hQ295
  have N295 : Fr n0 L295 := by rw [l295]; exact Fr.app N0 N295q
  have CR295 := (CHr.refl CH0).trans (CHr.keep K295 (safe1 SF0) CH0)
  have CH295 := CHv.keep K295 (safe1 SF0) CH0
  have EO_e295 := EO.keep K295
  have KK295 := (Keep.refl h0 [o]).trans K295 (fun x r => by cases List.mem_singleton.mp r; exact (Or.inl (List.mem_of_getElem? (i := 0) rfl)))
  have Z295 : n0 ≤ T295.heap.size := Nat.le_trans Z0 K295.1
  have O295 := O.keep K295 (all1 g_o)
  obtain ⟨a296, T296, h296, k296, v296, kk296, X296, e296, E296, hS296, hk296, hZ296, hown296, Ex296, Fc296, Fv296, Av296, -, -, C296, -, -, st296⟩ := ldcCH (s := s) (vm0 := s.vm) (EL := EL1) X295 hx hZ hown (hwi hw 62 rfl) hwS rfl ((State.WarmedH.refl s).since 0) (Nat.zero_le _) hEL (List.mem_of_getElem? (i := 26) rfl) CH295 (vs := Lsc_SqlDialect_65) (z := (7 : Int32)) (by decide +kernel) (by decide) (by decide +kernel) (g := (mkF m 45 #[.val (.ref o), .val (.ref o), .val (.int (-1 : Int32))] [(.ref o)])) rfl (hb hby d7_45) (n := 28) (by decide +kernel) (by decide) (by decide) (by decide)
  have SC296 : StrF Z h296 a296 7 sc_SqlDialect_65 := ⟨⟨Ex296, v296, Fv296, Fc296, afOf Av296 rfl⟩, ft_sc_SqlDialect_65 _⟩
  have EO_e296 := EO_e295.ext E296
  have O296 := O295.ext E296
  have K296 := KK295.ext E296
  have Z296 : n0 ≤ h296.size := Nat.le_trans Z295 E296.1
  have CR296 := CR295.trans C296
  have S295_x296 := S295.ext E296
  obtain ⟨cq297, kq297, q297a, q297b, q297c⟩ := isOf hZ296 e296 EO_e296
  obtain ⟨_, _, ⟨T297, L297, k297, n297⟩, -, X297, ⟨Lc297, hQ297, l297, y297, z297⟩, st297⟩ := X296.virtualBack hx (y := (⟨"java/lang/String", "equals", "(Ljava/lang/Object;)Z"⟩ : MethodName)) (z := (⟨"java/lang/String", "equals", "(Ljava/lang/Object;)Z"⟩ : MethodName)) hown296 (mvT hZ296 (hwi hw 65 rfl)) (mvT hZ296 (hwi hw 66 rfl)) (notFace_of_selects (args := #[]) (mvT hZ296 (hwi hw 68 rfl))) (mvT hZ296 (hwi hw 68 rfl)) (mvT hZ296 (hwi hw 67 rfl)) (by decide) (backOf (W := 0) (rmEQ l Z a0 hw [] o a296 7 nq0 h296 n0 Z296 (by decide) O296 SK S295_x296 (SC296.1.congr (by decide +kernel))) hZ296 (hwi hw 69 rfl) (hwi hw 3 rfl) (by decide) (by decide)) q297a q297c (g := (mkF m 47 #[.val (.ref o), .val (.ref o), .val (.int (-1 : Int32))] [(.ref a296), (.ref o)])) rfl (by rw [hml]; rfl) (Steps.refl _) (argsL := [(.ref a296)]) (rest := []) (lenOf pd_12 rfl) rfl (by show 2 * 0 + _ ≤ _; exact Nat.le_of_eq rfl) (hb hby d7_47) (fun _ _ => ⟨rfl, e296, (by decide : 2 + 0 ≤ _), (by decide : 32 + 0 ≤ _)⟩)
  dsimp only [Pt.U, Pt.locs, Pt.cells, Pt.slots] at X297 l297 y297 z297 st297 hQ297
  obtain rfl : k297 = 2 := y297; obtain rfl : n297 = 32 := z297
  obtain ⟨rfl, N297q, e297⟩ := hQ297
  have N297 : Fr n0 L297 := by rw [l297]; exact Fr.app N295 N297q
  obtain ⟨T298, h298, X298, e298, E298, A298, D298, -, st298⟩ := newO X297 hx hZ296 hown296 (hwi hw 74 rfl) (hwi hw 75 rfl) (hwi hw 76 rfl) e297 (g := (mkF m 112 #[.val (.ref o), .val (.ref o), .val (.int (0 : Int32))] [])) rfl (hb hby d7_112) (by decide) (by decide)
  obtain ⟨b298, g298⟩ : ∃ z, z = h296.size := ⟨_, rfl⟩
  rw [← g298] at A298 D298 st298
  have ne_o_b298 : o ≠ b298 := Nat.ne_of_lt (Nat.lt_of_lt_of_le EO_e296.lt (Nat.le_of_eq g298.symm))
  have EO_e298 := EO_e296.ext E298
  have E_b298 := A298
  have g_b298 : n0 ≤ b298 := Nat.le_trans Z296 (Nat.le_of_eq g298.symm)
  have sz_b298 : h0.size ≤ b298 := Nat.le_trans K296.1 (Nat.le_of_eq g298.symm)
  have K298 := K296.ext E298
  have Z298 : n0 ≤ h298.size := Nat.le_trans Z296 E298.1
  have F_held_b298 : Fld Z h298 b298 "com/example/rigorous_lock/rigorouslock/io/SqlDialect" "held" "Ljava/lang/String;" .null := D298 (Or.inr (hwi hw 218 rfl)) (ty := (.object "java/lang/String")) (by decide)
  have F_leaseEnd_b298 : Fld Z h298 b298 "com/example/rigorous_lock/rigorouslock/io/SqlDialect" "leaseEnd" "Ljava/lang/String;" .null := D298 (Or.inr (hwi hw 221 rfl)) (ty := (.object "java/lang/String")) (by decide)
  have F_insertNewRow_b298 : Fld Z h298 b298 "com/example/rigorous_lock/rigorouslock/io/SqlDialect" "insertNewRow" "Ljava/lang/String;" .null := D298 (Or.inr (hwi hw 225 rfl)) (ty := (.object "java/lang/String")) (by decide)
  have F_createTable_b298 : Fld Z h298 b298 "com/example/rigorous_lock/rigorouslock/io/SqlDialect" "createTable" "Ljava/lang/String;" .null := D298 (Or.inr (hwi hw 227 rfl)) (ty := (.object "java/lang/String")) (by decide)
  have F_timeLeftQuery_b298 : Fld Z h298 b298 "com/example/rigorous_lock/rigorouslock/io/SqlDialect" "timeLeftQuery" "Ljava/lang/String;" .null := D298 (Or.inr (hwi hw 229 rfl)) (ty := (.object "java/lang/String")) (by decide)
  have F_missingTableState_b298 : Fld Z h298 b298 "com/example/rigorous_lock/rigorouslock/io/SqlDialect" "missingTableState" "Ljava/lang/String;" .null := D298 (Or.inr (hwi hw 231 rfl)) (ty := (.object "java/lang/String")) (by decide)
  have F_releaseStatement_b298 : Fld Z h298 b298 "com/example/rigorous_lock/rigorouslock/io/SqlDialect" "releaseStatement" "Ljava/lang/String;" .null := D298 (Or.inr (hwi hw 243 rfl)) (ty := (.object "java/lang/String")) (by decide)
  have F_renewStatement_b298 : Fld Z h298 b298 "com/example/rigorous_lock/rigorouslock/io/SqlDialect" "renewStatement" "Ljava/lang/String;" .null := D298 (Or.inr (hwi hw 246 rfl)) (ty := (.object "java/lang/String")) (by decide)
  have F_takeStatement_b298 : Fld Z h298 b298 "com/example/rigorous_lock/rigorouslock/io/MariaDbDialect" "takeStatement" "Ljava/lang/String;" .null := D298 (Or.inr (hwi hw 263 rfl)) (ty := (.object "java/lang/String")) (by decide)
  have hk298 := Nat.le_trans hk296 E298.1
  have O298 := O296.ext E298
  have CR298 := CR296.trans (CHr.ext E298 C296.1)
  have CH298 := CHv.ext E298 C296.1
  obtain ⟨_, _, ⟨T299, L299, k299, n299⟩, -, X299, hS2299, hg299, ⟨Lc299, hQ299, l299, y299, z299, C299⟩, st299⟩ := X298.specialBackS hx (y := (⟨"com/example/rigorous_lock/rigorouslock/io/MariaDbDialect", "<init>", "()V"⟩ : MethodName)) rfl hown296 (mvT hZ296 (hwi hw 77 rfl)) (mvT hZ296 (hwi hw 78 rfl)) (mvT hZ296 (hwi hw 79 rfl)) (by decide) (backOfSH (s := s) (vm0 := T296.vm) (EL := EL1) (W := 1) (rmMD0 l Z a0 hw [] b298 h298 n0 Z298 O298 SK hEL E_b298 F_held_b298 F_leaseEnd_b298 F_insertNewRow_b298 F_createTable_b298 F_timeLeftQuery_b298 F_missingTableState_b298 F_releaseStatement_b298 F_renewStatement_b298 F_takeStatement_b298 g_b298) hZ296 (hwi hw 79 rfl) (hwi hw 76 rfl) (by decide) (by decide) hEL CH298) (g := (mkF m 116 #[.val (.ref o), .val (.ref o), .val (.int (0 : Int32))] [(.ref b298), (.ref b298)])) rfl (by rw [hml]; rfl) (Steps.refl _) (a := b298) (argsL := []) (rest := [(.ref b298)]) (lenOf pd_2 rfl) rfl (by show 2 * 0 + _ ≤ _; exact Nat.le_of_eq rfl) (hb hby d7_116) (fun _ _ => ⟨rfl, e298, (by decide : 3 + 78 ≤ _), (by decide : 41 + 17232 ≤ _)⟩)
  dsimp only [Pt.U, Pt.locs, Pt.cells, Pt.slots] at X299 l299 y299 z299 st299 hQ299 hS2299 hg299 C299
  obtain rfl : k299 = 81 := y299; obtain rfl : n299 = 17273 := z299
  obtain ⟨rfl, N299q, K299, J299, x299, F299, S299⟩ := hQ299
  have N299 : Fr n0 L299 := by rw [l299]; exact Fr.app N297 N299q
  have CR299 := CR298.trans C299
  have hS299 := foldS hS296 (by rw [e298]; exact hk298) hS2299 hg299
  have hZ299 : Z.Warmed39 (s.setVm T299.vm).vm := State.Warmed39.trans hZ296 hS2299.1
  have hown299 : (s.setVm T299.vm).vm.findClass "com/example/rigorous_lock/rigorouslock/io/SqlDialect" = some m.cls := by rw [show (s.setVm T299.vm).vm = T299.vm from rfl, hS2299.1.alike.findClass]; exact hown296
  have KK299 := K298.trans K299 (fun x r => by cases List.mem_singleton.mp r; exact (Or.inr sz_b298))
  have Z299 : n0 ≤ T299.heap.size := Nat.le_trans Z298 K299.1
  have O299 := O298.keep K299 (all1 g_b298)
  obtain ⟨fs, hr, hrun, hended, -, hWW, hBB, hSS⟩ := Stand.leaveW (s := s) (vm₁ := T299.vm) X299 hS299 (by exact (Nat.le_refl _)) (v := some (.ref b298)) (fun h => by rw [Bd.returns] at h; cases h)
  refine ⟨_, _, pre0 _ ?_, hrun, hended, _, _, rfl, ?_, ?_, ⟨_, rfl⟩, hWW, hBB, hSS.mono (by decide) (by decide)⟩
  · show Steps p.tables e below (s₁.setTop (mkF m 0 #[.val (.ref o), .unset, .unset] [])) _
    refine XS.aloadN X0.here hx rfl (hb hby d7_0) rfl rfl ?_
    refine XS.astoreN X0.here hx rfl (hb hby d7_1) rfl rfl (l' := #[.val (.ref o), .val (.ref o), .unset]) rfl ?_
    refine XS.iconst X0.here hx rfl (hb hby d7_2) ?_
    refine XS.istoreN X0.here hx rfl (hb hby d7_3) rfl (l' := #[.val (.ref o), .val (.ref o), .val (.int (-1 : Int32))]) rfl ?_
    refine XS.aloadN X0.here hx rfl (hb hby d7_4) rfl rfl ?_
    show Steps p.tables e below (s₁.setTop (mkF m 5 #[.val (.ref o), .val (.ref o), .val (.int (-1 : Int32))] [(.ref o)])) _
    refine st295.trans ?_
    refine Jvm.Stand.lookupswitchHit X295 hx (g := (mkF m 8 #[.val (.ref o), .val (.ref o), .val (.int (-1 : Int32))] [(.int (-1791128108 : Int32))])) rfl rfl (hb hby d7_8) (by decide) (a := (-1791128108)) (off := 36) (by decide) (by show (0 : Int) ≤ ((8 : Nat) : Int) + 36; decide) _ ?_
    show Steps p.tables e below (T295.setTop (mkF m 44 #[.val (.ref o), .val (.ref o), .val (.int (-1 : Int32))] [])) _
    refine XS.aloadN X295.here hx rfl (hb hby d7_44) rfl rfl ?_
    show Steps p.tables e below (T295.setTop (mkF m 45 #[.val (.ref o), .val (.ref o), .val (.int (-1 : Int32))] [(.ref o)])) _
    refine st296 _ ?_
    show Steps p.tables e below (T296.setTop (mkF m 47 #[.val (.ref o), .val (.ref o), .val (.int (-1 : Int32))] [(.ref a296), (.ref o)])) _
    refine st297.trans ?_
    refine XS.ifNo X297.here hx rfl (hb hby d7_50) rfl ((if0 _ _).trans (feq (by decide : ¬ ((1 : Int32) = (0 : Int32)))).1) ?_
    refine XS.iconst X297.here hx rfl (hb hby d7_53) ?_
    refine XS.istoreN X297.here hx rfl (hb hby d7_54) rfl (l' := #[.val (.ref o), .val (.ref o), .val (.int (0 : Int32))]) rfl ?_
    refine XS.goto X297.here hx rfl (pc0 := 55) (pc' := 83) rfl (hb hby d7_55) (by decide) (by decide) ?_
    refine XS.iloadN X297.here hx rfl (hb hby d7_83) rfl ?_
    show Steps p.tables e below (T297.setTop (mkF m 84 #[.val (.ref o), .val (.ref o), .val (.int (0 : Int32))] [(.int (0 : Int32))])) _
    refine XS.tswIn X297.here hx rfl (pc0 := 84) (pc' := 112) rfl (hb hby d7_84) rfl (by decide) (o := 28) (by decide) (by decide) (by decide) ?_
    show Steps p.tables e below (T297.setTop (mkF m 112 #[.val (.ref o), .val (.ref o), .val (.int (0 : Int32))] [])) _
    show Steps p.tables e below (T297.setTop (mkF m 112 #[.val (.ref o), .val (.ref o), .val (.int (0 : Int32))] [])) _
    refine st298 _ ?_
    refine XS.dup X298.here hx rfl (hb hby d7_115) rfl rfl ?_
    show Steps p.tables e below (T298.setTop (mkF m 116 #[.val (.ref o), .val (.ref o), .val (.int (0 : Int32))] [(.ref b298), (.ref b298)])) _
    refine st299.trans ?_
    refine XS.goto X299.here hx rfl (pc0 := 119) (pc' := 159) rfl (hb hby d7_119) (by decide) (by decide) ?_
    show Steps p.tables e below (T299.setTop (mkF m 159 #[.val (.ref o), .val (.ref o), .val (.int (0 : Int32))] [(.ref b298)])) _
    jvm_step X299.here [X299.here.top, hx, (hb hby d7_159), X299.method', Bd.returns, Value.isRef, FieldType.isReference]
    first | (intro acts; rw [hr _ acts rfl rfl rfl]) | rw [hr _ _ rfl rfl rfl]
    exact Steps.refl _
  · show QOF Z "com/example/rigorous_lock/rigorouslock/io/MariaDbDialect" o 41 (fC 19 (fC 16 (fC 0 z0 sc_MariaDbDialect_5) sc_SqlDialect_26) sc_MariaDbDialect_7) h0 n0 _ T299.heap _
    exact ⟨b298, rfl, N299, KK299, J299, x299, F299, S299⟩
  · show CHr Z EL1 s.vm s.heap T299.vm T299.heap
    have q := CR299.trans (CHv.at (s := s) (vm0 := T299.vm) X299 hZ299 hEL C299.1)
    rw [hh]
    exact q
def Lsc_SqlDialect_71 : List Value := [(.int (77 : Int32)), (.int (121 : Int32)), (.int (83 : Int32)), (.int (81 : Int32)), (.int (76 : Int32))]
def sc_SqlDialect_71 : Nat → Value := fun j => Lsc_SqlDialect_71.getD j (.int (0 : Int32))
theorem ft_sc_SqlDialect_71 (n : Nat) : ∀ j, j < n → fits .byte (sc_SqlDialect_71 j) = true := fitsL (by decide +kernel) n
set_option maxRecDepth 65536 in
set_option maxHeartbeats 40000000 in
theorem rmOF1 (l : Launch) (Z : State) (a0 : Array Value) (hw : ∀ d ∈ tables_1, d.before a0 Z = true) (ws : List Jvm.Cond) (o : Addr)  (h0 : Heap) (n0 : Nat) (Z0 : n0 ≤ h0.size) (O : Old Z n0 h0) (SK : StrSta Z) (hEL : EW Z a0 EL1) (g_o : n0 ≤ o) (S0 : StrX Z h0 o 5 (fun j => Value.int (nq1 j))) (FH : Fld Z h0 o "java/lang/String" "hash" "I" (.int (0 : Int32))) (FZ : Fld Z h0 o "java/lang/String" "hashIsZero" "Z" (.int (0 : Int32)))  :
    MetFree l (⟨"com/example/rigorous_lock/rigorouslock/io/SqlDialect", "of", "(Ljava/lang/String;)Lcom/example/rigorous_lock/rigorouslock/io/SqlDialect;"⟩ : MethodName) (head1 (Jvm.Cond.code (⟨"com/example/rigorous_lock/rigorouslock/io/SqlDialect", "of", "(Ljava/lang/String;)Lcom/example/rigorous_lock/rigorouslock/io/SqlDialect;"⟩ : MethodName) prog_6_method_2_code 3 (some (.object "com/example/rigorous_lock/rigorouslock/io/SqlDialect")) :: ws) ({ frames := 8, cells := 81, slots := 17265, locals := 214 } : Room)) (fun aa_ U_ => aa_ = #[(.ref o)] ∧ Z.Warmed39 U_.vm ∧ U_.heap = h0 ∧ CHv Z EL1 U_.vm h0 ∧ Safe Z EL1 U_.vm h0 o) (fun _ _ _ _ _ => True) (fun _ U_ o_ V_ => ∃ v_ L_, o_ = .returned v_ ∧ QOF Z "com/example/rigorous_lock/rigorouslock/io/MariaDbDialect" o 41 (fC 19 (fC 16 (fC 0 z0 sc_MariaDbDialect_5) sc_SqlDialect_26) sc_MariaDbDialect_7) h0 n0 v_ V_.heap L_ ∧ CHr Z EL1 U_.vm U_.heap V_.vm V_.heap ∧ ReturnedEndW U_ o_ V_ L_ ({ frames := 8, cells := 81, slots := 17265, locals := 214 } : Room).cells ({ frames := 8, cells := 81, slots := 17265, locals := 214 } : Room).slots) := by
  refine MetFree.of_bodySF (plainFor_of_name pn_7) hisR ?_
  intro p e s m args below meth c s₁ Bd hml0 hP hK
  obtain ⟨rfl, hZ, hh, CH0, SF0⟩ := hP
  have hx := Bd.exec
  have hby := Bd.bytes
  have hml : c.maxLocals = 3 := hml0
  have hown : s.vm.findClass "com/example/rigorous_lock/rigorouslock/io/SqlDialect" = some m.cls := findClass_of_methodNamed Bd.named
  have hnm := (name_of_methodNamed Bd.named Bd.method).1
  have X0 : Stand p l e ({ frames := 8, cells := 81, slots := 17265, locals := 214 } : Room) s m #[(.ref o)] below meth c s₁ [] 0 0 := Stand.of_body Bd
  have e0 : s₁.heap = h0 := by rw [← hh, Bd.state]; rfl
  have N0 := Fr.nil n0
  have pre0 : ∀ zz, Steps p.tables e below (s₁.setTop (mkF m 0 #[.val (.ref o), .unset, .unset] [])) zz → Steps p.tables e below (s₁.setTop (entryFrame m #[(.ref o)] 3)) zz := fun zz kz_ => castTop (ef_7 m o) kz_
  have hwS : ∀ a ∈ Bundle.stringAtoms, a.before a0 Z = true := fun d hd => hw d (by simpa using (List.all_eq_true.mp (by decide +kernel : (Bundle.stringAtoms.all fun c => tables_1.contains c) = true)) d hd)
  have EO := S0.1
  obtain ⟨cq300, kq300, q300a, q300b, q300c⟩ := isOf hZ e0 EO
  obtain ⟨_, _, ⟨T300, L300, k300, n300⟩, -, X300, ⟨Lc300, hQ300, l300, y300, z300⟩, st300⟩ := X0.virtualBack hx (y := (⟨"java/lang/String", "hashCode", "()I"⟩ : MethodName)) (z := (⟨"java/lang/String", "hashCode", "()I"⟩ : MethodName)) hown (mvT hZ (hwi hw 35 rfl)) (mvT hZ (hwi hw 36 rfl)) (notFace_of_selects (args := #[]) (mvT hZ (hwi hw 38 rfl))) (mvT hZ (hwi hw 38 rfl)) (mvT hZ (hwi hw 37 rfl)) (by decide) (backOf (W := 0) (rmHC1 l Z a0 hw [] o nq1 h0 n0 Z0 O SK g_o (by decide +kernel) S0 FH FZ) hZ (hwi hw 39 rfl) (hwi hw 3 rfl) (by decide) (by decide)) q300a q300c (g := (mkF m 5 #[.val (.ref o), .val (.ref o), .val (.int (-1 : Int32))] [(.ref o)])) rfl (by rw [hml]; rfl) (Steps.refl _) (argsL := []) (rest := []) (lenOf pd_7 rfl) rfl (by show 2 * 0 + _ ≤ _; exact Nat.le_of_eq rfl) (hb hby d7_5) (fun _ _ => ⟨rfl, e0, (by decide : 0 + 0 ≤ _), (by decide : 0 + 0 ≤ _)⟩)
  dsimp only [Pt.U, Pt.locs, Pt.cells, Pt.slots] at X300 l300 y300 z300 st300 hQ300
  obtain rfl : k300 = 0 := y300; obtain rfl : n300 = 0 := z300
  obtain ⟨rfl, N300q, K300, S300⟩ := hQ300
  have N300 : Fr n0 L300 := by rw [l300]; exact Fr.app N0 N300q
  have CR300 := (CHr.refl CH0).trans (CHr.keep K300 (safe1 SF0) CH0)
  have CH300 := CHv.keep K300 (safe1 SF0) CH0
  have EO_e300 := EO.keep K300
  have KK300 := (Keep.refl h0 [o]).trans K300 (fun x r => by cases List.mem_singleton.mp r; exact (Or.inl (List.mem_of_getElem? (i := 0) rfl)))
  have Z300 : n0 ≤ T300.heap.size := Nat.le_trans Z0 K300.1
  have O300 := O.keep K300 (all1 g_o)
  obtain ⟨a301, T301, h301, k301, v301, kk301, X301, e301, E301, hS301, hk301, hZ301, hown301, Ex301, Fc301, Fv301, Av301, -, -, C301, -, -, st301⟩ := ldcCH (s := s) (vm0 := s.vm) (EL := EL1) X300 hx hZ hown (hwi hw 307 rfl) hwS rfl ((State.WarmedH.refl s).since 0) (Nat.zero_le _) hEL (List.mem_of_getElem? (i := 27) rfl) CH300 (vs := Lsc_SqlDialect_71) (z := (5 : Int32)) (by decide +kernel) (by decide) (by decide +kernel) (g := (mkF m 59 #[.val (.ref o), .val (.ref o), .val (.int (-1 : Int32))] [(.ref o)])) rfl (hb hby d7_59) (n := 20) (by decide +kernel) (by decide) (by decide) (by decide)
  have SC301 : StrF Z h301 a301 5 sc_SqlDialect_71 := ⟨⟨Ex301, v301, Fv301, Fc301, afOf Av301 rfl⟩, ft_sc_SqlDialect_71 _⟩
  have EO_e301 := EO_e300.ext E301
  have O301 := O300.ext E301
  have K301 := KK300.ext E301
  have Z301 : n0 ≤ h301.size := Nat.le_trans Z300 E301.1
  have CR301 := CR300.trans C301
  have S300_x301 := S300.ext E301
  obtain ⟨cq302, kq302, q302a, q302b, q302c⟩ := isOf hZ301 e301 EO_e301
  obtain ⟨_, _, ⟨T302, L302, k302, n302⟩, -, X302, ⟨Lc302, hQ302, l302, y302, z302⟩, st302⟩ := X301.virtualBack hx (y := (⟨"java/lang/String", "equals", "(Ljava/lang/Object;)Z"⟩ : MethodName)) (z := (⟨"java/lang/String", "equals", "(Ljava/lang/Object;)Z"⟩ : MethodName)) hown301 (mvT hZ301 (hwi hw 65 rfl)) (mvT hZ301 (hwi hw 66 rfl)) (notFace_of_selects (args := #[]) (mvT hZ301 (hwi hw 68 rfl))) (mvT hZ301 (hwi hw 68 rfl)) (mvT hZ301 (hwi hw 67 rfl)) (by decide) (backOf (W := 0) (rmEQ l Z a0 hw [] o a301 5 nq1 h301 n0 Z301 (by decide) O301 SK S300_x301 (SC301.1.congr (by decide +kernel))) hZ301 (hwi hw 69 rfl) (hwi hw 3 rfl) (by decide) (by decide)) q302a q302c (g := (mkF m 61 #[.val (.ref o), .val (.ref o), .val (.int (-1 : Int32))] [(.ref a301), (.ref o)])) rfl (by rw [hml]; rfl) (Steps.refl _) (argsL := [(.ref a301)]) (rest := []) (lenOf pd_12 rfl) rfl (by show 2 * 0 + _ ≤ _; exact Nat.le_of_eq rfl) (hb hby d7_61) (fun _ _ => ⟨rfl, e301, (by decide : 2 + 0 ≤ _), (by decide : 24 + 0 ≤ _)⟩)
  dsimp only [Pt.U, Pt.locs, Pt.cells, Pt.slots] at X302 l302 y302 z302 st302 hQ302
  obtain rfl : k302 = 2 := y302; obtain rfl : n302 = 24 := z302
  obtain ⟨rfl, N302q, e302⟩ := hQ302
  have N302 : Fr n0 L302 := by rw [l302]; exact Fr.app N300 N302q
  obtain ⟨T303, h303, X303, e303, E303, A303, D303, -, st303⟩ := newO X302 hx hZ301 hown301 (hwi hw 74 rfl) (hwi hw 75 rfl) (hwi hw 76 rfl) e302 (g := (mkF m 112 #[.val (.ref o), .val (.ref o), .val (.int (1 : Int32))] [])) rfl (hb hby d7_112) (by decide) (by decide)
  obtain ⟨b303, g303⟩ : ∃ z, z = h301.size := ⟨_, rfl⟩
  rw [← g303] at A303 D303 st303
  have ne_o_b303 : o ≠ b303 := Nat.ne_of_lt (Nat.lt_of_lt_of_le EO_e301.lt (Nat.le_of_eq g303.symm))
  have EO_e303 := EO_e301.ext E303
  have E_b303 := A303
  have g_b303 : n0 ≤ b303 := Nat.le_trans Z301 (Nat.le_of_eq g303.symm)
  have sz_b303 : h0.size ≤ b303 := Nat.le_trans K301.1 (Nat.le_of_eq g303.symm)
  have K303 := K301.ext E303
  have Z303 : n0 ≤ h303.size := Nat.le_trans Z301 E303.1
  have F_held_b303 : Fld Z h303 b303 "com/example/rigorous_lock/rigorouslock/io/SqlDialect" "held" "Ljava/lang/String;" .null := D303 (Or.inr (hwi hw 218 rfl)) (ty := (.object "java/lang/String")) (by decide)
  have F_leaseEnd_b303 : Fld Z h303 b303 "com/example/rigorous_lock/rigorouslock/io/SqlDialect" "leaseEnd" "Ljava/lang/String;" .null := D303 (Or.inr (hwi hw 221 rfl)) (ty := (.object "java/lang/String")) (by decide)
  have F_insertNewRow_b303 : Fld Z h303 b303 "com/example/rigorous_lock/rigorouslock/io/SqlDialect" "insertNewRow" "Ljava/lang/String;" .null := D303 (Or.inr (hwi hw 225 rfl)) (ty := (.object "java/lang/String")) (by decide)
  have F_createTable_b303 : Fld Z h303 b303 "com/example/rigorous_lock/rigorouslock/io/SqlDialect" "createTable" "Ljava/lang/String;" .null := D303 (Or.inr (hwi hw 227 rfl)) (ty := (.object "java/lang/String")) (by decide)
  have F_timeLeftQuery_b303 : Fld Z h303 b303 "com/example/rigorous_lock/rigorouslock/io/SqlDialect" "timeLeftQuery" "Ljava/lang/String;" .null := D303 (Or.inr (hwi hw 229 rfl)) (ty := (.object "java/lang/String")) (by decide)
  have F_missingTableState_b303 : Fld Z h303 b303 "com/example/rigorous_lock/rigorouslock/io/SqlDialect" "missingTableState" "Ljava/lang/String;" .null := D303 (Or.inr (hwi hw 231 rfl)) (ty := (.object "java/lang/String")) (by decide)
  have F_releaseStatement_b303 : Fld Z h303 b303 "com/example/rigorous_lock/rigorouslock/io/SqlDialect" "releaseStatement" "Ljava/lang/String;" .null := D303 (Or.inr (hwi hw 243 rfl)) (ty := (.object "java/lang/String")) (by decide)
  have F_renewStatement_b303 : Fld Z h303 b303 "com/example/rigorous_lock/rigorouslock/io/SqlDialect" "renewStatement" "Ljava/lang/String;" .null := D303 (Or.inr (hwi hw 246 rfl)) (ty := (.object "java/lang/String")) (by decide)
  have F_takeStatement_b303 : Fld Z h303 b303 "com/example/rigorous_lock/rigorouslock/io/MariaDbDialect" "takeStatement" "Ljava/lang/String;" .null := D303 (Or.inr (hwi hw 263 rfl)) (ty := (.object "java/lang/String")) (by decide)
  have hk303 := Nat.le_trans hk301 E303.1
  have O303 := O301.ext E303
  have CR303 := CR301.trans (CHr.ext E303 C301.1)
  have CH303 := CHv.ext E303 C301.1
  obtain ⟨_, _, ⟨T304, L304, k304, n304⟩, -, X304, hS2304, hg304, ⟨Lc304, hQ304, l304, y304, z304, C304⟩, st304⟩ := X303.specialBackS hx (y := (⟨"com/example/rigorous_lock/rigorouslock/io/MariaDbDialect", "<init>", "()V"⟩ : MethodName)) rfl hown301 (mvT hZ301 (hwi hw 77 rfl)) (mvT hZ301 (hwi hw 78 rfl)) (mvT hZ301 (hwi hw 79 rfl)) (by decide) (backOfSH (s := s) (vm0 := T301.vm) (EL := EL1) (W := 1) (rmMD0 l Z a0 hw [] b303 h303 n0 Z303 O303 SK hEL E_b303 F_held_b303 F_leaseEnd_b303 F_insertNewRow_b303 F_createTable_b303 F_timeLeftQuery_b303 F_missingTableState_b303 F_releaseStatement_b303 F_renewStatement_b303 F_takeStatement_b303 g_b303) hZ301 (hwi hw 79 rfl) (hwi hw 76 rfl) (by decide) (by decide) hEL CH303) (g := (mkF m 116 #[.val (.ref o), .val (.ref o), .val (.int (1 : Int32))] [(.ref b303), (.ref b303)])) rfl (by rw [hml]; rfl) (Steps.refl _) (a := b303) (argsL := []) (rest := [(.ref b303)]) (lenOf pd_2 rfl) rfl (by show 2 * 0 + _ ≤ _; exact Nat.le_of_eq rfl) (hb hby d7_116) (fun _ _ => ⟨rfl, e303, (by decide : 3 + 78 ≤ _), (by decide : 33 + 17232 ≤ _)⟩)
  dsimp only [Pt.U, Pt.locs, Pt.cells, Pt.slots] at X304 l304 y304 z304 st304 hQ304 hS2304 hg304 C304
  obtain rfl : k304 = 81 := y304; obtain rfl : n304 = 17265 := z304
  obtain ⟨rfl, N304q, K304, J304, x304, F304, S304⟩ := hQ304
  have N304 : Fr n0 L304 := by rw [l304]; exact Fr.app N302 N304q
  have CR304 := CR303.trans C304
  have hS304 := foldS hS301 (by rw [e303]; exact hk303) hS2304 hg304
  have hZ304 : Z.Warmed39 (s.setVm T304.vm).vm := State.Warmed39.trans hZ301 hS2304.1
  have hown304 : (s.setVm T304.vm).vm.findClass "com/example/rigorous_lock/rigorouslock/io/SqlDialect" = some m.cls := by rw [show (s.setVm T304.vm).vm = T304.vm from rfl, hS2304.1.alike.findClass]; exact hown301
  have KK304 := K303.trans K304 (fun x r => by cases List.mem_singleton.mp r; exact (Or.inr sz_b303))
  have Z304 : n0 ≤ T304.heap.size := Nat.le_trans Z303 K304.1
  have O304 := O303.keep K304 (all1 g_b303)
  obtain ⟨fs, hr, hrun, hended, -, hWW, hBB, hSS⟩ := Stand.leaveW (s := s) (vm₁ := T304.vm) X304 hS304 (by exact (Nat.le_refl _)) (v := some (.ref b303)) (fun h => by rw [Bd.returns] at h; cases h)
  refine ⟨_, _, pre0 _ ?_, hrun, hended, _, _, rfl, ?_, ?_, ⟨_, rfl⟩, hWW, hBB, hSS.mono (by decide) (by decide)⟩
  · show Steps p.tables e below (s₁.setTop (mkF m 0 #[.val (.ref o), .unset, .unset] [])) _
    refine XS.aloadN X0.here hx rfl (hb hby d7_0) rfl rfl ?_
    refine XS.astoreN X0.here hx rfl (hb hby d7_1) rfl rfl (l' := #[.val (.ref o), .val (.ref o), .unset]) rfl ?_
    refine XS.iconst X0.here hx rfl (hb hby d7_2) ?_
    refine XS.istoreN X0.here hx rfl (hb hby d7_3) rfl (l' := #[.val (.ref o), .val (.ref o), .val (.int (-1 : Int32))]) rfl ?_
    refine XS.aloadN X0.here hx rfl (hb hby d7_4) rfl rfl ?_
    show Steps p.tables e below (s₁.setTop (mkF m 5 #[.val (.ref o), .val (.ref o), .val (.int (-1 : Int32))] [(.ref o)])) _
    refine st300.trans ?_
    refine Jvm.Stand.lookupswitchHit X300 hx (g := (mkF m 8 #[.val (.ref o), .val (.ref o), .val (.int (-1 : Int32))] [(.int (74798178 : Int32))])) rfl rfl (hb hby d7_8) (by decide) (a := 74798178) (off := 50) (by decide) (by show (0 : Int) ≤ ((8 : Nat) : Int) + 50; decide) _ ?_
    show Steps p.tables e below (T300.setTop (mkF m 58 #[.val (.ref o), .val (.ref o), .val (.int (-1 : Int32))] [])) _
    refine XS.aloadN X300.here hx rfl (hb hby d7_58) rfl rfl ?_
    show Steps p.tables e below (T300.setTop (mkF m 59 #[.val (.ref o), .val (.ref o), .val (.int (-1 : Int32))] [(.ref o)])) _
    refine st301 _ ?_
    show Steps p.tables e below (T301.setTop (mkF m 61 #[.val (.ref o), .val (.ref o), .val (.int (-1 : Int32))] [(.ref a301), (.ref o)])) _
    refine st302.trans ?_
    refine XS.ifNo X302.here hx rfl (hb hby d7_64) rfl ((if0 _ _).trans (feq (by decide : ¬ ((1 : Int32) = (0 : Int32)))).1) ?_
    refine XS.iconst X302.here hx rfl (hb hby d7_67) ?_
    refine XS.istoreN X302.here hx rfl (hb hby d7_68) rfl (l' := #[.val (.ref o), .val (.ref o), .val (.int (1 : Int32))]) rfl ?_
    refine XS.goto X302.here hx rfl (pc0 := 69) (pc' := 83) rfl (hb hby d7_69) (by decide) (by decide) ?_
    refine XS.iloadN X302.here hx rfl (hb hby d7_83) rfl ?_
    show Steps p.tables e below (T302.setTop (mkF m 84 #[.val (.ref o), .val (.ref o), .val (.int (1 : Int32))] [(.int (1 : Int32))])) _
    refine XS.tswIn X302.here hx rfl (pc0 := 84) (pc' := 112) rfl (hb hby d7_84) rfl (by decide) (o := 28) (by decide) (by decide) (by decide) ?_
    show Steps p.tables e below (T302.setTop (mkF m 112 #[.val (.ref o), .val (.ref o), .val (.int (1 : Int32))] [])) _
    show Steps p.tables e below (T302.setTop (mkF m 112 #[.val (.ref o), .val (.ref o), .val (.int (1 : Int32))] [])) _
    refine st303 _ ?_
    refine XS.dup X303.here hx rfl (hb hby d7_115) rfl rfl ?_
    show Steps p.tables e below (T303.setTop (mkF m 116 #[.val (.ref o), .val (.ref o), .val (.int (1 : Int32))] [(.ref b303), (.ref b303)])) _
    refine st304.trans ?_
    refine XS.goto X304.here hx rfl (pc0 := 119) (pc' := 159) rfl (hb hby d7_119) (by decide) (by decide) ?_
    show Steps p.tables e below (T304.setTop (mkF m 159 #[.val (.ref o), .val (.ref o), .val (.int (1 : Int32))] [(.ref b303)])) _
    jvm_step X304.here [X304.here.top, hx, (hb hby d7_159), X304.method', Bd.returns, Value.isRef, FieldType.isReference]
    first | (intro acts; rw [hr _ acts rfl rfl rfl]) | rw [hr _ _ rfl rfl rfl]
    exact Steps.refl _
  · show QOF Z "com/example/rigorous_lock/rigorouslock/io/MariaDbDialect" o 41 (fC 19 (fC 16 (fC 0 z0 sc_MariaDbDialect_5) sc_SqlDialect_26) sc_MariaDbDialect_7) h0 n0 _ T304.heap _
    exact ⟨b303, rfl, N304, KK304, J304, x304, F304, S304⟩
  · show CHr Z EL1 s.vm s.heap T304.vm T304.heap
    have q := CR304.trans (CHv.at (s := s) (vm0 := T304.vm) X304 hZ304 hEL C304.1)
    rw [hh]
    exact q
def Lsc_SqlDialect_73 : List Value := [(.int (80 : Int32)), (.int (111 : Int32)), (.int (115 : Int32)), (.int (116 : Int32)), (.int (103 : Int32)), (.int (114 : Int32)), (.int (101 : Int32)), (.int (83 : Int32)), (.int (81 : Int32)), (.int (76 : Int32))]
def sc_SqlDialect_73 : Nat → Value := fun j => Lsc_SqlDialect_73.getD j (.int (0 : Int32))
theorem ft_sc_SqlDialect_73 (n : Nat) : ∀ j, j < n → fits .byte (sc_SqlDialect_73 j) = true := fitsL (by decide +kernel) n
set_option maxRecDepth 65536 in
set_option maxHeartbeats 40000000 in
theorem rmOF2 (l : Launch) (Z : State) (a0 : Array Value) (hw : ∀ d ∈ tables_1, d.before a0 Z = true) (ws : List Jvm.Cond) (o : Addr)  (h0 : Heap) (n0 : Nat) (Z0 : n0 ≤ h0.size) (O : Old Z n0 h0) (SK : StrSta Z) (hEL : EW Z a0 EL1) (g_o : n0 ≤ o) (S0 : StrX Z h0 o 10 (fun j => Value.int (nq2 j))) (FH : Fld Z h0 o "java/lang/String" "hash" "I" (.int (0 : Int32))) (FZ : Fld Z h0 o "java/lang/String" "hashIsZero" "Z" (.int (0 : Int32)))  :
    MetFree l (⟨"com/example/rigorous_lock/rigorouslock/io/SqlDialect", "of", "(Ljava/lang/String;)Lcom/example/rigorous_lock/rigorouslock/io/SqlDialect;"⟩ : MethodName) (head1 (Jvm.Cond.code (⟨"com/example/rigorous_lock/rigorouslock/io/SqlDialect", "of", "(Ljava/lang/String;)Lcom/example/rigorous_lock/rigorouslock/io/SqlDialect;"⟩ : MethodName) prog_6_method_2_code 3 (some (.object "com/example/rigorous_lock/rigorouslock/io/SqlDialect")) :: ws) ({ frames := 8, cells := 79, slots := 17213, locals := 214 } : Room)) (fun aa_ U_ => aa_ = #[(.ref o)] ∧ Z.Warmed39 U_.vm ∧ U_.heap = h0 ∧ CHv Z EL1 U_.vm h0 ∧ Safe Z EL1 U_.vm h0 o) (fun _ _ _ _ _ => True) (fun _ U_ o_ V_ => ∃ v_ L_, o_ = .returned v_ ∧ QOF Z "com/example/rigorous_lock/rigorouslock/io/PostgresDialect" o 52 (fC 24 (fC 21 (fC 0 z0 sc_PostgresDialect_3) sc_SqlDialect_26) sc_PostgresDialect_5) h0 n0 v_ V_.heap L_ ∧ CHr Z EL1 U_.vm U_.heap V_.vm V_.heap ∧ ReturnedEndW U_ o_ V_ L_ ({ frames := 8, cells := 79, slots := 17213, locals := 214 } : Room).cells ({ frames := 8, cells := 79, slots := 17213, locals := 214 } : Room).slots) := by
  refine MetFree.of_bodySF (plainFor_of_name pn_7) hisR ?_
  intro p e s m args below meth c s₁ Bd hml0 hP hK
  obtain ⟨rfl, hZ, hh, CH0, SF0⟩ := hP
  have hx := Bd.exec
  have hby := Bd.bytes
  have hml : c.maxLocals = 3 := hml0
  have hown : s.vm.findClass "com/example/rigorous_lock/rigorouslock/io/SqlDialect" = some m.cls := findClass_of_methodNamed Bd.named
  have hnm := (name_of_methodNamed Bd.named Bd.method).1
  have X0 : Stand p l e ({ frames := 8, cells := 79, slots := 17213, locals := 214 } : Room) s m #[(.ref o)] below meth c s₁ [] 0 0 := Stand.of_body Bd
  have e0 : s₁.heap = h0 := by rw [← hh, Bd.state]; rfl
  have N0 := Fr.nil n0
  have pre0 : ∀ zz, Steps p.tables e below (s₁.setTop (mkF m 0 #[.val (.ref o), .unset, .unset] [])) zz → Steps p.tables e below (s₁.setTop (entryFrame m #[(.ref o)] 3)) zz := fun zz kz_ => castTop (ef_7 m o) kz_
  have hwS : ∀ a ∈ Bundle.stringAtoms, a.before a0 Z = true := fun d hd => hw d (by simpa using (List.all_eq_true.mp (by decide +kernel : (Bundle.stringAtoms.all fun c => tables_1.contains c) = true)) d hd)
  have EO := S0.1
  obtain ⟨cq305, kq305, q305a, q305b, q305c⟩ := isOf hZ e0 EO
  obtain ⟨_, _, ⟨T305, L305, k305, n305⟩, -, X305, ⟨Lc305, hQ305, l305, y305, z305⟩, st305⟩ := X0.virtualBack hx (y := (⟨"java/lang/String", "hashCode", "()I"⟩ : MethodName)) (z := (⟨"java/lang/String", "hashCode", "()I"⟩ : MethodName)) hown (mvT hZ (hwi hw 35 rfl)) (mvT hZ (hwi hw 36 rfl)) (notFace_of_selects (args := #[]) (mvT hZ (hwi hw 38 rfl))) (mvT hZ (hwi hw 38 rfl)) (mvT hZ (hwi hw 37 rfl)) (by decide) (backOf (W := 0) (rmHC2 l Z a0 hw [] o nq2 h0 n0 Z0 O SK g_o (by decide +kernel) S0 FH FZ) hZ (hwi hw 39 rfl) (hwi hw 3 rfl) (by decide) (by decide)) q305a q305c (g := (mkF m 5 #[.val (.ref o), .val (.ref o), .val (.int (-1 : Int32))] [(.ref o)])) rfl (by rw [hml]; rfl) (Steps.refl _) (argsL := []) (rest := []) (lenOf pd_7 rfl) rfl (by show 2 * 0 + _ ≤ _; exact Nat.le_of_eq rfl) (hb hby d7_5) (fun _ _ => ⟨rfl, e0, (by decide : 0 + 0 ≤ _), (by decide : 0 + 0 ≤ _)⟩)
  dsimp only [Pt.U, Pt.locs, Pt.cells, Pt.slots] at X305 l305 y305 z305 st305 hQ305
  obtain rfl : k305 = 0 := y305; obtain rfl : n305 = 0 := z305
  obtain ⟨rfl, N305q, K305, S305⟩ := hQ305
  have N305 : Fr n0 L305 := by rw [l305]; exact Fr.app N0 N305q
  have CR305 := (CHr.refl CH0).trans (CHr.keep K305 (safe1 SF0) CH0)
  have CH305 := CHv.keep K305 (safe1 SF0) CH0
  have EO_e305 := EO.keep K305
  have KK305 := (Keep.refl h0 [o]).trans K305 (fun x r => by cases List.mem_singleton.mp r; exact (Or.inl (List.mem_of_getElem? (i := 0) rfl)))
  have Z305 : n0 ≤ T305.heap.size := Nat.le_trans Z0 K305.1
  have O305 := O.keep K305 (all1 g_o)
  obtain ⟨a306, T306, h306, k306, v306, kk306, X306, e306, E306, hS306, hk306, hZ306, hown306, Ex306, Fc306, Fv306, Av306, -, -, C306, -, -, st306⟩ := ldcCH (s := s) (vm0 := s.vm) (EL := EL1) X305 hx hZ hown (hwi hw 269 rfl) hwS rfl ((State.WarmedH.refl s).since 0) (Nat.zero_le _) hEL (List.mem_of_getElem? (i := 28) rfl) CH305 (vs := Lsc_SqlDialect_73) (z := (10 : Int32)) (by decide +kernel) (by decide) (by decide +kernel) (g := (mkF m 73 #[.val (.ref o), .val (.ref o), .val (.int (-1 : Int32))] [(.ref o)])) rfl (hb hby d7_73) (n := 40) (by decide +kernel) (by decide) (by decide) (by decide)
  have SC306 : StrF Z h306 a306 10 sc_SqlDialect_73 := ⟨⟨Ex306, v306, Fv306, Fc306, afOf Av306 rfl⟩, ft_sc_SqlDialect_73 _⟩
  have EO_e306 := EO_e305.ext E306
  have O306 := O305.ext E306
  have K306 := KK305.ext E306
  have Z306 : n0 ≤ h306.size := Nat.le_trans Z305 E306.1
  have CR306 := CR305.trans C306
  have S305_x306 := S305.ext E306
  obtain ⟨cq307, kq307, q307a, q307b, q307c⟩ := isOf hZ306 e306 EO_e306
  obtain ⟨_, _, ⟨T307, L307, k307, n307⟩, -, X307, ⟨Lc307, hQ307, l307, y307, z307⟩, st307⟩ := X306.virtualBack hx (y := (⟨"java/lang/String", "equals", "(Ljava/lang/Object;)Z"⟩ : MethodName)) (z := (⟨"java/lang/String", "equals", "(Ljava/lang/Object;)Z"⟩ : MethodName)) hown306 (mvT hZ306 (hwi hw 65 rfl)) (mvT hZ306 (hwi hw 66 rfl)) (notFace_of_selects (args := #[]) (mvT hZ306 (hwi hw 68 rfl))) (mvT hZ306 (hwi hw 68 rfl)) (mvT hZ306 (hwi hw 67 rfl)) (by decide) (backOf (W := 0) (rmEQ l Z a0 hw [] o a306 10 nq2 h306 n0 Z306 (by decide) O306 SK S305_x306 (SC306.1.congr (by decide +kernel))) hZ306 (hwi hw 69 rfl) (hwi hw 3 rfl) (by decide) (by decide)) q307a q307c (g := (mkF m 75 #[.val (.ref o), .val (.ref o), .val (.int (-1 : Int32))] [(.ref a306), (.ref o)])) rfl (by rw [hml]; rfl) (Steps.refl _) (argsL := [(.ref a306)]) (rest := []) (lenOf pd_12 rfl) rfl (by show 2 * 0 + _ ≤ _; exact Nat.le_of_eq rfl) (hb hby d7_75) (fun _ _ => ⟨rfl, e306, (by decide : 2 + 0 ≤ _), (by decide : 44 + 0 ≤ _)⟩)
  dsimp only [Pt.U, Pt.locs, Pt.cells, Pt.slots] at X307 l307 y307 z307 st307 hQ307
  obtain rfl : k307 = 2 := y307; obtain rfl : n307 = 44 := z307
  obtain ⟨rfl, N307q, e307⟩ := hQ307
  have N307 : Fr n0 L307 := by rw [l307]; exact Fr.app N305 N307q
  obtain ⟨T308, h308, X308, e308, E308, A308, D308, -, st308⟩ := newO X307 hx hZ306 hown306 (hwi hw 270 rfl) (hwi hw 271 rfl) (hwi hw 272 rfl) e307 (g := (mkF m 122 #[.val (.ref o), .val (.ref o), .val (.int (2 : Int32))] [])) rfl (hb hby d7_122) (by decide) (by decide)
  obtain ⟨b308, g308⟩ : ∃ z, z = h306.size := ⟨_, rfl⟩
  rw [← g308] at A308 D308 st308
  have ne_o_b308 : o ≠ b308 := Nat.ne_of_lt (Nat.lt_of_lt_of_le EO_e306.lt (Nat.le_of_eq g308.symm))
  have EO_e308 := EO_e306.ext E308
  have E_b308 := A308
  have g_b308 : n0 ≤ b308 := Nat.le_trans Z306 (Nat.le_of_eq g308.symm)
  have sz_b308 : h0.size ≤ b308 := Nat.le_trans K306.1 (Nat.le_of_eq g308.symm)
  have K308 := K306.ext E308
  have Z308 : n0 ≤ h308.size := Nat.le_trans Z306 E308.1
  have F_held_b308 : Fld Z h308 b308 "com/example/rigorous_lock/rigorouslock/io/SqlDialect" "held" "Ljava/lang/String;" .null := D308 (Or.inr (hwi hw 282 rfl)) (ty := (.object "java/lang/String")) (by decide)
  have F_leaseEnd_b308 : Fld Z h308 b308 "com/example/rigorous_lock/rigorouslock/io/SqlDialect" "leaseEnd" "Ljava/lang/String;" .null := D308 (Or.inr (hwi hw 283 rfl)) (ty := (.object "java/lang/String")) (by decide)
  have F_insertNewRow_b308 : Fld Z h308 b308 "com/example/rigorous_lock/rigorouslock/io/SqlDialect" "insertNewRow" "Ljava/lang/String;" .null := D308 (Or.inr (hwi hw 284 rfl)) (ty := (.object "java/lang/String")) (by decide)
  have F_createTable_b308 : Fld Z h308 b308 "com/example/rigorous_lock/rigorouslock/io/SqlDialect" "createTable" "Ljava/lang/String;" .null := D308 (Or.inr (hwi hw 285 rfl)) (ty := (.object "java/lang/String")) (by decide)
  have F_timeLeftQuery_b308 : Fld Z h308 b308 "com/example/rigorous_lock/rigorouslock/io/SqlDialect" "timeLeftQuery" "Ljava/lang/String;" .null := D308 (Or.inr (hwi hw 286 rfl)) (ty := (.object "java/lang/String")) (by decide)
  have F_missingTableState_b308 : Fld Z h308 b308 "com/example/rigorous_lock/rigorouslock/io/SqlDialect" "missingTableState" "Ljava/lang/String;" .null := D308 (Or.inr (hwi hw 287 rfl)) (ty := (.object "java/lang/String")) (by decide)
  have F_releaseStatement_b308 : Fld Z h308 b308 "com/example/rigorous_lock/rigorouslock/io/SqlDialect" "releaseStatement" "Ljava/lang/String;" .null := D308 (Or.inr (hwi hw 288 rfl)) (ty := (.object "java/lang/String")) (by decide)
  have F_renewStatement_b308 : Fld Z h308 b308 "com/example/rigorous_lock/rigorouslock/io/SqlDialect" "renewStatement" "Ljava/lang/String;" .null := D308 (Or.inr (hwi hw 289 rfl)) (ty := (.object "java/lang/String")) (by decide)
  have F_takeStatement_b308 : Fld Z h308 b308 "com/example/rigorous_lock/rigorouslock/io/PostgresDialect" "takeStatement" "Ljava/lang/String;" .null := D308 (Or.inr (hwi hw 303 rfl)) (ty := (.object "java/lang/String")) (by decide)
  have hk308 := Nat.le_trans hk306 E308.1
  have O308 := O306.ext E308
  have CR308 := CR306.trans (CHr.ext E308 C306.1)
  have CH308 := CHv.ext E308 C306.1
  obtain ⟨_, _, ⟨T309, L309, k309, n309⟩, -, X309, hS2309, hg309, ⟨Lc309, hQ309, l309, y309, z309, C309⟩, st309⟩ := X308.specialBackS hx (y := (⟨"com/example/rigorous_lock/rigorouslock/io/PostgresDialect", "<init>", "()V"⟩ : MethodName)) rfl hown306 (mvT hZ306 (hwi hw 273 rfl)) (mvT hZ306 (hwi hw 274 rfl)) (mvT hZ306 (hwi hw 275 rfl)) (by decide) (backOfSH (s := s) (vm0 := T306.vm) (EL := EL1) (W := 1) (rmMD1 l Z a0 hw [] b308 h308 n0 Z308 O308 SK hEL E_b308 F_held_b308 F_leaseEnd_b308 F_insertNewRow_b308 F_createTable_b308 F_timeLeftQuery_b308 F_missingTableState_b308 F_releaseStatement_b308 F_renewStatement_b308 F_takeStatement_b308 g_b308) hZ306 (hwi hw 275 rfl) (hwi hw 272 rfl) (by decide) (by decide) hEL CH308) (g := (mkF m 126 #[.val (.ref o), .val (.ref o), .val (.int (2 : Int32))] [(.ref b308), (.ref b308)])) rfl (by rw [hml]; rfl) (Steps.refl _) (a := b308) (argsL := []) (rest := [(.ref b308)]) (lenOf pd_2 rfl) rfl (by show 2 * 0 + _ ≤ _; exact Nat.le_of_eq rfl) (hb hby d7_126) (fun _ _ => ⟨rfl, e308, (by decide : 3 + 76 ≤ _), (by decide : 53 + 17160 ≤ _)⟩)
  dsimp only [Pt.U, Pt.locs, Pt.cells, Pt.slots] at X309 l309 y309 z309 st309 hQ309 hS2309 hg309 C309
  obtain rfl : k309 = 79 := y309; obtain rfl : n309 = 17213 := z309
  obtain ⟨rfl, N309q, K309, J309, x309, F309, S309⟩ := hQ309
  have N309 : Fr n0 L309 := by rw [l309]; exact Fr.app N307 N309q
  have CR309 := CR308.trans C309
  have hS309 := foldS hS306 (by rw [e308]; exact hk308) hS2309 hg309
  have hZ309 : Z.Warmed39 (s.setVm T309.vm).vm := State.Warmed39.trans hZ306 hS2309.1
  have hown309 : (s.setVm T309.vm).vm.findClass "com/example/rigorous_lock/rigorouslock/io/SqlDialect" = some m.cls := by rw [show (s.setVm T309.vm).vm = T309.vm from rfl, hS2309.1.alike.findClass]; exact hown306
  have KK309 := K308.trans K309 (fun x r => by cases List.mem_singleton.mp r; exact (Or.inr sz_b308))
  have Z309 : n0 ≤ T309.heap.size := Nat.le_trans Z308 K309.1
  have O309 := O308.keep K309 (all1 g_b308)
  obtain ⟨fs, hr, hrun, hended, -, hWW, hBB, hSS⟩ := Stand.leaveW (s := s) (vm₁ := T309.vm) X309 hS309 (by exact (Nat.le_refl _)) (v := some (.ref b308)) (fun h => by rw [Bd.returns] at h; cases h)
  refine ⟨_, _, pre0 _ ?_, hrun, hended, _, _, rfl, ?_, ?_, ⟨_, rfl⟩, hWW, hBB, hSS.mono (by decide) (by decide)⟩
  · show Steps p.tables e below (s₁.setTop (mkF m 0 #[.val (.ref o), .unset, .unset] [])) _
    refine XS.aloadN X0.here hx rfl (hb hby d7_0) rfl rfl ?_
    refine XS.astoreN X0.here hx rfl (hb hby d7_1) rfl rfl (l' := #[.val (.ref o), .val (.ref o), .unset]) rfl ?_
    refine XS.iconst X0.here hx rfl (hb hby d7_2) ?_
    refine XS.istoreN X0.here hx rfl (hb hby d7_3) rfl (l' := #[.val (.ref o), .val (.ref o), .val (.int (-1 : Int32))]) rfl ?_
    refine XS.aloadN X0.here hx rfl (hb hby d7_4) rfl rfl ?_
    show Steps p.tables e below (s₁.setTop (mkF m 5 #[.val (.ref o), .val (.ref o), .val (.int (-1 : Int32))] [(.ref o)])) _
    refine st305.trans ?_
    refine Jvm.Stand.lookupswitchHit X305 hx (g := (mkF m 8 #[.val (.ref o), .val (.ref o), .val (.int (-1 : Int32))] [(.int (-112048300 : Int32))])) rfl rfl (hb hby d7_8) (by decide) (a := (-112048300)) (off := 64) (by decide) (by show (0 : Int) ≤ ((8 : Nat) : Int) + 64; decide) _ ?_
    show Steps p.tables e below (T305.setTop (mkF m 72 #[.val (.ref o), .val (.ref o), .val (.int (-1 : Int32))] [])) _
    refine XS.aloadN X305.here hx rfl (hb hby d7_72) rfl rfl ?_
    show Steps p.tables e below (T305.setTop (mkF m 73 #[.val (.ref o), .val (.ref o), .val (.int (-1 : Int32))] [(.ref o)])) _
    refine st306 _ ?_
    show Steps p.tables e below (T306.setTop (mkF m 75 #[.val (.ref o), .val (.ref o), .val (.int (-1 : Int32))] [(.ref a306), (.ref o)])) _
    refine st307.trans ?_
    refine XS.ifNo X307.here hx rfl (hb hby d7_78) rfl ((if0 _ _).trans (feq (by decide : ¬ ((1 : Int32) = (0 : Int32)))).1) ?_
    refine XS.iconst X307.here hx rfl (hb hby d7_81) ?_
    refine XS.istoreN X307.here hx rfl (hb hby d7_82) rfl (l' := #[.val (.ref o), .val (.ref o), .val (.int (2 : Int32))]) rfl ?_
    refine XS.iloadN X307.here hx rfl (hb hby d7_83) rfl ?_
    refine XS.tswIn X307.here hx rfl (pc0 := 84) (pc' := 122) rfl (hb hby d7_84) rfl (by decide) (o := 38) (by decide) (by decide) (by decide) ?_
    show Steps p.tables e below (T307.setTop (mkF m 122 #[.val (.ref o), .val (.ref o), .val (.int (2 : Int32))] [])) _
    show Steps p.tables e below (T307.setTop (mkF m 122 #[.val (.ref o), .val (.ref o), .val (.int (2 : Int32))] [])) _
    refine st308 _ ?_
    refine XS.dup X308.here hx rfl (hb hby d7_125) rfl rfl ?_
    show Steps p.tables e below (T308.setTop (mkF m 126 #[.val (.ref o), .val (.ref o), .val (.int (2 : Int32))] [(.ref b308), (.ref b308)])) _
    refine st309.trans ?_
    refine XS.goto X309.here hx rfl (pc0 := 129) (pc' := 159) rfl (hb hby d7_129) (by decide) (by decide) ?_
    show Steps p.tables e below (T309.setTop (mkF m 159 #[.val (.ref o), .val (.ref o), .val (.int (2 : Int32))] [(.ref b308)])) _
    jvm_step X309.here [X309.here.top, hx, (hb hby d7_159), X309.method', Bd.returns, Value.isRef, FieldType.isReference]
    first | (intro acts; rw [hr _ acts rfl rfl rfl]) | rw [hr _ _ rfl rfl rfl]
    exact Steps.refl _
  · show QOF Z "com/example/rigorous_lock/rigorouslock/io/PostgresDialect" o 52 (fC 24 (fC 21 (fC 0 z0 sc_PostgresDialect_3) sc_SqlDialect_26) sc_PostgresDialect_5) h0 n0 _ T309.heap _
    exact ⟨b308, rfl, N309, KK309, J309, x309, F309, S309⟩
  · show CHr Z EL1 s.vm s.heap T309.vm T309.heap
    have q := CR309.trans (CHv.at (s := s) (vm0 := T309.vm) X309 hZ309 hEL C309.1)
    rw [hh]
    exact q
theorem pn_0 : plainName "com/example/rigorous_lock/rigorouslock/io/SqlDialectOfPinLaw" = true := by first | (simp [plainName, overriddenIn]; done) | decide +kernel
theorem ef_0 (m : MethodId) (x0 : Int32) : entryFrame m #[(.int x0)] maxLocals = mkF m 0 #[.val (.int x0), .unset, .unset, .unset] [] := by first | (simp [entryFrame, mkF, argsToLocals, Value.category, maxLocals]; done) | rfl
def Q0 (h0 : Heap) (n0 : Nat) (v : Option Value) (h : Heap) (L : List Loc) : Prop := v = some (.int 1) ∧ Fr n0 L
def k3 (x : Int32) : Int32 := (x &&& (2147483647 : Int32)) % (3 : Int32)
theorem k3_is (x : Int32) : k3 x = 0 ∨ k3 x = 1 ∨ k3 x = 2 := by
  have m := c_and x 2147483647 (by decide)
  have r := (c_irem (x &&& (2147483647 : Int32)) 3 3 rfl).1 m.1
  have e : ∀ q : Int32, (k3 x).toInt = q.toInt → k3 x = q := fun q h => Int32.toInt_inj.mp h
  have r : (k3 x).toInt = _ := r
  have b : (k3 x).toInt = 0 ∨ (k3 x).toInt = 1 ∨ (k3 x).toInt = 2 := by omega
  rcases b with b | b | b
  · exact Or.inl (e 0 b)
  · exact Or.inr (Or.inl (e 1 b))
  · exact Or.inr (Or.inr (e 2 b))
def ie0 : Nat → Int32 := fun j => ([85, 84, 67, 95, 84, 73, 77, 69, 83, 84, 65, 77, 80, 40, 54, 41, 32, 43, 32, 73, 78, 84, 69, 82, 86, 65, 76, 32, 63, 32, 77, 73, 67, 82, 79, 83, 69, 67, 79, 78, 68] : List Int32).getD j 0
def ie2 : Nat → Int32 := fun j => ([115, 116, 97, 116, 101, 109, 101, 110, 116, 95, 116, 105, 109, 101, 115, 116, 97, 109, 112, 40, 41, 32, 43, 32, 63, 32, 42, 32, 73, 78, 84, 69, 82, 86, 65, 76, 32, 39, 49, 32, 109, 105, 99, 114, 111, 115, 101, 99, 111, 110, 100, 39] : List Int32).getD j 0
def Lsc_SqlDialectOfPinLaw_33 : List Value := [(.int (85 : Int32)), (.int (84 : Int32)), (.int (67 : Int32)), (.int (95 : Int32)), (.int (84 : Int32)), (.int (73 : Int32)), (.int (77 : Int32)), (.int (69 : Int32)), (.int (83 : Int32)), (.int (84 : Int32)), (.int (65 : Int32)), (.int (77 : Int32)), (.int (80 : Int32)), (.int (40 : Int32)), (.int (54 : Int32)), (.int (41 : Int32)), (.int (32 : Int32)), (.int (43 : Int32)), (.int (32 : Int32)), (.int (73 : Int32)), (.int (78 : Int32)), (.int (84 : Int32)), (.int (69 : Int32)), (.int (82 : Int32)), (.int (86 : Int32)), (.int (65 : Int32)), (.int (76 : Int32)), (.int (32 : Int32)), (.int (63 : Int32)), (.int (32 : Int32)), (.int (77 : Int32)), (.int (73 : Int32)), (.int (67 : Int32)), (.int (82 : Int32)), (.int (79 : Int32)), (.int (83 : Int32)), (.int (69 : Int32)), (.int (67 : Int32)), (.int (79 : Int32)), (.int (78 : Int32)), (.int (68 : Int32))]
def sc_SqlDialectOfPinLaw_33 : Nat → Value := fun j => Lsc_SqlDialectOfPinLaw_33.getD j (.int (0 : Int32))
theorem ft_sc_SqlDialectOfPinLaw_33 (n : Nat) : ∀ j, j < n → fits .byte (sc_SqlDialectOfPinLaw_33 j) = true := fitsL (by decide +kernel) n
set_option maxRecDepth 65536 in
set_option maxHeartbeats 40000000 in
theorem rm0_0 (l : Launch) (Z : State) (a0 : Array Value) (hw : ∀ d ∈ tables_1, d.before a0 Z = true) (ws : List Jvm.Cond) (wh : Int32)  (h0 : Heap) (n0 : Nat) (Z0 : n0 ≤ h0.size) (hk : k3 wh = (0 : Int32)) (O : Old Z n0 h0) (SK : StrSta Z) (hEL : EW Z a0 EL1)  :
    MetFree l x (head1 (Jvm.Cond.code x code maxLocals ret :: ws) room_1) (fun aa_ U_ => aa_ = #[(.int wh)] ∧ Z.Warmed39 U_.vm ∧ U_.heap = h0 ∧ CHv Z EL1 U_.vm h0) (fun _ _ _ _ _ => True) (fun _ U_ o_ V_ => ∃ v_ L_, o_ = .returned v_ ∧ Q0  h0 n0 v_ V_.heap L_ ∧ ReturnedEndW U_ o_ V_ L_ room_1.cells room_1.slots) := by
  refine MetFree.of_bodySF (plainFor_of_name pn_0) hisR ?_
  intro p e s m args below meth c s₁ Bd hml0 hP hK
  obtain ⟨rfl, hZ, hh, CH0⟩ := hP
  have hx := Bd.exec
  have hby := Bd.bytes
  have hml : c.maxLocals = 4 := hml0
  have hown : s.vm.findClass "com/example/rigorous_lock/rigorouslock/io/SqlDialectOfPinLaw" = some m.cls := findClass_of_methodNamed Bd.named
  have hnm := (name_of_methodNamed Bd.named Bd.method).1
  have X0 : Stand p l e room_1 s m #[(.int wh)] below meth c s₁ [] 0 0 := Stand.of_body Bd
  have e0 : s₁.heap = h0 := by rw [← hh, Bd.state]; rfl
  have N0 := Fr.nil n0
  have pre0 : ∀ zz, Steps p.tables e below (s₁.setTop (mkF m 0 #[.val (.int wh), .unset, .unset, .unset] [])) zz → Steps p.tables e below (s₁.setTop (entryFrame m #[(.int wh)] maxLocals)) zz := fun zz kz_ => castTop (ef_0 m wh) kz_
  have hwS : ∀ a ∈ Bundle.stringAtoms, a.before a0 Z = true := fun d hd => hw d (by simpa using (List.all_eq_true.mp (by decide +kernel : (Bundle.stringAtoms.all fun c => tables_1.contains c) = true)) d hd)
  obtain ⟨T310, h310, X310, e310, E310, A310, D310, -, st310⟩ := newO X0 hx hZ hown (hwi hw 1 rfl) (hwi hw 2 rfl) (hwi hw 3 rfl) e0 (g := (mkF m 11 #[.val (.int wh), .val (.int (0 : Int32)), .unset, .unset] [])) rfl (hb hby at_11) (by decide) (by decide)
  obtain ⟨b310, g310⟩ : ∃ z, z = h0.size := ⟨_, rfl⟩
  rw [← g310] at A310 D310 st310
  have E_b310 := A310
  have g_b310 : n0 ≤ b310 := Nat.le_trans Z0 (Nat.le_of_eq g310.symm)
  have sz_b310 : h0.size ≤ b310 := Nat.le_trans (Keep.refl h0 []).1 (Nat.le_of_eq g310.symm)
  have K310 := (Keep.refl h0 []).ext E310
  have Z310 : n0 ≤ h310.size := Nat.le_trans Z0 E310.1
  have F_coder_b310 : Fld Z h310 b310 "java/lang/String" "coder" "B" (.int (0 : Int32)) := D310 (Or.inr (hwi hw 28 rfl)) (ty := .byte) (by decide)
  have F_value_b310 : Fld Z h310 b310 "java/lang/String" "value" "[B" .null := D310 (Or.inr (hwi hw 30 rfl)) (ty := (.array .byte)) (by decide)
  have F_hash_b310 : Fld Z h310 b310 "java/lang/String" "hash" "I" (.int (0 : Int32)) := D310 (Or.inl (hwi hw 41 rfl)) (ty := .int) (by decide)
  have F_hashIsZero_b310 : Fld Z h310 b310 "java/lang/String" "hashIsZero" "Z" (.int (0 : Int32)) := D310 (Or.inl (hwi hw 43 rfl)) (ty := .boolean) (by decide)
  have O310 := O.ext E310
  obtain ⟨T311, h311, X311, e311, E311, A311, st311⟩ := nwA X310 hx hZ (hwi hw 4 rfl) e310 (g := (mkF m 17 #[.val (.int wh), .val (.int (0 : Int32)), .unset, .unset] [(.int (7 : Int32)), (.ref b310), (.ref b310)])) rfl (hb hby at_17) (n := 7) rfl (cap := 10) (by decide) (by decide) (by decide) (by decide)
  obtain ⟨b311, q311⟩ : ∃ z, z = h310.size := ⟨_, rfl⟩
  rw [← q311] at A311 st311
  have V311 : AF Z h311 b311 .char 7 (fun _ => (.int (0 : Int32))) := A311
  have g_b311 : n0 ≤ b311 := Nat.le_trans Z310 (Nat.le_of_eq q311.symm)
  have sz_b311 : h0.size ≤ b311 := Nat.le_trans K310.1 (Nat.le_of_eq q311.symm)
  have K311 := K310.ext E311
  have Z311 : n0 ≤ h311.size := Nat.le_trans Z310 E311.1
  have ne_b310_b311 : b310 ≠ b311 := Nat.ne_of_lt (Nat.lt_of_lt_of_le E_b310.lt (Nat.le_of_eq q311.symm))
  have E_b310_e311 := E_b310.ext E311
  have F_coder_b310_e311 := F_coder_b310.ext E311
  have F_value_b310_e311 := F_value_b310.ext E311
  have F_hash_b310_e311 := F_hash_b310.ext E311
  have F_hashIsZero_b310_e311 := F_hashIsZero_b310.ext E311
  have O311 := O310.ext E311
  obtain ⟨T312, h312, X312, e312, W312, st312⟩ := stCh X311 hx hZ e311 V311 (i := 0) (by decide) (by decide) (x := (77 : Int32)) (g := (mkF m 23 #[.val (.int wh), .val (.int (0 : Int32)), .unset, .unset] [(.int (77 : Int32)), (.int (0 : Int32)), (.ref b311), (.ref b311), (.ref b310), (.ref b310)])) rfl rfl (hb hby at_23)
  have A312 := V311.wr W312
  have E_b310_e312 := E_b310_e311.wr W312
  have F_coder_b310_e312 := F_coder_b310_e311.other W312 (Or.inl ne_b310_b311)
  have F_value_b310_e312 := F_value_b310_e311.other W312 (Or.inl ne_b310_b311)
  have F_hash_b310_e312 := F_hash_b310_e311.other W312 (Or.inl ne_b310_b311)
  have F_hashIsZero_b310_e312 := F_hashIsZero_b310_e311.other W312 (Or.inl ne_b310_b311)
  have N312 := Fr.snoc X312 N0 g_b311
  have K312 := K311.wr W312 (Or.inr sz_b311)
  have Z312 : n0 ≤ h312.size := Nat.le_trans Z311 (Keep.of_wr W312).1
  have O312 := O311.wr W312 g_b311
  obtain ⟨T313, h313, X313, e313, W313, st313⟩ := stCh X312 hx hZ e312 A312 (i := 1) (by decide) (by decide) (x := (97 : Int32)) (g := (mkF m 28 #[.val (.int wh), .val (.int (0 : Int32)), .unset, .unset] [(.int (97 : Int32)), (.int (1 : Int32)), (.ref b311), (.ref b311), (.ref b310), (.ref b310)])) rfl rfl (hb hby at_28)
  have A313 := A312.wr W313
  have E_b310_e313 := E_b310_e312.wr W313
  have F_coder_b310_e313 := F_coder_b310_e312.other W313 (Or.inl ne_b310_b311)
  have F_value_b310_e313 := F_value_b310_e312.other W313 (Or.inl ne_b310_b311)
  have F_hash_b310_e313 := F_hash_b310_e312.other W313 (Or.inl ne_b310_b311)
  have F_hashIsZero_b310_e313 := F_hashIsZero_b310_e312.other W313 (Or.inl ne_b310_b311)
  have N313 := Fr.snoc X313 N312 g_b311
  have K313 := K312.wr W313 (Or.inr sz_b311)
  have Z313 : n0 ≤ h313.size := Nat.le_trans Z312 (Keep.of_wr W313).1
  have O313 := O312.wr W313 g_b311
  obtain ⟨T314, h314, X314, e314, W314, st314⟩ := stCh X313 hx hZ e313 A313 (i := 2) (by decide) (by decide) (x := (114 : Int32)) (g := (mkF m 33 #[.val (.int wh), .val (.int (0 : Int32)), .unset, .unset] [(.int (114 : Int32)), (.int (2 : Int32)), (.ref b311), (.ref b311), (.ref b310), (.ref b310)])) rfl rfl (hb hby at_33)
  have A314 := A313.wr W314
  have E_b310_e314 := E_b310_e313.wr W314
  have F_coder_b310_e314 := F_coder_b310_e313.other W314 (Or.inl ne_b310_b311)
  have F_value_b310_e314 := F_value_b310_e313.other W314 (Or.inl ne_b310_b311)
  have F_hash_b310_e314 := F_hash_b310_e313.other W314 (Or.inl ne_b310_b311)
  have F_hashIsZero_b310_e314 := F_hashIsZero_b310_e313.other W314 (Or.inl ne_b310_b311)
  have N314 := Fr.snoc X314 N313 g_b311
  have K314 := K313.wr W314 (Or.inr sz_b311)
  have Z314 : n0 ≤ h314.size := Nat.le_trans Z313 (Keep.of_wr W314).1
  have O314 := O313.wr W314 g_b311
  obtain ⟨T315, h315, X315, e315, W315, st315⟩ := stCh X314 hx hZ e314 A314 (i := 3) (by decide) (by decide) (x := (105 : Int32)) (g := (mkF m 38 #[.val (.int wh), .val (.int (0 : Int32)), .unset, .unset] [(.int (105 : Int32)), (.int (3 : Int32)), (.ref b311), (.ref b311), (.ref b310), (.ref b310)])) rfl rfl (hb hby at_38)
  have A315 := A314.wr W315
  have E_b310_e315 := E_b310_e314.wr W315
  have F_coder_b310_e315 := F_coder_b310_e314.other W315 (Or.inl ne_b310_b311)
  have F_value_b310_e315 := F_value_b310_e314.other W315 (Or.inl ne_b310_b311)
  have F_hash_b310_e315 := F_hash_b310_e314.other W315 (Or.inl ne_b310_b311)
  have F_hashIsZero_b310_e315 := F_hashIsZero_b310_e314.other W315 (Or.inl ne_b310_b311)
  have N315 := Fr.snoc X315 N314 g_b311
  have K315 := K314.wr W315 (Or.inr sz_b311)
  have Z315 : n0 ≤ h315.size := Nat.le_trans Z314 (Keep.of_wr W315).1
  have O315 := O314.wr W315 g_b311
  obtain ⟨T316, h316, X316, e316, W316, st316⟩ := stCh X315 hx hZ e315 A315 (i := 4) (by decide) (by decide) (x := (97 : Int32)) (g := (mkF m 43 #[.val (.int wh), .val (.int (0 : Int32)), .unset, .unset] [(.int (97 : Int32)), (.int (4 : Int32)), (.ref b311), (.ref b311), (.ref b310), (.ref b310)])) rfl rfl (hb hby at_43)
  have A316 := A315.wr W316
  have E_b310_e316 := E_b310_e315.wr W316
  have F_coder_b310_e316 := F_coder_b310_e315.other W316 (Or.inl ne_b310_b311)
  have F_value_b310_e316 := F_value_b310_e315.other W316 (Or.inl ne_b310_b311)
  have F_hash_b310_e316 := F_hash_b310_e315.other W316 (Or.inl ne_b310_b311)
  have F_hashIsZero_b310_e316 := F_hashIsZero_b310_e315.other W316 (Or.inl ne_b310_b311)
  have N316 := Fr.snoc X316 N315 g_b311
  have K316 := K315.wr W316 (Or.inr sz_b311)
  have Z316 : n0 ≤ h316.size := Nat.le_trans Z315 (Keep.of_wr W316).1
  have O316 := O315.wr W316 g_b311
  obtain ⟨T317, h317, X317, e317, W317, st317⟩ := stCh X316 hx hZ e316 A316 (i := 5) (by decide) (by decide) (x := (68 : Int32)) (g := (mkF m 48 #[.val (.int wh), .val (.int (0 : Int32)), .unset, .unset] [(.int (68 : Int32)), (.int (5 : Int32)), (.ref b311), (.ref b311), (.ref b310), (.ref b310)])) rfl rfl (hb hby at_48)
  have A317 := A316.wr W317
  have E_b310_e317 := E_b310_e316.wr W317
  have F_coder_b310_e317 := F_coder_b310_e316.other W317 (Or.inl ne_b310_b311)
  have F_value_b310_e317 := F_value_b310_e316.other W317 (Or.inl ne_b310_b311)
  have F_hash_b310_e317 := F_hash_b310_e316.other W317 (Or.inl ne_b310_b311)
  have F_hashIsZero_b310_e317 := F_hashIsZero_b310_e316.other W317 (Or.inl ne_b310_b311)
  have N317 := Fr.snoc X317 N316 g_b311
  have K317 := K316.wr W317 (Or.inr sz_b311)
  have Z317 : n0 ≤ h317.size := Nat.le_trans Z316 (Keep.of_wr W317).1
  have O317 := O316.wr W317 g_b311
  obtain ⟨T318, h318, X318, e318, W318, st318⟩ := stCh X317 hx hZ e317 A317 (i := 6) (by decide) (by decide) (x := (66 : Int32)) (g := (mkF m 54 #[.val (.int wh), .val (.int (0 : Int32)), .unset, .unset] [(.int (66 : Int32)), (.int (6 : Int32)), (.ref b311), (.ref b311), (.ref b310), (.ref b310)])) rfl rfl (hb hby at_54)
  have A318 := A317.wr W318
  have E_b310_e318 := E_b310_e317.wr W318
  have F_coder_b310_e318 := F_coder_b310_e317.other W318 (Or.inl ne_b310_b311)
  have F_value_b310_e318 := F_value_b310_e317.other W318 (Or.inl ne_b310_b311)
  have F_hash_b310_e318 := F_hash_b310_e317.other W318 (Or.inl ne_b310_b311)
  have F_hashIsZero_b310_e318 := F_hashIsZero_b310_e317.other W318 (Or.inl ne_b310_b311)
  have N318 := Fr.snoc X318 N317 g_b311
  have K318 := K317.wr W318 (Or.inr sz_b311)
  have Z318 : n0 ≤ h318.size := Nat.le_trans Z317 (Keep.of_wr W318).1
  have O318 := O317.wr W318 g_b311
  obtain ⟨_, _, ⟨T319, L319, k319, n319⟩, -, X319, ⟨Lc319, hQ319, l319, y319, z319⟩, st319⟩ := X318.specialBack hx (y := (⟨"java/lang/String", "<init>", "([C)V"⟩ : MethodName)) rfl hown (mvT hZ (hwi hw 5 rfl)) (mvT hZ (hwi hw 6 rfl)) (mvT hZ (hwi hw 7 rfl)) (by decide) (backOf (W := 1) (rmI1X l Z a0 hw [] b310 b311 7 (gl nl0) h318 n0 Z318 (by decide) (by decide) O318 SK (A318.congr (updS (updS (updS (updS (updS (updS (updS upd0 rfl) rfl) rfl) rfl) rfl) rfl) rfl)) E_b310_e318 F_value_b310_e318 F_coder_b310_e318 F_hash_b310_e318 F_hashIsZero_b310_e318 g_b310 (Ne.symm ne_b310_b311) (by decide)) hZ (hwi hw 7 rfl) (hwi hw 3 rfl) (by decide) (by decide)) (g := (mkF m 55 #[.val (.int wh), .val (.int (0 : Int32)), .unset, .unset] [(.ref b311), (.ref b310), (.ref b310)])) rfl (by rw [hml]; rfl) (Steps.refl _) (a := b310) (argsL := [(.ref b311)]) (rest := [(.ref b310)]) (lenOf pd_0 rfl) rfl (by show 2 * 0 + _ ≤ _; exact Nat.le_of_eq rfl) (hb hby at_55) (fun _ _ => ⟨rfl, e318, (by decide : 2 + 1 ≤ _), (by decide : 14 + 16 ≤ _)⟩)
  dsimp only [Pt.U, Pt.locs, Pt.cells, Pt.slots] at X319 l319 y319 z319 st319 hQ319
  obtain rfl : k319 = 3 := y319; obtain rfl : n319 = 30 := z319
  obtain ⟨rfl, N319q, K319, S319, H319, Y319⟩ := hQ319
  have N319 : Fr n0 L319 := by rw [l319]; exact Fr.app N318 N319q
  have KK319 := K318.trans K319 (fun x r => by cases List.mem_singleton.mp r; exact (Or.inr sz_b310))
  have Z319 : n0 ≤ T319.heap.size := Nat.le_trans Z318 K319.1
  have O319 := O318.keep K319 (all1 g_b310)
  have CHl := CHv.keep KK319 (fun x r => absurd r List.not_mem_nil) CH0
  have SFl := Safe.keep KK319 (fun x r => absurd r List.not_mem_nil) CH0 (Safe.new sz_b310)
  obtain ⟨_, _, ⟨T320, L320, k320, n320⟩, -, X320, hS2320, hg320, ⟨Lc320, hQ320, l320, y320, z320, C320⟩, st320⟩ := callSS X319 hx (y := (⟨"com/example/rigorous_lock/rigorouslock/io/SqlDialect", "of", "(Ljava/lang/String;)Lcom/example/rigorous_lock/rigorouslock/io/SqlDialect;"⟩ : MethodName)) hown (mvT hZ (hwi hw 31 rfl)) (mvT hZ (hwi hw 32 rfl)) (mvT hZ (hwi hw 33 rfl)) (mvT hZ (hwi hw 34 rfl)) (by decide) (backSafe (s := s) (vm0 := s.vm) (EL := EL1) (W := 0) (rmOF0 l Z a0 hw [] b310 T319.heap n0 Z319 O319 SK hEL g_b310 S319 H319 Y319) hZ (hwi hw 34 rfl) (hwi hw 33 rfl) (by decide) (by decide) hEL CHl S319.1.lt SFl) (g := (mkF m 173 #[.val (.int wh), .val (.int (0 : Int32)), .val (.ref b310), .unset] [(.ref b310)])) rfl (by rw [hml]; rfl) (argsL := [(.ref b310)]) (rest := []) (lenOf pd_6 rfl) rfl (by show 2 * 0 + _ ≤ _; exact Nat.le_of_eq rfl) (hb hby at_173) (fun _ _ => ⟨rfl, rfl, (by decide : 3 + 81 ≤ _), (by decide : 30 + 17273 ≤ _)⟩)
  dsimp only [Pt.U, Pt.locs, Pt.cells, Pt.slots] at X320 l320 y320 z320 st320 hQ320 hS2320 hg320
  obtain rfl : k320 = 84 := y320; obtain rfl : n320 = 17303 := z320
  obtain ⟨d320, rfl, N320q, K320, J320, x320, F320, S320⟩ := hQ320
  have N320 : Fr n0 L320 := by rw [l320]; exact Fr.app N319 N320q
  dsimp only [Pt.U, Pt.locs, Pt.cells, Pt.slots] at C320
  have CR320 := (CHr.keep KK319 (fun x r => absurd r List.not_mem_nil) CH0).trans C320
  have hS320 := foldS ((State.WarmedH.refl s).since 0) (by exact (Nat.zero_le _)) hS2320 hg320
  have hZ320 : Z.Warmed39 (s.setVm T320.vm).vm := State.Warmed39.trans hZ hS2320.1
  have hown320 : (s.setVm T320.vm).vm.findClass "com/example/rigorous_lock/rigorouslock/io/SqlDialectOfPinLaw" = some m.cls := by rw [show (s.setVm T320.vm).vm = T320.vm from rfl, hS2320.1.alike.findClass]; exact hown
  have KK320 := KK319.trans K320 (fun x r => by cases List.mem_singleton.mp r; exact (Or.inr sz_b310))
  have Z320 : n0 ≤ T320.heap.size := Nat.le_trans Z319 K320.1
  have O320 := O319.keep K320 (all1 g_b310)
  obtain ⟨T321, X321, e321, st321⟩ := instY X320 hx hZ320 hown320 (hwi hw 264 rfl) rfl (Ins.self J320) (g := (mkF m 214 #[.val (.int wh), .val (.int (0 : Int32)), .val (.ref b310), .val (.ref d320)] [(.ref d320)])) rfl rfl (hb hby at_214)
  obtain ⟨T322, X322, e322, st322⟩ := getF X321 hx hZ320 hown320 (host := "") (Or.inl (hwi hw 266 rfl)) Via.refl e321 F320 (g := (mkF m 221 #[.val (.int wh), .val (.int (0 : Int32)), .val (.ref b310), .val (.ref d320)] [(.ref d320)])) rfl rfl (hb hby at_221)
  obtain ⟨a323, T323, h323, k323, v323, kk323, X323, e323, E323, hS323, hk323, hZ323, hown323, Ex323, Fc323, Fv323, Av323, -, -, C323, -, -, st323⟩ := ldcCH (s := s) (vm0 := T320.vm) (EL := EL1) X322 hx hZ320 hown320 (hwi hw 267 rfl) hwS e322 hS320 (Nat.le_refl _) hEL (List.mem_of_getElem? (i := 30) rfl) C320.1 (vs := Lsc_SqlDialectOfPinLaw_33) (z := (41 : Int32)) (by decide +kernel) (by decide) (by decide +kernel) (g := (mkF m 224 #[.val (.int wh), .val (.int (0 : Int32)), .val (.ref b310), .val (.ref d320)] [(.ref x320)])) rfl (hb hby at_224) (n := 164) (by decide +kernel) (by decide) (by decide) (by decide)
  have SC323 : StrF Z h323 a323 41 sc_SqlDialectOfPinLaw_33 := ⟨⟨Ex323, v323, Fv323, Fc323, afOf Av323 rfl⟩, ft_sc_SqlDialectOfPinLaw_33 _⟩
  have J320_e323 := J320.ext E323
  have F320_e323 := F320.ext E323
  have O323 := O320.ext E323
  have K323 := KK320.ext E323
  have Z323 : n0 ≤ h323.size := Nat.le_trans Z320 E323.1
  have CR323 := CR320.trans C323
  have S320_x323 := S320.ext E323
  have ELa323 := S320_x323.1.1
  obtain ⟨cq324, kq324, q324a, q324b, q324c⟩ := isOf hZ323 e323 ELa323
  obtain ⟨_, _, ⟨T324, L324, k324, n324⟩, -, X324, ⟨Lc324, hQ324, l324, y324, z324⟩, st324⟩ := X323.virtualBack hx (y := (⟨"java/lang/String", "equals", "(Ljava/lang/Object;)Z"⟩ : MethodName)) (z := (⟨"java/lang/String", "equals", "(Ljava/lang/Object;)Z"⟩ : MethodName)) hown323 (mvT hZ323 (hwi hw 268 rfl)) (mvT hZ323 (hwi hw 66 rfl)) (notFace_of_selects (args := #[]) (mvT hZ323 (hwi hw 68 rfl))) (mvT hZ323 (hwi hw 68 rfl)) (mvT hZ323 (hwi hw 67 rfl)) (by decide) (backOf (W := 0) (rmEQ l Z a0 hw [] x320 a323 41 ie0 h323 n0 Z323 (by decide) O323 SK (S320_x323.1.congr (by decide +kernel)) (SC323.1.congr (by decide +kernel))) hZ323 (hwi hw 69 rfl) (hwi hw 3 rfl) (by decide) (by decide)) q324a q324c (g := (mkF m 226 #[.val (.int wh), .val (.int (0 : Int32)), .val (.ref b310), .val (.ref d320)] [(.ref a323), (.ref x320)])) rfl (by rw [hml]; rfl) (Steps.refl _) (argsL := [(.ref a323)]) (rest := []) (lenOf pd_12 rfl) rfl (by show 2 * 0 + _ ≤ _; exact Nat.le_of_eq rfl) (hb hby at_226) (fun _ _ => ⟨rfl, e323, (by decide : 86 + 0 ≤ _), (by decide : 17471 + 0 ≤ _)⟩)
  dsimp only [Pt.U, Pt.locs, Pt.cells, Pt.slots] at X324 l324 y324 z324 st324 hQ324
  obtain rfl : k324 = 86 := y324; obtain rfl : n324 = 17471 := z324
  obtain ⟨rfl, N324q, e324⟩ := hQ324
  have N324 : Fr n0 L324 := by rw [l324]; exact Fr.app N320 N324q
  obtain ⟨fs, hr, hrun, hended, -, hWW, hBB, hSS⟩ := Stand.leaveW (s := s) (vm₁ := T323.vm) X324 hS323 (by rw [e324]; exact hk323) (v := some (.int (1 : Int32))) (fun h => by rw [Bd.returns] at h; cases h)
  refine ⟨_, _, pre0 _ ?_, hrun, hended, _, _, rfl, ?_, ⟨_, rfl⟩, hWW, hBB, hSS.mono (by decide) (by decide)⟩
  · show Steps p.tables e below (s₁.setTop (mkF m 0 #[.val (.int wh), .unset, .unset, .unset] [])) _
    refine XS.iloadN X0.here hx rfl (hb hby at_0) rfl ?_
    refine X0.ldcInt hx hown (mvT hZ (hwi hw 0 rfl)) (g := (mkF m 1 #[.val (.int wh), .unset, .unset, .unset] [(.int wh)])) rfl (hb hby at_1) _ ?_
    refine XS.iand X0.here hx rfl (hb hby at_3) rfl ?_
    refine XS.iconst X0.here hx rfl (hb hby at_4) ?_
    refine gwIrem X0.here hx rfl (hb hby at_5) rfl (by decide) ?_
    show Steps p.tables e below (s₁.setTop (mkF m 6 #[.val (.int wh), .unset, .unset, .unset] [(.int (k3 wh))])) _
    refine XS.istoreN X0.here hx rfl (hb hby at_6) rfl (l' := #[.val (.int wh), .val (.int (k3 wh)), .unset, .unset]) rfl ?_
    show Steps p.tables e below (s₁.setTop (mkF m 7 #[.val (.int wh), .val (.int (k3 wh)), .unset, .unset] [])) _
    rw [show (k3 wh) = (0 : Int32) from hk]
    show Steps p.tables e below (s₁.setTop (mkF m 7 #[.val (.int wh), .val (.int (0 : Int32)), .unset, .unset] [])) _
    refine XS.iloadN X0.here hx rfl (hb hby at_7) rfl ?_
    refine XS.ifNo X0.here hx rfl (hb hby at_8) rfl ((if0 _ _).trans (teq (rfl : (0 : Int32) = (0 : Int32))).2) ?_
    show Steps p.tables e below (s₁.setTop (mkF m 11 #[.val (.int wh), .val (.int (0 : Int32)), .unset, .unset] [])) _
    refine st310 _ ?_
    refine XS.dup X310.here hx rfl (hb hby at_14) rfl rfl ?_
    refine XS.bipush X310.here hx rfl (hb hby at_15) ?_
    show Steps p.tables e below (T310.setTop (mkF m 17 #[.val (.int wh), .val (.int (0 : Int32)), .unset, .unset] [(.int (7 : Int32)), (.ref b310), (.ref b310)])) _
    refine st311 _ ?_
    refine XS.dup X311.here hx rfl (hb hby at_19) rfl rfl ?_
    refine XS.iconst X311.here hx rfl (hb hby at_20) ?_
    refine XS.bipush X311.here hx rfl (hb hby at_21) ?_
    show Steps p.tables e below (T311.setTop (mkF m 23 #[.val (.int wh), .val (.int (0 : Int32)), .unset, .unset] [(.int (77 : Int32)), (.int (0 : Int32)), (.ref b311), (.ref b311), (.ref b310), (.ref b310)])) _
    refine st312 _ ?_
    refine XS.dup X312.here hx rfl (hb hby at_24) rfl rfl ?_
    refine XS.iconst X312.here hx rfl (hb hby at_25) ?_
    refine XS.bipush X312.here hx rfl (hb hby at_26) ?_
    show Steps p.tables e below (T312.setTop (mkF m 28 #[.val (.int wh), .val (.int (0 : Int32)), .unset, .unset] [(.int (97 : Int32)), (.int (1 : Int32)), (.ref b311), (.ref b311), (.ref b310), (.ref b310)])) _
    refine st313 _ ?_
    refine XS.dup X313.here hx rfl (hb hby at_29) rfl rfl ?_
    refine XS.iconst X313.here hx rfl (hb hby at_30) ?_
    refine XS.bipush X313.here hx rfl (hb hby at_31) ?_
    show Steps p.tables e below (T313.setTop (mkF m 33 #[.val (.int wh), .val (.int (0 : Int32)), .unset, .unset] [(.int (114 : Int32)), (.int (2 : Int32)), (.ref b311), (.ref b311), (.ref b310), (.ref b310)])) _
    refine st314 _ ?_
    refine XS.dup X314.here hx rfl (hb hby at_34) rfl rfl ?_
    refine XS.iconst X314.here hx rfl (hb hby at_35) ?_
    refine XS.bipush X314.here hx rfl (hb hby at_36) ?_
    show Steps p.tables e below (T314.setTop (mkF m 38 #[.val (.int wh), .val (.int (0 : Int32)), .unset, .unset] [(.int (105 : Int32)), (.int (3 : Int32)), (.ref b311), (.ref b311), (.ref b310), (.ref b310)])) _
    refine st315 _ ?_
    refine XS.dup X315.here hx rfl (hb hby at_39) rfl rfl ?_
    refine XS.iconst X315.here hx rfl (hb hby at_40) ?_
    refine XS.bipush X315.here hx rfl (hb hby at_41) ?_
    show Steps p.tables e below (T315.setTop (mkF m 43 #[.val (.int wh), .val (.int (0 : Int32)), .unset, .unset] [(.int (97 : Int32)), (.int (4 : Int32)), (.ref b311), (.ref b311), (.ref b310), (.ref b310)])) _
    refine st316 _ ?_
    refine XS.dup X316.here hx rfl (hb hby at_44) rfl rfl ?_
    refine XS.iconst X316.here hx rfl (hb hby at_45) ?_
    refine XS.bipush X316.here hx rfl (hb hby at_46) ?_
    show Steps p.tables e below (T316.setTop (mkF m 48 #[.val (.int wh), .val (.int (0 : Int32)), .unset, .unset] [(.int (68 : Int32)), (.int (5 : Int32)), (.ref b311), (.ref b311), (.ref b310), (.ref b310)])) _
    refine st317 _ ?_
    refine XS.dup X317.here hx rfl (hb hby at_49) rfl rfl ?_
    refine XS.bipush X317.here hx rfl (hb hby at_50) ?_
    refine XS.bipush X317.here hx rfl (hb hby at_52) ?_
    show Steps p.tables e below (T317.setTop (mkF m 54 #[.val (.int wh), .val (.int (0 : Int32)), .unset, .unset] [(.int (66 : Int32)), (.int (6 : Int32)), (.ref b311), (.ref b311), (.ref b310), (.ref b310)])) _
    refine st318 _ ?_
    show Steps p.tables e below (T318.setTop (mkF m 55 #[.val (.int wh), .val (.int (0 : Int32)), .unset, .unset] [(.ref b311), (.ref b310), (.ref b310)])) _
    refine st319.trans ?_
    refine XS.astoreN X319.here hx rfl (hb hby at_58) rfl rfl (l' := #[.val (.int wh), .val (.int (0 : Int32)), .val (.ref b310), .unset]) rfl ?_
    refine XS.goto X319.here hx rfl (pc0 := 59) (pc' := 172) rfl (hb hby at_59) (by decide) (by decide) ?_
    refine XS.aloadN X319.here hx rfl (hb hby at_172) rfl rfl ?_
    show Steps p.tables e below (T319.setTop (mkF m 173 #[.val (.int wh), .val (.int (0 : Int32)), .val (.ref b310), .unset] [(.ref b310)])) _
    refine st320.trans ?_
    refine XS.astoreN X320.here hx rfl (hb hby at_176) rfl rfl (l' := #[.val (.int wh), .val (.int (0 : Int32)), .val (.ref b310), .val (.ref d320)]) rfl ?_
    refine XS.aloadN X320.here hx rfl (hb hby at_177) rfl rfl ?_
    refine XS.ifnonnullYes X320.here hx rfl (pc0 := 178) (pc' := 183) rfl (hb hby at_178) rfl (by decide) (by decide) ?_
    refine XS.iloadN X320.here hx rfl (hb hby at_183) rfl ?_
    refine XS.iconst X320.here hx rfl (hb hby at_184) ?_
    show Steps p.tables e below (T320.setTop (mkF m 185 #[.val (.int wh), .val (.int (0 : Int32)), .val (.ref b310), .val (.ref d320)] [(.int (2 : Int32)), (.int (0 : Int32))])) _
    refine XS.icmpYes X320.here hx rfl (pc0 := 185) (pc' := 213) rfl (hb hby at_185) rfl (feq (by decide : ¬ ((0 : Int32) = (2 : Int32)))).2 (by decide) (by decide) ?_
    refine XS.aloadN X320.here hx rfl (hb hby at_213) rfl rfl ?_
    show Steps p.tables e below (T320.setTop (mkF m 214 #[.val (.int wh), .val (.int (0 : Int32)), .val (.ref b310), .val (.ref d320)] [(.ref d320)])) _
    refine st321 _ ?_
    refine XS.ifNo X321.here hx rfl (hb hby at_217) rfl ((if0 _ _).trans (feq (by decide : ¬ ((1 : Int32) = (0 : Int32)))).1) ?_
    refine XS.aloadN X321.here hx rfl (hb hby at_220) rfl rfl ?_
    show Steps p.tables e below (T321.setTop (mkF m 221 #[.val (.int wh), .val (.int (0 : Int32)), .val (.ref b310), .val (.ref d320)] [(.ref d320)])) _
    refine st322 _ ?_
    show Steps p.tables e below (T322.setTop (mkF m 224 #[.val (.int wh), .val (.int (0 : Int32)), .val (.ref b310), .val (.ref d320)] [(.ref x320)])) _
    refine st323 _ ?_
    show Steps p.tables e below (T323.setTop (mkF m 226 #[.val (.int wh), .val (.int (0 : Int32)), .val (.ref b310), .val (.ref d320)] [(.ref a323), (.ref x320)])) _
    refine st324.trans ?_
    refine XS.ifNo X324.here hx rfl (hb hby at_229) rfl ((if0 _ _).trans (feq (by decide : ¬ ((1 : Int32) = (0 : Int32)))).1) ?_
    refine XS.iconst X324.here hx rfl (hb hby at_232) ?_
    refine XS.goto X324.here hx rfl (pc0 := 233) (pc' := 237) rfl (hb hby at_233) (by decide) (by decide) ?_
    show Steps p.tables e below (T324.setTop (mkF m 237 #[.val (.int wh), .val (.int (0 : Int32)), .val (.ref b310), .val (.ref d320)] [(.int (1 : Int32))])) _
    exact retN X324 hx (t := .boolean) Bd.returns (by simp) (hb hby at_237) hr
  · show Q0  h0 n0 _ T324.heap _
    exact ⟨rfl, N324⟩
set_option maxRecDepth 65536 in
set_option maxHeartbeats 40000000 in
theorem rm0_1 (l : Launch) (Z : State) (a0 : Array Value) (hw : ∀ d ∈ tables_1, d.before a0 Z = true) (ws : List Jvm.Cond) (wh : Int32)  (h0 : Heap) (n0 : Nat) (Z0 : n0 ≤ h0.size) (hk : k3 wh = (1 : Int32)) (O : Old Z n0 h0) (SK : StrSta Z) (hEL : EW Z a0 EL1)  :
    MetFree l x (head1 (Jvm.Cond.code x code maxLocals ret :: ws) room_1) (fun aa_ U_ => aa_ = #[(.int wh)] ∧ Z.Warmed39 U_.vm ∧ U_.heap = h0 ∧ CHv Z EL1 U_.vm h0) (fun _ _ _ _ _ => True) (fun _ U_ o_ V_ => ∃ v_ L_, o_ = .returned v_ ∧ Q0  h0 n0 v_ V_.heap L_ ∧ ReturnedEndW U_ o_ V_ L_ room_1.cells room_1.slots) := by
  refine MetFree.of_bodySF (plainFor_of_name pn_0) hisR ?_
  intro p e s m args below meth c s₁ Bd hml0 hP hK
  obtain ⟨rfl, hZ, hh, CH0⟩ := hP
  have hx := Bd.exec
  have hby := Bd.bytes
  have hml : c.maxLocals = 4 := hml0
  have hown : s.vm.findClass "com/example/rigorous_lock/rigorouslock/io/SqlDialectOfPinLaw" = some m.cls := findClass_of_methodNamed Bd.named
  have hnm := (name_of_methodNamed Bd.named Bd.method).1
  have X0 : Stand p l e room_1 s m #[(.int wh)] below meth c s₁ [] 0 0 := Stand.of_body Bd
  have e0 : s₁.heap = h0 := by rw [← hh, Bd.state]; rfl
  have N0 := Fr.nil n0
  have pre0 : ∀ zz, Steps p.tables e below (s₁.setTop (mkF m 0 #[.val (.int wh), .unset, .unset, .unset] [])) zz → Steps p.tables e below (s₁.setTop (entryFrame m #[(.int wh)] maxLocals)) zz := fun zz kz_ => castTop (ef_0 m wh) kz_
  have hwS : ∀ a ∈ Bundle.stringAtoms, a.before a0 Z = true := fun d hd => hw d (by simpa using (List.all_eq_true.mp (by decide +kernel : (Bundle.stringAtoms.all fun c => tables_1.contains c) = true)) d hd)
  obtain ⟨T325, h325, X325, e325, E325, A325, D325, -, st325⟩ := newO X0 hx hZ hown (hwi hw 1 rfl) (hwi hw 2 rfl) (hwi hw 3 rfl) e0 (g := (mkF m 67 #[.val (.int wh), .val (.int (1 : Int32)), .unset, .unset] [])) rfl (hb hby at_67) (by decide) (by decide)
  obtain ⟨b325, g325⟩ : ∃ z, z = h0.size := ⟨_, rfl⟩
  rw [← g325] at A325 D325 st325
  have E_b325 := A325
  have g_b325 : n0 ≤ b325 := Nat.le_trans Z0 (Nat.le_of_eq g325.symm)
  have sz_b325 : h0.size ≤ b325 := Nat.le_trans (Keep.refl h0 []).1 (Nat.le_of_eq g325.symm)
  have K325 := (Keep.refl h0 []).ext E325
  have Z325 : n0 ≤ h325.size := Nat.le_trans Z0 E325.1
  have F_coder_b325 : Fld Z h325 b325 "java/lang/String" "coder" "B" (.int (0 : Int32)) := D325 (Or.inr (hwi hw 28 rfl)) (ty := .byte) (by decide)
  have F_value_b325 : Fld Z h325 b325 "java/lang/String" "value" "[B" .null := D325 (Or.inr (hwi hw 30 rfl)) (ty := (.array .byte)) (by decide)
  have F_hash_b325 : Fld Z h325 b325 "java/lang/String" "hash" "I" (.int (0 : Int32)) := D325 (Or.inl (hwi hw 41 rfl)) (ty := .int) (by decide)
  have F_hashIsZero_b325 : Fld Z h325 b325 "java/lang/String" "hashIsZero" "Z" (.int (0 : Int32)) := D325 (Or.inl (hwi hw 43 rfl)) (ty := .boolean) (by decide)
  have O325 := O.ext E325
  obtain ⟨T326, h326, X326, e326, E326, A326, st326⟩ := nwA X325 hx hZ (hwi hw 4 rfl) e325 (g := (mkF m 72 #[.val (.int wh), .val (.int (1 : Int32)), .unset, .unset] [(.int (5 : Int32)), (.ref b325), (.ref b325)])) rfl (hb hby at_72) (n := 5) rfl (cap := 10) (by decide) (by decide) (by decide) (by decide)
  obtain ⟨b326, q326⟩ : ∃ z, z = h325.size := ⟨_, rfl⟩
  rw [← q326] at A326 st326
  have V326 : AF Z h326 b326 .char 5 (fun _ => (.int (0 : Int32))) := A326
  have g_b326 : n0 ≤ b326 := Nat.le_trans Z325 (Nat.le_of_eq q326.symm)
  have sz_b326 : h0.size ≤ b326 := Nat.le_trans K325.1 (Nat.le_of_eq q326.symm)
  have K326 := K325.ext E326
  have Z326 : n0 ≤ h326.size := Nat.le_trans Z325 E326.1
  have ne_b325_b326 : b325 ≠ b326 := Nat.ne_of_lt (Nat.lt_of_lt_of_le E_b325.lt (Nat.le_of_eq q326.symm))
  have E_b325_e326 := E_b325.ext E326
  have F_coder_b325_e326 := F_coder_b325.ext E326
  have F_value_b325_e326 := F_value_b325.ext E326
  have F_hash_b325_e326 := F_hash_b325.ext E326
  have F_hashIsZero_b325_e326 := F_hashIsZero_b325.ext E326
  have O326 := O325.ext E326
  obtain ⟨T327, h327, X327, e327, W327, st327⟩ := stCh X326 hx hZ e326 V326 (i := 0) (by decide) (by decide) (x := (77 : Int32)) (g := (mkF m 78 #[.val (.int wh), .val (.int (1 : Int32)), .unset, .unset] [(.int (77 : Int32)), (.int (0 : Int32)), (.ref b326), (.ref b326), (.ref b325), (.ref b325)])) rfl rfl (hb hby at_78)
  have A327 := V326.wr W327
  have E_b325_e327 := E_b325_e326.wr W327
  have F_coder_b325_e327 := F_coder_b325_e326.other W327 (Or.inl ne_b325_b326)
  have F_value_b325_e327 := F_value_b325_e326.other W327 (Or.inl ne_b325_b326)
  have F_hash_b325_e327 := F_hash_b325_e326.other W327 (Or.inl ne_b325_b326)
  have F_hashIsZero_b325_e327 := F_hashIsZero_b325_e326.other W327 (Or.inl ne_b325_b326)
  have N327 := Fr.snoc X327 N0 g_b326
  have K327 := K326.wr W327 (Or.inr sz_b326)
  have Z327 : n0 ≤ h327.size := Nat.le_trans Z326 (Keep.of_wr W327).1
  have O327 := O326.wr W327 g_b326
  obtain ⟨T328, h328, X328, e328, W328, st328⟩ := stCh X327 hx hZ e327 A327 (i := 1) (by decide) (by decide) (x := (121 : Int32)) (g := (mkF m 83 #[.val (.int wh), .val (.int (1 : Int32)), .unset, .unset] [(.int (121 : Int32)), (.int (1 : Int32)), (.ref b326), (.ref b326), (.ref b325), (.ref b325)])) rfl rfl (hb hby at_83)
  have A328 := A327.wr W328
  have E_b325_e328 := E_b325_e327.wr W328
  have F_coder_b325_e328 := F_coder_b325_e327.other W328 (Or.inl ne_b325_b326)
  have F_value_b325_e328 := F_value_b325_e327.other W328 (Or.inl ne_b325_b326)
  have F_hash_b325_e328 := F_hash_b325_e327.other W328 (Or.inl ne_b325_b326)
  have F_hashIsZero_b325_e328 := F_hashIsZero_b325_e327.other W328 (Or.inl ne_b325_b326)
  have N328 := Fr.snoc X328 N327 g_b326
  have K328 := K327.wr W328 (Or.inr sz_b326)
  have Z328 : n0 ≤ h328.size := Nat.le_trans Z327 (Keep.of_wr W328).1
  have O328 := O327.wr W328 g_b326
  obtain ⟨T329, h329, X329, e329, W329, st329⟩ := stCh X328 hx hZ e328 A328 (i := 2) (by decide) (by decide) (x := (83 : Int32)) (g := (mkF m 88 #[.val (.int wh), .val (.int (1 : Int32)), .unset, .unset] [(.int (83 : Int32)), (.int (2 : Int32)), (.ref b326), (.ref b326), (.ref b325), (.ref b325)])) rfl rfl (hb hby at_88)
  have A329 := A328.wr W329
  have E_b325_e329 := E_b325_e328.wr W329
  have F_coder_b325_e329 := F_coder_b325_e328.other W329 (Or.inl ne_b325_b326)
  have F_value_b325_e329 := F_value_b325_e328.other W329 (Or.inl ne_b325_b326)
  have F_hash_b325_e329 := F_hash_b325_e328.other W329 (Or.inl ne_b325_b326)
  have F_hashIsZero_b325_e329 := F_hashIsZero_b325_e328.other W329 (Or.inl ne_b325_b326)
  have N329 := Fr.snoc X329 N328 g_b326
  have K329 := K328.wr W329 (Or.inr sz_b326)
  have Z329 : n0 ≤ h329.size := Nat.le_trans Z328 (Keep.of_wr W329).1
  have O329 := O328.wr W329 g_b326
  obtain ⟨T330, h330, X330, e330, W330, st330⟩ := stCh X329 hx hZ e329 A329 (i := 3) (by decide) (by decide) (x := (81 : Int32)) (g := (mkF m 93 #[.val (.int wh), .val (.int (1 : Int32)), .unset, .unset] [(.int (81 : Int32)), (.int (3 : Int32)), (.ref b326), (.ref b326), (.ref b325), (.ref b325)])) rfl rfl (hb hby at_93)
  have A330 := A329.wr W330
  have E_b325_e330 := E_b325_e329.wr W330
  have F_coder_b325_e330 := F_coder_b325_e329.other W330 (Or.inl ne_b325_b326)
  have F_value_b325_e330 := F_value_b325_e329.other W330 (Or.inl ne_b325_b326)
  have F_hash_b325_e330 := F_hash_b325_e329.other W330 (Or.inl ne_b325_b326)
  have F_hashIsZero_b325_e330 := F_hashIsZero_b325_e329.other W330 (Or.inl ne_b325_b326)
  have N330 := Fr.snoc X330 N329 g_b326
  have K330 := K329.wr W330 (Or.inr sz_b326)
  have Z330 : n0 ≤ h330.size := Nat.le_trans Z329 (Keep.of_wr W330).1
  have O330 := O329.wr W330 g_b326
  obtain ⟨T331, h331, X331, e331, W331, st331⟩ := stCh X330 hx hZ e330 A330 (i := 4) (by decide) (by decide) (x := (76 : Int32)) (g := (mkF m 98 #[.val (.int wh), .val (.int (1 : Int32)), .unset, .unset] [(.int (76 : Int32)), (.int (4 : Int32)), (.ref b326), (.ref b326), (.ref b325), (.ref b325)])) rfl rfl (hb hby at_98)
  have A331 := A330.wr W331
  have E_b325_e331 := E_b325_e330.wr W331
  have F_coder_b325_e331 := F_coder_b325_e330.other W331 (Or.inl ne_b325_b326)
  have F_value_b325_e331 := F_value_b325_e330.other W331 (Or.inl ne_b325_b326)
  have F_hash_b325_e331 := F_hash_b325_e330.other W331 (Or.inl ne_b325_b326)
  have F_hashIsZero_b325_e331 := F_hashIsZero_b325_e330.other W331 (Or.inl ne_b325_b326)
  have N331 := Fr.snoc X331 N330 g_b326
  have K331 := K330.wr W331 (Or.inr sz_b326)
  have Z331 : n0 ≤ h331.size := Nat.le_trans Z330 (Keep.of_wr W331).1
  have O331 := O330.wr W331 g_b326
  obtain ⟨_, _, ⟨T332, L332, k332, n332⟩, -, X332, ⟨Lc332, hQ332, l332, y332, z332⟩, st332⟩ := X331.specialBack hx (y := (⟨"java/lang/String", "<init>", "([C)V"⟩ : MethodName)) rfl hown (mvT hZ (hwi hw 5 rfl)) (mvT hZ (hwi hw 6 rfl)) (mvT hZ (hwi hw 7 rfl)) (by decide) (backOf (W := 1) (rmI1X l Z a0 hw [] b325 b326 5 (gl nl1) h331 n0 Z331 (by decide) (by decide) O331 SK (A331.congr (updS (updS (updS (updS (updS upd0 rfl) rfl) rfl) rfl) rfl)) E_b325_e331 F_value_b325_e331 F_coder_b325_e331 F_hash_b325_e331 F_hashIsZero_b325_e331 g_b325 (Ne.symm ne_b325_b326) (by decide)) hZ (hwi hw 7 rfl) (hwi hw 3 rfl) (by decide) (by decide)) (g := (mkF m 99 #[.val (.int wh), .val (.int (1 : Int32)), .unset, .unset] [(.ref b326), (.ref b325), (.ref b325)])) rfl (by rw [hml]; rfl) (Steps.refl _) (a := b325) (argsL := [(.ref b326)]) (rest := [(.ref b325)]) (lenOf pd_0 rfl) rfl (by show 2 * 0 + _ ≤ _; exact Nat.le_of_eq rfl) (hb hby at_99) (fun _ _ => ⟨rfl, e331, (by decide : 2 + 1 ≤ _), (by decide : 14 + 16 ≤ _)⟩)
  dsimp only [Pt.U, Pt.locs, Pt.cells, Pt.slots] at X332 l332 y332 z332 st332 hQ332
  obtain rfl : k332 = 3 := y332; obtain rfl : n332 = 30 := z332
  obtain ⟨rfl, N332q, K332, S332, H332, Y332⟩ := hQ332
  have N332 : Fr n0 L332 := by rw [l332]; exact Fr.app N331 N332q
  have KK332 := K331.trans K332 (fun x r => by cases List.mem_singleton.mp r; exact (Or.inr sz_b325))
  have Z332 : n0 ≤ T332.heap.size := Nat.le_trans Z331 K332.1
  have O332 := O331.keep K332 (all1 g_b325)
  have CHl := CHv.keep KK332 (fun x r => absurd r List.not_mem_nil) CH0
  have SFl := Safe.keep KK332 (fun x r => absurd r List.not_mem_nil) CH0 (Safe.new sz_b325)
  obtain ⟨_, _, ⟨T333, L333, k333, n333⟩, -, X333, hS2333, hg333, ⟨Lc333, hQ333, l333, y333, z333, C333⟩, st333⟩ := callSS X332 hx (y := (⟨"com/example/rigorous_lock/rigorouslock/io/SqlDialect", "of", "(Ljava/lang/String;)Lcom/example/rigorous_lock/rigorouslock/io/SqlDialect;"⟩ : MethodName)) hown (mvT hZ (hwi hw 31 rfl)) (mvT hZ (hwi hw 32 rfl)) (mvT hZ (hwi hw 33 rfl)) (mvT hZ (hwi hw 34 rfl)) (by decide) (backSafe (s := s) (vm0 := s.vm) (EL := EL1) (W := 0) (rmOF1 l Z a0 hw [] b325 T332.heap n0 Z332 O332 SK hEL g_b325 S332 H332 Y332) hZ (hwi hw 34 rfl) (hwi hw 33 rfl) (by decide) (by decide) hEL CHl S332.1.lt SFl) (g := (mkF m 173 #[.val (.int wh), .val (.int (1 : Int32)), .val (.ref b325), .unset] [(.ref b325)])) rfl (by rw [hml]; rfl) (argsL := [(.ref b325)]) (rest := []) (lenOf pd_6 rfl) rfl (by show 2 * 0 + _ ≤ _; exact Nat.le_of_eq rfl) (hb hby at_173) (fun _ _ => ⟨rfl, rfl, (by decide : 3 + 81 ≤ _), (by decide : 30 + 17265 ≤ _)⟩)
  dsimp only [Pt.U, Pt.locs, Pt.cells, Pt.slots] at X333 l333 y333 z333 st333 hQ333 hS2333 hg333
  obtain rfl : k333 = 84 := y333; obtain rfl : n333 = 17295 := z333
  obtain ⟨d333, rfl, N333q, K333, J333, x333, F333, S333⟩ := hQ333
  have N333 : Fr n0 L333 := by rw [l333]; exact Fr.app N332 N333q
  dsimp only [Pt.U, Pt.locs, Pt.cells, Pt.slots] at C333
  have CR333 := (CHr.keep KK332 (fun x r => absurd r List.not_mem_nil) CH0).trans C333
  have hS333 := foldS ((State.WarmedH.refl s).since 0) (by exact (Nat.zero_le _)) hS2333 hg333
  have hZ333 : Z.Warmed39 (s.setVm T333.vm).vm := State.Warmed39.trans hZ hS2333.1
  have hown333 : (s.setVm T333.vm).vm.findClass "com/example/rigorous_lock/rigorouslock/io/SqlDialectOfPinLaw" = some m.cls := by rw [show (s.setVm T333.vm).vm = T333.vm from rfl, hS2333.1.alike.findClass]; exact hown
  have KK333 := KK332.trans K333 (fun x r => by cases List.mem_singleton.mp r; exact (Or.inr sz_b325))
  have Z333 : n0 ≤ T333.heap.size := Nat.le_trans Z332 K333.1
  have O333 := O332.keep K333 (all1 g_b325)
  obtain ⟨T334, X334, e334, st334⟩ := instY X333 hx hZ333 hown333 (hwi hw 264 rfl) rfl (Ins.self J333) (g := (mkF m 214 #[.val (.int wh), .val (.int (1 : Int32)), .val (.ref b325), .val (.ref d333)] [(.ref d333)])) rfl rfl (hb hby at_214)
  obtain ⟨T335, X335, e335, st335⟩ := getF X334 hx hZ333 hown333 (host := "") (Or.inl (hwi hw 266 rfl)) Via.refl e334 F333 (g := (mkF m 221 #[.val (.int wh), .val (.int (1 : Int32)), .val (.ref b325), .val (.ref d333)] [(.ref d333)])) rfl rfl (hb hby at_221)
  obtain ⟨a336, T336, h336, k336, v336, kk336, X336, e336, E336, hS336, hk336, hZ336, hown336, Ex336, Fc336, Fv336, Av336, -, -, C336, -, -, st336⟩ := ldcCH (s := s) (vm0 := T333.vm) (EL := EL1) X335 hx hZ333 hown333 (hwi hw 267 rfl) hwS e335 hS333 (Nat.le_refl _) hEL (List.mem_of_getElem? (i := 30) rfl) C333.1 (vs := Lsc_SqlDialectOfPinLaw_33) (z := (41 : Int32)) (by decide +kernel) (by decide) (by decide +kernel) (g := (mkF m 224 #[.val (.int wh), .val (.int (1 : Int32)), .val (.ref b325), .val (.ref d333)] [(.ref x333)])) rfl (hb hby at_224) (n := 164) (by decide +kernel) (by decide) (by decide) (by decide)
  have SC336 : StrF Z h336 a336 41 sc_SqlDialectOfPinLaw_33 := ⟨⟨Ex336, v336, Fv336, Fc336, afOf Av336 rfl⟩, ft_sc_SqlDialectOfPinLaw_33 _⟩
  have J333_e336 := J333.ext E336
  have F333_e336 := F333.ext E336
  have O336 := O333.ext E336
  have K336 := KK333.ext E336
  have Z336 : n0 ≤ h336.size := Nat.le_trans Z333 E336.1
  have CR336 := CR333.trans C336
  have S333_x336 := S333.ext E336
  have ELa336 := S333_x336.1.1
  obtain ⟨cq337, kq337, q337a, q337b, q337c⟩ := isOf hZ336 e336 ELa336
  obtain ⟨_, _, ⟨T337, L337, k337, n337⟩, -, X337, ⟨Lc337, hQ337, l337, y337, z337⟩, st337⟩ := X336.virtualBack hx (y := (⟨"java/lang/String", "equals", "(Ljava/lang/Object;)Z"⟩ : MethodName)) (z := (⟨"java/lang/String", "equals", "(Ljava/lang/Object;)Z"⟩ : MethodName)) hown336 (mvT hZ336 (hwi hw 268 rfl)) (mvT hZ336 (hwi hw 66 rfl)) (notFace_of_selects (args := #[]) (mvT hZ336 (hwi hw 68 rfl))) (mvT hZ336 (hwi hw 68 rfl)) (mvT hZ336 (hwi hw 67 rfl)) (by decide) (backOf (W := 0) (rmEQ l Z a0 hw [] x333 a336 41 ie0 h336 n0 Z336 (by decide) O336 SK (S333_x336.1.congr (by decide +kernel)) (SC336.1.congr (by decide +kernel))) hZ336 (hwi hw 69 rfl) (hwi hw 3 rfl) (by decide) (by decide)) q337a q337c (g := (mkF m 226 #[.val (.int wh), .val (.int (1 : Int32)), .val (.ref b325), .val (.ref d333)] [(.ref a336), (.ref x333)])) rfl (by rw [hml]; rfl) (Steps.refl _) (argsL := [(.ref a336)]) (rest := []) (lenOf pd_12 rfl) rfl (by show 2 * 0 + _ ≤ _; exact Nat.le_of_eq rfl) (hb hby at_226) (fun _ _ => ⟨rfl, e336, (by decide : 86 + 0 ≤ _), (by decide : 17463 + 0 ≤ _)⟩)
  dsimp only [Pt.U, Pt.locs, Pt.cells, Pt.slots] at X337 l337 y337 z337 st337 hQ337
  obtain rfl : k337 = 86 := y337; obtain rfl : n337 = 17463 := z337
  obtain ⟨rfl, N337q, e337⟩ := hQ337
  have N337 : Fr n0 L337 := by rw [l337]; exact Fr.app N333 N337q
  obtain ⟨fs, hr, hrun, hended, -, hWW, hBB, hSS⟩ := Stand.leaveW (s := s) (vm₁ := T336.vm) X337 hS336 (by rw [e337]; exact hk336) (v := some (.int (1 : Int32))) (fun h => by rw [Bd.returns] at h; cases h)
  refine ⟨_, _, pre0 _ ?_, hrun, hended, _, _, rfl, ?_, ⟨_, rfl⟩, hWW, hBB, hSS.mono (by decide) (by decide)⟩
  · show Steps p.tables e below (s₁.setTop (mkF m 0 #[.val (.int wh), .unset, .unset, .unset] [])) _
    refine XS.iloadN X0.here hx rfl (hb hby at_0) rfl ?_
    refine X0.ldcInt hx hown (mvT hZ (hwi hw 0 rfl)) (g := (mkF m 1 #[.val (.int wh), .unset, .unset, .unset] [(.int wh)])) rfl (hb hby at_1) _ ?_
    refine XS.iand X0.here hx rfl (hb hby at_3) rfl ?_
    refine XS.iconst X0.here hx rfl (hb hby at_4) ?_
    refine gwIrem X0.here hx rfl (hb hby at_5) rfl (by decide) ?_
    show Steps p.tables e below (s₁.setTop (mkF m 6 #[.val (.int wh), .unset, .unset, .unset] [(.int (k3 wh))])) _
    refine XS.istoreN X0.here hx rfl (hb hby at_6) rfl (l' := #[.val (.int wh), .val (.int (k3 wh)), .unset, .unset]) rfl ?_
    show Steps p.tables e below (s₁.setTop (mkF m 7 #[.val (.int wh), .val (.int (k3 wh)), .unset, .unset] [])) _
    rw [show (k3 wh) = (1 : Int32) from hk]
    show Steps p.tables e below (s₁.setTop (mkF m 7 #[.val (.int wh), .val (.int (1 : Int32)), .unset, .unset] [])) _
    refine XS.iloadN X0.here hx rfl (hb hby at_7) rfl ?_
    refine XS.ifYes X0.here hx rfl (pc0 := 8) (pc' := 62) rfl (hb hby at_8) rfl ((if0 _ _).trans (feq (by decide : ¬ ((1 : Int32) = (0 : Int32)))).2) (by decide) (by decide) ?_
    refine XS.iloadN X0.here hx rfl (hb hby at_62) rfl ?_
    refine XS.iconst X0.here hx rfl (hb hby at_63) ?_
    refine XS.icmpNo X0.here hx rfl (hb hby at_64) rfl (teq (rfl : (1 : Int32) = (1 : Int32))).2 ?_
    show Steps p.tables e below (s₁.setTop (mkF m 67 #[.val (.int wh), .val (.int (1 : Int32)), .unset, .unset] [])) _
    refine st325 _ ?_
    refine XS.dup X325.here hx rfl (hb hby at_70) rfl rfl ?_
    refine XS.iconst X325.here hx rfl (hb hby at_71) ?_
    show Steps p.tables e below (T325.setTop (mkF m 72 #[.val (.int wh), .val (.int (1 : Int32)), .unset, .unset] [(.int (5 : Int32)), (.ref b325), (.ref b325)])) _
    refine st326 _ ?_
    refine XS.dup X326.here hx rfl (hb hby at_74) rfl rfl ?_
    refine XS.iconst X326.here hx rfl (hb hby at_75) ?_
    refine XS.bipush X326.here hx rfl (hb hby at_76) ?_
    show Steps p.tables e below (T326.setTop (mkF m 78 #[.val (.int wh), .val (.int (1 : Int32)), .unset, .unset] [(.int (77 : Int32)), (.int (0 : Int32)), (.ref b326), (.ref b326), (.ref b325), (.ref b325)])) _
    refine st327 _ ?_
    refine XS.dup X327.here hx rfl (hb hby at_79) rfl rfl ?_
    refine XS.iconst X327.here hx rfl (hb hby at_80) ?_
    refine XS.bipush X327.here hx rfl (hb hby at_81) ?_
    show Steps p.tables e below (T327.setTop (mkF m 83 #[.val (.int wh), .val (.int (1 : Int32)), .unset, .unset] [(.int (121 : Int32)), (.int (1 : Int32)), (.ref b326), (.ref b326), (.ref b325), (.ref b325)])) _
    refine st328 _ ?_
    refine XS.dup X328.here hx rfl (hb hby at_84) rfl rfl ?_
    refine XS.iconst X328.here hx rfl (hb hby at_85) ?_
    refine XS.bipush X328.here hx rfl (hb hby at_86) ?_
    show Steps p.tables e below (T328.setTop (mkF m 88 #[.val (.int wh), .val (.int (1 : Int32)), .unset, .unset] [(.int (83 : Int32)), (.int (2 : Int32)), (.ref b326), (.ref b326), (.ref b325), (.ref b325)])) _
    refine st329 _ ?_
    refine XS.dup X329.here hx rfl (hb hby at_89) rfl rfl ?_
    refine XS.iconst X329.here hx rfl (hb hby at_90) ?_
    refine XS.bipush X329.here hx rfl (hb hby at_91) ?_
    show Steps p.tables e below (T329.setTop (mkF m 93 #[.val (.int wh), .val (.int (1 : Int32)), .unset, .unset] [(.int (81 : Int32)), (.int (3 : Int32)), (.ref b326), (.ref b326), (.ref b325), (.ref b325)])) _
    refine st330 _ ?_
    refine XS.dup X330.here hx rfl (hb hby at_94) rfl rfl ?_
    refine XS.iconst X330.here hx rfl (hb hby at_95) ?_
    refine XS.bipush X330.here hx rfl (hb hby at_96) ?_
    show Steps p.tables e below (T330.setTop (mkF m 98 #[.val (.int wh), .val (.int (1 : Int32)), .unset, .unset] [(.int (76 : Int32)), (.int (4 : Int32)), (.ref b326), (.ref b326), (.ref b325), (.ref b325)])) _
    refine st331 _ ?_
    show Steps p.tables e below (T331.setTop (mkF m 99 #[.val (.int wh), .val (.int (1 : Int32)), .unset, .unset] [(.ref b326), (.ref b325), (.ref b325)])) _
    refine st332.trans ?_
    refine XS.astoreN X332.here hx rfl (hb hby at_102) rfl rfl (l' := #[.val (.int wh), .val (.int (1 : Int32)), .val (.ref b325), .unset]) rfl ?_
    refine XS.goto X332.here hx rfl (pc0 := 103) (pc' := 172) rfl (hb hby at_103) (by decide) (by decide) ?_
    refine XS.aloadN X332.here hx rfl (hb hby at_172) rfl rfl ?_
    show Steps p.tables e below (T332.setTop (mkF m 173 #[.val (.int wh), .val (.int (1 : Int32)), .val (.ref b325), .unset] [(.ref b325)])) _
    refine st333.trans ?_
    refine XS.astoreN X333.here hx rfl (hb hby at_176) rfl rfl (l' := #[.val (.int wh), .val (.int (1 : Int32)), .val (.ref b325), .val (.ref d333)]) rfl ?_
    refine XS.aloadN X333.here hx rfl (hb hby at_177) rfl rfl ?_
    refine XS.ifnonnullYes X333.here hx rfl (pc0 := 178) (pc' := 183) rfl (hb hby at_178) rfl (by decide) (by decide) ?_
    refine XS.iloadN X333.here hx rfl (hb hby at_183) rfl ?_
    refine XS.iconst X333.here hx rfl (hb hby at_184) ?_
    show Steps p.tables e below (T333.setTop (mkF m 185 #[.val (.int wh), .val (.int (1 : Int32)), .val (.ref b325), .val (.ref d333)] [(.int (2 : Int32)), (.int (1 : Int32))])) _
    refine XS.icmpYes X333.here hx rfl (pc0 := 185) (pc' := 213) rfl (hb hby at_185) rfl (feq (by decide : ¬ ((1 : Int32) = (2 : Int32)))).2 (by decide) (by decide) ?_
    refine XS.aloadN X333.here hx rfl (hb hby at_213) rfl rfl ?_
    show Steps p.tables e below (T333.setTop (mkF m 214 #[.val (.int wh), .val (.int (1 : Int32)), .val (.ref b325), .val (.ref d333)] [(.ref d333)])) _
    refine st334 _ ?_
    refine XS.ifNo X334.here hx rfl (hb hby at_217) rfl ((if0 _ _).trans (feq (by decide : ¬ ((1 : Int32) = (0 : Int32)))).1) ?_
    refine XS.aloadN X334.here hx rfl (hb hby at_220) rfl rfl ?_
    show Steps p.tables e below (T334.setTop (mkF m 221 #[.val (.int wh), .val (.int (1 : Int32)), .val (.ref b325), .val (.ref d333)] [(.ref d333)])) _
    refine st335 _ ?_
    show Steps p.tables e below (T335.setTop (mkF m 224 #[.val (.int wh), .val (.int (1 : Int32)), .val (.ref b325), .val (.ref d333)] [(.ref x333)])) _
    refine st336 _ ?_
    show Steps p.tables e below (T336.setTop (mkF m 226 #[.val (.int wh), .val (.int (1 : Int32)), .val (.ref b325), .val (.ref d333)] [(.ref a336), (.ref x333)])) _
    refine st337.trans ?_
    refine XS.ifNo X337.here hx rfl (hb hby at_229) rfl ((if0 _ _).trans (feq (by decide : ¬ ((1 : Int32) = (0 : Int32)))).1) ?_
    refine XS.iconst X337.here hx rfl (hb hby at_232) ?_
    refine XS.goto X337.here hx rfl (pc0 := 233) (pc' := 237) rfl (hb hby at_233) (by decide) (by decide) ?_
    show Steps p.tables e below (T337.setTop (mkF m 237 #[.val (.int wh), .val (.int (1 : Int32)), .val (.ref b325), .val (.ref d333)] [(.int (1 : Int32))])) _
    exact retN X337 hx (t := .boolean) Bd.returns (by simp) (hb hby at_237) hr
  · show Q0  h0 n0 _ T337.heap _
    exact ⟨rfl, N337⟩
def Lsc_SqlDialectOfPinLaw_25 : List Value := [(.int (115 : Int32)), (.int (116 : Int32)), (.int (97 : Int32)), (.int (116 : Int32)), (.int (101 : Int32)), (.int (109 : Int32)), (.int (101 : Int32)), (.int (110 : Int32)), (.int (116 : Int32)), (.int (95 : Int32)), (.int (116 : Int32)), (.int (105 : Int32)), (.int (109 : Int32)), (.int (101 : Int32)), (.int (115 : Int32)), (.int (116 : Int32)), (.int (97 : Int32)), (.int (109 : Int32)), (.int (112 : Int32)), (.int (40 : Int32)), (.int (41 : Int32)), (.int (32 : Int32)), (.int (43 : Int32)), (.int (32 : Int32)), (.int (63 : Int32)), (.int (32 : Int32)), (.int (42 : Int32)), (.int (32 : Int32)), (.int (73 : Int32)), (.int (78 : Int32)), (.int (84 : Int32)), (.int (69 : Int32)), (.int (82 : Int32)), (.int (86 : Int32)), (.int (65 : Int32)), (.int (76 : Int32)), (.int (32 : Int32)), (.int (39 : Int32)), (.int (49 : Int32)), (.int (32 : Int32)), (.int (109 : Int32)), (.int (105 : Int32)), (.int (99 : Int32)), (.int (114 : Int32)), (.int (111 : Int32)), (.int (115 : Int32)), (.int (101 : Int32)), (.int (99 : Int32)), (.int (111 : Int32)), (.int (110 : Int32)), (.int (100 : Int32)), (.int (39 : Int32))]
def sc_SqlDialectOfPinLaw_25 : Nat → Value := fun j => Lsc_SqlDialectOfPinLaw_25.getD j (.int (0 : Int32))
theorem ft_sc_SqlDialectOfPinLaw_25 (n : Nat) : ∀ j, j < n → fits .byte (sc_SqlDialectOfPinLaw_25 j) = true := fitsL (by decide +kernel) n
set_option maxRecDepth 65536 in
set_option maxHeartbeats 40000000 in
theorem rm0_2 (l : Launch) (Z : State) (a0 : Array Value) (hw : ∀ d ∈ tables_1, d.before a0 Z = true) (ws : List Jvm.Cond) (wh : Int32)  (h0 : Heap) (n0 : Nat) (Z0 : n0 ≤ h0.size) (hk : k3 wh = (2 : Int32)) (O : Old Z n0 h0) (SK : StrSta Z) (hEL : EW Z a0 EL1)  :
    MetFree l x (head1 (Jvm.Cond.code x code maxLocals ret :: ws) room_1) (fun aa_ U_ => aa_ = #[(.int wh)] ∧ Z.Warmed39 U_.vm ∧ U_.heap = h0 ∧ CHv Z EL1 U_.vm h0) (fun _ _ _ _ _ => True) (fun _ U_ o_ V_ => ∃ v_ L_, o_ = .returned v_ ∧ Q0  h0 n0 v_ V_.heap L_ ∧ ReturnedEndW U_ o_ V_ L_ room_1.cells room_1.slots) := by
  refine MetFree.of_bodySF (plainFor_of_name pn_0) hisR ?_
  intro p e s m args below meth c s₁ Bd hml0 hP hK
  obtain ⟨rfl, hZ, hh, CH0⟩ := hP
  have hx := Bd.exec
  have hby := Bd.bytes
  have hml : c.maxLocals = 4 := hml0
  have hown : s.vm.findClass "com/example/rigorous_lock/rigorouslock/io/SqlDialectOfPinLaw" = some m.cls := findClass_of_methodNamed Bd.named
  have hnm := (name_of_methodNamed Bd.named Bd.method).1
  have X0 : Stand p l e room_1 s m #[(.int wh)] below meth c s₁ [] 0 0 := Stand.of_body Bd
  have e0 : s₁.heap = h0 := by rw [← hh, Bd.state]; rfl
  have N0 := Fr.nil n0
  have pre0 : ∀ zz, Steps p.tables e below (s₁.setTop (mkF m 0 #[.val (.int wh), .unset, .unset, .unset] [])) zz → Steps p.tables e below (s₁.setTop (entryFrame m #[(.int wh)] maxLocals)) zz := fun zz kz_ => castTop (ef_0 m wh) kz_
  have hwS : ∀ a ∈ Bundle.stringAtoms, a.before a0 Z = true := fun d hd => hw d (by simpa using (List.all_eq_true.mp (by decide +kernel : (Bundle.stringAtoms.all fun c => tables_1.contains c) = true)) d hd)
  obtain ⟨T338, h338, X338, e338, E338, A338, D338, -, st338⟩ := newO X0 hx hZ hown (hwi hw 1 rfl) (hwi hw 2 rfl) (hwi hw 3 rfl) e0 (g := (mkF m 106 #[.val (.int wh), .val (.int (2 : Int32)), .unset, .unset] [])) rfl (hb hby at_106) (by decide) (by decide)
  obtain ⟨b338, g338⟩ : ∃ z, z = h0.size := ⟨_, rfl⟩
  rw [← g338] at A338 D338 st338
  have E_b338 := A338
  have g_b338 : n0 ≤ b338 := Nat.le_trans Z0 (Nat.le_of_eq g338.symm)
  have sz_b338 : h0.size ≤ b338 := Nat.le_trans (Keep.refl h0 []).1 (Nat.le_of_eq g338.symm)
  have K338 := (Keep.refl h0 []).ext E338
  have Z338 : n0 ≤ h338.size := Nat.le_trans Z0 E338.1
  have F_coder_b338 : Fld Z h338 b338 "java/lang/String" "coder" "B" (.int (0 : Int32)) := D338 (Or.inr (hwi hw 28 rfl)) (ty := .byte) (by decide)
  have F_value_b338 : Fld Z h338 b338 "java/lang/String" "value" "[B" .null := D338 (Or.inr (hwi hw 30 rfl)) (ty := (.array .byte)) (by decide)
  have F_hash_b338 : Fld Z h338 b338 "java/lang/String" "hash" "I" (.int (0 : Int32)) := D338 (Or.inl (hwi hw 41 rfl)) (ty := .int) (by decide)
  have F_hashIsZero_b338 : Fld Z h338 b338 "java/lang/String" "hashIsZero" "Z" (.int (0 : Int32)) := D338 (Or.inl (hwi hw 43 rfl)) (ty := .boolean) (by decide)
  have O338 := O.ext E338
  obtain ⟨T339, h339, X339, e339, E339, A339, st339⟩ := nwA X338 hx hZ (hwi hw 4 rfl) e338 (g := (mkF m 112 #[.val (.int wh), .val (.int (2 : Int32)), .unset, .unset] [(.int (10 : Int32)), (.ref b338), (.ref b338)])) rfl (hb hby at_112) (n := 10) rfl (cap := 10) (by decide) (by decide) (by decide) (by decide)
  obtain ⟨b339, q339⟩ : ∃ z, z = h338.size := ⟨_, rfl⟩
  rw [← q339] at A339 st339
  have V339 : AF Z h339 b339 .char 10 (fun _ => (.int (0 : Int32))) := A339
  have g_b339 : n0 ≤ b339 := Nat.le_trans Z338 (Nat.le_of_eq q339.symm)
  have sz_b339 : h0.size ≤ b339 := Nat.le_trans K338.1 (Nat.le_of_eq q339.symm)
  have K339 := K338.ext E339
  have Z339 : n0 ≤ h339.size := Nat.le_trans Z338 E339.1
  have ne_b338_b339 : b338 ≠ b339 := Nat.ne_of_lt (Nat.lt_of_lt_of_le E_b338.lt (Nat.le_of_eq q339.symm))
  have E_b338_e339 := E_b338.ext E339
  have F_coder_b338_e339 := F_coder_b338.ext E339
  have F_value_b338_e339 := F_value_b338.ext E339
  have F_hash_b338_e339 := F_hash_b338.ext E339
  have F_hashIsZero_b338_e339 := F_hashIsZero_b338.ext E339
  have O339 := O338.ext E339
  obtain ⟨T340, h340, X340, e340, W340, st340⟩ := stCh X339 hx hZ e339 V339 (i := 0) (by decide) (by decide) (x := (80 : Int32)) (g := (mkF m 118 #[.val (.int wh), .val (.int (2 : Int32)), .unset, .unset] [(.int (80 : Int32)), (.int (0 : Int32)), (.ref b339), (.ref b339), (.ref b338), (.ref b338)])) rfl rfl (hb hby at_118)
  have A340 := V339.wr W340
  have E_b338_e340 := E_b338_e339.wr W340
  have F_coder_b338_e340 := F_coder_b338_e339.other W340 (Or.inl ne_b338_b339)
  have F_value_b338_e340 := F_value_b338_e339.other W340 (Or.inl ne_b338_b339)
  have F_hash_b338_e340 := F_hash_b338_e339.other W340 (Or.inl ne_b338_b339)
  have F_hashIsZero_b338_e340 := F_hashIsZero_b338_e339.other W340 (Or.inl ne_b338_b339)
  have N340 := Fr.snoc X340 N0 g_b339
  have K340 := K339.wr W340 (Or.inr sz_b339)
  have Z340 : n0 ≤ h340.size := Nat.le_trans Z339 (Keep.of_wr W340).1
  have O340 := O339.wr W340 g_b339
  obtain ⟨T341, h341, X341, e341, W341, st341⟩ := stCh X340 hx hZ e340 A340 (i := 1) (by decide) (by decide) (x := (111 : Int32)) (g := (mkF m 123 #[.val (.int wh), .val (.int (2 : Int32)), .unset, .unset] [(.int (111 : Int32)), (.int (1 : Int32)), (.ref b339), (.ref b339), (.ref b338), (.ref b338)])) rfl rfl (hb hby at_123)
  have A341 := A340.wr W341
  have E_b338_e341 := E_b338_e340.wr W341
  have F_coder_b338_e341 := F_coder_b338_e340.other W341 (Or.inl ne_b338_b339)
  have F_value_b338_e341 := F_value_b338_e340.other W341 (Or.inl ne_b338_b339)
  have F_hash_b338_e341 := F_hash_b338_e340.other W341 (Or.inl ne_b338_b339)
  have F_hashIsZero_b338_e341 := F_hashIsZero_b338_e340.other W341 (Or.inl ne_b338_b339)
  have N341 := Fr.snoc X341 N340 g_b339
  have K341 := K340.wr W341 (Or.inr sz_b339)
  have Z341 : n0 ≤ h341.size := Nat.le_trans Z340 (Keep.of_wr W341).1
  have O341 := O340.wr W341 g_b339
  obtain ⟨T342, h342, X342, e342, W342, st342⟩ := stCh X341 hx hZ e341 A341 (i := 2) (by decide) (by decide) (x := (115 : Int32)) (g := (mkF m 128 #[.val (.int wh), .val (.int (2 : Int32)), .unset, .unset] [(.int (115 : Int32)), (.int (2 : Int32)), (.ref b339), (.ref b339), (.ref b338), (.ref b338)])) rfl rfl (hb hby at_128)
  have A342 := A341.wr W342
  have E_b338_e342 := E_b338_e341.wr W342
  have F_coder_b338_e342 := F_coder_b338_e341.other W342 (Or.inl ne_b338_b339)
  have F_value_b338_e342 := F_value_b338_e341.other W342 (Or.inl ne_b338_b339)
  have F_hash_b338_e342 := F_hash_b338_e341.other W342 (Or.inl ne_b338_b339)
  have F_hashIsZero_b338_e342 := F_hashIsZero_b338_e341.other W342 (Or.inl ne_b338_b339)
  have N342 := Fr.snoc X342 N341 g_b339
  have K342 := K341.wr W342 (Or.inr sz_b339)
  have Z342 : n0 ≤ h342.size := Nat.le_trans Z341 (Keep.of_wr W342).1
  have O342 := O341.wr W342 g_b339
  obtain ⟨T343, h343, X343, e343, W343, st343⟩ := stCh X342 hx hZ e342 A342 (i := 3) (by decide) (by decide) (x := (116 : Int32)) (g := (mkF m 133 #[.val (.int wh), .val (.int (2 : Int32)), .unset, .unset] [(.int (116 : Int32)), (.int (3 : Int32)), (.ref b339), (.ref b339), (.ref b338), (.ref b338)])) rfl rfl (hb hby at_133)
  have A343 := A342.wr W343
  have E_b338_e343 := E_b338_e342.wr W343
  have F_coder_b338_e343 := F_coder_b338_e342.other W343 (Or.inl ne_b338_b339)
  have F_value_b338_e343 := F_value_b338_e342.other W343 (Or.inl ne_b338_b339)
  have F_hash_b338_e343 := F_hash_b338_e342.other W343 (Or.inl ne_b338_b339)
  have F_hashIsZero_b338_e343 := F_hashIsZero_b338_e342.other W343 (Or.inl ne_b338_b339)
  have N343 := Fr.snoc X343 N342 g_b339
  have K343 := K342.wr W343 (Or.inr sz_b339)
  have Z343 : n0 ≤ h343.size := Nat.le_trans Z342 (Keep.of_wr W343).1
  have O343 := O342.wr W343 g_b339
  obtain ⟨T344, h344, X344, e344, W344, st344⟩ := stCh X343 hx hZ e343 A343 (i := 4) (by decide) (by decide) (x := (103 : Int32)) (g := (mkF m 138 #[.val (.int wh), .val (.int (2 : Int32)), .unset, .unset] [(.int (103 : Int32)), (.int (4 : Int32)), (.ref b339), (.ref b339), (.ref b338), (.ref b338)])) rfl rfl (hb hby at_138)
  have A344 := A343.wr W344
  have E_b338_e344 := E_b338_e343.wr W344
  have F_coder_b338_e344 := F_coder_b338_e343.other W344 (Or.inl ne_b338_b339)
  have F_value_b338_e344 := F_value_b338_e343.other W344 (Or.inl ne_b338_b339)
  have F_hash_b338_e344 := F_hash_b338_e343.other W344 (Or.inl ne_b338_b339)
  have F_hashIsZero_b338_e344 := F_hashIsZero_b338_e343.other W344 (Or.inl ne_b338_b339)
  have N344 := Fr.snoc X344 N343 g_b339
  have K344 := K343.wr W344 (Or.inr sz_b339)
  have Z344 : n0 ≤ h344.size := Nat.le_trans Z343 (Keep.of_wr W344).1
  have O344 := O343.wr W344 g_b339
  obtain ⟨T345, h345, X345, e345, W345, st345⟩ := stCh X344 hx hZ e344 A344 (i := 5) (by decide) (by decide) (x := (114 : Int32)) (g := (mkF m 143 #[.val (.int wh), .val (.int (2 : Int32)), .unset, .unset] [(.int (114 : Int32)), (.int (5 : Int32)), (.ref b339), (.ref b339), (.ref b338), (.ref b338)])) rfl rfl (hb hby at_143)
  have A345 := A344.wr W345
  have E_b338_e345 := E_b338_e344.wr W345
  have F_coder_b338_e345 := F_coder_b338_e344.other W345 (Or.inl ne_b338_b339)
  have F_value_b338_e345 := F_value_b338_e344.other W345 (Or.inl ne_b338_b339)
  have F_hash_b338_e345 := F_hash_b338_e344.other W345 (Or.inl ne_b338_b339)
  have F_hashIsZero_b338_e345 := F_hashIsZero_b338_e344.other W345 (Or.inl ne_b338_b339)
  have N345 := Fr.snoc X345 N344 g_b339
  have K345 := K344.wr W345 (Or.inr sz_b339)
  have Z345 : n0 ≤ h345.size := Nat.le_trans Z344 (Keep.of_wr W345).1
  have O345 := O344.wr W345 g_b339
  obtain ⟨T346, h346, X346, e346, W346, st346⟩ := stCh X345 hx hZ e345 A345 (i := 6) (by decide) (by decide) (x := (101 : Int32)) (g := (mkF m 149 #[.val (.int wh), .val (.int (2 : Int32)), .unset, .unset] [(.int (101 : Int32)), (.int (6 : Int32)), (.ref b339), (.ref b339), (.ref b338), (.ref b338)])) rfl rfl (hb hby at_149)
  have A346 := A345.wr W346
  have E_b338_e346 := E_b338_e345.wr W346
  have F_coder_b338_e346 := F_coder_b338_e345.other W346 (Or.inl ne_b338_b339)
  have F_value_b338_e346 := F_value_b338_e345.other W346 (Or.inl ne_b338_b339)
  have F_hash_b338_e346 := F_hash_b338_e345.other W346 (Or.inl ne_b338_b339)
  have F_hashIsZero_b338_e346 := F_hashIsZero_b338_e345.other W346 (Or.inl ne_b338_b339)
  have N346 := Fr.snoc X346 N345 g_b339
  have K346 := K345.wr W346 (Or.inr sz_b339)
  have Z346 : n0 ≤ h346.size := Nat.le_trans Z345 (Keep.of_wr W346).1
  have O346 := O345.wr W346 g_b339
  obtain ⟨T347, h347, X347, e347, W347, st347⟩ := stCh X346 hx hZ e346 A346 (i := 7) (by decide) (by decide) (x := (83 : Int32)) (g := (mkF m 155 #[.val (.int wh), .val (.int (2 : Int32)), .unset, .unset] [(.int (83 : Int32)), (.int (7 : Int32)), (.ref b339), (.ref b339), (.ref b338), (.ref b338)])) rfl rfl (hb hby at_155)
  have A347 := A346.wr W347
  have E_b338_e347 := E_b338_e346.wr W347
  have F_coder_b338_e347 := F_coder_b338_e346.other W347 (Or.inl ne_b338_b339)
  have F_value_b338_e347 := F_value_b338_e346.other W347 (Or.inl ne_b338_b339)
  have F_hash_b338_e347 := F_hash_b338_e346.other W347 (Or.inl ne_b338_b339)
  have F_hashIsZero_b338_e347 := F_hashIsZero_b338_e346.other W347 (Or.inl ne_b338_b339)
  have N347 := Fr.snoc X347 N346 g_b339
  have K347 := K346.wr W347 (Or.inr sz_b339)
  have Z347 : n0 ≤ h347.size := Nat.le_trans Z346 (Keep.of_wr W347).1
  have O347 := O346.wr W347 g_b339
  obtain ⟨T348, h348, X348, e348, W348, st348⟩ := stCh X347 hx hZ e347 A347 (i := 8) (by decide) (by decide) (x := (81 : Int32)) (g := (mkF m 161 #[.val (.int wh), .val (.int (2 : Int32)), .unset, .unset] [(.int (81 : Int32)), (.int (8 : Int32)), (.ref b339), (.ref b339), (.ref b338), (.ref b338)])) rfl rfl (hb hby at_161)
  have A348 := A347.wr W348
  have E_b338_e348 := E_b338_e347.wr W348
  have F_coder_b338_e348 := F_coder_b338_e347.other W348 (Or.inl ne_b338_b339)
  have F_value_b338_e348 := F_value_b338_e347.other W348 (Or.inl ne_b338_b339)
  have F_hash_b338_e348 := F_hash_b338_e347.other W348 (Or.inl ne_b338_b339)
  have F_hashIsZero_b338_e348 := F_hashIsZero_b338_e347.other W348 (Or.inl ne_b338_b339)
  have N348 := Fr.snoc X348 N347 g_b339
  have K348 := K347.wr W348 (Or.inr sz_b339)
  have Z348 : n0 ≤ h348.size := Nat.le_trans Z347 (Keep.of_wr W348).1
  have O348 := O347.wr W348 g_b339
  obtain ⟨T349, h349, X349, e349, W349, st349⟩ := stCh X348 hx hZ e348 A348 (i := 9) (by decide) (by decide) (x := (76 : Int32)) (g := (mkF m 167 #[.val (.int wh), .val (.int (2 : Int32)), .unset, .unset] [(.int (76 : Int32)), (.int (9 : Int32)), (.ref b339), (.ref b339), (.ref b338), (.ref b338)])) rfl rfl (hb hby at_167)
  have A349 := A348.wr W349
  have E_b338_e349 := E_b338_e348.wr W349
  have F_coder_b338_e349 := F_coder_b338_e348.other W349 (Or.inl ne_b338_b339)
  have F_value_b338_e349 := F_value_b338_e348.other W349 (Or.inl ne_b338_b339)
  have F_hash_b338_e349 := F_hash_b338_e348.other W349 (Or.inl ne_b338_b339)
  have F_hashIsZero_b338_e349 := F_hashIsZero_b338_e348.other W349 (Or.inl ne_b338_b339)
  have N349 := Fr.snoc X349 N348 g_b339
  have K349 := K348.wr W349 (Or.inr sz_b339)
  have Z349 : n0 ≤ h349.size := Nat.le_trans Z348 (Keep.of_wr W349).1
  have O349 := O348.wr W349 g_b339
  obtain ⟨_, _, ⟨T350, L350, k350, n350⟩, -, X350, ⟨Lc350, hQ350, l350, y350, z350⟩, st350⟩ := X349.specialBack hx (y := (⟨"java/lang/String", "<init>", "([C)V"⟩ : MethodName)) rfl hown (mvT hZ (hwi hw 5 rfl)) (mvT hZ (hwi hw 6 rfl)) (mvT hZ (hwi hw 7 rfl)) (by decide) (backOf (W := 1) (rmI1X l Z a0 hw [] b338 b339 10 (gl nl2) h349 n0 Z349 (by decide) (by decide) O349 SK (A349.congr (updS (updS (updS (updS (updS (updS (updS (updS (updS (updS upd0 rfl) rfl) rfl) rfl) rfl) rfl) rfl) rfl) rfl) rfl)) E_b338_e349 F_value_b338_e349 F_coder_b338_e349 F_hash_b338_e349 F_hashIsZero_b338_e349 g_b338 (Ne.symm ne_b338_b339) (by decide)) hZ (hwi hw 7 rfl) (hwi hw 3 rfl) (by decide) (by decide)) (g := (mkF m 168 #[.val (.int wh), .val (.int (2 : Int32)), .unset, .unset] [(.ref b339), (.ref b338), (.ref b338)])) rfl (by rw [hml]; rfl) (Steps.refl _) (a := b338) (argsL := [(.ref b339)]) (rest := [(.ref b338)]) (lenOf pd_0 rfl) rfl (by show 2 * 0 + _ ≤ _; exact Nat.le_of_eq rfl) (hb hby at_168) (fun _ _ => ⟨rfl, e349, (by decide : 2 + 1 ≤ _), (by decide : 14 + 16 ≤ _)⟩)
  dsimp only [Pt.U, Pt.locs, Pt.cells, Pt.slots] at X350 l350 y350 z350 st350 hQ350
  obtain rfl : k350 = 3 := y350; obtain rfl : n350 = 30 := z350
  obtain ⟨rfl, N350q, K350, S350, H350, Y350⟩ := hQ350
  have N350 : Fr n0 L350 := by rw [l350]; exact Fr.app N349 N350q
  have KK350 := K349.trans K350 (fun x r => by cases List.mem_singleton.mp r; exact (Or.inr sz_b338))
  have Z350 : n0 ≤ T350.heap.size := Nat.le_trans Z349 K350.1
  have O350 := O349.keep K350 (all1 g_b338)
  have CHl := CHv.keep KK350 (fun x r => absurd r List.not_mem_nil) CH0
  have SFl := Safe.keep KK350 (fun x r => absurd r List.not_mem_nil) CH0 (Safe.new sz_b338)
  obtain ⟨_, _, ⟨T351, L351, k351, n351⟩, -, X351, hS2351, hg351, ⟨Lc351, hQ351, l351, y351, z351, C351⟩, st351⟩ := callSS X350 hx (y := (⟨"com/example/rigorous_lock/rigorouslock/io/SqlDialect", "of", "(Ljava/lang/String;)Lcom/example/rigorous_lock/rigorouslock/io/SqlDialect;"⟩ : MethodName)) hown (mvT hZ (hwi hw 31 rfl)) (mvT hZ (hwi hw 32 rfl)) (mvT hZ (hwi hw 33 rfl)) (mvT hZ (hwi hw 34 rfl)) (by decide) (backSafe (s := s) (vm0 := s.vm) (EL := EL1) (W := 0) (rmOF2 l Z a0 hw [] b338 T350.heap n0 Z350 O350 SK hEL g_b338 S350 H350 Y350) hZ (hwi hw 34 rfl) (hwi hw 33 rfl) (by decide) (by decide) hEL CHl S350.1.lt SFl) (g := (mkF m 173 #[.val (.int wh), .val (.int (2 : Int32)), .val (.ref b338), .unset] [(.ref b338)])) rfl (by rw [hml]; rfl) (argsL := [(.ref b338)]) (rest := []) (lenOf pd_6 rfl) rfl (by show 2 * 0 + _ ≤ _; exact Nat.le_of_eq rfl) (hb hby at_173) (fun _ _ => ⟨rfl, rfl, (by decide : 3 + 79 ≤ _), (by decide : 30 + 17213 ≤ _)⟩)
  dsimp only [Pt.U, Pt.locs, Pt.cells, Pt.slots] at X351 l351 y351 z351 st351 hQ351 hS2351 hg351
  obtain rfl : k351 = 82 := y351; obtain rfl : n351 = 17243 := z351
  obtain ⟨d351, rfl, N351q, K351, J351, x351, F351, S351⟩ := hQ351
  have N351 : Fr n0 L351 := by rw [l351]; exact Fr.app N350 N351q
  dsimp only [Pt.U, Pt.locs, Pt.cells, Pt.slots] at C351
  have CR351 := (CHr.keep KK350 (fun x r => absurd r List.not_mem_nil) CH0).trans C351
  have hS351 := foldS ((State.WarmedH.refl s).since 0) (by exact (Nat.zero_le _)) hS2351 hg351
  have hZ351 : Z.Warmed39 (s.setVm T351.vm).vm := State.Warmed39.trans hZ hS2351.1
  have hown351 : (s.setVm T351.vm).vm.findClass "com/example/rigorous_lock/rigorouslock/io/SqlDialectOfPinLaw" = some m.cls := by rw [show (s.setVm T351.vm).vm = T351.vm from rfl, hS2351.1.alike.findClass]; exact hown
  have KK351 := KK350.trans K351 (fun x r => by cases List.mem_singleton.mp r; exact (Or.inr sz_b338))
  have Z351 : n0 ≤ T351.heap.size := Nat.le_trans Z350 K351.1
  have O351 := O350.keep K351 (all1 g_b338)
  obtain ⟨T352, X352, e352, st352⟩ := instY X351 hx hZ351 hown351 (hwi hw 304 rfl) rfl (Ins.self J351) (g := (mkF m 189 #[.val (.int wh), .val (.int (2 : Int32)), .val (.ref b338), .val (.ref d351)] [(.ref d351)])) rfl rfl (hb hby at_189)
  obtain ⟨T353, X353, e353, st353⟩ := getF X352 hx hZ351 hown351 (host := "") (Or.inl (hwi hw 266 rfl)) Via.refl e352 F351 (g := (mkF m 196 #[.val (.int wh), .val (.int (2 : Int32)), .val (.ref b338), .val (.ref d351)] [(.ref d351)])) rfl rfl (hb hby at_196)
  obtain ⟨a354, T354, h354, k354, v354, kk354, X354, e354, E354, hS354, hk354, hZ354, hown354, Ex354, Fc354, Fv354, Av354, -, -, C354, -, -, st354⟩ := ldcCH (s := s) (vm0 := T351.vm) (EL := EL1) X353 hx hZ351 hown351 (hwi hw 306 rfl) hwS e353 hS351 (Nat.le_refl _) hEL (List.mem_of_getElem? (i := 29) rfl) C351.1 (vs := Lsc_SqlDialectOfPinLaw_25) (z := (52 : Int32)) (by decide +kernel) (by decide) (by decide +kernel) (g := (mkF m 199 #[.val (.int wh), .val (.int (2 : Int32)), .val (.ref b338), .val (.ref d351)] [(.ref x351)])) rfl (hb hby at_199) (n := 208) (by decide +kernel) (by decide) (by decide) (by decide)
  have SC354 : StrF Z h354 a354 52 sc_SqlDialectOfPinLaw_25 := ⟨⟨Ex354, v354, Fv354, Fc354, afOf Av354 rfl⟩, ft_sc_SqlDialectOfPinLaw_25 _⟩
  have J351_e354 := J351.ext E354
  have F351_e354 := F351.ext E354
  have O354 := O351.ext E354
  have K354 := KK351.ext E354
  have Z354 : n0 ≤ h354.size := Nat.le_trans Z351 E354.1
  have CR354 := CR351.trans C354
  have S351_x354 := S351.ext E354
  have ELa354 := S351_x354.1.1
  obtain ⟨cq355, kq355, q355a, q355b, q355c⟩ := isOf hZ354 e354 ELa354
  obtain ⟨_, _, ⟨T355, L355, k355, n355⟩, -, X355, ⟨Lc355, hQ355, l355, y355, z355⟩, st355⟩ := X354.virtualBack hx (y := (⟨"java/lang/String", "equals", "(Ljava/lang/Object;)Z"⟩ : MethodName)) (z := (⟨"java/lang/String", "equals", "(Ljava/lang/Object;)Z"⟩ : MethodName)) hown354 (mvT hZ354 (hwi hw 268 rfl)) (mvT hZ354 (hwi hw 66 rfl)) (notFace_of_selects (args := #[]) (mvT hZ354 (hwi hw 68 rfl))) (mvT hZ354 (hwi hw 68 rfl)) (mvT hZ354 (hwi hw 67 rfl)) (by decide) (backOf (W := 0) (rmEQ l Z a0 hw [] x351 a354 52 ie2 h354 n0 Z354 (by decide) O354 SK (S351_x354.1.congr (by decide +kernel)) (SC354.1.congr (by decide +kernel))) hZ354 (hwi hw 69 rfl) (hwi hw 3 rfl) (by decide) (by decide)) q355a q355c (g := (mkF m 201 #[.val (.int wh), .val (.int (2 : Int32)), .val (.ref b338), .val (.ref d351)] [(.ref a354), (.ref x351)])) rfl (by rw [hml]; rfl) (Steps.refl _) (argsL := [(.ref a354)]) (rest := []) (lenOf pd_12 rfl) rfl (by show 2 * 0 + _ ≤ _; exact Nat.le_of_eq rfl) (hb hby at_201) (fun _ _ => ⟨rfl, e354, (by decide : 84 + 0 ≤ _), (by decide : 17455 + 0 ≤ _)⟩)
  dsimp only [Pt.U, Pt.locs, Pt.cells, Pt.slots] at X355 l355 y355 z355 st355 hQ355
  obtain rfl : k355 = 84 := y355; obtain rfl : n355 = 17455 := z355
  obtain ⟨rfl, N355q, e355⟩ := hQ355
  have N355 : Fr n0 L355 := by rw [l355]; exact Fr.app N351 N355q
  obtain ⟨fs, hr, hrun, hended, -, hWW, hBB, hSS⟩ := Stand.leaveW (s := s) (vm₁ := T354.vm) X355 hS354 (by rw [e355]; exact hk354) (v := some (.int (1 : Int32))) (fun h => by rw [Bd.returns] at h; cases h)
  refine ⟨_, _, pre0 _ ?_, hrun, hended, _, _, rfl, ?_, ⟨_, rfl⟩, hWW, hBB, hSS.mono (by decide) (by decide)⟩
  · show Steps p.tables e below (s₁.setTop (mkF m 0 #[.val (.int wh), .unset, .unset, .unset] [])) _
    refine XS.iloadN X0.here hx rfl (hb hby at_0) rfl ?_
    refine X0.ldcInt hx hown (mvT hZ (hwi hw 0 rfl)) (g := (mkF m 1 #[.val (.int wh), .unset, .unset, .unset] [(.int wh)])) rfl (hb hby at_1) _ ?_
    refine XS.iand X0.here hx rfl (hb hby at_3) rfl ?_
    refine XS.iconst X0.here hx rfl (hb hby at_4) ?_
    refine gwIrem X0.here hx rfl (hb hby at_5) rfl (by decide) ?_
    show Steps p.tables e below (s₁.setTop (mkF m 6 #[.val (.int wh), .unset, .unset, .unset] [(.int (k3 wh))])) _
    refine XS.istoreN X0.here hx rfl (hb hby at_6) rfl (l' := #[.val (.int wh), .val (.int (k3 wh)), .unset, .unset]) rfl ?_
    show Steps p.tables e below (s₁.setTop (mkF m 7 #[.val (.int wh), .val (.int (k3 wh)), .unset, .unset] [])) _
    rw [show (k3 wh) = (2 : Int32) from hk]
    show Steps p.tables e below (s₁.setTop (mkF m 7 #[.val (.int wh), .val (.int (2 : Int32)), .unset, .unset] [])) _
    refine XS.iloadN X0.here hx rfl (hb hby at_7) rfl ?_
    refine XS.ifYes X0.here hx rfl (pc0 := 8) (pc' := 62) rfl (hb hby at_8) rfl ((if0 _ _).trans (feq (by decide : ¬ ((2 : Int32) = (0 : Int32)))).2) (by decide) (by decide) ?_
    refine XS.iloadN X0.here hx rfl (hb hby at_62) rfl ?_
    refine XS.iconst X0.here hx rfl (hb hby at_63) ?_
    refine XS.icmpYes X0.here hx rfl (pc0 := 64) (pc' := 106) rfl (hb hby at_64) rfl (feq (by decide : ¬ ((2 : Int32) = (1 : Int32)))).2 (by decide) (by decide) ?_
    show Steps p.tables e below (s₁.setTop (mkF m 106 #[.val (.int wh), .val (.int (2 : Int32)), .unset, .unset] [])) _
    refine st338 _ ?_
    refine XS.dup X338.here hx rfl (hb hby at_109) rfl rfl ?_
    refine XS.bipush X338.here hx rfl (hb hby at_110) ?_
    show Steps p.tables e below (T338.setTop (mkF m 112 #[.val (.int wh), .val (.int (2 : Int32)), .unset, .unset] [(.int (10 : Int32)), (.ref b338), (.ref b338)])) _
    refine st339 _ ?_
    refine XS.dup X339.here hx rfl (hb hby at_114) rfl rfl ?_
    refine XS.iconst X339.here hx rfl (hb hby at_115) ?_
    refine XS.bipush X339.here hx rfl (hb hby at_116) ?_
    show Steps p.tables e below (T339.setTop (mkF m 118 #[.val (.int wh), .val (.int (2 : Int32)), .unset, .unset] [(.int (80 : Int32)), (.int (0 : Int32)), (.ref b339), (.ref b339), (.ref b338), (.ref b338)])) _
    refine st340 _ ?_
    refine XS.dup X340.here hx rfl (hb hby at_119) rfl rfl ?_
    refine XS.iconst X340.here hx rfl (hb hby at_120) ?_
    refine XS.bipush X340.here hx rfl (hb hby at_121) ?_
    show Steps p.tables e below (T340.setTop (mkF m 123 #[.val (.int wh), .val (.int (2 : Int32)), .unset, .unset] [(.int (111 : Int32)), (.int (1 : Int32)), (.ref b339), (.ref b339), (.ref b338), (.ref b338)])) _
    refine st341 _ ?_
    refine XS.dup X341.here hx rfl (hb hby at_124) rfl rfl ?_
    refine XS.iconst X341.here hx rfl (hb hby at_125) ?_
    refine XS.bipush X341.here hx rfl (hb hby at_126) ?_
    show Steps p.tables e below (T341.setTop (mkF m 128 #[.val (.int wh), .val (.int (2 : Int32)), .unset, .unset] [(.int (115 : Int32)), (.int (2 : Int32)), (.ref b339), (.ref b339), (.ref b338), (.ref b338)])) _
    refine st342 _ ?_
    refine XS.dup X342.here hx rfl (hb hby at_129) rfl rfl ?_
    refine XS.iconst X342.here hx rfl (hb hby at_130) ?_
    refine XS.bipush X342.here hx rfl (hb hby at_131) ?_
    show Steps p.tables e below (T342.setTop (mkF m 133 #[.val (.int wh), .val (.int (2 : Int32)), .unset, .unset] [(.int (116 : Int32)), (.int (3 : Int32)), (.ref b339), (.ref b339), (.ref b338), (.ref b338)])) _
    refine st343 _ ?_
    refine XS.dup X343.here hx rfl (hb hby at_134) rfl rfl ?_
    refine XS.iconst X343.here hx rfl (hb hby at_135) ?_
    refine XS.bipush X343.here hx rfl (hb hby at_136) ?_
    show Steps p.tables e below (T343.setTop (mkF m 138 #[.val (.int wh), .val (.int (2 : Int32)), .unset, .unset] [(.int (103 : Int32)), (.int (4 : Int32)), (.ref b339), (.ref b339), (.ref b338), (.ref b338)])) _
    refine st344 _ ?_
    refine XS.dup X344.here hx rfl (hb hby at_139) rfl rfl ?_
    refine XS.iconst X344.here hx rfl (hb hby at_140) ?_
    refine XS.bipush X344.here hx rfl (hb hby at_141) ?_
    show Steps p.tables e below (T344.setTop (mkF m 143 #[.val (.int wh), .val (.int (2 : Int32)), .unset, .unset] [(.int (114 : Int32)), (.int (5 : Int32)), (.ref b339), (.ref b339), (.ref b338), (.ref b338)])) _
    refine st345 _ ?_
    refine XS.dup X345.here hx rfl (hb hby at_144) rfl rfl ?_
    refine XS.bipush X345.here hx rfl (hb hby at_145) ?_
    refine XS.bipush X345.here hx rfl (hb hby at_147) ?_
    show Steps p.tables e below (T345.setTop (mkF m 149 #[.val (.int wh), .val (.int (2 : Int32)), .unset, .unset] [(.int (101 : Int32)), (.int (6 : Int32)), (.ref b339), (.ref b339), (.ref b338), (.ref b338)])) _
    refine st346 _ ?_
    refine XS.dup X346.here hx rfl (hb hby at_150) rfl rfl ?_
    refine XS.bipush X346.here hx rfl (hb hby at_151) ?_
    refine XS.bipush X346.here hx rfl (hb hby at_153) ?_
    show Steps p.tables e below (T346.setTop (mkF m 155 #[.val (.int wh), .val (.int (2 : Int32)), .unset, .unset] [(.int (83 : Int32)), (.int (7 : Int32)), (.ref b339), (.ref b339), (.ref b338), (.ref b338)])) _
    refine st347 _ ?_
    refine XS.dup X347.here hx rfl (hb hby at_156) rfl rfl ?_
    refine XS.bipush X347.here hx rfl (hb hby at_157) ?_
    refine XS.bipush X347.here hx rfl (hb hby at_159) ?_
    show Steps p.tables e below (T347.setTop (mkF m 161 #[.val (.int wh), .val (.int (2 : Int32)), .unset, .unset] [(.int (81 : Int32)), (.int (8 : Int32)), (.ref b339), (.ref b339), (.ref b338), (.ref b338)])) _
    refine st348 _ ?_
    refine XS.dup X348.here hx rfl (hb hby at_162) rfl rfl ?_
    refine XS.bipush X348.here hx rfl (hb hby at_163) ?_
    refine XS.bipush X348.here hx rfl (hb hby at_165) ?_
    show Steps p.tables e below (T348.setTop (mkF m 167 #[.val (.int wh), .val (.int (2 : Int32)), .unset, .unset] [(.int (76 : Int32)), (.int (9 : Int32)), (.ref b339), (.ref b339), (.ref b338), (.ref b338)])) _
    refine st349 _ ?_
    show Steps p.tables e below (T349.setTop (mkF m 168 #[.val (.int wh), .val (.int (2 : Int32)), .unset, .unset] [(.ref b339), (.ref b338), (.ref b338)])) _
    refine st350.trans ?_
    refine XS.astoreN X350.here hx rfl (hb hby at_171) rfl rfl (l' := #[.val (.int wh), .val (.int (2 : Int32)), .val (.ref b338), .unset]) rfl ?_
    refine XS.aloadN X350.here hx rfl (hb hby at_172) rfl rfl ?_
    show Steps p.tables e below (T350.setTop (mkF m 173 #[.val (.int wh), .val (.int (2 : Int32)), .val (.ref b338), .unset] [(.ref b338)])) _
    refine st351.trans ?_
    refine XS.astoreN X351.here hx rfl (hb hby at_176) rfl rfl (l' := #[.val (.int wh), .val (.int (2 : Int32)), .val (.ref b338), .val (.ref d351)]) rfl ?_
    refine XS.aloadN X351.here hx rfl (hb hby at_177) rfl rfl ?_
    refine XS.ifnonnullYes X351.here hx rfl (pc0 := 178) (pc' := 183) rfl (hb hby at_178) rfl (by decide) (by decide) ?_
    refine XS.iloadN X351.here hx rfl (hb hby at_183) rfl ?_
    refine XS.iconst X351.here hx rfl (hb hby at_184) ?_
    show Steps p.tables e below (T351.setTop (mkF m 185 #[.val (.int wh), .val (.int (2 : Int32)), .val (.ref b338), .val (.ref d351)] [(.int (2 : Int32)), (.int (2 : Int32))])) _
    refine XS.icmpNo X351.here hx rfl (hb hby at_185) rfl (teq (rfl : (2 : Int32) = (2 : Int32))).2 ?_
    refine XS.aloadN X351.here hx rfl (hb hby at_188) rfl rfl ?_
    show Steps p.tables e below (T351.setTop (mkF m 189 #[.val (.int wh), .val (.int (2 : Int32)), .val (.ref b338), .val (.ref d351)] [(.ref d351)])) _
    refine st352 _ ?_
    refine XS.ifNo X352.here hx rfl (hb hby at_192) rfl ((if0 _ _).trans (feq (by decide : ¬ ((1 : Int32) = (0 : Int32)))).1) ?_
    refine XS.aloadN X352.here hx rfl (hb hby at_195) rfl rfl ?_
    show Steps p.tables e below (T352.setTop (mkF m 196 #[.val (.int wh), .val (.int (2 : Int32)), .val (.ref b338), .val (.ref d351)] [(.ref d351)])) _
    refine st353 _ ?_
    show Steps p.tables e below (T353.setTop (mkF m 199 #[.val (.int wh), .val (.int (2 : Int32)), .val (.ref b338), .val (.ref d351)] [(.ref x351)])) _
    refine st354 _ ?_
    show Steps p.tables e below (T354.setTop (mkF m 201 #[.val (.int wh), .val (.int (2 : Int32)), .val (.ref b338), .val (.ref d351)] [(.ref a354), (.ref x351)])) _
    refine st355.trans ?_
    refine XS.ifNo X355.here hx rfl (hb hby at_204) rfl ((if0 _ _).trans (feq (by decide : ¬ ((1 : Int32) = (0 : Int32)))).1) ?_
    refine XS.iconst X355.here hx rfl (hb hby at_207) ?_
    refine XS.goto X355.here hx rfl (pc0 := 208) (pc' := 212) rfl (hb hby at_208) (by decide) (by decide) ?_
    show Steps p.tables e below (T355.setTop (mkF m 212 #[.val (.int wh), .val (.int (2 : Int32)), .val (.ref b338), .val (.ref d351)] [(.int (1 : Int32))])) _
    exact retN X355 hx (t := .boolean) Bd.returns (by simp) (hb hby at_212) hr
  · show Q0  h0 n0 _ T355.heap _
    exact ⟨rfl, N355⟩
set_option maxRecDepth 65536 in
set_option maxHeartbeats 40000000 in
theorem rm0 (l : Launch) (Z : State) (a0 : Array Value) (hw : ∀ d ∈ tables_1, d.before a0 Z = true) (ws : List Jvm.Cond) (wh : Int32)  (h0 : Heap) (n0 : Nat) (Z0 : n0 ≤ h0.size) (O : Old Z n0 h0) (SK : StrSta Z) (hEL : EW Z a0 EL1)  :
    MetFree l x (head1 (Jvm.Cond.code x code maxLocals ret :: ws) room_1) (fun aa_ U_ => aa_ = #[(.int wh)] ∧ Z.Warmed39 U_.vm ∧ U_.heap = h0 ∧ CHv Z EL1 U_.vm h0) (fun _ _ _ _ _ => True) (fun _ U_ o_ V_ => ∃ v_ L_, o_ = .returned v_ ∧ Q0  h0 n0 v_ V_.heap L_ ∧ ReturnedEndW U_ o_ V_ L_ room_1.cells room_1.slots) := by
  rcases k3_is wh with hk | hk | hk
  · exact rm0_0 l Z a0 hw ws wh h0 n0 Z0 hk O SK hEL
  · exact rm0_1 l Z a0 hw ws wh h0 n0 Z0 hk O SK hEL
  · exact rm0_2 l Z a0 hw ws wh h0 n0 Z0 hk O SK hEL
set_option maxRecDepth 65536 in
set_option maxHeartbeats 40000000 in
theorem comes_1 {Post : Tables → Env → Array Value → State → Outcome → State → Prop} (hpost : ∀ tb e args s v u, (limb_1_1.after args s (.returned v) u = true ∧ limb_1_2.after args s (.returned v) u = true ∧ True) → FramedW s (.returned v) u (Jvm.fieldLocs frame_1_writes args s ++ Jvm.arrayLocs frame_1_arrays args s ++ Jvm.staticLocs frame_1_statics s) 168 38656 → Post tb e args s (.returned v) u) :
    ArmFor flags0 classFile x code maxLocals ret World_1 tables_1 room_1 Calls_1 rest_1 Pre_1 Post := by
  intro l hfl _ _ p e ha hc hk s m args below hf hA hF happ hP
  obtain ⟨hcalls, hrest, hpre⟩ := hP
  obtain ⟨-, -, -, hnamed, -, -, -, hat⟩ := (Spec.applies_iff hf).mp happ
  obtain ⟨hg, hn⟩ := and_e (Cond.before_iff.mp (show (Jvm.Cond.and given_1 narrow_1).before args s = true from hpre))
  obtain ⟨hcount, hg0⟩ := and_e hg
  have ha0 := hg0
  obtain ⟨w0, rfl⟩ : ∃ w0 : Value, args = #[w0] := by
    have hs : args.size = 1 := by simpa [Cond.value, given_1] using hcount
    obtain ⟨L⟩ := args
    match L, hs with
    | [w0], _ => exact ⟨w0, rfl⟩
  have hw := fun d (hd : d ∈ tables_1) => atoms_spec (ws := Jvm.Cond.code x code maxLocals ret :: tables_1) hat d (List.mem_cons_of_mem _ hd)
  have hfit : Fit s := fun {y c} hc i hi => by
    obtain ⟨ha, rfl⟩ := Array.getElem?_eq_some_iff.mp hc
    have q := List.all_eq_true.mp ((Array.all_eq_true_iff_forall_mem.mp hF) _ (Array.getElem_mem ha)) i (List.mem_range.mpr hi)
    simpa [Array.getElem?_eq_getElem hi] using q
  obtain ⟨hsets, hown0⟩ := atoms_of _ (rest_1_c_eq ▸ (show rest_1_c.before _ s = true from hrest))
  obtain ⟨i0, ei0⟩ := is_v ha0
  obtain rfl : w0 = (.int i0) := Option.some.inj ei0
  have n3 := not_v (Cond.before_iff.mp (hsets _ (List.mem_of_getElem? (i := 2) rfl)))
  obtain ⟨i7, e6⟩ := is_v (Cond.before_iff.mp (hsets _ (List.mem_of_getElem? (i := 1) rfl)))
  have S8 : Sta s s.heap "java/lang/String" "COMPACT_STRINGS" "Z" (.int i7) := Sta.start e6 (Or.inl (hsets _ (List.mem_of_getElem? (i := 0) rfl)))
  obtain ⟨v9, e10, r11⟩ := isR_v (Cond.before_iff.mp (hsets _ (List.mem_of_getElem? (i := 8) rfl)))
  have S12 : Sta s s.heap "jdk/internal/util/Preconditions" "SIOOBE_FORMATTER" "Ljava/util/function/BiFunction;" v9 := Sta.start e10 (Or.inl (hsets _ (List.mem_of_getElem? (i := 7) rfl)))
  have c13 : ¬ (i7 = (0 : Int32)) := gotF (Cond.eq_ints e6 (Term.int_eval (0))) n3
  have SK : StrSta s := ⟨⟨i7, c13, S8⟩, by cases v9 <;> first | exact Or.inl S12 | exact Or.inr ⟨_, S12⟩ | (simp [Value.isRef] at r11)⟩
  have hcw : Jvm.Lit.compactW.before #[] s = true := hsets _ (List.mem_of_getElem? (i := 2) rfl)
  have hEL : EW s #[] EL1 := (EW.cons (hwi hw 80 rfl) (by decide +kernel) (EW.cons (hwi hw 81 rfl) (by decide +kernel) (EW.cons (hwi hw 82 rfl) (by decide +kernel) (EW.cons (hwi hw 83 rfl) (by decide +kernel) (EW.cons (hwi hw 84 rfl) (by decide +kernel) (EW.cons (hwi hw 252 rfl) (by decide +kernel) (EW.cons (hwi hw 255 rfl) (by decide +kernel) (EW.cons (hwi hw 256 rfl) (by decide +kernel) (EW.cons (hwi hw 257 rfl) (by decide +kernel) (EW.cons (hwi hw 260 rfl) (by decide +kernel) (EW.cons (hwi hw 276 rfl) (by decide +kernel) (EW.cons (hwi hw 277 rfl) (by decide +kernel) (EW.cons (hwi hw 278 rfl) (by decide +kernel) (EW.cons (hwi hw 279 rfl) (by decide +kernel) (EW.cons (hwi hw 280 rfl) (by decide +kernel) (EW.cons (hwi hw 295 rfl) (by decide +kernel) (EW.cons (hwi hw 296 rfl) (by decide +kernel) (EW.cons (hwi hw 297 rfl) (by decide +kernel) (EW.cons (hwi hw 300 rfl) (by decide +kernel) (EW.cons (hwi hw 108 rfl) (by decide +kernel) (EW.cons (hwi hw 219 rfl) (by decide +kernel) (EW.cons (hwi hw 222 rfl) (by decide +kernel) (EW.cons (hwi hw 223 rfl) (by decide +kernel) (EW.cons (hwi hw 232 rfl) (by decide +kernel) (EW.cons (hwi hw 241 rfl) (by decide +kernel) (EW.cons (hwi hw 244 rfl) (by decide +kernel) (EW.cons (hwi hw 62 rfl) (by decide +kernel) (EW.cons (hwi hw 307 rfl) (by decide +kernel) (EW.cons (hwi hw 269 rfl) (by decide +kernel) (EW.cons (hwi hw 306 rfl) (by decide +kernel) (EW.cons (hwi hw 267 rfl) (by decide +kernel) EW.nil)))))))))))))))))))))))))))))))
  have CH0 : CHv s EL1 s.vm s.heap := CHv.start hEL (fun p hp => hcalls.1 p hp) hcw (hwi hw 20 rfl) (hwi hw 2 rfl)
  obtain ⟨n, o, h1, h2, h3, _, L, rfl, ⟨rfl, N⟩, hq⟩ := rm0 l s _ hw tables_1 i0 s.heap s.heap.size (Nat.le_refl _) (Old.start s) SK hEL p e ha hc hk s m _ below hf ((Spec.applies_iff_loose hf).mp happ).1 ⟨rfl, State.Warmed39.refl s, rfl, CH0⟩ trivial
  refine ⟨n, _, h1, h2, h3, hpost _ _ _ _ _ _ ⟨Cond.after_iff.mpr rfl, Cond.after_iff.mpr (eq_i res_at (Term.int_eval (1)) rfl), trivial⟩ ⟨hq.1, hq.2.1, hq.2.2.1, (hq.2.2.2.sift fun y hy => Or.inr (N y hy)).mono (by decide) (by decide)⟩⟩
theorem main_1_1 : Claimed_1_1 := comes_1 fun _ _ _ _ _ _ h hF => ⟨h.1, hF⟩
theorem main_1_2 : Claimed_1_2 := comes_1 fun _ _ _ _ _ _ h hF => ⟨h.2.1, hF⟩
end Jvm.Pilot.@@N@@
namespace Jvm.Pilot.@@N@@
open Jvm Jvm.ClassFile Sem Op Lib Jvm.Free Jvm.Stand Jvm.Pilot.@@N@@.Jvm.D
/-! MADE BY PROGRAM (witnessworld.py) out of the Statement's table words and the real class files: 28 classes; the members and pool entries that the words name. The judged class is class 1, her method 1. -/
namespace start1
open Jvm.ClassFile
def u (s : String) : CpInfo := .utf8 (stringToUtf16 s)
/-- a pool by its gaps: so many unusable entries, then the entry; so many at the end -/
def gap : Nat → List CpInfo → List CpInfo
  | 0, r => r
  | n + 1, r => .unusable :: gap n r
def poolList (es : List (Nat × CpInfo)) (last : Nat) : List CpInfo := es.foldr (fun e r => gap e.1 (e.2 :: r)) (gap last [])
def pool (es : List (Nat × CpInfo)) (last : Nat) : Array CpInfo := ⟨poolList es last⟩
def fileOf (pool : Array CpInfo) (this : Nat) (attrs : Array Attribute := #[]) (ms : Array MethodInfo := #[]) (fl : Nat := 33) (sup : Nat := 0) (ifs : Array Nat := #[]) (fds : Array FieldInfo := #[]) : ClassFile where
  minorVersion := 0
  majorVersion := 65
  constantPool := pool
  accessFlags := fl
  thisClass := this
  superClass := sup
  interfaces := ifs
  fields := fds
  methods := ms
  attributes := attrs
def plain (name : String) (sup : Option ClassId) : Class where
  name := name
  kind := .ordinary
  loader := none
  accessFlags := 33
  super := sup
  interfaces := #[]
  cf := none
  fields := #[]
  methods := #[]
  instanceTypes := #[]
  staticTypes := #[]
  resolved := #[]
  callSites := []
  init := .initialized
  statics := none
  mirror := none

def pool0 : Array CpInfo := pool [(5, u "<init>"), (0, u "()V"), (1, .class_ 10), (1, u "java/lang/Object"), (85, u "clone"), (0, u "()Ljava/lang/Object;")] 26

def k0c0 : Code := { maxStack := 0, maxLocals := 1, code := object_method_1_code, exceptionTable := #[], attributes := #[] }
def k0m0 : Method := { name := "<init>", desc := "()V", sig := { parameters := [], returnType := none }, accessFlags := 1, code := some k0c0 }
def k0m1 : Method := { name := "clone", desc := "()Ljava/lang/Object;", sig := { parameters := [], returnType := some (.object "java/lang/Object") }, accessFlags := 260, code := none }
/-- java/lang/Object -/
def k0 : Class := { plain "java/lang/Object" none with
  accessFlags := 33
  interfaces := #[]
  cf := some (fileOf pool0 8 #[] #[{ accessFlags := 1, nameIndex := 5, descriptorIndex := 6, attributes := #[] }, { accessFlags := 260, nameIndex := 96, descriptorIndex := 97, attributes := #[] }] 33 0 #[] #[])
  fields := #[]
  methods := #[k0m0, k0m1]
  instanceTypes := #[]
  staticTypes := #[]
  resolved := Array.replicate 124 none
  statics := none }

def pool1 : Array CpInfo := pool [(2, .class_ 4), (1, u "java/lang/Object"), (0, u "<init>"), (0, u "()V"), (0, .integer 2147483647), (0, .class_ 9), (0, u "java/lang/String"), (0, .methodref 8 11), (0, .nameAndType 5 12), (0, u "([C)V"), (0, .methodref 14 15), (0, .class_ 16), (0, .nameAndType 17 18), (0, u "com/example/rigorous_lock/rigorouslock/io/SqlDialect"), (0, u "of"), (0, u "(Ljava/lang/String;)Lcom/example/rigorous_lock/rigorouslock/io/SqlDialect;"), (0, .class_ 20), (0, u "com/example/rigorous_lock/rigorouslock/io/PostgresDialect"), (0, .fieldref 14 22), (0, .nameAndType 23 24), (0, u "leaseEnd"), (0, u "Ljava/lang/String;"), (0, .string 26), (0, u "statement_timestamp() + ? * INTERVAL '1 microsecond'"), (0, .methodref 8 28), (0, .nameAndType 29 30), (0, u "equals"), (0, u "(Ljava/lang/Object;)Z"), (0, .class_ 32), (0, u "com/example/rigorous_lock/rigorouslock/io/MariaDbDialect"), (0, .string 34), (0, u "UTC_TIMESTAMP(6) + INTERVAL ? MICROSECOND"), (0, .class_ 36), (0, u "com/example/rigorous_lock/rigorouslock/io/SqlDialectOfPinLaw"), (2, u "law"), (0, u "(I)Z")] 3

def k1m0 : Method := { name := "<init>", desc := "()V", sig := { parameters := [], returnType := none }, accessFlags := 2, code := none }
def k1c1 : Code := { maxStack := 6, maxLocals := 4, code := code, exceptionTable := #[], attributes := #[] }
def k1m1 : Method := { name := "law", desc := "(I)Z", sig := { parameters := [.int], returnType := some .boolean }, accessFlags := 9, code := some k1c1 }
/-- com/example/rigorous_lock/rigorouslock/io/SqlDialectOfPinLaw -/
def k1 : Class := { plain "com/example/rigorous_lock/rigorouslock/io/SqlDialectOfPinLaw" (some 0) with
  accessFlags := 49
  interfaces := #[]
  cf := some (fileOf pool1 35 #[] #[{ accessFlags := 2, nameIndex := 5, descriptorIndex := 6, attributes := #[] }, { accessFlags := 9, nameIndex := 39, descriptorIndex := 40, attributes := #[] }] 49 2 #[] #[])
  fields := #[]
  methods := #[k1m0, k1m1]
  instanceTypes := #[]
  staticTypes := #[]
  resolved := Array.replicate 44 none
  statics := none }

def pool2 : Array CpInfo := pool [(1, .class_ 2), (0, u "java/io/Serializable"), (0, .class_ 4), (0, u "java/lang/Object")] 2

/-- java/io/Serializable -/
def k2 : Class := { plain "java/io/Serializable" (some 0) with
  accessFlags := 1537
  interfaces := #[]
  cf := some (fileOf pool2 1 #[] #[] 1537 3 #[] #[])
  fields := #[]
  methods := #[]
  instanceTypes := #[]
  staticTypes := #[]
  resolved := Array.replicate 7 none
  statics := none }

def pool3 : Array CpInfo := pool [(1, .class_ 2), (0, u "java/lang/Comparable"), (0, .class_ 4), (0, u "java/lang/Object")] 7

/-- java/lang/Comparable -/
def k3 : Class := { plain "java/lang/Comparable" (some 0) with
  accessFlags := 1537
  interfaces := #[]
  cf := some (fileOf pool3 1 #[] #[] 1537 3 #[] #[])
  fields := #[]
  methods := #[]
  instanceTypes := #[]
  staticTypes := #[]
  resolved := Array.replicate 12 none
  statics := none }

def pool4 : Array CpInfo := pool [(2, .class_ 4), (1, u "java/lang/CharSequence"), (42, .class_ 48), (0, u "java/lang/CharSequence$1CodePointIterator"), (10, .class_ 60), (0, u "java/lang/CharSequence$1CharIterator"), (5, .class_ 67), (0, u "java/lang/Object")] 63

/-- java/lang/CharSequence -/
def k4 : Class := { plain "java/lang/CharSequence" (some 0) with
  accessFlags := 1537
  interfaces := #[]
  cf := some (fileOf pool4 2 #[.nestMembers #[47, 59]] #[] 1537 66 #[] #[])
  fields := #[]
  methods := #[]
  instanceTypes := #[]
  staticTypes := #[]
  resolved := Array.replicate 131 none
  statics := none }

def pool5 : Array CpInfo := pool [(1, .class_ 2), (0, u "java/lang/constant/Constable"), (0, .class_ 4), (0, u "java/lang/Object")] 6

/-- java/lang/constant/Constable -/
def k5 : Class := { plain "java/lang/constant/Constable" (some 0) with
  accessFlags := 1537
  interfaces := #[]
  cf := some (fileOf pool5 1 #[] #[] 1537 3 #[] #[])
  fields := #[]
  methods := #[]
  instanceTypes := #[]
  staticTypes := #[]
  resolved := Array.replicate 11 none
  statics := none }

def pool6 : Array CpInfo := pool [(1, .class_ 2), (0, u "java/lang/constant/ConstantDesc"), (0, .class_ 4), (0, u "java/lang/Object")] 32

/-- java/lang/constant/ConstantDesc -/
def k6 : Class := { plain "java/lang/constant/ConstantDesc" (some 0) with
  accessFlags := 1537
  interfaces := #[]
  cf := some (fileOf pool6 1 #[] #[] 1537 3 #[] #[])
  fields := #[]
  methods := #[]
  instanceTypes := #[]
  staticTypes := #[]
  resolved := Array.replicate 37 none
  statics := none }

def pool7 : Array CpInfo := pool [(1, .methodref 2 3), (0, .class_ 4), (0, .nameAndType 5 6), (0, u "java/lang/Object"), (0, u "<init>"), (0, u "()V"), (2, .fieldref 10 11), (0, .class_ 12), (0, .nameAndType 13 14), (0, u "java/lang/String"), (0, u "value"), (0, u "[B"), (0, .fieldref 10 16), (0, .nameAndType 17 18), (0, u "coder"), (0, u "B"), (0, .fieldref 10 20), (0, .nameAndType 21 22), (0, u "hash"), (0, u "I"), (0, .fieldref 10 24), (0, .nameAndType 25 26), (0, u "hashIsZero"), (0, u "Z"), (0, .methodref 10 28), (0, .nameAndType 5 29), (0, u "([CIILjava/lang/Void;)V"), (8, .fieldref 10 39), (0, .nameAndType 40 26), (0, u "COMPACT_STRINGS"), (1, .class_ 44), (1, u "java/lang/StringUTF16"), (0, u "compress"), (1, .methodref 42 48), (0, .nameAndType 49 50), (0, u "coderFromArrayLen"), (0, u "([BI)B"), (3, .methodref 55 56), (0, .class_ 57), (0, .nameAndType 58 59), (0, u "java/util/Arrays"), (0, u "copyOfRange"), (0, u "([BII)[B"), (47, .class_ 109), (1, u "java/lang/StringLatin1"), (32, u "()Z"), (34, .methodref 42 178), (0, .nameAndType 45 179), (0, u "([CII)[B"), (13, .class_ 195), (1, u "java/lang/System"), (16, .methodref 193 213), (0, .nameAndType 214 215), (0, u "arraycopy"), (0, u "(Ljava/lang/Object;ILjava/lang/Object;II)V"), (118, u "()I"), (0, .methodref 10 336), (0, .nameAndType 17 337), (0, u "()B"), (2, u "()[B"), (148, .methodref 10 490), (0, .nameAndType 5 491), (0, u "(Ljava/lang/AbstractStringBuilder;Ljava/lang/Void;)V"), (0, .methodref 10 493), (0, .nameAndType 494 142), (0, u "isLatin1"), (11, .nameAndType 507 334), (0, u "length"), (24, u "getBytes"), (8, .methodref 107 542), (0, .nameAndType 543 544), (0, u "equals"), (0, u "([B[B)Z"), (4, .methodref 550 506), (0, .class_ 551), (0, u "java/lang/AbstractStringBuilder"), (0, .methodref 550 553), (0, .nameAndType 554 340), (0, u "getValue"), (18, u "(Ljava/lang/Object;)Z"), (1, .class_ 576), (0, u "java/lang/CharSequence"), (22, u "CASE_INSENSITIVE_ORDER"), (0, u "Ljava/util/Comparator;"), (27, .methodref 107 629), (0, .nameAndType 630 631), (0, u "hashCode"), (0, u "([B)I"), (189, u "([BIB)V"), (188, u "([C)V"), (36, .methodref 550 493), (53, u "serialPersistentFields"), (0, u "[Ljava/io/ObjectStreamField;"), (0, .class_ 1104), (0, u "java/lang/String$CaseInsensitiveComparator"), (1, .class_ 1107), (0, u "java/io/Serializable"), (0, .class_ 1109), (0, u "java/lang/Comparable"), (0, .class_ 1111), (0, u "java/lang/constant/Constable"), (0, .class_ 1113), (0, u "java/lang/constant/ConstantDesc"), (2, u "serialVersionUID"), (0, u "J"), (3, u "REPL"), (0, u "C"), (2, u "LATIN1"), (1, u "UTF16"), (105, u "(Ljava/lang/StringBuilder;)V")] 217

def k7m0 : Method := { name := "<init>", desc := "()V", sig := { parameters := [], returnType := none }, accessFlags := 1, code := none }
def k7c1 : Code := { maxStack := 5, maxLocals := 2, code := jdk_42_method_3_code, exceptionTable := #[], attributes := #[] }
def k7m1 : Method := { name := "<init>", desc := "([C)V", sig := { parameters := [(.array .char)], returnType := none }, accessFlags := 1, code := some k7c1 }
def k7c2 : Code := { maxStack := 3, maxLocals := 2, code := jdk_42_method_53_code, exceptionTable := #[], attributes := #[] }
def k7m2 : Method := { name := "<init>", desc := "(Ljava/lang/StringBuilder;)V", sig := { parameters := [(.object "java/lang/StringBuilder")], returnType := none }, accessFlags := 1, code := some k7c2 }
def k7c3 : Code := { maxStack := 2, maxLocals := 1, code := jdk_42_method_54_code, exceptionTable := #[], attributes := #[] }
def k7m3 : Method := { name := "length", desc := "()I", sig := { parameters := [], returnType := some .int }, accessFlags := 1, code := some k7c3 }
def k7c4 : Code := { maxStack := 2, maxLocals := 3, code := jdk_42_method_66_code, exceptionTable := #[], attributes := #[] }
def k7m4 : Method := { name := "equals", desc := "(Ljava/lang/Object;)Z", sig := { parameters := [(.object "java/lang/Object")], returnType := some .boolean }, accessFlags := 1, code := some k7c4 }
def k7c5 : Code := { maxStack := 2, maxLocals := 2, code := jdk_42_method_78_code, exceptionTable := #[], attributes := #[] }
def k7m5 : Method := { name := "hashCode", desc := "()I", sig := { parameters := [], returnType := some .int }, accessFlags := 1, code := some k7c5 }
def k7c6 : Code := { maxStack := 5, maxLocals := 4, code := jdk_42_method_147_code, exceptionTable := #[], attributes := #[] }
def k7m6 : Method := { name := "getBytes", desc := "([BIB)V", sig := { parameters := [(.array .byte), .int, .byte], returnType := none }, accessFlags := 0, code := some k7c6 }
def k7c7 : Code := { maxStack := 4, maxLocals := 6, code := jdk_42_method_149_code, exceptionTable := #[], attributes := #[] }
def k7m7 : Method := { name := "<init>", desc := "([CIILjava/lang/Void;)V", sig := { parameters := [(.array .char), .int, .int, (.object "java/lang/Void")], returnType := none }, accessFlags := 2, code := some k7c7 }
def k7c8 : Code := { maxStack := 5, maxLocals := 5, code := jdk_42_method_150_code, exceptionTable := #[], attributes := #[] }
def k7m8 : Method := { name := "<init>", desc := "(Ljava/lang/AbstractStringBuilder;Ljava/lang/Void;)V", sig := { parameters := [(.object "java/lang/AbstractStringBuilder"), (.object "java/lang/Void")], returnType := none }, accessFlags := 0, code := some k7c8 }
def k7c9 : Code := { maxStack := 1, maxLocals := 1, code := jdk_42_method_152_code, exceptionTable := #[], attributes := #[] }
def k7m9 : Method := { name := "coder", desc := "()B", sig := { parameters := [], returnType := some .byte }, accessFlags := 0, code := some k7c9 }
def k7c10 : Code := { maxStack := 1, maxLocals := 1, code := jdk_42_method_154_code, exceptionTable := #[], attributes := #[] }
def k7m10 : Method := { name := "isLatin1", desc := "()Z", sig := { parameters := [], returnType := some .boolean }, accessFlags := 0, code := some k7c10 }
/-- java/lang/String -/
def k7 : Class := { plain "java/lang/String" (some 0) with
  accessFlags := 49
  interfaces := #[2, 3, 4, 5, 6]
  cf := some (fileOf pool7 10 #[.nestMembers #[1103]] #[{ accessFlags := 1, nameIndex := 5, descriptorIndex := 6, attributes := #[] }, { accessFlags := 1, nameIndex := 5, descriptorIndex := 1010, attributes := #[] }, { accessFlags := 1, nameIndex := 5, descriptorIndex := 1233, attributes := #[] }, { accessFlags := 1, nameIndex := 507, descriptorIndex := 334, attributes := #[] }, { accessFlags := 1, nameIndex := 543, descriptorIndex := 573, attributes := #[] }, { accessFlags := 1, nameIndex := 630, descriptorIndex := 334, attributes := #[] }, { accessFlags := 0, nameIndex := 532, descriptorIndex := 821, attributes := #[] }, { accessFlags := 2, nameIndex := 5, descriptorIndex := 29, attributes := #[] }, { accessFlags := 0, nameIndex := 5, descriptorIndex := 491, attributes := #[] }, { accessFlags := 0, nameIndex := 17, descriptorIndex := 337, attributes := #[] }, { accessFlags := 0, nameIndex := 494, descriptorIndex := 142, attributes := #[] }] 49 2 #[1106, 1108, 575, 1110, 1112] #[{ accessFlags := 18, nameIndex := 13, descriptorIndex := 14, attributes := #[] }, { accessFlags := 18, nameIndex := 17, descriptorIndex := 18, attributes := #[] }, { accessFlags := 2, nameIndex := 21, descriptorIndex := 22, attributes := #[] }, { accessFlags := 2, nameIndex := 25, descriptorIndex := 26, attributes := #[] }, { accessFlags := 26, nameIndex := 1116, descriptorIndex := 1117, attributes := #[] }, { accessFlags := 24, nameIndex := 40, descriptorIndex := 26, attributes := #[] }, { accessFlags := 26, nameIndex := 1101, descriptorIndex := 1102, attributes := #[] }, { accessFlags := 26, nameIndex := 1121, descriptorIndex := 1122, attributes := #[] }, { accessFlags := 25, nameIndex := 599, descriptorIndex := 600, attributes := #[] }, { accessFlags := 24, nameIndex := 1125, descriptorIndex := 18, attributes := #[] }, { accessFlags := 24, nameIndex := 1127, descriptorIndex := 18, attributes := #[] }])
  fields := #[{ name := "value", type := (.array .byte), accessFlags := 18, slot := 0, constantValue := 0 }, { name := "coder", type := .byte, accessFlags := 18, slot := 1, constantValue := 0 }, { name := "hash", type := .int, accessFlags := 2, slot := 2, constantValue := 0 }, { name := "hashIsZero", type := .boolean, accessFlags := 2, slot := 3, constantValue := 0 }, { name := "serialVersionUID", type := .long, accessFlags := 26, slot := 0, constantValue := 0 }, { name := "COMPACT_STRINGS", type := .boolean, accessFlags := 24, slot := 1, constantValue := 0 }, { name := "serialPersistentFields", type := (.array (.object "java/io/ObjectStreamField")), accessFlags := 26, slot := 2, constantValue := 0 }, { name := "REPL", type := .char, accessFlags := 26, slot := 3, constantValue := 0 }, { name := "CASE_INSENSITIVE_ORDER", type := (.object "java/util/Comparator"), accessFlags := 25, slot := 4, constantValue := 0 }, { name := "LATIN1", type := .byte, accessFlags := 24, slot := 5, constantValue := 0 }, { name := "UTF16", type := .byte, accessFlags := 24, slot := 6, constantValue := 0 }]
  methods := #[k7m0, k7m1, k7m2, k7m3, k7m4, k7m5, k7m6, k7m7, k7m8, k7m9, k7m10]
  instanceTypes := #[(.array .byte), .byte, .int, .boolean]
  staticTypes := #[.long, .boolean, (.array (.object "java/io/ObjectStreamField")), .char, (.object "java/util/Comparator"), .byte, .byte]
  resolved := Array.replicate 1451 none
  statics := some 0 }

def pool8 : Array CpInfo := pool [(6, .class_ 8), (1, u "java/lang/Object"), (0, u "<init>"), (0, u "()V"), (1, .class_ 14), (1, u "java/lang/StringUTF16"), (31, u "$assertionsDisabled"), (0, u "Z"), (13, u "HI_BYTE_SHIFT"), (0, u "I"), (2, u "LO_BYTE_SHIFT"), (49, .methodref 12 116), (0, .nameAndType 117 118), (0, u "compress"), (0, u "([CI[BII)I"), (3, u "([CII)[B"), (138, u "coderFromArrayLen"), (0, u "([BI)B"), (106, .class_ 371), (1, u "java/lang/StringUTF16$LinesSpliterator"), (58, u "MAX_LENGTH"), (196, .class_ 628), (0, u "java/lang/StringUTF16$CodePointsSpliterator"), (0, .class_ 630), (0, u "java/lang/StringUTF16$CharsSpliterator")] 4

def k8m0 : Method := { name := "<init>", desc := "()V", sig := { parameters := [], returnType := none }, accessFlags := 0, code := none }
def k8c1 : Code := { maxStack := 2, maxLocals := 2, code := jdk_52_method_15_code, exceptionTable := #[], attributes := #[] }
def k8m1 : Method := { name := "coderFromArrayLen", desc := "([BI)B", sig := { parameters := [(.array .byte), .int], returnType := some .byte }, accessFlags := 8, code := some k8c1 }
def k8c2 : Code := { maxStack := 5, maxLocals := 6, code := jdk_52_method_16_code, exceptionTable := #[], attributes := #[] }
def k8m2 : Method := { name := "compress", desc := "([CII)[B", sig := { parameters := [(.array .char), .int, .int], returnType := some (.array .byte) }, accessFlags := 9, code := some k8c2 }
def k8c3 : Code := { maxStack := 3, maxLocals := 7, code := jdk_52_method_21_code, exceptionTable := #[], attributes := #[] }
def k8m3 : Method := { name := "compress", desc := "([CI[BII)I", sig := { parameters := [(.array .char), .int, (.array .byte), .int, .int], returnType := some .int }, accessFlags := 9, code := some k8c3 }
/-- java/lang/StringUTF16 -/
def k8 : Class := { plain "java/lang/StringUTF16" (some 0) with
  accessFlags := 48
  interfaces := #[]
  cf := some (fileOf pool8 12 #[.nestMembers #[627, 629, 369]] #[{ accessFlags := 0, nameIndex := 9, descriptorIndex := 10, attributes := #[] }, { accessFlags := 8, nameIndex := 261, descriptorIndex := 262, attributes := #[] }, { accessFlags := 9, nameIndex := 117, descriptorIndex := 122, attributes := #[] }, { accessFlags := 9, nameIndex := 117, descriptorIndex := 118, attributes := #[] }] 48 6 #[] #[{ accessFlags := 26, nameIndex := 61, descriptorIndex := 62, attributes := #[] }, { accessFlags := 26, nameIndex := 65, descriptorIndex := 62, attributes := #[] }, { accessFlags := 24, nameIndex := 430, descriptorIndex := 62, attributes := #[] }, { accessFlags := 4120, nameIndex := 46, descriptorIndex := 47, attributes := #[] }])
  fields := #[{ name := "HI_BYTE_SHIFT", type := .int, accessFlags := 26, slot := 0, constantValue := 0 }, { name := "LO_BYTE_SHIFT", type := .int, accessFlags := 26, slot := 1, constantValue := 0 }, { name := "MAX_LENGTH", type := .int, accessFlags := 24, slot := 2, constantValue := 0 }, { name := "$assertionsDisabled", type := .boolean, accessFlags := 4120, slot := 3, constantValue := 0 }]
  methods := #[k8m0, k8m1, k8m2, k8m3]
  instanceTypes := #[]
  staticTypes := #[.int, .int, .int, .boolean]
  resolved := Array.replicate 635 none
  statics := none }

def pool9 : Array CpInfo := pool [(1, .methodref 2 3), (0, .class_ 4), (0, .nameAndType 5 6), (0, u "java/lang/Object"), (0, u "<init>"), (0, u "()V"), (0, .class_ 8), (0, u "java/lang/StringBuilder"), (0, .methodref 7 3), (0, .class_ 11), (0, u "com/example/rigorous_lock/rigorouslock/io/SqlDialect"), (0, .string 13), (0, u "rigorous_lock.expires_at > "), (0, .methodref 7 15), (0, .nameAndType 16 17), (0, u "append"), (0, u "(Ljava/lang/String;)Ljava/lang/StringBuilder;"), (0, .methodref 7 19), (0, .nameAndType 20 21), (0, u "toString"), (0, u "()Ljava/lang/String;"), (0, .fieldref 10 23), (0, .nameAndType 24 25), (0, u "held"), (0, u "Ljava/lang/String;"), (0, .string 27), (0, u " + "), (0, .fieldref 10 29), (0, .nameAndType 30 25), (0, u "leaseEnd"), (0, .string 32), (0, u "INSERT INTO rigorous_lock (name, owner_token, expires_at, fencing_token) VALUES (?, ?, "), (0, .string 34), (0, u ", "), (0, .fieldref 10 36), (0, .nameAndType 37 25), (0, u "insertNewRow"), (0, .fieldref 10 39), (0, .nameAndType 40 25), (0, u "createTable"), (0, .fieldref 10 42), (0, .nameAndType 43 25), (0, u "timeLeftQuery"), (0, .fieldref 10 45), (0, .nameAndType 46 25), (0, u "missingTableState"), (0, .string 48), (0, u " WHERE name = ? AND owner_token = ? AND "), (0, .string 50), (0, u "UPDATE rigorous_lock SET owner_token = NULL, expires_at = NULL"), (0, .fieldref 10 52), (0, .nameAndType 53 25), (0, u "releaseStatement"), (0, .string 55), (0, u "UPDATE rigorous_lock SET expires_at = "), (0, .fieldref 10 57), (0, .nameAndType 58 25), (0, u "renewStatement"), (0, .methodref 60 61), (0, .class_ 62), (0, .nameAndType 63 64), (0, u "java/lang/String"), (0, u "hashCode"), (0, u "()I"), (0, .string 66), (0, u "MariaDB"), (0, .methodref 60 68), (0, .nameAndType 69 70), (0, u "equals"), (0, u "(Ljava/lang/Object;)Z"), (0, .string 72), (0, u "MySQL"), (0, .string 74), (0, u "PostgreSQL"), (0, .class_ 76), (0, u "com/example/rigorous_lock/rigorouslock/io/MariaDbDialect"), (0, .methodref 75 3), (0, .class_ 79), (0, u "com/example/rigorous_lock/rigorouslock/io/PostgresDialect"), (0, .methodref 78 3), (69, u "TABLE"), (3, u "(Ljava/lang/String;Ljava/lang/String;Ljava/lang/String;Ljava/lang/String;Ljava/lang/String;)V"), (2, u "of"), (0, u "(Ljava/lang/String;)Lcom/example/rigorous_lock/rigorouslock/io/SqlDialect;")] 18

def k9c0 : Code := { maxStack := 3, maxLocals := 7, code := prog_6_method_1_code, exceptionTable := #[], attributes := #[] }
def k9m0 : Method := { name := "<init>", desc := "(Ljava/lang/String;Ljava/lang/String;Ljava/lang/String;Ljava/lang/String;Ljava/lang/String;)V", sig := { parameters := [(.object "java/lang/String"), (.object "java/lang/String"), (.object "java/lang/String"), (.object "java/lang/String"), (.object "java/lang/String")], returnType := none }, accessFlags := 0, code := some k9c0 }
def k9c1 : Code := { maxStack := 4, maxLocals := 3, code := prog_6_method_2_code, exceptionTable := #[], attributes := #[] }
def k9m1 : Method := { name := "of", desc := "(Ljava/lang/String;)Lcom/example/rigorous_lock/rigorouslock/io/SqlDialect;", sig := { parameters := [(.object "java/lang/String")], returnType := some (.object "com/example/rigorous_lock/rigorouslock/io/SqlDialect") }, accessFlags := 8, code := some k9c1 }
/-- com/example/rigorous_lock/rigorouslock/io/SqlDialect -/
def k9 : Class := { plain "com/example/rigorous_lock/rigorouslock/io/SqlDialect" (some 0) with
  accessFlags := 1056
  interfaces := #[]
  cf := some (fileOf pool9 10 #[] #[{ accessFlags := 0, nameIndex := 5, descriptorIndex := 154, attributes := #[] }, { accessFlags := 8, nameIndex := 157, descriptorIndex := 158, attributes := #[] }] 1056 2 #[] #[{ accessFlags := 24, nameIndex := 150, descriptorIndex := 25, attributes := #[] }, { accessFlags := 16, nameIndex := 24, descriptorIndex := 25, attributes := #[] }, { accessFlags := 16, nameIndex := 30, descriptorIndex := 25, attributes := #[] }, { accessFlags := 16, nameIndex := 37, descriptorIndex := 25, attributes := #[] }, { accessFlags := 18, nameIndex := 40, descriptorIndex := 25, attributes := #[] }, { accessFlags := 18, nameIndex := 43, descriptorIndex := 25, attributes := #[] }, { accessFlags := 18, nameIndex := 46, descriptorIndex := 25, attributes := #[] }, { accessFlags := 18, nameIndex := 53, descriptorIndex := 25, attributes := #[] }, { accessFlags := 18, nameIndex := 58, descriptorIndex := 25, attributes := #[] }])
  fields := #[{ name := "TABLE", type := (.object "java/lang/String"), accessFlags := 24, slot := 0, constantValue := 0 }, { name := "held", type := (.object "java/lang/String"), accessFlags := 16, slot := 0, constantValue := 0 }, { name := "leaseEnd", type := (.object "java/lang/String"), accessFlags := 16, slot := 1, constantValue := 0 }, { name := "insertNewRow", type := (.object "java/lang/String"), accessFlags := 16, slot := 2, constantValue := 0 }, { name := "createTable", type := (.object "java/lang/String"), accessFlags := 18, slot := 3, constantValue := 0 }, { name := "timeLeftQuery", type := (.object "java/lang/String"), accessFlags := 18, slot := 4, constantValue := 0 }, { name := "missingTableState", type := (.object "java/lang/String"), accessFlags := 18, slot := 5, constantValue := 0 }, { name := "releaseStatement", type := (.object "java/lang/String"), accessFlags := 18, slot := 6, constantValue := 0 }, { name := "renewStatement", type := (.object "java/lang/String"), accessFlags := 18, slot := 7, constantValue := 0 }]
  methods := #[k9m0, k9m1]
  instanceTypes := #[(.object "java/lang/String"), (.object "java/lang/String"), (.object "java/lang/String"), (.object "java/lang/String"), (.object "java/lang/String"), (.object "java/lang/String"), (.object "java/lang/String"), (.object "java/lang/String")]
  staticTypes := #[(.object "java/lang/String")]
  resolved := Array.replicate 177 none
  statics := none }

def pool10 : Array CpInfo := pool [(4, .class_ 6), (1, u "java/lang/Object"), (0, u "<init>"), (0, u "()V"), (5, .class_ 16), (1, u "java/lang/StringLatin1"), (28, .class_ 47), (1, u "jdk/internal/util/ArraysSupport"), (9, u "([B)I"), (26, .methodref 45 85), (0, .nameAndType 86 87), (0, u "vectorizedHashCode"), (0, u "(Ljava/lang/Object;IIII)I"), (33, u "$assertionsDisabled"), (0, u "Z"), (98, .class_ 223), (1, u "java/lang/StringLatin1$LinesSpliterator"), (57, u "equals"), (0, u "([B[B)Z"), (15, u "hashCode"), (91, .class_ 391), (0, u "java/lang/StringLatin1$CharsSpliterator")] 3

def k10m0 : Method := { name := "<init>", desc := "()V", sig := { parameters := [], returnType := none }, accessFlags := 0, code := none }
def k10c1 : Code := { maxStack := 3, maxLocals := 3, code := jdk_43_method_13_code, exceptionTable := #[], attributes := #[] }
def k10m1 : Method := { name := "equals", desc := "([B[B)Z", sig := { parameters := [(.array .byte), (.array .byte)], returnType := some .boolean }, accessFlags := 9, code := some k10c1 }
def k10c2 : Code := { maxStack := 5, maxLocals := 1, code := jdk_43_method_21_code, exceptionTable := #[], attributes := #[] }
def k10m2 : Method := { name := "hashCode", desc := "([B)I", sig := { parameters := [(.array .byte)], returnType := some .int }, accessFlags := 9, code := some k10c2 }
/-- java/lang/StringLatin1 -/
def k10 : Class := { plain "java/lang/StringLatin1" (some 0) with
  accessFlags := 48
  interfaces := #[]
  cf := some (fileOf pool10 14 #[.nestMembers #[390, 221]] #[{ accessFlags := 0, nameIndex := 7, descriptorIndex := 8, attributes := #[] }, { accessFlags := 9, nameIndex := 281, descriptorIndex := 282, attributes := #[] }, { accessFlags := 9, nameIndex := 298, descriptorIndex := 57, attributes := #[] }] 48 4 #[] #[{ accessFlags := 4120, nameIndex := 121, descriptorIndex := 122, attributes := #[] }])
  fields := #[{ name := "$assertionsDisabled", type := .boolean, accessFlags := 4120, slot := 0, constantValue := 0 }]
  methods := #[k10m0, k10m1, k10m2]
  instanceTypes := #[]
  staticTypes := #[.boolean]
  resolved := Array.replicate 395 none
  statics := none }

def pool11 : Array CpInfo := pool [(9, u "<init>"), (6, .class_ 18), (1, u "java/lang/Object"), (0, u "()V"), (1, .class_ 23), (1, u "jdk/internal/util/ArraysSupport"), (0, u "LOG2_ARRAY_LONG_INDEX_SCALE"), (0, u "I"), (2, u "U"), (0, u "Ljdk/internal/misc/Unsafe;"), (8, u "BIG_ENDIAN"), (0, u "Z"), (8, u "LOG2_BYTE_BIT_SIZE"), (4, u "LOG2_ARRAY_INT_INDEX_SCALE"), (6, .class_ 61), (0, u "[B"), (0, .methodref 21 63), (0, .nameAndType 64 65), (0, u "signedHashCode"), (0, u "(I[BII)I"), (42, u "JLA"), (0, u "Ljdk/internal/access/JavaLangAccess;"), (11, u "LOG2_ARRAY_BOOLEAN_INDEX_SCALE"), (9, u "LOG2_ARRAY_BYTE_INDEX_SCALE"), (5, u "LOG2_ARRAY_CHAR_INDEX_SCALE"), (5, u "LOG2_ARRAY_SHORT_INDEX_SCALE"), (18, u "LOG2_ARRAY_FLOAT_INDEX_SCALE"), (24, u "LOG2_ARRAY_DOUBLE_INDEX_SCALE"), (6, .methodref 195 196), (0, .class_ 197), (0, .nameAndType 198 199), (0, u "java/lang/Math"), (0, u "max"), (0, u "(II)I"), (0, .integer 2147483639), (76, u "T_BOOLEAN"), (2, u "T_CHAR"), (1, u "T_FLOAT"), (1, u "T_DOUBLE"), (1, u "T_BYTE"), (1, u "T_SHORT"), (1, u "T_INT"), (1, u "T_LONG"), (1, u "SOFT_MAX_ARRAY_LENGTH"), (26, u "vectorizedHashCode"), (0, u "(Ljava/lang/Object;IIII)I"), (28, u "newLength"), (0, u "(III)I")] 25

def k11m0 : Method := { name := "<init>", desc := "()V", sig := { parameters := [], returnType := none }, accessFlags := 2, code := none }
def k11c1 : Code := { maxStack := 4, maxLocals := 5, code := jdk_48_method_4_code, exceptionTable := #[], attributes := #[] }
def k11m1 : Method := { name := "vectorizedHashCode", desc := "(Ljava/lang/Object;IIII)I", sig := { parameters := [(.object "java/lang/Object"), .int, .int, .int, .int], returnType := some .int }, accessFlags := 9, code := some k11c1 }
def k11c2 : Code := { maxStack := 3, maxLocals := 6, code := jdk_48_method_5_code, exceptionTable := #[], attributes := #[] }
def k11m2 : Method := { name := "signedHashCode", desc := "(I[BII)I", sig := { parameters := [.int, (.array .byte), .int, .int], returnType := some .int }, accessFlags := 10, code := some k11c2 }
def k11c3 : Code := { maxStack := 3, maxLocals := 4, code := jdk_48_method_27_code, exceptionTable := #[], attributes := #[] }
def k11m3 : Method := { name := "newLength", desc := "(III)I", sig := { parameters := [.int, .int, .int], returnType := some .int }, accessFlags := 9, code := some k11c3 }
/-- jdk/internal/util/ArraysSupport -/
def k11 : Class := { plain "jdk/internal/util/ArraysSupport" (some 0) with
  accessFlags := 33
  interfaces := #[]
  cf := some (fileOf pool11 21 #[] #[{ accessFlags := 2, nameIndex := 9, descriptorIndex := 19, attributes := #[] }, { accessFlags := 9, nameIndex := 321, descriptorIndex := 322, attributes := #[] }, { accessFlags := 10, nameIndex := 64, descriptorIndex := 65, attributes := #[] }, { accessFlags := 9, nameIndex := 351, descriptorIndex := 352, attributes := #[] }] 33 16 #[] #[{ accessFlags := 24, nameIndex := 28, descriptorIndex := 29, attributes := #[] }, { accessFlags := 26, nameIndex := 38, descriptorIndex := 39, attributes := #[] }, { accessFlags := 25, nameIndex := 121, descriptorIndex := 25, attributes := #[] }, { accessFlags := 25, nameIndex := 131, descriptorIndex := 25, attributes := #[] }, { accessFlags := 25, nameIndex := 137, descriptorIndex := 25, attributes := #[] }, { accessFlags := 25, nameIndex := 143, descriptorIndex := 25, attributes := #[] }, { accessFlags := 25, nameIndex := 53, descriptorIndex := 25, attributes := #[] }, { accessFlags := 25, nameIndex := 24, descriptorIndex := 25, attributes := #[] }, { accessFlags := 25, nameIndex := 162, descriptorIndex := 25, attributes := #[] }, { accessFlags := 25, nameIndex := 187, descriptorIndex := 25, attributes := #[] }, { accessFlags := 26, nameIndex := 48, descriptorIndex := 25, attributes := #[] }, { accessFlags := 25, nameIndex := 277, descriptorIndex := 25, attributes := #[] }, { accessFlags := 25, nameIndex := 280, descriptorIndex := 25, attributes := #[] }, { accessFlags := 25, nameIndex := 282, descriptorIndex := 25, attributes := #[] }, { accessFlags := 25, nameIndex := 284, descriptorIndex := 25, attributes := #[] }, { accessFlags := 25, nameIndex := 286, descriptorIndex := 25, attributes := #[] }, { accessFlags := 25, nameIndex := 288, descriptorIndex := 25, attributes := #[] }, { accessFlags := 25, nameIndex := 290, descriptorIndex := 25, attributes := #[] }, { accessFlags := 25, nameIndex := 292, descriptorIndex := 25, attributes := #[] }, { accessFlags := 26, nameIndex := 108, descriptorIndex := 109, attributes := #[] }, { accessFlags := 25, nameIndex := 294, descriptorIndex := 25, attributes := #[] }])
  fields := #[{ name := "U", type := (.object "jdk/internal/misc/Unsafe"), accessFlags := 24, slot := 0, constantValue := 0 }, { name := "BIG_ENDIAN", type := .boolean, accessFlags := 26, slot := 1, constantValue := 0 }, { name := "LOG2_ARRAY_BOOLEAN_INDEX_SCALE", type := .int, accessFlags := 25, slot := 2, constantValue := 0 }, { name := "LOG2_ARRAY_BYTE_INDEX_SCALE", type := .int, accessFlags := 25, slot := 3, constantValue := 0 }, { name := "LOG2_ARRAY_CHAR_INDEX_SCALE", type := .int, accessFlags := 25, slot := 4, constantValue := 0 }, { name := "LOG2_ARRAY_SHORT_INDEX_SCALE", type := .int, accessFlags := 25, slot := 5, constantValue := 0 }, { name := "LOG2_ARRAY_INT_INDEX_SCALE", type := .int, accessFlags := 25, slot := 6, constantValue := 0 }, { name := "LOG2_ARRAY_LONG_INDEX_SCALE", type := .int, accessFlags := 25, slot := 7, constantValue := 0 }, { name := "LOG2_ARRAY_FLOAT_INDEX_SCALE", type := .int, accessFlags := 25, slot := 8, constantValue := 0 }, { name := "LOG2_ARRAY_DOUBLE_INDEX_SCALE", type := .int, accessFlags := 25, slot := 9, constantValue := 0 }, { name := "LOG2_BYTE_BIT_SIZE", type := .int, accessFlags := 26, slot := 10, constantValue := 0 }, { name := "T_BOOLEAN", type := .int, accessFlags := 25, slot := 11, constantValue := 0 }, { name := "T_CHAR", type := .int, accessFlags := 25, slot := 12, constantValue := 0 }, { name := "T_FLOAT", type := .int, accessFlags := 25, slot := 13, constantValue := 0 }, { name := "T_DOUBLE", type := .int, accessFlags := 25, slot := 14, constantValue := 0 }, { name := "T_BYTE", type := .int, accessFlags := 25, slot := 15, constantValue := 0 }, { name := "T_SHORT", type := .int, accessFlags := 25, slot := 16, constantValue := 0 }, { name := "T_INT", type := .int, accessFlags := 25, slot := 17, constantValue := 0 }, { name := "T_LONG", type := .int, accessFlags := 25, slot := 18, constantValue := 0 }, { name := "JLA", type := (.object "jdk/internal/access/JavaLangAccess"), accessFlags := 26, slot := 19, constantValue := 0 }, { name := "SOFT_MAX_ARRAY_LENGTH", type := .int, accessFlags := 25, slot := 20, constantValue := 0 }]
  methods := #[k11m0, k11m1, k11m2, k11m3]
  instanceTypes := #[]
  staticTypes := #[(.object "jdk/internal/misc/Unsafe"), .boolean, .int, .int, .int, .int, .int, .int, .int, .int, .int, .int, .int, .int, .int, .int, .int, .int, .int, (.object "jdk/internal/access/JavaLangAccess"), .int]
  resolved := Array.replicate 378 none
  statics := none }

def pool12 : Array CpInfo := pool [(1, .class_ 2), (0, u "com/example/rigorous_lock/rigorouslock/io/SqlDialect"), (2, .string 6), (0, u "UTC_TIMESTAMP(6)"), (0, .string 8), (0, u "INTERVAL ? MICROSECOND"), (0, .class_ 10), (0, u "com/example/rigorous_lock/rigorouslock/io/MariaDbDialect"), (0, .string 12), (0, u "CREATE TABLE IF NOT EXISTS rigorous_lock (name VARBINARY(767) NOT NULL, owner_token VARBINARY(64), expires_at DATETIME(6), fencing_token BIGINT UNSIGNED NOT NULL, PRIMARY KEY (name)) ENGINE = InnoDB"), (0, .string 14), (0, u "SELECT TIMESTAMPDIFF(MICROSECOND, UTC_TIMESTAMP(6), expires_at) FROM rigorous_lock WHERE name = ?"), (0, .string 16), (0, u "42S02"), (0, .methodref 1 18), (0, .nameAndType 19 20), (0, u "<init>"), (0, u "(Ljava/lang/String;Ljava/lang/String;Ljava/lang/String;Ljava/lang/String;Ljava/lang/String;)V"), (0, .class_ 22), (0, u "java/lang/StringBuilder"), (0, .methodref 21 24), (0, .nameAndType 19 25), (0, u "()V"), (0, .fieldref 9 27), (0, .nameAndType 28 29), (0, u "insertNewRow"), (0, u "Ljava/lang/String;"), (0, .methodref 21 31), (0, .nameAndType 32 33), (0, u "append"), (0, u "(Ljava/lang/String;)Ljava/lang/StringBuilder;"), (0, .string 35), (0, u "LAST_INSERT_ID(1)) ON DUPLICATE KEY UPDATE fencing_token = IF("), (0, .fieldref 9 37), (0, .nameAndType 38 29), (0, u "held"), (0, .string 40), (0, u ", fencing_token + LAST_INSERT_ID(0), LAST_INSERT_ID(fencing_token + 1)), owner_token = IF("), (0, .string 42), (0, u ", owner_token, ?), expires_at = IF("), (0, .string 44), (0, u ", expires_at, "), (0, .fieldref 9 46), (0, .nameAndType 47 29), (0, u "leaseEnd"), (0, .string 49), (0, u ")"), (0, .methodref 21 51), (0, .nameAndType 52 53), (0, u "toString"), (0, u "()Ljava/lang/String;"), (0, .fieldref 9 55), (0, .nameAndType 56 29), (0, u "takeStatement"), (56, u "CREATE_TABLE"), (1, u "TIME_LEFT"), (0, u "NO_SUCH_TABLE")] 12

def k12c0 : Code := { maxStack := 6, maxLocals := 1, code := prog_2_method_1_code, exceptionTable := #[], attributes := #[] }
def k12m0 : Method := { name := "<init>", desc := "()V", sig := { parameters := [], returnType := none }, accessFlags := 0, code := some k12c0 }
/-- com/example/rigorous_lock/rigorouslock/io/MariaDbDialect -/
def k12 : Class := { plain "com/example/rigorous_lock/rigorouslock/io/MariaDbDialect" (some 9) with
  accessFlags := 32
  interfaces := #[]
  cf := some (fileOf pool12 9 #[] #[{ accessFlags := 0, nameIndex := 19, descriptorIndex := 25, attributes := #[] }] 32 1 #[] #[{ accessFlags := 26, nameIndex := 113, descriptorIndex := 29, attributes := #[] }, { accessFlags := 26, nameIndex := 115, descriptorIndex := 29, attributes := #[] }, { accessFlags := 26, nameIndex := 116, descriptorIndex := 29, attributes := #[] }, { accessFlags := 18, nameIndex := 56, descriptorIndex := 29, attributes := #[] }])
  fields := #[{ name := "CREATE_TABLE", type := (.object "java/lang/String"), accessFlags := 26, slot := 0, constantValue := 0 }, { name := "TIME_LEFT", type := (.object "java/lang/String"), accessFlags := 26, slot := 1, constantValue := 0 }, { name := "NO_SUCH_TABLE", type := (.object "java/lang/String"), accessFlags := 26, slot := 2, constantValue := 0 }, { name := "takeStatement", type := (.object "java/lang/String"), accessFlags := 18, slot := 8, constantValue := 0 }]
  methods := #[k12m0]
  instanceTypes := #[(.object "java/lang/String"), (.object "java/lang/String"), (.object "java/lang/String"), (.object "java/lang/String"), (.object "java/lang/String"), (.object "java/lang/String"), (.object "java/lang/String"), (.object "java/lang/String"), (.object "java/lang/String")]
  staticTypes := #[(.object "java/lang/String"), (.object "java/lang/String"), (.object "java/lang/String")]
  resolved := Array.replicate 129 none
  statics := none }

def pool13 : Array CpInfo := pool [(1, .class_ 2), (0, u "java/lang/Appendable"), (0, .class_ 4), (0, u "java/lang/Object")] 9

/-- java/lang/Appendable -/
def k13 : Class := { plain "java/lang/Appendable" (some 0) with
  accessFlags := 1537
  interfaces := #[]
  cf := some (fileOf pool13 1 #[] #[] 1537 3 #[] #[])
  fields := #[]
  methods := #[]
  instanceTypes := #[]
  staticTypes := #[]
  resolved := Array.replicate 14 none
  statics := none }

def pool14 : Array CpInfo := pool [(1, .class_ 2), (0, u "java/lang/String"), (0, .methodref 4 5), (0, .class_ 6), (0, .nameAndType 7 8), (0, u "java/lang/Object"), (0, u "<init>"), (0, u "()V"), (1, .class_ 12), (1, u "java/lang/AbstractStringBuilder"), (0, u "EMPTYVALUE"), (0, u "[B"), (0, .fieldref 10 16), (0, .nameAndType 17 14), (0, u "value"), (0, .fieldref 1 19), (0, .nameAndType 20 21), (0, u "COMPACT_STRINGS"), (0, u "Z"), (0, .fieldref 10 23), (0, .nameAndType 24 25), (0, u "coder"), (0, u "B"), (6, .methodref 1 33), (0, .nameAndType 34 35), (0, u "length"), (0, u "()I"), (3, .integer 2147483647), (0, .methodref 1 41), (0, .nameAndType 24 42), (0, u "()B"), (2, u "append"), (0, u "(Ljava/lang/String;)Ljava/lang/AbstractStringBuilder;"), (1, .class_ 49), (0, u "java/lang/CharSequence"), (19, u "(Ljava/lang/String;)V"), (5, u "maybeLatin1"), (3, .fieldref 10 80), (0, .nameAndType 81 82), (0, u "count"), (0, u "I"), (2, u "isLatin1"), (0, u "()Z"), (13, .methodref 10 101), (0, .nameAndType 102 103), (0, u "ensureCapacityInternal"), (0, u "(I)V"), (0, .methodref 10 105), (0, .nameAndType 106 107), (0, u "newCapacity"), (0, u "(I)I"), (0, .methodref 109 110), (0, .class_ 111), (0, .nameAndType 112 113), (0, u "java/util/Arrays"), (0, u "copyOf"), (0, u "([BI)[B"), (0, .methodref 115 116), (0, .class_ 117), (0, .nameAndType 118 119), (0, u "jdk/internal/util/ArraysSupport"), (0, u "newLength"), (0, u "(III)I"), (88, .methodref 10 209), (0, .nameAndType 210 211), (0, u "putStringAt"), (0, u "(ILjava/lang/String;)V"), (5, u "inflateIfNeededFor"), (2, .nameAndType 221 222), (0, u "getBytes"), (0, u "([BIB)V"), (174, .methodref 10 398), (0, .nameAndType 217 69), (0, .methodref 1 220), (3, u "()[B"), (40, .class_ 445), (0, u "java/lang/Appendable"), (106, u "getValue")] 56

def k14m0 : Method := { name := "<init>", desc := "()V", sig := { parameters := [], returnType := none }, accessFlags := 0, code := none }
def k14c1 : Code := { maxStack := 2, maxLocals := 2, code := jdk_68_method_2_code, exceptionTable := #[], attributes := #[] }
def k14m1 : Method := { name := "<init>", desc := "(I)V", sig := { parameters := [.int], returnType := none }, accessFlags := 0, code := some k14c1 }
def k14c2 : Code := { maxStack := 1, maxLocals := 1, code := jdk_68_method_6_code, exceptionTable := #[], attributes := #[] }
def k14m2 : Method := { name := "length", desc := "()I", sig := { parameters := [], returnType := some .int }, accessFlags := 1, code := some k14c2 }
def k14c3 : Code := { maxStack := 4, maxLocals := 3, code := jdk_68_method_9_code, exceptionTable := #[], attributes := #[] }
def k14m3 : Method := { name := "ensureCapacityInternal", desc := "(I)V", sig := { parameters := [.int], returnType := none }, accessFlags := 2, code := some k14c3 }
def k14c4 : Code := { maxStack := 5, maxLocals := 6, code := jdk_68_method_10_code, exceptionTable := #[], attributes := #[] }
def k14m4 : Method := { name := "newCapacity", desc := "(I)I", sig := { parameters := [.int], returnType := some .int }, accessFlags := 2, code := some k14c4 }
def k14c5 : Code := { maxStack := 3, maxLocals := 3, code := jdk_68_method_22_code, exceptionTable := #[], attributes := #[] }
def k14m5 : Method := { name := "append", desc := "(Ljava/lang/String;)Ljava/lang/AbstractStringBuilder;", sig := { parameters := [(.object "java/lang/String")], returnType := some (.object "java/lang/AbstractStringBuilder") }, accessFlags := 1, code := some k14c5 }
def k14c6 : Code := { maxStack := 1, maxLocals := 1, code := jdk_68_method_64_code, exceptionTable := #[], attributes := #[] }
def k14m6 : Method := { name := "getValue", desc := "()[B", sig := { parameters := [], returnType := some (.array .byte) }, accessFlags := 16, code := some k14c6 }
def k14c7 : Code := { maxStack := 1, maxLocals := 1, code := jdk_68_method_68_code, exceptionTable := #[], attributes := #[] }
def k14m7 : Method := { name := "isLatin1", desc := "()Z", sig := { parameters := [], returnType := some .boolean }, accessFlags := 16, code := some k14c7 }
def k14c8 : Code := { maxStack := 2, maxLocals := 2, code := jdk_68_method_71_code, exceptionTable := #[], attributes := #[] }
def k14m8 : Method := { name := "inflateIfNeededFor", desc := "(Ljava/lang/String;)V", sig := { parameters := [(.object "java/lang/String")], returnType := none }, accessFlags := 2, code := some k14c8 }
def k14c9 : Code := { maxStack := 4, maxLocals := 3, code := jdk_68_method_73_code, exceptionTable := #[], attributes := #[] }
def k14m9 : Method := { name := "putStringAt", desc := "(ILjava/lang/String;)V", sig := { parameters := [.int, (.object "java/lang/String")], returnType := none }, accessFlags := 2, code := some k14c9 }
/-- java/lang/AbstractStringBuilder -/
def k14 : Class := { plain "java/lang/AbstractStringBuilder" (some 0) with
  accessFlags := 1056
  interfaces := #[13, 4]
  cf := some (fileOf pool14 10 #[] #[{ accessFlags := 0, nameIndex := 7, descriptorIndex := 8, attributes := #[] }, { accessFlags := 0, nameIndex := 7, descriptorIndex := 103, attributes := #[] }, { accessFlags := 1, nameIndex := 34, descriptorIndex := 35, attributes := #[] }, { accessFlags := 2, nameIndex := 102, descriptorIndex := 103, attributes := #[] }, { accessFlags := 2, nameIndex := 106, descriptorIndex := 107, attributes := #[] }, { accessFlags := 1, nameIndex := 45, descriptorIndex := 46, attributes := #[] }, { accessFlags := 16, nameIndex := 552, descriptorIndex := 403, attributes := #[] }, { accessFlags := 16, nameIndex := 85, descriptorIndex := 86, attributes := #[] }, { accessFlags := 2, nameIndex := 217, descriptorIndex := 69, attributes := #[] }, { accessFlags := 2, nameIndex := 210, descriptorIndex := 211, attributes := #[] }] 1056 4 #[444, 48] #[{ accessFlags := 0, nameIndex := 17, descriptorIndex := 14, attributes := #[] }, { accessFlags := 0, nameIndex := 24, descriptorIndex := 25, attributes := #[] }, { accessFlags := 0, nameIndex := 75, descriptorIndex := 21, attributes := #[] }, { accessFlags := 0, nameIndex := 81, descriptorIndex := 82, attributes := #[] }, { accessFlags := 26, nameIndex := 13, descriptorIndex := 14, attributes := #[] }])
  fields := #[{ name := "value", type := (.array .byte), accessFlags := 0, slot := 0, constantValue := 0 }, { name := "coder", type := .byte, accessFlags := 0, slot := 1, constantValue := 0 }, { name := "maybeLatin1", type := .boolean, accessFlags := 0, slot := 2, constantValue := 0 }, { name := "count", type := .int, accessFlags := 0, slot := 3, constantValue := 0 }, { name := "EMPTYVALUE", type := (.array .byte), accessFlags := 26, slot := 0, constantValue := 0 }]
  methods := #[k14m0, k14m1, k14m2, k14m3, k14m4, k14m5, k14m6, k14m7, k14m8, k14m9]
  instanceTypes := #[(.array .byte), .byte, .boolean, .int]
  staticTypes := #[(.array .byte)]
  resolved := Array.replicate 609 none
  statics := none }

def pool15 : Array CpInfo := pool [(1, .methodref 2 3), (0, .class_ 4), (0, .nameAndType 5 6), (0, u "java/lang/AbstractStringBuilder"), (0, u "<init>"), (0, u "(I)V"), (11, .class_ 20), (1, u "java/lang/String"), (3, .class_ 26), (1, u "java/lang/StringBuilder"), (0, u "append"), (0, u "(Ljava/lang/String;)Ljava/lang/StringBuilder;"), (0, .methodref 2 30), (0, .nameAndType 27 31), (0, u "(Ljava/lang/String;)Ljava/lang/AbstractStringBuilder;"), (105, .methodref 18 138), (0, .nameAndType 5 139), (0, u "(Ljava/lang/StringBuilder;)V"), (5, u "()V"), (10, u "()I"), (186, .methodref 2 344), (0, .nameAndType 345 156), (0, u "length"), (3, .class_ 350), (0, u "java/lang/Appendable"), (0, .class_ 352), (0, u "java/io/Serializable"), (0, .class_ 354), (0, u "java/lang/Comparable"), (0, .class_ 356), (0, u "java/lang/CharSequence"), (0, u "serialVersionUID"), (0, u "J"), (40, u "toString"), (0, u "()Ljava/lang/String;")] 21

def k15c0 : Code := { maxStack := 2, maxLocals := 1, code := jdk_67_method_1_code, exceptionTable := #[], attributes := #[] }
def k15m0 : Method := { name := "<init>", desc := "()V", sig := { parameters := [], returnType := none }, accessFlags := 1, code := some k15c0 }
def k15c1 : Code := { maxStack := 2, maxLocals := 2, code := jdk_67_method_7_code, exceptionTable := #[], attributes := #[] }
def k15m1 : Method := { name := "append", desc := "(Ljava/lang/String;)Ljava/lang/StringBuilder;", sig := { parameters := [(.object "java/lang/String")], returnType := some (.object "java/lang/StringBuilder") }, accessFlags := 1, code := some k15c1 }
def k15c2 : Code := { maxStack := 3, maxLocals := 1, code := jdk_67_method_42_code, exceptionTable := #[], attributes := #[] }
def k15m2 : Method := { name := "toString", desc := "()Ljava/lang/String;", sig := { parameters := [], returnType := some (.object "java/lang/String") }, accessFlags := 1, code := some k15c2 }
def k15c3 : Code := { maxStack := 1, maxLocals := 1, code := jdk_67_method_93_code, exceptionTable := #[], attributes := #[] }
def k15m3 : Method := { name := "length", desc := "()I", sig := { parameters := [], returnType := some .int }, accessFlags := 4161, code := some k15c3 }
/-- java/lang/StringBuilder -/
def k15 : Class := { plain "java/lang/StringBuilder" (some 14) with
  accessFlags := 49
  interfaces := #[13, 2, 3, 4]
  cf := some (fileOf pool15 24 #[] #[{ accessFlags := 1, nameIndex := 5, descriptorIndex := 145, attributes := #[] }, { accessFlags := 1, nameIndex := 27, descriptorIndex := 28, attributes := #[] }, { accessFlags := 1, nameIndex := 399, descriptorIndex := 400, attributes := #[] }, { accessFlags := 4161, nameIndex := 345, descriptorIndex := 156, attributes := #[] }] 49 2 #[349, 351, 353, 355] #[{ accessFlags := 24, nameIndex := 357, descriptorIndex := 358, attributes := #[] }])
  fields := #[{ name := "serialVersionUID", type := .long, accessFlags := 24, slot := 0, constantValue := 0 }]
  methods := #[k15m0, k15m1, k15m2, k15m3]
  instanceTypes := #[(.array .byte), .byte, .boolean, .int]
  staticTypes := #[.long]
  resolved := Array.replicate 422 none
  statics := none }

def pool16 : Array CpInfo := pool [(1, .class_ 2), (0, u "java/lang/Math"), (1, .class_ 6), (1, u "java/lang/Object"), (0, u "<init>"), (0, u "()V"), (89, .class_ 100), (1, u "java/lang/Math$RandomNumberGeneratorHolder"), (71, u "negativeZeroFloatBits"), (0, u "J"), (2, u "negativeZeroDoubleBits"), (21, u "max"), (2, u "min"), (43, u "$assertionsDisabled"), (0, u "Z"), (88, u "(II)I"), (2, u "twoToTheDoubleScaleDown"), (0, u "D"), (4, u "twoToTheDoubleScaleUp"), (9, u "E"), (3, u "PI"), (2, u "TAU"), (2, u "DEGREES_TO_RADIANS"), (0, u "RADIANS_TO_DEGREES")] 94

def k16m0 : Method := { name := "<init>", desc := "()V", sig := { parameters := [], returnType := none }, accessFlags := 2, code := none }
def k16c1 : Code := { maxStack := 2, maxLocals := 2, code := jdk_29_method_65_code, exceptionTable := #[], attributes := #[] }
def k16m1 : Method := { name := "max", desc := "(II)I", sig := { parameters := [.int, .int], returnType := some .int }, accessFlags := 9, code := some k16c1 }
def k16c2 : Code := { maxStack := 2, maxLocals := 2, code := jdk_29_method_69_code, exceptionTable := #[], attributes := #[] }
def k16m2 : Method := { name := "min", desc := "(II)I", sig := { parameters := [.int, .int], returnType := some .int }, accessFlags := 9, code := some k16c2 }
/-- java/lang/Math -/
def k16 : Class := { plain "java/lang/Math" (some 0) with
  accessFlags := 49
  interfaces := #[]
  cf := some (fileOf pool16 1 #[.nestMembers #[98]] #[{ accessFlags := 2, nameIndex := 7, descriptorIndex := 8, attributes := #[] }, { accessFlags := 9, nameIndex := 198, descriptorIndex := 335, attributes := #[] }, { accessFlags := 9, nameIndex := 201, descriptorIndex := 335, attributes := #[] }] 49 4 #[] #[{ accessFlags := 25, nameIndex := 354, descriptorIndex := 339, attributes := #[] }, { accessFlags := 25, nameIndex := 358, descriptorIndex := 339, attributes := #[] }, { accessFlags := 25, nameIndex := 361, descriptorIndex := 339, attributes := #[] }, { accessFlags := 26, nameIndex := 364, descriptorIndex := 339, attributes := #[] }, { accessFlags := 26, nameIndex := 365, descriptorIndex := 339, attributes := #[] }, { accessFlags := 26, nameIndex := 172, descriptorIndex := 173, attributes := #[] }, { accessFlags := 26, nameIndex := 176, descriptorIndex := 173, attributes := #[] }, { accessFlags := 8, nameIndex := 344, descriptorIndex := 339, attributes := #[] }, { accessFlags := 8, nameIndex := 338, descriptorIndex := 339, attributes := #[] }, { accessFlags := 4120, nameIndex := 245, descriptorIndex := 246, attributes := #[] }])
  fields := #[{ name := "E", type := .double, accessFlags := 25, slot := 0, constantValue := 0 }, { name := "PI", type := .double, accessFlags := 25, slot := 1, constantValue := 0 }, { name := "TAU", type := .double, accessFlags := 25, slot := 2, constantValue := 0 }, { name := "DEGREES_TO_RADIANS", type := .double, accessFlags := 26, slot := 3, constantValue := 0 }, { name := "RADIANS_TO_DEGREES", type := .double, accessFlags := 26, slot := 4, constantValue := 0 }, { name := "negativeZeroFloatBits", type := .long, accessFlags := 26, slot := 5, constantValue := 0 }, { name := "negativeZeroDoubleBits", type := .long, accessFlags := 26, slot := 6, constantValue := 0 }, { name := "twoToTheDoubleScaleUp", type := .double, accessFlags := 8, slot := 7, constantValue := 0 }, { name := "twoToTheDoubleScaleDown", type := .double, accessFlags := 8, slot := 8, constantValue := 0 }, { name := "$assertionsDisabled", type := .boolean, accessFlags := 4120, slot := 9, constantValue := 0 }]
  methods := #[k16m0, k16m1, k16m2]
  instanceTypes := #[]
  staticTypes := #[.double, .double, .double, .double, .double, .long, .long, .double, .double, .boolean]
  resolved := Array.replicate 460 none
  statics := none }

def pool17 : Array CpInfo := pool [(2, .class_ 4), (1, u "java/lang/Object"), (0, u "<init>"), (0, u "()V"), (7, .class_ 16), (1, u "java/util/Arrays"), (57, .class_ 76), (1, u "java/util/Arrays$NaturalOrder"), (32, u "()Ljava/lang/Object;"), (3, .class_ 115), (1, u "java/util/Arrays$LegacyMergeSort"), (1, u "Z"), (10, .nameAndType 129 109), (0, u "clone"), (9, u "copyOfRange"), (10, .methodref 151 152), (0, .class_ 153), (0, .nameAndType 154 155), (0, u "java/lang/System"), (0, u "arraycopy"), (0, u "(Ljava/lang/Object;ILjava/lang/Object;II)V"), (146, u "copyOf"), (1, .methodref 305 306), (0, .class_ 307), (0, .nameAndType 308 309), (0, u "java/lang/Math"), (0, u "min"), (0, u "(II)I"), (0, .methodref 311 128), (0, .class_ 312), (0, u "[B"), (26, .methodref 14 340), (0, .nameAndType 341 342), (0, u "copyOfRangeByte"), (0, u "([BII)[B"), (0, .methodref 14 344), (0, .nameAndType 345 346), (0, u "checkLength"), (0, u "(II)V"), (28, .class_ 376), (0, u "java/util/Arrays$ArrayList"), (68, u "$assertionsDisabled"), (269, u "MIN_ARRAY_SORT_GRAN"), (0, u "I"), (2, u "INSERTIONSORT_THRESHOLD"), (149, u "([BI)[B"), (105, .class_ 976), (0, u "java/util/Arrays$ArrayItr")] 52

def k17m0 : Method := { name := "<init>", desc := "()V", sig := { parameters := [], returnType := none }, accessFlags := 2, code := none }
def k17c1 : Code := { maxStack := 6, maxLocals := 3, code := jdk_65_method_121_code, exceptionTable := #[], attributes := #[] }
def k17m1 : Method := { name := "copyOf", desc := "([BI)[B", sig := { parameters := [(.array .byte), .int], returnType := some (.array .byte) }, accessFlags := 9, code := some k17c1 }
def k17c2 : Code := { maxStack := 4, maxLocals := 2, code := jdk_65_method_131_code, exceptionTable := #[], attributes := #[] }
def k17m2 : Method := { name := "checkLength", desc := "(II)V", sig := { parameters := [.int, .int], returnType := none }, accessFlags := 10, code := some k17c2 }
def k17c3 : Code := { maxStack := 3, maxLocals := 3, code := jdk_65_method_132_code, exceptionTable := #[], attributes := #[] }
def k17m3 : Method := { name := "copyOfRange", desc := "([BII)[B", sig := { parameters := [(.array .byte), .int, .int], returnType := some (.array .byte) }, accessFlags := 9, code := some k17c3 }
def k17c4 : Code := { maxStack := 6, maxLocals := 5, code := jdk_65_method_133_code, exceptionTable := #[], attributes := #[] }
def k17m4 : Method := { name := "copyOfRangeByte", desc := "([BII)[B", sig := { parameters := [(.array .byte), .int, .int], returnType := some (.array .byte) }, accessFlags := 10, code := some k17c4 }
/-- java/util/Arrays -/
def k17 : Class := { plain "java/util/Arrays" (some 0) with
  accessFlags := 49
  interfaces := #[]
  cf := some (fileOf pool17 14 #[.nestMembers #[975, 375, 113, 74]] #[{ accessFlags := 2, nameIndex := 5, descriptorIndex := 6, attributes := #[] }, { accessFlags := 9, nameIndex := 302, descriptorIndex := 869, attributes := #[] }, { accessFlags := 10, nameIndex := 345, descriptorIndex := 346, attributes := #[] }, { accessFlags := 9, nameIndex := 139, descriptorIndex := 342, attributes := #[] }, { accessFlags := 10, nameIndex := 341, descriptorIndex := 342, attributes := #[] }] 49 2 #[] #[{ accessFlags := 26, nameIndex := 715, descriptorIndex := 716, attributes := #[] }, { accessFlags := 26, nameIndex := 719, descriptorIndex := 716, attributes := #[] }, { accessFlags := 4120, nameIndex := 445, descriptorIndex := 117, attributes := #[] }])
  fields := #[{ name := "MIN_ARRAY_SORT_GRAN", type := .int, accessFlags := 26, slot := 0, constantValue := 0 }, { name := "INSERTIONSORT_THRESHOLD", type := .int, accessFlags := 26, slot := 1, constantValue := 0 }, { name := "$assertionsDisabled", type := .boolean, accessFlags := 4120, slot := 2, constantValue := 0 }]
  methods := #[k17m0, k17m1, k17m2, k17m3, k17m4]
  instanceTypes := #[]
  staticTypes := #[.int, .int, .boolean]
  resolved := Array.replicate 1029 none
  statics := none }

def pool18 : Array CpInfo := pool [(2, .class_ 4), (1, u "java/lang/Object"), (0, u "<init>"), (0, u "()V"), (1, .class_ 10), (1, u "java/lang/System"), (0, u "allowSecurityManager"), (0, u "I"), (16, u "cons"), (0, u "Ljava/io/Console;"), (77, .class_ 110), (1, u "java/lang/System$CallersHolder"), (43, u "initialErrStream"), (0, u "Ljava/io/PrintStream;"), (19, u "security"), (0, u "Ljava/lang/SecurityManager;"), (31, .class_ 209), (0, u "java/lang/System$1"), (7, u "props"), (0, u "Ljava/util/Properties;"), (2, u "lineSeparator"), (0, u "Ljava/lang/String;"), (96, .class_ 321), (1, u "java/lang/System$LoggerFinder"), (5, .class_ 328), (0, u "java/lang/System$Logger"), (67, u "err"), (2, u "out"), (91, u "notSupportedJnuEncoding"), (15, u "in"), (17, u "initialIn"), (0, u "Ljava/io/InputStream;"), (35, u "bootLayer"), (0, u "Ljava/lang/ModuleLayer;"), (99, .class_ 664), (0, u "java/lang/System$2"), (9, u "NEVER"), (2, u "MAYBE"), (49, u "arraycopy"), (0, u "(Ljava/lang/Object;ILjava/lang/Object;II)V"), (72, .class_ 802), (0, u "java/lang/System$Logger$Level")] 31

def k18m0 : Method := { name := "<init>", desc := "()V", sig := { parameters := [], returnType := none }, accessFlags := 2, code := none }
def k18m1 : Method := { name := "arraycopy", desc := "(Ljava/lang/Object;ILjava/lang/Object;II)V", sig := { parameters := [(.object "java/lang/Object"), .int, (.object "java/lang/Object"), .int, .int], returnType := none }, accessFlags := 265, code := none }
/-- java/lang/System -/
def k18 : Class := { plain "java/lang/System" (some 0) with
  accessFlags := 49
  interfaces := #[]
  cf := some (fileOf pool18 8 #[.nestMembers #[319, 327, 801, 108, 663, 208]] #[{ accessFlags := 2, nameIndex := 5, descriptorIndex := 6, attributes := #[] }, { accessFlags := 265, nameIndex := 727, descriptorIndex := 728, attributes := #[] }] 49 2 #[] #[{ accessFlags := 25, nameIndex := 507, descriptorIndex := 526, attributes := #[] }, { accessFlags := 25, nameIndex := 399, descriptorIndex := 155, attributes := #[] }, { accessFlags := 25, nameIndex := 396, descriptorIndex := 155, attributes := #[] }, { accessFlags := 10, nameIndex := 525, descriptorIndex := 526, attributes := #[] }, { accessFlags := 26, nameIndex := 674, descriptorIndex := 12, attributes := #[] }, { accessFlags := 26, nameIndex := 677, descriptorIndex := 12, attributes := #[] }, { accessFlags := 10, nameIndex := 11, descriptorIndex := 12, attributes := #[] }, { accessFlags := 74, nameIndex := 175, descriptorIndex := 176, attributes := #[] }, { accessFlags := 10, nameIndex := 491, descriptorIndex := 222, attributes := #[] }, { accessFlags := 74, nameIndex := 29, descriptorIndex := 30, attributes := #[] }, { accessFlags := 74, nameIndex := 154, descriptorIndex := 155, attributes := #[] }, { accessFlags := 10, nameIndex := 217, descriptorIndex := 218, attributes := #[] }, { accessFlags := 10, nameIndex := 221, descriptorIndex := 222, attributes := #[] }, { accessFlags := 8, nameIndex := 562, descriptorIndex := 563, attributes := #[] }])
  fields := #[{ name := "in", type := (.object "java/io/InputStream"), accessFlags := 25, slot := 0, constantValue := 0 }, { name := "out", type := (.object "java/io/PrintStream"), accessFlags := 25, slot := 1, constantValue := 0 }, { name := "err", type := (.object "java/io/PrintStream"), accessFlags := 25, slot := 2, constantValue := 0 }, { name := "initialIn", type := (.object "java/io/InputStream"), accessFlags := 10, slot := 3, constantValue := 0 }, { name := "NEVER", type := .int, accessFlags := 26, slot := 4, constantValue := 0 }, { name := "MAYBE", type := .int, accessFlags := 26, slot := 5, constantValue := 0 }, { name := "allowSecurityManager", type := .int, accessFlags := 10, slot := 6, constantValue := 0 }, { name := "security", type := (.object "java/lang/SecurityManager"), accessFlags := 74, slot := 7, constantValue := 0 }, { name := "notSupportedJnuEncoding", type := (.object "java/lang/String"), accessFlags := 10, slot := 8, constantValue := 0 }, { name := "cons", type := (.object "java/io/Console"), accessFlags := 74, slot := 9, constantValue := 0 }, { name := "initialErrStream", type := (.object "java/io/PrintStream"), accessFlags := 74, slot := 10, constantValue := 0 }, { name := "props", type := (.object "java/util/Properties"), accessFlags := 10, slot := 11, constantValue := 0 }, { name := "lineSeparator", type := (.object "java/lang/String"), accessFlags := 10, slot := 12, constantValue := 0 }, { name := "bootLayer", type := (.object "java/lang/ModuleLayer"), accessFlags := 8, slot := 13, constantValue := 0 }]
  methods := #[k18m0, k18m1]
  instanceTypes := #[]
  staticTypes := #[(.object "java/io/InputStream"), (.object "java/io/PrintStream"), (.object "java/io/PrintStream"), (.object "java/io/InputStream"), .int, .int, .int, (.object "java/lang/SecurityManager"), (.object "java/lang/String"), (.object "java/io/Console"), (.object "java/io/PrintStream"), (.object "java/util/Properties"), (.object "java/lang/String"), (.object "java/lang/ModuleLayer")]
  resolved := Array.replicate 834 none
  statics := none }

def pool19 : Array CpInfo := pool [(1, .class_ 2), (0, u "java/lang/Cloneable"), (0, .class_ 4), (0, u "java/lang/Object")] 2

/-- java/lang/Cloneable -/
def k19 : Class := { plain "java/lang/Cloneable" (some 0) with
  accessFlags := 1537
  interfaces := #[]
  cf := some (fileOf pool19 1 #[] #[] 1537 3 #[] #[])
  fields := #[]
  methods := #[]
  instanceTypes := #[]
  staticTypes := #[]
  resolved := Array.replicate 7 none
  statics := none }

def pool20 : Array CpInfo := pool [(1, .class_ 2), (0, u "com/example/rigorous_lock/rigorouslock/io/SqlDialect"), (0, .string 4), (0, u "statement_timestamp()"), (0, .string 6), (0, u "? * INTERVAL '1 microsecond'"), (0, .class_ 8), (0, u "com/example/rigorous_lock/rigorouslock/io/PostgresDialect"), (0, .string 10), (0, u "CREATE TABLE IF NOT EXISTS rigorous_lock (name BYTEA NOT NULL, owner_token BYTEA, expires_at TIMESTAMPTZ, fencing_token BIGINT NOT NULL, PRIMARY KEY (name))"), (0, .string 12), (0, u "SELECT (EXTRACT(EPOCH FROM expires_at - statement_timestamp()) * 1000000)::BIGINT FROM rigorous_lock WHERE name = ?"), (0, .string 14), (0, u "42P01"), (0, .methodref 1 16), (0, .nameAndType 17 18), (0, u "<init>"), (0, u "(Ljava/lang/String;Ljava/lang/String;Ljava/lang/String;Ljava/lang/String;Ljava/lang/String;)V"), (0, .class_ 20), (0, u "java/lang/StringBuilder"), (0, .methodref 19 22), (0, .nameAndType 17 23), (0, u "()V"), (0, .fieldref 7 25), (0, .nameAndType 26 27), (0, u "insertNewRow"), (0, u "Ljava/lang/String;"), (0, .methodref 19 29), (0, .nameAndType 30 31), (0, u "append"), (0, u "(Ljava/lang/String;)Ljava/lang/StringBuilder;"), (0, .string 33), (0, u "1) ON CONFLICT (name) DO UPDATE SET owner_token = EXCLUDED.owner_token, expires_at = EXCLUDED.expires_at, fencing_token = "), (0, .string 35), (0, u "rigorous_lock"), (0, .string 37), (0, u ".fencing_token + 1 WHERE ("), (0, .fieldref 7 39), (0, .nameAndType 40 27), (0, u "held"), (0, .string 42), (0, u ") IS NOT TRUE RETURNING fencing_token"), (0, .methodref 19 44), (0, .nameAndType 45 46), (0, u "toString"), (0, u "()Ljava/lang/String;"), (0, .fieldref 7 48), (0, .nameAndType 49 27), (0, u "takeStatement"), (50, u "CREATE_TABLE"), (1, u "TIME_LEFT"), (0, u "NO_SUCH_TABLE")] 12

def k20c0 : Code := { maxStack := 6, maxLocals := 1, code := prog_4_method_1_code, exceptionTable := #[], attributes := #[] }
def k20m0 : Method := { name := "<init>", desc := "()V", sig := { parameters := [], returnType := none }, accessFlags := 0, code := some k20c0 }
/-- com/example/rigorous_lock/rigorouslock/io/PostgresDialect -/
def k20 : Class := { plain "com/example/rigorous_lock/rigorouslock/io/PostgresDialect" (some 9) with
  accessFlags := 32
  interfaces := #[]
  cf := some (fileOf pool20 7 #[] #[{ accessFlags := 0, nameIndex := 17, descriptorIndex := 23, attributes := #[] }] 32 1 #[] #[{ accessFlags := 26, nameIndex := 100, descriptorIndex := 27, attributes := #[] }, { accessFlags := 26, nameIndex := 102, descriptorIndex := 27, attributes := #[] }, { accessFlags := 26, nameIndex := 103, descriptorIndex := 27, attributes := #[] }, { accessFlags := 18, nameIndex := 49, descriptorIndex := 27, attributes := #[] }])
  fields := #[{ name := "CREATE_TABLE", type := (.object "java/lang/String"), accessFlags := 26, slot := 0, constantValue := 0 }, { name := "TIME_LEFT", type := (.object "java/lang/String"), accessFlags := 26, slot := 1, constantValue := 0 }, { name := "NO_SUCH_TABLE", type := (.object "java/lang/String"), accessFlags := 26, slot := 2, constantValue := 0 }, { name := "takeStatement", type := (.object "java/lang/String"), accessFlags := 18, slot := 8, constantValue := 0 }]
  methods := #[k20m0]
  instanceTypes := #[(.object "java/lang/String"), (.object "java/lang/String"), (.object "java/lang/String"), (.object "java/lang/String"), (.object "java/lang/String"), (.object "java/lang/String"), (.object "java/lang/String"), (.object "java/lang/String"), (.object "java/lang/String")]
  staticTypes := #[(.object "java/lang/String"), (.object "java/lang/String"), (.object "java/lang/String")]
  resolved := Array.replicate 116 none
  statics := none }

def pool21 : Array CpInfo := pool [(2, .class_ 4), (1, u "java/lang/Object"), (0, u "<init>"), (0, u "()V"), (17, .class_ 26), (1, u "jdk/internal/util/Preconditions"), (28, .class_ 56), (0, u "jdk/internal/util/Preconditions$4"), (57, .class_ 115), (0, u "jdk/internal/util/Preconditions$1"), (7, u "SIOOBE_FORMATTER"), (0, u "Ljava/util/function/BiFunction;"), (0, .class_ 126), (0, u "jdk/internal/util/Preconditions$2"), (3, u "AIOOBE_FORMATTER"), (0, .class_ 132), (0, u "jdk/internal/util/Preconditions$3"), (3, u "IOOBE_FORMATTER")] 57

def k21m0 : Method := { name := "<init>", desc := "()V", sig := { parameters := [], returnType := none }, accessFlags := 1, code := none }
/-- jdk/internal/util/Preconditions -/
def k21 : Class := { plain "jdk/internal/util/Preconditions" (some 0) with
  accessFlags := 33
  interfaces := #[]
  cf := some (fileOf pool21 24 #[.nestMembers #[55, 131, 125, 114]] #[{ accessFlags := 1, nameIndex := 5, descriptorIndex := 6, attributes := #[] }] 33 2 #[] #[{ accessFlags := 25, nameIndex := 123, descriptorIndex := 124, attributes := #[] }, { accessFlags := 25, nameIndex := 130, descriptorIndex := 124, attributes := #[] }, { accessFlags := 25, nameIndex := 136, descriptorIndex := 124, attributes := #[] }])
  fields := #[{ name := "SIOOBE_FORMATTER", type := (.object "java/util/function/BiFunction"), accessFlags := 25, slot := 0, constantValue := 0 }, { name := "AIOOBE_FORMATTER", type := (.object "java/util/function/BiFunction"), accessFlags := 25, slot := 1, constantValue := 0 }, { name := "IOOBE_FORMATTER", type := (.object "java/util/function/BiFunction"), accessFlags := 25, slot := 2, constantValue := 0 }]
  methods := #[k21m0]
  instanceTypes := #[]
  staticTypes := #[(.object "java/util/function/BiFunction"), (.object "java/util/function/BiFunction"), (.object "java/util/function/BiFunction")]
  resolved := Array.replicate 194 none
  statics := some 1 }

/-- the primitive byte -/
def k22 : Class := { plain "byte" none with kind := .primitive 'B', accessFlags := 0x411 }
/-- [B -/
def k23 : Class := { plain "[B" (some 0) with kind := .array 22 .byte, interfaces := #[19, 2], accessFlags := 1041 }

/-- the primitive char -/
def k24 : Class := { plain "char" none with kind := .primitive 'C', accessFlags := 0x411 }
/-- [C -/
def k25 : Class := { plain "[C" (some 0) with kind := .array 24 .char, interfaces := #[19, 2], accessFlags := 1041 }

/-- the primitive int -/
def k26 : Class := { plain "int" none with kind := .primitive 'I', accessFlags := 0x411 }
/-- [I -/
def k27 : Class := { plain "[I" (some 0) with kind := .array 26 .int, interfaces := #[19, 2], accessFlags := 1041 }

def heap : Heap := #[{ cls := 7, slots := #[.long 0, .int 1, .null, .int 0, .null, .int 0, .int 0], vm := .statics 7 },
  { cls := 21, slots := #[.null, .null, .null], vm := .statics 21 }]
def classes : Array Class := #[k0, k1, k2, k3, k4, k5, k6, k7, k8, k9, k10, k11, k12, k13, k14, k15, k16, k17, k18, k19, k20, k21, k22, k23, k24, k25, k26, k27]
def interned : List (Array UInt16 × Addr) := []
def slotsUsed : Nat := 10
def theMethod : MethodId := ⟨1, 1⟩
def args0 : Array Value := #[.int 0]
def aboutOver (below : List Frame) : State where
  vm := { classes := classes, interned := interned.toArray }
  heap := heap
  slotsUsed := slotsUsed
  threads := #[{ frames := .invoking theMethod args0 :: below }]
def below0 : List Frame := [.native { method := ⟨0, 0⟩, args := #[] }]
def about1 : State := aboutOver below0
def p0 : Program := .bare "" "" ""
def e0 : Env := launch0.env 0 0 0
theorem w_frames : about1.frames = Frame.invoking theMethod args0 :: below0 := rfl
set_option maxRecDepth 65536 in
theorem w_args : argsFit about1.vm theMethod args0 = true := by decide +kernel
set_option maxRecDepth 65536 in
theorem w_heap : heapFits about1 = true := by decide +kernel
set_option maxRecDepth 65536 in
theorem w_runnable : about1.curStatus? = some .runnable := by decide +kernel
set_option maxRecDepth 65536 in
theorem w_alone : about1.alone = true := by decide +kernel
set_option maxRecDepth 65536 in
theorem w_named : about1.methodNamed? x = some theMethod := by decide +kernel
set_option maxRecDepth 65536 in
theorem w_hears : about1.hears theMethod below0 = true := by decide +kernel
set_option maxRecDepth 65536 in
theorem w_ripe : about1.ripe theMethod args0 below0 = true := by decide +kernel
theorem w_running : about1.status = .running := rfl
set_option maxRecDepth 65536 in
theorem w_room : about1.hasRoom e0.platform room_1 = true :=
  launch0.hasRoom_least _ room_1 (by decide +kernel) (by decide +kernel) (by decide +kernel) (by decide +kernel) (by decide +kernel) (by decide +kernel)
theorem allAtoms_all (ts : List Jvm.Cond) (a : Array Jvm.Value) (st : Jvm.State) : (allAtoms ts).before a st = ts.all (fun c => c.before a st) := by
  induction ts with
  | nil => rfl
  | cons c t ih =>
    show (Jvm.Cond.and c (allAtoms t)).before a st = _
    rw [Jvm.Cond.before_and, ih, List.all_cons]
def words1 : List Jvm.Cond := Jvm.Cond.code x code maxLocals ret :: tables_1
/-- a 'code' word, met by the world's own term for the bytes: nothing is compared byte by byte -/
theorem code_word {y : MethodName} {bytes : ByteArray} {mx : Nat} {rt : Option FieldType} {a : Array Value} {s : State} {m : MethodId} {meth : Method} {c : Code} (h1 : s.methodNamed? y = some m) (h2 : s.vm.method? m = some meth) (h3 : meth.code = some c) (h4 : c.code = bytes)
    (h5 : (c.maxLocals == mx && c.exceptionTable.isEmpty && decide (c.maxStack ≤ mostOperands) && decide (meth.sig.returnType = rt) && !meth.locks && decide (parseMethodDescriptor y.desc = some meth.sig)) = true) : (Jvm.Cond.code y bytes mx rt).before a s = true := by
  simp only [Bool.and_eq_true, beq_iff_eq, Bool.not_eq_true', decide_eq_true_eq] at h5
  obtain ⟨⟨⟨⟨⟨g1, g2⟩, g3⟩, g4⟩, g5⟩, g6⟩ := h5
  simp [Cond.before, Cond.holds, Cond.value, h1, h2, h3, h4, g1, g2, g3, g4, g5, g6]
def isCode : Jvm.Cond → Bool
  | .code _ _ _ _ => true
  | _ => false
theorem all_split {L : List Jvm.Cond} {P : Jvm.Cond → Bool} (h1 : L.all (fun c => isCode c || P c) = true) (h2 : ∀ c ∈ L.filter isCode, P c = true) : L.all P = true := by
  refine List.all_eq_true.mpr fun c hc => ?_
  have h := List.all_eq_true.mp h1 c hc
  rcases Bool.eq_false_or_eq_true (isCode c) with hi | hi
  · exact h2 c (List.mem_filter.mpr ⟨hc, hi⟩)
  · simpa [hi] using h
set_option maxRecDepth 65536 in
theorem w_c0 : (Jvm.Cond.code x code maxLocals ret).before args0 about1 = true := code_word (m := ⟨1, 1⟩) (meth := k1m1) (c := k1c1) (by decide +kernel) rfl rfl rfl (by decide +kernel)
set_option maxRecDepth 65536 in
theorem w_c1 : (Jvm.Cond.code ({ cls := "java/lang/String", name := "<init>", desc := "([C)V" } : Jvm.MethodName) jdk_42_method_3_code (2 : Nat) (Option.none : Option Jvm.ClassFile.FieldType)).before args0 about1 = true := code_word (m := ⟨7, 1⟩) (meth := k7m1) (c := k7c1) (by decide +kernel) rfl rfl rfl (by decide +kernel)
set_option maxRecDepth 65536 in
theorem w_c2 : (Jvm.Cond.code ({ cls := "java/lang/String", name := "<init>", desc := "([CIILjava/lang/Void;)V" } : Jvm.MethodName) jdk_42_method_149_code (6 : Nat) (Option.none : Option Jvm.ClassFile.FieldType)).before args0 about1 = true := code_word (m := ⟨7, 7⟩) (meth := k7m7) (c := k7c7) (by decide +kernel) rfl rfl rfl (by decide +kernel)
set_option maxRecDepth 65536 in
theorem w_c3 : (Jvm.Cond.code ({ cls := "java/lang/Object", name := "<init>", desc := "()V" } : Jvm.MethodName) object_method_1_code (1 : Nat) (Option.none : Option Jvm.ClassFile.FieldType)).before args0 about1 = true := code_word (m := ⟨0, 0⟩) (meth := k0m0) (c := k0c0) (by decide +kernel) rfl rfl rfl (by decide +kernel)
set_option maxRecDepth 65536 in
theorem w_c4 : (Jvm.Cond.code ({ cls := "java/lang/StringUTF16", name := "compress", desc := "([CII)[B" } : Jvm.MethodName) jdk_52_method_16_code (6 : Nat) (Option.some (Jvm.ClassFile.FieldType.array Jvm.ClassFile.FieldType.byte))).before args0 about1 = true := code_word (m := ⟨8, 2⟩) (meth := k8m2) (c := k8c2) (by decide +kernel) rfl rfl rfl (by decide +kernel)
set_option maxRecDepth 65536 in
theorem w_c5 : (Jvm.Cond.code ({ cls := "java/lang/StringUTF16", name := "compress", desc := "([CI[BII)I" } : Jvm.MethodName) jdk_52_method_21_code (7 : Nat) (Option.some Jvm.ClassFile.FieldType.int)).before args0 about1 = true := code_word (m := ⟨8, 3⟩) (meth := k8m3) (c := k8c3) (by decide +kernel) rfl rfl rfl (by decide +kernel)
set_option maxRecDepth 65536 in
theorem w_c6 : (Jvm.Cond.code ({ cls := "java/lang/StringUTF16", name := "coderFromArrayLen", desc := "([BI)B" } : Jvm.MethodName) jdk_52_method_15_code (2 : Nat) (Option.some Jvm.ClassFile.FieldType.byte)).before args0 about1 = true := code_word (m := ⟨8, 1⟩) (meth := k8m1) (c := k8c1) (by decide +kernel) rfl rfl rfl (by decide +kernel)
set_option maxRecDepth 65536 in
theorem w_c7 : (Jvm.Cond.code ({ cls := "com/example/rigorous_lock/rigorouslock/io/SqlDialect", name := "of", desc := "(Ljava/lang/String;)Lcom/example/rigorous_lock/rigorouslock/io/SqlDialect;" } : Jvm.MethodName) prog_6_method_2_code (3 : Nat) (Option.some (Jvm.ClassFile.FieldType.object "com/example/rigorous_lock/rigorouslock/io/SqlDialect"))).before args0 about1 = true := code_word (m := ⟨9, 1⟩) (meth := k9m1) (c := k9c1) (by decide +kernel) rfl rfl rfl (by decide +kernel)
set_option maxRecDepth 65536 in
theorem w_c8 : (Jvm.Cond.code ({ cls := "java/lang/String", name := "hashCode", desc := "()I" } : Jvm.MethodName) jdk_42_method_78_code (2 : Nat) (Option.some Jvm.ClassFile.FieldType.int)).before args0 about1 = true := code_word (m := ⟨7, 5⟩) (meth := k7m5) (c := k7c5) (by decide +kernel) rfl rfl rfl (by decide +kernel)
set_option maxRecDepth 65536 in
theorem w_c9 : (Jvm.Cond.code ({ cls := "java/lang/String", name := "isLatin1", desc := "()Z" } : Jvm.MethodName) jdk_42_method_154_code (1 : Nat) (Option.some Jvm.ClassFile.FieldType.boolean)).before args0 about1 = true := code_word (m := ⟨7, 10⟩) (meth := k7m10) (c := k7c10) (by decide +kernel) rfl rfl rfl (by decide +kernel)
set_option maxRecDepth 65536 in
theorem w_c10 : (Jvm.Cond.code ({ cls := "java/lang/StringLatin1", name := "hashCode", desc := "([B)I" } : Jvm.MethodName) jdk_43_method_21_code (1 : Nat) (Option.some Jvm.ClassFile.FieldType.int)).before args0 about1 = true := code_word (m := ⟨10, 2⟩) (meth := k10m2) (c := k10c2) (by decide +kernel) rfl rfl rfl (by decide +kernel)
set_option maxRecDepth 65536 in
theorem w_c11 : (Jvm.Cond.code ({ cls := "jdk/internal/util/ArraysSupport", name := "vectorizedHashCode", desc := "(Ljava/lang/Object;IIII)I" } : Jvm.MethodName) jdk_48_method_4_code (5 : Nat) (Option.some Jvm.ClassFile.FieldType.int)).before args0 about1 = true := code_word (m := ⟨11, 1⟩) (meth := k11m1) (c := k11c1) (by decide +kernel) rfl rfl rfl (by decide +kernel)
set_option maxRecDepth 65536 in
theorem w_c12 : (Jvm.Cond.code ({ cls := "jdk/internal/util/ArraysSupport", name := "signedHashCode", desc := "(I[BII)I" } : Jvm.MethodName) jdk_48_method_5_code (6 : Nat) (Option.some Jvm.ClassFile.FieldType.int)).before args0 about1 = true := code_word (m := ⟨11, 2⟩) (meth := k11m2) (c := k11c2) (by decide +kernel) rfl rfl rfl (by decide +kernel)
set_option maxRecDepth 65536 in
theorem w_c13 : (Jvm.Cond.code ({ cls := "java/lang/String", name := "equals", desc := "(Ljava/lang/Object;)Z" } : Jvm.MethodName) jdk_42_method_66_code (3 : Nat) (Option.some Jvm.ClassFile.FieldType.boolean)).before args0 about1 = true := code_word (m := ⟨7, 4⟩) (meth := k7m4) (c := k7c4) (by decide +kernel) rfl rfl rfl (by decide +kernel)
set_option maxRecDepth 65536 in
theorem w_c14 : (Jvm.Cond.code ({ cls := "java/lang/StringLatin1", name := "equals", desc := "([B[B)Z" } : Jvm.MethodName) jdk_43_method_13_code (3 : Nat) (Option.some Jvm.ClassFile.FieldType.boolean)).before args0 about1 = true := code_word (m := ⟨10, 1⟩) (meth := k10m1) (c := k10c1) (by decide +kernel) rfl rfl rfl (by decide +kernel)
set_option maxRecDepth 65536 in
theorem w_c15 : (Jvm.Cond.code ({ cls := "com/example/rigorous_lock/rigorouslock/io/MariaDbDialect", name := "<init>", desc := "()V" } : Jvm.MethodName) prog_2_method_1_code (1 : Nat) (Option.none : Option Jvm.ClassFile.FieldType)).before args0 about1 = true := code_word (m := ⟨12, 0⟩) (meth := k12m0) (c := k12c0) (by decide +kernel) rfl rfl rfl (by decide +kernel)
set_option maxRecDepth 65536 in
theorem w_c16 : (Jvm.Cond.code ({ cls := "com/example/rigorous_lock/rigorouslock/io/SqlDialect", name := "<init>", desc := "(Ljava/lang/String;Ljava/lang/String;Ljava/lang/String;Ljava/lang/String;Ljava/lang/String;)V" } : Jvm.MethodName) prog_6_method_1_code (7 : Nat) (Option.none : Option Jvm.ClassFile.FieldType)).before args0 about1 = true := code_word (m := ⟨9, 0⟩) (meth := k9m0) (c := k9c0) (by decide +kernel) rfl rfl rfl (by decide +kernel)
set_option maxRecDepth 65536 in
theorem w_c17 : (Jvm.Cond.code ({ cls := "java/lang/StringBuilder", name := "<init>", desc := "()V" } : Jvm.MethodName) jdk_67_method_1_code (1 : Nat) (Option.none : Option Jvm.ClassFile.FieldType)).before args0 about1 = true := code_word (m := ⟨15, 0⟩) (meth := k15m0) (c := k15c0) (by decide +kernel) rfl rfl rfl (by decide +kernel)
set_option maxRecDepth 65536 in
theorem w_c18 : (Jvm.Cond.code ({ cls := "java/lang/AbstractStringBuilder", name := "<init>", desc := "(I)V" } : Jvm.MethodName) jdk_68_method_2_code (2 : Nat) (Option.none : Option Jvm.ClassFile.FieldType)).before args0 about1 = true := code_word (m := ⟨14, 1⟩) (meth := k14m1) (c := k14c1) (by decide +kernel) rfl rfl rfl (by decide +kernel)
set_option maxRecDepth 65536 in
theorem w_c19 : (Jvm.Cond.code ({ cls := "java/lang/StringBuilder", name := "append", desc := "(Ljava/lang/String;)Ljava/lang/StringBuilder;" } : Jvm.MethodName) jdk_67_method_7_code (2 : Nat) (Option.some (Jvm.ClassFile.FieldType.object "java/lang/StringBuilder"))).before args0 about1 = true := code_word (m := ⟨15, 1⟩) (meth := k15m1) (c := k15c1) (by decide +kernel) rfl rfl rfl (by decide +kernel)
set_option maxRecDepth 65536 in
theorem w_c20 : (Jvm.Cond.code ({ cls := "java/lang/AbstractStringBuilder", name := "append", desc := "(Ljava/lang/String;)Ljava/lang/AbstractStringBuilder;" } : Jvm.MethodName) jdk_68_method_22_code (3 : Nat) (Option.some (Jvm.ClassFile.FieldType.object "java/lang/AbstractStringBuilder"))).before args0 about1 = true := code_word (m := ⟨14, 5⟩) (meth := k14m5) (c := k14c5) (by decide +kernel) rfl rfl rfl (by decide +kernel)
set_option maxRecDepth 65536 in
theorem w_c21 : (Jvm.Cond.code ({ cls := "java/lang/String", name := "length", desc := "()I" } : Jvm.MethodName) jdk_42_method_54_code (1 : Nat) (Option.some Jvm.ClassFile.FieldType.int)).before args0 about1 = true := code_word (m := ⟨7, 3⟩) (meth := k7m3) (c := k7c3) (by decide +kernel) rfl rfl rfl (by decide +kernel)
set_option maxRecDepth 65536 in
theorem w_c22 : (Jvm.Cond.code ({ cls := "java/lang/String", name := "coder", desc := "()B" } : Jvm.MethodName) jdk_42_method_152_code (1 : Nat) (Option.some Jvm.ClassFile.FieldType.byte)).before args0 about1 = true := code_word (m := ⟨7, 9⟩) (meth := k7m9) (c := k7c9) (by decide +kernel) rfl rfl rfl (by decide +kernel)
set_option maxRecDepth 65536 in
theorem w_c23 : (Jvm.Cond.code ({ cls := "java/lang/AbstractStringBuilder", name := "ensureCapacityInternal", desc := "(I)V" } : Jvm.MethodName) jdk_68_method_9_code (3 : Nat) (Option.none : Option Jvm.ClassFile.FieldType)).before args0 about1 = true := code_word (m := ⟨14, 3⟩) (meth := k14m3) (c := k14c3) (by decide +kernel) rfl rfl rfl (by decide +kernel)
set_option maxRecDepth 65536 in
theorem w_c24 : (Jvm.Cond.code ({ cls := "java/lang/AbstractStringBuilder", name := "newCapacity", desc := "(I)I" } : Jvm.MethodName) jdk_68_method_10_code (6 : Nat) (Option.some Jvm.ClassFile.FieldType.int)).before args0 about1 = true := code_word (m := ⟨14, 4⟩) (meth := k14m4) (c := k14c4) (by decide +kernel) rfl rfl rfl (by decide +kernel)
set_option maxRecDepth 65536 in
theorem w_c25 : (Jvm.Cond.code ({ cls := "jdk/internal/util/ArraysSupport", name := "newLength", desc := "(III)I" } : Jvm.MethodName) jdk_48_method_27_code (4 : Nat) (Option.some Jvm.ClassFile.FieldType.int)).before args0 about1 = true := code_word (m := ⟨11, 3⟩) (meth := k11m3) (c := k11c3) (by decide +kernel) rfl rfl rfl (by decide +kernel)
set_option maxRecDepth 65536 in
theorem w_c26 : (Jvm.Cond.code ({ cls := "java/lang/Math", name := "max", desc := "(II)I" } : Jvm.MethodName) jdk_29_method_65_code (2 : Nat) (Option.some Jvm.ClassFile.FieldType.int)).before args0 about1 = true := code_word (m := ⟨16, 1⟩) (meth := k16m1) (c := k16c1) (by decide +kernel) rfl rfl rfl (by decide +kernel)
set_option maxRecDepth 65536 in
theorem w_c27 : (Jvm.Cond.code ({ cls := "java/util/Arrays", name := "copyOf", desc := "([BI)[B" } : Jvm.MethodName) jdk_65_method_121_code (3 : Nat) (Option.some (Jvm.ClassFile.FieldType.array Jvm.ClassFile.FieldType.byte))).before args0 about1 = true := code_word (m := ⟨17, 1⟩) (meth := k17m1) (c := k17c1) (by decide +kernel) rfl rfl rfl (by decide +kernel)
set_option maxRecDepth 65536 in
theorem w_c28 : (Jvm.Cond.code ({ cls := "java/lang/Math", name := "min", desc := "(II)I" } : Jvm.MethodName) jdk_29_method_69_code (2 : Nat) (Option.some Jvm.ClassFile.FieldType.int)).before args0 about1 = true := code_word (m := ⟨16, 2⟩) (meth := k16m2) (c := k16c2) (by decide +kernel) rfl rfl rfl (by decide +kernel)
set_option maxRecDepth 65536 in
theorem w_c29 : (Jvm.Cond.code ({ cls := "java/lang/AbstractStringBuilder", name := "putStringAt", desc := "(ILjava/lang/String;)V" } : Jvm.MethodName) jdk_68_method_73_code (3 : Nat) (Option.none : Option Jvm.ClassFile.FieldType)).before args0 about1 = true := code_word (m := ⟨14, 9⟩) (meth := k14m9) (c := k14c9) (by decide +kernel) rfl rfl rfl (by decide +kernel)
set_option maxRecDepth 65536 in
theorem w_c30 : (Jvm.Cond.code ({ cls := "java/lang/AbstractStringBuilder", name := "inflateIfNeededFor", desc := "(Ljava/lang/String;)V" } : Jvm.MethodName) jdk_68_method_71_code (2 : Nat) (Option.none : Option Jvm.ClassFile.FieldType)).before args0 about1 = true := code_word (m := ⟨14, 8⟩) (meth := k14m8) (c := k14c8) (by decide +kernel) rfl rfl rfl (by decide +kernel)
set_option maxRecDepth 65536 in
theorem w_c31 : (Jvm.Cond.code ({ cls := "java/lang/String", name := "getBytes", desc := "([BIB)V" } : Jvm.MethodName) jdk_42_method_147_code (4 : Nat) (Option.none : Option Jvm.ClassFile.FieldType)).before args0 about1 = true := code_word (m := ⟨7, 6⟩) (meth := k7m6) (c := k7c6) (by decide +kernel) rfl rfl rfl (by decide +kernel)
set_option maxRecDepth 65536 in
theorem w_c32 : (Jvm.Cond.code ({ cls := "java/lang/StringBuilder", name := "toString", desc := "()Ljava/lang/String;" } : Jvm.MethodName) jdk_67_method_42_code (1 : Nat) (Option.some (Jvm.ClassFile.FieldType.object "java/lang/String"))).before args0 about1 = true := code_word (m := ⟨15, 2⟩) (meth := k15m2) (c := k15c2) (by decide +kernel) rfl rfl rfl (by decide +kernel)
set_option maxRecDepth 65536 in
theorem w_c33 : (Jvm.Cond.code ({ cls := "java/lang/String", name := "<init>", desc := "(Ljava/lang/StringBuilder;)V" } : Jvm.MethodName) jdk_42_method_53_code (2 : Nat) (Option.none : Option Jvm.ClassFile.FieldType)).before args0 about1 = true := code_word (m := ⟨7, 2⟩) (meth := k7m2) (c := k7c2) (by decide +kernel) rfl rfl rfl (by decide +kernel)
set_option maxRecDepth 65536 in
theorem w_c34 : (Jvm.Cond.code ({ cls := "java/lang/String", name := "<init>", desc := "(Ljava/lang/AbstractStringBuilder;Ljava/lang/Void;)V" } : Jvm.MethodName) jdk_42_method_150_code (5 : Nat) (Option.none : Option Jvm.ClassFile.FieldType)).before args0 about1 = true := code_word (m := ⟨7, 8⟩) (meth := k7m8) (c := k7c8) (by decide +kernel) rfl rfl rfl (by decide +kernel)
set_option maxRecDepth 65536 in
theorem w_c35 : (Jvm.Cond.code ({ cls := "java/lang/AbstractStringBuilder", name := "getValue", desc := "()[B" } : Jvm.MethodName) jdk_68_method_64_code (1 : Nat) (Option.some (Jvm.ClassFile.FieldType.array Jvm.ClassFile.FieldType.byte))).before args0 about1 = true := code_word (m := ⟨14, 6⟩) (meth := k14m6) (c := k14c6) (by decide +kernel) rfl rfl rfl (by decide +kernel)
set_option maxRecDepth 65536 in
theorem w_c36 : (Jvm.Cond.code ({ cls := "java/lang/StringBuilder", name := "length", desc := "()I" } : Jvm.MethodName) jdk_67_method_93_code (1 : Nat) (Option.some Jvm.ClassFile.FieldType.int)).before args0 about1 = true := code_word (m := ⟨15, 3⟩) (meth := k15m3) (c := k15c3) (by decide +kernel) rfl rfl rfl (by decide +kernel)
set_option maxRecDepth 65536 in
theorem w_c37 : (Jvm.Cond.code ({ cls := "java/lang/AbstractStringBuilder", name := "length", desc := "()I" } : Jvm.MethodName) jdk_68_method_6_code (1 : Nat) (Option.some Jvm.ClassFile.FieldType.int)).before args0 about1 = true := code_word (m := ⟨14, 2⟩) (meth := k14m2) (c := k14c2) (by decide +kernel) rfl rfl rfl (by decide +kernel)
set_option maxRecDepth 65536 in
theorem w_c38 : (Jvm.Cond.code ({ cls := "java/lang/AbstractStringBuilder", name := "isLatin1", desc := "()Z" } : Jvm.MethodName) jdk_68_method_68_code (1 : Nat) (Option.some Jvm.ClassFile.FieldType.boolean)).before args0 about1 = true := code_word (m := ⟨14, 7⟩) (meth := k14m7) (c := k14c7) (by decide +kernel) rfl rfl rfl (by decide +kernel)
set_option maxRecDepth 65536 in
theorem w_c39 : (Jvm.Cond.code ({ cls := "java/util/Arrays", name := "copyOfRange", desc := "([BII)[B" } : Jvm.MethodName) jdk_65_method_132_code (3 : Nat) (Option.some (Jvm.ClassFile.FieldType.array Jvm.ClassFile.FieldType.byte))).before args0 about1 = true := code_word (m := ⟨17, 3⟩) (meth := k17m3) (c := k17c3) (by decide +kernel) rfl rfl rfl (by decide +kernel)
set_option maxRecDepth 65536 in
theorem w_c40 : (Jvm.Cond.code ({ cls := "java/util/Arrays", name := "copyOfRangeByte", desc := "([BII)[B" } : Jvm.MethodName) jdk_65_method_133_code (5 : Nat) (Option.some (Jvm.ClassFile.FieldType.array Jvm.ClassFile.FieldType.byte))).before args0 about1 = true := code_word (m := ⟨17, 4⟩) (meth := k17m4) (c := k17c4) (by decide +kernel) rfl rfl rfl (by decide +kernel)
set_option maxRecDepth 65536 in
theorem w_c41 : (Jvm.Cond.code ({ cls := "java/util/Arrays", name := "checkLength", desc := "(II)V" } : Jvm.MethodName) jdk_65_method_131_code (2 : Nat) (Option.none : Option Jvm.ClassFile.FieldType)).before args0 about1 = true := code_word (m := ⟨17, 2⟩) (meth := k17m2) (c := k17c2) (by decide +kernel) rfl rfl rfl (by decide +kernel)
set_option maxRecDepth 65536 in
theorem w_c42 : (Jvm.Cond.code ({ cls := "com/example/rigorous_lock/rigorouslock/io/PostgresDialect", name := "<init>", desc := "()V" } : Jvm.MethodName) prog_4_method_1_code (1 : Nat) (Option.none : Option Jvm.ClassFile.FieldType)).before args0 about1 = true := code_word (m := ⟨20, 0⟩) (meth := k20m0) (c := k20c0) (by decide +kernel) rfl rfl rfl (by decide +kernel)
def codes1 : List Jvm.Cond := [Jvm.Cond.code x code maxLocals ret, Jvm.Cond.code ({ cls := "java/lang/String", name := "<init>", desc := "([C)V" } : Jvm.MethodName) jdk_42_method_3_code (2 : Nat) (Option.none : Option Jvm.ClassFile.FieldType), Jvm.Cond.code ({ cls := "java/lang/String", name := "<init>", desc := "([CIILjava/lang/Void;)V" } : Jvm.MethodName) jdk_42_method_149_code (6 : Nat) (Option.none : Option Jvm.ClassFile.FieldType), Jvm.Cond.code ({ cls := "java/lang/Object", name := "<init>", desc := "()V" } : Jvm.MethodName) object_method_1_code (1 : Nat) (Option.none : Option Jvm.ClassFile.FieldType), Jvm.Cond.code ({ cls := "java/lang/StringUTF16", name := "compress", desc := "([CII)[B" } : Jvm.MethodName) jdk_52_method_16_code (6 : Nat) (Option.some (Jvm.ClassFile.FieldType.array Jvm.ClassFile.FieldType.byte)), Jvm.Cond.code ({ cls := "java/lang/StringUTF16", name := "compress", desc := "([CI[BII)I" } : Jvm.MethodName) jdk_52_method_21_code (7 : Nat) (Option.some Jvm.ClassFile.FieldType.int), Jvm.Cond.code ({ cls := "java/lang/StringUTF16", name := "coderFromArrayLen", desc := "([BI)B" } : Jvm.MethodName) jdk_52_method_15_code (2 : Nat) (Option.some Jvm.ClassFile.FieldType.byte), Jvm.Cond.code ({ cls := "com/example/rigorous_lock/rigorouslock/io/SqlDialect", name := "of", desc := "(Ljava/lang/String;)Lcom/example/rigorous_lock/rigorouslock/io/SqlDialect;" } : Jvm.MethodName) prog_6_method_2_code (3 : Nat) (Option.some (Jvm.ClassFile.FieldType.object "com/example/rigorous_lock/rigorouslock/io/SqlDialect")), Jvm.Cond.code ({ cls := "java/lang/String", name := "hashCode", desc := "()I" } : Jvm.MethodName) jdk_42_method_78_code (2 : Nat) (Option.some Jvm.ClassFile.FieldType.int), Jvm.Cond.code ({ cls := "java/lang/String", name := "isLatin1", desc := "()Z" } : Jvm.MethodName) jdk_42_method_154_code (1 : Nat) (Option.some Jvm.ClassFile.FieldType.boolean), Jvm.Cond.code ({ cls := "java/lang/StringLatin1", name := "hashCode", desc := "([B)I" } : Jvm.MethodName) jdk_43_method_21_code (1 : Nat) (Option.some Jvm.ClassFile.FieldType.int), Jvm.Cond.code ({ cls := "jdk/internal/util/ArraysSupport", name := "vectorizedHashCode", desc := "(Ljava/lang/Object;IIII)I" } : Jvm.MethodName) jdk_48_method_4_code (5 : Nat) (Option.some Jvm.ClassFile.FieldType.int), Jvm.Cond.code ({ cls := "jdk/internal/util/ArraysSupport", name := "signedHashCode", desc := "(I[BII)I" } : Jvm.MethodName) jdk_48_method_5_code (6 : Nat) (Option.some Jvm.ClassFile.FieldType.int), Jvm.Cond.code ({ cls := "java/lang/String", name := "equals", desc := "(Ljava/lang/Object;)Z" } : Jvm.MethodName) jdk_42_method_66_code (3 : Nat) (Option.some Jvm.ClassFile.FieldType.boolean), Jvm.Cond.code ({ cls := "java/lang/StringLatin1", name := "equals", desc := "([B[B)Z" } : Jvm.MethodName) jdk_43_method_13_code (3 : Nat) (Option.some Jvm.ClassFile.FieldType.boolean), Jvm.Cond.code ({ cls := "com/example/rigorous_lock/rigorouslock/io/MariaDbDialect", name := "<init>", desc := "()V" } : Jvm.MethodName) prog_2_method_1_code (1 : Nat) (Option.none : Option Jvm.ClassFile.FieldType), Jvm.Cond.code ({ cls := "com/example/rigorous_lock/rigorouslock/io/SqlDialect", name := "<init>", desc := "(Ljava/lang/String;Ljava/lang/String;Ljava/lang/String;Ljava/lang/String;Ljava/lang/String;)V" } : Jvm.MethodName) prog_6_method_1_code (7 : Nat) (Option.none : Option Jvm.ClassFile.FieldType), Jvm.Cond.code ({ cls := "java/lang/StringBuilder", name := "<init>", desc := "()V" } : Jvm.MethodName) jdk_67_method_1_code (1 : Nat) (Option.none : Option Jvm.ClassFile.FieldType), Jvm.Cond.code ({ cls := "java/lang/AbstractStringBuilder", name := "<init>", desc := "(I)V" } : Jvm.MethodName) jdk_68_method_2_code (2 : Nat) (Option.none : Option Jvm.ClassFile.FieldType), Jvm.Cond.code ({ cls := "java/lang/StringBuilder", name := "append", desc := "(Ljava/lang/String;)Ljava/lang/StringBuilder;" } : Jvm.MethodName) jdk_67_method_7_code (2 : Nat) (Option.some (Jvm.ClassFile.FieldType.object "java/lang/StringBuilder")), Jvm.Cond.code ({ cls := "java/lang/AbstractStringBuilder", name := "append", desc := "(Ljava/lang/String;)Ljava/lang/AbstractStringBuilder;" } : Jvm.MethodName) jdk_68_method_22_code (3 : Nat) (Option.some (Jvm.ClassFile.FieldType.object "java/lang/AbstractStringBuilder")), Jvm.Cond.code ({ cls := "java/lang/String", name := "length", desc := "()I" } : Jvm.MethodName) jdk_42_method_54_code (1 : Nat) (Option.some Jvm.ClassFile.FieldType.int), Jvm.Cond.code ({ cls := "java/lang/String", name := "coder", desc := "()B" } : Jvm.MethodName) jdk_42_method_152_code (1 : Nat) (Option.some Jvm.ClassFile.FieldType.byte), Jvm.Cond.code ({ cls := "java/lang/AbstractStringBuilder", name := "ensureCapacityInternal", desc := "(I)V" } : Jvm.MethodName) jdk_68_method_9_code (3 : Nat) (Option.none : Option Jvm.ClassFile.FieldType), Jvm.Cond.code ({ cls := "java/lang/AbstractStringBuilder", name := "newCapacity", desc := "(I)I" } : Jvm.MethodName) jdk_68_method_10_code (6 : Nat) (Option.some Jvm.ClassFile.FieldType.int), Jvm.Cond.code ({ cls := "jdk/internal/util/ArraysSupport", name := "newLength", desc := "(III)I" } : Jvm.MethodName) jdk_48_method_27_code (4 : Nat) (Option.some Jvm.ClassFile.FieldType.int), Jvm.Cond.code ({ cls := "java/lang/Math", name := "max", desc := "(II)I" } : Jvm.MethodName) jdk_29_method_65_code (2 : Nat) (Option.some Jvm.ClassFile.FieldType.int), Jvm.Cond.code ({ cls := "java/util/Arrays", name := "copyOf", desc := "([BI)[B" } : Jvm.MethodName) jdk_65_method_121_code (3 : Nat) (Option.some (Jvm.ClassFile.FieldType.array Jvm.ClassFile.FieldType.byte)), Jvm.Cond.code ({ cls := "java/lang/Math", name := "min", desc := "(II)I" } : Jvm.MethodName) jdk_29_method_69_code (2 : Nat) (Option.some Jvm.ClassFile.FieldType.int), Jvm.Cond.code ({ cls := "java/lang/AbstractStringBuilder", name := "putStringAt", desc := "(ILjava/lang/String;)V" } : Jvm.MethodName) jdk_68_method_73_code (3 : Nat) (Option.none : Option Jvm.ClassFile.FieldType), Jvm.Cond.code ({ cls := "java/lang/AbstractStringBuilder", name := "inflateIfNeededFor", desc := "(Ljava/lang/String;)V" } : Jvm.MethodName) jdk_68_method_71_code (2 : Nat) (Option.none : Option Jvm.ClassFile.FieldType), Jvm.Cond.code ({ cls := "java/lang/String", name := "getBytes", desc := "([BIB)V" } : Jvm.MethodName) jdk_42_method_147_code (4 : Nat) (Option.none : Option Jvm.ClassFile.FieldType), Jvm.Cond.code ({ cls := "java/lang/StringBuilder", name := "toString", desc := "()Ljava/lang/String;" } : Jvm.MethodName) jdk_67_method_42_code (1 : Nat) (Option.some (Jvm.ClassFile.FieldType.object "java/lang/String")), Jvm.Cond.code ({ cls := "java/lang/String", name := "<init>", desc := "(Ljava/lang/StringBuilder;)V" } : Jvm.MethodName) jdk_42_method_53_code (2 : Nat) (Option.none : Option Jvm.ClassFile.FieldType), Jvm.Cond.code ({ cls := "java/lang/String", name := "<init>", desc := "(Ljava/lang/AbstractStringBuilder;Ljava/lang/Void;)V" } : Jvm.MethodName) jdk_42_method_150_code (5 : Nat) (Option.none : Option Jvm.ClassFile.FieldType), Jvm.Cond.code ({ cls := "java/lang/AbstractStringBuilder", name := "getValue", desc := "()[B" } : Jvm.MethodName) jdk_68_method_64_code (1 : Nat) (Option.some (Jvm.ClassFile.FieldType.array Jvm.ClassFile.FieldType.byte)), Jvm.Cond.code ({ cls := "java/lang/StringBuilder", name := "length", desc := "()I" } : Jvm.MethodName) jdk_67_method_93_code (1 : Nat) (Option.some Jvm.ClassFile.FieldType.int), Jvm.Cond.code ({ cls := "java/lang/AbstractStringBuilder", name := "length", desc := "()I" } : Jvm.MethodName) jdk_68_method_6_code (1 : Nat) (Option.some Jvm.ClassFile.FieldType.int), Jvm.Cond.code ({ cls := "java/lang/AbstractStringBuilder", name := "isLatin1", desc := "()Z" } : Jvm.MethodName) jdk_68_method_68_code (1 : Nat) (Option.some Jvm.ClassFile.FieldType.boolean), Jvm.Cond.code ({ cls := "java/util/Arrays", name := "copyOfRange", desc := "([BII)[B" } : Jvm.MethodName) jdk_65_method_132_code (3 : Nat) (Option.some (Jvm.ClassFile.FieldType.array Jvm.ClassFile.FieldType.byte)), Jvm.Cond.code ({ cls := "java/util/Arrays", name := "copyOfRangeByte", desc := "([BII)[B" } : Jvm.MethodName) jdk_65_method_133_code (5 : Nat) (Option.some (Jvm.ClassFile.FieldType.array Jvm.ClassFile.FieldType.byte)), Jvm.Cond.code ({ cls := "java/util/Arrays", name := "checkLength", desc := "(II)V" } : Jvm.MethodName) jdk_65_method_131_code (2 : Nat) (Option.none : Option Jvm.ClassFile.FieldType), Jvm.Cond.code ({ cls := "com/example/rigorous_lock/rigorouslock/io/PostgresDialect", name := "<init>", desc := "()V" } : Jvm.MethodName) prog_4_method_1_code (1 : Nat) (Option.none : Option Jvm.ClassFile.FieldType)]
set_option maxRecDepth 65536 in
theorem codes_eq : words1.filter isCode = codes1 := rfl
theorem w_codes : ∀ c ∈ words1.filter isCode, c.before args0 about1 = true := by
  rw [codes_eq]
  intro c hc
  simp only [codes1, List.mem_cons, List.not_mem_nil, or_false] at hc
  rcases hc with rfl | rfl | rfl | rfl | rfl | rfl | rfl | rfl | rfl | rfl | rfl | rfl | rfl | rfl | rfl | rfl | rfl | rfl | rfl | rfl | rfl | rfl | rfl | rfl | rfl | rfl | rfl | rfl | rfl | rfl | rfl | rfl | rfl | rfl | rfl | rfl | rfl | rfl | rfl | rfl | rfl | rfl | rfl
  · exact w_c0
  · exact w_c1
  · exact w_c2
  · exact w_c3
  · exact w_c4
  · exact w_c5
  · exact w_c6
  · exact w_c7
  · exact w_c8
  · exact w_c9
  · exact w_c10
  · exact w_c11
  · exact w_c12
  · exact w_c13
  · exact w_c14
  · exact w_c15
  · exact w_c16
  · exact w_c17
  · exact w_c18
  · exact w_c19
  · exact w_c20
  · exact w_c21
  · exact w_c22
  · exact w_c23
  · exact w_c24
  · exact w_c25
  · exact w_c26
  · exact w_c27
  · exact w_c28
  · exact w_c29
  · exact w_c30
  · exact w_c31
  · exact w_c32
  · exact w_c33
  · exact w_c34
  · exact w_c35
  · exact w_c36
  · exact w_c37
  · exact w_c38
  · exact w_c39
  · exact w_c40
  · exact w_c41
  · exact w_c42
set_option maxRecDepth 65536 in
theorem w_t1 : (words1.take 24).all (fun c => isCode c || c.before args0 about1) = true := by decide +kernel
set_option maxRecDepth 65536 in
theorem w_t2 : ((words1.drop 24).take 24).all (fun c => isCode c || c.before args0 about1) = true := by decide +kernel
set_option maxRecDepth 65536 in
theorem w_t3 : (((words1.drop 24).drop 24).take 24).all (fun c => isCode c || c.before args0 about1) = true := by decide +kernel
set_option maxRecDepth 65536 in
theorem w_t4 : ((((words1.drop 24).drop 24).drop 24).take 24).all (fun c => isCode c || c.before args0 about1) = true := by decide +kernel
set_option maxRecDepth 65536 in
theorem w_t5 : (((((words1.drop 24).drop 24).drop 24).drop 24).take 24).all (fun c => isCode c || c.before args0 about1) = true := by decide +kernel
set_option maxRecDepth 65536 in
theorem w_t6 : ((((((words1.drop 24).drop 24).drop 24).drop 24).drop 24).take 24).all (fun c => isCode c || c.before args0 about1) = true := by decide +kernel
set_option maxRecDepth 65536 in
theorem w_t7 : (((((((words1.drop 24).drop 24).drop 24).drop 24).drop 24).drop 24).take 24).all (fun c => isCode c || c.before args0 about1) = true := by decide +kernel
set_option maxRecDepth 65536 in
theorem w_t8 : ((((((((words1.drop 24).drop 24).drop 24).drop 24).drop 24).drop 24).drop 24).take 24).all (fun c => isCode c || c.before args0 about1) = true := by decide +kernel
set_option maxRecDepth 65536 in
theorem w_t9 : (((((((((words1.drop 24).drop 24).drop 24).drop 24).drop 24).drop 24).drop 24).drop 24).take 24).all (fun c => isCode c || c.before args0 about1) = true := by decide +kernel
set_option maxRecDepth 65536 in
theorem w_t10 : ((((((((((words1.drop 24).drop 24).drop 24).drop 24).drop 24).drop 24).drop 24).drop 24).drop 24).take 24).all (fun c => isCode c || c.before args0 about1) = true := by decide +kernel
set_option maxRecDepth 65536 in
theorem w_t11 : (((((((((((words1.drop 24).drop 24).drop 24).drop 24).drop 24).drop 24).drop 24).drop 24).drop 24).drop 24).take 24).all (fun c => isCode c || c.before args0 about1) = true := by decide +kernel
set_option maxRecDepth 65536 in
theorem w_t12 : ((((((((((((words1.drop 24).drop 24).drop 24).drop 24).drop 24).drop 24).drop 24).drop 24).drop 24).drop 24).drop 24).take 24).all (fun c => isCode c || c.before args0 about1) = true := by decide +kernel
set_option maxRecDepth 65536 in
theorem w_t13 : ((((((((((((words1.drop 24).drop 24).drop 24).drop 24).drop 24).drop 24).drop 24).drop 24).drop 24).drop 24).drop 24).drop 24).all (fun c => isCode c || c.before args0 about1) = true := by decide +kernel
theorem w_tables : (allAtoms (Jvm.Cond.code x code maxLocals ret :: tables_1)).before args0 about1 = true := by
  rw [allAtoms_all]
  show words1.all (fun c => c.before args0 about1) = true
  refine all_split ?_ w_codes
  rw [← List.take_append_drop 24 words1, List.all_append, w_t1, ← List.take_append_drop 24 (words1.drop 24), List.all_append, w_t2, ← List.take_append_drop 24 ((words1.drop 24).drop 24), List.all_append, w_t3, ← List.take_append_drop 24 (((words1.drop 24).drop 24).drop 24), List.all_append, w_t4, ← List.take_append_drop 24 ((((words1.drop 24).drop 24).drop 24).drop 24), List.all_append, w_t5, ← List.take_append_drop 24 (((((words1.drop 24).drop 24).drop 24).drop 24).drop 24), List.all_append, w_t6, ← List.take_append_drop 24 ((((((words1.drop 24).drop 24).drop 24).drop 24).drop 24).drop 24), List.all_append, w_t7, ← List.take_append_drop 24 (((((((words1.drop 24).drop 24).drop 24).drop 24).drop 24).drop 24).drop 24), List.all_append, w_t8, ← List.take_append_drop 24 ((((((((words1.drop 24).drop 24).drop 24).drop 24).drop 24).drop 24).drop 24).drop 24), List.all_append, w_t9, ← List.take_append_drop 24 (((((((((words1.drop 24).drop 24).drop 24).drop 24).drop 24).drop 24).drop 24).drop 24).drop 24), List.all_append, w_t10, ← List.take_append_drop 24 ((((((((((words1.drop 24).drop 24).drop 24).drop 24).drop 24).drop 24).drop 24).drop 24).drop 24).drop 24), List.all_append, w_t11, ← List.take_append_drop 24 (((((((((((words1.drop 24).drop 24).drop 24).drop 24).drop 24).drop 24).drop 24).drop 24).drop 24).drop 24).drop 24), List.all_append, w_t12, w_t13]
  rfl
set_option maxRecDepth 65536 in
theorem w_rest : rest_1_c.before args0 about1 = true := by decide +kernel
set_option maxRecDepth 65536 in
theorem w_case : (Jvm.Cond.and given_1 narrow_1).before args0 about1 = true := by decide +kernel
set_option maxRecDepth 65536 in
theorem w_consts : constsHeld consts_1 about1 := Jvm.Lit.constsHeldB_iff.mp (by decide +kernel)
theorem w_applies : (headSpec (Jvm.Cond.code x code maxLocals ret :: tables_1) room_1).applies x e0.platform about1 = true :=
  (Spec.applies_iff w_frames).mpr ⟨w_running, w_runnable, w_alone, w_named, w_hears, w_ripe, w_room, w_tables⟩
theorem atStart : AtStart classFile x code maxLocals ret World_1 tables_1 room_1 Calls_1 rest_1 Pre_1 launch0 p0 e0 about1 theMethod args0 below0 :=
  ⟨lists_1, trivial, launch0.admits_env _ _ _, launch0.least_env, fairChoices_fair.cas, fairChoices_fair.clock, w_frames, w_args, w_heap, w_applies, ⟨w_consts, trivial⟩, w_rest, w_case⟩
end start1
theorem witness_1 : WitnessClaimed_1 := ⟨start1.p0, start1.e0, start1.about1, start1.theMethod, start1.args0, start1.below0, start1.atStart⟩
end Jvm.Pilot.@@N@@
