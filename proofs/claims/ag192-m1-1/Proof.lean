import JvmDerived
import JvmDerived.Pilot.@@N@@Statement
import JvmDerived.Pilot.@@N@@Code
set_option linter.unusedVariables false
set_option linter.unusedSimpArgs false
namespace Jvm.RoadKit
open Sem ClassFile Op Lib Jvm.Stand Jvm.Free Jvm.LawKit
section New
variable {p : Program} {l : Launch} {e : Env} {R : Room} {s : State} {m : MethodId} {args : Array Value} {below : List Frame} {meth : Method} {c : Code} {T : State} {locs : List Loc} {cells slots : Nat}
theorem retI (X : Stand p l e R s m args below meth c T locs cells slots) (hx : p.tables.exec = Jvm.exec) {pc : Nat} {Ls : Array Slot} {z : Int32} {rest : List Value} (hret : meth.sig.returnType = some .int) (hd : decode c.code pc = .ok (.ireturn, 1)) {fs : List Frame}
    (hl : ∀ (f : JFrame) (acts : List Action), f.method = m → f.locked = none → f.entered = [] → (doReturn e (T.setTop f) acts (some (.int z))).1 = T.setFrames fs) : Steps p.tables e below (T.setTop (mkF m pc Ls (.int z :: rest))) (T.setFrames fs) := by
  have hm' : T.vm.method? m = some meth := X.method'
  have hn : narrow .int (.int z) = .int z := rfl
  show Steps p.tables e below (T.setTop { method := m, pc := pc, locals := Ls, stack := _ :: rest, locked := none }) _
  jvm_step X.here [X.here.top, hx, hd, hm', hret, hn]
  first | (intro acts; rw [hl _ acts rfl rfl rfl]) | rw [hl _ _ rfl rfl rfl]
  exact Steps.refl _
theorem gwIrem {tb : Tables} [Ours tb] {e : Env} {below : List Frame} {T target : State} {m : MethodId} {c : Code} {g : JFrame} (h : At T m c below) (hx : tb.exec = Jvm.exec) (hg : g.method = m) {x y : Int32} {rest : List Value} (hd : decode c.code g.pc = .ok (.irem, 1)) (hs : g.stack = .int y :: .int x :: rest) (hy : y ≠ 0)
    (hr : Steps tb e below (T.setTop { g with pc := g.pc + 1, stack := .int (x % y) :: rest }) target) : Steps tb e below (T.setTop g) target :=
  XS.irem h hx hg hd hs hy (by rw [Jvm.irem_eq_mod]; exact hr)
end New
end Jvm.RoadKit
@@BLOCK:NumsL.lean.txt@@
namespace Jvm.Pilot.@@N@@
open Jvm Jvm.ClassFile Sem Op Lib Jvm.Free Jvm.Stand Jvm.LawKit Jvm.RoadKit Bundle Jvm.Pilot.@@N@@.Jvm.D
theorem hwi {Z : State} {a0 : Array Value} (hw : ∀ d ∈ tables_1, d.before a0 Z = true) (i : Nat) {d : Jvm.Cond} (h : tables_1[i]? = some d) : d.before a0 Z = true := hw d (List.mem_of_getElem? h)
abbrev HW (Z : State) (a0 : Array Value) : Prop := ∀ d ∈ tables_1, d.before a0 Z = true
set_option maxRecDepth 65536
set_option maxHeartbeats 40000000
theorem hwSt {Z : State} {a0 : Array Value} (hw : HW Z a0) : ∀ a ∈ Bundle.stringAtoms, a.before a0 Z = true := fun d hd => hw d (by simpa using (List.all_eq_true.mp (by decide +kernel : (Bundle.stringAtoms.all fun c => tables_1.contains c) = true)) d hd)
theorem ownS {s U : State} {vm : Vm} {C : String} {k : ClassId} (h : U.Warmed39 vm) (ho : U.vm.findClass C = some k) : (s.setVm vm).vm.findClass C = some k := by rw [show (s.setVm vm).vm = vm from rfl, h.alike.findClass]; exact ho
variable (l : Launch) (Z : State) (a0 : Array Value)

abbrev rM (f lo c n : Nat) : Room := { frames := f, cells := c, slots := n, locals := lo }
abbrev iN (n : Nat) : Int32 := Int32.ofNat n
abbrev vI (x : Int32) : Slot := .val (.int x)
abbrev vR (x : Addr) : Slot := .val (.ref x)
section ZKit
variable {p : Program} {l : Launch} {e : Env} {R : Room} {s : State} {m : MethodId} {args : Array Value} {below : List Frame} {meth : Method} {c : Code} {T : State} {locs : List Loc} {cells slots : Nat} {target : State} {pc : Nat} {L L' : Array Slot} {S : List Value} {Z : State} {a0 : Array Value} {h : Heap} {n0 : Nat}
theorem dk {b : ByteArray} (hby : c.code = b) {D : List (Nat × Instr × Nat)} (d : ∀ x ∈ D, decode b x.1 = .ok x.2) (i : Nat) {pc : Nat} {y : Instr} {n : Nat} (q : D[i]? = some (pc, y, n)) : decode c.code pc = .ok (y, n) := hb hby (d (pc, y, n) (List.mem_of_getElem? q))
theorem zA (X : Stand p l e R s m args below meth c T locs cells slots) (hx : p.tables.exec = Jvm.exec) {k : Fin 4} {v : Value} (hd : decode c.code pc = .ok (.aload_n k, 1)) (hl : L[k.val]? = some (.val v)) (hv : v.isRef = true) (hr : Steps p.tables e below (T.setTop (mkF m (pc + 1) L (v :: S))) target) : Steps p.tables e below (T.setTop (mkF m pc L S)) target := XS.aloadN X.here hx rfl hd hl hv hr
theorem zL (X : Stand p l e R s m args below meth c T locs cells slots) (hx : p.tables.exec = Jvm.exec) {k : Fin 4} {v : Int32} (hd : decode c.code pc = .ok (.iload_n k, 1)) (hl : L[k.val]? = some (.val (.int v))) (hr : Steps p.tables e below (T.setTop (mkF m (pc + 1) L (.int v :: S))) target) : Steps p.tables e below (T.setTop (mkF m pc L S)) target := XS.iloadN X.here hx rfl hd hl hr
theorem zl (X : Stand p l e R s m args below meth c T locs cells slots) (hx : p.tables.exec = Jvm.exec) {k : Nat} {v : Int32} (hd : decode c.code pc = .ok (.iload k, 2)) (hl : L[k]? = some (.val (.int v))) (hr : Steps p.tables e below (T.setTop (mkF m (pc + 2) L (.int v :: S))) target) : Steps p.tables e below (T.setTop (mkF m pc L S)) target := XS.iload X.here hx rfl hd hl hr
theorem zC (X : Stand p l e R s m args below meth c T locs cells slots) (hx : p.tables.exec = Jvm.exec) {i : Int} (hd : decode c.code pc = .ok (.iconst i, 1)) (hr : Steps p.tables e below (T.setTop (mkF m (pc + 1) L (.int (Int32.ofInt i) :: S))) target) : Steps p.tables e below (T.setTop (mkF m pc L S)) target := XS.iconst X.here hx rfl hd hr
theorem zB (X : Stand p l e R s m args below meth c T locs cells slots) (hx : p.tables.exec = Jvm.exec) {i : Int} (hd : decode c.code pc = .ok (.bipush i, 2)) (hr : Steps p.tables e below (T.setTop (mkF m (pc + 2) L (.int (Int8.ofInt i).toInt32 :: S))) target) : Steps p.tables e below (T.setTop (mkF m pc L S)) target := XS.bipush X.here hx rfl hd hr
theorem zP (X : Stand p l e R s m args below meth c T locs cells slots) (hx : p.tables.exec = Jvm.exec) {x y : Int32} (hd : decode c.code pc = .ok (.iadd, 1)) (hr : Steps p.tables e below (T.setTop (mkF m (pc + 1) L (.int (x + y) :: S))) target) : Steps p.tables e below (T.setTop (mkF m pc L (.int y :: .int x :: S))) target := XS.iadd X.here hx rfl hd rfl hr
theorem zPl (X : Stand p l e R s m args below meth c T locs cells slots) (hx : p.tables.exec = Jvm.exec) {x y z : Int32} (hd : decode c.code pc = .ok (.iadd, 1)) (hz : x + y = z) (hr : Steps p.tables e below (T.setTop (mkF m (pc + 1) L (.int z :: S))) target) : Steps p.tables e below (T.setTop (mkF m pc L (.int y :: .int x :: S))) target := XS.iadd X.here hx rfl hd rfl (by rw [hz]; exact hr)
theorem zQl (X : Stand p l e R s m args below meth c T locs cells slots) (hx : p.tables.exec = Jvm.exec) {x y z : Int32} (hd : decode c.code pc = .ok (.isub, 1)) (hz : x - y = z) (hr : Steps p.tables e below (T.setTop (mkF m (pc + 1) L (.int z :: S))) target) : Steps p.tables e below (T.setTop (mkF m pc L (.int y :: .int x :: S))) target := XS.isub X.here hx rfl hd rfl (by rw [hz]; exact hr)
theorem zD (X : Stand p l e R s m args below meth c T locs cells slots) (hx : p.tables.exec = Jvm.exec) {x : Addr} (hd : decode c.code pc = .ok (.dup, 1)) (hr : Steps p.tables e below (T.setTop (mkF m (pc + 1) L (.ref x :: .ref x :: S))) target) : Steps p.tables e below (T.setTop (mkF m pc L (.ref x :: S))) target := XS.dup X.here hx rfl hd rfl rfl hr
theorem zG (X : Stand p l e R s m args below meth c T locs cells slots) (hx : p.tables.exec = Jvm.exec) (pc' : Nat) {o : Int} (hd : decode c.code pc = .ok (.goto o, 3)) (hp : (pc : Int) + o = (pc' : Int)) (hr : Steps p.tables e below (T.setTop (mkF m pc' L S)) target) : Steps p.tables e below (T.setTop (mkF m pc L S)) target := XS.goto X.here hx rfl (pc0 := pc) (pc' := pc') rfl hd (by rw [hp]; exact Int.natCast_nonneg _) (by rw [hp]; rfl) hr
theorem zI (X : Stand p l e R s m args below meth c T locs cells slots) (hx : p.tables.exec = Jvm.exec) (pc' : Nat) {cd : ClassFile.Cond} {x : Int32} {o : Int} (hd : decode c.code pc = .ok (.ifCond cd o, 3)) (hc : ifCond.holds cd x = true) (hp : (pc : Int) + o = (pc' : Int)) (hr : Steps p.tables e below (T.setTop (mkF m pc' L S)) target) : Steps p.tables e below (T.setTop (mkF m pc L (.int x :: S))) target := XS.ifYes X.here hx rfl (pc0 := pc) (pc' := pc') rfl hd rfl hc (by rw [hp]; exact Int.natCast_nonneg _) (by rw [hp]; rfl) hr
theorem zJ (X : Stand p l e R s m args below meth c T locs cells slots) (hx : p.tables.exec = Jvm.exec) {cd : ClassFile.Cond} {x : Int32} {o : Int} (hd : decode c.code pc = .ok (.ifCond cd o, 3)) (hc : ifCond.holds cd x = false) (hr : Steps p.tables e below (T.setTop (mkF m (pc + 3) L S)) target) : Steps p.tables e below (T.setTop (mkF m pc L (.int x :: S))) target := XS.ifNo X.here hx rfl hd rfl hc hr
theorem zM (X : Stand p l e R s m args below meth c T locs cells slots) (hx : p.tables.exec = Jvm.exec) (pc' : Nat) {cd : ClassFile.Cond} {x y : Int32} {o : Int} (hd : decode c.code pc = .ok (.if_icmp cd o, 3)) (hc : if_icmp.holds cd x y = true) (hp : (pc : Int) + o = (pc' : Int)) (hr : Steps p.tables e below (T.setTop (mkF m pc' L S)) target) : Steps p.tables e below (T.setTop (mkF m pc L (.int y :: .int x :: S))) target := XS.icmpYes X.here hx rfl (pc0 := pc) (pc' := pc') rfl hd rfl hc (by rw [hp]; exact Int.natCast_nonneg _) (by rw [hp]; rfl) hr
theorem zN (X : Stand p l e R s m args below meth c T locs cells slots) (hx : p.tables.exec = Jvm.exec) {cd : ClassFile.Cond} {x y : Int32} {o : Int} (hd : decode c.code pc = .ok (.if_icmp cd o, 3)) (hc : if_icmp.holds cd x y = false) (hr : Steps p.tables e below (T.setTop (mkF m (pc + 3) L S)) target) : Steps p.tables e below (T.setTop (mkF m pc L (.int y :: .int x :: S))) target := XS.icmpNo X.here hx rfl hd rfl hc hr
theorem zS (X : Stand p l e R s m args below meth c T locs cells slots) (hx : p.tables.exec = Jvm.exec) {k : Fin 4} {x : Int32} (hd : decode c.code pc = .ok (.istore_n k, 1)) (hl : storeLocals L k.val (.int x) = some L') (hr : Steps p.tables e below (T.setTop (mkF m (pc + 1) L' S)) target) : Steps p.tables e below (T.setTop (mkF m pc L (.int x :: S))) target := XS.istoreN X.here hx rfl hd rfl hl hr
theorem zs (X : Stand p l e R s m args below meth c T locs cells slots) (hx : p.tables.exec = Jvm.exec) {k : Nat} {x : Int32} (hd : decode c.code pc = .ok (.istore k, 2)) (hl : storeLocals L k (.int x) = some L') (hr : Steps p.tables e below (T.setTop (mkF m (pc + 2) L' S)) target) : Steps p.tables e below (T.setTop (mkF m pc L (.int x :: S))) target := XS.istore X.here hx rfl hd rfl hl hr
/-- a virtual call whose contract leaves the heap as it was -/
theorem zV {own C : String} {index : Nat} {y : MethodName} {bytes : ByteArray} {maxL f lo : Nat} {ret : Option FieldType} {as' : Array Value} {Q : Option Value → Heap → List Loc → Prop} {v0 : Option Value} {b : Addr} {d : String} {ps : List FieldType} {rt : Option FieldType} {av rest : List Value} (X : Stand p l e R s m args below meth c T locs cells slots) (hx : p.tables.exec = Jvm.exec) (hZ : Z.Warmed39 s.vm) (hown : s.vm.findClass own = some m.cls) (eT : T.heap = h) (E : Exa Z h b C) (N : Fr n0 locs)
    (w1 : (Cond.methodLink own index y).before a0 Z = true) (w2 : (Cond.declares y).before a0 Z = true) (w3 : (Cond.selects C y y).before a0 Z = true) (w4 : (Cond.instanceMethod y).before a0 Z = true) (w5 : (Cond.code y bytes maxL ret).before a0 Z = true) (w6 : (Cond.initialized y.cls).before a0 Z = true)
    (hM : MetFree l y (head1 [Cond.code y bytes maxL ret] ({ frames := f, cells := 0, slots := 0, locals := lo } : Room)) (fun a U => a = as' ∧ Z.Warmed39 U.vm ∧ U.heap = h) (fun _ _ _ _ _ => True) (fun _ U o U' => ∃ v L, o = .returned v ∧ Q v U'.heap L ∧ FrameEnd U o U' L 0 0))
    (pc : Nat) (L : Array Slot) (S : List Value) (hml : c.maxLocals = L.size) (pd : parseMethodDescriptor d = some ⟨ps, rt⟩) (hd : decode c.code pc = .ok (.invokevirtual index, 3)) (W : Nat) (ha : (.ref b :: av).toArray = as' := by exact rfl) (hs : S = av.reverse ++ .ref b :: rest := by exact rfl) (hQ : ∀ v h' L, Q v h' L → v = v0 ∧ Fr n0 L ∧ h' = h := by exact fun _ _ _ q => q) (hr : f + 1 ≤ R.frames ∧ W + (maxL + 11) + lo ≤ R.locals ∧ cells ≤ R.cells ∧ slots ≤ R.slots := by decide) (hy : y.cls ≠ "java/lang/invoke/MethodHandle" ∧ y.cls ≠ "java/lang/invoke/VarHandle" := by decide) (hyd : d = y.desc := by exact rfl) (hal : av.length = ps.length := by exact rfl) (hW : (rest.map fun v => v.category).sum = W := by exact rfl) :
    ∃ (T' : State) (L1 : List Loc), Stand p l e R s m args below meth c T' L1 cells slots ∧ T'.heap = h ∧ Fr n0 L1 ∧ ∀ target, Steps p.tables e below (T'.setTop (mkF m (pc + 3) L (v0.toList ++ rest))) target → Steps p.tables e below (T.setTop (mkF m pc L S)) target := by
  subst hyd
  obtain ⟨cq, kq, qa, qb, qc⟩ := isOf hZ eT E
  obtain ⟨_, _, ⟨T2, L2, k2, n2⟩, -, X2, ⟨Lc, hq, l2, y2, z2⟩, st2⟩ := X.virtualBack hx hown (mvT hZ w1) (mvT hZ w2) (notFace_of_selects (args := #[]) (mvT hZ w3)) (mvT hZ w3) (mvT hZ w4) hy (backOf (W := W) hM hZ w5 w6 hr.1 hr.2.1) qa qc (g := mkF m pc L S) rfl hml.symm (Steps.refl _) (argsL := av) (rest := rest) (lenOf pd hal) hs (by rw [hW]; exact Nat.le_of_eq (Nat.zero_add _)) hd (fun _ _ => ⟨ha, eT, hr.2.2.1, hr.2.2.2⟩)
  dsimp only [Pt.U, Pt.locs, Pt.cells, Pt.slots] at X2 l2 y2 z2 st2 hq
  obtain ⟨rfl, Nq, e2⟩ := hQ _ _ _ hq
  rw [y2, z2] at X2
  exact ⟨T2, L2, X2, e2, by rw [l2]; exact Fr.app N Nq, fun target kt => st2.trans kt⟩
/-- a static one -/
theorem zT {own : String} {index : Nat} {y : MethodName} {bytes : ByteArray} {maxL f lo : Nat} {ret : Option FieldType} {as' : Array Value} {Q : Option Value → Heap → List Loc → Prop} {v0 : Option Value} {d : String} {ps : List FieldType} {rt : Option FieldType} {av rest : List Value} (X : Stand p l e R s m args below meth c T locs cells slots) (hx : p.tables.exec = Jvm.exec) (hZ : Z.Warmed39 s.vm) (hown : s.vm.findClass own = some m.cls) (eT : T.heap = h) (N : Fr n0 locs)
    (w1 : (Cond.methodLink own index y).before a0 Z = true) (w2 : (Cond.static y).before a0 Z = true) (w6 : (Cond.initialized y.cls).before a0 Z = true) (w5 : (Cond.code y bytes maxL ret).before a0 Z = true)
    (hM : MetFree l y (head1 [Cond.code y bytes maxL ret] ({ frames := f, cells := 0, slots := 0, locals := lo } : Room)) (fun a U => a = as' ∧ Z.Warmed39 U.vm ∧ U.heap = h) (fun _ _ _ _ _ => True) (fun _ U o U' => ∃ v L, o = .returned v ∧ Q v U'.heap L ∧ FrameEnd U o U' L 0 0))
    (pc : Nat) (L : Array Slot) (S : List Value) (hml : c.maxLocals = L.size) (pd : parseMethodDescriptor d = some ⟨ps, rt⟩) (hd : decode c.code pc = .ok (.invokestatic index, 3)) (W : Nat) (ha : av.toArray = as' := by exact rfl) (hs : S = av.reverse ++ rest := by exact rfl) (hQ : ∀ v h' L, Q v h' L → v = v0 ∧ Fr n0 L ∧ h' = h := by exact fun _ _ _ q => q) (hr : f + 1 ≤ R.frames ∧ W + (maxL + 11) + lo ≤ R.locals ∧ cells ≤ R.cells ∧ slots ≤ R.slots := by decide) (hy : y.cls ≠ "java/lang/invoke/MethodHandle" ∧ y.cls ≠ "java/lang/invoke/VarHandle" := by decide) (hyd : d = y.desc := by exact rfl) (hal : av.length = ps.length := by exact rfl) (hW : (rest.map fun v => v.category).sum = W := by exact rfl) :
    ∃ (T' : State) (L1 : List Loc), Stand p l e R s m args below meth c T' L1 cells slots ∧ T'.heap = h ∧ Fr n0 L1 ∧ ∀ target, Steps p.tables e below (T'.setTop (mkF m (pc + 3) L (v0.toList ++ rest))) target → Steps p.tables e below (T.setTop (mkF m pc L S)) target := by
  subst hyd
  obtain ⟨_, _, ⟨T2, L2, k2, n2⟩, -, X2, ⟨Lc, hq, l2, y2, z2⟩, st2⟩ := Jvm.LawKit.callS X hx hown (mvT hZ w1) (mvT hZ w2) (mvT hZ w6) (mvT hZ w5) hy (backOf (W := W) hM hZ w5 w6 hr.1 hr.2.1) (g := mkF m pc L S) rfl hml.symm (argsL := av) (rest := rest) (lenOf pd hal) hs (by rw [hW]; exact Nat.le_of_eq (Nat.zero_add _)) hd (fun _ _ => ⟨ha, eT, hr.2.2.1, hr.2.2.2⟩)
  dsimp only [Pt.U, Pt.locs, Pt.cells, Pt.slots] at X2 l2 y2 z2 st2 hq
  obtain ⟨rfl, Nq, e2⟩ := hQ _ _ _ hq
  rw [y2, z2] at X2
  exact ⟨T2, L2, X2, e2, by rw [l2]; exact Fr.app N Nq, fun target kt => st2 target kt⟩
/-- a contract that keeps the VM's tables as they are -/
abbrev MF (l : Launch) (Z : State) (y : MethodName) (bytes : ByteArray) (maxL : Nat) (ret : Option FieldType) (ws : List Jvm.Cond) (rm : Room) (as' : Array Value) (h0 : Heap) (Q : Option Value → Heap → List Loc → Prop) : Prop := MetFree l y (head1 (Jvm.Cond.code y bytes maxL ret :: ws) rm) (fun aa_ U_ => aa_ = as' ∧ Z.Warmed39 U_.vm ∧ U_.heap = h0) (fun _ _ _ _ _ => True) (fun _ U_ o_ V_ => ∃ v_ L_, o_ = .returned v_ ∧ Q v_ V_.heap L_ ∧ FrameEnd U_ o_ V_ L_ rm.cells rm.slots)
theorem zBody {y : MethodName} {bytes : ByteArray} {maxL : Nat} {ret : Option FieldType} {ws : List Jvm.Cond} {rm : Room} {as' : Array Value} {h0 : Heap} {Q : Option Value → Heap → List Loc → Prop} (hp : plainName y.cls = true) (ef : ∀ m, entryFrame m as' maxL = mkF m 0 L [])
    (H : ∀ p e s m below meth c s₁, BodyLoose p l y (head1 (Jvm.Cond.code y bytes maxL ret :: ws) rm) bytes maxL ret e s m as' below meth c s₁ → p.tables.exec = Jvm.exec → c.code = bytes → c.maxLocals = maxL → s.vm.findClass y.cls = some m.cls → Z.Warmed39 s.vm → s.heap = h0 → Stand p l e rm s m as' below meth c s₁ [] 0 0 → s₁.heap = h0 → (∀ zz, Steps p.tables e below (s₁.setTop (mkF m 0 L [])) zz → Steps p.tables e below (s₁.setTop (entryFrame m as' maxL)) zz) →
      ∃ s₂ o, Steps p.tables e below (s₁.setTop (entryFrame m as' maxL)) s₂ ∧ s₂.status = .running ∧ Ended s₂ below o ∧ ∃ v_ L_, o = .returned v_ ∧ Q v_ s₂.heap L_ ∧ FrameEnd s o s₂ L_ rm.cells rm.slots) : MF l Z y bytes maxL ret ws rm as' h0 Q := by
  refine MetFree.of_bodySF (plainFor_of_name hp) hisR ?_
  intro p e s m args below meth c s₁ Bd hml0 hP hK
  obtain ⟨rfl, hZ, hh⟩ := hP
  exact H p e s m below meth c s₁ Bd Bd.exec Bd.bytes hml0 (findClass_of_methodNamed Bd.named) hZ hh (Stand.of_body Bd) (by rw [← hh, Bd.state]; rfl) (fun zz kz => castTop (ef m) kz)
/-- the end of a body that keeps the VM's tables -/
theorem zLv {y : MethodName} {S' : Spec} {bytes : ByteArray} {maxL k n : Nat} {ret : Option FieldType} {rm : Room} {s₁ start : State} {Q : Option Value → Heap → List Loc → Prop} {v : Option Value} (Bd : BodyLoose p l y S' bytes maxL ret e s m args below meth c s₁) (X : Stand p l e rm s m args below meth c T locs k n) (hk : k ≤ rm.cells ∧ n ≤ rm.slots) (hv : ret = none → v = none)
    (K : ∀ fs, (∀ (f : JFrame) (acts : List Action), f.method = m → f.locked = none → f.entered = [] → (doReturn e (T.setTop f) acts v).1 = T.setFrames fs) → Steps p.tables e below start (T.setFrames fs)) (hq : Q v T.heap locs) : ∃ s₂ o, Steps p.tables e below start s₂ ∧ s₂.status = .running ∧ Ended s₂ below o ∧ ∃ v_ L_, o = .returned v_ ∧ Q v_ s₂.heap L_ ∧ FrameEnd s o s₂ L_ rm.cells rm.slots := by
  obtain ⟨fs, hr, hrun, hended, hW, hsame⟩ := X.leave (v := v) (fun h => hv (Bd.returns.symm.trans h))
  exact ⟨_, _, K fs hr, hrun, hended, _, _, rfl, hq, ⟨_, rfl⟩, hW, hsame.mono hk.1 hk.2⟩
/-- a field read -/
theorem zF {own C f d : String} {index : Nat} {r : Addr} {v : Value} (X : Stand p l e R s m args below meth c T locs cells slots) (hx : p.tables.exec = Jvm.exec) (hZ : Z.Warmed39 s.vm) (hown : s.vm.findClass own = some m.cls) (w : (Cond.fieldLink own index C f d).before a0 Z = true) (eT : T.heap = h) (F : Fld Z h r C f d v) (pc : Nat) (L : Array Slot) (S : List Value) (hd : decode c.code pc = .ok (.getfield index, 3)) :
    ∃ T', Stand p l e R s m args below meth c T' locs cells slots ∧ T'.heap = h ∧ ∀ target, Steps p.tables e below (T'.setTop (mkF m (pc + 3) L (v :: S))) target → Steps p.tables e below (T.setTop (mkF m pc L (.ref r :: S))) target := by
  obtain ⟨T', X', e', st⟩ := getF X hx hZ hown (host := "") (Or.inl w) Via.refl eT F (g := mkF m pc L (.ref r :: S)) rfl rfl hd
  exact ⟨T', X', e', st⟩
end ZKit
section StrKit
variable {p : Program} {l : Launch} {e : Env} {R : Room} {s : State} {m : MethodId} {args : Array Value} {below : List Frame} {meth : Method} {c : Code} {T : State} {locs : List Loc} {cells slots : Nat} {Z : State} {a0 : Array Value} {h h' : Heap} {a b : Addr} {ty : FieldType} {n i sl : Nat} {f f' : Nat → Value} {v : Value} {ws : List Addr}
/-- an array of n components, the i-th holds f i -/
def AF (Z : State) (h : Heap) (a : Addr) (ty : FieldType) (n : Nat) (f : Nat → Value) : Prop := ∃ cl : Cell, Arr Z h a cl ty ∧ cl.slots.size = n ∧ ∀ i, i < n → cl.slots[i]? = some (f i)
theorem AF.lt (F : AF Z h a ty n f) : a < h.size := by obtain ⟨cl, A, -⟩ := F; exact A.lt
theorem AF.ext (F : AF Z h a ty n f) (E : Ext h h') : AF Z h' a ty n f := by obtain ⟨cl, A, r⟩ := F; exact ⟨cl, A.ext E, r⟩
theorem AF.other (F : AF Z h a ty n f) (W : Wr h h' b sl v) (q : a ≠ b) : AF Z h' a ty n f := by obtain ⟨cl, A, r⟩ := F; exact ⟨cl, A.other W q, r⟩
theorem AF.keep (F : AF Z h a ty n f) (K : Keep h h' ws) (q : a ∉ ws) : AF Z h' a ty n f := by obtain ⟨cl, A, r⟩ := F; exact ⟨cl, ⟨K.2.1 a cl A.1 q, A.2⟩, r⟩
theorem AF.congr (F : AF Z h a ty n f) (q : ∀ i, i < n → f i = f' i) : AF Z h a ty n f' := by obtain ⟨cl, A, r, g⟩ := F; exact ⟨cl, A, r, fun i hi => by rw [g i hi, q i hi]⟩
/-- f, but v at i -/
def upd (f : Nat → Value) (i : Nat) (v : Value) : Nat → Value := fun j => if j = i then v else f j
theorem AF.wr (F : AF Z h a ty n f) (W : Wr h h' a i v) : AF Z h' a ty n (upd f i v) := by
  obtain ⟨cl, A, r, g⟩ := F
  refine ⟨_, A.same W, by simp [Cell.setSlot, r], fun j hj => ?_⟩
  by_cases q : j = i
  · subst q; simp [Cell.setSlot, upd, r, hj]
  · show _ = some (if j = i then v else f j)
    rw [if_neg q, ← g j hj]
    simp [Cell.setSlot, Array.getElem?_setIfInBounds, Ne.symm q]
theorem AF.new {k : ClassId} {z : Int32} (A : Arr Z h a (newA k ty z) ty) (q : z.toNatClampNeg = n) : AF Z h a ty n (fun _ => defaultValue ty) := ⟨_, A, by rw [sz_new]; exact q, fun i hi => by simp [newA, q, hi]⟩
theorem clampN (h : n < 2147483648) : (Int32.ofNat n).toNatClampNeg = n := by
  show (Int32.ofNat n).toInt.toNat = n
  rw [Int32.toInt_ofNat_small h]; rfl
theorem nnN (h : n < 2147483648) : ¬ Int32.ofNat n < 0 := by rw [Int32.lt_iff_toInt_lt, Int32.toInt_ofNat_small h, Int32.toInt_zero]; omega
theorem inN {cl : Cell} (hs : cl.slots.size = n) (hi : i < n) (hn : n < 2147483648) : ¬ (Int32.ofNat i < 0 ∨ cl.slots.size ≤ (Int32.ofNat i).toNatClampNeg) := by
  rw [clampN (by omega), hs]
  exact fun q => q.elim (nnN (by omega)) (fun q => absurd q (by omega))
theorem ldCh (X : Stand p l e R s m args below meth c T locs cells slots) (hx : p.tables.exec = Jvm.exec) (hZ : Z.Warmed39 s.vm) (eT : T.heap = h) (F : AF Z h a .char n f) (hi : i < n) (hn : n < 2147483648) (hv : f i = v) {g : JFrame} (hg : g.method = m) {rest : List Value} (hs : g.stack = .int (Int32.ofNat i) :: .ref a :: rest) (hd : decode c.code g.pc = .ok (.caload, 1)) {target : State}
    (hr : Steps p.tables e below (T.setTop { g with pc := g.pc + 1, stack := v :: rest }) target) : Steps p.tables e below (T.setTop g) target := by
  subst hv
  obtain ⟨cl, A, r, q⟩ := F
  exact X.caload hx (by rw [eT]; exact A.1) (State.isArrayOf_alike hZ.alike A.2.1) A.2.2 (inN r hi hn) (by rw [clampN (by omega)]; exact q i hi) hg hs hd _ hr
theorem ldBy (X : Stand p l e R s m args below meth c T locs cells slots) (hx : p.tables.exec = Jvm.exec) (hZ : Z.Warmed39 s.vm) (eT : T.heap = h) (F : AF Z h a .byte n f) (hi : i < n) (hn : n < 2147483648) (hv : f i = v) {g : JFrame} (hg : g.method = m) {rest : List Value} (hs : g.stack = .int (Int32.ofNat i) :: .ref a :: rest) (hd : decode c.code g.pc = .ok (.baload, 1)) {target : State}
    (hr : Steps p.tables e below (T.setTop { g with pc := g.pc + 1, stack := v :: rest }) target) : Steps p.tables e below (T.setTop g) target := by
  subst hv
  obtain ⟨cl, A, r, q⟩ := F
  exact X.baloadBytes hx (by rw [eT]; exact A.1) (State.isArrayOf_alike hZ.alike A.2.1) A.2.2 (inN r hi hn) (by rw [clampN (by omega)]; exact q i hi) hg hs hd _ hr
theorem lenA (X : Stand p l e R s m args below meth c T locs cells slots) (hx : p.tables.exec = Jvm.exec) (hZ : Z.Warmed39 s.vm) (eT : T.heap = h) (F : AF Z h a ty n f) {g : JFrame} (hg : g.method = m) {rest : List Value} (hs : g.stack = .ref a :: rest) (hd : decode c.code g.pc = .ok (.arraylength, 1)) {target : State}
    (hr : Steps p.tables e below (T.setTop { g with pc := g.pc + 1, stack := .int (Int32.ofNat n) :: rest }) target) : Steps p.tables e below (T.setTop g) target := by
  obtain ⟨cl, A, r, q⟩ := F
  refine X.arraylength hx (by rw [eT]; exact A.1) (State.isArrayOf_alike hZ.alike A.2.1) hg hs hd _ ?_
  rw [r]
  exact hr
theorem stBy (X : Stand p l e R s m args below meth c T locs cells slots) (hx : p.tables.exec = Jvm.exec) (hZ : Z.Warmed39 s.vm) (eT : T.heap = h) (F : AF Z h a .byte n f) (hi : i < n) (hn : n < 2147483648) {x : Int32} {g : JFrame} (hg : g.method = m) {rest : List Value} (hs : g.stack = .int x :: .int (Int32.ofNat i) :: .ref a :: rest) (hd : decode c.code g.pc = .ok (.bastore, 1)) :
    ∃ T' h', Stand p l e R s m args below meth c T' (locs ++ [⟨a, i⟩]) cells slots ∧ T'.heap = h' ∧ Wr h h' a i (.int (nar .byte x)) ∧ ∀ target, Steps p.tables e below (T'.setTop { g with pc := g.pc + 1, stack := rest }) target → Steps p.tables e below (T.setTop g) target := by
  obtain ⟨cl, A, r, q⟩ := F
  obtain ⟨T', h', X', e', W', st⟩ := stB X hx hZ eT A (inN r hi hn) hg hs hd
  rw [clampN (by omega)] at X' W'
  exact ⟨T', h', X', e', W', st⟩
theorem stCh (X : Stand p l e R s m args below meth c T locs cells slots) (hx : p.tables.exec = Jvm.exec) (hZ : Z.Warmed39 s.vm) (eT : T.heap = h) (F : AF Z h a .char n f) (hi : i < n) (hn : n < 2147483648) {x : Int32} {g : JFrame} (hg : g.method = m) {rest : List Value} (hs : g.stack = .int x :: .int (Int32.ofNat i) :: .ref a :: rest) (hd : decode c.code g.pc = .ok (.castore, 1)) :
    ∃ T' h', Stand p l e R s m args below meth c T' (locs ++ [⟨a, i⟩]) cells slots ∧ T'.heap = h' ∧ Wr h h' a i (.int (nar .char x)) ∧ ∀ target, Steps p.tables e below (T'.setTop { g with pc := g.pc + 1, stack := rest }) target → Steps p.tables e below (T.setTop g) target := by
  obtain ⟨cl, A, r, q⟩ := F
  obtain ⟨T', h', X', e', W', st⟩ := stC X hx hZ eT A (inN r hi hn) hg hs hd
  rw [clampN (by omega)] at X' W'
  exact ⟨T', h', X', e', W', st⟩
theorem nwA (X : Stand p l e R s m args below meth c T locs cells slots) (hx : p.tables.exec = Jvm.exec) (hZ : Z.Warmed39 s.vm) {aty : ArrayType} (w : (Cond.arrayClass (newarray.typeOf aty)).before a0 Z = true) (eT : T.heap = h) {g : JFrame} (hg : g.method = m) (hd : decode c.code g.pc = .ok (.newarray aty, 2)) {rest : List Value} (hs : g.stack = .int (Int32.ofNat n) :: rest)
    {cap : Nat} (hcap : n ≤ cap) (hb : cap * 8 ≤ 536870912) (hc : cells + 1 ≤ R.cells) (hl : slots + cap ≤ R.slots) :
    ∃ T' h', Stand p l e R s m args below meth c T' locs (cells + 1) (slots + cap) ∧ T'.heap = h' ∧ Ext h h' ∧ AF Z h' h.size (newarray.typeOf aty) n (fun _ => defaultValue (newarray.typeOf aty)) ∧
      ∀ target, Steps p.tables e below (T'.setTop { g with pc := g.pc + 2, stack := .ref h.size :: rest }) target → Steps p.tables e below (T.setTop g) target := by
  obtain ⟨T', h', cA, X', e', E', A', st⟩ := newP X hx hZ w eT hg hd hs (nnN (by omega)) (cap := cap) (by rw [clampN (by omega)]; exact hcap) hb hc hl
  exact ⟨T', h', X', e', E', AF.new A' (clampN (by omega)), st⟩
theorem succN (i : Nat) : Int32.ofNat i + (1 : Int32) = Int32.ofNat (i + 1) := Int32.ofNat_succ i
theorem ltN (h1 : i < 2147483648) (h2 : n < 2147483648) : Int32.ofNat i < Int32.ofNat n ↔ i < n := by rw [Int32.lt_iff_toInt_lt, Int32.toInt_ofNat_small h1, Int32.toInt_ofNat_small h2]; omega
end StrKit

/-- a Java char as an int -/
def isCh (x : Int32) : Prop := 0 ≤ x.toInt ∧ x.toInt < 65536
def isB (x : Int32) : Prop := 0 ≤ x.toInt ∧ x.toInt < 256
def b8 (x : Int32) : Int32 := nar .byte (x.toInt8.toInt32)
def l16 (x : Int32) : Int32 := (x &&& (255 : Int32)).toUInt32.toUInt16.toUInt32.toInt32
theorem b8_mod (x : Int32) : ((b8 x).toInt - x.toInt) % 256 = 0 := by
  have h1 := (c_i2b x).1
  have h2 := (c_i2b (x.toInt8.toInt32)).1
  show ((x.toInt8.toInt32).toInt8.toInt32.toInt - x.toInt) % 256 = 0
  omega
theorem m255 (x : Int32) : (x &&& (255 : Int32)).toInt = x.toInt % 256 := by rw [c_mask x 255 8 (by decide) (by decide)]; rfl
theorem i2c_eq {x : Int32} (h : isCh x) : x.toUInt32.toUInt16.toUInt32.toInt32 = x := by
  have q := c_i2c x
  refine Int32.toInt_inj.mp ?_
  have := h.1; have := h.2
  omega
theorem nar_id {x : Int32} (h : isCh x) : nar .char x = x := i2c_eq h
theorem l16_eq {x : Int32} (h : isB x) : l16 (b8 x) = x := by
  have q := b8_mod x
  have r := m255 (b8 x)
  have := h.1; have := h.2
  have e : (b8 x &&& (255 : Int32)) = x := Int32.toInt_inj.mp (by omega)
  unfold l16
  rw [e]
  exact i2c_eq ⟨by omega, by omega⟩
theorem codA (n : Nat) : (((Int32.ofNat n) - (Int32.ofNat n)).toUInt32 >>> ((31 : Int32) &&& 31).toUInt32).toInt32.toInt8.toInt32 = (0 : Int32) := by
  rw [show Int32.ofNat n - Int32.ofNat n = 0 from Int32.sub_self _]
  decide
theorem isCh_of {x : Int32} (h : isB x) : isCh x := ⟨h.1, by have := h.2; omega⟩
theorem shr0 (x : Int32) : x >>> ((0 : Int32) &&& 31) = x := by
  refine Int32.toInt_inj.mp ?_
  rw [c_ishr x 0 0 (by decide)]
  exact Int.ediv_one _

/-- the statics that the String bodies read, as they stood when the law began -/
def StrSta (Z : State) : Prop := (∃ k : Int32, ¬ (k = (0 : Int32)) ∧ Sta Z Z.heap "java/lang/String" "COMPACT_STRINGS" "Z" (.int k)) ∧
  (Sta Z Z.heap "jdk/internal/util/Preconditions" "SIOOBE_FORMATTER" "Ljava/util/function/BiFunction;" .null ∨ ∃ a : Addr, Sta Z Z.heap "jdk/internal/util/Preconditions" "SIOOBE_FORMATTER" "Ljava/util/function/BiFunction;" (.ref a))
def Ca (g : Nat → Int32) : Nat → Value := fun j => .int (g j)
def Lb (g : Nat → Int32) : Nat → Value := fun j => .int (b8 (g j))
def QI (r : Int32) (h0 : Heap) (n0 : Nat) (v : Option Value) (h : Heap) (L : List Loc) : Prop := v = some (.int r) ∧ Fr n0 L ∧ h = h0
def QN (h0 : Heap) (n0 : Nat) (v : Option Value) (h : Heap) (L : List Loc) : Prop := v = none ∧ Fr n0 L ∧ h = h0
def QA (Z : State) (ty : FieldType) (n : Nat) (f : Nat → Value) (h0 : Heap) (n0 : Nat) (v : Option Value) (h : Heap) (L : List Loc) : Prop := ∃ b : Addr, v = some (.ref b) ∧ Fr n0 L ∧ Keep h0 h [] ∧ h0.size ≤ b ∧ AF Z h b ty n f
def QR (Z : State) (r : Int32) (b : Addr) (ty : FieldType) (n : Nat) (P : (Nat → Value) → Prop) (h0 : Heap) (n0 : Nat) (v : Option Value) (h : Heap) (L : List Loc) : Prop := v = some (.int r) ∧ Fr n0 L ∧ Keep h0 h [b] ∧ ∃ f, AF Z h b ty n f ∧ P f
theorem notin0 {a b : Addr} (q : a ≠ b) : a ∉ [b] := fun r => q (List.mem_singleton.mp r)
/-- a compact String of n bytes, the j-th is w j -/
def StrV (Z : State) (h : Heap) (a : Addr) (n : Nat) (w : Nat → Value) : Prop := Exa Z h a "java/lang/String" ∧ ∃ b : Addr, Fld Z h a "java/lang/String" "value" "[B" (.ref b) ∧ Fld Z h a "java/lang/String" "coder" "B" (.int 0) ∧ AF Z h b .byte n w
theorem StrV.lt {Z : State} {h : Heap} {a : Addr} {n : Nat} {w : Nat → Value} (S : StrV Z h a n w) : a < h.size := S.1.lt
theorem StrV.ext {Z : State} {h h' : Heap} {a : Addr} {n : Nat} {w : Nat → Value} (S : StrV Z h a n w) (E : Ext h h') : StrV Z h' a n w := by
  obtain ⟨X, b, V, C, A⟩ := S
  exact ⟨X.ext E, b, V.ext E, C.ext E, A.ext E⟩
theorem StrV.keep {Z : State} {h h' : Heap} {a : Addr} {n : Nat} {w : Nat → Value} (S : StrV Z h a n w) (K : Keep h h' []) : StrV Z h' a n w := by
  obtain ⟨X, b, V, C, A⟩ := S
  exact ⟨X.keep K, b, V.keep K (List.not_mem_nil), C.keep K (List.not_mem_nil), A.keep K (List.not_mem_nil)⟩
theorem StrV.congr {Z : State} {h : Heap} {a : Addr} {n : Nat} {w w' : Nat → Value} (S : StrV Z h a n w) (q : ∀ j, j < n → w j = w' j) : StrV Z h a n w' := by
  obtain ⟨X, b, V, C, A⟩ := S
  exact ⟨X, b, V, C, A.congr q⟩
def Str (Z : State) (h : Heap) (a : Addr) (n : Nat) (g : Nat → Int32) : Prop := StrV Z h a n (Lb g)
def QS (Z : State) (o : Addr) (n : Nat) (g : Nat → Int32) (h0 : Heap) (n0 : Nat) (v : Option Value) (h : Heap) (L : List Loc) : Prop := v = none ∧ Fr n0 L ∧ Keep h0 h [o] ∧ Str Z h o n g
theorem notin1 {a b : Addr} (q : a ≠ b) : a ∉ [b] := fun r => q (List.mem_singleton.mp r)
theorem all1 {n0 : Nat} {b : Addr} (q : n0 ≤ b) : ∀ x ∈ [b], n0 ≤ x := fun x r => by cases List.mem_singleton.mp r; exact q
theorem all0' {n0 : Nat} : ∀ x ∈ ([] : List Addr), n0 ≤ x := fun x r => absurd r List.not_mem_nil
/-- a String comes back -/
def QV (Z : State) (n : Nat) (w : Nat → Value) (h0 : Heap) (n0 : Nat) (v : Option Value) (h : Heap) (L : List Loc) : Prop := ∃ o : Addr, v = some (.ref o) ∧ Fr n0 L ∧ Keep h0 h [] ∧ StrV Z h o n w
def QSV (Z : State) (o : Addr) (n : Nat) (w : Nat → Value) (h0 : Heap) (n0 : Nat) (v : Option Value) (h : Heap) (L : List Loc) : Prop := v = none ∧ Fr n0 L ∧ Keep h0 h [o] ∧ StrV Z h o n w
theorem subN {n m : Nat} (h : m ≤ n) (hn : n < 2147483648) : Int32.ofNat n - Int32.ofNat m = Int32.ofNat (n - m) := by
  refine Int32.toInt_inj.mp ?_
  have q := c_isub (Int32.ofNat n) (Int32.ofNat m)
  rw [Int32.toInt_ofNat_small (by omega), Int32.toInt_ofNat_small (by omega)] at q
  have h1 := (Int32.ofNat n - Int32.ofNat m).toInt_lt
  have h2 := (Int32.ofNat n - Int32.ofNat m).le_toInt
  rw [Int32.toInt_ofNat_small (by omega)]
  omega
theorem neN {n m : Nat} (h : n ≠ m) (hn : n < 2147483648) (hm : m < 2147483648) : ¬ (Int32.ofNat n = Int32.ofNat m) := fun q => by
  have q := congrArg Int32.toInt q
  rw [Int32.toInt_ofNat_small hn, Int32.toInt_ofNat_small hm] at q
  omega

/-- a String that is being made (its value is null yet) is no booked one -/
theorem safeNull {Z : State} {EL : List (String × Nat)} {vm : Vm} {h : Heap} {x : Addr} (hal : Z.vm.Alike vm) (E : Exa Z h x "java/lang/String") (G : Fld Z h x "java/lang/String" "value" "[B" .null) : Safe Z EL vm h x := fun B => by
  obtain ⟨cell, k, e1, e2, e3, -, -⟩ := E
  obtain ⟨p, -, u, a, -, q, -, F, rfl | rfl⟩ := B
  · cases (show h[q.sa]? = some q.sC from F.ha).symm.trans e1
    obtain ⟨cS, ⟨⟨s1, s2, s3, ⟨cv, kv, iv, s4, s4'⟩, s5, s6, s7, s8, sr⟩, f, e⟩, -⟩ := F
    obtain ⟨kv', z4⟩ := ff_back (U := Wst Z vm h) hal s4
    obtain ⟨c1, cf, k1, i1, f1, g1, g2, -, -, -, -, g7⟩ := G
    cases g1.symm.trans e1
    have e5 := z4.symm.trans g2
    simp only [Option.some.injEq, Prod.mk.injEq] at e5
    rw [e5.2.2.2] at s8
    cases s8.symm.trans g7
  · cases (show h[q.sd]? = some q.SA from F.hd).symm.trans e1
    obtain ⟨cS, -, -, f, -⟩ := F
    have f : vm.findClass "[B" = some q.SA.cls := f
    rw [hal.findClass] at f
    obtain ⟨k1, q1, q2⟩ := Vm.findClass_spec f
    obtain ⟨k2, q3, q4⟩ := Vm.findClass_spec e2
    cases q1.symm.trans q3
    exact absurd (q2.symm.trans q4) (by decide)
section CopyKit
variable {p : Program} {l : Launch} {e : Env} {R : Room} {s : State} {m : MethodId} {args : Array Value} {below : List Frame} {meth : Method} {c : Code} {T : State} {locs : List Loc} {cells slots : Nat} {Z : State} {a0 : Array Value} {h h' : Heap} {a b : Addr} {ty : FieldType} {n i : Nat} {f f' : Nat → Value} {v : Value}
theorem getD_range (f : Nat → Value) (n j : Nat) (dv : Value) (hj : j < n) : ((List.range n).map f).getD j dv = f j := by
  simp [List.getD, hj]
theorem AF.arv (F : AF Z h a ty n f) (hn : n < 2147483648) (dv : Value) (hf : ∀ j, j < n → fits ty (f j) = true) : ∃ k, Arv Z h a k ty (Int32.ofNat n) ((List.range n).map f) dv := by
  obtain ⟨cl, A, r, g⟩ := F
  refine ⟨cl.cls, cl, A, rfl, by rw [r, clampN hn], nnN hn, fun j hj => ?_, fun j hj => ?_⟩
  · rw [r] at hj; rw [g j hj, getD_range f n j dv hj]
  · rw [r] at hj; rw [getD_range f n j dv hj]; exact hf j hj
theorem afOf {k : ClassId} {z : Int32} {vs : List Value} {dv : Value} (F : Arv Z h a k ty z vs dv) (hz : z.toNatClampNeg = n) : AF Z h a ty n (fun j => vs.getD j dv) := by
  obtain ⟨cl, A, -, S, -, H, -⟩ := F
  exact ⟨cl, A, by rw [S, hz], fun j hj => H j (by rw [S, hz]; exact hj)⟩
end CopyKit

theorem pd_0 : parseMethodDescriptor "([CII)V" = some ⟨[(.array .char), .int, .int], none⟩ := by decide +kernel
theorem pd_1 : parseMethodDescriptor "(I)Ljava/lang/String;" = some ⟨[.int], some (.object "java/lang/String")⟩ := by decide +kernel
theorem pd_2 : parseMethodDescriptor "(Ljava/lang/String;II)C" = some ⟨[(.object "java/lang/String"), .int, .int], some .char⟩ := by decide +kernel
theorem pd_3 : parseMethodDescriptor "()I" = some ⟨[], some .int⟩ := by decide +kernel
theorem pd_4 : parseMethodDescriptor "()B" = some ⟨[], some .byte⟩ := by decide +kernel
theorem pd_5 : parseMethodDescriptor "(I)C" = some ⟨[.int], some .char⟩ := by decide +kernel
theorem pd_6 : parseMethodDescriptor "()Z" = some ⟨[], some .boolean⟩ := by decide +kernel
theorem pd_7 : parseMethodDescriptor "([BI)C" = some ⟨[(.array .byte), .int], some .char⟩ := by decide +kernel
theorem pd_8 : parseMethodDescriptor "(II)V" = some ⟨[.int, .int], none⟩ := by decide +kernel
theorem pd_9 : parseMethodDescriptor "(IILjava/util/function/BiFunction;)I" = some ⟨[.int, .int, (.object "java/util/function/BiFunction")], some .int⟩ := by decide +kernel
theorem pd_10 : parseMethodDescriptor "([C)V" = some ⟨[(.array .char)], none⟩ := by decide +kernel
theorem pd_11 : parseMethodDescriptor "([CIILjava/lang/Void;)V" = some ⟨[(.array .char), .int, .int, (.object "java/lang/Void")], none⟩ := by decide +kernel
theorem pd_12 : parseMethodDescriptor "()V" = some ⟨[], none⟩ := by decide +kernel
theorem pd_13 : parseMethodDescriptor "([CII)[B" = some ⟨[(.array .char), .int, .int], some (.array .byte)⟩ := by decide +kernel
theorem pd_14 : parseMethodDescriptor "([CI[BII)I" = some ⟨[(.array .char), .int, (.array .byte), .int, .int], some .int⟩ := by decide +kernel
theorem pd_15 : parseMethodDescriptor "([BI)B" = some ⟨[(.array .byte), .int], some .byte⟩ := by decide +kernel
theorem pd_16 : parseMethodDescriptor "(Ljava/lang/String;Z)Lcom/example/killdeer/killdeer/EndingStatements$Place;" = some ⟨[(.object "java/lang/String"), .boolean], some (.object "com/example/killdeer/killdeer/EndingStatements$Place")⟩ := by decide +kernel
theorem pd_17 : parseMethodDescriptor "(Ljava/lang/String;Z)V" = some ⟨[(.object "java/lang/String"), .boolean], none⟩ := by decide +kernel
theorem pd_18 : parseMethodDescriptor "(C)Z" = some ⟨[.char], some .boolean⟩ := by decide +kernel
theorem pd_19 : parseMethodDescriptor "(Ljava/lang/String;I)Z" = some ⟨[(.object "java/lang/String"), .int], some .boolean⟩ := by decide +kernel
theorem pd_20 : parseMethodDescriptor "([BI[BII)I" = some ⟨[(.array .byte), .int, (.array .byte), .int, .int], some .int⟩ := by decide +kernel
theorem pd_21 : parseMethodDescriptor "(C)C" = some ⟨[.char], some .char⟩ := by decide +kernel
theorem pd_22 : parseMethodDescriptor "(Lcom/example/killdeer/killdeer/EndingStatements$Token;I)V" = some ⟨[(.object "com/example/killdeer/killdeer/EndingStatements$Token"), .int], none⟩ := by decide +kernel
theorem pd_23 : parseMethodDescriptor "(IILjava/lang/String;)Z" = some ⟨[.int, .int, (.object "java/lang/String")], some .boolean⟩ := by decide +kernel
theorem pd_24 : parseMethodDescriptor "(ILjava/lang/String;)Z" = some ⟨[.int, (.object "java/lang/String")], some .boolean⟩ := by decide +kernel
theorem pd_25 : parseMethodDescriptor "(II)I" = some ⟨[.int, .int], some .int⟩ := by decide +kernel
theorem pd_26 : parseMethodDescriptor "(I)I" = some ⟨[.int], some .int⟩ := by decide +kernel
theorem pd_27 : parseMethodDescriptor "([II)V" = some ⟨[(.array .int), .int], none⟩ := by decide +kernel
theorem pd_28 : parseMethodDescriptor "([I)Z" = some ⟨[(.array .int)], some .boolean⟩ := by decide +kernel
theorem pd_29 : parseMethodDescriptor "(IZ)I" = some ⟨[.int, .boolean], some .int⟩ := by decide +kernel
theorem pd_30 : parseMethodDescriptor "(II)Ljava/lang/String;" = some ⟨[.int, .int], some (.object "java/lang/String")⟩ := by decide +kernel
theorem pd_31 : parseMethodDescriptor "(III)V" = some ⟨[.int, .int, .int], none⟩ := by decide +kernel
theorem pd_32 : parseMethodDescriptor "(IIILjava/util/function/BiFunction;)I" = some ⟨[.int, .int, .int, (.object "java/util/function/BiFunction")], some .int⟩ := by decide +kernel
theorem pd_33 : parseMethodDescriptor "([BII)Ljava/lang/String;" = some ⟨[(.array .byte), .int, .int], some (.object "java/lang/String")⟩ := by decide +kernel
theorem pd_34 : parseMethodDescriptor "([BII)[B" = some ⟨[(.array .byte), .int, .int], some (.array .byte)⟩ := by decide +kernel
theorem pd_36 : parseMethodDescriptor "([BB)V" = some ⟨[(.array .byte), .byte], none⟩ := by decide +kernel
theorem pd_37 : parseMethodDescriptor "(Ljava/lang/String;I)I" = some ⟨[(.object "java/lang/String"), .int], some .int⟩ := by decide +kernel
theorem pd_38 : parseMethodDescriptor "([BBILjava/lang/String;I)I" = some ⟨[(.array .byte), .byte, .int, (.object "java/lang/String"), .int], some .int⟩ := by decide +kernel
theorem pd_39 : parseMethodDescriptor "(JII)I" = some ⟨[.long, .int, .int], some .int⟩ := by decide +kernel
theorem pd_40 : parseMethodDescriptor "(JJ)J" = some ⟨[.long, .long], some .long⟩ := by decide +kernel
def EL1 : List (String × Nat) := [("com/example/killdeer/killdeer/EndingStatements", 78), ("com/example/killdeer/killdeer/EndingStatements", 87), ("com/example/killdeer/killdeer/EndingStatements", 145), ("com/example/killdeer/killdeer/EndingStatements", 158), ("com/example/killdeer/killdeer/EndingStatements", 164), ("com/example/killdeer/killdeer/EndingStatements", 166), ("com/example/killdeer/killdeer/EndingStatements", 168), ("com/example/killdeer/killdeer/EndingStatements", 170), ("com/example/killdeer/killdeer/EndingStatements", 172), ("com/example/killdeer/killdeer/EndingStatements", 174), ("com/example/killdeer/killdeer/EndingStatements", 176), ("com/example/killdeer/killdeer/EndingStatements", 178), ("com/example/killdeer/killdeer/EndingStatements", 194), ("com/example/killdeer/killdeer/EndingStatementsOfPinLaw", 59), ("com/example/killdeer/killdeer/EndingStatementsOfPinLaw", 61), ("com/example/killdeer/killdeer/EndingStatementsOfPinLaw", 63), ("com/example/killdeer/killdeer/EndingStatementsOfPinLaw", 65), ("com/example/killdeer/killdeer/EndingStatementsOfPinLaw", 67), ("com/example/killdeer/killdeer/EndingStatementsOfPinLaw", 69), ("com/example/killdeer/killdeer/EndingStatementsOfPinLaw", 71), ("com/example/killdeer/killdeer/EndingStatementsOfPinLaw", 73), ("com/example/killdeer/killdeer/EndingStatementsOfPinLaw", 75), ("com/example/killdeer/killdeer/EndingStatementsOfPinLaw", 77), ("com/example/killdeer/killdeer/EndingStatementsOfPinLaw", 79), ("com/example/killdeer/killdeer/EndingStatementsOfPinLaw", 81), ("com/example/killdeer/killdeer/EndingStatementsOfPinLaw", 83), ("com/example/killdeer/killdeer/EndingStatementsOfPinLaw", 85), ("com/example/killdeer/killdeer/EndingStatementsOfPinLaw", 87), ("com/example/killdeer/killdeer/EndingStatementsOfPinLaw", 89), ("com/example/killdeer/killdeer/EndingStatementsOfPinLaw", 91), ("com/example/killdeer/killdeer/EndingStatementsOfPinLaw", 93), ("com/example/killdeer/killdeer/EndingStatementsOfPinLaw", 95), ("com/example/killdeer/killdeer/EndingStatementsOfPinLaw", 97), ("com/example/killdeer/killdeer/EndingStatementsOfPinLaw", 99), ("com/example/killdeer/killdeer/EndingStatementsOfPinLaw", 101), ("com/example/killdeer/killdeer/EndingStatementsOfPinLaw", 103), ("com/example/killdeer/killdeer/EndingStatementsOfPinLaw", 105)]
section ZKitH
variable {l : Launch} {L : Array Slot} {Z : State}
/-- a contract under the held constants -/
abbrev MH (l : Launch) (Z : State) (y : MethodName) (bytes : ByteArray) (maxL : Nat) (ret : Option FieldType) (ws : List Jvm.Cond) (rm : Room) (as' : Array Value) (h0 : Heap) (Q : Option Value → Heap → List Loc → Prop) : Prop := MetFree l y (head1 (Jvm.Cond.code y bytes maxL ret :: ws) rm) (fun aa_ U_ => aa_ = as' ∧ Z.Warmed39 U_.vm ∧ U_.heap = h0 ∧ CHv Z EL1 U_.vm h0) (fun _ _ _ _ _ => True) (fun _ U_ o_ V_ => ∃ v_ L_, o_ = .returned v_ ∧ Q v_ V_.heap L_ ∧ CHr Z EL1 U_.vm U_.heap V_.vm V_.heap ∧ ReturnedEndW U_ o_ V_ L_ rm.cells rm.slots)
theorem zBodyH {y : MethodName} {bytes : ByteArray} {maxL : Nat} {ret : Option FieldType} {ws : List Jvm.Cond} {rm : Room} {as' : Array Value} {h0 : Heap} {Q : Option Value → Heap → List Loc → Prop} (hp : plainName y.cls = true) (ef : ∀ m, entryFrame m as' maxL = mkF m 0 L [])
    (H : ∀ p e s m below meth c s₁, BodyLoose p l y (head1 (Jvm.Cond.code y bytes maxL ret :: ws) rm) bytes maxL ret e s m as' below meth c s₁ → p.tables.exec = Jvm.exec → c.code = bytes → c.maxLocals = maxL → s.vm.findClass y.cls = some m.cls → Z.Warmed39 s.vm → s.heap = h0 → Stand p l e rm s m as' below meth c s₁ [] 0 0 → s₁.heap = h0 → (∀ zz, Steps p.tables e below (s₁.setTop (mkF m 0 L [])) zz → Steps p.tables e below (s₁.setTop (entryFrame m as' maxL)) zz) → CHv Z EL1 s.vm h0 →
      ∃ s₂ o, Steps p.tables e below (s₁.setTop (entryFrame m as' maxL)) s₂ ∧ s₂.status = .running ∧ Ended s₂ below o ∧ ∃ v_ L_, o = .returned v_ ∧ Q v_ s₂.heap L_ ∧ CHr Z EL1 s.vm s.heap s₂.vm s₂.heap ∧ ReturnedEndW s o s₂ L_ rm.cells rm.slots) : MH l Z y bytes maxL ret ws rm as' h0 Q := by
  refine MetFree.of_bodySF (plainFor_of_name hp) hisR ?_
  intro p e s m args below meth c s₁ Bd hml0 hP hK
  obtain ⟨rfl, hZ, hh, CH0⟩ := hP
  exact H p e s m below meth c s₁ Bd Bd.exec Bd.bytes hml0 (findClass_of_methodNamed Bd.named) hZ hh (Stand.of_body Bd) (by rw [← hh, Bd.state]; rfl) (fun zz kz => castTop (ef m) kz) CH0
/-- the end of a body under the held constants -/
theorem zLw {p : Program} {e : Env} {s : State} {m : MethodId} {args : Array Value} {below : List Frame} {meth : Method} {c : Code} {T : State} {locs : List Loc} {a0 : Array Value} {y : MethodName} {S' : Spec} {bytes : ByteArray} {maxL k n k0 : Nat} {ret : Option FieldType} {rm : Room} {s₁ start : State} {h0 h : Heap} {vm₁ : Vm} {Q : Option Value → Heap → List Loc → Prop} {v : Option Value} (Bd : BodyLoose p l y S' bytes maxL ret e s m args below meth c s₁) (X : Stand p l e rm (s.setVm vm₁) m args below meth c T locs k n) (hS : s.Since vm₁ k0) (hk0 : k0 ≤ T.heap.size) (hZ : Z.Warmed39 vm₁) (hEL : EW Z a0 EL1) (hh : s.heap = h0) (eT : T.heap = h) (CR : CHr Z EL1 s.vm h0 vm₁ h) (hk : k ≤ rm.cells ∧ n ≤ rm.slots) (hv : ret = none → v = none)
    (K : ∀ fs, (∀ (f : JFrame) (acts : List Action), f.method = m → f.locked = none → f.entered = [] → (doReturn e (T.setTop f) acts v).1 = T.setFrames fs) → Steps p.tables e below start (T.setFrames fs)) (hq : Q v T.heap locs) : ∃ s₂ o, Steps p.tables e below start s₂ ∧ s₂.status = .running ∧ Ended s₂ below o ∧ ∃ v_ L_, o = .returned v_ ∧ Q v_ s₂.heap L_ ∧ CHr Z EL1 s.vm s.heap s₂.vm s₂.heap ∧ ReturnedEndW s o s₂ L_ rm.cells rm.slots := by
  obtain ⟨fs, hr, hrun, hended, -, hWW, hBB, hSS⟩ := Stand.leaveW (s := s) (vm₁ := vm₁) X hS hk0 (v := v) (fun h => hv (Bd.returns.symm.trans h))
  refine ⟨_, _, K fs hr, hrun, hended, _, _, rfl, hq, ?_, ⟨_, rfl⟩, hWW, hBB, hSS.mono hk.1 hk.2⟩
  have q := CR.trans (CHv.at (s := s) (vm0 := vm₁) X hZ hEL CR.1)
  rw [hh]
  show CHr Z EL1 s.vm h0 T.vm T.heap
  rw [eT]
  exact q
end ZKitH
def D17 : List (Nat × Instr × Nat) := [(0, .iconst 0, 1), (1, .istore 5, 2), (3, .iload 5, 2), (5, .iload 4, 2), (7, .if_icmp .ge 37, 3), (10, .aload_n 0, 1), (11, .iload_n 1, 1), (12, .caload, 1), (13, .istore 6, 2), (15, .iload 6, 2), (17, .sipush 255, 3), (20, .if_icmp .le 6, 3), (26, .aload_n 2, 1), (27, .iload_n 3, 1), (28, .iload 6, 2), (30, .i2b, 1), (31, .bastore, 1), (32, .iinc 1 1, 3), (35, .iinc 3 1, 3), (38, .iinc 5 1, 3), (41, .goto (-38), 3), (44, .iload 4, 2), (46, .ireturn, 1)]
theorem d17 : ∀ x ∈ D17, decode jdk_52_method_21_code x.1 = .ok x.2 := by decide +kernel
theorem pn_17 : plainName "java/lang/StringUTF16" = true := by first | (simp [plainName, overriddenIn]; done) | decide +kernel
theorem ef_17 (m : MethodId) (x0 : Addr) (x1 : Int32) (x2 : Addr) (x3 : Int32) (x4 : Int32) : entryFrame m #[(.ref x0), (.int x1), (.ref x2), (.int x3), (.int x4)] 7 = mkF m 0 #[.val (.ref x0), .val (.int x1), .val (.ref x2), .val (.int x3), .val (.int x4), .unset, .unset] [] := by first | (simp [entryFrame, mkF, argsToLocals, Value.category]; done) | rfl
theorem tnC5 {p : Program} {l : Launch} {e : Env} {R : Room} {s : State} {m : MethodId} {args : Array Value} {below : List Frame} {meth : Method} {c : Code} {T0 : State} {locs : List Loc} {cells slots : Nat} {Z : State} {a0 : Array Value} {h0 : Heap} {n0 : Nat} (a b : Addr) (i n : Nat) (g : Nat → Int32) (f : Nat → Value) (q : Slot) (hq : q = .unset ∨ ∃ x : Int32, q = .val (.int x)) (X0 : Stand p l e R s m args below meth c T0 locs cells slots) (hx : p.tables.exec = Jvm.exec) (hZ : Z.Warmed39 s.vm) (hw : HW Z a0) (hby : c.code = jdk_52_method_21_code) (hown : s.vm.findClass "java/lang/StringUTF16" = some m.cls) (e0 : T0.heap = h0) (Z0 : n0 ≤ h0.size) (N0 : Fr n0 locs) (hn : n ≤ 56) (hi : i < n) (FA : AF Z h0 a .char n (Ca g)) (FB : AF Z h0 b .byte n f) (hab : a ≠ b) (g_b : n0 ≤ b) (hsm : ¬ ((255 : Int32) < g i)) :
    ∃ (T' : State) (locs' : List Loc), Stand p l e R s m args below meth c T' locs' cells slots ∧ Fr n0 locs' ∧ Keep h0 T'.heap [b] ∧ AF Z T'.heap b .byte n (upd f i (.int (b8 (g i)))) ∧ ∀ target, Steps p.tables e below (T'.setTop (mkF m 3 #[vR a, vI (iN (i + 1)), vR b, vI (iN (i + 1)), vI (iN n), vI (iN (i + 1)), vI (g i)] [])) target → Steps p.tables e below (T0.setTop (mkF m 3 #[vR a, vI (iN i), vR b, vI (iN i), vI (iN n), vI (iN i), q] [])) target := by
  have hD := dk hby d17
  obtain ⟨T1, h1, X1, e1, W1, st1⟩ := stBy X0 hx hZ e0 FB (i := i) hi (by omega) (x := ((g i).toInt8.toInt32)) (g := (mkF m 31 #[vR a, vI (iN i), vR b, vI (iN i), vI (iN n), vI (iN i), vI (g i)] [(.int ((g i).toInt8.toInt32)), (.int (iN i)), (.ref b)])) rfl rfl (hD 16 rfl)
  have A1 := FB.wr W1
  have FA_e1 := FA.other W1 hab
  have N1 := Fr.snoc X1 N0 g_b
  have K1 := (Keep.refl h0 [b]).wr W1 (Or.inl (List.mem_of_getElem? (i := 0) rfl))
  have Z1 := Nat.le_trans Z0 (Keep.of_wr W1).1
  refine ⟨_, _, X1, N1, by rw [e1]; exact K1, by rw [e1]; exact A1, fun target kt => ?_⟩
  refine zl X0 hx (hD 2 rfl) rfl ?_
  refine zl X0 hx (hD 3 rfl) rfl ?_
  refine zN X0 hx (hD 4 rfl) (tlt ((ltN (by omega) (by omega)).mpr hi)).2.1 ?_
  refine zA X0 hx (hD 5 rfl) rfl rfl ?_
  refine zL X0 hx (hD 6 rfl) rfl ?_
  refine ldCh X0 hx hZ e0 FA (i := i) hi (by omega) (v := (.int (g i))) rfl (g := (mkF m 12 #[vR a, vI (iN i), vR b, vI (iN i), vI (iN n), vI (iN i), q] [(.int (iN i)), (.ref a)])) rfl rfl (hD 7 rfl) ?_
  refine zs X0 hx (hD 8 rfl) (L' := #[vR a, vI (iN i), vR b, vI (iN i), vI (iN n), vI (iN i), vI (g i)]) (by rcases hq with rfl | ⟨_, rfl⟩ <;> rfl) ?_
  refine zl X0 hx (hD 9 rfl) rfl ?_
  refine XS.sipush X0.here hx rfl (hD 10 rfl) ?_
  refine zM X0 hx 26 (hD 11 rfl) (flt hsm).2.2.2 rfl ?_
  refine zA X0 hx (hD 12 rfl) rfl rfl ?_
  refine zL X0 hx (hD 13 rfl) rfl ?_
  refine zl X0 hx (hD 14 rfl) rfl ?_
  refine XS.i2b X0.here hx rfl (hD 15 rfl) rfl ?_
  refine st1 _ ?_
  refine XS.iinc X1.here hx rfl (hD 17 rfl) rfl (l' := #[vR a, vI ((iN i) + (1 : Int32)), vR b, vI (iN i), vI (iN n), vI (iN i), vI (g i)]) rfl ?_
  refine XS.iinc X1.here hx rfl (hD 18 rfl) rfl (l' := #[vR a, vI ((iN i) + (1 : Int32)), vR b, vI ((iN i) + (1 : Int32)), vI (iN n), vI (iN i), vI (g i)]) rfl ?_
  refine XS.iinc X1.here hx rfl (hD 19 rfl) rfl (l' := #[vR a, vI ((iN i) + (1 : Int32)), vR b, vI ((iN i) + (1 : Int32)), vI (iN n), vI ((iN i) + (1 : Int32)), vI (g i)]) rfl ?_
  show Steps p.tables e below (T1.setTop (mkF m 41 #[vR a, vI ((iN i) + (1 : Int32)), vR b, vI ((iN i) + (1 : Int32)), vI (iN n), vI ((iN i) + (1 : Int32)), vI (g i)] [])) _
  rw [show ((iN i) + (1 : Int32)) = (iN (i + 1)) from succN i]
  refine zG X1 hx 3 (hD 20 rfl) rfl ?_
  exact kt
theorem exC5 {p : Program} {l : Launch} {e : Env} {R : Room} {s : State} {m : MethodId} {args : Array Value} {below : List Frame} {meth : Method} {c : Code} {T0 : State} {locs : List Loc} {cells slots : Nat} {Z : State} {a0 : Array Value} (a b : Addr) (i n : Nat) (q : Slot) (X0 : Stand p l e R s m args below meth c T0 locs cells slots) (hx : p.tables.exec = Jvm.exec) (hZ : Z.Warmed39 s.vm) (hw : HW Z a0) (hby : c.code = jdk_52_method_21_code) (hown : s.vm.findClass "java/lang/StringUTF16" = some m.cls)  (hc7 : ¬ ((iN i) < (iN n))) {target : State}
    (kt : Steps p.tables e below (T0.setTop (mkF m 44 #[vR a, vI (iN i), vR b, vI (iN i), vI (iN n), vI (iN i), q] [])) target) : Steps p.tables e below (T0.setTop (mkF m 3 #[vR a, vI (iN i), vR b, vI (iN i), vI (iN n), vI (iN i), q] [])) target := by
  have hD := dk hby d17
  show Steps p.tables e below (T0.setTop (mkF m 3 #[vR a, vI (iN i), vR b, vI (iN i), vI (iN n), vI (iN i), q] [])) _
  refine zl X0 hx (hD 2 rfl) rfl ?_
  refine zl X0 hx (hD 3 rfl) rfl ?_
  refine zM X0 hx 44 (hD 4 rfl) (flt hc7).2.1 rfl ?_
  exact kt
theorem lpC5 {p : Program} {l : Launch} {e : Env} {R : Room} {s : State} {m : MethodId} {args : Array Value} {below : List Frame} {meth : Method} {c : Code} {cells slots : Nat} {Z : State} {a0 : Array Value} {n0 : Nat} (a b : Addr) (n N : Nat) (g : Nat → Int32) (hx : p.tables.exec = Jvm.exec) (hZ : Z.Warmed39 s.vm) (hw : HW Z a0) (hby : c.code = jdk_52_method_21_code) (hown : s.vm.findClass "java/lang/StringUTF16" = some m.cls) (hn : n ≤ 56) (hab : a ≠ b) (g_b : n0 ≤ b) (hN : N ≤ n) (hsm : ∀ j, j < N → ¬ ((255 : Int32) < g j)) :
    ∀ (k i : Nat) (f : Nat → Value) (q : Slot) (T0 : State) (locs : List Loc), (q = .unset ∨ ∃ x : Int32, q = .val (.int x)) → i + k = N → Stand p l e R s m args below meth c T0 locs cells slots → n0 ≤ T0.heap.size → Fr n0 locs → AF Z T0.heap a .char n (Ca g) → AF Z T0.heap b .byte n f → (∀ j, j < i → f j = Lb g j) →
    ∃ (T' : State) (locs' : List Loc) (f' : Nat → Value) (q' : Slot), (q' = .unset ∨ ∃ x : Int32, q' = .val (.int x)) ∧ Stand p l e R s m args below meth c T' locs' cells slots ∧ Fr n0 locs' ∧ Keep T0.heap T'.heap [b] ∧ AF Z T'.heap b .byte n f' ∧ (∀ j, j < N → f' j = Lb g j) ∧ ∀ target, Steps p.tables e below (T'.setTop (mkF m 3 #[vR a, vI (iN N), vR b, vI (iN N), vI (iN n), vI (iN N), q'] [])) target → Steps p.tables e below (T0.setTop (mkF m 3 #[vR a, vI (iN i), vR b, vI (iN i), vI (iN n), vI (iN i), q] [])) target := by
  intro k
  induction k with
  | zero =>
    intro i f q T0 locs hq hk X0 Z0 N0 FA FB hf
    obtain rfl : i = N := by omega
    exact ⟨T0, locs, f, q, hq, X0, N0, Keep.refl _ _, FB, hf, fun target kt => kt⟩
  | succ k ih =>
    intro i f q T0 locs hq hk X0 Z0 N0 FA FB hf
    obtain ⟨T1, locs1, X1, N1, K1, A1, st1⟩ := tnC5 a b i n g f q hq X0 hx hZ hw hby hown rfl Z0 N0 hn (by omega) FA FB hab g_b (hsm i (by omega))
    obtain ⟨T2, locs2, f2, q2, hq2, X2, N2, K2, A2, hf2, st2⟩ := ih (i + 1) _ _ T1 locs1 (Or.inr ⟨_, rfl⟩) (by omega) X1 (Nat.le_trans Z0 K1.1) N1 (FA.keep K1 (notin1 hab)) A1 (fun j hj => by
      unfold upd
      by_cases q1 : j = i
      · rw [if_pos q1, q1]; rfl
      · rw [if_neg q1]; exact hf j (by omega))
    exact ⟨T2, locs2, f2, q2, hq2, X2, N2, K1.trans K2 (fun x r => Or.inl r), A2, hf2, fun target kt => st1 target (st2 target kt)⟩
theorem rmC5A (hw : HW Z a0) (ws : List Jvm.Cond) (a b : Addr) (n : Nat) (g : Nat → Int32) (f : Nat → Value)  (h0 : Heap) (n0 : Nat) (Z0 : n0 ≤ h0.size) (hn : n ≤ 56) (FA : AF Z h0 a .char n (Ca g)) (FB : AF Z h0 b .byte n f) (hab : a ≠ b) (g_b : n0 ≤ b) (hsm : ∀ j, j < n → ¬ ((255 : Int32) < g j))  :
    MF l Z (⟨"java/lang/StringUTF16", "compress", "([CI[BII)I"⟩ : MethodName) jdk_52_method_21_code 7 (some .int) ws (rM 0 0 0 0) #[(.ref a), (.int 0), (.ref b), (.int 0), (.int (iN n))] h0 (QR Z (iN n) b .byte n (fun f' => ∀ j, j < n → f' j = Lb g j) h0 n0) := by
  refine zBody pn_17 (fun m => ef_17 m a (0 : Int32) b (0 : Int32) (iN n)) ?_
  intro p e s m below meth c s₁ Bd hx hby hml hown hZ hh X0 e0 pre0
  have hD := dk hby d17
  have N0 := Fr.nil n0
  have Z0' : n0 ≤ s₁.heap.size := by rw [e0]; exact Z0
  obtain ⟨T2, L2, f2, q2, hq2, X2, N2, Kl2, A2, hf2, st2⟩ := lpC5 a b n n g hx hZ hw hby hown hn hab g_b (by omega) hsm n 0 f .unset _ _ (Or.inl rfl) (by omega) X0 Z0' N0 (by rw [e0]; exact FA) (by rw [e0]; exact FB) (fun j hj => absurd hj (by omega))
  refine zLv Bd X2 (v := some (.int (iN n))) (by decide) nofun (fun fs hr => pre0 _ ?_) (by exact ⟨rfl, N2, by have q := Kl2; rw [e0] at q; exact q, f2, A2, hf2⟩)
  refine zC X0 hx (hD 0 rfl) ?_
  refine zs X0 hx (hD 1 rfl) rfl ?_
  show Steps p.tables e below (s₁.setTop (mkF m 3 #[vR a, vI (iN 0), vR b, vI (iN 0), vI (iN n), vI (iN 0), .unset] [])) _
  refine st2 _ ?_
  refine exC5 a b n n q2 X2 hx hZ hw hby hown (fun q => absurd ((ltN (by omega) (by omega)).mp q) (Nat.lt_irrefl _)) ?_
  refine zl X2 hx (hD 21 rfl) rfl ?_
  exact retI X2 hx Bd.returns (hD 22 rfl) hr
def D16 : List (Nat × Instr × Nat) := [(0, .iload_n 2, 1), (1, .newarray .byte, 2), (3, .astore_n 3, 1), (4, .aload_n 0, 1), (5, .iload_n 1, 1), (6, .aload_n 3, 1), (7, .iconst 0, 1), (8, .iload_n 2, 1), (9, .invokestatic 115, 3), (12, .istore 4, 2), (14, .iload 4, 2), (16, .iload_n 2, 1), (17, .if_icmp .eq 40, 3), (57, .aload_n 3, 1), (58, .areturn, 1)]
theorem d16 : ∀ x ∈ D16, decode jdk_52_method_16_code x.1 = .ok x.2 := by decide +kernel
theorem pn_16 : plainName "java/lang/StringUTF16" = true := by first | (simp [plainName, overriddenIn]; done) | decide +kernel
theorem ef_16 (m : MethodId) (x0 : Addr) (x1 : Int32) (x2 : Int32) : entryFrame m #[(.ref x0), (.int x1), (.int x2)] 6 = mkF m 0 #[.val (.ref x0), .val (.int x1), .val (.int x2), .unset, .unset, .unset] [] := by first | (simp [entryFrame, mkF, argsToLocals, Value.category]; done) | rfl
theorem rmC3A (hw : HW Z a0) (ws : List Jvm.Cond) (a : Addr) (n : Nat) (g : Nat → Int32)  (h0 : Heap) (n0 : Nat) (Z0 : n0 ≤ h0.size) (hn : n ≤ 56) (O : Old Z n0 h0) (SK : StrSta Z) (FA : AF Z h0 a .char n (Ca g)) (hsm : ∀ j, j < n → ¬ ((255 : Int32) < g j))  :
    MF l Z (⟨"java/lang/StringUTF16", "compress", "([CII)[B"⟩ : MethodName) jdk_52_method_16_code 6 (some (.array .byte)) ws (rM 3 60 2 168) #[(.ref a), (.int 0), (.int (iN n))] h0 (QA Z .byte n (Lb g) h0 n0) := by
  refine zBody pn_16 (fun m => ef_16 m a (0 : Int32) (iN n)) ?_
  intro p e s m below meth c s₁ Bd hx hby hml hown hZ hh X0 e0 pre0
  have hD := dk hby d16
  have N0 := Fr.nil n0
  obtain ⟨T3, h3, X3, e3, E3, A3, st3⟩ := nwA X0 hx hZ (hwi hw 11 rfl) e0 (g := (mkF m 1 #[vR a, vI 0, vI (iN n), .unset, .unset, .unset] [(.int (iN n))])) rfl (hD 1 rfl) (n := n) rfl (cap := 56) (by omega) (by decide) (by decide) (by decide)
  obtain ⟨b3, q3⟩ : ∃ z, z = h0.size := ⟨_, rfl⟩
  rw [← q3] at A3 st3
  have V3 : AF Z h3 b3 .byte n (fun _ => (.int 0)) := A3
  have g_b3 : n0 ≤ b3 := Nat.le_trans Z0 (Nat.le_of_eq q3.symm)
  have sz_b3 : h0.size ≤ b3 := Nat.le_trans (Keep.refl h0 []).1 (Nat.le_of_eq q3.symm)
  have K3 := (Keep.refl h0 []).ext E3
  have Z3 := Nat.le_trans Z0 E3.1
  have ne_a_b3 : a ≠ b3 := Nat.ne_of_lt (Nat.lt_of_lt_of_le FA.lt (Nat.le_of_eq q3.symm))
  have FA_e3 := FA.ext E3
  have O3 := O.ext E3
  obtain ⟨_, _, ⟨T4, L4, k4, n4⟩, -, X4, ⟨Lc4, hQ4, l4, y4, z4⟩, st4⟩ := Jvm.LawKit.callS X3 hx (y := (⟨"java/lang/StringUTF16", "compress", "([CI[BII)I"⟩ : MethodName)) hown (mvT hZ (hwi hw 80 rfl)) (mvT hZ (hwi hw 81 rfl)) (mvT hZ (hwi hw 78 rfl)) (mvT hZ (hwi hw 82 rfl)) (by decide) (backOf (W := 0) (rmC5A l Z a0 hw [] a b3 n g (fun _ => (.int 0)) h3 n0 Z3 hn  FA_e3 V3 ne_a_b3 g_b3 hsm) hZ (hwi hw 82 rfl) (hwi hw 78 rfl) (by decide) (by decide)) (g := (mkF m 9 #[vR a, vI 0, vI (iN n), vR b3, .unset, .unset] [(.int (iN n)), (.int 0), (.ref b3), (.int 0), (.ref a)])) rfl (by rw [hml]; rfl) (argsL := [(.ref a), (.int 0), (.ref b3), (.int 0), (.int (iN n))]) (rest := []) (lenOf pd_14 rfl) rfl (by show 2 * 0 + _ ≤ _; exact Nat.le_of_eq rfl) (hD 8 rfl) (fun _ _ => ⟨rfl, e3, (by decide : 1 + 0 ≤ _), (by decide : 56 + 0 ≤ _)⟩)
  dsimp only [Pt.U, Pt.locs, Pt.cells, Pt.slots] at X4 l4 y4 z4 st4 hQ4
  obtain rfl : k4 = 1 := y4; obtain rfl : n4 = 56 := z4
  obtain ⟨rfl, N4q, K4, f4, A4, hf4⟩ := hQ4
  have N4 : Fr n0 L4 := by rw [l4]; exact Fr.app N0 N4q
  have FA_e4 := FA_e3.keep K4 (notin1 ne_a_b3)
  have KK4 := K3.trans K4 (fun x r => by cases List.mem_singleton.mp r; exact (Or.inr sz_b3))
  have Z4 := Nat.le_trans Z3 K4.1
  have O4 := O3.keep K4 (all1 g_b3)
  refine zLv Bd X4 (v := some (.ref b3)) (by decide) nofun (fun fs hr => pre0 _ ?_) ⟨b3, rfl, N4, KK4, sz_b3, A4.congr hf4⟩
  refine zL X0 hx (hD 0 rfl) rfl ?_
  refine st3 _ ?_
  refine XS.astoreN X3.here hx rfl (hD 2 rfl) rfl rfl (l' := #[vR a, vI 0, vI (iN n), vR b3, .unset, .unset]) rfl ?_
  refine zA X3 hx (hD 3 rfl) rfl rfl ?_
  refine zL X3 hx (hD 4 rfl) rfl ?_
  refine zA X3 hx (hD 5 rfl) rfl rfl ?_
  refine zC X3 hx (hD 6 rfl) ?_
  refine zL X3 hx (hD 7 rfl) rfl ?_
  refine st4 _ ?_
  refine zs X4 hx (hD 9 rfl) rfl ?_
  refine zl X4 hx (hD 10 rfl) rfl ?_
  refine zL X4 hx (hD 11 rfl) rfl ?_
  refine zM X4 hx 57 (hD 12 rfl) (teq (rfl : (iN n) = (iN n))).1 rfl ?_
  refine zA X4 hx (hD 13 rfl) rfl rfl ?_
  show Steps p.tables e below (T4.setTop (mkF m 58 #[vR a, vI 0, vI (iN n), vR b3, vI (iN n), .unset] [(.ref b3)])) _
  jvm_step X4.here [X4.here.top, hx, (hD 14 rfl), X4.method', Bd.returns, Value.isRef, FieldType.isReference]
  first | (intro acts; rw [hr _ acts rfl rfl rfl]) | rw [hr _ _ rfl rfl rfl]
  exact Steps.refl _
def D18 : List (Nat × Instr × Nat) := [(0, .iload_n 1, 1), (1, .aload_n 0, 1), (2, .arraylength, 1), (3, .isub, 1), (4, .bipush 31, 2), (6, .iushr, 1), (7, .i2b, 1), (8, .ireturn, 1)]
theorem d18 : ∀ x ∈ D18, decode jdk_52_method_15_code x.1 = .ok x.2 := by decide +kernel
theorem pn_18 : plainName "java/lang/StringUTF16" = true := by first | (simp [plainName, overriddenIn]; done) | decide +kernel
theorem ef_18 (m : MethodId) (x0 : Addr) (x1 : Int32) : entryFrame m #[(.ref x0), (.int x1)] 2 = mkF m 0 #[.val (.ref x0), .val (.int x1)] [] := by first | (simp [entryFrame, mkF, argsToLocals, Value.category]; done) | rfl
theorem rmCOA (hw : HW Z a0) (ws : List Jvm.Cond) (b : Addr) (n : Nat) (f : Nat → Value)  (h0 : Heap) (n0 : Nat) (Z0 : n0 ≤ h0.size) (hn : n ≤ 56)  (FB : AF Z h0 b .byte n f)  :
    MF l Z (⟨"java/lang/StringUTF16", "coderFromArrayLen", "([BI)B"⟩ : MethodName) jdk_52_method_15_code 2 (some .byte) ws (rM 0 0 0 0) #[(.ref b), (.int (iN n))] h0 (QI (0 : Int32) h0 n0) := by
  refine zBody pn_18 (fun m => ef_18 m b (iN n)) ?_
  intro p e s m below meth c s₁ Bd hx hby hml hown hZ hh X0 e0 pre0
  have hD := dk hby d18
  have N0 := Fr.nil n0
  refine zLv Bd X0 (v := some (.int 0)) (by decide) nofun (fun fs hr => pre0 _ ?_) (by rw [e0]; exact ⟨rfl, N0, rfl⟩)
  refine zL X0 hx (hD 0 rfl) rfl ?_
  refine zA X0 hx (hD 1 rfl) rfl rfl ?_
  refine lenA X0 hx hZ e0 FB (g := (mkF m 2 #[vR b, vI (iN n)] [(.ref b), (.int (iN n))])) rfl rfl (hD 2 rfl) ?_
  refine XS.isub X0.here hx rfl (hD 3 rfl) rfl ?_
  refine zB X0 hx (hD 4 rfl) ?_
  refine XS.iushr X0.here hx rfl (hD 5 rfl) rfl ?_
  refine XS.i2b X0.here hx rfl (hD 6 rfl) rfl ?_
  show Steps p.tables e below (s₁.setTop (mkF m 8 #[vR b, vI (iN n)] [(.int (((((iN n) - (iN n)).toUInt32 >>> ((31 : Int32) &&& 31).toUInt32).toInt32).toInt8.toInt32))])) _
  rw [show (((((iN n) - (iN n)).toUInt32 >>> ((31 : Int32) &&& 31).toUInt32).toInt32).toInt8.toInt32) = (0 : Int32) from codA n]
  show Steps p.tables e below (s₁.setTop (mkF m 8 #[vR b, vI (iN n)] [(.int 0)])) _
  exact retN X0 hx (t := .byte) Bd.returns (by simp) (hD 7 rfl) hr
def D14 : List (Nat × Instr × Nat) := [(0, .aload_n 0, 1), (1, .invokespecial 1, 3), (4, .iload_n 3, 1), (5, .ifCond .ne 22, 3), (27, .getstatic 38, 3), (30, .ifCond .eq 28, 3), (33, .aload_n 1, 1), (34, .iload_n 2, 1), (35, .iload_n 3, 1), (36, .invokestatic 177, 3), (39, .astore 5, 2), (41, .aload_n 0, 1), (42, .aload 5, 2), (44, .iload_n 3, 1), (45, .invokestatic 47, 3), (48, .putfield 15, 3), (51, .aload_n 0, 1), (52, .aload 5, 2), (54, .putfield 9, 3), (57, .return_, 1)]
theorem d14 : ∀ x ∈ D14, decode jdk_42_method_149_code x.1 = .ok x.2 := by decide +kernel
theorem pn_14 : plainName "java/lang/String" = true := by first | (simp [plainName, overriddenIn]; done) | decide +kernel
theorem ef_14 (m : MethodId) (x0 : Addr) (x1 : Addr) (x2 : Int32) (x3 : Int32) : entryFrame m #[(.ref x0), (.ref x1), (.int x2), (.int x3), .null] 6 = mkF m 0 #[.val (.ref x0), .val (.ref x1), .val (.int x2), .val (.int x3), .val .null, .unset] [] := by first | (simp [entryFrame, mkF, argsToLocals, Value.category]; done) | rfl
theorem rmI4A (hw : HW Z a0) (ws : List Jvm.Cond) (o a : Addr) (n : Nat) (g : Nat → Int32)  (h0 : Heap) (n0 : Nat) (Z0 : n0 ≤ h0.size) (hn : n ≤ 56) (hp : 0 < n) (O : Old Z n0 h0) (SK : StrSta Z) (FA : AF Z h0 a .char n (Ca g)) (hch : ∀ j, j < n → isCh (g j)) (EO : Exa Z h0 o "java/lang/String") (FV : Fld Z h0 o "java/lang/String" "value" "[B" .null) (FC : Fld Z h0 o "java/lang/String" "coder" "B" (.int 0)) (g_o : n0 ≤ o) (hao : a ≠ o)  (hsm : ∀ j, j < n → ¬ ((255 : Int32) < g j))  :
    MF l Z (⟨"java/lang/String", "<init>", "([CIILjava/lang/Void;)V"⟩ : MethodName) jdk_42_method_149_code 6 none ws (rM 4 100 2 168) #[(.ref o), (.ref a), (.int 0), (.int (iN n)), .null] h0 (QS Z o n g h0 n0) := by
  refine zBody pn_14 (fun m => ef_14 m o a (0 : Int32) (iN n)) ?_
  intro p e s m below meth c s₁ Bd hx hby hml hown hZ hh X0 e0 pre0
  have hD := dk hby d14
  have N0 := Fr.nil n0
  have hnm := (name_of_methodNamed Bd.named Bd.method).1
  obtain ⟨kc, hkc, hcs⟩ := SK.1
  obtain ⟨T5, X5, e5, st5⟩ := initO X0 hx hZ hown (hwi hw 73 rfl) (hwi hw 74 rfl) (hwi hw 75 rfl) e0 (g := (mkF m 1 #[vR o, vR a, vI 0, vI (iN n), .val .null, .unset] [(.ref o)])) rfl (by rw [hml]; rfl) rfl (hD 1 rfl) (by decide) (W := 0) (by show 2 * 0 + _ ≤ _; exact Nat.le_of_eq rfl) (by decide)
  obtain ⟨T6, X6, e6, st6⟩ := getS2 X5 hx hZ hown (host := "") (Or.inl (hwi hw 30 rfl)) Via.refl e5 (Sta.ext O.2 hcs) (g := (mkF m 27 #[vR o, vR a, vI 0, vI (iN n), .val .null, .unset] [])) rfl (hD 4 rfl)
  obtain ⟨_, _, ⟨T7, L7, k7, n7⟩, -, X7, ⟨Lc7, hQ7, l7, y7, z7⟩, st7⟩ := Jvm.LawKit.callS X6 hx (y := (⟨"java/lang/StringUTF16", "compress", "([CII)[B"⟩ : MethodName)) hown (mvT hZ (hwi hw 76 rfl)) (mvT hZ (hwi hw 77 rfl)) (mvT hZ (hwi hw 78 rfl)) (mvT hZ (hwi hw 79 rfl)) (by decide) (backOf (W := 0) (rmC3A l Z a0 hw [] a n g h0 n0 Z0 hn O SK FA hsm) hZ (hwi hw 79 rfl) (hwi hw 78 rfl) (by decide) (by decide)) (g := (mkF m 36 #[vR o, vR a, vI 0, vI (iN n), .val .null, .unset] [(.int (iN n)), (.int 0), (.ref a)])) rfl (by rw [hml]; rfl) (argsL := [(.ref a), (.int 0), (.int (iN n))]) (rest := []) (lenOf pd_13 rfl) rfl (by show 2 * 0 + _ ≤ _; exact Nat.le_of_eq rfl) (hD 9 rfl) (fun _ _ => ⟨rfl, e6, (by decide : 0 + 2 ≤ _), (by decide : 0 + 168 ≤ _)⟩)
  dsimp only [Pt.U, Pt.locs, Pt.cells, Pt.slots] at X7 l7 y7 z7 st7 hQ7
  obtain rfl : k7 = 2 := y7; obtain rfl : n7 = 168 := z7
  obtain ⟨b7, rfl, N7q, K7, zq7, A7⟩ := hQ7
  have N7 : Fr n0 L7 := by rw [l7]; exact Fr.app N0 N7q
  have ne_a_b7 : a ≠ b7 := Nat.ne_of_lt (Nat.lt_of_lt_of_le FA.lt zq7)
  have ne_o_b7 : o ≠ b7 := Nat.ne_of_lt (Nat.lt_of_lt_of_le EO.lt zq7)
  have g_b7 : n0 ≤ b7 := Nat.le_trans Z0 zq7
  have sz_b7 : h0.size ≤ b7 := Nat.le_trans (Keep.refl h0 [o]).1 zq7
  have EO_e7 := EO.keep K7
  have FV_e7 := FV.keep K7 List.not_mem_nil
  have FC_e7 := FC.keep K7 List.not_mem_nil
  have FA_e7 := FA.keep K7 List.not_mem_nil
  have KK7 := (Keep.refl h0 [o]).trans K7 (fun x r => absurd r List.not_mem_nil)
  have Z7 := Nat.le_trans Z0 K7.1
  have O7 := O.keep K7 all0'
  obtain ⟨T8, L8, X8, e8, N8, st8⟩ := zT X7 hx hZ hown rfl N7 (hwi hw 83 rfl) (hwi hw 84 rfl) (hwi hw 78 rfl) (hwi hw 85 rfl) (rmCOA l Z a0 hw [] b7 n (Lb g) T7.heap n0 Z7 hn  A7) 45 #[vR o, vR a, vI 0, vI (iN n), .val .null, vR b7] [(.int (iN n)), (.ref b7), (.ref o)] hml pd_15 (hD 14 rfl) 1
  obtain ⟨T9, h9, X9, e9, W9, st9⟩ := putFN X8 hx hZ hown (hwi hw 31 rfl) Via.refl e8 FC_e7 EO_e7 (Or.inr ⟨(hwi hw 13 rfl), rfl, hnm⟩) (hwi hw 10 rfl) (ty := .byte) (v' := (.int 0)) (by decide) rfl (by decide) (g := (mkF m 48 #[vR o, vR a, vI 0, vI (iN n), .val .null, vR b7] [(.int 0), (.ref o)])) rfl rfl (hD 15 rfl)
  have Fw9 := FC_e7.same W9
  have EO_e9 := EO_e7.wr W9
  have FV_e9 := FV_e7.other W9 (Or.inr (slot_ne (Or.inr (hwi hw 12 rfl)) (Or.inr (hwi hw 13 rfl)) (by decide) (t := (.array .byte)) (t' := .byte) (by decide) (by decide)))
  have FA_e9 := FA_e7.other W9 hao
  have A7_e9 := A7.other W9 (Ne.symm ne_o_b7)
  have N9 := Fr.snoc X9 N8 g_o
  have K9 := KK7.wr W9 (Or.inl (List.mem_of_getElem? (i := 0) rfl))
  have Z9 := Nat.le_trans Z7 (Keep.of_wr W9).1
  have O9 := O7.wr W9 g_o
  obtain ⟨T10, h10, X10, e10, W10, st10⟩ := putF X9 hx hZ hown (host := "") (Or.inl (hwi hw 24 rfl)) Via.refl e9 FV_e9 EO_e9 (Or.inr ⟨(hwi hw 12 rfl), rfl, hnm⟩) (hwi hw 10 rfl) (ty := (.array .byte)) (by decide) rfl rfl (g := (mkF m 54 #[vR o, vR a, vI 0, vI (iN n), .val .null, vR b7] [(.ref b7), (.ref o)])) rfl rfl (hD 18 rfl)
  have Fw10 := FV_e9.same W10
  have EO_e10 := EO_e9.wr W10
  have Fw9_e10 := Fw9.other W10 (Or.inr (slot_ne (Or.inr (hwi hw 13 rfl)) (Or.inr (hwi hw 12 rfl)) (by decide) (t := .byte) (t' := (.array .byte)) (by decide) (by decide)))
  have FA_e10 := FA_e9.other W10 hao
  have A7_e10 := A7_e9.other W10 (Ne.symm ne_o_b7)
  have N10 := Fr.snoc X10 N9 g_o
  have K10 := K9.wr W10 (Or.inl (List.mem_of_getElem? (i := 0) rfl))
  have Z10 := Nat.le_trans Z9 (Keep.of_wr W10).1
  have O10 := O9.wr W10 g_o
  refine zLv Bd X10 (v := none) (by decide) (fun _ => rfl) (fun fs hr => pre0 _ ?_) (by exact ⟨rfl, N10, by rw [e10]; exact K10, by rw [e10]; exact ⟨EO_e10, b7, Fw10, Fw9_e10, A7_e10⟩⟩)
  refine zA X0 hx (hD 0 rfl) rfl rfl ?_
  refine st5 _ ?_
  refine zL X5 hx (hD 2 rfl) rfl ?_
  refine zI X5 hx 27 (hD 3 rfl) ((if0 _ _).trans (feq (fun q => absurd (congrArg Int32.toInt q) (by rw [Int32.toInt_ofNat_small (by omega)]; intro r; change (n : Int) = 0 at r; omega))).2) rfl ?_
  refine st6 _ ?_
  refine zJ X6 hx (hD 5 rfl) ((if0 _ _).trans (feq hkc).1) ?_
  refine zA X6 hx (hD 6 rfl) rfl rfl ?_
  refine zL X6 hx (hD 7 rfl) rfl ?_
  refine zL X6 hx (hD 8 rfl) rfl ?_
  refine st7 _ ?_
  refine XS.astore X7.here hx rfl (hD 10 rfl) rfl rfl (l' := #[vR o, vR a, vI 0, vI (iN n), .val .null, vR b7]) rfl ?_
  refine zA X7 hx (hD 11 rfl) rfl rfl ?_
  refine XS.aload X7.here hx rfl (hD 12 rfl) rfl rfl ?_
  refine zL X7 hx (hD 13 rfl) rfl ?_
  refine st8 _ ?_
  refine st9 _ ?_
  refine zA X9 hx (hD 16 rfl) rfl rfl ?_
  refine XS.aload X9.here hx rfl (hD 17 rfl) rfl rfl ?_
  refine st10 _ ?_
  show Steps p.tables e below (T10.setTop (mkF m 57 #[vR o, vR a, vI 0, vI (iN n), .val .null, vR b7] [])) _
  exact X10.returnOut hx Bd.returns (hD 19 rfl) hr
theorem rmI4 (hw : HW Z a0) (ws : List Jvm.Cond) (o a : Addr) (n : Nat) (g : Nat → Int32)  (h0 : Heap) (n0 : Nat) (Z0 : n0 ≤ h0.size) (hn : n ≤ 56) (hp : 0 < n) (O : Old Z n0 h0) (SK : StrSta Z) (FA : AF Z h0 a .char n (Ca g)) (hch : ∀ j, j < n → isCh (g j)) (EO : Exa Z h0 o "java/lang/String") (FV : Fld Z h0 o "java/lang/String" "value" "[B" .null) (FC : Fld Z h0 o "java/lang/String" "coder" "B" (.int 0)) (g_o : n0 ≤ o) (hao : a ≠ o) (hsm : ∀ j, j < n → ¬ ((255 : Int32) < g j))  :
    MF l Z (⟨"java/lang/String", "<init>", "([CIILjava/lang/Void;)V"⟩ : MethodName) jdk_42_method_149_code 6 none ws (rM 4 100 2 168) #[(.ref o), (.ref a), (.int 0), (.int (Int32.ofNat n)), .null] h0 (QS Z o n g h0 n0) := by
  exact rmI4A l Z a0 hw ws o a n g h0 n0 Z0 hn hp O SK FA hch EO FV FC g_o hao hsm
def D13 : List (Nat × Instr × Nat) := [(0, .aload_n 0, 1), (1, .aload_n 1, 1), (2, .iconst 0, 1), (3, .aload_n 1, 1), (4, .arraylength, 1), (5, .aconst_null, 1), (6, .invokespecial 27, 3), (9, .return_, 1)]
theorem d13 : ∀ x ∈ D13, decode jdk_42_method_3_code x.1 = .ok x.2 := by decide +kernel
theorem pn_13 : plainName "java/lang/String" = true := by first | (simp [plainName, overriddenIn]; done) | decide +kernel
theorem ef_13 (m : MethodId) (x0 : Addr) (x1 : Addr) : entryFrame m #[(.ref x0), (.ref x1)] 2 = mkF m 0 #[.val (.ref x0), .val (.ref x1)] [] := by first | (simp [entryFrame, mkF, argsToLocals, Value.category]; done) | rfl
theorem rmI1 (hw : HW Z a0) (ws : List Jvm.Cond) (o a : Addr) (n : Nat) (g : Nat → Int32)  (h0 : Heap) (n0 : Nat) (Z0 : n0 ≤ h0.size) (hn : n ≤ 56) (hp : 0 < n) (O : Old Z n0 h0) (SK : StrSta Z) (FA : AF Z h0 a .char n (Ca g)) (hch : ∀ j, j < n → isCh (g j)) (EO : Exa Z h0 o "java/lang/String") (FV : Fld Z h0 o "java/lang/String" "value" "[B" .null) (FC : Fld Z h0 o "java/lang/String" "coder" "B" (.int 0)) (g_o : n0 ≤ o) (hao : a ≠ o) (hsm : ∀ j, j < n → ¬ ((255 : Int32) < g j))  :
    MF l Z (⟨"java/lang/String", "<init>", "([C)V"⟩ : MethodName) jdk_42_method_3_code 2 none ws (rM 5 124 2 168) #[(.ref o), (.ref a)] h0 (QS Z o n g h0 n0) := by
  refine zBody pn_13 (fun m => ef_13 m o a) ?_
  intro p e s m below meth c s₁ Bd hx hby hml hown hZ hh X0 e0 pre0
  have hD := dk hby d13
  have N0 := Fr.nil n0
  obtain ⟨_, _, ⟨T11, L11, k11, n11⟩, -, X11, ⟨Lc11, hQ11, l11, y11, z11⟩, st11⟩ := X0.specialBack hx (y := (⟨"java/lang/String", "<init>", "([CIILjava/lang/Void;)V"⟩ : MethodName)) rfl hown (mvT hZ (hwi hw 69 rfl)) (mvT hZ (hwi hw 70 rfl)) (mvT hZ (hwi hw 72 rfl)) (by decide) (backOf (W := 0) (rmI4 l Z a0 hw [] o a n g h0 n0 Z0 hn hp O SK FA hch EO FV FC g_o hao hsm) hZ (hwi hw 72 rfl) (hwi hw 9 rfl) (by decide) (by decide)) (g := (mkF m 6 #[vR o, vR a] [.null, (.int (iN n)), (.int 0), (.ref a), (.ref o)])) rfl (by rw [hml]; rfl) (Steps.refl _) (a := o) (argsL := [(.ref a), (.int 0), (.int (iN n)), .null]) (rest := []) (lenOf pd_11 rfl) rfl (by show 2 * 0 + _ ≤ _; exact Nat.le_of_eq rfl) (hD 6 rfl) (fun _ _ => ⟨rfl, e0, (by decide : 0 + 2 ≤ _), (by decide : 0 + 168 ≤ _)⟩)
  dsimp only [Pt.U, Pt.locs, Pt.cells, Pt.slots] at X11 l11 y11 z11 st11 hQ11
  obtain rfl : k11 = 2 := y11; obtain rfl : n11 = 168 := z11
  obtain ⟨rfl, N11q, K11, S11⟩ := hQ11
  have N11 : Fr n0 L11 := by rw [l11]; exact Fr.app N0 N11q
  have EO_e11 := EO.keep K11
  have FA_e11 := FA.keep K11 (notin1 hao)
  have KK11 := (Keep.refl h0 [o]).trans K11 (fun x r => by cases List.mem_singleton.mp r; exact (Or.inl (List.mem_of_getElem? (i := 0) rfl)))
  have Z11 := Nat.le_trans Z0 K11.1
  have O11 := O.keep K11 (all1 g_o)
  refine zLv Bd X11 (v := none) (by decide) (fun _ => rfl) (fun fs hr => pre0 _ ?_) ⟨rfl, N11, KK11, S11⟩
  refine zA X0 hx (hD 0 rfl) rfl rfl ?_
  refine zA X0 hx (hD 1 rfl) rfl rfl ?_
  refine zC X0 hx (hD 2 rfl) ?_
  refine zA X0 hx (hD 3 rfl) rfl rfl ?_
  refine lenA X0 hx hZ e0 FA (g := (mkF m 4 #[vR o, vR a] [(.ref a), (.int 0), (.ref a), (.ref o)])) rfl rfl (hD 4 rfl) ?_
  refine XS.aconstNull X0.here hx rfl (hD 5 rfl) ?_
  refine st11.trans ?_
  show Steps p.tables e below (T11.setTop (mkF m 9 #[vR o, vR a] [])) _
  exact X11.returnOut hx Bd.returns (hD 7 rfl) hr
def D5 : List (Nat × Instr × Nat) := [(0, .getstatic 38, 3), (3, .ifCond .eq 10, 3), (6, .aload_n 0, 1), (7, .getfield 15, 3), (10, .goto 4, 3), (14, .ireturn, 1)]
theorem d5 : ∀ x ∈ D5, decode jdk_42_method_152_code x.1 = .ok x.2 := by decide +kernel
theorem pn_5 : plainName "java/lang/String" = true := by first | (simp [plainName, overriddenIn]; done) | decide +kernel
theorem ef_5 (m : MethodId) (x0 : Addr) : entryFrame m #[(.ref x0)] 1 = mkF m 0 #[.val (.ref x0)] [] := by first | (simp [entryFrame, mkF, argsToLocals, Value.category]; done) | rfl
theorem rmCD0 (hw : HW Z a0) (ws : List Jvm.Cond) (o : Addr)  (h0 : Heap) (n0 : Nat) (Z0 : n0 ≤ h0.size) (O : Old Z n0 h0) (SK : StrSta Z) (EO : Exa Z h0 o "java/lang/String") (FC : Fld Z h0 o "java/lang/String" "coder" "B" (.int 0))  :
    MF l Z (⟨"java/lang/String", "coder", "()B"⟩ : MethodName) jdk_42_method_152_code 1 (some .byte) ws (rM 0 0 0 0) #[(.ref o)] h0 (QI (0 : Int32) h0 n0) := by
  refine zBody pn_5 (fun m => ef_5 m o) ?_
  intro p e s m below meth c s₁ Bd hx hby hml hown hZ hh X0 e0 pre0
  have hD := dk hby d5
  have N0 := Fr.nil n0
  obtain ⟨kc, hkc, hcs⟩ := SK.1
  obtain ⟨T12, X12, e12, st12⟩ := getS2 X0 hx hZ hown (host := "") (Or.inl (hwi hw 30 rfl)) Via.refl e0 (Sta.ext O.2 hcs) (g := (mkF m 0 #[vR o] [])) rfl (hD 0 rfl)
  obtain ⟨T13, X13, e13, st13⟩ := zF X12 hx hZ hown (hwi hw 31 rfl) e12 FC 7 #[vR o] [] (hD 3 rfl)
  refine zLv Bd X13 (v := some (.int 0)) (by decide) nofun (fun fs hr => pre0 _ ?_) (by rw [e13]; exact ⟨rfl, N0, rfl⟩)
  refine st12 _ ?_
  refine zJ X12 hx (hD 1 rfl) ((if0 _ _).trans (feq hkc).1) ?_
  refine zA X12 hx (hD 2 rfl) rfl rfl ?_
  refine st13 _ ?_
  refine zG X13 hx 14 (hD 4 rfl) rfl ?_
  exact retN X13 hx (t := .byte) Bd.returns (by simp) (hD 5 rfl) hr
def D7 : List (Nat × Instr × Nat) := [(0, .getstatic 38, 3), (3, .ifCond .eq 14, 3), (6, .aload_n 0, 1), (7, .getfield 15, 3), (10, .ifCond .ne 7, 3), (13, .iconst 1, 1), (14, .goto 4, 3), (18, .ireturn, 1)]
theorem d7 : ∀ x ∈ D7, decode jdk_42_method_154_code x.1 = .ok x.2 := by decide +kernel
theorem pn_7 : plainName "java/lang/String" = true := by first | (simp [plainName, overriddenIn]; done) | decide +kernel
theorem ef_7 (m : MethodId) (x0 : Addr) : entryFrame m #[(.ref x0)] 1 = mkF m 0 #[.val (.ref x0)] [] := by first | (simp [entryFrame, mkF, argsToLocals, Value.category]; done) | rfl
theorem rmIL0 (hw : HW Z a0) (ws : List Jvm.Cond) (o : Addr)  (h0 : Heap) (n0 : Nat) (Z0 : n0 ≤ h0.size) (O : Old Z n0 h0) (SK : StrSta Z) (EO : Exa Z h0 o "java/lang/String") (FC : Fld Z h0 o "java/lang/String" "coder" "B" (.int 0))  :
    MF l Z (⟨"java/lang/String", "isLatin1", "()Z"⟩ : MethodName) jdk_42_method_154_code 1 (some .boolean) ws (rM 0 0 0 0) #[(.ref o)] h0 (QI (1 : Int32) h0 n0) := by
  refine zBody pn_7 (fun m => ef_7 m o) ?_
  intro p e s m below meth c s₁ Bd hx hby hml hown hZ hh X0 e0 pre0
  have hD := dk hby d7
  have N0 := Fr.nil n0
  obtain ⟨kc, hkc, hcs⟩ := SK.1
  obtain ⟨T14, X14, e14, st14⟩ := getS2 X0 hx hZ hown (host := "") (Or.inl (hwi hw 30 rfl)) Via.refl e0 (Sta.ext O.2 hcs) (g := (mkF m 0 #[vR o] [])) rfl (hD 0 rfl)
  obtain ⟨T15, X15, e15, st15⟩ := zF X14 hx hZ hown (hwi hw 31 rfl) e14 FC 7 #[vR o] [] (hD 3 rfl)
  refine zLv Bd X15 (v := some (.int 1)) (by decide) nofun (fun fs hr => pre0 _ ?_) (by rw [e15]; exact ⟨rfl, N0, rfl⟩)
  refine st14 _ ?_
  refine zJ X14 hx (hD 1 rfl) ((if0 _ _).trans (feq hkc).1) ?_
  refine zA X14 hx (hD 2 rfl) rfl rfl ?_
  refine st15 _ ?_
  refine zJ X15 hx (hD 4 rfl) ((if0 _ _).trans (teq (rfl : (0 : Int32) = 0)).2) ?_
  refine zC X15 hx (hD 5 rfl) ?_
  refine zG X15 hx 18 (hD 6 rfl) rfl ?_
  exact retN X15 hx (t := .boolean) Bd.returns (by simp) (hD 7 rfl) hr
def D4 : List (Nat × Instr × Nat) := [(0, .aload_n 0, 1), (1, .getfield 9, 3), (4, .arraylength, 1), (5, .aload_n 0, 1), (6, .invokevirtual 335, 3), (9, .ishr, 1), (10, .ireturn, 1)]
theorem d4 : ∀ x ∈ D4, decode jdk_42_method_54_code x.1 = .ok x.2 := by decide +kernel
theorem pn_4 : plainName "java/lang/String" = true := by first | (simp [plainName, overriddenIn]; done) | decide +kernel
theorem ef_4 (m : MethodId) (x0 : Addr) : entryFrame m #[(.ref x0)] 1 = mkF m 0 #[.val (.ref x0)] [] := by first | (simp [entryFrame, mkF, argsToLocals, Value.category]; done) | rfl
theorem rmLEN0 (hw : HW Z a0) (ws : List Jvm.Cond) (o b : Addr) (n : Nat) (f : Nat → Value)  (h0 : Heap) (n0 : Nat) (Z0 : n0 ≤ h0.size) (hn : n ≤ 56) (O : Old Z n0 h0) (SK : StrSta Z) (EO : Exa Z h0 o "java/lang/String") (FC : Fld Z h0 o "java/lang/String" "coder" "B" (.int 0)) (FV : Fld Z h0 o "java/lang/String" "value" "[B" (.ref b)) (FB : AF Z h0 b .byte n f)  :
    MF l Z (⟨"java/lang/String", "length", "()I"⟩ : MethodName) jdk_42_method_54_code 1 (some .int) ws (rM 1 14 0 0) #[(.ref o)] h0 (QI (iN n) h0 n0) := by
  refine zBody pn_4 (fun m => ef_4 m o) ?_
  intro p e s m below meth c s₁ Bd hx hby hml hown hZ hh X0 e0 pre0
  have hD := dk hby d4
  have N0 := Fr.nil n0
  obtain ⟨T16, X16, e16, st16⟩ := zF X0 hx hZ hown (hwi hw 24 rfl) e0 FV 1 #[vR o] [] (hD 1 rfl)
  obtain ⟨T17, L17, X17, e17, N17, st17⟩ := zV X16 hx hZ hown e16 EO N0 (hwi hw 25 rfl) (hwi hw 26 rfl) (hwi hw 28 rfl) (hwi hw 27 rfl) (hwi hw 29 rfl) (hwi hw 9 rfl) (rmCD0 l Z a0 hw [] o h0 n0 Z0 O SK EO FC) 6 #[vR o] [(.ref o), (.int (iN n))] hml pd_4 (hD 4 rfl) 1
  refine zLv Bd X17 (v := some (.int (iN n))) (by decide) nofun (fun fs hr => pre0 _ ?_) (by rw [e17]; exact ⟨rfl, N17, rfl⟩)
  refine zA X0 hx (hD 0 rfl) rfl rfl ?_
  refine st16 _ ?_
  refine lenA X16 hx hZ e16 FB (g := (mkF m 4 #[vR o] [(.ref b)])) rfl rfl (hD 2 rfl) ?_
  refine zA X16 hx (hD 3 rfl) rfl rfl ?_
  refine st17 _ ?_
  refine XS.ishr X17.here hx rfl (hD 5 rfl) rfl ?_
  show Steps p.tables e below (T17.setTop (mkF m 10 #[vR o] [(.int ((iN n) >>> ((0 : Int32) &&& 31)))])) _
  rw [show ((iN n) >>> ((0 : Int32) &&& 31)) = (iN n) from shr0 _]
  show Steps p.tables e below (T17.setTop (mkF m 10 #[vR o] [(.int (iN n))])) _
  exact retI X17 hx Bd.returns (hD 6 rfl) hr
def D10 : List (Nat × Instr × Nat) := [(0, .iload_n 0, 1), (1, .ifCond .lt 8, 3), (4, .iload_n 0, 1), (5, .iload_n 1, 1), (6, .if_icmp .lt 10, 3), (16, .iload_n 0, 1), (17, .ireturn, 1)]
theorem d10 : ∀ x ∈ D10, decode jdk_41_method_11_code x.1 = .ok x.2 := by decide +kernel
theorem pn_10 : plainName "jdk/internal/util/Preconditions" = true := by first | (simp [plainName, overriddenIn]; done) | decide +kernel
theorem ef_10 (m : MethodId) (x0 : Int32) (x1 : Int32) (x2 : Addr) : entryFrame m #[(.int x0), (.int x1), (.ref x2)] 3 = mkF m 0 #[.val (.int x0), .val (.int x1), .val (.ref x2)] [] := by first | (simp [entryFrame, mkF, argsToLocals, Value.category]; done) | rfl
theorem ef_10n (m : MethodId) (x0 : Int32) (x1 : Int32) : entryFrame m #[(.int x0), (.int x1), .null] 3 = mkF m 0 #[.val (.int x0), .val (.int x1), .val .null] [] := by first | (simp [entryFrame, mkF, argsToLocals, Value.category]; done) | rfl
theorem rmPCI0 (hw : HW Z a0) (ws : List Jvm.Cond) (i n : Nat)  (h0 : Heap) (n0 : Nat) (Z0 : n0 ≤ h0.size) (hn : n ≤ 56) (hi : i < n)  :
    MF l Z (⟨"jdk/internal/util/Preconditions", "checkIndex", "(IILjava/util/function/BiFunction;)I"⟩ : MethodName) jdk_41_method_11_code 3 (some .int) ws (rM 0 0 0 0) #[(.int (iN i)), (.int (iN n)), .null] h0 (QI (iN i) h0 n0) := by
  refine zBody pn_10 (fun m => ef_10n m (iN i) (iN n)) ?_
  intro p e s m below meth c s₁ Bd hx hby hml hown hZ hh X0 e0 pre0
  have hD := dk hby d10
  have N0 := Fr.nil n0
  refine zLv Bd X0 (v := some (.int (iN i))) (by decide) nofun (fun fs hr => pre0 _ ?_) (by rw [e0]; exact ⟨rfl, N0, rfl⟩)
  refine zL X0 hx (hD 0 rfl) rfl ?_
  refine zJ X0 hx (hD 1 rfl) ((if0 _ _).trans (flt (nnN (by omega))).1) ?_
  refine zL X0 hx (hD 2 rfl) rfl ?_
  refine zL X0 hx (hD 3 rfl) rfl ?_
  refine zM X0 hx 16 (hD 4 rfl) (tlt ((ltN (by omega) (by omega)).mpr hi)).1 rfl ?_
  refine zL X0 hx (hD 5 rfl) rfl ?_
  exact retI X0 hx Bd.returns (hD 6 rfl) hr
theorem rmPCI1 (hw : HW Z a0) (ws : List Jvm.Cond) (i n : Nat) (fa : Addr)  (h0 : Heap) (n0 : Nat) (Z0 : n0 ≤ h0.size) (hn : n ≤ 56) (hi : i < n)  :
    MF l Z (⟨"jdk/internal/util/Preconditions", "checkIndex", "(IILjava/util/function/BiFunction;)I"⟩ : MethodName) jdk_41_method_11_code 3 (some .int) ws (rM 0 0 0 0) #[(.int (iN i)), (.int (iN n)), (.ref fa)] h0 (QI (iN i) h0 n0) := by
  refine zBody pn_10 (fun m => ef_10 m (iN i) (iN n) fa) ?_
  intro p e s m below meth c s₁ Bd hx hby hml hown hZ hh X0 e0 pre0
  have hD := dk hby d10
  have N0 := Fr.nil n0
  refine zLv Bd X0 (v := some (.int (iN i))) (by decide) nofun (fun fs hr => pre0 _ ?_) (by rw [e0]; exact ⟨rfl, N0, rfl⟩)
  refine zL X0 hx (hD 0 rfl) rfl ?_
  refine zJ X0 hx (hD 1 rfl) ((if0 _ _).trans (flt (nnN (by omega))).1) ?_
  refine zL X0 hx (hD 2 rfl) rfl ?_
  refine zL X0 hx (hD 3 rfl) rfl ?_
  refine zM X0 hx 16 (hD 4 rfl) (tlt ((ltN (by omega) (by omega)).mpr hi)).1 rfl ?_
  refine zL X0 hx (hD 5 rfl) rfl ?_
  exact retI X0 hx Bd.returns (hD 6 rfl) hr
def D9 : List (Nat × Instr × Nat) := [(0, .iload_n 0, 1), (1, .iload_n 1, 1), (2, .getstatic 1053, 3), (5, .invokestatic 1059, 3), (8, .pop, 1), (9, .return_, 1)]
theorem d9 : ∀ x ∈ D9, decode jdk_42_method_155_code x.1 = .ok x.2 := by decide +kernel
theorem pn_9 : plainName "java/lang/String" = true := by first | (simp [plainName, overriddenIn]; done) | decide +kernel
theorem ef_9 (m : MethodId) (x0 : Int32) (x1 : Int32) : entryFrame m #[(.int x0), (.int x1)] 2 = mkF m 0 #[.val (.int x0), .val (.int x1)] [] := by first | (simp [entryFrame, mkF, argsToLocals, Value.category]; done) | rfl
theorem rmSCI0 (hw : HW Z a0) (ws : List Jvm.Cond) (i n : Nat)  (h0 : Heap) (n0 : Nat) (Z0 : n0 ≤ h0.size) (hn : n ≤ 56) (hi : i < n) (O : Old Z n0 h0) (hfm : Sta Z Z.heap "jdk/internal/util/Preconditions" "SIOOBE_FORMATTER" "Ljava/util/function/BiFunction;" .null)  :
    MF l Z (⟨"java/lang/String", "checkIndex", "(II)V"⟩ : MethodName) jdk_42_method_155_code 2 none ws (rM 1 16 0 0) #[(.int (iN i)), (.int (iN n))] h0 (QN  h0 n0) := by
  refine zBody pn_9 (fun m => ef_9 m (iN i) (iN n)) ?_
  intro p e s m below meth c s₁ Bd hx hby hml hown hZ hh X0 e0 pre0
  have hD := dk hby d9
  have N0 := Fr.nil n0
  obtain ⟨T18, X18, e18, st18⟩ := getS2 X0 hx hZ hown (host := "") (Or.inl (hwi hw 49 rfl)) Via.refl e0 (Sta.ext O.2 hfm) (g := (mkF m 2 #[vI (iN i), vI (iN n)] [(.int (iN n)), (.int (iN i))])) rfl (hD 2 rfl)
  obtain ⟨T19, L19, X19, e19, N19, st19⟩ := zT X18 hx hZ hown e18 N0 (hwi hw 51 rfl) (hwi hw 52 rfl) (hwi hw 50 rfl) (hwi hw 53 rfl) (rmPCI0 l Z a0 hw [] i n h0 n0 Z0 hn hi) 5 #[vI (iN i), vI (iN n)] [.null, (.int (iN n)), (.int (iN i))] hml pd_9 (hD 3 rfl) 0
  refine zLv Bd X19 (v := none) (by decide) (fun _ => rfl) (fun fs hr => pre0 _ ?_) (by rw [e19]; exact ⟨rfl, N19, rfl⟩)
  refine zL X0 hx (hD 0 rfl) rfl ?_
  refine zL X0 hx (hD 1 rfl) rfl ?_
  refine st18 _ ?_
  refine st19 _ ?_
  refine XS.pop X19.here hx rfl (hD 4 rfl) rfl rfl ?_
  show Steps p.tables e below (T19.setTop (mkF m 9 #[vI (iN i), vI (iN n)] [])) _
  exact X19.returnOut hx Bd.returns (hD 5 rfl) hr
theorem rmSCI1 (hw : HW Z a0) (ws : List Jvm.Cond) (i n : Nat) (fa : Addr)  (h0 : Heap) (n0 : Nat) (Z0 : n0 ≤ h0.size) (hn : n ≤ 56) (hi : i < n) (O : Old Z n0 h0) (hfm : Sta Z Z.heap "jdk/internal/util/Preconditions" "SIOOBE_FORMATTER" "Ljava/util/function/BiFunction;" (.ref fa))  :
    MF l Z (⟨"java/lang/String", "checkIndex", "(II)V"⟩ : MethodName) jdk_42_method_155_code 2 none ws (rM 1 16 0 0) #[(.int (iN i)), (.int (iN n))] h0 (QN  h0 n0) := by
  refine zBody pn_9 (fun m => ef_9 m (iN i) (iN n)) ?_
  intro p e s m below meth c s₁ Bd hx hby hml hown hZ hh X0 e0 pre0
  have hD := dk hby d9
  have N0 := Fr.nil n0
  obtain ⟨T20, X20, e20, st20⟩ := getS2 X0 hx hZ hown (host := "") (Or.inl (hwi hw 49 rfl)) Via.refl e0 (Sta.ext O.2 hfm) (g := (mkF m 2 #[vI (iN i), vI (iN n)] [(.int (iN n)), (.int (iN i))])) rfl (hD 2 rfl)
  obtain ⟨T21, L21, X21, e21, N21, st21⟩ := zT X20 hx hZ hown e20 N0 (hwi hw 51 rfl) (hwi hw 52 rfl) (hwi hw 50 rfl) (hwi hw 53 rfl) (rmPCI1 l Z a0 hw [] i n fa h0 n0 Z0 hn hi) 5 #[vI (iN i), vI (iN n)] [(.ref fa), (.int (iN n)), (.int (iN i))] hml pd_9 (hD 3 rfl) 0
  refine zLv Bd X21 (v := none) (by decide) (fun _ => rfl) (fun fs hr => pre0 _ ?_) (by rw [e21]; exact ⟨rfl, N21, rfl⟩)
  refine zL X0 hx (hD 0 rfl) rfl ?_
  refine zL X0 hx (hD 1 rfl) rfl ?_
  refine st20 _ ?_
  refine st21 _ ?_
  refine XS.pop X21.here hx rfl (hD 4 rfl) rfl rfl ?_
  show Steps p.tables e below (T21.setTop (mkF m 9 #[vI (iN i), vI (iN n)] [])) _
  exact X21.returnOut hx Bd.returns (hD 5 rfl) hr
theorem rmSCI (hw : HW Z a0) (ws : List Jvm.Cond) (i n : Nat)  (h0 : Heap) (n0 : Nat) (Z0 : n0 ≤ h0.size) (hn : n ≤ 56) (hi : i < n) (O : Old Z n0 h0) (SK : StrSta Z)  :
    MF l Z (⟨"java/lang/String", "checkIndex", "(II)V"⟩ : MethodName) jdk_42_method_155_code 2 none ws (rM 1 16 0 0) #[(.int (Int32.ofNat i)), (.int (Int32.ofNat n))] h0 (QN  h0 n0) := by
  obtain hfm | ⟨fa, hfm⟩ := SK.2
  · exact rmSCI0 l Z a0 hw ws i n h0 n0 Z0 hn hi O hfm
  · exact rmSCI1 l Z a0 hw ws i n fa h0 n0 Z0 hn hi O hfm
def D8 : List (Nat × Instr × Nat) := [(0, .iload_n 1, 1), (1, .aload_n 0, 1), (2, .arraylength, 1), (3, .invokestatic 9, 3), (6, .aload_n 0, 1), (7, .iload_n 1, 1), (8, .baload, 1), (9, .sipush 255, 3), (12, .iand, 1), (13, .i2c, 1), (14, .ireturn, 1)]
theorem d8 : ∀ x ∈ D8, decode jdk_43_method_2_code x.1 = .ok x.2 := by decide +kernel
theorem pn_8 : plainName "java/lang/StringLatin1" = true := by first | (simp [plainName, overriddenIn]; done) | decide +kernel
theorem ef_8 (m : MethodId) (x0 : Addr) (x1 : Int32) : entryFrame m #[(.ref x0), (.int x1)] 2 = mkF m 0 #[.val (.ref x0), .val (.int x1)] [] := by first | (simp [entryFrame, mkF, argsToLocals, Value.category]; done) | rfl
theorem rmLCA (hw : HW Z a0) (ws : List Jvm.Cond) (b : Addr) (i n : Nat) (g : Nat → Int32)  (h0 : Heap) (n0 : Nat) (Z0 : n0 ≤ h0.size) (hn : n ≤ 56) (hi : i < n) (O : Old Z n0 h0) (SK : StrSta Z) (FB : AF Z h0 b .byte n (Lb g)) (hB : isB (g i))  :
    MF l Z (⟨"java/lang/StringLatin1", "charAt", "([BI)C"⟩ : MethodName) jdk_43_method_2_code 2 (some .char) ws (rM 2 30 0 0) #[(.ref b), (.int (iN i))] h0 (QI (g i) h0 n0) := by
  refine zBody pn_8 (fun m => ef_8 m b (iN i)) ?_
  intro p e s m below meth c s₁ Bd hx hby hml hown hZ hh X0 e0 pre0
  have hD := dk hby d8
  have N0 := Fr.nil n0
  obtain ⟨T22, L22, X22, e22, N22, st22⟩ := zT X0 hx hZ hown e0 N0 (hwi hw 46 rfl) (hwi hw 47 rfl) (hwi hw 9 rfl) (hwi hw 48 rfl) (rmSCI l Z a0 hw [] i n h0 n0 Z0 hn hi O SK) 3 #[vR b, vI (iN i)] [(.int (iN n)), (.int (iN i))] hml pd_8 (hD 3 rfl) 0
  refine zLv Bd X22 (v := some (.int (nar .char (g i)))) (by decide) nofun (fun fs hr => pre0 _ ?_) (by rw [e22]; exact ⟨by rw [nar_id (isCh_of hB)], N22, rfl⟩)
  refine zL X0 hx (hD 0 rfl) rfl ?_
  refine zA X0 hx (hD 1 rfl) rfl rfl ?_
  refine lenA X0 hx hZ e0 FB (g := (mkF m 2 #[vR b, vI (iN i)] [(.ref b), (.int (iN i))])) rfl rfl (hD 2 rfl) ?_
  refine st22 _ ?_
  refine zA X22 hx (hD 4 rfl) rfl rfl ?_
  refine zL X22 hx (hD 5 rfl) rfl ?_
  refine ldBy X22 hx hZ e22 FB (i := i) hi (by omega) (v := (.int (b8 (g i)))) rfl (g := (mkF m 8 #[vR b, vI (iN i)] [(.int (iN i)), (.ref b)])) rfl rfl (hD 6 rfl) ?_
  refine XS.sipush X22.here hx rfl (hD 7 rfl) ?_
  refine XS.iand X22.here hx rfl (hD 8 rfl) rfl ?_
  refine XS.i2c X22.here hx rfl (hD 9 rfl) rfl ?_
  show Steps p.tables e below (T22.setTop (mkF m 14 #[vR b, vI (iN i)] [(.int (((b8 (g i)) &&& (255 : Int32)).toUInt32.toUInt16.toUInt32.toInt32))])) _
  rw [show (((b8 (g i)) &&& (255 : Int32)).toUInt32.toUInt16.toUInt32.toInt32) = (g i) from (l16_eq hB)]
  show Steps p.tables e below (T22.setTop (mkF m 14 #[vR b, vI (iN i)] [(.int (g i))])) _
  exact retN X22 hx (t := .char) Bd.returns (by simp) (hD 10 rfl) hr
def D6 : List (Nat × Instr × Nat) := [(0, .aload_n 0, 1), (1, .invokevirtual 492, 3), (4, .ifCond .eq 12, 3), (7, .aload_n 0, 1), (8, .getfield 9, 3), (11, .iload_n 1, 1), (12, .invokestatic 495, 3), (15, .ireturn, 1)]
theorem d6 : ∀ x ∈ D6, decode jdk_42_method_56_code x.1 = .ok x.2 := by decide +kernel
theorem pn_6 : plainName "java/lang/String" = true := by first | (simp [plainName, overriddenIn]; done) | decide +kernel
theorem ef_6 (m : MethodId) (x0 : Addr) (x1 : Int32) : entryFrame m #[(.ref x0), (.int x1)] 2 = mkF m 0 #[.val (.ref x0), .val (.int x1)] [] := by first | (simp [entryFrame, mkF, argsToLocals, Value.category]; done) | rfl
theorem rmCA (hw : HW Z a0) (ws : List Jvm.Cond) (o : Addr) (i n : Nat) (g : Nat → Int32)  (h0 : Heap) (n0 : Nat) (Z0 : n0 ≤ h0.size) (hn : n ≤ 56) (hi : i < n) (O : Old Z n0 h0) (SK : StrSta Z) (S : Str Z h0 o n g) (hB : isB (g i))  :
    MF l Z (⟨"java/lang/String", "charAt", "(I)C"⟩ : MethodName) jdk_42_method_56_code 2 (some .char) ws (rM 3 50 0 0) #[(.ref o), (.int (iN i))] h0 (QI (g i) h0 n0) := by
  refine zBody pn_6 (fun m => ef_6 m o (iN i)) ?_
  intro p e s m below meth c s₁ Bd hx hby hml hown hZ hh X0 e0 pre0
  have hD := dk hby d6
  have N0 := Fr.nil n0
  obtain ⟨EO, b, FV, FC, FB⟩ := S
  obtain ⟨T23, L23, X23, e23, N23, st23⟩ := zV X0 hx hZ hown e0 EO N0 (hwi hw 37 rfl) (hwi hw 38 rfl) (hwi hw 40 rfl) (hwi hw 39 rfl) (hwi hw 41 rfl) (hwi hw 9 rfl) (rmIL0 l Z a0 hw [] o h0 n0 Z0 O SK EO FC) 1 #[vR o, vI (iN i)] [(.ref o)] hml pd_6 (hD 1 rfl) 0
  obtain ⟨T24, X24, e24, st24⟩ := zF X23 hx hZ hown (hwi hw 24 rfl) e23 FV 8 #[vR o, vI (iN i)] [] (hD 4 rfl)
  obtain ⟨T25, L25, X25, e25, N25, st25⟩ := zT X24 hx hZ hown e24 N23 (hwi hw 42 rfl) (hwi hw 43 rfl) (hwi hw 44 rfl) (hwi hw 45 rfl) (rmLCA l Z a0 hw [] b i n g h0 n0 Z0 hn hi O SK FB hB) 12 #[vR o, vI (iN i)] [(.int (iN i)), (.ref b)] hml pd_7 (hD 6 rfl) 0
  refine zLv Bd X25 (v := some (.int (nar .char (g i)))) (by decide) nofun (fun fs hr => pre0 _ ?_) (by rw [e25]; exact ⟨by rw [nar_id (isCh_of hB)], N25, rfl⟩)
  refine zA X0 hx (hD 0 rfl) rfl rfl ?_
  refine st23 _ ?_
  refine zJ X23 hx (hD 2 rfl) ((if0 _ _).trans (feq (by decide : ¬ ((1 : Int32) = 0))).1) ?_
  refine zA X23 hx (hD 3 rfl) rfl rfl ?_
  refine st24 _ ?_
  refine zL X24 hx (hD 5 rfl) rfl ?_
  refine st25 _ ?_
  show Steps p.tables e below (T25.setTop (mkF m 15 #[vR o, vI (iN i)] [(.int (g i))])) _
  exact retN X25 hx (t := .char) Bd.returns (by simp) (hD 7 rfl) hr
theorem rmLEN (hw : HW Z a0) (ws : List Jvm.Cond) (o : Addr) (n : Nat) (g : Nat → Int32)  (h0 : Heap) (n0 : Nat) (Z0 : n0 ≤ h0.size) (hn : n ≤ 56) (O : Old Z n0 h0) (SK : StrSta Z) (S : Str Z h0 o n g)  :
    MF l Z (⟨"java/lang/String", "length", "()I"⟩ : MethodName) jdk_42_method_54_code 1 (some .int) ws (rM 1 14 0 0) #[(.ref o)] h0 (QI (Int32.ofNat n) h0 n0) := by
  obtain ⟨EO, b, FV, FC, FB⟩ := S
  exact rmLEN0 l Z a0 hw ws o b n _ h0 n0 Z0 hn O SK EO FC FV FB
section VKit
variable {p : Program} {l : Launch} {e : Env} {R : Room} {s : State} {m : MethodId} {args : Array Value} {below : List Frame} {meth : Method} {c : Code} {T : State} {locs : List Loc} {cells slots : Nat} {Z : State} {a0 : Array Value} {h : Heap} {n0 index n : Nat} {own : String} {o : Addr} {g : Nat → Int32}
theorem vLEN (X : Stand p l e R s m args below meth c T locs cells slots) (hx : p.tables.exec = Jvm.exec) (hZ : Z.Warmed39 s.vm) (hown : s.vm.findClass own = some m.cls) (eT : T.heap = h) (N : Fr n0 locs) (hw : HW Z a0) (w1 : (Cond.methodLink own index (⟨"java/lang/String", "length", "()I"⟩ : MethodName)).before a0 Z = true) (Zp : n0 ≤ h.size) (hn : n ≤ 56) (O : Old Z n0 h) (SK : StrSta Z) (S : Str Z h o n g) (pc : Nat) (L : Array Slot) (rest : List Value) (hml : c.maxLocals = L.size) (hd : decode c.code pc = .ok (.invokevirtual index, 3)) (W : Nat) (hr : 1 + 1 ≤ R.frames ∧ W + (1 + 11) + 14 ≤ R.locals ∧ cells ≤ R.cells ∧ slots ≤ R.slots := by decide) (hW : (rest.map fun v => v.category).sum = W := by exact rfl) :
    ∃ (T' : State) (L1 : List Loc), Stand p l e R s m args below meth c T' L1 cells slots ∧ T'.heap = h ∧ Fr n0 L1 ∧ ∀ target, Steps p.tables e below (T'.setTop (mkF m (pc + 3) L (.int (Int32.ofNat n) :: rest))) target → Steps p.tables e below (T.setTop (mkF m pc L (.ref o :: rest))) target := by
  exact zV X hx hZ hown eT S.1 N w1 (hwi hw 20 rfl) (hwi hw 22 rfl) (hwi hw 21 rfl) (hwi hw 23 rfl) (hwi hw 9 rfl) (rmLEN l Z a0 hw [] o n g h n0 Zp hn O SK S) pc L (.ref o :: rest) hml pd_3 hd W (hr := hr) (hW := hW)
theorem vCA (X : Stand p l e R s m args below meth c T locs cells slots) (hx : p.tables.exec = Jvm.exec) (hZ : Z.Warmed39 s.vm) (hown : s.vm.findClass own = some m.cls) (eT : T.heap = h) (N : Fr n0 locs) (hw : HW Z a0) (w1 : (Cond.methodLink own index (⟨"java/lang/String", "charAt", "(I)C"⟩ : MethodName)).before a0 Z = true) (Zp : n0 ≤ h.size) (hn : n ≤ 56) (i : Nat) (z : Int32) (hi : i < n) (O : Old Z n0 h) (SK : StrSta Z) (S : Str Z h o n g) (hB : isB (g i)) (pc : Nat) (L : Array Slot) (rest : List Value) (hml : c.maxLocals = L.size) (hd : decode c.code pc = .ok (.invokevirtual index, 3)) (W : Nat) (hr : 3 + 1 ≤ R.frames ∧ W + (2 + 11) + 50 ≤ R.locals ∧ cells ≤ R.cells ∧ slots ≤ R.slots := by decide) (hW : (rest.map fun v => v.category).sum = W := by exact rfl) (hz : z = Int32.ofNat i := by exact rfl) :
    ∃ (T' : State) (L1 : List Loc), Stand p l e R s m args below meth c T' L1 cells slots ∧ T'.heap = h ∧ Fr n0 L1 ∧ ∀ target, Steps p.tables e below (T'.setTop (mkF m (pc + 3) L (.int (g i) :: rest))) target → Steps p.tables e below (T.setTop (mkF m pc L (.int z :: .ref o :: rest))) target := by
  subst hz
  exact zV X hx hZ hown eT S.1 N w1 (hwi hw 33 rfl) (hwi hw 35 rfl) (hwi hw 34 rfl) (hwi hw 36 rfl) (hwi hw 9 rfl) (rmCA l Z a0 hw [] o i n g h n0 Zp hn hi O SK S hB) pc L (.int (Int32.ofNat i) :: .ref o :: rest) hml pd_5 hd W (hr := hr) (hW := hW)
end VKit
def D22 : List (Nat × Instr × Nat) := [(0, .iload_n 0, 1), (1, .bipush 32, 2), (3, .if_icmp .eq 33, 3), (6, .iload_n 0, 1), (7, .bipush 9, 2), (9, .if_icmp .eq 27, 3), (12, .iload_n 0, 1), (13, .bipush 10, 2), (15, .if_icmp .eq 21, 3), (18, .iload_n 0, 1), (19, .bipush 13, 2), (21, .if_icmp .eq 15, 3), (24, .iload_n 0, 1), (25, .bipush 12, 2), (27, .if_icmp .eq 9, 3), (30, .iload_n 0, 1), (31, .bipush 11, 2), (33, .if_icmp .ne 7, 3), (36, .iconst 1, 1), (37, .goto 4, 3), (40, .iconst 0, 1), (41, .ireturn, 1)]
theorem d22 : ∀ x ∈ D22, decode prog_11_method_16_code x.1 = .ok x.2 := by decide +kernel
theorem pn_22 : plainName "com/example/killdeer/killdeer/EndingStatements" = true := by first | (simp [plainName, overriddenIn]; done) | decide +kernel
theorem ef_22 (m : MethodId) (x0 : Int32) : entryFrame m #[(.int x0)] 1 = mkF m 0 #[.val (.int x0)] [] := by first | (simp [entryFrame, mkF, argsToLocals, Value.category]; done) | rfl
def f_sp (x : Int32) : Int32 := if x = (32 : Int32) then (1 : Int32) else if x = (9 : Int32) then (1 : Int32) else if x = (10 : Int32) then (1 : Int32) else if x = (13 : Int32) then (1 : Int32) else if x = (12 : Int32) then (1 : Int32) else if x = (11 : Int32) then (1 : Int32) else (0 : Int32)
theorem rm_sp (hw : HW Z a0) (ws : List Jvm.Cond) (x : Int32)  (h0 : Heap) (n0 : Nat) (Z0 : n0 ≤ h0.size)   :
    MF l Z (⟨"com/example/killdeer/killdeer/EndingStatements", "isSpace", "(C)Z"⟩ : MethodName) prog_11_method_16_code 1 (some .boolean) ws (rM 0 0 0 0) #[(.int x)] h0 (QI (f_sp x) h0 n0) := by
  refine zBody pn_22 (fun m => ef_22 m x) ?_
  intro p e s m below meth c s₁ Bd hx hby hml hown hZ hh X0 e0 pre0
  have hD := dk hby d22
  have N0 := Fr.nil n0
  have pq : ∀ zz, Steps p.tables e below (s₁.setTop (mkF m 3 #[vI x] [(.int 32), (.int x)])) zz → Steps p.tables e below (s₁.setTop (entryFrame m #[(.int x)] 1)) zz := by
    intro zz kz_
    refine pre0 zz ?_
    refine zL X0 hx (hD 0 rfl) rfl ?_
    refine zB X0 hx (hD 1 rfl) ?_
    exact kz_
  by_cases hc3 : x = (32 : Int32)
  ·refine zLv Bd X0 (v := some (.int 1)) (by decide) nofun (fun fs hr => pq _ ?_) (by rw [e0]; exact ⟨by rw [f_sp, if_pos hc3], N0, rfl⟩)
   refine zM X0 hx 36 (hD 2 rfl) (teq hc3).1 rfl ?_
   refine zC X0 hx (hD 18 rfl) ?_
   refine zG X0 hx 41 (hD 19 rfl) rfl ?_
   exact retN X0 hx (t := .boolean) Bd.returns (by simp) (hD 21 rfl) hr
  ·have pqb : ∀ zz, Steps p.tables e below (s₁.setTop (mkF m 9 #[vI x] [(.int 9), (.int x)])) zz → Steps p.tables e below (s₁.setTop (entryFrame m #[(.int x)] 1)) zz := by
     intro zz kz_
     refine pq zz ?_
     refine zN X0 hx (hD 2 rfl) (feq hc3).1 ?_
     refine zL X0 hx (hD 3 rfl) rfl ?_
     refine zB X0 hx (hD 4 rfl) ?_
     exact kz_
   by_cases hc9 : x = (9 : Int32)
   ·refine zLv Bd X0 (v := some (.int 1)) (by decide) nofun (fun fs hr => pqb _ ?_) (by rw [e0]; exact ⟨by rw [f_sp, if_neg hc3, if_pos hc9], N0, rfl⟩)
    refine zM X0 hx 36 (hD 5 rfl) (teq hc9).1 rfl ?_
    refine zC X0 hx (hD 18 rfl) ?_
    refine zG X0 hx 41 (hD 19 rfl) rfl ?_
    exact retN X0 hx (t := .boolean) Bd.returns (by simp) (hD 21 rfl) hr
   ·have pqbb : ∀ zz, Steps p.tables e below (s₁.setTop (mkF m 15 #[vI x] [(.int 10), (.int x)])) zz → Steps p.tables e below (s₁.setTop (entryFrame m #[(.int x)] 1)) zz := by
      intro zz kz_
      refine pqb zz ?_
      refine zN X0 hx (hD 5 rfl) (feq hc9).1 ?_
      refine zL X0 hx (hD 6 rfl) rfl ?_
      refine zB X0 hx (hD 7 rfl) ?_
      exact kz_
    by_cases hc15 : x = (10 : Int32)
    ·refine zLv Bd X0 (v := some (.int 1)) (by decide) nofun (fun fs hr => pqbb _ ?_) (by rw [e0]; exact ⟨by rw [f_sp, if_neg hc3, if_neg hc9, if_pos hc15], N0, rfl⟩)
     refine zM X0 hx 36 (hD 8 rfl) (teq hc15).1 rfl ?_
     refine zC X0 hx (hD 18 rfl) ?_
     refine zG X0 hx 41 (hD 19 rfl) rfl ?_
     exact retN X0 hx (t := .boolean) Bd.returns (by simp) (hD 21 rfl) hr
    ·have pqbbb : ∀ zz, Steps p.tables e below (s₁.setTop (mkF m 21 #[vI x] [(.int 13), (.int x)])) zz → Steps p.tables e below (s₁.setTop (entryFrame m #[(.int x)] 1)) zz := by
       intro zz kz_
       refine pqbb zz ?_
       refine zN X0 hx (hD 8 rfl) (feq hc15).1 ?_
       refine zL X0 hx (hD 9 rfl) rfl ?_
       refine zB X0 hx (hD 10 rfl) ?_
       exact kz_
     by_cases hc21 : x = (13 : Int32)
     ·refine zLv Bd X0 (v := some (.int 1)) (by decide) nofun (fun fs hr => pqbbb _ ?_) (by rw [e0]; exact ⟨by rw [f_sp, if_neg hc3, if_neg hc9, if_neg hc15, if_pos hc21], N0, rfl⟩)
      refine zM X0 hx 36 (hD 11 rfl) (teq hc21).1 rfl ?_
      refine zC X0 hx (hD 18 rfl) ?_
      refine zG X0 hx 41 (hD 19 rfl) rfl ?_
      exact retN X0 hx (t := .boolean) Bd.returns (by simp) (hD 21 rfl) hr
     ·have pqbbbb : ∀ zz, Steps p.tables e below (s₁.setTop (mkF m 27 #[vI x] [(.int 12), (.int x)])) zz → Steps p.tables e below (s₁.setTop (entryFrame m #[(.int x)] 1)) zz := by
        intro zz kz_
        refine pqbbb zz ?_
        refine zN X0 hx (hD 11 rfl) (feq hc21).1 ?_
        refine zL X0 hx (hD 12 rfl) rfl ?_
        refine zB X0 hx (hD 13 rfl) ?_
        exact kz_
      by_cases hc27 : x = (12 : Int32)
      ·refine zLv Bd X0 (v := some (.int 1)) (by decide) nofun (fun fs hr => pqbbbb _ ?_) (by rw [e0]; exact ⟨by rw [f_sp, if_neg hc3, if_neg hc9, if_neg hc15, if_neg hc21, if_pos hc27], N0, rfl⟩)
       refine zM X0 hx 36 (hD 14 rfl) (teq hc27).1 rfl ?_
       refine zC X0 hx (hD 18 rfl) ?_
       refine zG X0 hx 41 (hD 19 rfl) rfl ?_
       exact retN X0 hx (t := .boolean) Bd.returns (by simp) (hD 21 rfl) hr
      ·have pqbbbbb : ∀ zz, Steps p.tables e below (s₁.setTop (mkF m 33 #[vI x] [(.int 11), (.int x)])) zz → Steps p.tables e below (s₁.setTop (entryFrame m #[(.int x)] 1)) zz := by
         intro zz kz_
         refine pqbbbb zz ?_
         refine zN X0 hx (hD 14 rfl) (feq hc27).1 ?_
         refine zL X0 hx (hD 15 rfl) rfl ?_
         refine zB X0 hx (hD 16 rfl) ?_
         exact kz_
       by_cases hc33 : x = (11 : Int32)
       ·refine zLv Bd X0 (v := some (.int 1)) (by decide) nofun (fun fs hr => pqbbbbb _ ?_) (by rw [e0]; exact ⟨by rw [f_sp, if_neg hc3, if_neg hc9, if_neg hc15, if_neg hc21, if_neg hc27, if_pos hc33], N0, rfl⟩)
        refine zN X0 hx (hD 17 rfl) (teq hc33).2 ?_
        refine zC X0 hx (hD 18 rfl) ?_
        refine zG X0 hx 41 (hD 19 rfl) rfl ?_
        exact retN X0 hx (t := .boolean) Bd.returns (by simp) (hD 21 rfl) hr
       ·refine zLv Bd X0 (v := some (.int 0)) (by decide) nofun (fun fs hr => pqbbbbb _ ?_) (by rw [e0]; exact ⟨by rw [f_sp, if_neg hc3, if_neg hc9, if_neg hc15, if_neg hc21, if_neg hc27, if_neg hc33], N0, rfl⟩)
        refine zM X0 hx 40 (hD 17 rfl) (feq hc33).2 rfl ?_
        refine zC X0 hx (hD 20 rfl) ?_
        exact retN X0 hx (t := .boolean) Bd.returns (by simp) (hD 21 rfl) hr
def D28 : List (Nat × Instr × Nat) := [(0, .iload_n 0, 1), (1, .bipush 48, 2), (3, .if_icmp .lt 13, 3), (6, .iload_n 0, 1), (7, .bipush 57, 2), (9, .if_icmp .gt 7, 3), (12, .iconst 1, 1), (13, .goto 4, 3), (16, .iconst 0, 1), (17, .ireturn, 1)]
theorem d28 : ∀ x ∈ D28, decode prog_11_method_20_code x.1 = .ok x.2 := by decide +kernel
theorem pn_28 : plainName "com/example/killdeer/killdeer/EndingStatements" = true := by first | (simp [plainName, overriddenIn]; done) | decide +kernel
theorem ef_28 (m : MethodId) (x0 : Int32) : entryFrame m #[(.int x0)] 1 = mkF m 0 #[.val (.int x0)] [] := by first | (simp [entryFrame, mkF, argsToLocals, Value.category]; done) | rfl
def f_dg (x : Int32) : Int32 := if x < (48 : Int32) then (0 : Int32) else if (57 : Int32) < x then (0 : Int32) else (1 : Int32)
theorem rm_dg (hw : HW Z a0) (ws : List Jvm.Cond) (x : Int32)  (h0 : Heap) (n0 : Nat) (Z0 : n0 ≤ h0.size)   :
    MF l Z (⟨"com/example/killdeer/killdeer/EndingStatements", "isDigit", "(C)Z"⟩ : MethodName) prog_11_method_20_code 1 (some .boolean) ws (rM 0 0 0 0) #[(.int x)] h0 (QI (f_dg x) h0 n0) := by
  refine zBody pn_28 (fun m => ef_28 m x) ?_
  intro p e s m below meth c s₁ Bd hx hby hml hown hZ hh X0 e0 pre0
  have hD := dk hby d28
  have N0 := Fr.nil n0
  have pq : ∀ zz, Steps p.tables e below (s₁.setTop (mkF m 3 #[vI x] [(.int 48), (.int x)])) zz → Steps p.tables e below (s₁.setTop (entryFrame m #[(.int x)] 1)) zz := by
    intro zz kz_
    refine pre0 zz ?_
    refine zL X0 hx (hD 0 rfl) rfl ?_
    refine zB X0 hx (hD 1 rfl) ?_
    exact kz_
  by_cases hc3 : x < (48 : Int32)
  ·refine zLv Bd X0 (v := some (.int 0)) (by decide) nofun (fun fs hr => pq _ ?_) (by rw [e0]; exact ⟨by rw [f_dg, if_pos hc3], N0, rfl⟩)
   refine zM X0 hx 16 (hD 2 rfl) (tlt hc3).1 rfl ?_
   refine zC X0 hx (hD 8 rfl) ?_
   exact retN X0 hx (t := .boolean) Bd.returns (by simp) (hD 9 rfl) hr
  ·have pqb : ∀ zz, Steps p.tables e below (s₁.setTop (mkF m 9 #[vI x] [(.int 57), (.int x)])) zz → Steps p.tables e below (s₁.setTop (entryFrame m #[(.int x)] 1)) zz := by
     intro zz kz_
     refine pq zz ?_
     refine zN X0 hx (hD 2 rfl) (flt hc3).1 ?_
     refine zL X0 hx (hD 3 rfl) rfl ?_
     refine zB X0 hx (hD 4 rfl) ?_
     exact kz_
   by_cases hc9 : (57 : Int32) < x
   ·refine zLv Bd X0 (v := some (.int 0)) (by decide) nofun (fun fs hr => pqb _ ?_) (by rw [e0]; exact ⟨by rw [f_dg, if_neg hc3, if_pos hc9], N0, rfl⟩)
    refine zM X0 hx 16 (hD 5 rfl) (tlt hc9).2.2.1 rfl ?_
    refine zC X0 hx (hD 8 rfl) ?_
    exact retN X0 hx (t := .boolean) Bd.returns (by simp) (hD 9 rfl) hr
   ·refine zLv Bd X0 (v := some (.int 1)) (by decide) nofun (fun fs hr => pqb _ ?_) (by rw [e0]; exact ⟨by rw [f_dg, if_neg hc3, if_neg hc9], N0, rfl⟩)
    refine zN X0 hx (hD 5 rfl) (flt hc9).2.2.1 ?_
    refine zC X0 hx (hD 6 rfl) ?_
    refine zG X0 hx 17 (hD 7 rfl) rfl ?_
    exact retN X0 hx (t := .boolean) Bd.returns (by simp) (hD 9 rfl) hr
def D25 : List (Nat × Instr × Nat) := [(0, .iload_n 0, 1), (1, .bipush 97, 2), (3, .if_icmp .lt 9, 3), (6, .iload_n 0, 1), (7, .bipush 122, 2), (9, .if_icmp .le 28, 3), (12, .iload_n 0, 1), (13, .bipush 65, 2), (15, .if_icmp .lt 9, 3), (18, .iload_n 0, 1), (19, .bipush 90, 2), (21, .if_icmp .le 16, 3), (24, .iload_n 0, 1), (25, .bipush 95, 2), (27, .if_icmp .eq 10, 3), (30, .iload_n 0, 1), (31, .sipush 128, 3), (34, .if_icmp .lt 7, 3), (37, .iconst 1, 1), (38, .goto 4, 3), (41, .iconst 0, 1), (42, .ireturn, 1)]
theorem d25 : ∀ x ∈ D25, decode prog_11_method_17_code x.1 = .ok x.2 := by decide +kernel
theorem pn_25 : plainName "com/example/killdeer/killdeer/EndingStatements" = true := by first | (simp [plainName, overriddenIn]; done) | decide +kernel
theorem ef_25 (m : MethodId) (x0 : Int32) : entryFrame m #[(.int x0)] 1 = mkF m 0 #[.val (.int x0)] [] := by first | (simp [entryFrame, mkF, argsToLocals, Value.category]; done) | rfl
def f_is (x : Int32) : Int32 := if x < (97 : Int32) then if x < (65 : Int32) then if x = (95 : Int32) then (1 : Int32) else if x < (128 : Int32) then (0 : Int32) else (1 : Int32) else if (90 : Int32) < x then if x = (95 : Int32) then (1 : Int32) else if x < (128 : Int32) then (0 : Int32) else (1 : Int32) else (1 : Int32) else if (122 : Int32) < x then if x < (65 : Int32) then if x = (95 : Int32) then (1 : Int32) else if x < (128 : Int32) then (0 : Int32) else (1 : Int32) else if (90 : Int32) < x then if x = (95 : Int32) then (1 : Int32) else if x < (128 : Int32) then (0 : Int32) else (1 : Int32) else (1 : Int32) else (1 : Int32)
theorem rm_is (hw : HW Z a0) (ws : List Jvm.Cond) (x : Int32)  (h0 : Heap) (n0 : Nat) (Z0 : n0 ≤ h0.size)   :
    MF l Z (⟨"com/example/killdeer/killdeer/EndingStatements", "isIdentifierStart", "(C)Z"⟩ : MethodName) prog_11_method_17_code 1 (some .boolean) ws (rM 0 0 0 0) #[(.int x)] h0 (QI (f_is x) h0 n0) := by
  refine zBody pn_25 (fun m => ef_25 m x) ?_
  intro p e s m below meth c s₁ Bd hx hby hml hown hZ hh X0 e0 pre0
  have hD := dk hby d25
  have N0 := Fr.nil n0
  have pq : ∀ zz, Steps p.tables e below (s₁.setTop (mkF m 3 #[vI x] [(.int 97), (.int x)])) zz → Steps p.tables e below (s₁.setTop (entryFrame m #[(.int x)] 1)) zz := by
    intro zz kz_
    refine pre0 zz ?_
    refine zL X0 hx (hD 0 rfl) rfl ?_
    refine zB X0 hx (hD 1 rfl) ?_
    exact kz_
  by_cases hc3 : x < (97 : Int32)
  ·have pqa : ∀ zz, Steps p.tables e below (s₁.setTop (mkF m 15 #[vI x] [(.int 65), (.int x)])) zz → Steps p.tables e below (s₁.setTop (entryFrame m #[(.int x)] 1)) zz := by
     intro zz kz_
     refine pq zz ?_
     refine zM X0 hx 12 (hD 2 rfl) (tlt hc3).1 rfl ?_
     refine zL X0 hx (hD 6 rfl) rfl ?_
     refine zB X0 hx (hD 7 rfl) ?_
     exact kz_
   by_cases hc15 : x < (65 : Int32)
   ·have pqaa : ∀ zz, Steps p.tables e below (s₁.setTop (mkF m 27 #[vI x] [(.int 95), (.int x)])) zz → Steps p.tables e below (s₁.setTop (entryFrame m #[(.int x)] 1)) zz := by
      intro zz kz_
      refine pqa zz ?_
      refine zM X0 hx 24 (hD 8 rfl) (tlt hc15).1 rfl ?_
      refine zL X0 hx (hD 12 rfl) rfl ?_
      refine zB X0 hx (hD 13 rfl) ?_
      exact kz_
    by_cases hc27 : x = (95 : Int32)
    ·refine zLv Bd X0 (v := some (.int 1)) (by decide) nofun (fun fs hr => pqaa _ ?_) (by rw [e0]; exact ⟨by rw [f_is, if_pos hc3, if_pos hc15, if_pos hc27], N0, rfl⟩)
     refine zM X0 hx 37 (hD 14 rfl) (teq hc27).1 rfl ?_
     refine zC X0 hx (hD 18 rfl) ?_
     refine zG X0 hx 42 (hD 19 rfl) rfl ?_
     exact retN X0 hx (t := .boolean) Bd.returns (by simp) (hD 21 rfl) hr
    ·have pqaab : ∀ zz, Steps p.tables e below (s₁.setTop (mkF m 34 #[vI x] [(.int 128), (.int x)])) zz → Steps p.tables e below (s₁.setTop (entryFrame m #[(.int x)] 1)) zz := by
       intro zz kz_
       refine pqaa zz ?_
       refine zN X0 hx (hD 14 rfl) (feq hc27).1 ?_
       refine zL X0 hx (hD 15 rfl) rfl ?_
       refine XS.sipush X0.here hx rfl (hD 16 rfl) ?_
       exact kz_
     by_cases hc34 : x < (128 : Int32)
     ·refine zLv Bd X0 (v := some (.int 0)) (by decide) nofun (fun fs hr => pqaab _ ?_) (by rw [e0]; exact ⟨by rw [f_is, if_pos hc3, if_pos hc15, if_neg hc27, if_pos hc34], N0, rfl⟩)
      refine zM X0 hx 41 (hD 17 rfl) (tlt hc34).1 rfl ?_
      refine zC X0 hx (hD 20 rfl) ?_
      exact retN X0 hx (t := .boolean) Bd.returns (by simp) (hD 21 rfl) hr
     ·refine zLv Bd X0 (v := some (.int 1)) (by decide) nofun (fun fs hr => pqaab _ ?_) (by rw [e0]; exact ⟨by rw [f_is, if_pos hc3, if_pos hc15, if_neg hc27, if_neg hc34], N0, rfl⟩)
      refine zN X0 hx (hD 17 rfl) (flt hc34).1 ?_
      refine zC X0 hx (hD 18 rfl) ?_
      refine zG X0 hx 42 (hD 19 rfl) rfl ?_
      exact retN X0 hx (t := .boolean) Bd.returns (by simp) (hD 21 rfl) hr
   ·have pqab : ∀ zz, Steps p.tables e below (s₁.setTop (mkF m 21 #[vI x] [(.int 90), (.int x)])) zz → Steps p.tables e below (s₁.setTop (entryFrame m #[(.int x)] 1)) zz := by
      intro zz kz_
      refine pqa zz ?_
      refine zN X0 hx (hD 8 rfl) (flt hc15).1 ?_
      refine zL X0 hx (hD 9 rfl) rfl ?_
      refine zB X0 hx (hD 10 rfl) ?_
      exact kz_
    by_cases hc21 : (90 : Int32) < x
    ·have pqaba : ∀ zz, Steps p.tables e below (s₁.setTop (mkF m 27 #[vI x] [(.int 95), (.int x)])) zz → Steps p.tables e below (s₁.setTop (entryFrame m #[(.int x)] 1)) zz := by
       intro zz kz_
       refine pqab zz ?_
       refine zN X0 hx (hD 11 rfl) (tlt hc21).2.2.2 ?_
       refine zL X0 hx (hD 12 rfl) rfl ?_
       refine zB X0 hx (hD 13 rfl) ?_
       exact kz_
     by_cases hc27 : x = (95 : Int32)
     ·refine zLv Bd X0 (v := some (.int 1)) (by decide) nofun (fun fs hr => pqaba _ ?_) (by rw [e0]; exact ⟨by rw [f_is, if_pos hc3, if_neg hc15, if_pos hc21, if_pos hc27], N0, rfl⟩)
      refine zM X0 hx 37 (hD 14 rfl) (teq hc27).1 rfl ?_
      refine zC X0 hx (hD 18 rfl) ?_
      refine zG X0 hx 42 (hD 19 rfl) rfl ?_
      exact retN X0 hx (t := .boolean) Bd.returns (by simp) (hD 21 rfl) hr
     ·have pqabab : ∀ zz, Steps p.tables e below (s₁.setTop (mkF m 34 #[vI x] [(.int 128), (.int x)])) zz → Steps p.tables e below (s₁.setTop (entryFrame m #[(.int x)] 1)) zz := by
        intro zz kz_
        refine pqaba zz ?_
        refine zN X0 hx (hD 14 rfl) (feq hc27).1 ?_
        refine zL X0 hx (hD 15 rfl) rfl ?_
        refine XS.sipush X0.here hx rfl (hD 16 rfl) ?_
        exact kz_
      by_cases hc34 : x < (128 : Int32)
      ·refine zLv Bd X0 (v := some (.int 0)) (by decide) nofun (fun fs hr => pqabab _ ?_) (by rw [e0]; exact ⟨by rw [f_is, if_pos hc3, if_neg hc15, if_pos hc21, if_neg hc27, if_pos hc34], N0, rfl⟩)
       refine zM X0 hx 41 (hD 17 rfl) (tlt hc34).1 rfl ?_
       refine zC X0 hx (hD 20 rfl) ?_
       exact retN X0 hx (t := .boolean) Bd.returns (by simp) (hD 21 rfl) hr
      ·refine zLv Bd X0 (v := some (.int 1)) (by decide) nofun (fun fs hr => pqabab _ ?_) (by rw [e0]; exact ⟨by rw [f_is, if_pos hc3, if_neg hc15, if_pos hc21, if_neg hc27, if_neg hc34], N0, rfl⟩)
       refine zN X0 hx (hD 17 rfl) (flt hc34).1 ?_
       refine zC X0 hx (hD 18 rfl) ?_
       refine zG X0 hx 42 (hD 19 rfl) rfl ?_
       exact retN X0 hx (t := .boolean) Bd.returns (by simp) (hD 21 rfl) hr
    ·refine zLv Bd X0 (v := some (.int 1)) (by decide) nofun (fun fs hr => pqab _ ?_) (by rw [e0]; exact ⟨by rw [f_is, if_pos hc3, if_neg hc15, if_neg hc21], N0, rfl⟩)
     refine zM X0 hx 37 (hD 11 rfl) (flt hc21).2.2.2 rfl ?_
     refine zC X0 hx (hD 18 rfl) ?_
     refine zG X0 hx 42 (hD 19 rfl) rfl ?_
     exact retN X0 hx (t := .boolean) Bd.returns (by simp) (hD 21 rfl) hr
  ·have pqb : ∀ zz, Steps p.tables e below (s₁.setTop (mkF m 9 #[vI x] [(.int 122), (.int x)])) zz → Steps p.tables e below (s₁.setTop (entryFrame m #[(.int x)] 1)) zz := by
     intro zz kz_
     refine pq zz ?_
     refine zN X0 hx (hD 2 rfl) (flt hc3).1 ?_
     refine zL X0 hx (hD 3 rfl) rfl ?_
     refine zB X0 hx (hD 4 rfl) ?_
     exact kz_
   by_cases hc9 : (122 : Int32) < x
   ·have pqba : ∀ zz, Steps p.tables e below (s₁.setTop (mkF m 15 #[vI x] [(.int 65), (.int x)])) zz → Steps p.tables e below (s₁.setTop (entryFrame m #[(.int x)] 1)) zz := by
      intro zz kz_
      refine pqb zz ?_
      refine zN X0 hx (hD 5 rfl) (tlt hc9).2.2.2 ?_
      refine zL X0 hx (hD 6 rfl) rfl ?_
      refine zB X0 hx (hD 7 rfl) ?_
      exact kz_
    by_cases hc15 : x < (65 : Int32)
    ·have pqbaa : ∀ zz, Steps p.tables e below (s₁.setTop (mkF m 27 #[vI x] [(.int 95), (.int x)])) zz → Steps p.tables e below (s₁.setTop (entryFrame m #[(.int x)] 1)) zz := by
       intro zz kz_
       refine pqba zz ?_
       refine zM X0 hx 24 (hD 8 rfl) (tlt hc15).1 rfl ?_
       refine zL X0 hx (hD 12 rfl) rfl ?_
       refine zB X0 hx (hD 13 rfl) ?_
       exact kz_
     by_cases hc27 : x = (95 : Int32)
     ·refine zLv Bd X0 (v := some (.int 1)) (by decide) nofun (fun fs hr => pqbaa _ ?_) (by rw [e0]; exact ⟨by rw [f_is, if_neg hc3, if_pos hc9, if_pos hc15, if_pos hc27], N0, rfl⟩)
      refine zM X0 hx 37 (hD 14 rfl) (teq hc27).1 rfl ?_
      refine zC X0 hx (hD 18 rfl) ?_
      refine zG X0 hx 42 (hD 19 rfl) rfl ?_
      exact retN X0 hx (t := .boolean) Bd.returns (by simp) (hD 21 rfl) hr
     ·have pqbaab : ∀ zz, Steps p.tables e below (s₁.setTop (mkF m 34 #[vI x] [(.int 128), (.int x)])) zz → Steps p.tables e below (s₁.setTop (entryFrame m #[(.int x)] 1)) zz := by
        intro zz kz_
        refine pqbaa zz ?_
        refine zN X0 hx (hD 14 rfl) (feq hc27).1 ?_
        refine zL X0 hx (hD 15 rfl) rfl ?_
        refine XS.sipush X0.here hx rfl (hD 16 rfl) ?_
        exact kz_
      by_cases hc34 : x < (128 : Int32)
      ·refine zLv Bd X0 (v := some (.int 0)) (by decide) nofun (fun fs hr => pqbaab _ ?_) (by rw [e0]; exact ⟨by rw [f_is, if_neg hc3, if_pos hc9, if_pos hc15, if_neg hc27, if_pos hc34], N0, rfl⟩)
       refine zM X0 hx 41 (hD 17 rfl) (tlt hc34).1 rfl ?_
       refine zC X0 hx (hD 20 rfl) ?_
       exact retN X0 hx (t := .boolean) Bd.returns (by simp) (hD 21 rfl) hr
      ·refine zLv Bd X0 (v := some (.int 1)) (by decide) nofun (fun fs hr => pqbaab _ ?_) (by rw [e0]; exact ⟨by rw [f_is, if_neg hc3, if_pos hc9, if_pos hc15, if_neg hc27, if_neg hc34], N0, rfl⟩)
       refine zN X0 hx (hD 17 rfl) (flt hc34).1 ?_
       refine zC X0 hx (hD 18 rfl) ?_
       refine zG X0 hx 42 (hD 19 rfl) rfl ?_
       exact retN X0 hx (t := .boolean) Bd.returns (by simp) (hD 21 rfl) hr
    ·have pqbab : ∀ zz, Steps p.tables e below (s₁.setTop (mkF m 21 #[vI x] [(.int 90), (.int x)])) zz → Steps p.tables e below (s₁.setTop (entryFrame m #[(.int x)] 1)) zz := by
       intro zz kz_
       refine pqba zz ?_
       refine zN X0 hx (hD 8 rfl) (flt hc15).1 ?_
       refine zL X0 hx (hD 9 rfl) rfl ?_
       refine zB X0 hx (hD 10 rfl) ?_
       exact kz_
     by_cases hc21 : (90 : Int32) < x
     ·have pqbaba : ∀ zz, Steps p.tables e below (s₁.setTop (mkF m 27 #[vI x] [(.int 95), (.int x)])) zz → Steps p.tables e below (s₁.setTop (entryFrame m #[(.int x)] 1)) zz := by
        intro zz kz_
        refine pqbab zz ?_
        refine zN X0 hx (hD 11 rfl) (tlt hc21).2.2.2 ?_
        refine zL X0 hx (hD 12 rfl) rfl ?_
        refine zB X0 hx (hD 13 rfl) ?_
        exact kz_
      by_cases hc27 : x = (95 : Int32)
      ·refine zLv Bd X0 (v := some (.int 1)) (by decide) nofun (fun fs hr => pqbaba _ ?_) (by rw [e0]; exact ⟨by rw [f_is, if_neg hc3, if_pos hc9, if_neg hc15, if_pos hc21, if_pos hc27], N0, rfl⟩)
       refine zM X0 hx 37 (hD 14 rfl) (teq hc27).1 rfl ?_
       refine zC X0 hx (hD 18 rfl) ?_
       refine zG X0 hx 42 (hD 19 rfl) rfl ?_
       exact retN X0 hx (t := .boolean) Bd.returns (by simp) (hD 21 rfl) hr
      ·have pqbabab : ∀ zz, Steps p.tables e below (s₁.setTop (mkF m 34 #[vI x] [(.int 128), (.int x)])) zz → Steps p.tables e below (s₁.setTop (entryFrame m #[(.int x)] 1)) zz := by
         intro zz kz_
         refine pqbaba zz ?_
         refine zN X0 hx (hD 14 rfl) (feq hc27).1 ?_
         refine zL X0 hx (hD 15 rfl) rfl ?_
         refine XS.sipush X0.here hx rfl (hD 16 rfl) ?_
         exact kz_
       by_cases hc34 : x < (128 : Int32)
       ·refine zLv Bd X0 (v := some (.int 0)) (by decide) nofun (fun fs hr => pqbabab _ ?_) (by rw [e0]; exact ⟨by rw [f_is, if_neg hc3, if_pos hc9, if_neg hc15, if_pos hc21, if_neg hc27, if_pos hc34], N0, rfl⟩)
        refine zM X0 hx 41 (hD 17 rfl) (tlt hc34).1 rfl ?_
        refine zC X0 hx (hD 20 rfl) ?_
        exact retN X0 hx (t := .boolean) Bd.returns (by simp) (hD 21 rfl) hr
       ·refine zLv Bd X0 (v := some (.int 1)) (by decide) nofun (fun fs hr => pqbabab _ ?_) (by rw [e0]; exact ⟨by rw [f_is, if_neg hc3, if_pos hc9, if_neg hc15, if_pos hc21, if_neg hc27, if_neg hc34], N0, rfl⟩)
        refine zN X0 hx (hD 17 rfl) (flt hc34).1 ?_
        refine zC X0 hx (hD 18 rfl) ?_
        refine zG X0 hx 42 (hD 19 rfl) rfl ?_
        exact retN X0 hx (t := .boolean) Bd.returns (by simp) (hD 21 rfl) hr
     ·refine zLv Bd X0 (v := some (.int 1)) (by decide) nofun (fun fs hr => pqbab _ ?_) (by rw [e0]; exact ⟨by rw [f_is, if_neg hc3, if_pos hc9, if_neg hc15, if_neg hc21], N0, rfl⟩)
      refine zM X0 hx 37 (hD 11 rfl) (flt hc21).2.2.2 rfl ?_
      refine zC X0 hx (hD 18 rfl) ?_
      refine zG X0 hx 42 (hD 19 rfl) rfl ?_
      exact retN X0 hx (t := .boolean) Bd.returns (by simp) (hD 21 rfl) hr
   ·refine zLv Bd X0 (v := some (.int 1)) (by decide) nofun (fun fs hr => pqb _ ?_) (by rw [e0]; exact ⟨by rw [f_is, if_neg hc3, if_neg hc9], N0, rfl⟩)
    refine zM X0 hx 37 (hD 5 rfl) (flt hc9).2.2.2 rfl ?_
    refine zC X0 hx (hD 18 rfl) ?_
    refine zG X0 hx 42 (hD 19 rfl) rfl ?_
    exact retN X0 hx (t := .boolean) Bd.returns (by simp) (hD 21 rfl) hr
def D27 : List (Nat × Instr × Nat) := [(0, .iload_n 0, 1), (1, .invokestatic 113, 3), (4, .ifCond .ne 16, 3), (7, .iload_n 0, 1), (8, .invokestatic 119, 3), (11, .ifCond .ne 9, 3), (14, .iload_n 0, 1), (15, .bipush 36, 2), (17, .if_icmp .ne 7, 3), (20, .iconst 1, 1), (21, .goto 4, 3), (24, .iconst 0, 1), (25, .ireturn, 1)]
theorem d27 : ∀ x ∈ D27, decode prog_11_method_18_code x.1 = .ok x.2 := by decide +kernel
theorem pn_27 : plainName "com/example/killdeer/killdeer/EndingStatements" = true := by first | (simp [plainName, overriddenIn]; done) | decide +kernel
theorem ef_27 (m : MethodId) (x0 : Int32) : entryFrame m #[(.int x0)] 1 = mkF m 0 #[.val (.int x0)] [] := by first | (simp [entryFrame, mkF, argsToLocals, Value.category]; done) | rfl
def f_ip (x : Int32) : Int32 := if (f_is x) = (0 : Int32) then if (f_dg x) = (0 : Int32) then if x = (36 : Int32) then (1 : Int32) else (0 : Int32) else (1 : Int32) else (1 : Int32)
theorem rm_ip (hw : HW Z a0) (ws : List Jvm.Cond) (x : Int32)  (h0 : Heap) (n0 : Nat) (Z0 : n0 ≤ h0.size)   :
    MF l Z (⟨"com/example/killdeer/killdeer/EndingStatements", "isIdentifierPart", "(C)Z"⟩ : MethodName) prog_11_method_18_code 1 (some .boolean) ws (rM 1 20 0 0) #[(.int x)] h0 (QI (f_ip x) h0 n0) := by
  refine zBody pn_27 (fun m => ef_27 m x) ?_
  intro p e s m below meth c s₁ Bd hx hby hml hown hZ hh X0 e0 pre0
  have hD := dk hby d27
  have N0 := Fr.nil n0
  obtain ⟨T26, L26, X26, e26, N26, st26⟩ := zT X0 hx hZ hown e0 N0 (hwi hw 131 rfl) (hwi hw 132 rfl) (hwi hw 88 rfl) (hwi hw 133 rfl) (rm_is l Z a0 hw [] x h0 n0 Z0 ) 1 #[vI x] [(.int x)] hml pd_18 (hD 1 rfl) 0
  have pq : ∀ zz, Steps p.tables e below (T26.setTop (mkF m 4 #[vI x] [(.int (f_is x))])) zz → Steps p.tables e below (s₁.setTop (entryFrame m #[(.int x)] 1)) zz := by
    intro zz kz_
    refine pre0 zz ?_
    refine zL X0 hx (hD 0 rfl) rfl ?_
    refine st26 _ ?_
    exact kz_
  by_cases hc4 : (f_is x) = (0 : Int32)
  ·obtain ⟨_, _, ⟨T27, L27, k27, n27⟩, -, X27, ⟨Lc27, hQ27, l27, y27, z27⟩, st27⟩ := Jvm.LawKit.callS X26 hx hown (mvT hZ (hwi hw 141 rfl)) (mvT hZ (hwi hw 142 rfl)) (mvT hZ (hwi hw 88 rfl)) (mvT hZ (hwi hw 143 rfl)) (by decide) (backOf (W := 0) (rm_dg l Z a0 hw [] x h0 n0 Z0 ) hZ (hwi hw 143 rfl) (hwi hw 88 rfl) (by decide) (by decide)) (g := (mkF m 8 #[vI x] [(.int x)])) rfl (by rw [hml]; rfl) (argsL := [(.int x)]) (rest := []) (lenOf pd_18 rfl) rfl (by show 2 * 0 + _ ≤ _; exact Nat.le_of_eq rfl) (hD 4 rfl) (fun _ _ => ⟨rfl, e26, (by decide : 0 + 0 ≤ _), (by decide : 0 + 0 ≤ _)⟩)
   dsimp only [Pt.U, Pt.locs, Pt.cells, Pt.slots] at X27 l27 y27 z27 st27 hQ27
   obtain rfl : k27 = 0 := y27; obtain rfl : n27 = 0 := z27
   obtain ⟨rfl, N27q, e27⟩ := hQ27
   have N27 : Fr n0 L27 := by rw [l27]; exact Fr.app N26 N27q
   have pqa : ∀ zz, Steps p.tables e below (T27.setTop (mkF m 11 #[vI x] [(.int (f_dg x))])) zz → Steps p.tables e below (s₁.setTop (entryFrame m #[(.int x)] 1)) zz := by
     intro zz kz_
     refine pq zz ?_
     refine zJ X26 hx (hD 2 rfl) ((if0 _ _).trans (teq hc4).2) ?_
     refine zL X26 hx (hD 3 rfl) rfl ?_
     refine st27 _ ?_
     exact kz_
   by_cases hc11 : (f_dg x) = (0 : Int32)
   ·have pqaa : ∀ zz, Steps p.tables e below (T27.setTop (mkF m 17 #[vI x] [(.int 36), (.int x)])) zz → Steps p.tables e below (s₁.setTop (entryFrame m #[(.int x)] 1)) zz := by
      intro zz kz_
      refine pqa zz ?_
      refine zJ X27 hx (hD 5 rfl) ((if0 _ _).trans (teq hc11).2) ?_
      refine zL X27 hx (hD 6 rfl) rfl ?_
      refine zB X27 hx (hD 7 rfl) ?_
      exact kz_
    by_cases hc17 : x = (36 : Int32)
    ·refine zLv Bd X27 (v := some (.int 1)) (by decide) nofun (fun fs hr => pqaa _ ?_) (by rw [e27]; exact ⟨by rw [f_ip, if_pos hc4, if_pos hc11, if_pos hc17], N27, rfl⟩)
     refine zN X27 hx (hD 8 rfl) (teq hc17).2 ?_
     refine zC X27 hx (hD 9 rfl) ?_
     refine zG X27 hx 25 (hD 10 rfl) rfl ?_
     exact retN X27 hx (t := .boolean) Bd.returns (by simp) (hD 12 rfl) hr
    ·refine zLv Bd X27 (v := some (.int 0)) (by decide) nofun (fun fs hr => pqaa _ ?_) (by rw [e27]; exact ⟨by rw [f_ip, if_pos hc4, if_pos hc11, if_neg hc17], N27, rfl⟩)
     refine zM X27 hx 24 (hD 8 rfl) (feq hc17).2 rfl ?_
     refine zC X27 hx (hD 11 rfl) ?_
     exact retN X27 hx (t := .boolean) Bd.returns (by simp) (hD 12 rfl) hr
   ·refine zLv Bd X27 (v := some (.int 1)) (by decide) nofun (fun fs hr => pqa _ ?_) (by rw [e27]; exact ⟨by rw [f_ip, if_pos hc4, if_neg hc11], N27, rfl⟩)
    refine zI X27 hx 20 (hD 5 rfl) ((if0 _ _).trans (feq hc11).2) rfl ?_
    refine zC X27 hx (hD 9 rfl) ?_
    refine zG X27 hx 25 (hD 10 rfl) rfl ?_
    exact retN X27 hx (t := .boolean) Bd.returns (by simp) (hD 12 rfl) hr
  ·refine zLv Bd X26 (v := some (.int 1)) (by decide) nofun (fun fs hr => pq _ ?_) (by rw [e26]; exact ⟨by rw [f_ip, if_neg hc4], N26, rfl⟩)
   refine zI X26 hx 20 (hD 2 rfl) ((if0 _ _).trans (feq hc4).2) rfl ?_
   refine zC X26 hx (hD 9 rfl) ?_
   refine zG X26 hx 25 (hD 10 rfl) rfl ?_
   exact retN X26 hx (t := .boolean) Bd.returns (by simp) (hD 12 rfl) hr
def D39 : List (Nat × Instr × Nat) := [(0, .iload_n 0, 1), (1, .invokestatic 113, 3), (4, .ifCond .ne 16, 3), (7, .iload_n 0, 1), (8, .invokestatic 119, 3), (11, .ifCond .ne 9, 3), (14, .iload_n 0, 1), (15, .bipush 46, 2), (17, .if_icmp .ne 7, 3), (20, .iconst 1, 1), (21, .goto 4, 3), (24, .iconst 0, 1), (25, .ireturn, 1)]
theorem d39 : ∀ x ∈ D39, decode prog_11_method_19_code x.1 = .ok x.2 := by decide +kernel
theorem pn_39 : plainName "com/example/killdeer/killdeer/EndingStatements" = true := by first | (simp [plainName, overriddenIn]; done) | decide +kernel
theorem ef_39 (m : MethodId) (x0 : Int32) : entryFrame m #[(.int x0)] 1 = mkF m 0 #[.val (.int x0)] [] := by first | (simp [entryFrame, mkF, argsToLocals, Value.category]; done) | rfl
def f_np (x : Int32) : Int32 := if (f_is x) = (0 : Int32) then if (f_dg x) = (0 : Int32) then if x = (46 : Int32) then (1 : Int32) else (0 : Int32) else (1 : Int32) else (1 : Int32)
theorem rm_np (hw : HW Z a0) (ws : List Jvm.Cond) (x : Int32)  (h0 : Heap) (n0 : Nat) (Z0 : n0 ≤ h0.size)   :
    MF l Z (⟨"com/example/killdeer/killdeer/EndingStatements", "isNumberPart", "(C)Z"⟩ : MethodName) prog_11_method_19_code 1 (some .boolean) ws (rM 1 20 0 0) #[(.int x)] h0 (QI (f_np x) h0 n0) := by
  refine zBody pn_39 (fun m => ef_39 m x) ?_
  intro p e s m below meth c s₁ Bd hx hby hml hown hZ hh X0 e0 pre0
  have hD := dk hby d39
  have N0 := Fr.nil n0
  obtain ⟨T28, L28, X28, e28, N28, st28⟩ := zT X0 hx hZ hown e0 N0 (hwi hw 131 rfl) (hwi hw 132 rfl) (hwi hw 88 rfl) (hwi hw 133 rfl) (rm_is l Z a0 hw [] x h0 n0 Z0 ) 1 #[vI x] [(.int x)] hml pd_18 (hD 1 rfl) 0
  have pq : ∀ zz, Steps p.tables e below (T28.setTop (mkF m 4 #[vI x] [(.int (f_is x))])) zz → Steps p.tables e below (s₁.setTop (entryFrame m #[(.int x)] 1)) zz := by
    intro zz kz_
    refine pre0 zz ?_
    refine zL X0 hx (hD 0 rfl) rfl ?_
    refine st28 _ ?_
    exact kz_
  by_cases hc4 : (f_is x) = (0 : Int32)
  ·obtain ⟨_, _, ⟨T29, L29, k29, n29⟩, -, X29, ⟨Lc29, hQ29, l29, y29, z29⟩, st29⟩ := Jvm.LawKit.callS X28 hx hown (mvT hZ (hwi hw 141 rfl)) (mvT hZ (hwi hw 142 rfl)) (mvT hZ (hwi hw 88 rfl)) (mvT hZ (hwi hw 143 rfl)) (by decide) (backOf (W := 0) (rm_dg l Z a0 hw [] x h0 n0 Z0 ) hZ (hwi hw 143 rfl) (hwi hw 88 rfl) (by decide) (by decide)) (g := (mkF m 8 #[vI x] [(.int x)])) rfl (by rw [hml]; rfl) (argsL := [(.int x)]) (rest := []) (lenOf pd_18 rfl) rfl (by show 2 * 0 + _ ≤ _; exact Nat.le_of_eq rfl) (hD 4 rfl) (fun _ _ => ⟨rfl, e28, (by decide : 0 + 0 ≤ _), (by decide : 0 + 0 ≤ _)⟩)
   dsimp only [Pt.U, Pt.locs, Pt.cells, Pt.slots] at X29 l29 y29 z29 st29 hQ29
   obtain rfl : k29 = 0 := y29; obtain rfl : n29 = 0 := z29
   obtain ⟨rfl, N29q, e29⟩ := hQ29
   have N29 : Fr n0 L29 := by rw [l29]; exact Fr.app N28 N29q
   have pqa : ∀ zz, Steps p.tables e below (T29.setTop (mkF m 11 #[vI x] [(.int (f_dg x))])) zz → Steps p.tables e below (s₁.setTop (entryFrame m #[(.int x)] 1)) zz := by
     intro zz kz_
     refine pq zz ?_
     refine zJ X28 hx (hD 2 rfl) ((if0 _ _).trans (teq hc4).2) ?_
     refine zL X28 hx (hD 3 rfl) rfl ?_
     refine st29 _ ?_
     exact kz_
   by_cases hc11 : (f_dg x) = (0 : Int32)
   ·have pqaa : ∀ zz, Steps p.tables e below (T29.setTop (mkF m 17 #[vI x] [(.int 46), (.int x)])) zz → Steps p.tables e below (s₁.setTop (entryFrame m #[(.int x)] 1)) zz := by
      intro zz kz_
      refine pqa zz ?_
      refine zJ X29 hx (hD 5 rfl) ((if0 _ _).trans (teq hc11).2) ?_
      refine zL X29 hx (hD 6 rfl) rfl ?_
      refine zB X29 hx (hD 7 rfl) ?_
      exact kz_
    by_cases hc17 : x = (46 : Int32)
    ·refine zLv Bd X29 (v := some (.int 1)) (by decide) nofun (fun fs hr => pqaa _ ?_) (by rw [e29]; exact ⟨by rw [f_np, if_pos hc4, if_pos hc11, if_pos hc17], N29, rfl⟩)
     refine zN X29 hx (hD 8 rfl) (teq hc17).2 ?_
     refine zC X29 hx (hD 9 rfl) ?_
     refine zG X29 hx 25 (hD 10 rfl) rfl ?_
     exact retN X29 hx (t := .boolean) Bd.returns (by simp) (hD 12 rfl) hr
    ·refine zLv Bd X29 (v := some (.int 0)) (by decide) nofun (fun fs hr => pqaa _ ?_) (by rw [e29]; exact ⟨by rw [f_np, if_pos hc4, if_pos hc11, if_neg hc17], N29, rfl⟩)
     refine zM X29 hx 24 (hD 8 rfl) (feq hc17).2 rfl ?_
     refine zC X29 hx (hD 11 rfl) ?_
     exact retN X29 hx (t := .boolean) Bd.returns (by simp) (hD 12 rfl) hr
   ·refine zLv Bd X29 (v := some (.int 1)) (by decide) nofun (fun fs hr => pqa _ ?_) (by rw [e29]; exact ⟨by rw [f_np, if_pos hc4, if_neg hc11], N29, rfl⟩)
    refine zI X29 hx 20 (hD 5 rfl) ((if0 _ _).trans (feq hc11).2) rfl ?_
    refine zC X29 hx (hD 9 rfl) ?_
    refine zG X29 hx 25 (hD 10 rfl) rfl ?_
    exact retN X29 hx (t := .boolean) Bd.returns (by simp) (hD 12 rfl) hr
  ·refine zLv Bd X28 (v := some (.int 1)) (by decide) nofun (fun fs hr => pq _ ?_) (by rw [e28]; exact ⟨by rw [f_np, if_neg hc4], N28, rfl⟩)
   refine zI X28 hx 20 (hD 2 rfl) ((if0 _ _).trans (feq hc4).2) rfl ?_
   refine zC X28 hx (hD 9 rfl) ?_
   refine zG X28 hx 25 (hD 10 rfl) rfl ?_
   exact retN X28 hx (t := .boolean) Bd.returns (by simp) (hD 12 rfl) hr
def D11 : List (Nat × Instr × Nat) := [(0, .iload_n 0, 1), (1, .bipush 7, 2), (3, .iand, 1), (4, .bipush 6, 2), (6, .irem, 1), (7, .istore_n 1, 1), (8, .iload_n 1, 1), (9, .ifCond .ne 6, 3), (12, .bipush 32, 2), (14, .ireturn, 1), (15, .iload_n 1, 1), (16, .iconst 1, 1), (17, .if_icmp .ne 6, 3), (20, .bipush 9, 2), (22, .ireturn, 1), (23, .iload_n 1, 1), (24, .iconst 2, 1), (25, .if_icmp .ne 6, 3), (28, .bipush 10, 2), (30, .ireturn, 1), (31, .iload_n 1, 1), (32, .iconst 3, 1), (33, .if_icmp .ne 6, 3), (36, .bipush 13, 2), (38, .ireturn, 1), (39, .iload_n 1, 1), (40, .iconst 4, 1), (41, .if_icmp .ne 6, 3), (44, .bipush 12, 2), (46, .ireturn, 1), (47, .bipush 11, 2), (49, .ireturn, 1)]
theorem d11 : ∀ x ∈ D11, decode method_8_code x.1 = .ok x.2 := by decide +kernel
theorem pn_11 : plainName "com/example/killdeer/killdeer/EndingStatementsOfPinLaw" = true := by first | (simp [plainName, overriddenIn]; done) | decide +kernel
theorem ef_11 (m : MethodId) (x0 : Int32) : entryFrame m #[(.int x0)] 2 = mkF m 0 #[.val (.int x0), .unset] [] := by first | (simp [entryFrame, mkF, argsToLocals, Value.category]; done) | rfl
def f_sc (x : Int32) : Int32 := if ((x &&& (7 : Int32)) % (6 : Int32)) = (0 : Int32) then (32 : Int32) else if ((x &&& (7 : Int32)) % (6 : Int32)) = (1 : Int32) then (9 : Int32) else if ((x &&& (7 : Int32)) % (6 : Int32)) = (2 : Int32) then (10 : Int32) else if ((x &&& (7 : Int32)) % (6 : Int32)) = (3 : Int32) then (13 : Int32) else if ((x &&& (7 : Int32)) % (6 : Int32)) = (4 : Int32) then (12 : Int32) else (11 : Int32)
theorem rm_sc (hw : HW Z a0) (ws : List Jvm.Cond) (x : Int32)  (h0 : Heap) (n0 : Nat) (Z0 : n0 ≤ h0.size)   :
    MF l Z (⟨"com/example/killdeer/killdeer/EndingStatementsOfPinLaw", "space", "(I)C"⟩ : MethodName) method_8_code 2 (some .char) ws (rM 0 0 0 0) #[(.int x)] h0 (QI (f_sc x) h0 n0) := by
  refine zBody pn_11 (fun m => ef_11 m x) ?_
  intro p e s m below meth c s₁ Bd hx hby hml hown hZ hh X0 e0 pre0
  have hD := dk hby d11
  have N0 := Fr.nil n0
  have pq : ∀ zz, Steps p.tables e below (s₁.setTop (mkF m 9 #[vI x, vI ((x &&& (7 : Int32)) % (6 : Int32))] [(.int ((x &&& (7 : Int32)) % (6 : Int32)))])) zz → Steps p.tables e below (s₁.setTop (entryFrame m #[(.int x)] 2)) zz := by
    intro zz kz_
    refine pre0 zz ?_
    refine zL X0 hx (hD 0 rfl) rfl ?_
    refine zB X0 hx (hD 1 rfl) ?_
    refine XS.iand X0.here hx rfl (hD 2 rfl) rfl ?_
    refine zB X0 hx (hD 3 rfl) ?_
    refine gwIrem X0.here hx rfl (hD 4 rfl) rfl (by decide : ¬ ((6 : Int32) = 0)) ?_
    refine zS X0 hx (hD 5 rfl) rfl ?_
    refine zL X0 hx (hD 6 rfl) rfl ?_
    exact kz_
  by_cases hc9 : ((x &&& (7 : Int32)) % (6 : Int32)) = (0 : Int32)
  ·refine zLv Bd X0 (v := some (.int 32)) (by decide) nofun (fun fs hr => pq _ ?_) (by rw [e0]; exact ⟨by rw [f_sc, if_pos hc9], N0, rfl⟩)
   refine zJ X0 hx (hD 7 rfl) ((if0 _ _).trans (teq hc9).2) ?_
   refine zB X0 hx (hD 8 rfl) ?_
   exact retN X0 hx (t := .char) Bd.returns (by simp) (hD 9 rfl) hr
  ·have pqb : ∀ zz, Steps p.tables e below (s₁.setTop (mkF m 17 #[vI x, vI ((x &&& (7 : Int32)) % (6 : Int32))] [(.int 1), (.int ((x &&& (7 : Int32)) % (6 : Int32)))])) zz → Steps p.tables e below (s₁.setTop (entryFrame m #[(.int x)] 2)) zz := by
     intro zz kz_
     refine pq zz ?_
     refine zI X0 hx 15 (hD 7 rfl) ((if0 _ _).trans (feq hc9).2) rfl ?_
     refine zL X0 hx (hD 10 rfl) rfl ?_
     refine zC X0 hx (hD 11 rfl) ?_
     exact kz_
   by_cases hc17 : ((x &&& (7 : Int32)) % (6 : Int32)) = (1 : Int32)
   ·refine zLv Bd X0 (v := some (.int 9)) (by decide) nofun (fun fs hr => pqb _ ?_) (by rw [e0]; exact ⟨by rw [f_sc, if_neg hc9, if_pos hc17], N0, rfl⟩)
    refine zN X0 hx (hD 12 rfl) (teq hc17).2 ?_
    refine zB X0 hx (hD 13 rfl) ?_
    exact retN X0 hx (t := .char) Bd.returns (by simp) (hD 14 rfl) hr
   ·have pqbb : ∀ zz, Steps p.tables e below (s₁.setTop (mkF m 25 #[vI x, vI ((x &&& (7 : Int32)) % (6 : Int32))] [(.int 2), (.int ((x &&& (7 : Int32)) % (6 : Int32)))])) zz → Steps p.tables e below (s₁.setTop (entryFrame m #[(.int x)] 2)) zz := by
      intro zz kz_
      refine pqb zz ?_
      refine zM X0 hx 23 (hD 12 rfl) (feq hc17).2 rfl ?_
      refine zL X0 hx (hD 15 rfl) rfl ?_
      refine zC X0 hx (hD 16 rfl) ?_
      exact kz_
    by_cases hc25 : ((x &&& (7 : Int32)) % (6 : Int32)) = (2 : Int32)
    ·refine zLv Bd X0 (v := some (.int 10)) (by decide) nofun (fun fs hr => pqbb _ ?_) (by rw [e0]; exact ⟨by rw [f_sc, if_neg hc9, if_neg hc17, if_pos hc25], N0, rfl⟩)
     refine zN X0 hx (hD 17 rfl) (teq hc25).2 ?_
     refine zB X0 hx (hD 18 rfl) ?_
     exact retN X0 hx (t := .char) Bd.returns (by simp) (hD 19 rfl) hr
    ·have pqbbb : ∀ zz, Steps p.tables e below (s₁.setTop (mkF m 33 #[vI x, vI ((x &&& (7 : Int32)) % (6 : Int32))] [(.int 3), (.int ((x &&& (7 : Int32)) % (6 : Int32)))])) zz → Steps p.tables e below (s₁.setTop (entryFrame m #[(.int x)] 2)) zz := by
       intro zz kz_
       refine pqbb zz ?_
       refine zM X0 hx 31 (hD 17 rfl) (feq hc25).2 rfl ?_
       refine zL X0 hx (hD 20 rfl) rfl ?_
       refine zC X0 hx (hD 21 rfl) ?_
       exact kz_
     by_cases hc33 : ((x &&& (7 : Int32)) % (6 : Int32)) = (3 : Int32)
     ·refine zLv Bd X0 (v := some (.int 13)) (by decide) nofun (fun fs hr => pqbbb _ ?_) (by rw [e0]; exact ⟨by rw [f_sc, if_neg hc9, if_neg hc17, if_neg hc25, if_pos hc33], N0, rfl⟩)
      refine zN X0 hx (hD 22 rfl) (teq hc33).2 ?_
      refine zB X0 hx (hD 23 rfl) ?_
      exact retN X0 hx (t := .char) Bd.returns (by simp) (hD 24 rfl) hr
     ·have pqbbbb : ∀ zz, Steps p.tables e below (s₁.setTop (mkF m 41 #[vI x, vI ((x &&& (7 : Int32)) % (6 : Int32))] [(.int 4), (.int ((x &&& (7 : Int32)) % (6 : Int32)))])) zz → Steps p.tables e below (s₁.setTop (entryFrame m #[(.int x)] 2)) zz := by
        intro zz kz_
        refine pqbbb zz ?_
        refine zM X0 hx 39 (hD 22 rfl) (feq hc33).2 rfl ?_
        refine zL X0 hx (hD 25 rfl) rfl ?_
        refine zC X0 hx (hD 26 rfl) ?_
        exact kz_
      by_cases hc41 : ((x &&& (7 : Int32)) % (6 : Int32)) = (4 : Int32)
      ·refine zLv Bd X0 (v := some (.int 12)) (by decide) nofun (fun fs hr => pqbbbb _ ?_) (by rw [e0]; exact ⟨by rw [f_sc, if_neg hc9, if_neg hc17, if_neg hc25, if_neg hc33, if_pos hc41], N0, rfl⟩)
       refine zN X0 hx (hD 27 rfl) (teq hc41).2 ?_
       refine zB X0 hx (hD 28 rfl) ?_
       exact retN X0 hx (t := .char) Bd.returns (by simp) (hD 29 rfl) hr
      ·refine zLv Bd X0 (v := some (.int 11)) (by decide) nofun (fun fs hr => pqbbbb _ ?_) (by rw [e0]; exact ⟨by rw [f_sc, if_neg hc9, if_neg hc17, if_neg hc25, if_neg hc33, if_neg hc41], N0, rfl⟩)
       refine zM X0 hx 47 (hD 27 rfl) (feq hc41).2 rfl ?_
       refine zB X0 hx (hD 30 rfl) ?_
       exact retN X0 hx (t := .char) Bd.returns (by simp) (hD 31 rfl) hr
def D36 : List (Nat × Instr × Nat) := [(0, .iload_n 0, 1), (1, .bipush 15, 2), (3, .iand, 1), (4, .istore_n 1, 1), (5, .iload_n 1, 1), (6, .bipush 9, 2), (8, .if_icmp .eq 9, 3), (11, .iload_n 1, 1), (12, .bipush 14, 2), (14, .if_icmp .ne 6, 3), (17, .bipush 100, 2), (19, .ireturn, 1), (20, .iload_n 1, 1), (21, .bipush 15, 2), (23, .if_icmp .ne 6, 3), (26, .bipush 101, 2), (28, .ireturn, 1), (29, .iload_n 1, 1), (30, .bipush 10, 2), (32, .if_icmp .ne 5, 3), (35, .iconst (-1), 1), (36, .ireturn, 1), (37, .iload_n 1, 1), (38, .ireturn, 1)]
theorem d36 : ∀ x ∈ D36, decode method_5_code x.1 = .ok x.2 := by decide +kernel
theorem pn_36 : plainName "com/example/killdeer/killdeer/EndingStatementsOfPinLaw" = true := by first | (simp [plainName, overriddenIn]; done) | decide +kernel
theorem ef_36 (m : MethodId) (x0 : Int32) : entryFrame m #[(.int x0)] 2 = mkF m 0 #[.val (.int x0), .unset] [] := by first | (simp [entryFrame, mkF, argsToLocals, Value.category]; done) | rfl
def f_co (x : Int32) : Int32 := if (x &&& (15 : Int32)) = (9 : Int32) then (100 : Int32) else if (x &&& (15 : Int32)) = (14 : Int32) then (100 : Int32) else if (x &&& (15 : Int32)) = (15 : Int32) then (101 : Int32) else if (x &&& (15 : Int32)) = (10 : Int32) then (-1 : Int32) else (x &&& (15 : Int32))
theorem rm_co (hw : HW Z a0) (ws : List Jvm.Cond) (x : Int32)  (h0 : Heap) (n0 : Nat) (Z0 : n0 ≤ h0.size)   :
    MF l Z (⟨"com/example/killdeer/killdeer/EndingStatementsOfPinLaw", "code", "(I)I"⟩ : MethodName) method_5_code 2 (some .int) ws (rM 0 0 0 0) #[(.int x)] h0 (QI (f_co x) h0 n0) := by
  refine zBody pn_36 (fun m => ef_36 m x) ?_
  intro p e s m below meth c s₁ Bd hx hby hml hown hZ hh X0 e0 pre0
  have hD := dk hby d36
  have N0 := Fr.nil n0
  have pq : ∀ zz, Steps p.tables e below (s₁.setTop (mkF m 8 #[vI x, vI (x &&& (15 : Int32))] [(.int 9), (.int (x &&& (15 : Int32)))])) zz → Steps p.tables e below (s₁.setTop (entryFrame m #[(.int x)] 2)) zz := by
    intro zz kz_
    refine pre0 zz ?_
    refine zL X0 hx (hD 0 rfl) rfl ?_
    refine zB X0 hx (hD 1 rfl) ?_
    refine XS.iand X0.here hx rfl (hD 2 rfl) rfl ?_
    refine zS X0 hx (hD 3 rfl) rfl ?_
    refine zL X0 hx (hD 4 rfl) rfl ?_
    refine zB X0 hx (hD 5 rfl) ?_
    exact kz_
  by_cases hc8 : (x &&& (15 : Int32)) = (9 : Int32)
  ·refine zLv Bd X0 (v := some (.int 100)) (by decide) nofun (fun fs hr => pq _ ?_) (by rw [e0]; exact ⟨by rw [f_co, if_pos hc8], N0, rfl⟩)
   refine zM X0 hx 17 (hD 6 rfl) (teq hc8).1 rfl ?_
   refine zB X0 hx (hD 10 rfl) ?_
   exact retI X0 hx Bd.returns (hD 11 rfl) hr
  ·have pqb : ∀ zz, Steps p.tables e below (s₁.setTop (mkF m 14 #[vI x, vI (x &&& (15 : Int32))] [(.int 14), (.int (x &&& (15 : Int32)))])) zz → Steps p.tables e below (s₁.setTop (entryFrame m #[(.int x)] 2)) zz := by
     intro zz kz_
     refine pq zz ?_
     refine zN X0 hx (hD 6 rfl) (feq hc8).1 ?_
     refine zL X0 hx (hD 7 rfl) rfl ?_
     refine zB X0 hx (hD 8 rfl) ?_
     exact kz_
   by_cases hc14 : (x &&& (15 : Int32)) = (14 : Int32)
   ·refine zLv Bd X0 (v := some (.int 100)) (by decide) nofun (fun fs hr => pqb _ ?_) (by rw [e0]; exact ⟨by rw [f_co, if_neg hc8, if_pos hc14], N0, rfl⟩)
    refine zN X0 hx (hD 9 rfl) (teq hc14).2 ?_
    refine zB X0 hx (hD 10 rfl) ?_
    exact retI X0 hx Bd.returns (hD 11 rfl) hr
   ·have pqbb : ∀ zz, Steps p.tables e below (s₁.setTop (mkF m 23 #[vI x, vI (x &&& (15 : Int32))] [(.int 15), (.int (x &&& (15 : Int32)))])) zz → Steps p.tables e below (s₁.setTop (entryFrame m #[(.int x)] 2)) zz := by
      intro zz kz_
      refine pqb zz ?_
      refine zM X0 hx 20 (hD 9 rfl) (feq hc14).2 rfl ?_
      refine zL X0 hx (hD 12 rfl) rfl ?_
      refine zB X0 hx (hD 13 rfl) ?_
      exact kz_
    by_cases hc23 : (x &&& (15 : Int32)) = (15 : Int32)
    ·refine zLv Bd X0 (v := some (.int 101)) (by decide) nofun (fun fs hr => pqbb _ ?_) (by rw [e0]; exact ⟨by rw [f_co, if_neg hc8, if_neg hc14, if_pos hc23], N0, rfl⟩)
     refine zN X0 hx (hD 14 rfl) (teq hc23).2 ?_
     refine zB X0 hx (hD 15 rfl) ?_
     exact retI X0 hx Bd.returns (hD 16 rfl) hr
    ·have pqbbb : ∀ zz, Steps p.tables e below (s₁.setTop (mkF m 32 #[vI x, vI (x &&& (15 : Int32))] [(.int 10), (.int (x &&& (15 : Int32)))])) zz → Steps p.tables e below (s₁.setTop (entryFrame m #[(.int x)] 2)) zz := by
       intro zz kz_
       refine pqbb zz ?_
       refine zM X0 hx 29 (hD 14 rfl) (feq hc23).2 rfl ?_
       refine zL X0 hx (hD 17 rfl) rfl ?_
       refine zB X0 hx (hD 18 rfl) ?_
       exact kz_
     by_cases hc32 : (x &&& (15 : Int32)) = (10 : Int32)
     ·refine zLv Bd X0 (v := some (.int (-1))) (by decide) nofun (fun fs hr => pqbbb _ ?_) (by rw [e0]; exact ⟨by rw [f_co, if_neg hc8, if_neg hc14, if_neg hc23, if_pos hc32], N0, rfl⟩)
      refine zN X0 hx (hD 19 rfl) (teq hc32).2 ?_
      refine zC X0 hx (hD 20 rfl) ?_
      exact retI X0 hx Bd.returns (hD 21 rfl) hr
     ·refine zLv Bd X0 (v := some (.int (x &&& (15 : Int32)))) (by decide) nofun (fun fs hr => pqbbb _ ?_) (by rw [e0]; exact ⟨by rw [f_co, if_neg hc8, if_neg hc14, if_neg hc23, if_neg hc32], N0, rfl⟩)
      refine zM X0 hx 37 (hD 19 rfl) (feq hc32).2 rfl ?_
      refine zL X0 hx (hD 22 rfl) rfl ?_
      exact retI X0 hx Bd.returns (hD 23 rfl) hr
def gl (l : List Int32) : Nat → Int32 := fun j => l.getD j 0
theorem mapGet (l : List Int32) : ∀ j, (l.map fun x => Value.int (b8 x)).getD j (.int 0) = Lb (gl l) j := fun j => by
  unfold Lb gl
  rw [List.getD, List.getD, List.getElem?_map]
  cases l[j]? with
  | none => rfl
  | some x => rfl
section Ldc
variable {p : Program} {l : Launch} {e : Env} {R : Room} {s : State} {m : MethodId} {args : Array Value} {below : List Frame} {meth : Method} {c : Code} {T : State} {locs : List Loc} {cells slots : Nat} {Z : State} {a0 : Array Value} {EL : List (String × Nat)} {vm0 : Vm} {h : Heap} {own text : String} {index : Nat}
/-- ldc of a held constant: a compact text -/
theorem cLDC (X : Stand p l e R (s.setVm vm0) m args below meth c T locs cells slots) (hx : p.tables.exec = Jvm.exec) (hZ : Z.Warmed39 vm0) (hown : vm0.findClass own = some m.cls) (w : (Cond.stringLink own index text).before a0 Z = true) (wS : ∀ a ∈ Bundle.stringAtoms, a.before a0 Z = true)
    (eT : T.heap = h) {k0 : Nat} (hS : s.Since vm0 k0) (hk : k0 ≤ h.size) (hEL : EW Z a0 EL) (hmem : (own, index) ∈ EL) (H : CHv Z EL vm0 h) (t : List Int32) {n q : Nat} (ht : ((∀ c ∈ text.toList, c.toNat < 256) ∧ text.toList.map (fun c => Value.int (Jvm.Lit.byteI c.toNat.toUInt16)) = t.map fun x => Value.int (b8 x)) ∧ t.length = n ∧ n < 2147483648 ∧ 4 * text.toList.length ≤ q ∧ q ≤ 536870912)
    {g : JFrame} (hg : g.method = m) (hd : decode c.code g.pc = .ok (.ldc index, 2)) (hc : cells + 2 ≤ R.cells) (hl' : slots + (q + 4) ≤ R.slots) :
    ∃ (a : Addr) (T' : State) (h' : Heap) (k1 : Nat), Stand p l e R (s.setVm T'.vm) m args below meth c T' locs (cells + 2) (slots + (q + 4)) ∧ T'.heap = h' ∧ Ext h h' ∧ s.Since T'.vm k1 ∧ k1 ≤ h'.size ∧ Z.Warmed39 (s.setVm T'.vm).vm ∧ (s.setVm T'.vm).vm.findClass own = some m.cls ∧ Str Z h' a n (gl t) ∧ CHr Z EL vm0 h T'.vm h' ∧
      ∀ target, Steps p.tables e below (T'.setTop { g with pc := g.pc + 2, stack := .ref a :: g.stack }) target → Steps p.tables e below (T.setTop g) target := by
  obtain ⟨h1, h2, h3, h4, h5⟩ := ht
  have cn : (Int32.ofNat n).toNatClampNeg = n := clampN h3
  obtain ⟨a, T', h', k1, b, k, X', e', E', hS', hk', hZ', ho', Ex, Fc, Fv, Av, -, -, C, -, -, st⟩ := ldcCH X hx hZ hown w wS eT hS hk hEL hmem H h1 (nnN h3) (z := Int32.ofNat n) (by rw [cn, List.length_map]; exact h2.symm) hg hd h4 h5 hc hl'
  exact ⟨a, T', h', k1, X', e', E', hS', hk', hZ', ho', ⟨Ex, b, Fv, Fc, (afOf Av cn).congr fun j _ => mapGet t j⟩, C, st⟩
end Ldc
theorem low_ch {x : Int32} (h1 : ¬ x < 65) (h2 : ¬ 90 < x) : isCh (x + 32) := by
  rw [Int32.lt_iff_toInt_lt] at h1 h2
  have h1 : ¬ x.toInt < 65 := h1
  have h2 : ¬ 90 < x.toInt := h2
  have q := c_iadd x 32
  have e : (32 : Int32).toInt = 32 := rfl
  rw [e] at q
  have b1 := (x + 32).toInt_lt
  have b2 := (x + 32).le_toInt
  exact ⟨by omega, by omega⟩
theorem up_ch {x : Int32} (h1 : ¬ x < 97) (h2 : ¬ 122 < x) : isCh (x - 32) := by
  rw [Int32.lt_iff_toInt_lt] at h1 h2
  have h1 : ¬ x.toInt < 97 := h1
  have h2 : ¬ 122 < x.toInt := h2
  have q := c_isub x 32
  have e : (32 : Int32).toInt = 32 := rfl
  rw [e] at q
  have b1 := (x - 32).toInt_lt
  have b2 := (x - 32).le_toInt
  exact ⟨by omega, by omega⟩
/-- bit i of up -/
def upB (up : Int32) (i : Nat) : Int32 := ((up.toUInt32 >>> ((Int32.ofNat i) &&& 31).toUInt32).toInt32) &&& (1 : Int32)
/-- the law's ch -/
def chF (n : Nat) (g : Nat → Int32) (up : Int32) (i : Nat) : Int32 := if i < n then if upB up i = 0 then g i else if g i < 97 then g i else if 122 < g i then g i else g i - 32 else 32
theorem safe1 {Z : State} {EL : List (String × Nat)} {vm : Vm} {h : Heap} {o : Addr} (h1 : Safe Z EL vm h o) : ∀ x ∈ [o], Safe Z EL vm h x := fun x r => (List.mem_singleton.mp r) ▸ h1
theorem AF.safe {Z : State} {EL : List (String × Nat)} {vm : Vm} {h : Heap} {a : Addr} {ty : FieldType} {n : Nat} {f : Nat → Value} (hal : Z.vm.Alike vm) (A : AF Z h a ty n f) (ht : ty ≠ .byte) : Safe Z EL vm h a := by
  obtain ⟨cl, Ar, -⟩ := A
  exact Safe.arr hal Ar ht
theorem addN {n m : Nat} : Int32.ofNat n + Int32.ofNat m = Int32.ofNat (n + m) := (Int32.ofNat_add n m).symm
def k16 (x : Int32) : Nat := (x &&& (15 : Int32)).toInt.toNat
theorem k16_eq (x : Int32) : x &&& (15 : Int32) = Int32.ofNat (k16 x) := by
  have m := c_and x 15 (by decide)
  rw [show (15 : Int32).toInt = 15 from rfl] at m
  refine Int32.toInt_inj.mp ?_
  unfold k16
  rw [Int32.toInt_ofNat_small (by omega)]
  omega
theorem k16_lt (x : Int32) : k16 x < 16 := by
  have m := c_mask x 15 4 (by decide) (by decide)
  unfold k16
  omega
def u4 (x : Int32) : Int32 := ((x.toUInt32 >>> ((4 : Int32) &&& 31).toUInt32).toInt32)
/-- F, but X's first m from off on -/
def pfV (off m : Nat) (X : Nat → Int32) (F : Nat → Int32) : Nat → Int32 := fun j => if off ≤ j ∧ j < off + m then X (j - off) else F j
theorem pf0 {off : Nat} {X F : Nat → Int32} : pfV off 0 X F = F := funext fun j => if_neg (by omega)
theorem pfS {off m n : Nat} {X F : Nat → Int32} {v : Int32} (hv : v = X m) : ∀ j, j < n → upd (Ca (pfV off m X F)) (off + m) (.int v) j = Ca (pfV off (m + 1) X F) j := fun j _ => by
  unfold upd Ca pfV
  by_cases q : j = off + m
  · rw [if_pos q, if_pos (by omega), q, hv, Nat.add_sub_cancel_left]
  · rw [if_neg q]
    by_cases r : off ≤ j ∧ j < off + m
    · rw [if_pos r, if_pos (by omega)]
    · rw [if_neg r, if_neg (by omega)]
theorem Str.keep1 {Z : State} {a0 : Array Value} {h h' : Heap} {a o : Addr} {n m k : Nat} {g : Nat → Int32} {f : Nat → Value} (S : Str Z h a n g) (Kp : Keep h h' [o]) (A : AF Z h o .char m f) (wi : (Cond.instantiable "java/lang/String" k).before a0 Z = true) : Str Z h' a n g := by
  obtain ⟨X, b, V, C, B⟩ := S
  obtain ⟨cl, Ar, -⟩ := A
  obtain ⟨cb, Br, -⟩ := id B
  have q1 : a ≠ o := ne_arr X wi Ar
  have q2 : b ≠ o := fun e => by
    subst e
    cases Br.1.symm.trans Ar.1
    obtain ⟨-, k1, h1, comp1, h2⟩ := Br.2.1
    obtain ⟨-, k2, h3, comp2, h4⟩ := Ar.2.1
    cases h1.symm.trans h3
    have := h2.symm.trans h4
    cases this
  exact ⟨X.keep Kp, b, V.keep Kp (notin0 q1), C.keep Kp (notin0 q1), B.keep Kp (notin0 q2)⟩
theorem declOf {args : Array Value} {s : State} {y : MethodName} {bytes : ByteArray} {k : Nat} {r : Option FieldType} (wi : (Cond.instanceMethod y).before args s = true) (wc : (Cond.code y bytes k r).before args s = true) : (Cond.declares y).before args s = true := by
  obtain ⟨mk, methM, hnamed, hmethM, hstM, habM⟩ := Cond.instanceMethod_spec wi
  obtain ⟨m2, cM, q1, -, -, -, -, -, -, hsig⟩ := Cond.code_spec hnamed wc
  cases hmethM.symm.trans q1
  simp [Cond.before, Cond.holds, Cond.value, hnamed, hmethM, hstM, hsig]
/-- a private method of a class that can be made is what a call of it selects -/
theorem selOf {args : Array Value} {s : State} {y : MethodName} {k : Nat} (wi : (Cond.instanceMethod y).before args s = true) (wp : (Cond.privateMethod y).before args s = true) (wn : (Cond.instantiable y.cls k).before args s = true) (hy : y.cls ≠ "java/lang/invoke/MethodHandle" ∧ y.cls ≠ "java/lang/invoke/VarHandle") : (Cond.selects y.cls y y).before args s = true := by
  obtain ⟨m, meth, hn, hm, -, -⟩ := Cond.instanceMethod_spec wi
  have hp := Cond.privateMethod_at wp m meth hn hm
  obtain ⟨c, kk, hc, hk, -, hi, -⟩ := Cond.instantiable_spec wn
  have hf := State.methodFound?_of_named hn hy
  have e : m.cls = c := Option.some.inj ((findClass_of_methodNamed hn).symm.trans hc)
  have hs := selectMethod_private (p := {}) (c := c) hm hp
  have hi' : kk.isInterface = false := by
    cases q : kk.isInterface with
    | false => rfl
    | true => rw [q] at hi; simp at hi
  simp [Cond.before, Cond.holds, Cond.value, hc, hf, hn, hs, e, hk, hi']
section Arrs
variable {p : Program} {l : Launch} {e : Env} {R : Room} {s : State} {m : MethodId} {args : Array Value} {below : List Frame} {meth : Method} {c : Code} {T : State} {locs : List Loc} {cells slots : Nat} {Z : State} {h : Heap} {a : Addr} {ty : FieldType} {n i : Nat} {f : Nat → Value} {v : Value}
theorem ldIn (X : Stand p l e R s m args below meth c T locs cells slots) (hx : p.tables.exec = Jvm.exec) (hZ : Z.Warmed39 s.vm) (eT : T.heap = h) (F : AF Z h a .int n f) (hi : i < n) (hn : n < 2147483648) (hv : f i = v) {g : JFrame} (hg : g.method = m) {rest : List Value} (hs : g.stack = .int (Int32.ofNat i) :: .ref a :: rest) (hd : decode c.code g.pc = .ok (.iaload, 1)) {target : State}
    (hr : Steps p.tables e below (T.setTop { g with pc := g.pc + 1, stack := v :: rest }) target) : Steps p.tables e below (T.setTop g) target := by
  subst hv
  obtain ⟨cl, A, r, q⟩ := F
  exact X.iaload hx (by rw [eT]; exact A.1) (State.isArrayOf_alike hZ.alike A.2.1) A.2.2 (inN r hi hn) (by rw [clampN (by omega)]; exact q i hi) hg hs hd _ hr
theorem ldRf (X : Stand p l e R s m args below meth c T locs cells slots) (hx : p.tables.exec = Jvm.exec) (hZ : Z.Warmed39 s.vm) (eT : T.heap = h) (F : AF Z h a ty n f) (hty : ty.isReference = true) (hi : i < n) (hn : n < 2147483648) (hv : f i = v) {g : JFrame} (hg : g.method = m) {rest : List Value} (hs : g.stack = .int (Int32.ofNat i) :: .ref a :: rest) (hd : decode c.code g.pc = .ok (.aaload, 1)) {target : State}
    (hr : Steps p.tables e below (T.setTop { g with pc := g.pc + 1, stack := v :: rest }) target) : Steps p.tables e below (T.setTop g) target := by
  subst hv
  obtain ⟨cl, A, r, q⟩ := F
  exact X.aaload hx (by rw [eT]; exact A.1) (State.isArrayOf_alike hZ.alike A.2.1) hty A.2.2 (inN r hi hn) (by rw [clampN (by omega)]; exact q i hi) hg hs hd _ hr
theorem stIn (X : Stand p l e R s m args below meth c T locs cells slots) (hx : p.tables.exec = Jvm.exec) (hZ : Z.Warmed39 s.vm) (eT : T.heap = h) (F : AF Z h a .int n f) (hi : i < n) (hn : n < 2147483648) {x : Int32} {g : JFrame} (hg : g.method = m) {rest : List Value} (hs : g.stack = .int x :: .int (Int32.ofNat i) :: .ref a :: rest) (hd : decode c.code g.pc = .ok (.iastore, 1)) :
    ∃ T' h', Stand p l e R s m args below meth c T' (locs ++ [⟨a, i⟩]) cells slots ∧ T'.heap = h' ∧ Wr h h' a i (.int x) ∧ ∀ target, Steps p.tables e below (T'.setTop { g with pc := g.pc + 1, stack := rest }) target → Steps p.tables e below (T.setTop g) target := by
  obtain ⟨cl, A, r, q⟩ := F
  obtain ⟨T', h', X', e', W', st⟩ := stI X hx hZ eT A (inN r hi hn) hg hs hd
  rw [clampN (by omega)] at X' W'
  exact ⟨T', h', X', e', W', st⟩
/-- an array of references to C's, n long -/
def AR (Z : State) (h : Heap) (a : Addr) (C : String) (n : Nat) (f : Nat → Value) : Prop := AF Z h a (.object C) n f ∧ ∃ cl : Cell, h[a]? = some cl ∧ Ovr Z cl.cls C
theorem stRf {C : String} {y : Addr} (X : Stand p l e R s m args below meth c T locs cells slots) (hx : p.tables.exec = Jvm.exec) (hZ : Z.Warmed39 s.vm) (eT : T.heap = h) (F : AR Z h a C n f) (I : Ins Z h y C true) (hi : i < n) (hn : n < 2147483648) {g : JFrame} (hg : g.method = m) {rest : List Value} (hs : g.stack = .ref y :: .int (Int32.ofNat i) :: .ref a :: rest) (hd : decode c.code g.pc = .ok (.aastore, 1)) :
    ∃ T' h', Stand p l e R s m args below meth c T' (locs ++ [⟨a, i⟩]) cells slots ∧ T'.heap = h' ∧ Wr h h' a i (.ref y) ∧ ∀ target, Steps p.tables e below (T'.setTop { g with pc := g.pc + 1, stack := rest }) target → Steps p.tables e below (T.setTop g) target := by
  obtain ⟨⟨cl, A, r, q⟩, cl', e1, O⟩ := F
  cases A.1.symm.trans e1
  obtain ⟨T', h', X', e', W', st⟩ := stR X hx hZ eT A (inN r hi hn) rfl (Sto.of A O I) hg hs hd
  rw [clampN (by omega)] at X' W'
  exact ⟨T', h', X', e', W', st⟩
end Arrs

def D29 : List (Nat × Instr × Nat) := [(0, .iload_n 0, 1), (1, .bipush 65, 2), (3, .if_icmp .lt 17, 3), (6, .iload_n 0, 1), (7, .bipush 90, 2), (9, .if_icmp .gt 11, 3), (12, .iload_n 0, 1), (13, .bipush 32, 2), (15, .iadd, 1), (16, .i2c, 1), (17, .goto 4, 3), (20, .iload_n 0, 1), (21, .ireturn, 1)]
theorem d29 : ∀ x ∈ D29, decode prog_11_method_21_code x.1 = .ok x.2 := by decide +kernel
theorem pn_29 : plainName "com/example/killdeer/killdeer/EndingStatements" = true := by first | (simp [plainName, overriddenIn]; done) | decide +kernel
theorem ef_29 (m : MethodId) (x0 : Int32) : entryFrame m #[(.int x0)] 1 = mkF m 0 #[.val (.int x0)] [] := by first | (simp [entryFrame, mkF, argsToLocals, Value.category]; done) | rfl
def f_lc (x : Int32) : Int32 := if x < (65 : Int32) then x else if (90 : Int32) < x then x else (x + (32 : Int32))
theorem rm_lc (hw : HW Z a0) (ws : List Jvm.Cond) (x : Int32)  (h0 : Heap) (n0 : Nat) (Z0 : n0 ≤ h0.size) (hB : isB x)  :
    MF l Z (⟨"com/example/killdeer/killdeer/EndingStatements", "lowerCase", "(C)C"⟩ : MethodName) prog_11_method_21_code 1 (some .char) ws (rM 0 0 0 0) #[(.int x)] h0 (QI (f_lc x) h0 n0) := by
  refine zBody pn_29 (fun m => ef_29 m x) ?_
  intro p e s m below meth c s₁ Bd hx hby hml hown hZ hh X0 e0 pre0
  have hD := dk hby d29
  have N0 := Fr.nil n0
  have pq : ∀ zz, Steps p.tables e below (s₁.setTop (mkF m 3 #[vI x] [(.int 65), (.int x)])) zz → Steps p.tables e below (s₁.setTop (entryFrame m #[(.int x)] 1)) zz := by
    intro zz kz_
    refine pre0 zz ?_
    refine zL X0 hx (hD 0 rfl) rfl ?_
    refine zB X0 hx (hD 1 rfl) ?_
    exact kz_
  by_cases hc3 : x < (65 : Int32)
  ·refine zLv Bd X0 (v := some (.int (nar .char x))) (by decide) nofun (fun fs hr => pq _ ?_) (by rw [e0]; exact ⟨by rw [f_lc, if_pos hc3]; exact congrArg (fun z => some (Value.int z)) (nar_id (isCh_of hB)), N0, rfl⟩)
   refine zM X0 hx 20 (hD 2 rfl) (tlt hc3).1 rfl ?_
   refine zL X0 hx (hD 11 rfl) rfl ?_
   exact retN X0 hx (t := .char) Bd.returns (by simp) (hD 12 rfl) hr
  ·have pqb : ∀ zz, Steps p.tables e below (s₁.setTop (mkF m 9 #[vI x] [(.int 90), (.int x)])) zz → Steps p.tables e below (s₁.setTop (entryFrame m #[(.int x)] 1)) zz := by
     intro zz kz_
     refine pq zz ?_
     refine zN X0 hx (hD 2 rfl) (flt hc3).1 ?_
     refine zL X0 hx (hD 3 rfl) rfl ?_
     refine zB X0 hx (hD 4 rfl) ?_
     exact kz_
   by_cases hc9 : (90 : Int32) < x
   ·refine zLv Bd X0 (v := some (.int (nar .char x))) (by decide) nofun (fun fs hr => pqb _ ?_) (by rw [e0]; exact ⟨by rw [f_lc, if_neg hc3, if_pos hc9]; exact congrArg (fun z => some (Value.int z)) (nar_id (isCh_of hB)), N0, rfl⟩)
    refine zM X0 hx 20 (hD 5 rfl) (tlt hc9).2.2.1 rfl ?_
    refine zL X0 hx (hD 11 rfl) rfl ?_
    exact retN X0 hx (t := .char) Bd.returns (by simp) (hD 12 rfl) hr
   ·refine zLv Bd X0 (v := some (.int (nar .char (x + (32 : Int32))))) (by decide) nofun (fun fs hr => pqb _ ?_) (by rw [e0]; exact ⟨by rw [f_lc, if_neg hc3, if_neg hc9]; exact congrArg (fun z => some (Value.int z)) (nar_id (low_ch hc3 hc9)), N0, rfl⟩)
    refine zN X0 hx (hD 5 rfl) (flt hc9).2.2.1 ?_
    refine zL X0 hx (hD 6 rfl) rfl ?_
    refine zB X0 hx (hD 7 rfl) ?_
    refine zP X0 hx (hD 8 rfl) ?_
    refine XS.i2c X0.here hx rfl (hD 9 rfl) rfl ?_
    show Steps p.tables e below (s₁.setTop (mkF m 17 #[vI x] [(.int ((x + (32 : Int32)).toUInt32.toUInt16.toUInt32.toInt32))])) _
    rw [show ((x + (32 : Int32)).toUInt32.toUInt16.toUInt32.toInt32) = (x + (32 : Int32)) from i2c_eq (low_ch hc3 hc9)]
    refine zG X0 hx 21 (hD 10 rfl) rfl ?_
    exact retN X0 hx (t := .char) Bd.returns (by simp) (hD 12 rfl) hr
def D3 : List (Nat × Instr × Nat) := [(0, .iload_n 1, 1), (1, .aload_n 0, 1), (2, .invokevirtual 107, 3), (5, .if_icmp .lt 6, 3), (8, .bipush 32, 2), (10, .ireturn, 1), (11, .aload_n 0, 1), (12, .iload_n 1, 1), (13, .invokevirtual 21, 3), (16, .istore_n 3, 1), (17, .iload_n 2, 1), (18, .iload_n 1, 1), (19, .iushr, 1), (20, .iconst 1, 1), (21, .iand, 1), (22, .ifCond .eq 21, 3), (25, .iload_n 3, 1), (26, .bipush 97, 2), (28, .if_icmp .lt 15, 3), (31, .iload_n 3, 1), (32, .bipush 122, 2), (34, .if_icmp .gt 9, 3), (37, .iload_n 3, 1), (38, .bipush 32, 2), (40, .isub, 1), (41, .i2c, 1), (42, .ireturn, 1), (43, .iload_n 3, 1), (44, .ireturn, 1)]
theorem d3 : ∀ x ∈ D3, decode method_9_code x.1 = .ok x.2 := by decide +kernel
theorem pn_3 : plainName "com/example/killdeer/killdeer/EndingStatementsOfPinLaw" = true := by first | (simp [plainName, overriddenIn]; done) | decide +kernel
theorem ef_3 (m : MethodId) (x0 : Addr) (x1 : Int32) (x2 : Int32) : entryFrame m #[(.ref x0), (.int x1), (.int x2)] 4 = mkF m 0 #[.val (.ref x0), .val (.int x1), .val (.int x2), .unset] [] := by first | (simp [entryFrame, mkF, argsToLocals, Value.category]; done) | rfl
theorem rmCH0 (hw : HW Z a0) (ws : List Jvm.Cond) (o : Addr) (i n : Nat) (g : Nat → Int32) (up : Int32)  (h0 : Heap) (n0 : Nat) (Z0 : n0 ≤ h0.size) (hn : n ≤ 56) (hi32 : i < 32) (O : Old Z n0 h0) (SK : StrSta Z) (S : Str Z h0 o n g) (hi : ¬ (i < n))  :
    MF l Z (⟨"com/example/killdeer/killdeer/EndingStatementsOfPinLaw", "ch", "(Ljava/lang/String;II)C"⟩ : MethodName) method_9_code 4 (some .char) ws (rM 4 66 0 0) #[(.ref o), (.int (iN i)), (.int up)] h0 (QI (32 : Int32) h0 n0) := by
  refine zBody pn_3 (fun m => ef_3 m o (iN i) up) ?_
  intro p e s m below meth c s₁ Bd hx hby hml hown hZ hh X0 e0 pre0
  have hD := dk hby d3
  have N0 := Fr.nil n0
  have EO := S.1
  obtain ⟨T30, L30, X30, e30, N30, st30⟩ := vLEN X0 hx hZ hown e0 N0 hw (hwi hw 19 rfl) Z0 hn O SK S 2 #[vR o, vI (iN i), vI up, .unset] [(.int (iN i))] hml (hD 2 rfl) 1
  refine zLv Bd X30 (v := some (.int 32)) (by decide) nofun (fun fs hr => pre0 _ ?_) (by rw [e30]; exact ⟨rfl, N30, rfl⟩)
  refine zL X0 hx (hD 0 rfl) rfl ?_
  refine zA X0 hx (hD 1 rfl) rfl rfl ?_
  refine st30 _ ?_
  refine zN X30 hx (hD 3 rfl) (flt (fun q => hi ((ltN (by omega) (by omega)).mp q))).1 ?_
  refine zB X30 hx (hD 4 rfl) ?_
  exact retN X30 hx (t := .char) Bd.returns (by simp) (hD 5 rfl) hr
def f_ch1 (o : Addr) (i n : Nat) (g : Nat → Int32) (up : Int32) : Int32 := if (upB up i) = (0 : Int32) then (g i) else if (g i) < (97 : Int32) then (g i) else if (122 : Int32) < (g i) then (g i) else ((g i) - (32 : Int32))
theorem rm_ch1 (hw : HW Z a0) (ws : List Jvm.Cond) (o : Addr) (i n : Nat) (g : Nat → Int32) (up : Int32)  (h0 : Heap) (n0 : Nat) (Z0 : n0 ≤ h0.size) (hn : n ≤ 56) (hi32 : i < 32) (O : Old Z n0 h0) (SK : StrSta Z) (S : Str Z h0 o n g) (hi : i < n) (hB : isB (g i))  :
    MF l Z (⟨"com/example/killdeer/killdeer/EndingStatementsOfPinLaw", "ch", "(Ljava/lang/String;II)C"⟩ : MethodName) method_9_code 4 (some .char) ws (rM 4 66 0 0) #[(.ref o), (.int (iN i)), (.int up)] h0 (QI (f_ch1 o i n g up) h0 n0) := by
  refine zBody pn_3 (fun m => ef_3 m o (iN i) up) ?_
  intro p e s m below meth c s₁ Bd hx hby hml hown hZ hh X0 e0 pre0
  have hD := dk hby d3
  have N0 := Fr.nil n0
  have EO := S.1
  obtain ⟨T31, L31, X31, e31, N31, st31⟩ := vLEN X0 hx hZ hown e0 N0 hw (hwi hw 19 rfl) Z0 hn O SK S 2 #[vR o, vI (iN i), vI up, .unset] [(.int (iN i))] hml (hD 2 rfl) 1
  have pq : ∀ zz, Steps p.tables e below (T31.setTop (mkF m 5 #[vR o, vI (iN i), vI up, .unset] [(.int (iN n)), (.int (iN i))])) zz → Steps p.tables e below (s₁.setTop (entryFrame m #[(.ref o), (.int (iN i)), (.int up)] 4)) zz := by
    intro zz kz_
    refine pre0 zz ?_
    refine zL X0 hx (hD 0 rfl) rfl ?_
    refine zA X0 hx (hD 1 rfl) rfl rfl ?_
    refine st31 _ ?_
    exact kz_
  by_cases hc22 : (upB up i) = (0 : Int32)
  ·obtain ⟨cq32, kq32, q32a, q32b, q32c⟩ := isOf hZ e31 EO
   obtain ⟨_, _, ⟨T32, L32, k32, n32⟩, -, X32, ⟨Lc32, hQ32, l32, y32, z32⟩, st32⟩ := X31.virtualBack hx hown (mvT hZ (hwi hw 32 rfl)) (mvT hZ (hwi hw 33 rfl)) (notFace_of_selects (args := #[]) (mvT hZ (hwi hw 35 rfl))) (mvT hZ (hwi hw 35 rfl)) (mvT hZ (hwi hw 34 rfl)) (by decide) (backOf (W := 0) (rmCA l Z a0 hw [] o i n g h0 n0 Z0 hn hi O SK S hB) hZ (hwi hw 36 rfl) (hwi hw 9 rfl) (by decide) (by decide)) q32a q32c (g := (mkF m 13 #[vR o, vI (iN i), vI up, .unset] [(.int (iN i)), (.ref o)])) rfl (by rw [hml]; rfl) (Steps.refl _) (argsL := [(.int (iN i))]) (rest := []) (lenOf pd_5 rfl) rfl (by show 2 * 0 + _ ≤ _; exact Nat.le_of_eq rfl) (hD 8 rfl) (fun _ _ => ⟨rfl, e31, (by decide : 0 + 0 ≤ _), (by decide : 0 + 0 ≤ _)⟩)
   dsimp only [Pt.U, Pt.locs, Pt.cells, Pt.slots] at X32 l32 y32 z32 st32 hQ32
   obtain rfl : k32 = 0 := y32; obtain rfl : n32 = 0 := z32
   obtain ⟨rfl, N32q, e32⟩ := hQ32
   have N32 : Fr n0 L32 := by rw [l32]; exact Fr.app N31 N32q
   refine zLv Bd X32 (v := some (.int (nar .char (g i)))) (by decide) nofun (fun fs hr => pq _ ?_) (by rw [e32]; exact ⟨by rw [f_ch1, if_pos hc22]; exact congrArg (fun z => some (Value.int z)) (nar_id (isCh_of hB)), N32, rfl⟩)
   refine zM X31 hx 11 (hD 3 rfl) (tlt ((ltN (by omega) (by omega)).mpr hi)).1 rfl ?_
   refine zA X31 hx (hD 6 rfl) rfl rfl ?_
   refine zL X31 hx (hD 7 rfl) rfl ?_
   refine st32.trans ?_
   refine zS X32 hx (hD 9 rfl) rfl ?_
   refine zL X32 hx (hD 10 rfl) rfl ?_
   refine zL X32 hx (hD 11 rfl) rfl ?_
   refine XS.iushr X32.here hx rfl (hD 12 rfl) rfl ?_
   refine zC X32 hx (hD 13 rfl) ?_
   refine XS.iand X32.here hx rfl (hD 14 rfl) rfl ?_
   show Steps p.tables e below (T32.setTop (mkF m 22 #[vR o, vI (iN i), vI up, vI (g i)] [(.int (upB up i))])) _
   refine zI X32 hx 43 (hD 15 rfl) ((if0 _ _).trans (teq hc22).1) rfl ?_
   refine zL X32 hx (hD 27 rfl) rfl ?_
   exact retN X32 hx (t := .char) Bd.returns (by simp) (hD 28 rfl) hr
  ·obtain ⟨cq32, kq32, q32a, q32b, q32c⟩ := isOf hZ e31 EO
   obtain ⟨_, _, ⟨T32, L32, k32, n32⟩, -, X32, ⟨Lc32, hQ32, l32, y32, z32⟩, st32⟩ := X31.virtualBack hx hown (mvT hZ (hwi hw 32 rfl)) (mvT hZ (hwi hw 33 rfl)) (notFace_of_selects (args := #[]) (mvT hZ (hwi hw 35 rfl))) (mvT hZ (hwi hw 35 rfl)) (mvT hZ (hwi hw 34 rfl)) (by decide) (backOf (W := 0) (rmCA l Z a0 hw [] o i n g h0 n0 Z0 hn hi O SK S hB) hZ (hwi hw 36 rfl) (hwi hw 9 rfl) (by decide) (by decide)) q32a q32c (g := (mkF m 13 #[vR o, vI (iN i), vI up, .unset] [(.int (iN i)), (.ref o)])) rfl (by rw [hml]; rfl) (Steps.refl _) (argsL := [(.int (iN i))]) (rest := []) (lenOf pd_5 rfl) rfl (by show 2 * 0 + _ ≤ _; exact Nat.le_of_eq rfl) (hD 8 rfl) (fun _ _ => ⟨rfl, e31, (by decide : 0 + 0 ≤ _), (by decide : 0 + 0 ≤ _)⟩)
   dsimp only [Pt.U, Pt.locs, Pt.cells, Pt.slots] at X32 l32 y32 z32 st32 hQ32
   obtain rfl : k32 = 0 := y32; obtain rfl : n32 = 0 := z32
   obtain ⟨rfl, N32q, e32⟩ := hQ32
   have N32 : Fr n0 L32 := by rw [l32]; exact Fr.app N31 N32q
   have pqb : ∀ zz, Steps p.tables e below (T32.setTop (mkF m 22 #[vR o, vI (iN i), vI up, vI (g i)] [(.int (upB up i))])) zz → Steps p.tables e below (s₁.setTop (entryFrame m #[(.ref o), (.int (iN i)), (.int up)] 4)) zz := by
     intro zz kz_
     refine pq zz ?_
     refine zM X31 hx 11 (hD 3 rfl) (tlt ((ltN (by omega) (by omega)).mpr hi)).1 rfl ?_
     refine zA X31 hx (hD 6 rfl) rfl rfl ?_
     refine zL X31 hx (hD 7 rfl) rfl ?_
     refine st32.trans ?_
     refine zS X32 hx (hD 9 rfl) rfl ?_
     refine zL X32 hx (hD 10 rfl) rfl ?_
     refine zL X32 hx (hD 11 rfl) rfl ?_
     refine XS.iushr X32.here hx rfl (hD 12 rfl) rfl ?_
     refine zC X32 hx (hD 13 rfl) ?_
     refine XS.iand X32.here hx rfl (hD 14 rfl) rfl ?_
     show Steps p.tables e below (T32.setTop (mkF m 22 #[vR o, vI (iN i), vI up, vI (g i)] [(.int (upB up i))])) _
     exact kz_
   by_cases hc28 : (g i) < (97 : Int32)
   ·refine zLv Bd X32 (v := some (.int (nar .char (g i)))) (by decide) nofun (fun fs hr => pqb _ ?_) (by rw [e32]; exact ⟨by rw [f_ch1, if_neg hc22, if_pos hc28]; exact congrArg (fun z => some (Value.int z)) (nar_id (isCh_of hB)), N32, rfl⟩)
    refine zJ X32 hx (hD 15 rfl) ((if0 _ _).trans (feq hc22).1) ?_
    refine zL X32 hx (hD 16 rfl) rfl ?_
    refine zB X32 hx (hD 17 rfl) ?_
    refine zM X32 hx 43 (hD 18 rfl) (tlt hc28).1 rfl ?_
    refine zL X32 hx (hD 27 rfl) rfl ?_
    exact retN X32 hx (t := .char) Bd.returns (by simp) (hD 28 rfl) hr
   ·have pqbb : ∀ zz, Steps p.tables e below (T32.setTop (mkF m 28 #[vR o, vI (iN i), vI up, vI (g i)] [(.int 97), (.int (g i))])) zz → Steps p.tables e below (s₁.setTop (entryFrame m #[(.ref o), (.int (iN i)), (.int up)] 4)) zz := by
      intro zz kz_
      refine pqb zz ?_
      refine zJ X32 hx (hD 15 rfl) ((if0 _ _).trans (feq hc22).1) ?_
      refine zL X32 hx (hD 16 rfl) rfl ?_
      refine zB X32 hx (hD 17 rfl) ?_
      exact kz_
    by_cases hc34 : (122 : Int32) < (g i)
    ·refine zLv Bd X32 (v := some (.int (nar .char (g i)))) (by decide) nofun (fun fs hr => pqbb _ ?_) (by rw [e32]; exact ⟨by rw [f_ch1, if_neg hc22, if_neg hc28, if_pos hc34]; exact congrArg (fun z => some (Value.int z)) (nar_id (isCh_of hB)), N32, rfl⟩)
     refine zN X32 hx (hD 18 rfl) (flt hc28).1 ?_
     refine zL X32 hx (hD 19 rfl) rfl ?_
     refine zB X32 hx (hD 20 rfl) ?_
     refine zM X32 hx 43 (hD 21 rfl) (tlt hc34).2.2.1 rfl ?_
     refine zL X32 hx (hD 27 rfl) rfl ?_
     exact retN X32 hx (t := .char) Bd.returns (by simp) (hD 28 rfl) hr
    ·refine zLv Bd X32 (v := some (.int (nar .char ((g i) - (32 : Int32))))) (by decide) nofun (fun fs hr => pqbb _ ?_) (by rw [e32]; exact ⟨by rw [f_ch1, if_neg hc22, if_neg hc28, if_neg hc34]; exact congrArg (fun z => some (Value.int z)) (nar_id (up_ch hc28 hc34)), N32, rfl⟩)
     refine zN X32 hx (hD 18 rfl) (flt hc28).1 ?_
     refine zL X32 hx (hD 19 rfl) rfl ?_
     refine zB X32 hx (hD 20 rfl) ?_
     refine zN X32 hx (hD 21 rfl) (flt hc34).2.2.1 ?_
     refine zL X32 hx (hD 22 rfl) rfl ?_
     refine zB X32 hx (hD 23 rfl) ?_
     refine XS.isub X32.here hx rfl (hD 24 rfl) rfl ?_
     refine XS.i2c X32.here hx rfl (hD 25 rfl) rfl ?_
     show Steps p.tables e below (T32.setTop (mkF m 42 #[vR o, vI (iN i), vI up, vI (g i)] [(.int (((g i) - (32 : Int32)).toUInt32.toUInt16.toUInt32.toInt32))])) _
     rw [show (((g i) - (32 : Int32)).toUInt32.toUInt16.toUInt32.toInt32) = ((g i) - (32 : Int32)) from i2c_eq (up_ch hc28 hc34)]
     show Steps p.tables e below (T32.setTop (mkF m 42 #[vR o, vI (iN i), vI up, vI (g i)] [(.int ((g i) - (32 : Int32)))])) _
     exact retN X32 hx (t := .char) Bd.returns (by simp) (hD 26 rfl) hr
theorem rmCH (hw : HW Z a0) (ws : List Jvm.Cond) (o : Addr) (i n : Nat) (g : Nat → Int32) (up : Int32)  (h0 : Heap) (n0 : Nat) (Z0 : n0 ≤ h0.size) (hn : n ≤ 56) (hi32 : i < 32) (O : Old Z n0 h0) (SK : StrSta Z) (S : Str Z h0 o n g) (hB : i < n → isB (g i))  :
    MF l Z (⟨"com/example/killdeer/killdeer/EndingStatementsOfPinLaw", "ch", "(Ljava/lang/String;II)C"⟩ : MethodName) method_9_code 4 (some .char) ws (rM 4 66 0 0) #[(.ref o), (.int (Int32.ofNat i)), (.int up)] h0 (QI (chF n g up i) h0 n0) := by
  unfold chF
  by_cases hi : i < n
  · rw [if_pos hi]; exact rm_ch1 l Z a0 hw ws o i n g up h0 n0 Z0 hn hi32 O SK S hi (hB hi)
  · rw [if_neg hi]; exact rmCH0 l Z a0 hw ws o i n g up h0 n0 Z0 hn hi32 O SK S hi
def QSt (Z : State) (lw : Nat → List Int32) (k : Nat) (h0 : Heap) (n0 : Nat) (v : Option Value) (h : Heap) (L : List Loc) : Prop := ∃ o : Addr, v = some (.ref o) ∧ Fr n0 L ∧ Keep h0 h [] ∧ Str Z h o (lw k).length (gl (lw k))
/-- a text of bytes, its chars t, of at most q slots -/
abbrev tOk (text : String) (t : List Int32) (q : Nat) : Prop := ((∀ c ∈ text.toList, c.toNat < 256) ∧ text.toList.map (fun c => Value.int (Jvm.Lit.byteI c.toNat.toUInt16)) = t.map fun x => Value.int (b8 x)) ∧ t.length < 2147483648 ∧ 4 * text.toList.length ≤ q ∧ q ≤ 536870912
/-- a constant loaded and returned -/
theorem zW {p : Program} {l : Launch} {e : Env} {s : State} {m : MethodId} {args : Array Value} {below : List Frame} {meth : Method} {c : Code} {Z : State} {a0 : Array Value} {y : MethodName} {S' : Spec} {bytes : ByteArray} {maxL q pc index n0 k : Nat} {own text : String} {rm : Room} {s₁ start : State} {h0 : Heap} {L : Array Slot} {lw : Nat → List Int32} {t : List Int32} (Bd : BodyLoose p l y S' bytes maxL (some (.object "java/lang/String")) e s m args below meth c s₁) (X0 : Stand p l e rm s m args below meth c s₁ [] 0 0) (hx : p.tables.exec = Jvm.exec) (hZ : Z.Warmed39 s.vm) (hown : s.vm.findClass own = some m.cls) (w : (Cond.stringLink own index text).before a0 Z = true) (wS : ∀ a ∈ Bundle.stringAtoms, a.before a0 Z = true) (e0 : s₁.heap = h0) (hEL : EW Z a0 EL1) (hmem : (own, index) ∈ EL1) (CH0 : CHv Z EL1 s.vm h0) (hh : s.heap = h0) (ht : tOk text t q) (hd1 : decode c.code pc = .ok (.ldc index, 2)) (hd2 : decode c.code (pc + 2) = .ok (.areturn, 1))
    (pre : ∀ zz, Steps p.tables e below (s₁.setTop (mkF m pc L [])) zz → Steps p.tables e below start zz) (hk : lw k = t) (hr : 0 + 2 ≤ rm.cells ∧ 0 + (q + 4) ≤ rm.slots) : ∃ s₂ o, Steps p.tables e below start s₂ ∧ s₂.status = .running ∧ Ended s₂ below o ∧ ∃ v_ L_, o = .returned v_ ∧ QSt Z lw k h0 n0 v_ s₂.heap L_ ∧ CHr Z EL1 s.vm s.heap s₂.vm s₂.heap ∧ ReturnedEndW s o s₂ L_ rm.cells rm.slots := by
  obtain ⟨a, T, h, k1, X1, e1, E1, hS1, hk1, hZ1, ho1, S1, C1, st1⟩ := cLDC (s := s) (vm0 := s.vm) X0 hx hZ hown w wS e0 ((State.WarmedH.refl s).since 0) (Nat.zero_le _) hEL hmem CH0 t (n := t.length) (q := q) ⟨ht.1, rfl, ht.2.1, ht.2.2.1, ht.2.2.2⟩ (g := mkF m pc L []) rfl hd1 hr.1 hr.2
  refine zLw Bd (vm₁ := T.vm) X1 hS1 (by rw [e1]; exact hk1) hZ1 hEL hh e1 C1 (v := some (.ref a)) hr nofun (fun fs hr => pre _ (st1 _ ?_)) ⟨a, rfl, Fr.nil n0, by rw [e1]; exact (Keep.refl h0 []).ext E1, by rw [e1, hk]; exact S1⟩
  jvm_step X1.here [X1.here.top, hx, hd2, X1.method', Bd.returns, Value.isRef, FieldType.isReference]
  first | (intro acts; rw [hr _ acts rfl rfl rfl]) | rw [hr _ _ rfl rfl rfl]
  exact Steps.refl _
def D2 : List (Nat × Instr × Nat) := [(0, .iload_n 0, 1), (1, .ifCond .ne 6, 3), (4, .ldc 59, 2), (6, .areturn, 1), (7, .iload_n 0, 1), (8, .iconst 1, 1), (9, .if_icmp .ne 6, 3), (12, .ldc 61, 2), (14, .areturn, 1), (15, .iload_n 0, 1), (16, .iconst 2, 1), (17, .if_icmp .ne 6, 3), (20, .ldc 63, 2), (22, .areturn, 1), (23, .iload_n 0, 1), (24, .iconst 3, 1), (25, .if_icmp .ne 6, 3), (28, .ldc 65, 2), (30, .areturn, 1), (31, .iload_n 0, 1), (32, .iconst 4, 1), (33, .if_icmp .ne 6, 3), (36, .ldc 67, 2), (38, .areturn, 1), (39, .iload_n 0, 1), (40, .iconst 5, 1), (41, .if_icmp .ne 6, 3), (44, .ldc 69, 2), (46, .areturn, 1), (47, .iload_n 0, 1), (48, .bipush 6, 2), (50, .if_icmp .ne 6, 3), (53, .ldc 71, 2), (55, .areturn, 1), (56, .iload_n 0, 1), (57, .bipush 7, 2), (59, .if_icmp .ne 6, 3), (62, .ldc 73, 2), (64, .areturn, 1), (65, .iload_n 0, 1), (66, .bipush 8, 2), (68, .if_icmp .ne 6, 3), (71, .ldc 75, 2), (73, .areturn, 1), (74, .iload_n 0, 1), (75, .bipush 9, 2), (77, .if_icmp .ne 6, 3), (80, .ldc 77, 2), (82, .areturn, 1), (83, .iload_n 0, 1), (84, .bipush 10, 2), (86, .if_icmp .ne 6, 3), (89, .ldc 79, 2), (91, .areturn, 1), (92, .iload_n 0, 1), (93, .bipush 11, 2), (95, .if_icmp .ne 6, 3), (98, .ldc 81, 2), (100, .areturn, 1), (101, .iload_n 0, 1), (102, .bipush 12, 2), (104, .if_icmp .ne 6, 3), (107, .ldc 83, 2), (109, .areturn, 1), (110, .iload_n 0, 1), (111, .bipush 13, 2), (113, .if_icmp .ne 6, 3), (116, .ldc 85, 2), (118, .areturn, 1), (119, .iload_n 0, 1), (120, .bipush 14, 2), (122, .if_icmp .ne 6, 3), (125, .ldc 87, 2), (127, .areturn, 1), (128, .ldc 89, 2), (130, .areturn, 1)]
theorem d2 : ∀ x ∈ D2, decode method_6_code x.1 = .ok x.2 := by decide +kernel
theorem pn_2 : plainName "com/example/killdeer/killdeer/EndingStatementsOfPinLaw" = true := by first | (simp [plainName, overriddenIn]; done) | decide +kernel
theorem ef_2 (m : MethodId) (x0 : Int32) : entryFrame m #[(.int x0)] 1 = mkF m 0 #[.val (.int x0)] [] := by first | (simp [entryFrame, mkF, argsToLocals, Value.category]; done) | rfl
def wl : Nat → List Int32
  | 0 => [99, 111, 109, 109, 105, 116]
  | 1 => [101, 110, 100]
  | 2 => [97, 98, 111, 114, 116]
  | 3 => [114, 111, 108, 108, 98, 97, 99, 107]
  | 4 => [112, 114, 101, 112, 97, 114, 101]
  | 5 => [112, 114, 101, 112, 97, 114, 101, 100]
  | 6 => [116, 111]
  | 7 => [119, 111, 114, 107]
  | 8 => [116, 114, 97, 110, 115, 97, 99, 116, 105, 111, 110]
  | 9 => [39, 105, 100, 39]
  | 10 => []
  | 11 => [115, 101, 108, 101, 99, 116]
  | 12 => [99, 111, 109, 109, 105, 116, 115]
  | 13 => [114, 111, 108, 108, 98, 97, 99]
  | 14 => [101, 39, 120, 39]
  | _ => [52, 50]
theorem rmWD (hw : HW Z a0) (ws : List Jvm.Cond) (k : Nat)  (h0 : Heap) (n0 : Nat) (Z0 : n0 ≤ h0.size) (hk : k < 16) (hEL : EW Z a0 EL1)  :
    MH l Z (⟨"com/example/killdeer/killdeer/EndingStatementsOfPinLaw", "word", "(I)Ljava/lang/String;"⟩ : MethodName) method_6_code 1 (some (.object "java/lang/String")) ws (rM 0 0 2 48) #[(.int (iN k))] h0 (QSt Z wl k h0 n0) := by
  refine zBodyH pn_2 (fun m => ef_2 m (iN k)) ?_
  intro p e s m below meth c s₁ Bd hx hby hml hown hZ hh X0 e0 pre0 CH0
  have hD := dk hby d2
  have N0 := Fr.nil n0
  have hwS := hwSt hw
  have p0 : ∀ zz, Steps p.tables e below (s₁.setTop (mkF m 1 #[vI (iN k)] [(.int (iN k))])) zz → Steps p.tables e below (s₁.setTop (entryFrame m #[(.int (iN k))] 1)) zz := by
    intro zz kz_
    refine pre0 zz ?_
    refine zL X0 hx (hD 0 rfl) rfl ?_
    exact kz_
  by_cases hk0 : k = 0
  · refine zW Bd X0 hx hZ hown (hwi hw 8 rfl) hwS e0 hEL (List.mem_of_getElem? (i := 13) rfl) CH0 hh (by decide +kernel : tOk _ (wl 0) 24) (hD 2 rfl) (hD 3 rfl) (L := #[vI (iN k)]) (fun zz kz => p0 zz ?_) (by rw [hk0]) (by decide)
    refine zJ X0 hx (hD 1 rfl) ((if0 _ _).trans (teq (congrArg Int32.ofNat hk0)).2) ?_
    exact kz
  have p1 : ∀ zz, Steps p.tables e below (s₁.setTop (mkF m 9 #[vI (iN k)] [(.int 1), (.int (iN k))])) zz → Steps p.tables e below (s₁.setTop (entryFrame m #[(.int (iN k))] 1)) zz := by
    intro zz kz_
    refine p0 zz ?_
    refine zI X0 hx 7 (hD 1 rfl) ((if0 _ _).trans (feq (neN hk0 (by omega) (by decide))).2) rfl ?_
    refine zL X0 hx (hD 4 rfl) rfl ?_
    refine zC X0 hx (hD 5 rfl) ?_
    exact kz_
  by_cases hk1 : k = 1
  · refine zW Bd X0 hx hZ hown (hwi hw 63 rfl) hwS e0 hEL (List.mem_of_getElem? (i := 14) rfl) CH0 hh (by decide +kernel : tOk _ (wl 1) 12) (hD 7 rfl) (hD 8 rfl) (L := #[vI (iN k)]) (fun zz kz => p1 zz ?_) (by rw [hk1]) (by decide)
    refine zN X0 hx (hD 6 rfl) (teq (congrArg Int32.ofNat hk1)).2 ?_
    exact kz
  have p2 : ∀ zz, Steps p.tables e below (s₁.setTop (mkF m 17 #[vI (iN k)] [(.int 2), (.int (iN k))])) zz → Steps p.tables e below (s₁.setTop (entryFrame m #[(.int (iN k))] 1)) zz := by
    intro zz kz_
    refine p1 zz ?_
    refine zM X0 hx 15 (hD 6 rfl) (feq (neN hk1 (by omega) (by decide))).2 rfl ?_
    refine zL X0 hx (hD 9 rfl) rfl ?_
    refine zC X0 hx (hD 10 rfl) ?_
    exact kz_
  by_cases hk2 : k = 2
  · refine zW Bd X0 hx hZ hown (hwi hw 58 rfl) hwS e0 hEL (List.mem_of_getElem? (i := 15) rfl) CH0 hh (by decide +kernel : tOk _ (wl 2) 20) (hD 12 rfl) (hD 13 rfl) (L := #[vI (iN k)]) (fun zz kz => p2 zz ?_) (by rw [hk2]) (by decide)
    refine zN X0 hx (hD 11 rfl) (teq (congrArg Int32.ofNat hk2)).2 ?_
    exact kz
  have p3 : ∀ zz, Steps p.tables e below (s₁.setTop (mkF m 25 #[vI (iN k)] [(.int 3), (.int (iN k))])) zz → Steps p.tables e below (s₁.setTop (entryFrame m #[(.int (iN k))] 1)) zz := by
    intro zz kz_
    refine p2 zz ?_
    refine zM X0 hx 23 (hD 11 rfl) (feq (neN hk2 (by omega) (by decide))).2 rfl ?_
    refine zL X0 hx (hD 14 rfl) rfl ?_
    refine zC X0 hx (hD 15 rfl) ?_
    exact kz_
  by_cases hk3 : k = 3
  · refine zW Bd X0 hx hZ hown (hwi hw 57 rfl) hwS e0 hEL (List.mem_of_getElem? (i := 16) rfl) CH0 hh (by decide +kernel : tOk _ (wl 3) 32) (hD 17 rfl) (hD 18 rfl) (L := #[vI (iN k)]) (fun zz kz => p3 zz ?_) (by rw [hk3]) (by decide)
    refine zN X0 hx (hD 16 rfl) (teq (congrArg Int32.ofNat hk3)).2 ?_
    exact kz
  have p4 : ∀ zz, Steps p.tables e below (s₁.setTop (mkF m 33 #[vI (iN k)] [(.int 4), (.int (iN k))])) zz → Steps p.tables e below (s₁.setTop (entryFrame m #[(.int (iN k))] 1)) zz := by
    intro zz kz_
    refine p3 zz ?_
    refine zM X0 hx 31 (hD 16 rfl) (feq (neN hk3 (by omega) (by decide))).2 rfl ?_
    refine zL X0 hx (hD 19 rfl) rfl ?_
    refine zC X0 hx (hD 20 rfl) ?_
    exact kz_
  by_cases hk4 : k = 4
  · refine zW Bd X0 hx hZ hown (hwi hw 202 rfl) hwS e0 hEL (List.mem_of_getElem? (i := 17) rfl) CH0 hh (by decide +kernel : tOk _ (wl 4) 28) (hD 22 rfl) (hD 23 rfl) (L := #[vI (iN k)]) (fun zz kz => p4 zz ?_) (by rw [hk4]) (by decide)
    refine zN X0 hx (hD 21 rfl) (teq (congrArg Int32.ofNat hk4)).2 ?_
    exact kz
  have p5 : ∀ zz, Steps p.tables e below (s₁.setTop (mkF m 41 #[vI (iN k)] [(.int 5), (.int (iN k))])) zz → Steps p.tables e below (s₁.setTop (entryFrame m #[(.int (iN k))] 1)) zz := by
    intro zz kz_
    refine p4 zz ?_
    refine zM X0 hx 39 (hD 21 rfl) (feq (neN hk4 (by omega) (by decide))).2 rfl ?_
    refine zL X0 hx (hD 24 rfl) rfl ?_
    refine zC X0 hx (hD 25 rfl) ?_
    exact kz_
  by_cases hk5 : k = 5
  · refine zW Bd X0 hx hZ hown (hwi hw 239 rfl) hwS e0 hEL (List.mem_of_getElem? (i := 18) rfl) CH0 hh (by decide +kernel : tOk _ (wl 5) 32) (hD 27 rfl) (hD 28 rfl) (L := #[vI (iN k)]) (fun zz kz => p5 zz ?_) (by rw [hk5]) (by decide)
    refine zN X0 hx (hD 26 rfl) (teq (congrArg Int32.ofNat hk5)).2 ?_
    exact kz
  have p6 : ∀ zz, Steps p.tables e below (s₁.setTop (mkF m 50 #[vI (iN k)] [(.int 6), (.int (iN k))])) zz → Steps p.tables e below (s₁.setTop (entryFrame m #[(.int (iN k))] 1)) zz := by
    intro zz kz_
    refine p5 zz ?_
    refine zM X0 hx 47 (hD 26 rfl) (feq (neN hk5 (by omega) (by decide))).2 rfl ?_
    refine zL X0 hx (hD 29 rfl) rfl ?_
    refine zB X0 hx (hD 30 rfl) ?_
    exact kz_
  by_cases hk6 : k = 6
  · refine zW Bd X0 hx hZ hown (hwi hw 302 rfl) hwS e0 hEL (List.mem_of_getElem? (i := 19) rfl) CH0 hh (by decide +kernel : tOk _ (wl 6) 8) (hD 32 rfl) (hD 33 rfl) (L := #[vI (iN k)]) (fun zz kz => p6 zz ?_) (by rw [hk6]) (by decide)
    refine zN X0 hx (hD 31 rfl) (teq (congrArg Int32.ofNat hk6)).2 ?_
    exact kz
  have p7 : ∀ zz, Steps p.tables e below (s₁.setTop (mkF m 59 #[vI (iN k)] [(.int 7), (.int (iN k))])) zz → Steps p.tables e below (s₁.setTop (entryFrame m #[(.int (iN k))] 1)) zz := by
    intro zz kz_
    refine p6 zz ?_
    refine zM X0 hx 56 (hD 31 rfl) (feq (neN hk6 (by omega) (by decide))).2 rfl ?_
    refine zL X0 hx (hD 34 rfl) rfl ?_
    refine zB X0 hx (hD 35 rfl) ?_
    exact kz_
  by_cases hk7 : k = 7
  · refine zW Bd X0 hx hZ hown (hwi hw 205 rfl) hwS e0 hEL (List.mem_of_getElem? (i := 20) rfl) CH0 hh (by decide +kernel : tOk _ (wl 7) 16) (hD 37 rfl) (hD 38 rfl) (L := #[vI (iN k)]) (fun zz kz => p7 zz ?_) (by rw [hk7]) (by decide)
    refine zN X0 hx (hD 36 rfl) (teq (congrArg Int32.ofNat hk7)).2 ?_
    exact kz
  have p8 : ∀ zz, Steps p.tables e below (s₁.setTop (mkF m 68 #[vI (iN k)] [(.int 8), (.int (iN k))])) zz → Steps p.tables e below (s₁.setTop (entryFrame m #[(.int (iN k))] 1)) zz := by
    intro zz kz_
    refine p7 zz ?_
    refine zM X0 hx 65 (hD 36 rfl) (feq (neN hk7 (by omega) (by decide))).2 rfl ?_
    refine zL X0 hx (hD 39 rfl) rfl ?_
    refine zB X0 hx (hD 40 rfl) ?_
    exact kz_
  by_cases hk8 : k = 8
  · refine zW Bd X0 hx hZ hown (hwi hw 230 rfl) hwS e0 hEL (List.mem_of_getElem? (i := 21) rfl) CH0 hh (by decide +kernel : tOk _ (wl 8) 44) (hD 42 rfl) (hD 43 rfl) (L := #[vI (iN k)]) (fun zz kz => p8 zz ?_) (by rw [hk8]) (by decide)
    refine zN X0 hx (hD 41 rfl) (teq (congrArg Int32.ofNat hk8)).2 ?_
    exact kz
  have p9 : ∀ zz, Steps p.tables e below (s₁.setTop (mkF m 77 #[vI (iN k)] [(.int 9), (.int (iN k))])) zz → Steps p.tables e below (s₁.setTop (entryFrame m #[(.int (iN k))] 1)) zz := by
    intro zz kz_
    refine p8 zz ?_
    refine zM X0 hx 74 (hD 41 rfl) (feq (neN hk8 (by omega) (by decide))).2 rfl ?_
    refine zL X0 hx (hD 44 rfl) rfl ?_
    refine zB X0 hx (hD 45 rfl) ?_
    exact kz_
  by_cases hk9 : k = 9
  · refine zW Bd X0 hx hZ hown (hwi hw 220 rfl) hwS e0 hEL (List.mem_of_getElem? (i := 22) rfl) CH0 hh (by decide +kernel : tOk _ (wl 9) 16) (hD 47 rfl) (hD 48 rfl) (L := #[vI (iN k)]) (fun zz kz => p9 zz ?_) (by rw [hk9]) (by decide)
    refine zN X0 hx (hD 46 rfl) (teq (congrArg Int32.ofNat hk9)).2 ?_
    exact kz
  have p10 : ∀ zz, Steps p.tables e below (s₁.setTop (mkF m 86 #[vI (iN k)] [(.int 10), (.int (iN k))])) zz → Steps p.tables e below (s₁.setTop (entryFrame m #[(.int (iN k))] 1)) zz := by
    intro zz kz_
    refine p9 zz ?_
    refine zM X0 hx 83 (hD 46 rfl) (feq (neN hk9 (by omega) (by decide))).2 rfl ?_
    refine zL X0 hx (hD 49 rfl) rfl ?_
    refine zB X0 hx (hD 50 rfl) ?_
    exact kz_
  by_cases hk10 : k = 10
  · refine zW Bd X0 hx hZ hown (hwi hw 203 rfl) hwS e0 hEL (List.mem_of_getElem? (i := 23) rfl) CH0 hh (by decide +kernel : tOk _ (wl 10) 0) (hD 52 rfl) (hD 53 rfl) (L := #[vI (iN k)]) (fun zz kz => p10 zz ?_) (by rw [hk10]) (by decide)
    refine zN X0 hx (hD 51 rfl) (teq (congrArg Int32.ofNat hk10)).2 ?_
    exact kz
  have p11 : ∀ zz, Steps p.tables e below (s₁.setTop (mkF m 95 #[vI (iN k)] [(.int 11), (.int (iN k))])) zz → Steps p.tables e below (s₁.setTop (entryFrame m #[(.int (iN k))] 1)) zz := by
    intro zz kz_
    refine p10 zz ?_
    refine zM X0 hx 92 (hD 51 rfl) (feq (neN hk10 (by omega) (by decide))).2 rfl ?_
    refine zL X0 hx (hD 54 rfl) rfl ?_
    refine zB X0 hx (hD 55 rfl) ?_
    exact kz_
  by_cases hk11 : k = 11
  · refine zW Bd X0 hx hZ hown (hwi hw 219 rfl) hwS e0 hEL (List.mem_of_getElem? (i := 24) rfl) CH0 hh (by decide +kernel : tOk _ (wl 11) 24) (hD 57 rfl) (hD 58 rfl) (L := #[vI (iN k)]) (fun zz kz => p11 zz ?_) (by rw [hk11]) (by decide)
    refine zN X0 hx (hD 56 rfl) (teq (congrArg Int32.ofNat hk11)).2 ?_
    exact kz
  have p12 : ∀ zz, Steps p.tables e below (s₁.setTop (mkF m 104 #[vI (iN k)] [(.int 12), (.int (iN k))])) zz → Steps p.tables e below (s₁.setTop (entryFrame m #[(.int (iN k))] 1)) zz := by
    intro zz kz_
    refine p11 zz ?_
    refine zM X0 hx 101 (hD 56 rfl) (feq (neN hk11 (by omega) (by decide))).2 rfl ?_
    refine zL X0 hx (hD 59 rfl) rfl ?_
    refine zB X0 hx (hD 60 rfl) ?_
    exact kz_
  by_cases hk12 : k = 12
  · refine zW Bd X0 hx hZ hown (hwi hw 228 rfl) hwS e0 hEL (List.mem_of_getElem? (i := 25) rfl) CH0 hh (by decide +kernel : tOk _ (wl 12) 28) (hD 62 rfl) (hD 63 rfl) (L := #[vI (iN k)]) (fun zz kz => p12 zz ?_) (by rw [hk12]) (by decide)
    refine zN X0 hx (hD 61 rfl) (teq (congrArg Int32.ofNat hk12)).2 ?_
    exact kz
  have p13 : ∀ zz, Steps p.tables e below (s₁.setTop (mkF m 113 #[vI (iN k)] [(.int 13), (.int (iN k))])) zz → Steps p.tables e below (s₁.setTop (entryFrame m #[(.int (iN k))] 1)) zz := by
    intro zz kz_
    refine p12 zz ?_
    refine zM X0 hx 110 (hD 61 rfl) (feq (neN hk12 (by omega) (by decide))).2 rfl ?_
    refine zL X0 hx (hD 64 rfl) rfl ?_
    refine zB X0 hx (hD 65 rfl) ?_
    exact kz_
  by_cases hk13 : k = 13
  · refine zW Bd X0 hx hZ hown (hwi hw 218 rfl) hwS e0 hEL (List.mem_of_getElem? (i := 26) rfl) CH0 hh (by decide +kernel : tOk _ (wl 13) 28) (hD 67 rfl) (hD 68 rfl) (L := #[vI (iN k)]) (fun zz kz => p13 zz ?_) (by rw [hk13]) (by decide)
    refine zN X0 hx (hD 66 rfl) (teq (congrArg Int32.ofNat hk13)).2 ?_
    exact kz
  have p14 : ∀ zz, Steps p.tables e below (s₁.setTop (mkF m 122 #[vI (iN k)] [(.int 14), (.int (iN k))])) zz → Steps p.tables e below (s₁.setTop (entryFrame m #[(.int (iN k))] 1)) zz := by
    intro zz kz_
    refine p13 zz ?_
    refine zM X0 hx 119 (hD 66 rfl) (feq (neN hk13 (by omega) (by decide))).2 rfl ?_
    refine zL X0 hx (hD 69 rfl) rfl ?_
    refine zB X0 hx (hD 70 rfl) ?_
    exact kz_
  by_cases hk14 : k = 14
  · refine zW Bd X0 hx hZ hown (hwi hw 303 rfl) hwS e0 hEL (List.mem_of_getElem? (i := 27) rfl) CH0 hh (by decide +kernel : tOk _ (wl 14) 16) (hD 72 rfl) (hD 73 rfl) (L := #[vI (iN k)]) (fun zz kz => p14 zz ?_) (by rw [hk14]) (by decide)
    refine zN X0 hx (hD 71 rfl) (teq (congrArg Int32.ofNat hk14)).2 ?_
    exact kz
  refine zW Bd X0 hx hZ hown (hwi hw 204 rfl) hwS e0 hEL (List.mem_of_getElem? (i := 28) rfl) CH0 hh (by decide +kernel : tOk _ (wl 15) 8) (hD 74 rfl) (hD 75 rfl) (L := #[vI (iN k)]) (fun zz kz => p14 zz ?_) (by rw [(by omega : k = 15)]) (by decide)
  refine zM X0 hx 128 (hD 71 rfl) (feq (neN hk14 (by omega) (by decide))).2 rfl ?_
  exact kz
def D12 : List (Nat × Instr × Nat) := [(0, .iload_n 0, 1), (1, .ifCond .ne 6, 3), (4, .ldc 91, 2), (6, .areturn, 1), (7, .iload_n 0, 1), (8, .iconst 1, 1), (9, .if_icmp .ne 6, 3), (12, .ldc 93, 2), (14, .areturn, 1), (15, .iload_n 0, 1), (16, .iconst 2, 1), (17, .if_icmp .ne 6, 3), (20, .ldc 95, 2), (22, .areturn, 1), (23, .iload_n 0, 1), (24, .iconst 3, 1), (25, .if_icmp .ne 6, 3), (28, .ldc 97, 2), (30, .areturn, 1), (31, .iload_n 0, 1), (32, .iconst 4, 1), (33, .if_icmp .ne 6, 3), (36, .ldc 99, 2), (38, .areturn, 1), (39, .iload_n 0, 1), (40, .iconst 5, 1), (41, .if_icmp .ne 6, 3), (44, .ldc 101, 2), (46, .areturn, 1), (47, .iload_n 0, 1), (48, .bipush 6, 2), (50, .if_icmp .ne 6, 3), (53, .ldc 103, 2), (55, .areturn, 1), (56, .ldc 105, 2), (58, .areturn, 1)]
theorem d12 : ∀ x ∈ D12, decode method_7_code x.1 = .ok x.2 := by decide +kernel
theorem pn_12 : plainName "com/example/killdeer/killdeer/EndingStatementsOfPinLaw" = true := by first | (simp [plainName, overriddenIn]; done) | decide +kernel
theorem ef_12 (m : MethodId) (x0 : Int32) : entryFrame m #[(.int x0)] 1 = mkF m 0 #[.val (.int x0)] [] := by first | (simp [entryFrame, mkF, argsToLocals, Value.category]; done) | rfl
def sl : Nat → List Int32
  | 0 => [59, 32, 32, 32, 32, 32, 32]
  | 1 => [32, 32, 32, 32, 32, 32, 32]
  | 2 => [47, 42, 59, 42, 47, 32, 32]
  | 3 => [45, 45, 59, 10, 32, 32, 32]
  | 4 => [39, 92, 39, 59, 92, 39, 39]
  | 5 => [34, 59, 34, 32, 32, 32, 32]
  | 6 => [36, 36, 59, 36, 36, 32, 32]
  | _ => [69, 39, 92, 39, 59, 39, 32]
theorem rmSP (hw : HW Z a0) (ws : List Jvm.Cond) (k : Nat)  (h0 : Heap) (n0 : Nat) (Z0 : n0 ≤ h0.size) (hk : k < 8) (hEL : EW Z a0 EL1)  :
    MH l Z (⟨"com/example/killdeer/killdeer/EndingStatementsOfPinLaw", "sepText", "(I)Ljava/lang/String;"⟩ : MethodName) method_7_code 1 (some (.object "java/lang/String")) ws (rM 0 0 2 32) #[(.int (iN k))] h0 (QSt Z sl k h0 n0) := by
  refine zBodyH pn_12 (fun m => ef_12 m (iN k)) ?_
  intro p e s m below meth c s₁ Bd hx hby hml hown hZ hh X0 e0 pre0 CH0
  have hD := dk hby d12
  have N0 := Fr.nil n0
  have hwS := hwSt hw
  have p0 : ∀ zz, Steps p.tables e below (s₁.setTop (mkF m 1 #[vI (iN k)] [(.int (iN k))])) zz → Steps p.tables e below (s₁.setTop (entryFrame m #[(.int (iN k))] 1)) zz := by
    intro zz kz_
    refine pre0 zz ?_
    refine zL X0 hx (hD 0 rfl) rfl ?_
    exact kz_
  by_cases hk0 : k = 0
  · refine zW Bd X0 hx hZ hown (hwi hw 62 rfl) hwS e0 hEL (List.mem_of_getElem? (i := 29) rfl) CH0 hh (by decide +kernel : tOk _ (sl 0) 28) (hD 2 rfl) (hD 3 rfl) (L := #[vI (iN k)]) (fun zz kz => p0 zz ?_) (by rw [hk0]) (by decide)
    refine zJ X0 hx (hD 1 rfl) ((if0 _ _).trans (teq (congrArg Int32.ofNat hk0)).2) ?_
    exact kz
  have p1 : ∀ zz, Steps p.tables e below (s₁.setTop (mkF m 9 #[vI (iN k)] [(.int 1), (.int (iN k))])) zz → Steps p.tables e below (s₁.setTop (entryFrame m #[(.int (iN k))] 1)) zz := by
    intro zz kz_
    refine p0 zz ?_
    refine zI X0 hx 7 (hD 1 rfl) ((if0 _ _).trans (feq (neN hk0 (by omega) (by decide))).2) rfl ?_
    refine zL X0 hx (hD 4 rfl) rfl ?_
    refine zC X0 hx (hD 5 rfl) ?_
    exact kz_
  by_cases hk1 : k = 1
  · refine zW Bd X0 hx hZ hown (hwi hw 311 rfl) hwS e0 hEL (List.mem_of_getElem? (i := 30) rfl) CH0 hh (by decide +kernel : tOk _ (sl 1) 28) (hD 7 rfl) (hD 8 rfl) (L := #[vI (iN k)]) (fun zz kz => p1 zz ?_) (by rw [hk1]) (by decide)
    refine zN X0 hx (hD 6 rfl) (teq (congrArg Int32.ofNat hk1)).2 ?_
    exact kz
  have p2 : ∀ zz, Steps p.tables e below (s₁.setTop (mkF m 17 #[vI (iN k)] [(.int 2), (.int (iN k))])) zz → Steps p.tables e below (s₁.setTop (entryFrame m #[(.int (iN k))] 1)) zz := by
    intro zz kz_
    refine p1 zz ?_
    refine zM X0 hx 15 (hD 6 rfl) (feq (neN hk1 (by omega) (by decide))).2 rfl ?_
    refine zL X0 hx (hD 9 rfl) rfl ?_
    refine zC X0 hx (hD 10 rfl) ?_
    exact kz_
  by_cases hk2 : k = 2
  · refine zW Bd X0 hx hZ hown (hwi hw 312 rfl) hwS e0 hEL (List.mem_of_getElem? (i := 31) rfl) CH0 hh (by decide +kernel : tOk _ (sl 2) 28) (hD 12 rfl) (hD 13 rfl) (L := #[vI (iN k)]) (fun zz kz => p2 zz ?_) (by rw [hk2]) (by decide)
    refine zN X0 hx (hD 11 rfl) (teq (congrArg Int32.ofNat hk2)).2 ?_
    exact kz
  have p3 : ∀ zz, Steps p.tables e below (s₁.setTop (mkF m 25 #[vI (iN k)] [(.int 3), (.int (iN k))])) zz → Steps p.tables e below (s₁.setTop (entryFrame m #[(.int (iN k))] 1)) zz := by
    intro zz kz_
    refine p2 zz ?_
    refine zM X0 hx 23 (hD 11 rfl) (feq (neN hk2 (by omega) (by decide))).2 rfl ?_
    refine zL X0 hx (hD 14 rfl) rfl ?_
    refine zC X0 hx (hD 15 rfl) ?_
    exact kz_
  by_cases hk3 : k = 3
  · refine zW Bd X0 hx hZ hown (hwi hw 306 rfl) hwS e0 hEL (List.mem_of_getElem? (i := 32) rfl) CH0 hh (by decide +kernel : tOk _ (sl 3) 28) (hD 17 rfl) (hD 18 rfl) (L := #[vI (iN k)]) (fun zz kz => p3 zz ?_) (by rw [hk3]) (by decide)
    refine zN X0 hx (hD 16 rfl) (teq (congrArg Int32.ofNat hk3)).2 ?_
    exact kz
  have p4 : ∀ zz, Steps p.tables e below (s₁.setTop (mkF m 33 #[vI (iN k)] [(.int 4), (.int (iN k))])) zz → Steps p.tables e below (s₁.setTop (entryFrame m #[(.int (iN k))] 1)) zz := by
    intro zz kz_
    refine p3 zz ?_
    refine zM X0 hx 31 (hD 16 rfl) (feq (neN hk3 (by omega) (by decide))).2 rfl ?_
    refine zL X0 hx (hD 19 rfl) rfl ?_
    refine zC X0 hx (hD 20 rfl) ?_
    exact kz_
  by_cases hk4 : k = 4
  · refine zW Bd X0 hx hZ hown (hwi hw 238 rfl) hwS e0 hEL (List.mem_of_getElem? (i := 33) rfl) CH0 hh (by decide +kernel : tOk _ (sl 4) 28) (hD 22 rfl) (hD 23 rfl) (L := #[vI (iN k)]) (fun zz kz => p4 zz ?_) (by rw [hk4]) (by decide)
    refine zN X0 hx (hD 21 rfl) (teq (congrArg Int32.ofNat hk4)).2 ?_
    exact kz
  have p5 : ∀ zz, Steps p.tables e below (s₁.setTop (mkF m 41 #[vI (iN k)] [(.int 5), (.int (iN k))])) zz → Steps p.tables e below (s₁.setTop (entryFrame m #[(.int (iN k))] 1)) zz := by
    intro zz kz_
    refine p4 zz ?_
    refine zM X0 hx 39 (hD 21 rfl) (feq (neN hk4 (by omega) (by decide))).2 rfl ?_
    refine zL X0 hx (hD 24 rfl) rfl ?_
    refine zC X0 hx (hD 25 rfl) ?_
    exact kz_
  by_cases hk5 : k = 5
  · refine zW Bd X0 hx hZ hown (hwi hw 221 rfl) hwS e0 hEL (List.mem_of_getElem? (i := 34) rfl) CH0 hh (by decide +kernel : tOk _ (sl 5) 28) (hD 27 rfl) (hD 28 rfl) (L := #[vI (iN k)]) (fun zz kz => p5 zz ?_) (by rw [hk5]) (by decide)
    refine zN X0 hx (hD 26 rfl) (teq (congrArg Int32.ofNat hk5)).2 ?_
    exact kz
  have p6 : ∀ zz, Steps p.tables e below (s₁.setTop (mkF m 50 #[vI (iN k)] [(.int 6), (.int (iN k))])) zz → Steps p.tables e below (s₁.setTop (entryFrame m #[(.int (iN k))] 1)) zz := by
    intro zz kz_
    refine p5 zz ?_
    refine zM X0 hx 47 (hD 26 rfl) (feq (neN hk5 (by omega) (by decide))).2 rfl ?_
    refine zL X0 hx (hD 29 rfl) rfl ?_
    refine zB X0 hx (hD 30 rfl) ?_
    exact kz_
  by_cases hk6 : k = 6
  · refine zW Bd X0 hx hZ hown (hwi hw 240 rfl) hwS e0 hEL (List.mem_of_getElem? (i := 35) rfl) CH0 hh (by decide +kernel : tOk _ (sl 6) 28) (hD 32 rfl) (hD 33 rfl) (L := #[vI (iN k)]) (fun zz kz => p6 zz ?_) (by rw [hk6]) (by decide)
    refine zN X0 hx (hD 31 rfl) (teq (congrArg Int32.ofNat hk6)).2 ?_
    exact kz
  refine zW Bd X0 hx hZ hown (hwi hw 229 rfl) hwS e0 hEL (List.mem_of_getElem? (i := 36) rfl) CH0 hh (by decide +kernel : tOk _ (sl 7) 28) (hD 34 rfl) (hD 35 rfl) (L := #[vI (iN k)]) (fun zz kz => p6 zz ?_) (by rw [(by omega : k = 7)]) (by decide)
  refine zM X0 hx 56 (hD 31 rfl) (feq (neN hk6 (by omega) (by decide))).2 rfl ?_
  exact kz
theorem glB {l : List Int32} (h : ∀ x ∈ l, isB x) : ∀ j, isB (gl l j) := fun j => by
  unfold gl
  rw [List.getD]
  cases q : l[j]? with
  | none => exact ⟨by decide, by decide⟩
  | some x => exact h x (List.mem_of_getElem? q)
theorem wl_ok (k : Nat) (hk : k < 16) : (wl k).length ≤ 11 ∧ ∀ x ∈ wl k, isB x := (by decide +kernel : ∀ k, k < 16 → (wl k).length ≤ 11 ∧ ∀ x ∈ wl k, 0 ≤ x.toInt ∧ x.toInt < 256) k hk
theorem sl_ok (k : Nat) (hk : k < 8) : (sl k).length = 7 ∧ ∀ x ∈ sl k, isB x := (by decide +kernel : ∀ k, k < 8 → (sl k).length = 7 ∧ ∀ x ∈ sl k, 0 ≤ x.toInt ∧ x.toInt < 256) k hk
/-- a word's char i under the case bits up -/
def wc (k : Nat) (up : Int32) : Nat → Int32 := fun i => chF (wl k).length (gl (wl k)) up i
theorem chF_ch {n : Nat} {g : Nat → Int32} {up : Int32} {i : Nat} (h : isB (g i)) : isCh (chF n g up i) := by
  unfold chF
  by_cases q1 : i < n
  · rw [if_pos q1]
    by_cases q2 : upB up i = 0
    · rw [if_pos q2]; exact isCh_of h
    · rw [if_neg q2]
      by_cases q3 : g i < 97
      · rw [if_pos q3]; exact isCh_of h
      · rw [if_neg q3]
        by_cases q4 : 122 < g i
        · rw [if_pos q4]; exact isCh_of h
        · rw [if_neg q4]; exact up_ch q3 q4
  · rw [if_neg q1]; exact ⟨by decide, by decide⟩
def D1 : List (Nat × Instr × Nat) := [(0, .iload_n 2, 1), (1, .bipush 15, 2), (3, .iand, 1), (4, .invokestatic 111, 3), (7, .astore_n 3, 1), (8, .iload_n 2, 1), (9, .iconst 4, 1), (10, .iushr, 1), (11, .istore 4, 2), (13, .aload_n 0, 1), (14, .iload_n 1, 1), (15, .aload_n 3, 1), (16, .iconst 0, 1), (17, .iload 4, 2), (19, .invokestatic 114, 3), (22, .castore, 1), (23, .aload_n 0, 1), (24, .iload_n 1, 1), (25, .iconst 1, 1), (26, .iadd, 1), (27, .aload_n 3, 1), (28, .iconst 1, 1), (29, .iload 4, 2), (31, .invokestatic 114, 3), (34, .castore, 1), (35, .aload_n 0, 1), (36, .iload_n 1, 1), (37, .iconst 2, 1), (38, .iadd, 1), (39, .aload_n 3, 1), (40, .iconst 2, 1), (41, .iload 4, 2), (43, .invokestatic 114, 3), (46, .castore, 1), (47, .aload_n 0, 1), (48, .iload_n 1, 1), (49, .iconst 3, 1), (50, .iadd, 1), (51, .aload_n 3, 1), (52, .iconst 3, 1), (53, .iload 4, 2), (55, .invokestatic 114, 3), (58, .castore, 1), (59, .aload_n 0, 1), (60, .iload_n 1, 1), (61, .iconst 4, 1), (62, .iadd, 1), (63, .aload_n 3, 1), (64, .iconst 4, 1), (65, .iload 4, 2), (67, .invokestatic 114, 3), (70, .castore, 1), (71, .aload_n 0, 1), (72, .iload_n 1, 1), (73, .iconst 5, 1), (74, .iadd, 1), (75, .aload_n 3, 1), (76, .iconst 5, 1), (77, .iload 4, 2), (79, .invokestatic 114, 3), (82, .castore, 1), (83, .aload_n 0, 1), (84, .iload_n 1, 1), (85, .bipush 6, 2), (87, .iadd, 1), (88, .aload_n 3, 1), (89, .bipush 6, 2), (91, .iload 4, 2), (93, .invokestatic 114, 3), (96, .castore, 1), (97, .aload_n 0, 1), (98, .iload_n 1, 1), (99, .bipush 7, 2), (101, .iadd, 1), (102, .aload_n 3, 1), (103, .bipush 7, 2), (105, .iload 4, 2), (107, .invokestatic 114, 3), (110, .castore, 1), (111, .aload_n 0, 1), (112, .iload_n 1, 1), (113, .bipush 8, 2), (115, .iadd, 1), (116, .aload_n 3, 1), (117, .bipush 8, 2), (119, .iload 4, 2), (121, .invokestatic 114, 3), (124, .castore, 1), (125, .aload_n 0, 1), (126, .iload_n 1, 1), (127, .bipush 9, 2), (129, .iadd, 1), (130, .aload_n 3, 1), (131, .bipush 9, 2), (133, .iload 4, 2), (135, .invokestatic 114, 3), (138, .castore, 1), (139, .aload_n 0, 1), (140, .iload_n 1, 1), (141, .bipush 10, 2), (143, .iadd, 1), (144, .aload_n 3, 1), (145, .bipush 10, 2), (147, .iload 4, 2), (149, .invokestatic 114, 3), (152, .castore, 1), (153, .return_, 1)]
theorem d1 : ∀ x ∈ D1, decode method_10_code x.1 = .ok x.2 := by decide +kernel
theorem pn_1 : plainName "com/example/killdeer/killdeer/EndingStatementsOfPinLaw" = true := by first | (simp [plainName, overriddenIn]; done) | decide +kernel
theorem ef_1 (m : MethodId) (x0 : Addr) (x1 : Int32) (x2 : Int32) : entryFrame m #[(.ref x0), (.int x1), (.int x2)] 5 = mkF m 0 #[.val (.ref x0), .val (.int x1), .val (.int x2), .unset, .unset] [] := by first | (simp [entryFrame, mkF, argsToLocals, Value.category]; done) | rfl
section PutS
variable {p : Program} {l : Launch} {e : Env} {R : Room} {s : State} {m : MethodId} {args : Array Value} {below : List Frame} {meth : Method} {c : Code} {T : State} {locs : List Loc} {cells slots : Nat} {Z : State} {a0 : Array Value} {h h1 : Heap} {n0 k i off pc : Nat} {up z w : Int32} {o ta : Addr} {F : Nat → Int32} {L : Array Slot}
/-- one turn of put: ch, castore -/
theorem cPU (X : Stand p l e R s m args below meth c T locs cells slots) (hx : p.tables.exec = Jvm.exec) (hZ : Z.Warmed39 s.vm) (hw : HW Z a0) (hown : s.vm.findClass "com/example/killdeer/killdeer/EndingStatementsOfPinLaw" = some m.cls) (eT : T.heap = h) (N : Fr n0 locs) (O : Old Z n0 h) (SK : StrSta Z) (Zp : n0 ≤ h.size) (hk : k < 16) (hi : i < 11) (hoff : off + 11 ≤ 56) (g_ta : n0 ≤ ta) (S : Str Z h o (wl k).length (gl (wl k))) (A : AF Z h ta .char 56 (Ca (pfV off i (wc k up) F))) (KW : Keep h1 h [ta]) (hml : c.maxLocals = L.size) (hd1 : decode c.code pc = .ok (.invokestatic 114, 3)) (hd2 : decode c.code (pc + 3) = .ok (.castore, 1)) (hz : z = Int32.ofNat i) (hw' : w = Int32.ofNat (off + i)) (hr : 4 + 1 ≤ R.frames ∧ 2 + (4 + 11) + 66 ≤ R.locals ∧ cells ≤ R.cells ∧ slots ≤ R.slots) :
    ∃ T' h' L', Stand p l e R s m args below meth c T' L' cells slots ∧ T'.heap = h' ∧ Fr n0 L' ∧ Old Z n0 h' ∧ n0 ≤ h'.size ∧ Str Z h' o (wl k).length (gl (wl k)) ∧ AF Z h' ta .char 56 (Ca (pfV off (i + 1) (wc k up) F)) ∧ Keep h1 h' [ta] ∧ ∀ target, Steps p.tables e below (T'.setTop (mkF m (pc + 4) L [])) target → Steps p.tables e below (T.setTop (mkF m pc L [.int up, .int z, .ref o, .int w, .ref ta])) target := by
  subst hz hw'
  obtain ⟨T1, L1, X1, e1, N1, st1⟩ := zT X hx hZ hown eT N (hwi hw 16 rfl) (hwi hw 17 rfl) (hwi hw 3 rfl) (hwi hw 18 rfl) (rmCH l Z a0 hw [] o i (wl k).length (gl (wl k)) up h n0 Zp (by have := (wl_ok k hk).1; omega) (by omega) O SK S (fun _ => glB (wl_ok k hk).2 _)) pc L [.int up, .int (Int32.ofNat i), .ref o, .int (Int32.ofNat (off + i)), .ref ta] hml pd_2 hd1 2 (hr := hr)
  obtain ⟨T2, h2, X2, e2, W2, st2⟩ := stCh X1 hx hZ e1 A (i := off + i) (by omega) (by decide) (x := wc k up i) (g := mkF m (pc + 3) L [.int (wc k up i), .int (Int32.ofNat (off + i)), .ref ta]) rfl rfl hd2
  exact ⟨T2, h2, _, X2, e2, Fr.snoc X2 N1 g_ta, O.wr W2 g_ta, Nat.le_trans Zp (Keep.of_wr W2).1, S.keep1 (Keep.of_wr W2) A (hwi hw 10 rfl), (A.wr W2).congr (pfS (nar_id (chF_ch (glB (wl_ok k hk).2 _)))), KW.wr W2 (Or.inl (List.mem_singleton.mpr rfl)), fun target kt => st1 target (st2 target kt)⟩
end PutS
def QPU (Z : State) (ta : Addr) (F : Nat → Int32) (h0 : Heap) (n0 : Nat) (v : Option Value) (h : Heap) (L : List Loc) : Prop := v = none ∧ Fr n0 L ∧ Keep h0 h [ta] ∧ AF Z h ta .char 56 (Ca F)
theorem rmPU (hw : HW Z a0) (ws : List Jvm.Cond) (ta : Addr) (off : Nat) (x : Int32) (F : Nat → Int32)  (h0 : Heap) (n0 : Nat) (Z0 : n0 ≤ h0.size) (hoff : off + 11 ≤ 56) (O : Old Z n0 h0) (SK : StrSta Z) (hEL : EW Z a0 EL1) (g_ta : n0 ≤ ta) (FA0 : AF Z h0 ta .char 56 (Ca F))  :
    MH l Z (⟨"com/example/killdeer/killdeer/EndingStatementsOfPinLaw", "put", "([CII)V"⟩ : MethodName) method_10_code 5 none ws (rM 5 90 2 48) #[(.ref ta), (.int (iN off)), (.int x)] h0 (QPU Z ta (pfV off 11 (wc (k16 x) (u4 x)) F) h0 n0) := by
  refine zBodyH pn_1 (fun m => ef_1 m ta (iN off) x) ?_
  intro p e s m below meth c s₁ Bd hx hby hml hown hZ hh X0 e0 pre0 CH0
  have hD := dk hby d1
  have N0 := Fr.nil n0
  have FA : AF Z h0 ta .char 56 (Ca (pfV off 0 (wc (k16 x) (u4 x)) F)) := by rw [pf0]; exact FA0
  obtain ⟨_, _, ⟨T33, L33, k33, n33⟩, -, X33, hS233, hg33, ⟨Lc33, hQ33, l33, y33, z33, C33⟩, st33⟩ := callSS X0 hx (y := (⟨"com/example/killdeer/killdeer/EndingStatementsOfPinLaw", "word", "(I)Ljava/lang/String;"⟩ : MethodName)) hown (mvT hZ (hwi hw 5 rfl)) (mvT hZ (hwi hw 6 rfl)) (mvT hZ (hwi hw 3 rfl)) (mvT hZ (hwi hw 7 rfl)) (by decide) (backOfSH (s := s) (vm0 := s.vm) (EL := EL1) (W := 0) (rmWD l Z a0 hw [] (k16 x) h0 n0 Z0 (k16_lt x) hEL) hZ (hwi hw 7 rfl) (hwi hw 3 rfl) (by decide) (by decide) hEL CH0) (g := (mkF m 4 #[vR ta, vI (iN off), vI x, .unset, .unset] [(.int (iN (k16 x)))])) rfl (by rw [hml]; rfl) (argsL := [(.int (iN (k16 x)))]) (rest := []) (lenOf pd_1 rfl) rfl (by show 2 * 0 + _ ≤ _; exact Nat.le_of_eq rfl) (hD 3 rfl) (fun _ _ => ⟨rfl, e0, (by decide : 0 + 2 ≤ _), (by decide : 0 + 48 ≤ _)⟩)
  dsimp only [Pt.U, Pt.locs, Pt.cells, Pt.slots] at X33 l33 y33 z33 st33 hQ33 hS233 hg33
  obtain rfl : k33 = 2 := y33; obtain rfl : n33 = 48 := z33
  obtain ⟨o33, rfl, N33q, K33, S33⟩ := hQ33
  have N33 : Fr n0 L33 := by rw [l33]; exact Fr.app N0 N33q
  dsimp only [Pt.U, Pt.locs, Pt.cells, Pt.slots] at C33
  have CR33 := (CHr.refl CH0).trans C33
  have hS33 := foldS ((State.WarmedH.refl s).since 0) (by rw [e0]; exact (Nat.zero_le _)) hS233 hg33
  have hZ33 : Z.Warmed39 (s.setVm T33.vm).vm := State.Warmed39.trans hZ hS233.1
  have hown33 := ownS (s := s) hS233.1 hown
  have FA_e33 := FA.keep K33 List.not_mem_nil
  have KK33 := (Keep.refl h0 [ta]).trans K33 (fun x r => absurd r List.not_mem_nil)
  have Z33 := Nat.le_trans Z0 K33.1
  have O33 := O.keep K33 all0'
  obtain ⟨T34, h34, L34, X34, e34, N34, O34, Z34, SS34, A34, KW34, st34⟩ := cPU X33 hx hZ33 hw hown33 rfl N33 O33 SK Z33 (k16_lt x) (i := 0) (by decide) hoff g_ta S33 FA_e33 (Keep.refl T33.heap [ta]) (L := #[vR ta, vI (iN off), vI x, vR o33, vI (u4 x)]) hml (hD 14 rfl) (hD 15 rfl) rfl (rfl) (by decide)
  obtain ⟨T35, h35, L35, X35, e35, N35, O35, Z35, SS35, A35, KW35, st35⟩ := cPU X34 hx hZ33 hw hown33 e34 N34 O34 SK Z34 (k16_lt x) (i := 1) (by decide) hoff g_ta SS34 A34 KW34 (L := #[vR ta, vI (iN off), vI x, vR o33, vI (u4 x)]) hml (hD 23 rfl) (hD 24 rfl) rfl (addN (m := 1)) (by decide)
  obtain ⟨T36, h36, L36, X36, e36, N36, O36, Z36, SS36, A36, KW36, st36⟩ := cPU X35 hx hZ33 hw hown33 e35 N35 O35 SK Z35 (k16_lt x) (i := 2) (by decide) hoff g_ta SS35 A35 KW35 (L := #[vR ta, vI (iN off), vI x, vR o33, vI (u4 x)]) hml (hD 32 rfl) (hD 33 rfl) rfl (addN (m := 2)) (by decide)
  obtain ⟨T37, h37, L37, X37, e37, N37, O37, Z37, SS37, A37, KW37, st37⟩ := cPU X36 hx hZ33 hw hown33 e36 N36 O36 SK Z36 (k16_lt x) (i := 3) (by decide) hoff g_ta SS36 A36 KW36 (L := #[vR ta, vI (iN off), vI x, vR o33, vI (u4 x)]) hml (hD 41 rfl) (hD 42 rfl) rfl (addN (m := 3)) (by decide)
  obtain ⟨T38, h38, L38, X38, e38, N38, O38, Z38, SS38, A38, KW38, st38⟩ := cPU X37 hx hZ33 hw hown33 e37 N37 O37 SK Z37 (k16_lt x) (i := 4) (by decide) hoff g_ta SS37 A37 KW37 (L := #[vR ta, vI (iN off), vI x, vR o33, vI (u4 x)]) hml (hD 50 rfl) (hD 51 rfl) rfl (addN (m := 4)) (by decide)
  obtain ⟨T39, h39, L39, X39, e39, N39, O39, Z39, SS39, A39, KW39, st39⟩ := cPU X38 hx hZ33 hw hown33 e38 N38 O38 SK Z38 (k16_lt x) (i := 5) (by decide) hoff g_ta SS38 A38 KW38 (L := #[vR ta, vI (iN off), vI x, vR o33, vI (u4 x)]) hml (hD 59 rfl) (hD 60 rfl) rfl (addN (m := 5)) (by decide)
  obtain ⟨T40, h40, L40, X40, e40, N40, O40, Z40, SS40, A40, KW40, st40⟩ := cPU X39 hx hZ33 hw hown33 e39 N39 O39 SK Z39 (k16_lt x) (i := 6) (by decide) hoff g_ta SS39 A39 KW39 (L := #[vR ta, vI (iN off), vI x, vR o33, vI (u4 x)]) hml (hD 68 rfl) (hD 69 rfl) rfl (addN (m := 6)) (by decide)
  obtain ⟨T41, h41, L41, X41, e41, N41, O41, Z41, SS41, A41, KW41, st41⟩ := cPU X40 hx hZ33 hw hown33 e40 N40 O40 SK Z40 (k16_lt x) (i := 7) (by decide) hoff g_ta SS40 A40 KW40 (L := #[vR ta, vI (iN off), vI x, vR o33, vI (u4 x)]) hml (hD 77 rfl) (hD 78 rfl) rfl (addN (m := 7)) (by decide)
  obtain ⟨T42, h42, L42, X42, e42, N42, O42, Z42, SS42, A42, KW42, st42⟩ := cPU X41 hx hZ33 hw hown33 e41 N41 O41 SK Z41 (k16_lt x) (i := 8) (by decide) hoff g_ta SS41 A41 KW41 (L := #[vR ta, vI (iN off), vI x, vR o33, vI (u4 x)]) hml (hD 86 rfl) (hD 87 rfl) rfl (addN (m := 8)) (by decide)
  obtain ⟨T43, h43, L43, X43, e43, N43, O43, Z43, SS43, A43, KW43, st43⟩ := cPU X42 hx hZ33 hw hown33 e42 N42 O42 SK Z42 (k16_lt x) (i := 9) (by decide) hoff g_ta SS42 A42 KW42 (L := #[vR ta, vI (iN off), vI x, vR o33, vI (u4 x)]) hml (hD 95 rfl) (hD 96 rfl) rfl (addN (m := 9)) (by decide)
  obtain ⟨T44, h44, L44, X44, e44, N44, O44, Z44, SS44, A44, KW44, st44⟩ := cPU X43 hx hZ33 hw hown33 e43 N43 O43 SK Z43 (k16_lt x) (i := 10) (by decide) hoff g_ta SS43 A43 KW43 (L := #[vR ta, vI (iN off), vI x, vR o33, vI (u4 x)]) hml (hD 104 rfl) (hD 105 rfl) rfl (addN (m := 10)) (by decide)
  have KKz := KK33.trans KW44 (fun x q => by cases List.mem_singleton.mp q; exact Or.inl (List.mem_of_getElem? (i := 0) rfl))
  have hkz := Nat.le_trans (Nat.le_refl _) KW44.1
  have CRz := CR33.trans (CHr.keep KW44 (safe1 (AF.safe hZ33.alike FA_e33 (by decide))) C33.1)
  refine zLw Bd (vm₁ := T33.vm) X44 hS33 (by rw [e44]; exact hkz) hZ33 hEL hh e44 CRz (v := none) (by decide) (fun _ => rfl) (fun fs hr => pre0 _ ?_) (by exact ⟨rfl, N44, by rw [e44]; exact KKz, by rw [e44]; exact A44⟩)
  refine zL X0 hx (hD 0 rfl) rfl ?_
  refine zB X0 hx (hD 1 rfl) ?_
  refine XS.iand X0.here hx rfl (hD 2 rfl) rfl ?_
  show Steps p.tables e below (s₁.setTop (mkF m 4 #[vR ta, vI (iN off), vI x, .unset, .unset] [(.int (x &&& (15 : Int32)))])) _
  rw [show (x &&& (15 : Int32)) = (iN (k16 x)) from k16_eq x]
  refine st33.trans ?_
  refine XS.astoreN X33.here hx rfl (hD 4 rfl) rfl rfl (l' := #[vR ta, vI (iN off), vI x, vR o33, .unset]) rfl ?_
  refine zL X33 hx (hD 5 rfl) rfl ?_
  refine zC X33 hx (hD 6 rfl) ?_
  refine XS.iushr X33.here hx rfl (hD 7 rfl) rfl ?_
  show Steps p.tables e below (T33.setTop (mkF m 11 #[vR ta, vI (iN off), vI x, vR o33, .unset] [(.int (u4 x))])) _
  refine zs X33 hx (hD 8 rfl) rfl ?_
  refine zA X33 hx (hD 9 rfl) rfl rfl ?_
  refine zL X33 hx (hD 10 rfl) rfl ?_
  refine zA X33 hx (hD 11 rfl) rfl rfl ?_
  refine zC X33 hx (hD 12 rfl) ?_
  refine zl X33 hx (hD 13 rfl) rfl ?_
  refine st34 _ ?_
  refine zA X34 hx (hD 16 rfl) rfl rfl ?_
  refine zL X34 hx (hD 17 rfl) rfl ?_
  refine zC X34 hx (hD 18 rfl) ?_
  refine zP X34 hx (hD 19 rfl) ?_
  refine zA X34 hx (hD 20 rfl) rfl rfl ?_
  refine zC X34 hx (hD 21 rfl) ?_
  refine zl X34 hx (hD 22 rfl) rfl ?_
  refine st35 _ ?_
  refine zA X35 hx (hD 25 rfl) rfl rfl ?_
  refine zL X35 hx (hD 26 rfl) rfl ?_
  refine zC X35 hx (hD 27 rfl) ?_
  refine zP X35 hx (hD 28 rfl) ?_
  refine zA X35 hx (hD 29 rfl) rfl rfl ?_
  refine zC X35 hx (hD 30 rfl) ?_
  refine zl X35 hx (hD 31 rfl) rfl ?_
  refine st36 _ ?_
  refine zA X36 hx (hD 34 rfl) rfl rfl ?_
  refine zL X36 hx (hD 35 rfl) rfl ?_
  refine zC X36 hx (hD 36 rfl) ?_
  refine zP X36 hx (hD 37 rfl) ?_
  refine zA X36 hx (hD 38 rfl) rfl rfl ?_
  refine zC X36 hx (hD 39 rfl) ?_
  refine zl X36 hx (hD 40 rfl) rfl ?_
  refine st37 _ ?_
  refine zA X37 hx (hD 43 rfl) rfl rfl ?_
  refine zL X37 hx (hD 44 rfl) rfl ?_
  refine zC X37 hx (hD 45 rfl) ?_
  refine zP X37 hx (hD 46 rfl) ?_
  refine zA X37 hx (hD 47 rfl) rfl rfl ?_
  refine zC X37 hx (hD 48 rfl) ?_
  refine zl X37 hx (hD 49 rfl) rfl ?_
  refine st38 _ ?_
  refine zA X38 hx (hD 52 rfl) rfl rfl ?_
  refine zL X38 hx (hD 53 rfl) rfl ?_
  refine zC X38 hx (hD 54 rfl) ?_
  refine zP X38 hx (hD 55 rfl) ?_
  refine zA X38 hx (hD 56 rfl) rfl rfl ?_
  refine zC X38 hx (hD 57 rfl) ?_
  refine zl X38 hx (hD 58 rfl) rfl ?_
  refine st39 _ ?_
  refine zA X39 hx (hD 61 rfl) rfl rfl ?_
  refine zL X39 hx (hD 62 rfl) rfl ?_
  refine zB X39 hx (hD 63 rfl) ?_
  refine zP X39 hx (hD 64 rfl) ?_
  refine zA X39 hx (hD 65 rfl) rfl rfl ?_
  refine zB X39 hx (hD 66 rfl) ?_
  refine zl X39 hx (hD 67 rfl) rfl ?_
  refine st40 _ ?_
  refine zA X40 hx (hD 70 rfl) rfl rfl ?_
  refine zL X40 hx (hD 71 rfl) rfl ?_
  refine zB X40 hx (hD 72 rfl) ?_
  refine zP X40 hx (hD 73 rfl) ?_
  refine zA X40 hx (hD 74 rfl) rfl rfl ?_
  show Steps p.tables e below (T40.setTop (mkF m 103 #[vR ta, vI (iN off), vI x, vR o33, vI (u4 x)] [(.ref o33), (.int ((iN off) + (7 : Int32))), (.ref ta)])) _
  refine zB X40 hx (hD 75 rfl) ?_
  refine zl X40 hx (hD 76 rfl) rfl ?_
  refine st41 _ ?_
  refine zA X41 hx (hD 79 rfl) rfl rfl ?_
  refine zL X41 hx (hD 80 rfl) rfl ?_
  refine zB X41 hx (hD 81 rfl) ?_
  refine zP X41 hx (hD 82 rfl) ?_
  refine zA X41 hx (hD 83 rfl) rfl rfl ?_
  refine zB X41 hx (hD 84 rfl) ?_
  refine zl X41 hx (hD 85 rfl) rfl ?_
  refine st42 _ ?_
  refine zA X42 hx (hD 88 rfl) rfl rfl ?_
  refine zL X42 hx (hD 89 rfl) rfl ?_
  refine zB X42 hx (hD 90 rfl) ?_
  refine zP X42 hx (hD 91 rfl) ?_
  refine zA X42 hx (hD 92 rfl) rfl rfl ?_
  refine zB X42 hx (hD 93 rfl) ?_
  refine zl X42 hx (hD 94 rfl) rfl ?_
  refine st43 _ ?_
  refine zA X43 hx (hD 97 rfl) rfl rfl ?_
  refine zL X43 hx (hD 98 rfl) rfl ?_
  refine zB X43 hx (hD 99 rfl) ?_
  refine zP X43 hx (hD 100 rfl) ?_
  refine zA X43 hx (hD 101 rfl) rfl rfl ?_
  refine zB X43 hx (hD 102 rfl) ?_
  refine zl X43 hx (hD 103 rfl) rfl ?_
  refine st44 _ ?_
  show Steps p.tables e below (T44.setTop (mkF m 153 #[vR ta, vI (iN off), vI x, vR o33, vI (u4 x)] [])) _
  exact X44.returnOut hx Bd.returns (hD 106 rfl) hr
/-- the text's chars are bytes -/
def allB (g : Nat → Int32) : Prop := ∀ j, isB (g j)
def kwP (g kg : Nat → Int32) (s e n : Nat) : Prop := e - s = n ∧ ∀ i, i < n → f_lc (g (s + i)) = kg i
theorem firstNe (P : Nat → Prop) (n : Nat) : (∀ j, j < n → P j) ∨ ∃ k, k < n ∧ ¬ P k ∧ ∀ j, j < k → P j := by
  induction n with
  | zero => exact Or.inl fun j hj => absurd hj (Nat.not_lt_zero _)
  | succ n ih =>
    rcases ih with h | ⟨k, h1, h2, h3⟩
    · by_cases q : P n
      · exact Or.inl fun j hj => by
          by_cases r : j = n
          · exact r ▸ q
          · exact h j (by omega)
      · exact Or.inr ⟨n, by omega, q, h⟩
    · exact Or.inr ⟨k, by omega, h2, h3⟩
def D31 : List (Nat × Instr × Nat) := [(0, .iload_n 2, 1), (1, .iload_n 1, 1), (2, .isub, 1), (3, .aload_n 3, 1), (4, .invokevirtual 58, 3), (7, .if_icmp .eq 5, 3), (10, .iconst 0, 1), (11, .ireturn, 1), (12, .iconst 0, 1), (13, .istore 4, 2), (15, .iload 4, 2), (17, .aload_n 3, 1), (18, .invokevirtual 58, 3), (21, .if_icmp .ge 34, 3), (24, .aload_n 0, 1), (25, .getfield 22, 3), (28, .iload_n 1, 1), (29, .iload 4, 2), (31, .iadd, 1), (32, .invokevirtual 64, 3), (35, .invokestatic 128, 3), (38, .aload_n 3, 1), (39, .iload 4, 2), (41, .invokevirtual 64, 3), (44, .if_icmp .eq 5, 3), (47, .iconst 0, 1), (48, .ireturn, 1), (49, .iinc 4 1, 3), (52, .goto (-37), 3), (55, .iconst 1, 1), (56, .ireturn, 1)]
theorem d31 : ∀ x ∈ D31, decode prog_11_method_9_code x.1 = .ok x.2 := by decide +kernel
theorem pn_31 : plainName "com/example/killdeer/killdeer/EndingStatements" = true := by first | (simp [plainName, overriddenIn]; done) | decide +kernel
theorem ef_31 (m : MethodId) (x0 : Addr) (x1 : Int32) (x2 : Int32) (x3 : Addr) : entryFrame m #[(.ref x0), (.int x1), (.int x2), (.ref x3)] 5 = mkF m 0 #[.val (.ref x0), .val (.int x1), .val (.int x2), .val (.ref x3), .unset] [] := by first | (simp [entryFrame, mkF, argsToLocals, Value.category]; done) | rfl
theorem tnKW {p : Program} {l : Launch} {e : Env} {s : State} {m : MethodId} {args : Array Value} {below : List Frame} {meth : Method} {c : Code} {Z : State} {a0 : Array Value} {h0 : Heap} {n0 : Nat} {T0 : State} {locs : List Loc} (r o kw : Addr) (s0 e1 n i : Nat) (g kg : Nat → Int32) (hx : p.tables.exec = Jvm.exec) (hZ : Z.Warmed39 s.vm) (hw : HW Z a0) (hby : c.code = prog_11_method_9_code) (hml : c.maxLocals = 5) (hown : s.vm.findClass "com/example/killdeer/killdeer/EndingStatements" = some m.cls) (Z0 : n0 ≤ h0.size) (X0 : Stand p l e (rM 4 70 0 0) s m args below meth c T0 locs 0 0) (e0 : T0.heap = h0) (N0 : Fr n0 locs) (hse : s0 ≤ e1) (he : e1 ≤ 56) (hn : n ≤ 56) (O : Old Z n0 h0) (SK : StrSta Z) (ER : Exa Z h0 r "com/example/killdeer/killdeer/EndingStatements") (FT : Fld Z h0 r "com/example/killdeer/killdeer/EndingStatements" "text" "Ljava/lang/String;" (.ref o)) (ST0 : Str Z h0 o 56 g) (hgB : allB g) (SW : Str Z h0 kw n kg) (hkB : allB kg) (hsn : e1 - s0 = n) (hi : i < n) (heq : f_lc (g (s0 + i)) = kg i) :
    ∃ (T' : State) (locs' : List Loc), Stand p l e (rM 4 70 0 0) s m args below meth c T' locs' 0 0 ∧ T'.heap = h0 ∧ Fr n0 locs' ∧ ∀ target, Steps p.tables e below (T'.setTop (mkF m 15 #[vR r, vI (iN s0), vI (iN e1), vR kw, vI (iN (i + 1))] [])) target → Steps p.tables e below (T0.setTop (mkF m 15 #[vR r, vI (iN s0), vI (iN e1), vR kw, vI (iN i)] [])) target := by
  have hD := dk hby d31
  have EO := ST0.1
  have EK := SW.1
  obtain ⟨T45, L45, X45, e45, N45, st45⟩ := vLEN X0 hx hZ hown e0 N0 hw (hwi hw 114 rfl) Z0 hn O SK SW 18 #[vR r, vI (iN s0), vI (iN e1), vR kw, vI (iN i)] [(.int (iN i))] hml (hD 12 rfl) 1
  obtain ⟨T46, X46, e46, st46⟩ := zF X45 hx hZ hown (hwi hw 104 rfl) e45 FT 25 #[vR r, vI (iN s0), vI (iN e1), vR kw, vI (iN i)] [] (hD 15 rfl)
  obtain ⟨T47, L47, X47, e47, N47, st47⟩ := vCA X46 hx hZ hown e46 N45 hw (hwi hw 115 rfl) Z0 (by decide) (s0 + i) (iN (s0 + i)) (by omega) O SK ST0 (hgB _) 32 #[vR r, vI (iN s0), vI (iN e1), vR kw, vI (iN i)] [] hml (hD 19 rfl) 0
  obtain ⟨T48, L48, X48, e48, N48, st48⟩ := zT X47 hx hZ hown e47 N47 (hwi hw 144 rfl) (hwi hw 145 rfl) (hwi hw 88 rfl) (hwi hw 146 rfl) (rm_lc l Z a0 hw [] (g (s0 + i)) h0 n0 Z0 (hgB _)) 35 #[vR r, vI (iN s0), vI (iN e1), vR kw, vI (iN i)] [(.int (g (s0 + i)))] hml pd_21 (hD 20 rfl) 0
  obtain ⟨T49, L49, X49, e49, N49, st49⟩ := vCA X48 hx hZ hown e48 N48 hw (hwi hw 115 rfl) Z0 hn i (iN i) (by omega) O SK SW (hkB _) 41 #[vR r, vI (iN s0), vI (iN e1), vR kw, vI (iN i)] [(.int (f_lc (g (s0 + i))))] hml (hD 23 rfl) 1
  refine ⟨_, _, X49, e49, N49, fun target kt => ?_⟩
  refine zl X0 hx (hD 10 rfl) rfl ?_
  refine zA X0 hx (hD 11 rfl) rfl rfl ?_
  refine st45 _ ?_
  refine zN X45 hx (hD 13 rfl) (tlt ((ltN (by omega) (by omega)).mpr hi)).2.1 ?_
  refine zA X45 hx (hD 14 rfl) rfl rfl ?_
  refine st46 _ ?_
  refine zL X46 hx (hD 16 rfl) rfl ?_
  refine zl X46 hx (hD 17 rfl) rfl ?_
  refine zPl X46 hx (hD 18 rfl) (z := (iN (s0 + i))) (addN) ?_
  refine st47 _ ?_
  refine st48 _ ?_
  refine zA X48 hx (hD 21 rfl) rfl rfl ?_
  refine zl X48 hx (hD 22 rfl) rfl ?_
  refine st49 _ ?_
  refine zM X49 hx 49 (hD 24 rfl) (teq heq).1 rfl ?_
  refine XS.iinc X49.here hx rfl (hD 27 rfl) rfl (l' := #[vR r, vI (iN s0), vI (iN e1), vR kw, vI ((iN i) + (1 : Int32))]) rfl ?_
  show Steps p.tables e below (T49.setTop (mkF m 52 #[vR r, vI (iN s0), vI (iN e1), vR kw, vI ((iN i) + (1 : Int32))] [])) _
  rw [show ((iN i) + (1 : Int32)) = (iN (i + 1)) from succN i]
  refine zG X49 hx 15 (hD 28 rfl) rfl ?_
  exact kt
theorem lpKW {p : Program} {l : Launch} {e : Env} {s : State} {m : MethodId} {args : Array Value} {below : List Frame} {meth : Method} {c : Code} {Z : State} {a0 : Array Value} {h0 : Heap} {n0 : Nat} (r o kw : Addr) (s0 e1 n : Nat) (g kg : Nat → Int32) (hx : p.tables.exec = Jvm.exec) (hZ : Z.Warmed39 s.vm) (hw : HW Z a0) (hby : c.code = prog_11_method_9_code) (hml : c.maxLocals = 5) (hown : s.vm.findClass "com/example/killdeer/killdeer/EndingStatements" = some m.cls) (Z0 : n0 ≤ h0.size) (hse : s0 ≤ e1) (he : e1 ≤ 56) (hn : n ≤ 56) (O : Old Z n0 h0) (SK : StrSta Z) (ER : Exa Z h0 r "com/example/killdeer/killdeer/EndingStatements") (FT : Fld Z h0 r "com/example/killdeer/killdeer/EndingStatements" "text" "Ljava/lang/String;" (.ref o)) (ST0 : Str Z h0 o 56 g) (hgB : allB g) (SW : Str Z h0 kw n kg) (hkB : allB kg) (hsn : e1 - s0 = n) : ∀ (k i : Nat) (T0 : State) (locs : List Loc), i + k ≤ n → Stand p l e (rM 4 70 0 0) s m args below meth c T0 locs 0 0 → T0.heap = h0 → Fr n0 locs → (∀ j, j < i + k → f_lc (g (s0 + j)) = kg j) →
    ∃ (T' : State) (locs' : List Loc), Stand p l e (rM 4 70 0 0) s m args below meth c T' locs' 0 0 ∧ T'.heap = h0 ∧ Fr n0 locs' ∧ ∀ target, Steps p.tables e below (T'.setTop (mkF m 15 #[vR r, vI (iN s0), vI (iN e1), vR kw, vI (iN (i + k))] [])) target → Steps p.tables e below (T0.setTop (mkF m 15 #[vR r, vI (iN s0), vI (iN e1), vR kw, vI (iN i)] [])) target := by
  intro k
  induction k with
  | zero => intro i T0 locs hk X0 e0 N0 hq; exact ⟨T0, locs, X0, e0, N0, fun target kt => kt⟩
  | succ k ih =>
    intro i T0 locs hk X0 e0 N0 hq
    obtain ⟨T1, L1, X1, e1', N1, st1⟩ := tnKW r o kw s0 e1 n i g kg hx hZ hw hby hml hown Z0 X0 e0 N0 hse he hn O SK ER FT ST0 hgB SW hkB hsn (by omega) (hq i (by omega))
    obtain ⟨T2, L2, X2, e2', N2, st2⟩ := ih (i + 1) T1 L1 (by omega) X1 e1' N1 (fun j hj => hq j (by omega))
    rw [show i + 1 + k = i + (k + 1) by omega] at st2
    exact ⟨T2, L2, X2, e2', N2, fun target kt => st1 target (st2 target kt)⟩
theorem rmKW0 (hw : HW Z a0) (ws : List Jvm.Cond) (r o kw : Addr) (s0 e1 n : Nat) (g kg : Nat → Int32)  (h0 : Heap) (n0 : Nat) (Z0 : n0 ≤ h0.size) (hse : s0 ≤ e1) (he : e1 ≤ 56) (hn : n ≤ 56) (O : Old Z n0 h0) (SK : StrSta Z) (ER : Exa Z h0 r "com/example/killdeer/killdeer/EndingStatements") (FT : Fld Z h0 r "com/example/killdeer/killdeer/EndingStatements" "text" "Ljava/lang/String;" (.ref o)) (ST0 : Str Z h0 o 56 g) (hgB : allB g) (SW : Str Z h0 kw n kg) (hkB : allB kg) (hsn : ¬ (e1 - s0 = n))  :
    MF l Z (⟨"com/example/killdeer/killdeer/EndingStatements", "isKeyword", "(IILjava/lang/String;)Z"⟩ : MethodName) prog_11_method_9_code 5 (some .boolean) ws (rM 4 70 0 0) #[(.ref r), (.int (iN s0)), (.int (iN e1)), (.ref kw)] h0 (QI (0 : Int32) h0 n0) := by
  refine zBody pn_31 (fun m => ef_31 m r (iN s0) (iN e1) kw) ?_
  intro p e s m below meth c s₁ Bd hx hby hml hown hZ hh X0 e0 pre0
  have hD := dk hby d31
  have N0 := Fr.nil n0
  have EO := ST0.1
  have EK := SW.1
  obtain ⟨T50, L50, X50, e50, N50, st50⟩ := vLEN X0 hx hZ hown e0 N0 hw (hwi hw 114 rfl) Z0 hn O SK SW 4 #[vR r, vI (iN s0), vI (iN e1), vR kw, .unset] [(.int ((iN e1) - (iN s0)))] hml (hD 4 rfl) 1
  refine zLv Bd X50 (v := some (.int 0)) (by decide) nofun (fun fs hr => pre0 _ ?_) (by rw [e50]; exact ⟨rfl, N50, rfl⟩)
  refine zL X0 hx (hD 0 rfl) rfl ?_
  refine zL X0 hx (hD 1 rfl) rfl ?_
  refine XS.isub X0.here hx rfl (hD 2 rfl) rfl ?_
  refine zA X0 hx (hD 3 rfl) rfl rfl ?_
  refine st50 _ ?_
  show Steps p.tables e below (T50.setTop (mkF m 7 #[vR r, vI (iN s0), vI (iN e1), vR kw, .unset] [(.int (iN n)), (.int ((iN e1) - (iN s0)))])) _
  rw [show ((iN e1) - (iN s0)) = (iN (e1 - s0)) from subN hse (by omega)]
  refine zN X50 hx (hD 5 rfl) (feq (neN hsn (by omega) (by omega))).1 ?_
  refine zC X50 hx (hD 6 rfl) ?_
  exact retN X50 hx (t := .boolean) Bd.returns (by simp) (hD 7 rfl) hr
theorem rmKW1 (hw : HW Z a0) (ws : List Jvm.Cond) (r o kw : Addr) (s0 e1 n : Nat) (g kg : Nat → Int32)  (h0 : Heap) (n0 : Nat) (Z0 : n0 ≤ h0.size) (hse : s0 ≤ e1) (he : e1 ≤ 56) (hn : n ≤ 56) (O : Old Z n0 h0) (SK : StrSta Z) (ER : Exa Z h0 r "com/example/killdeer/killdeer/EndingStatements") (FT : Fld Z h0 r "com/example/killdeer/killdeer/EndingStatements" "text" "Ljava/lang/String;" (.ref o)) (ST0 : Str Z h0 o 56 g) (hgB : allB g) (SW : Str Z h0 kw n kg) (hkB : allB kg) (hsn : e1 - s0 = n) (hq : ∀ j, j < n → f_lc (g (s0 + j)) = kg j)  :
    MF l Z (⟨"com/example/killdeer/killdeer/EndingStatements", "isKeyword", "(IILjava/lang/String;)Z"⟩ : MethodName) prog_11_method_9_code 5 (some .boolean) ws (rM 4 70 0 0) #[(.ref r), (.int (iN s0)), (.int (iN e1)), (.ref kw)] h0 (QI (1 : Int32) h0 n0) := by
  refine zBody pn_31 (fun m => ef_31 m r (iN s0) (iN e1) kw) ?_
  intro p e s m below meth c s₁ Bd hx hby hml hown hZ hh X0 e0 pre0
  have hD := dk hby d31
  have N0 := Fr.nil n0
  have EO := ST0.1
  have EK := SW.1
  obtain ⟨T51, L51, X51, e51, N51, st51⟩ := vLEN X0 hx hZ hown e0 N0 hw (hwi hw 114 rfl) Z0 hn O SK SW 4 #[vR r, vI (iN s0), vI (iN e1), vR kw, .unset] [(.int ((iN e1) - (iN s0)))] hml (hD 4 rfl) 1
  obtain ⟨T52, L52, X52, e52, N52, st52⟩ := lpKW r o kw s0 e1 n g kg hx hZ hw hby hml hown Z0 hse he hn O SK ER FT ST0 hgB SW hkB hsn n 0 _ _ (by omega) X51 e51 N51 (fun j hj => hq j (by omega))
  rw [Nat.zero_add] at st52
  obtain ⟨T53, L53, X53, e53, N53, st53⟩ := vLEN X52 hx hZ hown e52 N52 hw (hwi hw 114 rfl) Z0 hn O SK SW 18 #[vR r, vI (iN s0), vI (iN e1), vR kw, vI (iN n)] [(.int (iN n))] hml (hD 12 rfl) 1
  refine zLv Bd X53 (v := some (.int 1)) (by decide) nofun (fun fs hr => pre0 _ ?_) (by rw [e53]; exact ⟨rfl, N53, rfl⟩)
  refine zL X0 hx (hD 0 rfl) rfl ?_
  refine zL X0 hx (hD 1 rfl) rfl ?_
  refine XS.isub X0.here hx rfl (hD 2 rfl) rfl ?_
  refine zA X0 hx (hD 3 rfl) rfl rfl ?_
  refine st51 _ ?_
  show Steps p.tables e below (T51.setTop (mkF m 7 #[vR r, vI (iN s0), vI (iN e1), vR kw, .unset] [(.int (iN n)), (.int ((iN e1) - (iN s0)))])) _
  rw [show ((iN e1) - (iN s0)) = (iN n) from (subN hse (by omega)).trans (congrArg Int32.ofNat hsn)]
  refine zM X51 hx 12 (hD 5 rfl) (teq (rfl : (iN n) = (iN n))).1 rfl ?_
  refine zC X51 hx (hD 8 rfl) ?_
  refine zs X51 hx (hD 9 rfl) rfl ?_
  show Steps p.tables e below (T51.setTop (mkF m 15 #[vR r, vI (iN s0), vI (iN e1), vR kw, vI (iN 0)] [])) _
  refine st52 _ ?_
  refine zl X52 hx (hD 10 rfl) rfl ?_
  refine zA X52 hx (hD 11 rfl) rfl rfl ?_
  refine st53 _ ?_
  refine zM X53 hx 55 (hD 13 rfl) (flt (fun q => absurd ((ltN (by omega) (by omega)).mp q) (Nat.lt_irrefl _))).2.1 rfl ?_
  refine zC X53 hx (hD 29 rfl) ?_
  exact retN X53 hx (t := .boolean) Bd.returns (by simp) (hD 30 rfl) hr
theorem rmKW2 (hw : HW Z a0) (ws : List Jvm.Cond) (r o kw : Addr) (s0 e1 n : Nat) (g kg : Nat → Int32) (k : Nat)  (h0 : Heap) (n0 : Nat) (Z0 : n0 ≤ h0.size) (hse : s0 ≤ e1) (he : e1 ≤ 56) (hn : n ≤ 56) (O : Old Z n0 h0) (SK : StrSta Z) (ER : Exa Z h0 r "com/example/killdeer/killdeer/EndingStatements") (FT : Fld Z h0 r "com/example/killdeer/killdeer/EndingStatements" "text" "Ljava/lang/String;" (.ref o)) (ST0 : Str Z h0 o 56 g) (hgB : allB g) (SW : Str Z h0 kw n kg) (hkB : allB kg) (hsn : e1 - s0 = n) (hi : k < n) (hq : ∀ j, j < k → f_lc (g (s0 + j)) = kg j) (hne : ¬ (f_lc (g (s0 + k)) = kg k))  :
    MF l Z (⟨"com/example/killdeer/killdeer/EndingStatements", "isKeyword", "(IILjava/lang/String;)Z"⟩ : MethodName) prog_11_method_9_code 5 (some .boolean) ws (rM 4 70 0 0) #[(.ref r), (.int (iN s0)), (.int (iN e1)), (.ref kw)] h0 (QI (0 : Int32) h0 n0) := by
  refine zBody pn_31 (fun m => ef_31 m r (iN s0) (iN e1) kw) ?_
  intro p e s m below meth c s₁ Bd hx hby hml hown hZ hh X0 e0 pre0
  have hD := dk hby d31
  have N0 := Fr.nil n0
  have EO := ST0.1
  have EK := SW.1
  obtain ⟨T54, L54, X54, e54, N54, st54⟩ := vLEN X0 hx hZ hown e0 N0 hw (hwi hw 114 rfl) Z0 hn O SK SW 4 #[vR r, vI (iN s0), vI (iN e1), vR kw, .unset] [(.int ((iN e1) - (iN s0)))] hml (hD 4 rfl) 1
  obtain ⟨T55, L55, X55, e55, N55, st55⟩ := lpKW r o kw s0 e1 n g kg hx hZ hw hby hml hown Z0 hse he hn O SK ER FT ST0 hgB SW hkB hsn k 0 _ _ (by omega) X54 e54 N54 (fun j hj => hq j (by omega))
  rw [Nat.zero_add] at st55
  obtain ⟨T56, L56, X56, e56, N56, st56⟩ := vLEN X55 hx hZ hown e55 N55 hw (hwi hw 114 rfl) Z0 hn O SK SW 18 #[vR r, vI (iN s0), vI (iN e1), vR kw, vI (iN k)] [(.int (iN k))] hml (hD 12 rfl) 1
  obtain ⟨T57, X57, e57, st57⟩ := zF X56 hx hZ hown (hwi hw 104 rfl) e56 FT 25 #[vR r, vI (iN s0), vI (iN e1), vR kw, vI (iN k)] [] (hD 15 rfl)
  obtain ⟨T58, L58, X58, e58, N58, st58⟩ := vCA X57 hx hZ hown e57 N56 hw (hwi hw 115 rfl) Z0 (by decide) (s0 + k) (iN (s0 + k)) (by omega) O SK ST0 (hgB _) 32 #[vR r, vI (iN s0), vI (iN e1), vR kw, vI (iN k)] [] hml (hD 19 rfl) 0
  obtain ⟨T59, L59, X59, e59, N59, st59⟩ := zT X58 hx hZ hown e58 N58 (hwi hw 144 rfl) (hwi hw 145 rfl) (hwi hw 88 rfl) (hwi hw 146 rfl) (rm_lc l Z a0 hw [] (g (s0 + k)) h0 n0 Z0 (hgB _)) 35 #[vR r, vI (iN s0), vI (iN e1), vR kw, vI (iN k)] [(.int (g (s0 + k)))] hml pd_21 (hD 20 rfl) 0
  obtain ⟨T60, L60, X60, e60, N60, st60⟩ := vCA X59 hx hZ hown e59 N59 hw (hwi hw 115 rfl) Z0 hn k (iN k) (by omega) O SK SW (hkB _) 41 #[vR r, vI (iN s0), vI (iN e1), vR kw, vI (iN k)] [(.int (f_lc (g (s0 + k))))] hml (hD 23 rfl) 1
  refine zLv Bd X60 (v := some (.int 0)) (by decide) nofun (fun fs hr => pre0 _ ?_) (by rw [e60]; exact ⟨rfl, N60, rfl⟩)
  refine zL X0 hx (hD 0 rfl) rfl ?_
  refine zL X0 hx (hD 1 rfl) rfl ?_
  refine XS.isub X0.here hx rfl (hD 2 rfl) rfl ?_
  refine zA X0 hx (hD 3 rfl) rfl rfl ?_
  refine st54 _ ?_
  show Steps p.tables e below (T54.setTop (mkF m 7 #[vR r, vI (iN s0), vI (iN e1), vR kw, .unset] [(.int (iN n)), (.int ((iN e1) - (iN s0)))])) _
  rw [show ((iN e1) - (iN s0)) = (iN n) from (subN hse (by omega)).trans (congrArg Int32.ofNat hsn)]
  refine zM X54 hx 12 (hD 5 rfl) (teq (rfl : (iN n) = (iN n))).1 rfl ?_
  refine zC X54 hx (hD 8 rfl) ?_
  refine zs X54 hx (hD 9 rfl) rfl ?_
  show Steps p.tables e below (T54.setTop (mkF m 15 #[vR r, vI (iN s0), vI (iN e1), vR kw, vI (iN 0)] [])) _
  refine st55 _ ?_
  refine zl X55 hx (hD 10 rfl) rfl ?_
  refine zA X55 hx (hD 11 rfl) rfl rfl ?_
  refine st56 _ ?_
  refine zN X56 hx (hD 13 rfl) (tlt ((ltN (by omega) (by omega)).mpr hi)).2.1 ?_
  refine zA X56 hx (hD 14 rfl) rfl rfl ?_
  refine st57 _ ?_
  refine zL X57 hx (hD 16 rfl) rfl ?_
  refine zl X57 hx (hD 17 rfl) rfl ?_
  refine zPl X57 hx (hD 18 rfl) (z := (iN (s0 + k))) (addN) ?_
  refine st58 _ ?_
  refine st59 _ ?_
  refine zA X59 hx (hD 21 rfl) rfl rfl ?_
  refine zl X59 hx (hD 22 rfl) rfl ?_
  refine st60 _ ?_
  refine zN X60 hx (hD 24 rfl) (feq hne).1 ?_
  refine zC X60 hx (hD 25 rfl) ?_
  exact retN X60 hx (t := .boolean) Bd.returns (by simp) (hD 26 rfl) hr
theorem rmKWy (hw : HW Z a0) (ws : List Jvm.Cond) (r o kw : Addr) (s0 e1 n : Nat) (g kg : Nat → Int32)  (h0 : Heap) (n0 : Nat) (Z0 : n0 ≤ h0.size) (hse : s0 ≤ e1) (he : e1 ≤ 56) (hn : n ≤ 56) (O : Old Z n0 h0) (SK : StrSta Z) (ER : Exa Z h0 r "com/example/killdeer/killdeer/EndingStatements") (FT : Fld Z h0 r "com/example/killdeer/killdeer/EndingStatements" "text" "Ljava/lang/String;" (.ref o)) (ST0 : Str Z h0 o 56 g) (hgB : allB g) (SW : Str Z h0 kw n kg) (hkB : allB kg) (hp : kwP g kg s0 e1 n)  :
    MF l Z (⟨"com/example/killdeer/killdeer/EndingStatements", "isKeyword", "(IILjava/lang/String;)Z"⟩ : MethodName) prog_11_method_9_code 5 (some .boolean) ws (rM 4 70 0 0) #[(.ref r), (.int (Int32.ofNat s0)), (.int (Int32.ofNat e1)), (.ref kw)] h0 (QI (1 : Int32) h0 n0) := by
  exact rmKW1 l Z a0 hw ws r o kw s0 e1 n g kg h0 n0 Z0 hse he hn O SK ER FT ST0 hgB SW hkB hp.1 hp.2
theorem rmKWn (hw : HW Z a0) (ws : List Jvm.Cond) (r o kw : Addr) (s0 e1 n : Nat) (g kg : Nat → Int32)  (h0 : Heap) (n0 : Nat) (Z0 : n0 ≤ h0.size) (hse : s0 ≤ e1) (he : e1 ≤ 56) (hn : n ≤ 56) (O : Old Z n0 h0) (SK : StrSta Z) (ER : Exa Z h0 r "com/example/killdeer/killdeer/EndingStatements") (FT : Fld Z h0 r "com/example/killdeer/killdeer/EndingStatements" "text" "Ljava/lang/String;" (.ref o)) (ST0 : Str Z h0 o 56 g) (hgB : allB g) (SW : Str Z h0 kw n kg) (hkB : allB kg) (hp : ¬ kwP g kg s0 e1 n)  :
    MF l Z (⟨"com/example/killdeer/killdeer/EndingStatements", "isKeyword", "(IILjava/lang/String;)Z"⟩ : MethodName) prog_11_method_9_code 5 (some .boolean) ws (rM 4 70 0 0) #[(.ref r), (.int (Int32.ofNat s0)), (.int (Int32.ofNat e1)), (.ref kw)] h0 (QI (0 : Int32) h0 n0) := by
  by_cases hsn : e1 - s0 = n
  · rcases firstNe (fun j => f_lc (g (s0 + j)) = kg j) n with h | ⟨k, h1, h2, h3⟩
    · exact absurd ⟨hsn, h⟩ hp
    · exact rmKW2 l Z a0 hw ws r o kw s0 e1 n g kg k h0 n0 Z0 hse he hn O SK ER FT ST0 hgB SW hkB hsn h1 h3 h2
  · exact rmKW0 l Z a0 hw ws r o kw s0 e1 n g kg h0 n0 Z0 hse he hn O SK ER FT ST0 hgB SW hkB hsn
/-- the reader r over the text o: where it stands, its tokens, what it has found -/
def RS (Z : State) (h : Heap) (r o ka sa ea : Addr) (sc : Int32) (g : Nat → Int32) (a tk : Nat) (le eb : Int32) (kv : Nat → Addr) (sv ev : Nat → Nat) : Prop :=
  (Exa Z h r "com/example/killdeer/killdeer/EndingStatements" ∧ Fld Z h r "com/example/killdeer/killdeer/EndingStatements" "text" "Ljava/lang/String;" (.ref o) ∧ Fld Z h r "com/example/killdeer/killdeer/EndingStatements" "standardConformingStrings" "Z" (.int sc) ∧ Fld Z h r "com/example/killdeer/killdeer/EndingStatements" "kinds" "[Lcom/example/killdeer/killdeer/EndingStatements$Token;" (.ref ka) ∧ Fld Z h r "com/example/killdeer/killdeer/EndingStatements" "starts" "[I" (.ref sa) ∧ Fld Z h r "com/example/killdeer/killdeer/EndingStatements" "ends" "[I" (.ref ea) ∧ Str Z h o 56 g) ∧
  (Fld Z h r "com/example/killdeer/killdeer/EndingStatements" "at" "I" (.int (Int32.ofNat a)) ∧ Fld Z h r "com/example/killdeer/killdeer/EndingStatements" "tokens" "I" (.int (Int32.ofNat tk)) ∧ Fld Z h r "com/example/killdeer/killdeer/EndingStatements" "afterBegin" "Z" (.int 0) ∧ Fld Z h r "com/example/killdeer/killdeer/EndingStatements" "bodyDepth" "I" (.int 0) ∧ Fld Z h r "com/example/killdeer/killdeer/EndingStatements" "lastEnds" "Z" (.int le) ∧ Fld Z h r "com/example/killdeer/killdeer/EndingStatements" "endsBeforeAnother" "Z" (.int eb)) ∧
  (∃ kd st en, AR Z h ka "com/example/killdeer/killdeer/EndingStatements$Token" 3 kd ∧ AF Z h sa .int 3 st ∧ AF Z h ea .int 3 en ∧ ∀ i, i < min tk 3 → kd i = .ref (kv i) ∧ st i = .int (Int32.ofNat (sv i)) ∧ en i = .int (Int32.ofNat (ev i)) ∧ sv i ≤ ev i ∧ ev i ≤ 56) ∧ sa ≠ ea
theorem AR.ext {Z : State} {h h' : Heap} {a : Addr} {C : String} {n : Nat} {f : Nat → Value} (F : AR Z h a C n f) (E : Ext h h') : AR Z h' a C n f := by
  obtain ⟨A, cl, q, O⟩ := F
  exact ⟨A.ext E, cl, E.2 _ _ q, O⟩
theorem RS.ext {Z : State} {h h' : Heap} {r o ka sa ea : Addr} {sc : Int32} {g : Nat → Int32} {a tk : Nat} {le eb : Int32} {kv : Nat → Addr} {sv ev : Nat → Nat} (S : RS Z h r o ka sa ea sc g a tk le eb kv sv ev) (E : Ext h h') : RS Z h' r o ka sa ea sc g a tk le eb kv sv ev := by
  obtain ⟨⟨a1, a2, a3, a4, a5, a6, a7⟩, ⟨b1, b2, b3, b4, b5, b6⟩, ⟨kd, st, en, c1, c2, c3, c4⟩, d⟩ := S
  exact ⟨⟨a1.ext E, a2.ext E, a3.ext E, a4.ext E, a5.ext E, a6.ext E, StrV.ext a7 E⟩, ⟨b1.ext E, b2.ext E, b3.ext E, b4.ext E, b5.ext E, b6.ext E⟩, ⟨kd, st, en, c1.ext E, c2.ext E, c3.ext E, c4⟩, d⟩
/-- the i-th token is a word and the keyword kg of n chars -/
def iwP (wv : Addr) (g kg : Nat → Int32) (n tk : Nat) (kv : Nat → Addr) (sv ev : Nat → Nat) (i : Nat) : Prop := i < min tk 3 ∧ kv i = wv ∧ kwP g kg (sv i) (ev i) n

def D35 : List (Nat × Instr × Nat) := [(0, .iload_n 0, 1), (1, .iload_n 1, 1), (2, .if_icmp .gt 7, 3), (5, .iload_n 0, 1), (6, .goto 4, 3), (9, .iload_n 1, 1), (10, .ireturn, 1)]
theorem d35 : ∀ x ∈ D35, decode jdk_29_method_69_code x.1 = .ok x.2 := by decide +kernel

theorem ef_35 (m : MethodId) (x0 : Int32) (x1 : Int32) : entryFrame m #[(.int x0), (.int x1)] 2 = mkF m 0 #[.val (.int x0), .val (.int x1)] [] := by first | (simp [entryFrame, mkF, argsToLocals, Value.category]; done) | rfl
theorem rmMN0 (hw : HW Z a0) (ws : List Jvm.Cond) (x y : Nat)  (h0 : Heap) (n0 : Nat) (Z0 : n0 ≤ h0.size) (hx' : x < 2147483648) (hy : y < 2147483648) (hq : y < x)  :
    MF l Z (⟨"java/lang/Math", "min", "(II)I"⟩ : MethodName) jdk_29_method_69_code 2 (some .int) ws (rM 0 0 0 0) #[(.int (iN x)), (.int (iN y))] h0 (QI (iN y) h0 n0) := by
  refine MetFree.of_bodySF (Jvm.Free.JP.mathPlain rfl (by decide +kernel)) hisR ?_
  intro p e s m args below meth c s₁ Bd hml0 hP hK
  obtain ⟨rfl, hZ, hh⟩ := hP
  have hx := Bd.exec
  have hby := Bd.bytes
  have hml : c.maxLocals = 2 := hml0
  have hown : s.vm.findClass "java/lang/Math" = some m.cls := findClass_of_methodNamed Bd.named
  have X0 : Stand p l e (rM 0 0 0 0) s m #[(.int (iN x)), (.int (iN y))] below meth c s₁ [] 0 0 := Stand.of_body Bd
  have e0 : s₁.heap = h0 := by rw [← hh, Bd.state]; rfl
  have hD := dk hby d35
  have N0 := Fr.nil n0
  have pre0 : ∀ zz, Steps p.tables e below (s₁.setTop (mkF m 0 #[vI (iN x), vI (iN y)] [])) zz → Steps p.tables e below (s₁.setTop (entryFrame m #[(.int (iN x)), (.int (iN y))] 2)) zz := fun zz kz_ => castTop (ef_35 m (iN x) (iN y)) kz_
  obtain ⟨fs, hr, hrun, hended, hW, hsame⟩ := X0.leave (v := some (.int (iN y))) (fun h => by rw [Bd.returns] at h; cases h)
  refine ⟨_, _, pre0 _ ?_, hrun, hended, _, _, rfl, ?_, ⟨_, rfl⟩, hW, hsame.mono (by decide) (by decide)⟩
  · show Steps p.tables e below (s₁.setTop (mkF m 0 #[vI (iN x), vI (iN y)] [])) _
    refine zL X0 hx (hD 0 rfl) rfl ?_
    refine zL X0 hx (hD 1 rfl) rfl ?_
    refine zM X0 hx 9 (hD 2 rfl) (tlt ((ltN hy hx').mpr hq)).2.2.1 rfl ?_
    refine zL X0 hx (hD 5 rfl) rfl ?_
    exact retI X0 hx Bd.returns (hD 6 rfl) hr
  · show QI (iN y) h0 n0 _ s₁.heap _
    rw [e0]
    exact ⟨rfl, N0, rfl⟩
theorem rmMN1 (hw : HW Z a0) (ws : List Jvm.Cond) (x y : Nat)  (h0 : Heap) (n0 : Nat) (Z0 : n0 ≤ h0.size) (hx' : x < 2147483648) (hy : y < 2147483648) (hq : ¬ y < x)  :
    MF l Z (⟨"java/lang/Math", "min", "(II)I"⟩ : MethodName) jdk_29_method_69_code 2 (some .int) ws (rM 0 0 0 0) #[(.int (iN x)), (.int (iN y))] h0 (QI (iN x) h0 n0) := by
  refine MetFree.of_bodySF (Jvm.Free.JP.mathPlain rfl (by decide +kernel)) hisR ?_
  intro p e s m args below meth c s₁ Bd hml0 hP hK
  obtain ⟨rfl, hZ, hh⟩ := hP
  have hx := Bd.exec
  have hby := Bd.bytes
  have hml : c.maxLocals = 2 := hml0
  have hown : s.vm.findClass "java/lang/Math" = some m.cls := findClass_of_methodNamed Bd.named
  have X0 : Stand p l e (rM 0 0 0 0) s m #[(.int (iN x)), (.int (iN y))] below meth c s₁ [] 0 0 := Stand.of_body Bd
  have e0 : s₁.heap = h0 := by rw [← hh, Bd.state]; rfl
  have hD := dk hby d35
  have N0 := Fr.nil n0
  have pre0 : ∀ zz, Steps p.tables e below (s₁.setTop (mkF m 0 #[vI (iN x), vI (iN y)] [])) zz → Steps p.tables e below (s₁.setTop (entryFrame m #[(.int (iN x)), (.int (iN y))] 2)) zz := fun zz kz_ => castTop (ef_35 m (iN x) (iN y)) kz_
  obtain ⟨fs, hr, hrun, hended, hW, hsame⟩ := X0.leave (v := some (.int (iN x))) (fun h => by rw [Bd.returns] at h; cases h)
  refine ⟨_, _, pre0 _ ?_, hrun, hended, _, _, rfl, ?_, ⟨_, rfl⟩, hW, hsame.mono (by decide) (by decide)⟩
  · show Steps p.tables e below (s₁.setTop (mkF m 0 #[vI (iN x), vI (iN y)] [])) _
    refine zL X0 hx (hD 0 rfl) rfl ?_
    refine zL X0 hx (hD 1 rfl) rfl ?_
    refine zN X0 hx (hD 2 rfl) (flt (fun q => hq ((ltN hy hx').mp q))).2.2.1 ?_
    refine zL X0 hx (hD 3 rfl) rfl ?_
    refine zG X0 hx 10 (hD 4 rfl) rfl ?_
    exact retI X0 hx Bd.returns (hD 6 rfl) hr
  · show QI (iN x) h0 n0 _ s₁.heap _
    rw [e0]
    exact ⟨rfl, N0, rfl⟩
theorem rmMN (hw : HW Z a0) (ws : List Jvm.Cond) (x y : Nat)  (h0 : Heap) (n0 : Nat) (Z0 : n0 ≤ h0.size) (hx' : x < 2147483648) (hy : y < 2147483648)  :
    MF l Z (⟨"java/lang/Math", "min", "(II)I"⟩ : MethodName) jdk_29_method_69_code 2 (some .int) ws (rM 0 0 0 0) #[(.int (Int32.ofNat x)), (.int (Int32.ofNat y))] h0 (QI (Int32.ofNat (min x y)) h0 n0) := by
  by_cases hq : y < x
  · rw [show min x y = y by omega]; exact rmMN0 l Z a0 hw ws x y h0 n0 Z0 hx' hy hq
  · rw [show min x y = x by omega]; exact rmMN1 l Z a0 hw ws x y h0 n0 Z0 hx' hy hq
def D34 : List (Nat × Instr × Nat) := [(0, .iload_n 1, 1), (1, .aload_n 0, 1), (2, .getfield 136, 3), (5, .iconst 3, 1), (6, .invokestatic 180, 3), (9, .if_icmp .ge 39, 3), (12, .aload_n 0, 1), (13, .getfield 11, 3), (16, .iload_n 1, 1), (17, .aaload, 1), (18, .getstatic 133, 3), (21, .if_acmp .ne 27, 3), (24, .aload_n 0, 1), (25, .aload_n 0, 1), (26, .getfield 15, 3), (29, .iload_n 1, 1), (30, .iaload, 1), (31, .aload_n 0, 1), (32, .getfield 19, 3), (35, .iload_n 1, 1), (36, .iaload, 1), (37, .aload_n 2, 1), (38, .invokevirtual 141, 3), (41, .ifCond .eq 7, 3), (44, .iconst 1, 1), (45, .goto 4, 3), (48, .iconst 0, 1), (49, .ireturn, 1)]
theorem d34 : ∀ x ∈ D34, decode prog_11_method_8_code x.1 = .ok x.2 := by decide +kernel
theorem pn_34 : plainName "com/example/killdeer/killdeer/EndingStatements" = true := by first | (simp [plainName, overriddenIn]; done) | decide +kernel
theorem ef_34 (m : MethodId) (x0 : Addr) (x1 : Int32) (x2 : Addr) : entryFrame m #[(.ref x0), (.int x1), (.ref x2)] 3 = mkF m 0 #[.val (.ref x0), .val (.int x1), .val (.ref x2)] [] := by first | (simp [entryFrame, mkF, argsToLocals, Value.category]; done) | rfl
theorem rmIW0 (hw : HW Z a0) (ws : List Jvm.Cond) (r o ka sa ea : Addr) (sc : Int32) (g : Nat → Int32) (a tk : Nat) (le eb : Int32) (kv : Nat → Addr) (sv ev : Nat → Nat) (i n : Nat) (kw wv : Addr) (kg : Nat → Int32)  (h0 : Heap) (n0 : Nat) (Z0 : n0 ≤ h0.size) (htk : tk < 1000) (O : Old Z n0 h0) (SK : StrSta Z) (RS0 : RS Z h0 r o ka sa ea sc g a tk le eb kv sv ev) (hgB : allB g) (hn : n ≤ 56) (SW : Str Z h0 kw n kg) (hkB : allB kg) (hWD : Sta Z Z.heap "com/example/killdeer/killdeer/EndingStatements$Token" "WORD" "Lcom/example/killdeer/killdeer/EndingStatements$Token;" (.ref wv)) (hi3 : i < 3) (hi : ¬ (i < min tk 3))  :
    MF l Z (⟨"com/example/killdeer/killdeer/EndingStatements", "isWord", "(ILjava/lang/String;)Z"⟩ : MethodName) prog_11_method_8_code 3 (some .boolean) ws (rM 5 92 0 0) #[(.ref r), (.int (iN i)), (.ref kw)] h0 (QI (0 : Int32) h0 n0) := by
  refine zBody pn_34 (fun m => ef_34 m r (iN i) kw) ?_
  intro p e s m below meth c s₁ Bd hx hby hml hown hZ hh X0 e0 pre0
  have hD := dk hby d34
  have N0 := Fr.nil n0
  obtain ⟨⟨ER, FT, FS, FK, FSt, FEn, ST0⟩, ⟨FA, FTk, FAB, FBD, FLE, FEB⟩, ⟨kd, st0, en0, AK, ASt, AEn, htok⟩, hse0⟩ := id RS0
  have EO := ST0.1
  obtain ⟨T61, X61, e61, st61⟩ := zF X0 hx hZ hown (hwi hw 154 rfl) e0 FTk 2 #[vR r, vI (iN i), vR kw] [(.int (iN i))] (hD 2 rfl)
  obtain ⟨T62, L62, X62, e62, N62, st62⟩ := zT X61 hx hZ hown e61 N0 (hwi hw 181 rfl) (hwi hw 182 rfl) (hwi hw 183 rfl) (hwi hw 184 rfl) (rmMN l Z a0 hw [] tk 3 h0 n0 Z0 (by omega) (by decide)) 6 #[vR r, vI (iN i), vR kw] [(.int (iN 3)), (.int (iN tk)), (.int (iN i))] hml pd_25 (hD 4 rfl) 1
  refine zLv Bd X62 (v := some (.int 0)) (by decide) nofun (fun fs hr => pre0 _ ?_) (by rw [e62]; exact ⟨rfl, N62, rfl⟩)
  refine zL X0 hx (hD 0 rfl) rfl ?_
  refine zA X0 hx (hD 1 rfl) rfl rfl ?_
  refine st61 _ ?_
  refine zC X61 hx (hD 3 rfl) ?_
  show Steps p.tables e below (T61.setTop (mkF m 6 #[vR r, vI (iN i), vR kw] [(.int (iN 3)), (.int (iN tk)), (.int (iN i))])) _
  refine st62 _ ?_
  refine zM X62 hx 48 (hD 5 rfl) (flt (fun q => hi ((ltN (by omega) (by omega)).mp q))).2.1 rfl ?_
  refine zC X62 hx (hD 26 rfl) ?_
  exact retN X62 hx (t := .boolean) Bd.returns (by simp) (hD 27 rfl) hr
theorem rmIW1 (hw : HW Z a0) (ws : List Jvm.Cond) (r o ka sa ea : Addr) (sc : Int32) (g : Nat → Int32) (a tk : Nat) (le eb : Int32) (kv : Nat → Addr) (sv ev : Nat → Nat) (i n : Nat) (kw wv : Addr) (kg : Nat → Int32)  (h0 : Heap) (n0 : Nat) (Z0 : n0 ≤ h0.size) (htk : tk < 1000) (O : Old Z n0 h0) (SK : StrSta Z) (RS0 : RS Z h0 r o ka sa ea sc g a tk le eb kv sv ev) (hgB : allB g) (hn : n ≤ 56) (SW : Str Z h0 kw n kg) (hkB : allB kg) (hWD : Sta Z Z.heap "com/example/killdeer/killdeer/EndingStatements$Token" "WORD" "Lcom/example/killdeer/killdeer/EndingStatements$Token;" (.ref wv)) (hi3 : i < 3) (hi : i < min tk 3) (hkw : ¬ (kv i = wv))  :
    MF l Z (⟨"com/example/killdeer/killdeer/EndingStatements", "isWord", "(ILjava/lang/String;)Z"⟩ : MethodName) prog_11_method_8_code 3 (some .boolean) ws (rM 5 92 0 0) #[(.ref r), (.int (iN i)), (.ref kw)] h0 (QI (0 : Int32) h0 n0) := by
  refine zBody pn_34 (fun m => ef_34 m r (iN i) kw) ?_
  intro p e s m below meth c s₁ Bd hx hby hml hown hZ hh X0 e0 pre0
  have hD := dk hby d34
  have N0 := Fr.nil n0
  obtain ⟨⟨ER, FT, FS, FK, FSt, FEn, ST0⟩, ⟨FA, FTk, FAB, FBD, FLE, FEB⟩, ⟨kd, st0, en0, AK, ASt, AEn, htok⟩, hse0⟩ := id RS0
  have EO := ST0.1
  obtain ⟨T63, X63, e63, st63⟩ := zF X0 hx hZ hown (hwi hw 154 rfl) e0 FTk 2 #[vR r, vI (iN i), vR kw] [(.int (iN i))] (hD 2 rfl)
  obtain ⟨T64, L64, X64, e64, N64, st64⟩ := zT X63 hx hZ hown e63 N0 (hwi hw 181 rfl) (hwi hw 182 rfl) (hwi hw 183 rfl) (hwi hw 184 rfl) (rmMN l Z a0 hw [] tk 3 h0 n0 Z0 (by omega) (by decide)) 6 #[vR r, vI (iN i), vR kw] [(.int (iN 3)), (.int (iN tk)), (.int (iN i))] hml pd_25 (hD 4 rfl) 1
  obtain ⟨T65, X65, e65, st65⟩ := zF X64 hx hZ hown (hwi hw 98 rfl) e64 FK 13 #[vR r, vI (iN i), vR kw] [] (hD 7 rfl)
  obtain ⟨T66, X66, e66, st66⟩ := getS2 X65 hx hZ hown (host := "") (Or.inl (hwi hw 147 rfl)) Via.refl e65 (Sta.ext O.2 hWD) (g := (mkF m 18 #[vR r, vI (iN i), vR kw] [(.ref (kv i))])) rfl (hD 10 rfl)
  refine zLv Bd X66 (v := some (.int 0)) (by decide) nofun (fun fs hr => pre0 _ ?_) (by rw [e66]; exact ⟨rfl, N64, rfl⟩)
  refine zL X0 hx (hD 0 rfl) rfl ?_
  refine zA X0 hx (hD 1 rfl) rfl rfl ?_
  refine st63 _ ?_
  refine zC X63 hx (hD 3 rfl) ?_
  show Steps p.tables e below (T63.setTop (mkF m 6 #[vR r, vI (iN i), vR kw] [(.int (iN 3)), (.int (iN tk)), (.int (iN i))])) _
  refine st64 _ ?_
  refine zN X64 hx (hD 5 rfl) (tlt ((ltN (by omega) (by omega)).mpr hi)).2.1 ?_
  refine zA X64 hx (hD 6 rfl) rfl rfl ?_
  refine st65 _ ?_
  refine zL X65 hx (hD 8 rfl) rfl ?_
  refine ldRf X65 hx hZ e65 AK.1 rfl (i := i) (by omega) (by decide) (v := .ref (kv i)) (htok i hi).1 (g := (mkF m 17 #[vR r, vI (iN i), vR kw] [(.int (iN i)), (.ref ka)])) rfl rfl (hD 9 rfl) ?_
  refine st66 _ ?_
  refine Jvm.RoadKit.acmp (g := (mkF m 21 #[vR r, vI (iN i), vR kw] [(.ref wv), (.ref (kv i))])) X66 hx rfl rfl rfl (pc0 := 21) (pc' := 48) (same := false) rfl (hD 11 rfl) rfl (decide_eq_false fun q => hkw (Value.ref.inj q)) (by decide) (by decide) ?_
  refine zC X66 hx (hD 26 rfl) ?_
  exact retN X66 hx (t := .boolean) Bd.returns (by simp) (hD 27 rfl) hr
theorem rmIW2 (hw : HW Z a0) (ws : List Jvm.Cond) (r o ka sa ea : Addr) (sc : Int32) (g : Nat → Int32) (a tk : Nat) (le eb : Int32) (kv : Nat → Addr) (sv ev : Nat → Nat) (i n : Nat) (kw wv : Addr) (kg : Nat → Int32)  (h0 : Heap) (n0 : Nat) (Z0 : n0 ≤ h0.size) (htk : tk < 1000) (O : Old Z n0 h0) (SK : StrSta Z) (RS0 : RS Z h0 r o ka sa ea sc g a tk le eb kv sv ev) (hgB : allB g) (hn : n ≤ 56) (SW : Str Z h0 kw n kg) (hkB : allB kg) (hWD : Sta Z Z.heap "com/example/killdeer/killdeer/EndingStatements$Token" "WORD" "Lcom/example/killdeer/killdeer/EndingStatements$Token;" (.ref wv)) (hi3 : i < 3) (hi : i < min tk 3) (hkw : kv i = wv) (hp : ¬ kwP g kg (sv i) (ev i) n)  :
    MF l Z (⟨"com/example/killdeer/killdeer/EndingStatements", "isWord", "(ILjava/lang/String;)Z"⟩ : MethodName) prog_11_method_8_code 3 (some .boolean) ws (rM 5 92 0 0) #[(.ref r), (.int (iN i)), (.ref kw)] h0 (QI (0 : Int32) h0 n0) := by
  refine zBody pn_34 (fun m => ef_34 m r (iN i) kw) ?_
  intro p e s m below meth c s₁ Bd hx hby hml hown hZ hh X0 e0 pre0
  have hD := dk hby d34
  have N0 := Fr.nil n0
  obtain ⟨⟨ER, FT, FS, FK, FSt, FEn, ST0⟩, ⟨FA, FTk, FAB, FBD, FLE, FEB⟩, ⟨kd, st0, en0, AK, ASt, AEn, htok⟩, hse0⟩ := id RS0
  have EO := ST0.1
  obtain ⟨T67, X67, e67, st67⟩ := zF X0 hx hZ hown (hwi hw 154 rfl) e0 FTk 2 #[vR r, vI (iN i), vR kw] [(.int (iN i))] (hD 2 rfl)
  obtain ⟨T68, L68, X68, e68, N68, st68⟩ := zT X67 hx hZ hown e67 N0 (hwi hw 181 rfl) (hwi hw 182 rfl) (hwi hw 183 rfl) (hwi hw 184 rfl) (rmMN l Z a0 hw [] tk 3 h0 n0 Z0 (by omega) (by decide)) 6 #[vR r, vI (iN i), vR kw] [(.int (iN 3)), (.int (iN tk)), (.int (iN i))] hml pd_25 (hD 4 rfl) 1
  obtain ⟨T69, X69, e69, st69⟩ := zF X68 hx hZ hown (hwi hw 98 rfl) e68 FK 13 #[vR r, vI (iN i), vR kw] [] (hD 7 rfl)
  obtain ⟨T70, X70, e70, st70⟩ := getS2 X69 hx hZ hown (host := "") (Or.inl (hwi hw 147 rfl)) Via.refl e69 (Sta.ext O.2 hWD) (g := (mkF m 18 #[vR r, vI (iN i), vR kw] [(.ref (kv i))])) rfl (hD 10 rfl)
  obtain ⟨T71, X71, e71, st71⟩ := zF X70 hx hZ hown (hwi hw 100 rfl) e70 FSt 26 #[vR r, vI (iN i), vR kw] [(.ref r)] (hD 14 rfl)
  obtain ⟨T72, X72, e72, st72⟩ := zF X71 hx hZ hown (hwi hw 102 rfl) e71 FEn 32 #[vR r, vI (iN i), vR kw] [(.int (iN (sv i))), (.ref r)] (hD 18 rfl)
  obtain ⟨T73, L73, X73, e73, N73, st73⟩ := zV X72 hx hZ hown e72 ER N68 (hwi hw 162 rfl) (declOf (hwi hw 163 rfl) (hwi hw 165 rfl)) (selOf (hwi hw 163 rfl) (hwi hw 164 rfl) (hwi hw 91 rfl) (by decide)) (hwi hw 163 rfl) (hwi hw 165 rfl) (hwi hw 88 rfl) (rmKWn l Z a0 hw [] r o kw (sv i) (ev i) n g kg h0 n0 Z0 (htok i hi).2.2.2.1 (htok i hi).2.2.2.2 hn O SK ER FT ST0 hgB SW hkB hp) 38 #[vR r, vI (iN i), vR kw] [(.ref kw), (.int (iN (ev i))), (.int (iN (sv i))), (.ref r)] hml pd_23 (hD 22 rfl) 0
  refine zLv Bd X73 (v := some (.int 0)) (by decide) nofun (fun fs hr => pre0 _ ?_) (by rw [e73]; exact ⟨rfl, N73, rfl⟩)
  refine zL X0 hx (hD 0 rfl) rfl ?_
  refine zA X0 hx (hD 1 rfl) rfl rfl ?_
  refine st67 _ ?_
  refine zC X67 hx (hD 3 rfl) ?_
  show Steps p.tables e below (T67.setTop (mkF m 6 #[vR r, vI (iN i), vR kw] [(.int (iN 3)), (.int (iN tk)), (.int (iN i))])) _
  refine st68 _ ?_
  refine zN X68 hx (hD 5 rfl) (tlt ((ltN (by omega) (by omega)).mpr hi)).2.1 ?_
  refine zA X68 hx (hD 6 rfl) rfl rfl ?_
  refine st69 _ ?_
  refine zL X69 hx (hD 8 rfl) rfl ?_
  refine ldRf X69 hx hZ e69 AK.1 rfl (i := i) (by omega) (by decide) (v := .ref (kv i)) (htok i hi).1 (g := (mkF m 17 #[vR r, vI (iN i), vR kw] [(.int (iN i)), (.ref ka)])) rfl rfl (hD 9 rfl) ?_
  refine st70 _ ?_
  refine Jvm.RoadKit.acmp (g := (mkF m 21 #[vR r, vI (iN i), vR kw] [(.ref wv), (.ref (kv i))])) X70 hx rfl rfl rfl (pc0 := 21) (pc' := 24) (same := true) rfl (hD 11 rfl) rfl (decide_eq_true (congrArg Value.ref hkw)) (by decide) (by decide) ?_
  refine zA X70 hx (hD 12 rfl) rfl rfl ?_
  refine zA X70 hx (hD 13 rfl) rfl rfl ?_
  refine st71 _ ?_
  refine zL X71 hx (hD 15 rfl) rfl ?_
  refine ldIn X71 hx hZ e71 ASt (i := i) (by omega) (by decide) (v := .int (iN (sv i))) (htok i hi).2.1 (g := (mkF m 30 #[vR r, vI (iN i), vR kw] [(.int (iN i)), (.ref sa), (.ref r)])) rfl rfl (hD 16 rfl) ?_
  refine zA X71 hx (hD 17 rfl) rfl rfl ?_
  refine st72 _ ?_
  refine zL X72 hx (hD 19 rfl) rfl ?_
  refine ldIn X72 hx hZ e72 AEn (i := i) (by omega) (by decide) (v := .int (iN (ev i))) (htok i hi).2.2.1 (g := (mkF m 36 #[vR r, vI (iN i), vR kw] [(.int (iN i)), (.ref ea), (.int (iN (sv i))), (.ref r)])) rfl rfl (hD 20 rfl) ?_
  refine zA X72 hx (hD 21 rfl) rfl rfl ?_
  refine st73 _ ?_
  refine zI X73 hx 48 (hD 23 rfl) ((if0 _ _).trans (teq (rfl : (0 : Int32) = 0)).1) rfl ?_
  refine zC X73 hx (hD 26 rfl) ?_
  exact retN X73 hx (t := .boolean) Bd.returns (by simp) (hD 27 rfl) hr
theorem rmIWy0 (hw : HW Z a0) (ws : List Jvm.Cond) (r o ka sa ea : Addr) (sc : Int32) (g : Nat → Int32) (a tk : Nat) (le eb : Int32) (kv : Nat → Addr) (sv ev : Nat → Nat) (i n : Nat) (kw wv : Addr) (kg : Nat → Int32)  (h0 : Heap) (n0 : Nat) (Z0 : n0 ≤ h0.size) (htk : tk < 1000) (O : Old Z n0 h0) (SK : StrSta Z) (RS0 : RS Z h0 r o ka sa ea sc g a tk le eb kv sv ev) (hgB : allB g) (hn : n ≤ 56) (SW : Str Z h0 kw n kg) (hkB : allB kg) (hWD : Sta Z Z.heap "com/example/killdeer/killdeer/EndingStatements$Token" "WORD" "Lcom/example/killdeer/killdeer/EndingStatements$Token;" (.ref wv)) (hi3 : i < 3) (hi : i < min tk 3) (hkw : kv i = wv) (hp : kwP g kg (sv i) (ev i) n)  :
    MF l Z (⟨"com/example/killdeer/killdeer/EndingStatements", "isWord", "(ILjava/lang/String;)Z"⟩ : MethodName) prog_11_method_8_code 3 (some .boolean) ws (rM 5 92 0 0) #[(.ref r), (.int (iN i)), (.ref kw)] h0 (QI (1 : Int32) h0 n0) := by
  refine zBody pn_34 (fun m => ef_34 m r (iN i) kw) ?_
  intro p e s m below meth c s₁ Bd hx hby hml hown hZ hh X0 e0 pre0
  have hD := dk hby d34
  have N0 := Fr.nil n0
  obtain ⟨⟨ER, FT, FS, FK, FSt, FEn, ST0⟩, ⟨FA, FTk, FAB, FBD, FLE, FEB⟩, ⟨kd, st0, en0, AK, ASt, AEn, htok⟩, hse0⟩ := id RS0
  have EO := ST0.1
  obtain ⟨T74, X74, e74, st74⟩ := zF X0 hx hZ hown (hwi hw 154 rfl) e0 FTk 2 #[vR r, vI (iN i), vR kw] [(.int (iN i))] (hD 2 rfl)
  obtain ⟨T75, L75, X75, e75, N75, st75⟩ := zT X74 hx hZ hown e74 N0 (hwi hw 181 rfl) (hwi hw 182 rfl) (hwi hw 183 rfl) (hwi hw 184 rfl) (rmMN l Z a0 hw [] tk 3 h0 n0 Z0 (by omega) (by decide)) 6 #[vR r, vI (iN i), vR kw] [(.int (iN 3)), (.int (iN tk)), (.int (iN i))] hml pd_25 (hD 4 rfl) 1
  obtain ⟨T76, X76, e76, st76⟩ := zF X75 hx hZ hown (hwi hw 98 rfl) e75 FK 13 #[vR r, vI (iN i), vR kw] [] (hD 7 rfl)
  obtain ⟨T77, X77, e77, st77⟩ := getS2 X76 hx hZ hown (host := "") (Or.inl (hwi hw 147 rfl)) Via.refl e76 (Sta.ext O.2 hWD) (g := (mkF m 18 #[vR r, vI (iN i), vR kw] [(.ref (kv i))])) rfl (hD 10 rfl)
  obtain ⟨T78, X78, e78, st78⟩ := zF X77 hx hZ hown (hwi hw 100 rfl) e77 FSt 26 #[vR r, vI (iN i), vR kw] [(.ref r)] (hD 14 rfl)
  obtain ⟨T79, X79, e79, st79⟩ := zF X78 hx hZ hown (hwi hw 102 rfl) e78 FEn 32 #[vR r, vI (iN i), vR kw] [(.int (iN (sv i))), (.ref r)] (hD 18 rfl)
  obtain ⟨T80, L80, X80, e80, N80, st80⟩ := zV X79 hx hZ hown e79 ER N75 (hwi hw 162 rfl) (declOf (hwi hw 163 rfl) (hwi hw 165 rfl)) (selOf (hwi hw 163 rfl) (hwi hw 164 rfl) (hwi hw 91 rfl) (by decide)) (hwi hw 163 rfl) (hwi hw 165 rfl) (hwi hw 88 rfl) (rmKWy l Z a0 hw [] r o kw (sv i) (ev i) n g kg h0 n0 Z0 (htok i hi).2.2.2.1 (htok i hi).2.2.2.2 hn O SK ER FT ST0 hgB SW hkB hp) 38 #[vR r, vI (iN i), vR kw] [(.ref kw), (.int (iN (ev i))), (.int (iN (sv i))), (.ref r)] hml pd_23 (hD 22 rfl) 0
  refine zLv Bd X80 (v := some (.int 1)) (by decide) nofun (fun fs hr => pre0 _ ?_) (by rw [e80]; exact ⟨rfl, N80, rfl⟩)
  refine zL X0 hx (hD 0 rfl) rfl ?_
  refine zA X0 hx (hD 1 rfl) rfl rfl ?_
  refine st74 _ ?_
  refine zC X74 hx (hD 3 rfl) ?_
  show Steps p.tables e below (T74.setTop (mkF m 6 #[vR r, vI (iN i), vR kw] [(.int (iN 3)), (.int (iN tk)), (.int (iN i))])) _
  refine st75 _ ?_
  refine zN X75 hx (hD 5 rfl) (tlt ((ltN (by omega) (by omega)).mpr hi)).2.1 ?_
  refine zA X75 hx (hD 6 rfl) rfl rfl ?_
  refine st76 _ ?_
  refine zL X76 hx (hD 8 rfl) rfl ?_
  refine ldRf X76 hx hZ e76 AK.1 rfl (i := i) (by omega) (by decide) (v := .ref (kv i)) (htok i hi).1 (g := (mkF m 17 #[vR r, vI (iN i), vR kw] [(.int (iN i)), (.ref ka)])) rfl rfl (hD 9 rfl) ?_
  refine st77 _ ?_
  refine Jvm.RoadKit.acmp (g := (mkF m 21 #[vR r, vI (iN i), vR kw] [(.ref wv), (.ref (kv i))])) X77 hx rfl rfl rfl (pc0 := 21) (pc' := 24) (same := true) rfl (hD 11 rfl) rfl (decide_eq_true (congrArg Value.ref hkw)) (by decide) (by decide) ?_
  refine zA X77 hx (hD 12 rfl) rfl rfl ?_
  refine zA X77 hx (hD 13 rfl) rfl rfl ?_
  refine st78 _ ?_
  refine zL X78 hx (hD 15 rfl) rfl ?_
  refine ldIn X78 hx hZ e78 ASt (i := i) (by omega) (by decide) (v := .int (iN (sv i))) (htok i hi).2.1 (g := (mkF m 30 #[vR r, vI (iN i), vR kw] [(.int (iN i)), (.ref sa), (.ref r)])) rfl rfl (hD 16 rfl) ?_
  refine zA X78 hx (hD 17 rfl) rfl rfl ?_
  refine st79 _ ?_
  refine zL X79 hx (hD 19 rfl) rfl ?_
  refine ldIn X79 hx hZ e79 AEn (i := i) (by omega) (by decide) (v := .int (iN (ev i))) (htok i hi).2.2.1 (g := (mkF m 36 #[vR r, vI (iN i), vR kw] [(.int (iN i)), (.ref ea), (.int (iN (sv i))), (.ref r)])) rfl rfl (hD 20 rfl) ?_
  refine zA X79 hx (hD 21 rfl) rfl rfl ?_
  refine st80 _ ?_
  refine zJ X80 hx (hD 23 rfl) ((if0 _ _).trans (feq (by decide : ¬ ((1 : Int32) = 0))).1) ?_
  refine zC X80 hx (hD 24 rfl) ?_
  refine zG X80 hx 49 (hD 25 rfl) rfl ?_
  exact retN X80 hx (t := .boolean) Bd.returns (by simp) (hD 27 rfl) hr
theorem rmIWy (hw : HW Z a0) (ws : List Jvm.Cond) (r o ka sa ea : Addr) (sc : Int32) (g : Nat → Int32) (a tk : Nat) (le eb : Int32) (kv : Nat → Addr) (sv ev : Nat → Nat) (i n : Nat) (kw wv : Addr) (kg : Nat → Int32)  (h0 : Heap) (n0 : Nat) (Z0 : n0 ≤ h0.size) (htk : tk < 1000) (O : Old Z n0 h0) (SK : StrSta Z) (RS0 : RS Z h0 r o ka sa ea sc g a tk le eb kv sv ev) (hgB : allB g) (hn : n ≤ 56) (SW : Str Z h0 kw n kg) (hkB : allB kg) (hWD : Sta Z Z.heap "com/example/killdeer/killdeer/EndingStatements$Token" "WORD" "Lcom/example/killdeer/killdeer/EndingStatements$Token;" (.ref wv)) (hi3 : i < 3) (hp : iwP wv g kg n tk kv sv ev i)  :
    MF l Z (⟨"com/example/killdeer/killdeer/EndingStatements", "isWord", "(ILjava/lang/String;)Z"⟩ : MethodName) prog_11_method_8_code 3 (some .boolean) ws (rM 5 92 0 0) #[(.ref r), (.int (Int32.ofNat i)), (.ref kw)] h0 (QI (1 : Int32) h0 n0) := by
  exact rmIWy0 l Z a0 hw ws r o ka sa ea sc g a tk le eb kv sv ev i n kw wv kg h0 n0 Z0 htk O SK RS0 hgB hn SW hkB hWD hi3 hp.1 hp.2.1 hp.2.2
theorem rmIWn (hw : HW Z a0) (ws : List Jvm.Cond) (r o ka sa ea : Addr) (sc : Int32) (g : Nat → Int32) (a tk : Nat) (le eb : Int32) (kv : Nat → Addr) (sv ev : Nat → Nat) (i n : Nat) (kw wv : Addr) (kg : Nat → Int32)  (h0 : Heap) (n0 : Nat) (Z0 : n0 ≤ h0.size) (htk : tk < 1000) (O : Old Z n0 h0) (SK : StrSta Z) (RS0 : RS Z h0 r o ka sa ea sc g a tk le eb kv sv ev) (hgB : allB g) (hn : n ≤ 56) (SW : Str Z h0 kw n kg) (hkB : allB kg) (hWD : Sta Z Z.heap "com/example/killdeer/killdeer/EndingStatements$Token" "WORD" "Lcom/example/killdeer/killdeer/EndingStatements$Token;" (.ref wv)) (hi3 : i < 3) (hp : ¬ iwP wv g kg n tk kv sv ev i)  :
    MF l Z (⟨"com/example/killdeer/killdeer/EndingStatements", "isWord", "(ILjava/lang/String;)Z"⟩ : MethodName) prog_11_method_8_code 3 (some .boolean) ws (rM 5 92 0 0) #[(.ref r), (.int (Int32.ofNat i)), (.ref kw)] h0 (QI (0 : Int32) h0 n0) := by
  by_cases h1 : i < min tk 3
  · by_cases h2 : kv i = wv
    · exact rmIW2 l Z a0 hw ws r o ka sa ea sc g a tk le eb kv sv ev i n kw wv kg h0 n0 Z0 htk O SK RS0 hgB hn SW hkB hWD hi3 h1 h2 (fun q => hp ⟨h1, h2, q⟩)
    · exact rmIW1 l Z a0 hw ws r o ka sa ea sc g a tk le eb kv sv ev i n kw wv kg h0 n0 Z0 htk O SK RS0 hgB hn SW hkB hWD hi3 h1 h2
  · exact rmIW0 l Z a0 hw ws r o ka sa ea sc g a tk le eb kv sv ev i n kw wv kg h0 n0 Z0 htk O SK RS0 hgB hn SW hkB hWD hi3 h1
section IsW
variable {p : Program} {l : Launch} {e : Env} {R : Room} {s : State} {m : MethodId} {args : Array Value} {below : List Frame} {meth : Method} {c : Code} {T : State} {locs : List Loc} {cells slots : Nat} {Z : State} {a0 : Array Value} {vmS vm0 : Vm} {hS0 h : Heap} {text : String} {index : Nat} {n0 k0 : Nat} {r o ka sa ea wv : Addr} {sc : Int32} {g : Nat → Int32} {a tk : Nat} {le eb : Int32} {kv : Nat → Addr} {sv ev : Nat → Nat}
/-- ldc of a keyword, isWord(i, it) -/
theorem cW (X : Stand p l e R (s.setVm vm0) m args below meth c T locs cells slots) (hx : p.tables.exec = Jvm.exec) (hZ : Z.Warmed39 vm0) (hw : HW Z a0) (hown : vm0.findClass "com/example/killdeer/killdeer/EndingStatements" = some m.cls) (w : (Cond.stringLink "com/example/killdeer/killdeer/EndingStatements" index text).before a0 Z = true) (wS : ∀ a ∈ Bundle.stringAtoms, a.before a0 Z = true)
    (eT : T.heap = h) (hS : s.Since vm0 k0) (hk : k0 ≤ h.size) (hEL : EW Z a0 EL1) (hmem : ("com/example/killdeer/killdeer/EndingStatements", index) ∈ EL1) (C0 : CHr Z EL1 vmS hS0 vm0 h) (O : Old Z n0 h) (SK : StrSta Z) (Zp : n0 ≤ h.size) (N : Fr n0 locs) (RS0 : RS Z h r o ka sa ea sc g a tk le eb kv sv ev) (hgB : allB g) (hWD : Sta Z Z.heap "com/example/killdeer/killdeer/EndingStatements$Token" "WORD" "Lcom/example/killdeer/killdeer/EndingStatements$Token;" (.ref wv)) (htk : tk < 1000)
    (t : List Int32) {n q : Nat} (ht : ((∀ c ∈ text.toList, c.toNat < 256) ∧ text.toList.map (fun c => Value.int (Jvm.Lit.byteI c.toNat.toUInt16)) = t.map fun x => Value.int (b8 x)) ∧ t.length = n ∧ n < 2147483648 ∧ 4 * text.toList.length ≤ q ∧ q ≤ 536870912) (htB : (∀ x ∈ t, 0 ≤ x.toInt ∧ x.toInt < 256) ∧ n ≤ 56) {i : Nat} (hi3 : i < 3) {b : Int32} (hb : (iwP wv g (gl t) n tk kv sv ev i ∧ b = 1) ∨ (¬ iwP wv g (gl t) n tk kv sv ev i ∧ b = 0))
    {f : JFrame} (hg : f.method = m) (hsize : f.locals.size = c.maxLocals) (hd1 : decode c.code f.pc = .ok (.ldc index, 2)) (hd2 : decode c.code (f.pc + 2) = .ok (.invokevirtual 152, 3)) {rest : List Value} (hs : f.stack = .int (Int32.ofNat i) :: .ref r :: rest) {W : Nat} (hW : 2 * f.monitorRoom + (rest.map fun v => v.category).sum ≤ W) (hr : 6 ≤ R.frames ∧ W + (3 + 11) + 92 ≤ R.locals ∧ cells + 2 ≤ R.cells ∧ slots + (q + 4) ≤ R.slots) :
    ∃ (T' : State) (vm1 : Vm) (L' : List Loc) (k1 : Nat), Stand p l e R (s.setVm vm1) m args below meth c T' L' (cells + 2) (slots + (q + 4)) ∧ Fr n0 L' ∧ Ext h T'.heap ∧ s.Since vm1 k1 ∧ k1 ≤ T'.heap.size ∧ Z.Warmed39 (s.setVm vm1).vm ∧ (s.setVm vm1).vm.findClass "com/example/killdeer/killdeer/EndingStatements" = some m.cls ∧ CHr Z EL1 vmS hS0 vm1 T'.heap ∧
      ∀ target, Steps p.tables e below (T'.setTop { f with pc := f.pc + 5, stack := .int b :: rest }) target → Steps p.tables e below (T.setTop f) target := by
  obtain ⟨kw, T1, h1, k1, X1, e1, E1, hS1, hk1, hZ1, ho1, SW, C1, st1⟩ := cLDC X hx hZ hown w wS eT hS hk hEL hmem C0.1 t ht hg hd1 hr.2.2.1 hr.2.2.2
  have RS1 := RS0.ext E1
  have Z1 := Nat.le_trans Zp E1.1
  have M : MetFree l (⟨"com/example/killdeer/killdeer/EndingStatements", "isWord", "(ILjava/lang/String;)Z"⟩ : MethodName) (head1 [Cond.code (⟨"com/example/killdeer/killdeer/EndingStatements", "isWord", "(ILjava/lang/String;)Z"⟩ : MethodName) prog_11_method_8_code 3 (some .boolean)] (rM 5 92 0 0)) (fun aa_ U_ => aa_ = #[(.ref r), (.int (Int32.ofNat i)), (.ref kw)] ∧ Z.Warmed39 U_.vm ∧ U_.heap = h1) (fun _ _ _ _ _ => True) (fun _ U_ o_ V_ => ∃ v_ L_, o_ = .returned v_ ∧ QI b h1 n0 v_ V_.heap L_ ∧ FrameEnd U_ o_ V_ L_ 0 0) := by
    rcases hb with ⟨hp, rfl⟩ | ⟨hp, rfl⟩
    · exact rmIWy l Z a0 hw [] r o ka sa ea sc g a tk le eb kv sv ev i n kw wv (gl t) h1 n0 Z1 htk (O.ext E1) SK RS1 hgB htB.2 SW (glB htB.1) hWD hi3 hp
    · exact rmIWn l Z a0 hw [] r o ka sa ea sc g a tk le eb kv sv ev i n kw wv (gl t) h1 n0 Z1 htk (O.ext E1) SK RS1 hgB htB.2 SW (glB htB.1) hWD hi3 hp
  obtain ⟨cq, kq, qa, qb, qc⟩ := isOf hZ1 e1 RS1.1.1
  obtain ⟨_, _, ⟨T2, L2, k2, n2⟩, -, X2, ⟨Lc, hQ, l2, y2, z2⟩, st2⟩ := X1.virtualBack hx (y := (⟨"com/example/killdeer/killdeer/EndingStatements", "isWord", "(ILjava/lang/String;)Z"⟩ : MethodName)) (z := (⟨"com/example/killdeer/killdeer/EndingStatements", "isWord", "(ILjava/lang/String;)Z"⟩ : MethodName)) ho1 (mvT hZ1 (hwi hw 177 rfl)) (mvT hZ1 (declOf (hwi hw 178 rfl) (hwi hw 180 rfl))) (notFace_of_selects (args := #[]) (mvT hZ1 (selOf (hwi hw 178 rfl) (hwi hw 179 rfl) (hwi hw 91 rfl) (by decide)))) (mvT hZ1 (selOf (hwi hw 178 rfl) (hwi hw 179 rfl) (hwi hw 91 rfl) (by decide))) (mvT hZ1 (hwi hw 178 rfl)) (by decide) (backOf (W := W) M hZ1 (hwi hw 180 rfl) (hwi hw 88 rfl) hr.1 hr.2.1) qa qc (g := { f with pc := f.pc + 2, stack := .ref kw :: f.stack }) hg hsize (Steps.refl _) (argsL := [.int (Int32.ofNat i), .ref kw]) (rest := rest) (lenOf pd_24 rfl) (by rw [hs]; rfl) hW hd2 (fun _ _ => ⟨rfl, e1, hr.2.2.1, hr.2.2.2⟩)
  dsimp only [Pt.U, Pt.locs, Pt.cells, Pt.slots] at X2 l2 y2 z2 st2 hQ
  obtain ⟨rfl, Nq, e2⟩ := hQ
  rw [y2, z2] at X2
  refine ⟨T2, T1.vm, L2, k1, X2, by rw [l2]; exact Fr.app N Nq, by rw [e2]; exact E1, hS1, by rw [e2]; exact hk1, hZ1, ho1, by rw [e2]; exact C0.trans C1, fun target kt => st1 target (st2.trans kt)⟩
end IsW

def kl78 : List Int32 := [45, 45]
def kl87 : List Int32 := [47, 42]
def kl145 : List Int32 := [101, 110, 100]
def kl158 : List Int32 := [98, 101, 103, 105, 110]
def kl164 : List Int32 := [99, 111, 109, 109, 105, 116]
def kl166 : List Int32 := [112, 114, 101, 112, 97, 114, 101, 100]
def kl168 : List Int32 := [97, 98, 111, 114, 116]
def kl170 : List Int32 := [114, 111, 108, 108, 98, 97, 99, 107]
def kl172 : List Int32 := [116, 111]
def kl174 : List Int32 := [119, 111, 114, 107]
def kl176 : List Int32 := [116, 114, 97, 110, 115, 97, 99, 116, 105, 111, 110]
def kl178 : List Int32 := [112, 114, 101, 112, 97, 114, 101]
def kl194 : List Int32 := [42, 47]
def EPd (C0 P1 E0 A0 R0 T1 W1 X1 T2 PR K2 : Prop) : Prop := (C0 ∧ ¬ P1) ∨ (¬ C0 ∧ (E0 ∨ A0 ∨ (¬ E0 ∧ ¬ A0 ∧ ((R0 ∧ ¬ (T1 ∨ ((W1 ∨ X1) ∧ T2)) ∧ ¬ P1) ∨ (¬ R0 ∧ PR ∧ X1 ∧ K2)))))
/-- whether the statement's tokens end the transaction -/
def etP (wv xv : Addr) (g : Nat → Int32) (tk : Nat) (kv : Nat → Addr) (sv ev : Nat → Nat) : Prop := EPd (iwP wv g (gl kl164) 6 tk kv sv ev 0) (iwP wv g (gl kl166) 8 tk kv sv ev 1) (iwP wv g (gl kl145) 3 tk kv sv ev 0) (iwP wv g (gl kl168) 5 tk kv sv ev 0) (iwP wv g (gl kl170) 8 tk kv sv ev 0) (iwP wv g (gl kl172) 2 tk kv sv ev 1) (iwP wv g (gl kl174) 4 tk kv sv ev 1) (iwP wv g (gl kl176) 11 tk kv sv ev 1) (iwP wv g (gl kl172) 2 tk kv sv ev 2) (iwP wv g (gl kl178) 7 tk kv sv ev 0) (2 < tk ∧ kv 2 = xv)
def QE (P : Prop) (h0 : Heap) (n0 : Nat) (v : Option Value) (h : Heap) (L : List Loc) : Prop := ∃ z : Int32, v = some (.int z) ∧ ((P ∧ z = 1) ∨ (¬ P ∧ z = 0)) ∧ Fr n0 L ∧ Ext h0 h
def D33 : List (Nat × Instr × Nat) := [(0, .aload_n 0, 1), (1, .iconst 0, 1), (2, .ldc 164, 2), (4, .invokevirtual 152, 3), (7, .ifCond .eq 22, 3), (10, .aload_n 0, 1), (11, .iconst 1, 1), (12, .ldc 166, 2), (14, .invokevirtual 152, 3), (17, .ifCond .ne 7, 3), (20, .iconst 1, 1), (21, .goto 4, 3), (24, .iconst 0, 1), (25, .istore_n 1, 1), (26, .goto 158, 3), (29, .aload_n 0, 1), (30, .iconst 0, 1), (31, .ldc 145, 2), (33, .invokevirtual 152, 3), (36, .ifCond .ne 13, 3), (39, .aload_n 0, 1), (40, .iconst 0, 1), (41, .ldc 168, 2), (43, .invokevirtual 152, 3), (46, .ifCond .eq 8, 3), (49, .iconst 1, 1), (50, .istore_n 1, 1), (51, .goto 133, 3), (54, .aload_n 0, 1), (55, .iconst 0, 1), (56, .ldc 170, 2), (58, .invokevirtual 152, 3), (61, .ifCond .eq 72, 3), (64, .aload_n 0, 1), (65, .iconst 1, 1), (66, .ldc 172, 2), (68, .invokevirtual 152, 3), (71, .ifCond .ne 33, 3), (74, .aload_n 0, 1), (75, .iconst 1, 1), (76, .ldc 174, 2), (78, .invokevirtual 152, 3), (81, .ifCond .ne 13, 3), (84, .aload_n 0, 1), (85, .iconst 1, 1), (86, .ldc 176, 2), (88, .invokevirtual 152, 3), (91, .ifCond .eq 17, 3), (94, .aload_n 0, 1), (95, .iconst 2, 1), (96, .ldc 172, 2), (98, .invokevirtual 152, 3), (101, .ifCond .eq 7, 3), (104, .iconst 1, 1), (105, .goto 4, 3), (108, .iconst 0, 1), (109, .istore_n 2, 1), (110, .iload_n 2, 1), (111, .ifCond .ne 17, 3), (114, .aload_n 0, 1), (115, .iconst 1, 1), (116, .ldc 166, 2), (118, .invokevirtual 152, 3), (121, .ifCond .ne 7, 3), (124, .iconst 1, 1), (125, .goto 4, 3), (128, .iconst 0, 1), (129, .istore_n 1, 1), (130, .goto 54, 3), (133, .aload_n 0, 1), (134, .iconst 0, 1), (135, .ldc 178, 2), (137, .invokevirtual 152, 3), (140, .ifCond .eq 42, 3), (143, .aload_n 0, 1), (144, .iconst 1, 1), (145, .ldc 176, 2), (147, .invokevirtual 152, 3), (150, .ifCond .eq 27, 3), (153, .aload_n 0, 1), (154, .getfield 136, 3), (157, .iconst 2, 1), (158, .if_icmp .le 19, 3), (161, .aload_n 0, 1), (162, .getfield 11, 3), (165, .iconst 2, 1), (166, .aaload, 1), (167, .getstatic 96, 3), (170, .if_acmp .ne 7, 3), (173, .iconst 1, 1), (174, .goto 4, 3), (177, .iconst 0, 1), (178, .istore_n 1, 1), (179, .goto 5, 3), (182, .iconst 0, 1), (183, .istore_n 1, 1), (184, .iload_n 1, 1), (185, .ireturn, 1)]
theorem d33 : ∀ x ∈ D33, decode prog_11_method_7_code x.1 = .ok x.2 := by decide +kernel
theorem pn_33 : plainName "com/example/killdeer/killdeer/EndingStatements" = true := by first | (simp [plainName, overriddenIn]; done) | decide +kernel
theorem ef_33 (m : MethodId) (x0 : Addr) : entryFrame m #[(.ref x0)] 3 = mkF m 0 #[.val (.ref x0), .unset, .unset] [] := by first | (simp [entryFrame, mkF, argsToLocals, Value.category]; done) | rfl
theorem bI_ex (P : Prop) : ∃ b : Int32, (P ∧ b = 1) ∨ (¬ P ∧ b = 0) := (Classical.em P).elim (fun h => ⟨1, Or.inl ⟨h, rfl⟩⟩) (fun h => ⟨0, Or.inr ⟨h, rfl⟩⟩)
theorem extT {h1 h2 h3 : Heap} (A : Ext h1 h2) (B : Ext h2 h3) : Ext h1 h3 := ⟨Nat.le_trans A.1 B.1, fun a c q => B.2 a c (A.2 a c q)⟩
theorem rmET (hw : HW Z a0) (ws : List Jvm.Cond) (r o ka sa ea : Addr) (sc : Int32) (g : Nat → Int32) (a tk : Nat) (le eb : Int32) (kv : Nat → Addr) (sv ev : Nat → Nat) (wv xv : Addr)  (h0 : Heap) (n0 : Nat) (Z0 : n0 ≤ h0.size) (htk : tk < 1000) (O : Old Z n0 h0) (SK : StrSta Z) (RS0 : RS Z h0 r o ka sa ea sc g a tk le eb kv sv ev) (hgB : allB g) (hEL : EW Z a0 EL1) (hWD : Sta Z Z.heap "com/example/killdeer/killdeer/EndingStatements$Token" "WORD" "Lcom/example/killdeer/killdeer/EndingStatements$Token;" (.ref wv)) (hXD : Sta Z Z.heap "com/example/killdeer/killdeer/EndingStatements$Token" "STRING" "Lcom/example/killdeer/killdeer/EndingStatements$Token;" (.ref xv))  :
    MH l Z (⟨"com/example/killdeer/killdeer/EndingStatements", "endsTransaction", "()Z"⟩ : MethodName) prog_11_method_7_code 3 (some .boolean) ws (rM 6 116 18 400) #[(.ref r)] h0 (QE (etP wv xv g tk kv sv ev) h0 n0) := by
  refine zBodyH pn_33 (fun m => ef_33 m r) ?_
  intro p e s m below meth c s₁ Bd hx hby hml hown hZ hh X0 e0 pre0 CH0
  have hD := dk hby d33
  have N0 := Fr.nil n0
  have hwS := hwSt hw
  obtain ⟨bb81, hbb81⟩ := bI_ex (iwP wv g (gl kl164) 6 tk kv sv ev 0)
  obtain ⟨T81, vm81, L81, k81, X81, N81, E81, hS81, hk81, hZ81, hown81, CR81, st81⟩ := cW (s := s) (vm0 := s.vm) X0 hx hZ hw hown (hwi hw 176 rfl) hwS e0 ((State.WarmedH.refl s).since 0) (Nat.zero_le _) hEL (List.mem_of_getElem? (i := 4) rfl) (CHr.refl CH0) O SK Z0 N0 RS0 hgB hWD htk kl164 (n := 6) (q := 24) (by decide +kernel) (by decide +kernel) (i := 0) (by decide) (b := bb81) hbb81 (f := (mkF m 2 #[vR r, .unset, .unset] [(.int 0), (.ref r)])) rfl (by rw [hml]; rfl) (hD 2 rfl) (hD 3 rfl) rfl (W := 0) (by show 2 * 0 + _ ≤ _; exact Nat.le_of_eq rfl) (by decide)
  have R81 := RS0.ext E81
  have O81 := O.ext E81
  have Z81 := Nat.le_trans Z0 E81.1
  have F81 := id E81
  have pq81 : ∀ zz, Steps p.tables e below (T81.setTop (mkF m 7 #[vR r, .unset, .unset] [(.int bb81)])) zz → Steps p.tables e below (s₁.setTop (entryFrame m #[(.ref r)] 3)) zz := by
    intro zz kz_
    refine pre0 zz ?_
    refine zA X0 hx (hD 0 rfl) rfl rfl ?_
    refine zC X0 hx (hD 1 rfl) ?_
    refine st81 _ ?_
    exact kz_
  rcases hbb81 with ⟨hq164_0, rfl⟩ | ⟨hq164_0, rfl⟩
  · obtain ⟨bb82, hbb82⟩ := bI_ex (iwP wv g (gl kl166) 8 tk kv sv ev 1)
    obtain ⟨T82, vm82, L82, k82, X82, N82, E82, hS82, hk82, hZ82, hown82, CR82, st82⟩ := cW (s := s) (vm0 := vm81) X81 hx hZ81 hw hown81 (hwi hw 185 rfl) hwS rfl hS81 hk81 hEL (List.mem_of_getElem? (i := 5) rfl) CR81 O81 SK Z81 N81 R81 hgB hWD htk kl166 (n := 8) (q := 32) (by decide +kernel) (by decide +kernel) (i := 1) (by decide) (b := bb82) hbb82 (f := (mkF m 12 #[vR r, .unset, .unset] [(.int 1), (.ref r)])) rfl (by rw [hml]; rfl) (hD 7 rfl) (hD 8 rfl) rfl (W := 0) (by show 2 * 0 + _ ≤ _; exact Nat.le_of_eq rfl) (by decide)
    have R82 := R81.ext E82
    have O82 := O81.ext E82
    have Z82 := Nat.le_trans Z81 E82.1
    have F82 := extT F81 E82
    have pq82 : ∀ zz, Steps p.tables e below (T82.setTop (mkF m 17 #[vR r, .unset, .unset] [(.int bb82)])) zz → Steps p.tables e below (s₁.setTop (entryFrame m #[(.ref r)] 3)) zz := by
      intro zz kz_
      refine pq81 zz ?_
      refine zJ X81 hx (hD 4 rfl) ((if0 _ _).trans (feq (by decide : ¬ ((1 : Int32) = 0))).1) ?_
      refine zA X81 hx (hD 5 rfl) rfl rfl ?_
      refine zC X81 hx (hD 6 rfl) ?_
      refine st82 _ ?_
      exact kz_
    rcases hbb82 with ⟨hq166_1, rfl⟩ | ⟨hq166_1, rfl⟩
    · refine zLw Bd (vm₁ := vm82) X82 hS82 (by exact hk82) hZ82 hEL hh rfl CR82 (v := some (.int 0)) (by decide) nofun (fun fs hr => pq82 _ ?_) (by exact ⟨_, rfl, Or.inr ⟨by unfold etP; simp [EPd, hq164_0, hq166_1], rfl⟩, N82, F82⟩)
      refine zI X82 hx 24 (hD 9 rfl) ((if0 _ _).trans (feq (by decide : ¬ ((1 : Int32) = 0))).2) rfl ?_
      refine zC X82 hx (hD 12 rfl) ?_
      refine zS X82 hx (hD 13 rfl) rfl ?_
      refine zG X82 hx 184 (hD 14 rfl) rfl ?_
      refine zL X82 hx (hD 96 rfl) rfl ?_
      exact retN X82 hx (t := .boolean) Bd.returns (by simp) (hD 97 rfl) hr
    · refine zLw Bd (vm₁ := vm82) X82 hS82 (by exact hk82) hZ82 hEL hh rfl CR82 (v := some (.int 1)) (by decide) nofun (fun fs hr => pq82 _ ?_) (by exact ⟨_, rfl, Or.inl ⟨by unfold etP; simp [EPd, hq164_0, hq166_1], rfl⟩, N82, F82⟩)
      refine zJ X82 hx (hD 9 rfl) ((if0 _ _).trans (teq (rfl : (0 : Int32) = 0)).2) ?_
      refine zC X82 hx (hD 10 rfl) ?_
      refine zG X82 hx 25 (hD 11 rfl) rfl ?_
      refine zS X82 hx (hD 13 rfl) rfl ?_
      refine zG X82 hx 184 (hD 14 rfl) rfl ?_
      refine zL X82 hx (hD 96 rfl) rfl ?_
      exact retN X82 hx (t := .boolean) Bd.returns (by simp) (hD 97 rfl) hr
  · obtain ⟨bb82, hbb82⟩ := bI_ex (iwP wv g (gl kl145) 3 tk kv sv ev 0)
    obtain ⟨T82, vm82, L82, k82, X82, N82, E82, hS82, hk82, hZ82, hown82, CR82, st82⟩ := cW (s := s) (vm0 := vm81) X81 hx hZ81 hw hown81 (hwi hw 188 rfl) hwS rfl hS81 hk81 hEL (List.mem_of_getElem? (i := 2) rfl) CR81 O81 SK Z81 N81 R81 hgB hWD htk kl145 (n := 3) (q := 12) (by decide +kernel) (by decide +kernel) (i := 0) (by decide) (b := bb82) hbb82 (f := (mkF m 31 #[vR r, .unset, .unset] [(.int 0), (.ref r)])) rfl (by rw [hml]; rfl) (hD 17 rfl) (hD 18 rfl) rfl (W := 0) (by show 2 * 0 + _ ≤ _; exact Nat.le_of_eq rfl) (by decide)
    have R82 := R81.ext E82
    have O82 := O81.ext E82
    have Z82 := Nat.le_trans Z81 E82.1
    have F82 := extT F81 E82
    have pq82 : ∀ zz, Steps p.tables e below (T82.setTop (mkF m 36 #[vR r, .unset, .unset] [(.int bb82)])) zz → Steps p.tables e below (s₁.setTop (entryFrame m #[(.ref r)] 3)) zz := by
      intro zz kz_
      refine pq81 zz ?_
      refine zI X81 hx 29 (hD 4 rfl) ((if0 _ _).trans (teq (rfl : (0 : Int32) = 0)).1) rfl ?_
      refine zA X81 hx (hD 15 rfl) rfl rfl ?_
      refine zC X81 hx (hD 16 rfl) ?_
      refine st82 _ ?_
      exact kz_
    rcases hbb82 with ⟨hq145_0, rfl⟩ | ⟨hq145_0, rfl⟩
    · refine zLw Bd (vm₁ := vm82) X82 hS82 (by exact hk82) hZ82 hEL hh rfl CR82 (v := some (.int 1)) (by decide) nofun (fun fs hr => pq82 _ ?_) (by exact ⟨_, rfl, Or.inl ⟨by unfold etP; simp [EPd, hq164_0, hq145_0], rfl⟩, N82, F82⟩)
      refine zI X82 hx 49 (hD 19 rfl) ((if0 _ _).trans (feq (by decide : ¬ ((1 : Int32) = 0))).2) rfl ?_
      refine zC X82 hx (hD 25 rfl) ?_
      refine zS X82 hx (hD 26 rfl) rfl ?_
      refine zG X82 hx 184 (hD 27 rfl) rfl ?_
      refine zL X82 hx (hD 96 rfl) rfl ?_
      exact retN X82 hx (t := .boolean) Bd.returns (by simp) (hD 97 rfl) hr
    · obtain ⟨bb83, hbb83⟩ := bI_ex (iwP wv g (gl kl168) 5 tk kv sv ev 0)
      obtain ⟨T83, vm83, L83, k83, X83, N83, E83, hS83, hk83, hZ83, hown83, CR83, st83⟩ := cW (s := s) (vm0 := vm82) X82 hx hZ82 hw hown82 (hwi hw 211 rfl) hwS rfl hS82 hk82 hEL (List.mem_of_getElem? (i := 6) rfl) CR82 O82 SK Z82 N82 R82 hgB hWD htk kl168 (n := 5) (q := 20) (by decide +kernel) (by decide +kernel) (i := 0) (by decide) (b := bb83) hbb83 (f := (mkF m 41 #[vR r, .unset, .unset] [(.int 0), (.ref r)])) rfl (by rw [hml]; rfl) (hD 22 rfl) (hD 23 rfl) rfl (W := 0) (by show 2 * 0 + _ ≤ _; exact Nat.le_of_eq rfl) (by decide)
      have R83 := R82.ext E83
      have O83 := O82.ext E83
      have Z83 := Nat.le_trans Z82 E83.1
      have F83 := extT F82 E83
      have pq83 : ∀ zz, Steps p.tables e below (T83.setTop (mkF m 46 #[vR r, .unset, .unset] [(.int bb83)])) zz → Steps p.tables e below (s₁.setTop (entryFrame m #[(.ref r)] 3)) zz := by
        intro zz kz_
        refine pq82 zz ?_
        refine zJ X82 hx (hD 19 rfl) ((if0 _ _).trans (teq (rfl : (0 : Int32) = 0)).2) ?_
        refine zA X82 hx (hD 20 rfl) rfl rfl ?_
        refine zC X82 hx (hD 21 rfl) ?_
        refine st83 _ ?_
        exact kz_
      rcases hbb83 with ⟨hq168_0, rfl⟩ | ⟨hq168_0, rfl⟩
      · refine zLw Bd (vm₁ := vm83) X83 hS83 (by exact hk83) hZ83 hEL hh rfl CR83 (v := some (.int 1)) (by decide) nofun (fun fs hr => pq83 _ ?_) (by exact ⟨_, rfl, Or.inl ⟨by unfold etP; simp [EPd, hq164_0, hq145_0, hq168_0], rfl⟩, N83, F83⟩)
        refine zJ X83 hx (hD 24 rfl) ((if0 _ _).trans (feq (by decide : ¬ ((1 : Int32) = 0))).1) ?_
        refine zC X83 hx (hD 25 rfl) ?_
        refine zS X83 hx (hD 26 rfl) rfl ?_
        refine zG X83 hx 184 (hD 27 rfl) rfl ?_
        refine zL X83 hx (hD 96 rfl) rfl ?_
        exact retN X83 hx (t := .boolean) Bd.returns (by simp) (hD 97 rfl) hr
      · obtain ⟨bb84, hbb84⟩ := bI_ex (iwP wv g (gl kl170) 8 tk kv sv ev 0)
        obtain ⟨T84, vm84, L84, k84, X84, N84, E84, hS84, hk84, hZ84, hown84, CR84, st84⟩ := cW (s := s) (vm0 := vm83) X83 hx hZ83 hw hown83 (hwi hw 212 rfl) hwS rfl hS83 hk83 hEL (List.mem_of_getElem? (i := 7) rfl) CR83 O83 SK Z83 N83 R83 hgB hWD htk kl170 (n := 8) (q := 32) (by decide +kernel) (by decide +kernel) (i := 0) (by decide) (b := bb84) hbb84 (f := (mkF m 56 #[vR r, .unset, .unset] [(.int 0), (.ref r)])) rfl (by rw [hml]; rfl) (hD 30 rfl) (hD 31 rfl) rfl (W := 0) (by show 2 * 0 + _ ≤ _; exact Nat.le_of_eq rfl) (by decide)
        have R84 := R83.ext E84
        have O84 := O83.ext E84
        have Z84 := Nat.le_trans Z83 E84.1
        have F84 := extT F83 E84
        have pq84 : ∀ zz, Steps p.tables e below (T84.setTop (mkF m 61 #[vR r, .unset, .unset] [(.int bb84)])) zz → Steps p.tables e below (s₁.setTop (entryFrame m #[(.ref r)] 3)) zz := by
          intro zz kz_
          refine pq83 zz ?_
          refine zI X83 hx 54 (hD 24 rfl) ((if0 _ _).trans (teq (rfl : (0 : Int32) = 0)).1) rfl ?_
          refine zA X83 hx (hD 28 rfl) rfl rfl ?_
          refine zC X83 hx (hD 29 rfl) ?_
          refine st84 _ ?_
          exact kz_
        rcases hbb84 with ⟨hq170_0, rfl⟩ | ⟨hq170_0, rfl⟩
        · obtain ⟨bb85, hbb85⟩ := bI_ex (iwP wv g (gl kl172) 2 tk kv sv ev 1)
          obtain ⟨T85, vm85, L85, k85, X85, N85, E85, hS85, hk85, hZ85, hown85, CR85, st85⟩ := cW (s := s) (vm0 := vm84) X84 hx hZ84 hw hown84 (hwi hw 304 rfl) hwS rfl hS84 hk84 hEL (List.mem_of_getElem? (i := 8) rfl) CR84 O84 SK Z84 N84 R84 hgB hWD htk kl172 (n := 2) (q := 8) (by decide +kernel) (by decide +kernel) (i := 1) (by decide) (b := bb85) hbb85 (f := (mkF m 66 #[vR r, .unset, .unset] [(.int 1), (.ref r)])) rfl (by rw [hml]; rfl) (hD 35 rfl) (hD 36 rfl) rfl (W := 0) (by show 2 * 0 + _ ≤ _; exact Nat.le_of_eq rfl) (by decide)
          have R85 := R84.ext E85
          have O85 := O84.ext E85
          have Z85 := Nat.le_trans Z84 E85.1
          have F85 := extT F84 E85
          have pq85 : ∀ zz, Steps p.tables e below (T85.setTop (mkF m 71 #[vR r, .unset, .unset] [(.int bb85)])) zz → Steps p.tables e below (s₁.setTop (entryFrame m #[(.ref r)] 3)) zz := by
            intro zz kz_
            refine pq84 zz ?_
            refine zJ X84 hx (hD 32 rfl) ((if0 _ _).trans (feq (by decide : ¬ ((1 : Int32) = 0))).1) ?_
            refine zA X84 hx (hD 33 rfl) rfl rfl ?_
            refine zC X84 hx (hD 34 rfl) ?_
            refine st85 _ ?_
            exact kz_
          rcases hbb85 with ⟨hq172_1, rfl⟩ | ⟨hq172_1, rfl⟩
          · refine zLw Bd (vm₁ := vm85) X85 hS85 (by exact hk85) hZ85 hEL hh rfl CR85 (v := some (.int 0)) (by decide) nofun (fun fs hr => pq85 _ ?_) (by exact ⟨_, rfl, Or.inr ⟨by unfold etP; simp [EPd, hq164_0, hq145_0, hq168_0, hq170_0, hq172_1], rfl⟩, N85, F85⟩)
            refine zI X85 hx 104 (hD 37 rfl) ((if0 _ _).trans (feq (by decide : ¬ ((1 : Int32) = 0))).2) rfl ?_
            refine zC X85 hx (hD 53 rfl) ?_
            refine zG X85 hx 109 (hD 54 rfl) rfl ?_
            refine zS X85 hx (hD 56 rfl) rfl ?_
            refine zL X85 hx (hD 57 rfl) rfl ?_
            refine zI X85 hx 128 (hD 58 rfl) ((if0 _ _).trans (feq (by decide : ¬ ((1 : Int32) = 0))).2) rfl ?_
            refine zC X85 hx (hD 66 rfl) ?_
            refine zS X85 hx (hD 67 rfl) rfl ?_
            refine zG X85 hx 184 (hD 68 rfl) rfl ?_
            refine zL X85 hx (hD 96 rfl) rfl ?_
            exact retN X85 hx (t := .boolean) Bd.returns (by simp) (hD 97 rfl) hr
          · obtain ⟨bb86, hbb86⟩ := bI_ex (iwP wv g (gl kl174) 4 tk kv sv ev 1)
            obtain ⟨T86, vm86, L86, k86, X86, N86, E86, hS86, hk86, hZ86, hown86, CR86, st86⟩ := cW (s := s) (vm0 := vm85) X85 hx hZ85 hw hown85 (hwi hw 305 rfl) hwS rfl hS85 hk85 hEL (List.mem_of_getElem? (i := 9) rfl) CR85 O85 SK Z85 N85 R85 hgB hWD htk kl174 (n := 4) (q := 16) (by decide +kernel) (by decide +kernel) (i := 1) (by decide) (b := bb86) hbb86 (f := (mkF m 76 #[vR r, .unset, .unset] [(.int 1), (.ref r)])) rfl (by rw [hml]; rfl) (hD 40 rfl) (hD 41 rfl) rfl (W := 0) (by show 2 * 0 + _ ≤ _; exact Nat.le_of_eq rfl) (by decide)
            have R86 := R85.ext E86
            have O86 := O85.ext E86
            have Z86 := Nat.le_trans Z85 E86.1
            have F86 := extT F85 E86
            have pq86 : ∀ zz, Steps p.tables e below (T86.setTop (mkF m 81 #[vR r, .unset, .unset] [(.int bb86)])) zz → Steps p.tables e below (s₁.setTop (entryFrame m #[(.ref r)] 3)) zz := by
              intro zz kz_
              refine pq85 zz ?_
              refine zJ X85 hx (hD 37 rfl) ((if0 _ _).trans (teq (rfl : (0 : Int32) = 0)).2) ?_
              refine zA X85 hx (hD 38 rfl) rfl rfl ?_
              refine zC X85 hx (hD 39 rfl) ?_
              refine st86 _ ?_
              exact kz_
            rcases hbb86 with ⟨hq174_1, rfl⟩ | ⟨hq174_1, rfl⟩
            · obtain ⟨bb87, hbb87⟩ := bI_ex (iwP wv g (gl kl172) 2 tk kv sv ev 2)
              obtain ⟨T87, vm87, L87, k87, X87, N87, E87, hS87, hk87, hZ87, hown87, CR87, st87⟩ := cW (s := s) (vm0 := vm86) X86 hx hZ86 hw hown86 (hwi hw 304 rfl) hwS rfl hS86 hk86 hEL (List.mem_of_getElem? (i := 8) rfl) CR86 O86 SK Z86 N86 R86 hgB hWD htk kl172 (n := 2) (q := 8) (by decide +kernel) (by decide +kernel) (i := 2) (by decide) (b := bb87) hbb87 (f := (mkF m 96 #[vR r, .unset, .unset] [(.int 2), (.ref r)])) rfl (by rw [hml]; rfl) (hD 50 rfl) (hD 51 rfl) rfl (W := 0) (by show 2 * 0 + _ ≤ _; exact Nat.le_of_eq rfl) (by decide)
              have R87 := R86.ext E87
              have O87 := O86.ext E87
              have Z87 := Nat.le_trans Z86 E87.1
              have F87 := extT F86 E87
              have pq87 : ∀ zz, Steps p.tables e below (T87.setTop (mkF m 101 #[vR r, .unset, .unset] [(.int bb87)])) zz → Steps p.tables e below (s₁.setTop (entryFrame m #[(.ref r)] 3)) zz := by
                intro zz kz_
                refine pq86 zz ?_
                refine zI X86 hx 94 (hD 42 rfl) ((if0 _ _).trans (feq (by decide : ¬ ((1 : Int32) = 0))).2) rfl ?_
                refine zA X86 hx (hD 48 rfl) rfl rfl ?_
                refine zC X86 hx (hD 49 rfl) ?_
                refine st87 _ ?_
                exact kz_
              rcases hbb87 with ⟨hq172_2, rfl⟩ | ⟨hq172_2, rfl⟩
              · refine zLw Bd (vm₁ := vm87) X87 hS87 (by exact hk87) hZ87 hEL hh rfl CR87 (v := some (.int 0)) (by decide) nofun (fun fs hr => pq87 _ ?_) (by exact ⟨_, rfl, Or.inr ⟨by unfold etP; simp [EPd, hq164_0, hq145_0, hq168_0, hq170_0, hq172_1, hq174_1, hq172_2], rfl⟩, N87, F87⟩)
                refine zJ X87 hx (hD 52 rfl) ((if0 _ _).trans (feq (by decide : ¬ ((1 : Int32) = 0))).1) ?_
                refine zC X87 hx (hD 53 rfl) ?_
                refine zG X87 hx 109 (hD 54 rfl) rfl ?_
                refine zS X87 hx (hD 56 rfl) rfl ?_
                refine zL X87 hx (hD 57 rfl) rfl ?_
                refine zI X87 hx 128 (hD 58 rfl) ((if0 _ _).trans (feq (by decide : ¬ ((1 : Int32) = 0))).2) rfl ?_
                refine zC X87 hx (hD 66 rfl) ?_
                refine zS X87 hx (hD 67 rfl) rfl ?_
                refine zG X87 hx 184 (hD 68 rfl) rfl ?_
                refine zL X87 hx (hD 96 rfl) rfl ?_
                exact retN X87 hx (t := .boolean) Bd.returns (by simp) (hD 97 rfl) hr
              · obtain ⟨bb88, hbb88⟩ := bI_ex (iwP wv g (gl kl166) 8 tk kv sv ev 1)
                obtain ⟨T88, vm88, L88, k88, X88, N88, E88, hS88, hk88, hZ88, hown88, CR88, st88⟩ := cW (s := s) (vm0 := vm87) X87 hx hZ87 hw hown87 (hwi hw 185 rfl) hwS rfl hS87 hk87 hEL (List.mem_of_getElem? (i := 5) rfl) CR87 O87 SK Z87 N87 R87 hgB hWD htk kl166 (n := 8) (q := 32) (by decide +kernel) (by decide +kernel) (i := 1) (by decide) (b := bb88) hbb88 (f := (mkF m 116 #[vR r, .unset, vI 0] [(.int 1), (.ref r)])) rfl (by rw [hml]; rfl) (hD 61 rfl) (hD 62 rfl) rfl (W := 0) (by show 2 * 0 + _ ≤ _; exact Nat.le_of_eq rfl) (by decide)
                have R88 := R87.ext E88
                have O88 := O87.ext E88
                have Z88 := Nat.le_trans Z87 E88.1
                have F88 := extT F87 E88
                have pq88 : ∀ zz, Steps p.tables e below (T88.setTop (mkF m 121 #[vR r, .unset, vI 0] [(.int bb88)])) zz → Steps p.tables e below (s₁.setTop (entryFrame m #[(.ref r)] 3)) zz := by
                  intro zz kz_
                  refine pq87 zz ?_
                  refine zI X87 hx 108 (hD 52 rfl) ((if0 _ _).trans (teq (rfl : (0 : Int32) = 0)).1) rfl ?_
                  refine zC X87 hx (hD 55 rfl) ?_
                  refine zS X87 hx (hD 56 rfl) rfl ?_
                  refine zL X87 hx (hD 57 rfl) rfl ?_
                  refine zJ X87 hx (hD 58 rfl) ((if0 _ _).trans (teq (rfl : (0 : Int32) = 0)).2) ?_
                  refine zA X87 hx (hD 59 rfl) rfl rfl ?_
                  refine zC X87 hx (hD 60 rfl) ?_
                  refine st88 _ ?_
                  exact kz_
                rcases hbb88 with ⟨hq166_1, rfl⟩ | ⟨hq166_1, rfl⟩
                · refine zLw Bd (vm₁ := vm88) X88 hS88 (by exact hk88) hZ88 hEL hh rfl CR88 (v := some (.int 0)) (by decide) nofun (fun fs hr => pq88 _ ?_) (by exact ⟨_, rfl, Or.inr ⟨by unfold etP; simp [EPd, hq164_0, hq145_0, hq168_0, hq170_0, hq172_1, hq174_1, hq172_2, hq166_1], rfl⟩, N88, F88⟩)
                  refine zI X88 hx 128 (hD 63 rfl) ((if0 _ _).trans (feq (by decide : ¬ ((1 : Int32) = 0))).2) rfl ?_
                  refine zC X88 hx (hD 66 rfl) ?_
                  refine zS X88 hx (hD 67 rfl) rfl ?_
                  refine zG X88 hx 184 (hD 68 rfl) rfl ?_
                  refine zL X88 hx (hD 96 rfl) rfl ?_
                  exact retN X88 hx (t := .boolean) Bd.returns (by simp) (hD 97 rfl) hr
                · refine zLw Bd (vm₁ := vm88) X88 hS88 (by exact hk88) hZ88 hEL hh rfl CR88 (v := some (.int 1)) (by decide) nofun (fun fs hr => pq88 _ ?_) (by exact ⟨_, rfl, Or.inl ⟨by unfold etP; simp [EPd, hq164_0, hq145_0, hq168_0, hq170_0, hq172_1, hq174_1, hq172_2, hq166_1], rfl⟩, N88, F88⟩)
                  refine zJ X88 hx (hD 63 rfl) ((if0 _ _).trans (teq (rfl : (0 : Int32) = 0)).2) ?_
                  refine zC X88 hx (hD 64 rfl) ?_
                  refine zG X88 hx 129 (hD 65 rfl) rfl ?_
                  refine zS X88 hx (hD 67 rfl) rfl ?_
                  refine zG X88 hx 184 (hD 68 rfl) rfl ?_
                  refine zL X88 hx (hD 96 rfl) rfl ?_
                  exact retN X88 hx (t := .boolean) Bd.returns (by simp) (hD 97 rfl) hr
            · obtain ⟨bb87, hbb87⟩ := bI_ex (iwP wv g (gl kl176) 11 tk kv sv ev 1)
              obtain ⟨T87, vm87, L87, k87, X87, N87, E87, hS87, hk87, hZ87, hown87, CR87, st87⟩ := cW (s := s) (vm0 := vm86) X86 hx hZ86 hw hown86 (hwi hw 214 rfl) hwS rfl hS86 hk86 hEL (List.mem_of_getElem? (i := 10) rfl) CR86 O86 SK Z86 N86 R86 hgB hWD htk kl176 (n := 11) (q := 44) (by decide +kernel) (by decide +kernel) (i := 1) (by decide) (b := bb87) hbb87 (f := (mkF m 86 #[vR r, .unset, .unset] [(.int 1), (.ref r)])) rfl (by rw [hml]; rfl) (hD 45 rfl) (hD 46 rfl) rfl (W := 0) (by show 2 * 0 + _ ≤ _; exact Nat.le_of_eq rfl) (by decide)
              have R87 := R86.ext E87
              have O87 := O86.ext E87
              have Z87 := Nat.le_trans Z86 E87.1
              have F87 := extT F86 E87
              have pq87 : ∀ zz, Steps p.tables e below (T87.setTop (mkF m 91 #[vR r, .unset, .unset] [(.int bb87)])) zz → Steps p.tables e below (s₁.setTop (entryFrame m #[(.ref r)] 3)) zz := by
                intro zz kz_
                refine pq86 zz ?_
                refine zJ X86 hx (hD 42 rfl) ((if0 _ _).trans (teq (rfl : (0 : Int32) = 0)).2) ?_
                refine zA X86 hx (hD 43 rfl) rfl rfl ?_
                refine zC X86 hx (hD 44 rfl) ?_
                refine st87 _ ?_
                exact kz_
              rcases hbb87 with ⟨hq176_1, rfl⟩ | ⟨hq176_1, rfl⟩
              · obtain ⟨bb88, hbb88⟩ := bI_ex (iwP wv g (gl kl172) 2 tk kv sv ev 2)
                obtain ⟨T88, vm88, L88, k88, X88, N88, E88, hS88, hk88, hZ88, hown88, CR88, st88⟩ := cW (s := s) (vm0 := vm87) X87 hx hZ87 hw hown87 (hwi hw 304 rfl) hwS rfl hS87 hk87 hEL (List.mem_of_getElem? (i := 8) rfl) CR87 O87 SK Z87 N87 R87 hgB hWD htk kl172 (n := 2) (q := 8) (by decide +kernel) (by decide +kernel) (i := 2) (by decide) (b := bb88) hbb88 (f := (mkF m 96 #[vR r, .unset, .unset] [(.int 2), (.ref r)])) rfl (by rw [hml]; rfl) (hD 50 rfl) (hD 51 rfl) rfl (W := 0) (by show 2 * 0 + _ ≤ _; exact Nat.le_of_eq rfl) (by decide)
                have R88 := R87.ext E88
                have O88 := O87.ext E88
                have Z88 := Nat.le_trans Z87 E88.1
                have F88 := extT F87 E88
                have pq88 : ∀ zz, Steps p.tables e below (T88.setTop (mkF m 101 #[vR r, .unset, .unset] [(.int bb88)])) zz → Steps p.tables e below (s₁.setTop (entryFrame m #[(.ref r)] 3)) zz := by
                  intro zz kz_
                  refine pq87 zz ?_
                  refine zJ X87 hx (hD 47 rfl) ((if0 _ _).trans (feq (by decide : ¬ ((1 : Int32) = 0))).1) ?_
                  refine zA X87 hx (hD 48 rfl) rfl rfl ?_
                  refine zC X87 hx (hD 49 rfl) ?_
                  refine st88 _ ?_
                  exact kz_
                rcases hbb88 with ⟨hq172_2, rfl⟩ | ⟨hq172_2, rfl⟩
                · refine zLw Bd (vm₁ := vm88) X88 hS88 (by exact hk88) hZ88 hEL hh rfl CR88 (v := some (.int 0)) (by decide) nofun (fun fs hr => pq88 _ ?_) (by exact ⟨_, rfl, Or.inr ⟨by unfold etP; simp [EPd, hq164_0, hq145_0, hq168_0, hq170_0, hq172_1, hq174_1, hq176_1, hq172_2], rfl⟩, N88, F88⟩)
                  refine zJ X88 hx (hD 52 rfl) ((if0 _ _).trans (feq (by decide : ¬ ((1 : Int32) = 0))).1) ?_
                  refine zC X88 hx (hD 53 rfl) ?_
                  refine zG X88 hx 109 (hD 54 rfl) rfl ?_
                  refine zS X88 hx (hD 56 rfl) rfl ?_
                  refine zL X88 hx (hD 57 rfl) rfl ?_
                  refine zI X88 hx 128 (hD 58 rfl) ((if0 _ _).trans (feq (by decide : ¬ ((1 : Int32) = 0))).2) rfl ?_
                  refine zC X88 hx (hD 66 rfl) ?_
                  refine zS X88 hx (hD 67 rfl) rfl ?_
                  refine zG X88 hx 184 (hD 68 rfl) rfl ?_
                  refine zL X88 hx (hD 96 rfl) rfl ?_
                  exact retN X88 hx (t := .boolean) Bd.returns (by simp) (hD 97 rfl) hr
                · obtain ⟨bb89, hbb89⟩ := bI_ex (iwP wv g (gl kl166) 8 tk kv sv ev 1)
                  obtain ⟨T89, vm89, L89, k89, X89, N89, E89, hS89, hk89, hZ89, hown89, CR89, st89⟩ := cW (s := s) (vm0 := vm88) X88 hx hZ88 hw hown88 (hwi hw 185 rfl) hwS rfl hS88 hk88 hEL (List.mem_of_getElem? (i := 5) rfl) CR88 O88 SK Z88 N88 R88 hgB hWD htk kl166 (n := 8) (q := 32) (by decide +kernel) (by decide +kernel) (i := 1) (by decide) (b := bb89) hbb89 (f := (mkF m 116 #[vR r, .unset, vI 0] [(.int 1), (.ref r)])) rfl (by rw [hml]; rfl) (hD 61 rfl) (hD 62 rfl) rfl (W := 0) (by show 2 * 0 + _ ≤ _; exact Nat.le_of_eq rfl) (by decide)
                  have R89 := R88.ext E89
                  have O89 := O88.ext E89
                  have Z89 := Nat.le_trans Z88 E89.1
                  have F89 := extT F88 E89
                  have pq89 : ∀ zz, Steps p.tables e below (T89.setTop (mkF m 121 #[vR r, .unset, vI 0] [(.int bb89)])) zz → Steps p.tables e below (s₁.setTop (entryFrame m #[(.ref r)] 3)) zz := by
                    intro zz kz_
                    refine pq88 zz ?_
                    refine zI X88 hx 108 (hD 52 rfl) ((if0 _ _).trans (teq (rfl : (0 : Int32) = 0)).1) rfl ?_
                    refine zC X88 hx (hD 55 rfl) ?_
                    refine zS X88 hx (hD 56 rfl) rfl ?_
                    refine zL X88 hx (hD 57 rfl) rfl ?_
                    refine zJ X88 hx (hD 58 rfl) ((if0 _ _).trans (teq (rfl : (0 : Int32) = 0)).2) ?_
                    refine zA X88 hx (hD 59 rfl) rfl rfl ?_
                    refine zC X88 hx (hD 60 rfl) ?_
                    refine st89 _ ?_
                    exact kz_
                  rcases hbb89 with ⟨hq166_1, rfl⟩ | ⟨hq166_1, rfl⟩
                  · refine zLw Bd (vm₁ := vm89) X89 hS89 (by exact hk89) hZ89 hEL hh rfl CR89 (v := some (.int 0)) (by decide) nofun (fun fs hr => pq89 _ ?_) (by exact ⟨_, rfl, Or.inr ⟨by unfold etP; simp [EPd, hq164_0, hq145_0, hq168_0, hq170_0, hq172_1, hq174_1, hq176_1, hq172_2, hq166_1], rfl⟩, N89, F89⟩)
                    refine zI X89 hx 128 (hD 63 rfl) ((if0 _ _).trans (feq (by decide : ¬ ((1 : Int32) = 0))).2) rfl ?_
                    refine zC X89 hx (hD 66 rfl) ?_
                    refine zS X89 hx (hD 67 rfl) rfl ?_
                    refine zG X89 hx 184 (hD 68 rfl) rfl ?_
                    refine zL X89 hx (hD 96 rfl) rfl ?_
                    exact retN X89 hx (t := .boolean) Bd.returns (by simp) (hD 97 rfl) hr
                  · refine zLw Bd (vm₁ := vm89) X89 hS89 (by exact hk89) hZ89 hEL hh rfl CR89 (v := some (.int 1)) (by decide) nofun (fun fs hr => pq89 _ ?_) (by exact ⟨_, rfl, Or.inl ⟨by unfold etP; simp [EPd, hq164_0, hq145_0, hq168_0, hq170_0, hq172_1, hq174_1, hq176_1, hq172_2, hq166_1], rfl⟩, N89, F89⟩)
                    refine zJ X89 hx (hD 63 rfl) ((if0 _ _).trans (teq (rfl : (0 : Int32) = 0)).2) ?_
                    refine zC X89 hx (hD 64 rfl) ?_
                    refine zG X89 hx 129 (hD 65 rfl) rfl ?_
                    refine zS X89 hx (hD 67 rfl) rfl ?_
                    refine zG X89 hx 184 (hD 68 rfl) rfl ?_
                    refine zL X89 hx (hD 96 rfl) rfl ?_
                    exact retN X89 hx (t := .boolean) Bd.returns (by simp) (hD 97 rfl) hr
              · obtain ⟨bb88, hbb88⟩ := bI_ex (iwP wv g (gl kl166) 8 tk kv sv ev 1)
                obtain ⟨T88, vm88, L88, k88, X88, N88, E88, hS88, hk88, hZ88, hown88, CR88, st88⟩ := cW (s := s) (vm0 := vm87) X87 hx hZ87 hw hown87 (hwi hw 185 rfl) hwS rfl hS87 hk87 hEL (List.mem_of_getElem? (i := 5) rfl) CR87 O87 SK Z87 N87 R87 hgB hWD htk kl166 (n := 8) (q := 32) (by decide +kernel) (by decide +kernel) (i := 1) (by decide) (b := bb88) hbb88 (f := (mkF m 116 #[vR r, .unset, vI 0] [(.int 1), (.ref r)])) rfl (by rw [hml]; rfl) (hD 61 rfl) (hD 62 rfl) rfl (W := 0) (by show 2 * 0 + _ ≤ _; exact Nat.le_of_eq rfl) (by decide)
                have R88 := R87.ext E88
                have O88 := O87.ext E88
                have Z88 := Nat.le_trans Z87 E88.1
                have F88 := extT F87 E88
                have pq88 : ∀ zz, Steps p.tables e below (T88.setTop (mkF m 121 #[vR r, .unset, vI 0] [(.int bb88)])) zz → Steps p.tables e below (s₁.setTop (entryFrame m #[(.ref r)] 3)) zz := by
                  intro zz kz_
                  refine pq87 zz ?_
                  refine zI X87 hx 108 (hD 47 rfl) ((if0 _ _).trans (teq (rfl : (0 : Int32) = 0)).1) rfl ?_
                  refine zC X87 hx (hD 55 rfl) ?_
                  refine zS X87 hx (hD 56 rfl) rfl ?_
                  refine zL X87 hx (hD 57 rfl) rfl ?_
                  refine zJ X87 hx (hD 58 rfl) ((if0 _ _).trans (teq (rfl : (0 : Int32) = 0)).2) ?_
                  refine zA X87 hx (hD 59 rfl) rfl rfl ?_
                  refine zC X87 hx (hD 60 rfl) ?_
                  refine st88 _ ?_
                  exact kz_
                rcases hbb88 with ⟨hq166_1, rfl⟩ | ⟨hq166_1, rfl⟩
                · refine zLw Bd (vm₁ := vm88) X88 hS88 (by exact hk88) hZ88 hEL hh rfl CR88 (v := some (.int 0)) (by decide) nofun (fun fs hr => pq88 _ ?_) (by exact ⟨_, rfl, Or.inr ⟨by unfold etP; simp [EPd, hq164_0, hq145_0, hq168_0, hq170_0, hq172_1, hq174_1, hq176_1, hq166_1], rfl⟩, N88, F88⟩)
                  refine zI X88 hx 128 (hD 63 rfl) ((if0 _ _).trans (feq (by decide : ¬ ((1 : Int32) = 0))).2) rfl ?_
                  refine zC X88 hx (hD 66 rfl) ?_
                  refine zS X88 hx (hD 67 rfl) rfl ?_
                  refine zG X88 hx 184 (hD 68 rfl) rfl ?_
                  refine zL X88 hx (hD 96 rfl) rfl ?_
                  exact retN X88 hx (t := .boolean) Bd.returns (by simp) (hD 97 rfl) hr
                · refine zLw Bd (vm₁ := vm88) X88 hS88 (by exact hk88) hZ88 hEL hh rfl CR88 (v := some (.int 1)) (by decide) nofun (fun fs hr => pq88 _ ?_) (by exact ⟨_, rfl, Or.inl ⟨by unfold etP; simp [EPd, hq164_0, hq145_0, hq168_0, hq170_0, hq172_1, hq174_1, hq176_1, hq166_1], rfl⟩, N88, F88⟩)
                  refine zJ X88 hx (hD 63 rfl) ((if0 _ _).trans (teq (rfl : (0 : Int32) = 0)).2) ?_
                  refine zC X88 hx (hD 64 rfl) ?_
                  refine zG X88 hx 129 (hD 65 rfl) rfl ?_
                  refine zS X88 hx (hD 67 rfl) rfl ?_
                  refine zG X88 hx 184 (hD 68 rfl) rfl ?_
                  refine zL X88 hx (hD 96 rfl) rfl ?_
                  exact retN X88 hx (t := .boolean) Bd.returns (by simp) (hD 97 rfl) hr
        · obtain ⟨bb85, hbb85⟩ := bI_ex (iwP wv g (gl kl178) 7 tk kv sv ev 0)
          obtain ⟨T85, vm85, L85, k85, X85, N85, E85, hS85, hk85, hZ85, hown85, CR85, st85⟩ := cW (s := s) (vm0 := vm84) X84 hx hZ84 hw hown84 (hwi hw 213 rfl) hwS rfl hS84 hk84 hEL (List.mem_of_getElem? (i := 11) rfl) CR84 O84 SK Z84 N84 R84 hgB hWD htk kl178 (n := 7) (q := 28) (by decide +kernel) (by decide +kernel) (i := 0) (by decide) (b := bb85) hbb85 (f := (mkF m 135 #[vR r, .unset, .unset] [(.int 0), (.ref r)])) rfl (by rw [hml]; rfl) (hD 71 rfl) (hD 72 rfl) rfl (W := 0) (by show 2 * 0 + _ ≤ _; exact Nat.le_of_eq rfl) (by decide)
          have R85 := R84.ext E85
          have O85 := O84.ext E85
          have Z85 := Nat.le_trans Z84 E85.1
          have F85 := extT F84 E85
          have pq85 : ∀ zz, Steps p.tables e below (T85.setTop (mkF m 140 #[vR r, .unset, .unset] [(.int bb85)])) zz → Steps p.tables e below (s₁.setTop (entryFrame m #[(.ref r)] 3)) zz := by
            intro zz kz_
            refine pq84 zz ?_
            refine zI X84 hx 133 (hD 32 rfl) ((if0 _ _).trans (teq (rfl : (0 : Int32) = 0)).1) rfl ?_
            refine zA X84 hx (hD 69 rfl) rfl rfl ?_
            refine zC X84 hx (hD 70 rfl) ?_
            refine st85 _ ?_
            exact kz_
          rcases hbb85 with ⟨hq178_0, rfl⟩ | ⟨hq178_0, rfl⟩
          · obtain ⟨bb86, hbb86⟩ := bI_ex (iwP wv g (gl kl176) 11 tk kv sv ev 1)
            obtain ⟨T86, vm86, L86, k86, X86, N86, E86, hS86, hk86, hZ86, hown86, CR86, st86⟩ := cW (s := s) (vm0 := vm85) X85 hx hZ85 hw hown85 (hwi hw 214 rfl) hwS rfl hS85 hk85 hEL (List.mem_of_getElem? (i := 10) rfl) CR85 O85 SK Z85 N85 R85 hgB hWD htk kl176 (n := 11) (q := 44) (by decide +kernel) (by decide +kernel) (i := 1) (by decide) (b := bb86) hbb86 (f := (mkF m 145 #[vR r, .unset, .unset] [(.int 1), (.ref r)])) rfl (by rw [hml]; rfl) (hD 76 rfl) (hD 77 rfl) rfl (W := 0) (by show 2 * 0 + _ ≤ _; exact Nat.le_of_eq rfl) (by decide)
            have R86 := R85.ext E86
            have O86 := O85.ext E86
            have Z86 := Nat.le_trans Z85 E86.1
            have F86 := extT F85 E86
            have pq86 : ∀ zz, Steps p.tables e below (T86.setTop (mkF m 150 #[vR r, .unset, .unset] [(.int bb86)])) zz → Steps p.tables e below (s₁.setTop (entryFrame m #[(.ref r)] 3)) zz := by
              intro zz kz_
              refine pq85 zz ?_
              refine zJ X85 hx (hD 73 rfl) ((if0 _ _).trans (feq (by decide : ¬ ((1 : Int32) = 0))).1) ?_
              refine zA X85 hx (hD 74 rfl) rfl rfl ?_
              refine zC X85 hx (hD 75 rfl) ?_
              refine st86 _ ?_
              exact kz_
            rcases hbb86 with ⟨hq176_1, rfl⟩ | ⟨hq176_1, rfl⟩
            · obtain ⟨⟨ER, FT, FS, FK, FSt, FEn, ST0⟩, ⟨FA, FTk, FAB, FBD, FLE, FEB⟩, ⟨kd, st0, en0, AK, ASt, AEn, htok⟩, hse0⟩ := id R86
              have EO := ST0.1
              obtain ⟨T87, X87, e87, st87⟩ := zF X86 hx hZ86 hown86 (hwi hw 154 rfl) rfl FTk 154 #[vR r, .unset, .unset] [] (hD 80 rfl)
              by_cases hqtk : 2 < tk
              · obtain ⟨T88, X88, e88, st88⟩ := zF X87 hx hZ86 hown86 (hwi hw 98 rfl) e87 FK 162 #[vR r, .unset, .unset] [] (hD 84 rfl)
                obtain ⟨T89, X89, e89, st89⟩ := getS2 X88 hx hZ86 hown86 (host := "") (Or.inl (hwi hw 226 rfl)) Via.refl e88 (Sta.ext O86.2 hXD) (g := (mkF m 167 #[vR r, .unset, .unset] [(.ref (kv 2))])) rfl (hD 87 rfl)
                by_cases hqx : kv 2 = xv
                · refine zLw Bd (vm₁ := vm86) X89 hS86 (by rw [e89]; exact hk86) hZ86 hEL hh e89 CR86 (v := some (.int 1)) (by decide) nofun (fun fs hr => pq86 _ ?_) (by exact ⟨_, rfl, Or.inl ⟨by unfold etP; simp [EPd, hq164_0, hq145_0, hq168_0, hq170_0, hq178_0, hq176_1, hqtk, hqx], rfl⟩, N86, by rw [e89]; exact F86⟩)
                  refine zJ X86 hx (hD 78 rfl) ((if0 _ _).trans (feq (by decide : ¬ ((1 : Int32) = 0))).1) ?_
                  refine zA X86 hx (hD 79 rfl) rfl rfl ?_
                  refine st87 _ ?_
                  refine zC X87 hx (hD 81 rfl) ?_
                  refine zN X87 hx (hD 82 rfl) (tlt ((ltN (i := 2) (by decide) (by omega)).mpr hqtk)).2.2.2 ?_
                  refine zA X87 hx (hD 83 rfl) rfl rfl ?_
                  refine st88 _ ?_
                  refine zC X88 hx (hD 85 rfl) ?_
                  refine ldRf X88 hx hZ86 e88 AK.1 rfl (i := 2) (by decide) (by decide) (v := .ref (kv 2)) (htok 2 (by omega)).1 (g := (mkF m 166 #[vR r, .unset, .unset] [(.int 2), (.ref ka)])) rfl rfl (hD 86 rfl) ?_
                  refine st89 _ ?_
                  refine Jvm.RoadKit.acmp (g := (mkF m 170 #[vR r, .unset, .unset] [(.ref xv), (.ref (kv 2))])) X89 hx rfl rfl rfl (pc0 := 170) (pc' := 173) (same := true) rfl (hD 88 rfl) rfl (decide_eq_true (congrArg Value.ref hqx)) (by decide) (by decide) ?_
                  refine zC X89 hx (hD 89 rfl) ?_
                  refine zG X89 hx 178 (hD 90 rfl) rfl ?_
                  refine zS X89 hx (hD 92 rfl) rfl ?_
                  refine zG X89 hx 184 (hD 93 rfl) rfl ?_
                  refine zL X89 hx (hD 96 rfl) rfl ?_
                  exact retN X89 hx (t := .boolean) Bd.returns (by simp) (hD 97 rfl) hr
                · refine zLw Bd (vm₁ := vm86) X89 hS86 (by rw [e89]; exact hk86) hZ86 hEL hh e89 CR86 (v := some (.int 0)) (by decide) nofun (fun fs hr => pq86 _ ?_) (by exact ⟨_, rfl, Or.inr ⟨by unfold etP; simp [EPd, hq164_0, hq145_0, hq168_0, hq170_0, hq178_0, hq176_1, hqtk, hqx], rfl⟩, N86, by rw [e89]; exact F86⟩)
                  refine zJ X86 hx (hD 78 rfl) ((if0 _ _).trans (feq (by decide : ¬ ((1 : Int32) = 0))).1) ?_
                  refine zA X86 hx (hD 79 rfl) rfl rfl ?_
                  refine st87 _ ?_
                  refine zC X87 hx (hD 81 rfl) ?_
                  refine zN X87 hx (hD 82 rfl) (tlt ((ltN (i := 2) (by decide) (by omega)).mpr hqtk)).2.2.2 ?_
                  refine zA X87 hx (hD 83 rfl) rfl rfl ?_
                  refine st88 _ ?_
                  refine zC X88 hx (hD 85 rfl) ?_
                  refine ldRf X88 hx hZ86 e88 AK.1 rfl (i := 2) (by decide) (by decide) (v := .ref (kv 2)) (htok 2 (by omega)).1 (g := (mkF m 166 #[vR r, .unset, .unset] [(.int 2), (.ref ka)])) rfl rfl (hD 86 rfl) ?_
                  refine st89 _ ?_
                  refine Jvm.RoadKit.acmp (g := (mkF m 170 #[vR r, .unset, .unset] [(.ref xv), (.ref (kv 2))])) X89 hx rfl rfl rfl (pc0 := 170) (pc' := 177) (same := false) rfl (hD 88 rfl) rfl (decide_eq_false fun q => hqx (Value.ref.inj q)) (by decide) (by decide) ?_
                  refine zC X89 hx (hD 91 rfl) ?_
                  refine zS X89 hx (hD 92 rfl) rfl ?_
                  refine zG X89 hx 184 (hD 93 rfl) rfl ?_
                  refine zL X89 hx (hD 96 rfl) rfl ?_
                  exact retN X89 hx (t := .boolean) Bd.returns (by simp) (hD 97 rfl) hr
              · refine zLw Bd (vm₁ := vm86) X87 hS86 (by rw [e87]; exact hk86) hZ86 hEL hh e87 CR86 (v := some (.int 0)) (by decide) nofun (fun fs hr => pq86 _ ?_) (by exact ⟨_, rfl, Or.inr ⟨by unfold etP; simp [EPd, hq164_0, hq145_0, hq168_0, hq170_0, hq178_0, hq176_1, hqtk], rfl⟩, N86, by rw [e87]; exact F86⟩)
                refine zJ X86 hx (hD 78 rfl) ((if0 _ _).trans (feq (by decide : ¬ ((1 : Int32) = 0))).1) ?_
                refine zA X86 hx (hD 79 rfl) rfl rfl ?_
                refine st87 _ ?_
                refine zC X87 hx (hD 81 rfl) ?_
                refine zM X87 hx 177 (hD 82 rfl) (flt (fun q => hqtk ((ltN (i := 2) (by decide) (by omega)).mp q))).2.2.2 rfl ?_
                refine zC X87 hx (hD 91 rfl) ?_
                refine zS X87 hx (hD 92 rfl) rfl ?_
                refine zG X87 hx 184 (hD 93 rfl) rfl ?_
                refine zL X87 hx (hD 96 rfl) rfl ?_
                exact retN X87 hx (t := .boolean) Bd.returns (by simp) (hD 97 rfl) hr
            · refine zLw Bd (vm₁ := vm86) X86 hS86 (by exact hk86) hZ86 hEL hh rfl CR86 (v := some (.int 0)) (by decide) nofun (fun fs hr => pq86 _ ?_) (by exact ⟨_, rfl, Or.inr ⟨by unfold etP; simp [EPd, hq164_0, hq145_0, hq168_0, hq170_0, hq178_0, hq176_1], rfl⟩, N86, F86⟩)
              refine zI X86 hx 177 (hD 78 rfl) ((if0 _ _).trans (teq (rfl : (0 : Int32) = 0)).1) rfl ?_
              refine zC X86 hx (hD 91 rfl) ?_
              refine zS X86 hx (hD 92 rfl) rfl ?_
              refine zG X86 hx 184 (hD 93 rfl) rfl ?_
              refine zL X86 hx (hD 96 rfl) rfl ?_
              exact retN X86 hx (t := .boolean) Bd.returns (by simp) (hD 97 rfl) hr
          · refine zLw Bd (vm₁ := vm85) X85 hS85 (by exact hk85) hZ85 hEL hh rfl CR85 (v := some (.int 0)) (by decide) nofun (fun fs hr => pq85 _ ?_) (by exact ⟨_, rfl, Or.inr ⟨by unfold etP; simp [EPd, hq164_0, hq145_0, hq168_0, hq170_0, hq178_0], rfl⟩, N85, F85⟩)
            refine zI X85 hx 182 (hD 73 rfl) ((if0 _ _).trans (teq (rfl : (0 : Int32) = 0)).1) rfl ?_
            refine zC X85 hx (hD 94 rfl) ?_
            refine zS X85 hx (hD 95 rfl) rfl ?_
            refine zL X85 hx (hD 96 rfl) rfl ?_
            exact retN X85 hx (t := .boolean) Bd.returns (by simp) (hD 97 rfl) hr
theorem AR.other {Z : State} {h h' : Heap} {a b : Addr} {C : String} {n sl : Nat} {f : Nat → Value} {v : Value} (F : AR Z h a C n f) (W : Wr h h' b sl v) (q : a ≠ b) : AR Z h' a C n f := by
  obtain ⟨A, cl, e1, O⟩ := F
  obtain ⟨d1, x1, x2, -⟩ := wr_at W e1
  exact ⟨A.other W q, d1, x1, by rw [x2]; exact O⟩
theorem AR.wr {Z : State} {h h' : Heap} {a : Addr} {C : String} {n i : Nat} {f : Nat → Value} {v : Value} (F : AR Z h a C n f) (W : Wr h h' a i v) : AR Z h' a C n (upd f i v) := by
  obtain ⟨A, cl, e1, O⟩ := F
  obtain ⟨d1, x1, x2, -⟩ := wr_at W e1
  exact ⟨A.wr W, d1, x1, by rw [x2]; exact O⟩
theorem Str.wrE {Z : State} {a0 : Array Value} {h h' : Heap} {o r : Addr} {n sl k : Nat} {g : Nat → Int32} {v : Value} {C : String} (S : Str Z h o n g) (E : Exa Z h r C) (hC : "java/lang/String" ≠ C) (wi : (Cond.instantiable C k).before a0 Z = true) (W : Wr h h' r sl v) : Str Z h' o n g := by
  obtain ⟨X, b, V, K, B⟩ := S
  have q1 : o ≠ r := X.ne E hC
  have q2 : b ≠ r := by obtain ⟨cl, Ar, -⟩ := id B; exact (ne_arr E wi Ar).symm
  exact ⟨X.wr W, b, V.other W (Or.inl q1), K.other W (Or.inl q1), B.other W q2⟩
theorem AF.neE {Z : State} {a0 : Array Value} {h : Heap} {a r : Addr} {n k : Nat} {ty : FieldType} {f : Nat → Value} {C : String} (A : AF Z h a ty n f) (E : Exa Z h r C) (wi : (Cond.instantiable C k).before a0 Z = true) : a ≠ r := by
  obtain ⟨cl, Ar, -⟩ := A
  exact (ne_arr E wi Ar).symm
theorem RS.w_at {Z : State} {a0 : Array Value} {h h' : Heap} {r o ka sa ea : Addr} {sc : Int32} {g : Nat → Int32} {a tk : Nat} {le eb : Int32} {kv : Nat → Addr} {sv ev : Nat → Nat} {a' : Nat} (S : RS Z h r o ka sa ea sc g a tk le eb kv sv ev) (hw : HW Z a0) (W : Wr h h' r (Jvm.RoadKit.slotOf Z "com/example/killdeer/killdeer/EndingStatements" "at" "I") (.int (Int32.ofNat a'))) : RS Z h' r o ka sa ea sc g a' tk le eb kv sv ev := by
  obtain ⟨⟨a1, a2, a3, a4, a5, a6, a7⟩, ⟨b1, b2, b3, b4, b5, b6⟩, ⟨kd, st, en, c1, c2, c3, c4⟩, d⟩ := S
  exact ⟨⟨a1.wr W, a2.other W (Or.inr (slot_ne (Or.inr (hwi hw 105 rfl)) (Or.inl (hwi hw 113 rfl)) (by decide) (t := (.object "java/lang/String")) (t' := .int) (by decide) (by decide))), a3.other W (Or.inr (slot_ne (Or.inr (hwi hw 107 rfl)) (Or.inl (hwi hw 113 rfl)) (by decide) (t := .boolean) (t' := .int) (by decide) (by decide))), a4.other W (Or.inr (slot_ne (Or.inr (hwi hw 99 rfl)) (Or.inl (hwi hw 113 rfl)) (by decide) (t := (.array (.object "com/example/killdeer/killdeer/EndingStatements$Token"))) (t' := .int) (by decide) (by decide))), a5.other W (Or.inr (slot_ne (Or.inr (hwi hw 101 rfl)) (Or.inl (hwi hw 113 rfl)) (by decide) (t := (.array .int)) (t' := .int) (by decide) (by decide))), a6.other W (Or.inr (slot_ne (Or.inr (hwi hw 103 rfl)) (Or.inl (hwi hw 113 rfl)) (by decide) (t := (.array .int)) (t' := .int) (by decide) (by decide))), a7.wrE a1 (by decide) (hwi hw 91 rfl) W⟩, ⟨b1.same W, b2.other W (Or.inr (slot_ne (Or.inl (hwi hw 155 rfl)) (Or.inl (hwi hw 113 rfl)) (by decide) (t := .int) (t' := .int) (by decide) (by decide))), b3.other W (Or.inr (slot_ne (Or.inl (hwi hw 160 rfl)) (Or.inl (hwi hw 113 rfl)) (by decide) (t := .boolean) (t' := .int) (by decide) (by decide))), b4.other W (Or.inr (slot_ne (Or.inl (hwi hw 158 rfl)) (Or.inl (hwi hw 113 rfl)) (by decide) (t := .int) (t' := .int) (by decide) (by decide))), b5.other W (Or.inr (slot_ne (Or.inl (hwi hw 171 rfl)) (Or.inl (hwi hw 113 rfl)) (by decide) (t := .boolean) (t' := .int) (by decide) (by decide))), b6.other W (Or.inr (slot_ne (Or.inl (hwi hw 187 rfl)) (Or.inl (hwi hw 113 rfl)) (by decide) (t := .boolean) (t' := .int) (by decide) (by decide)))⟩, ⟨kd, st, en, c1.other W (c1.1.neE a1 (hwi hw 91 rfl)), c2.other W (c2.neE a1 (hwi hw 91 rfl)), c3.other W (c3.neE a1 (hwi hw 91 rfl)), c4⟩, d⟩
theorem RS.w_tokensH {Z : State} {a0 : Array Value} {h h' : Heap} {r o ka sa ea : Addr} {sc : Int32} {g : Nat → Int32} {a tk : Nat} {le eb : Int32} {kv : Nat → Addr} {sv ev : Nat → Nat} {tk' : Nat} {kv' : Nat → Addr} {sv' ev' : Nat → Nat} (S : RS Z h r o ka sa ea sc g a tk le eb kv sv ev) (hw : HW Z a0) (W : Wr h h' r (Jvm.RoadKit.slotOf Z "com/example/killdeer/killdeer/EndingStatements" "tokens" "I") (.int (Int32.ofNat tk'))) (H : ∃ kd st en, AR Z h' ka "com/example/killdeer/killdeer/EndingStatements$Token" 3 kd ∧ AF Z h' sa .int 3 st ∧ AF Z h' ea .int 3 en ∧ ∀ i, i < min tk' 3 → kd i = .ref (kv' i) ∧ st i = .int (Int32.ofNat (sv' i)) ∧ en i = .int (Int32.ofNat (ev' i)) ∧ sv' i ≤ ev' i ∧ ev' i ≤ 56) : RS Z h' r o ka sa ea sc g a tk' le eb kv' sv' ev' := by
  obtain ⟨⟨a1, a2, a3, a4, a5, a6, a7⟩, ⟨b1, b2, b3, b4, b5, b6⟩, ⟨kd, st, en, c1, c2, c3, c4⟩, d⟩ := S
  exact ⟨⟨a1.wr W, a2.other W (Or.inr (slot_ne (Or.inr (hwi hw 105 rfl)) (Or.inl (hwi hw 155 rfl)) (by decide) (t := (.object "java/lang/String")) (t' := .int) (by decide) (by decide))), a3.other W (Or.inr (slot_ne (Or.inr (hwi hw 107 rfl)) (Or.inl (hwi hw 155 rfl)) (by decide) (t := .boolean) (t' := .int) (by decide) (by decide))), a4.other W (Or.inr (slot_ne (Or.inr (hwi hw 99 rfl)) (Or.inl (hwi hw 155 rfl)) (by decide) (t := (.array (.object "com/example/killdeer/killdeer/EndingStatements$Token"))) (t' := .int) (by decide) (by decide))), a5.other W (Or.inr (slot_ne (Or.inr (hwi hw 101 rfl)) (Or.inl (hwi hw 155 rfl)) (by decide) (t := (.array .int)) (t' := .int) (by decide) (by decide))), a6.other W (Or.inr (slot_ne (Or.inr (hwi hw 103 rfl)) (Or.inl (hwi hw 155 rfl)) (by decide) (t := (.array .int)) (t' := .int) (by decide) (by decide))), a7.wrE a1 (by decide) (hwi hw 91 rfl) W⟩, ⟨b1.other W (Or.inr (slot_ne (Or.inl (hwi hw 113 rfl)) (Or.inl (hwi hw 155 rfl)) (by decide) (t := .int) (t' := .int) (by decide) (by decide))), b2.same W, b3.other W (Or.inr (slot_ne (Or.inl (hwi hw 160 rfl)) (Or.inl (hwi hw 155 rfl)) (by decide) (t := .boolean) (t' := .int) (by decide) (by decide))), b4.other W (Or.inr (slot_ne (Or.inl (hwi hw 158 rfl)) (Or.inl (hwi hw 155 rfl)) (by decide) (t := .int) (t' := .int) (by decide) (by decide))), b5.other W (Or.inr (slot_ne (Or.inl (hwi hw 171 rfl)) (Or.inl (hwi hw 155 rfl)) (by decide) (t := .boolean) (t' := .int) (by decide) (by decide))), b6.other W (Or.inr (slot_ne (Or.inl (hwi hw 187 rfl)) (Or.inl (hwi hw 155 rfl)) (by decide) (t := .boolean) (t' := .int) (by decide) (by decide)))⟩, H, d⟩
theorem RS.w_tokens {Z : State} {a0 : Array Value} {h h' : Heap} {r o ka sa ea : Addr} {sc : Int32} {g : Nat → Int32} {a tk : Nat} {le eb : Int32} {kv : Nat → Addr} {sv ev : Nat → Nat} {tk' : Nat} (S : RS Z h r o ka sa ea sc g a tk le eb kv sv ev) (hw : HW Z a0) (W : Wr h h' r (Jvm.RoadKit.slotOf Z "com/example/killdeer/killdeer/EndingStatements" "tokens" "I") (.int (Int32.ofNat tk'))) (ht : min tk' 3 ≤ min tk 3) : RS Z h' r o ka sa ea sc g a tk' le eb kv sv ev := by
  obtain ⟨a1, -⟩ := id S.1
  obtain ⟨kd, st, en, c1, c2, c3, c4⟩ := id S.2.2.1
  exact S.w_tokensH hw W ⟨kd, st, en, c1.other W (c1.1.neE a1 (hwi hw 91 rfl)), c2.other W (c2.neE a1 (hwi hw 91 rfl)), c3.other W (c3.neE a1 (hwi hw 91 rfl)), fun i hi => c4 i (by omega)⟩
theorem RS.w_afterBegin {Z : State} {a0 : Array Value} {h h' : Heap} {r o ka sa ea : Addr} {sc : Int32} {g : Nat → Int32} {a tk : Nat} {le eb : Int32} {kv : Nat → Addr} {sv ev : Nat → Nat}  (S : RS Z h r o ka sa ea sc g a tk le eb kv sv ev) (hw : HW Z a0) (W : Wr h h' r (Jvm.RoadKit.slotOf Z "com/example/killdeer/killdeer/EndingStatements" "afterBegin" "Z") (.int 0)) : RS Z h' r o ka sa ea sc g a tk le eb kv sv ev := by
  obtain ⟨⟨a1, a2, a3, a4, a5, a6, a7⟩, ⟨b1, b2, b3, b4, b5, b6⟩, ⟨kd, st, en, c1, c2, c3, c4⟩, d⟩ := S
  exact ⟨⟨a1.wr W, a2.other W (Or.inr (slot_ne (Or.inr (hwi hw 105 rfl)) (Or.inl (hwi hw 160 rfl)) (by decide) (t := (.object "java/lang/String")) (t' := .boolean) (by decide) (by decide))), a3.other W (Or.inr (slot_ne (Or.inr (hwi hw 107 rfl)) (Or.inl (hwi hw 160 rfl)) (by decide) (t := .boolean) (t' := .boolean) (by decide) (by decide))), a4.other W (Or.inr (slot_ne (Or.inr (hwi hw 99 rfl)) (Or.inl (hwi hw 160 rfl)) (by decide) (t := (.array (.object "com/example/killdeer/killdeer/EndingStatements$Token"))) (t' := .boolean) (by decide) (by decide))), a5.other W (Or.inr (slot_ne (Or.inr (hwi hw 101 rfl)) (Or.inl (hwi hw 160 rfl)) (by decide) (t := (.array .int)) (t' := .boolean) (by decide) (by decide))), a6.other W (Or.inr (slot_ne (Or.inr (hwi hw 103 rfl)) (Or.inl (hwi hw 160 rfl)) (by decide) (t := (.array .int)) (t' := .boolean) (by decide) (by decide))), a7.wrE a1 (by decide) (hwi hw 91 rfl) W⟩, ⟨b1.other W (Or.inr (slot_ne (Or.inl (hwi hw 113 rfl)) (Or.inl (hwi hw 160 rfl)) (by decide) (t := .int) (t' := .boolean) (by decide) (by decide))), b2.other W (Or.inr (slot_ne (Or.inl (hwi hw 155 rfl)) (Or.inl (hwi hw 160 rfl)) (by decide) (t := .int) (t' := .boolean) (by decide) (by decide))), b3.same W, b4.other W (Or.inr (slot_ne (Or.inl (hwi hw 158 rfl)) (Or.inl (hwi hw 160 rfl)) (by decide) (t := .int) (t' := .boolean) (by decide) (by decide))), b5.other W (Or.inr (slot_ne (Or.inl (hwi hw 171 rfl)) (Or.inl (hwi hw 160 rfl)) (by decide) (t := .boolean) (t' := .boolean) (by decide) (by decide))), b6.other W (Or.inr (slot_ne (Or.inl (hwi hw 187 rfl)) (Or.inl (hwi hw 160 rfl)) (by decide) (t := .boolean) (t' := .boolean) (by decide) (by decide)))⟩, ⟨kd, st, en, c1.other W (c1.1.neE a1 (hwi hw 91 rfl)), c2.other W (c2.neE a1 (hwi hw 91 rfl)), c3.other W (c3.neE a1 (hwi hw 91 rfl)), c4⟩, d⟩
theorem RS.w_lastEnds {Z : State} {a0 : Array Value} {h h' : Heap} {r o ka sa ea : Addr} {sc : Int32} {g : Nat → Int32} {a tk : Nat} {le eb : Int32} {kv : Nat → Addr} {sv ev : Nat → Nat} {le' : Int32} (S : RS Z h r o ka sa ea sc g a tk le eb kv sv ev) (hw : HW Z a0) (W : Wr h h' r (Jvm.RoadKit.slotOf Z "com/example/killdeer/killdeer/EndingStatements" "lastEnds" "Z") (.int le')) : RS Z h' r o ka sa ea sc g a tk le' eb kv sv ev := by
  obtain ⟨⟨a1, a2, a3, a4, a5, a6, a7⟩, ⟨b1, b2, b3, b4, b5, b6⟩, ⟨kd, st, en, c1, c2, c3, c4⟩, d⟩ := S
  exact ⟨⟨a1.wr W, a2.other W (Or.inr (slot_ne (Or.inr (hwi hw 105 rfl)) (Or.inl (hwi hw 171 rfl)) (by decide) (t := (.object "java/lang/String")) (t' := .boolean) (by decide) (by decide))), a3.other W (Or.inr (slot_ne (Or.inr (hwi hw 107 rfl)) (Or.inl (hwi hw 171 rfl)) (by decide) (t := .boolean) (t' := .boolean) (by decide) (by decide))), a4.other W (Or.inr (slot_ne (Or.inr (hwi hw 99 rfl)) (Or.inl (hwi hw 171 rfl)) (by decide) (t := (.array (.object "com/example/killdeer/killdeer/EndingStatements$Token"))) (t' := .boolean) (by decide) (by decide))), a5.other W (Or.inr (slot_ne (Or.inr (hwi hw 101 rfl)) (Or.inl (hwi hw 171 rfl)) (by decide) (t := (.array .int)) (t' := .boolean) (by decide) (by decide))), a6.other W (Or.inr (slot_ne (Or.inr (hwi hw 103 rfl)) (Or.inl (hwi hw 171 rfl)) (by decide) (t := (.array .int)) (t' := .boolean) (by decide) (by decide))), a7.wrE a1 (by decide) (hwi hw 91 rfl) W⟩, ⟨b1.other W (Or.inr (slot_ne (Or.inl (hwi hw 113 rfl)) (Or.inl (hwi hw 171 rfl)) (by decide) (t := .int) (t' := .boolean) (by decide) (by decide))), b2.other W (Or.inr (slot_ne (Or.inl (hwi hw 155 rfl)) (Or.inl (hwi hw 171 rfl)) (by decide) (t := .int) (t' := .boolean) (by decide) (by decide))), b3.other W (Or.inr (slot_ne (Or.inl (hwi hw 160 rfl)) (Or.inl (hwi hw 171 rfl)) (by decide) (t := .boolean) (t' := .boolean) (by decide) (by decide))), b4.other W (Or.inr (slot_ne (Or.inl (hwi hw 158 rfl)) (Or.inl (hwi hw 171 rfl)) (by decide) (t := .int) (t' := .boolean) (by decide) (by decide))), b5.same W, b6.other W (Or.inr (slot_ne (Or.inl (hwi hw 187 rfl)) (Or.inl (hwi hw 171 rfl)) (by decide) (t := .boolean) (t' := .boolean) (by decide) (by decide)))⟩, ⟨kd, st, en, c1.other W (c1.1.neE a1 (hwi hw 91 rfl)), c2.other W (c2.neE a1 (hwi hw 91 rfl)), c3.other W (c3.neE a1 (hwi hw 91 rfl)), c4⟩, d⟩
theorem RS.w_endsBeforeAnother {Z : State} {a0 : Array Value} {h h' : Heap} {r o ka sa ea : Addr} {sc : Int32} {g : Nat → Int32} {a tk : Nat} {le eb : Int32} {kv : Nat → Addr} {sv ev : Nat → Nat} {eb' : Int32} (S : RS Z h r o ka sa ea sc g a tk le eb kv sv ev) (hw : HW Z a0) (W : Wr h h' r (Jvm.RoadKit.slotOf Z "com/example/killdeer/killdeer/EndingStatements" "endsBeforeAnother" "Z") (.int eb')) : RS Z h' r o ka sa ea sc g a tk le eb' kv sv ev := by
  obtain ⟨⟨a1, a2, a3, a4, a5, a6, a7⟩, ⟨b1, b2, b3, b4, b5, b6⟩, ⟨kd, st, en, c1, c2, c3, c4⟩, d⟩ := S
  exact ⟨⟨a1.wr W, a2.other W (Or.inr (slot_ne (Or.inr (hwi hw 105 rfl)) (Or.inl (hwi hw 187 rfl)) (by decide) (t := (.object "java/lang/String")) (t' := .boolean) (by decide) (by decide))), a3.other W (Or.inr (slot_ne (Or.inr (hwi hw 107 rfl)) (Or.inl (hwi hw 187 rfl)) (by decide) (t := .boolean) (t' := .boolean) (by decide) (by decide))), a4.other W (Or.inr (slot_ne (Or.inr (hwi hw 99 rfl)) (Or.inl (hwi hw 187 rfl)) (by decide) (t := (.array (.object "com/example/killdeer/killdeer/EndingStatements$Token"))) (t' := .boolean) (by decide) (by decide))), a5.other W (Or.inr (slot_ne (Or.inr (hwi hw 101 rfl)) (Or.inl (hwi hw 187 rfl)) (by decide) (t := (.array .int)) (t' := .boolean) (by decide) (by decide))), a6.other W (Or.inr (slot_ne (Or.inr (hwi hw 103 rfl)) (Or.inl (hwi hw 187 rfl)) (by decide) (t := (.array .int)) (t' := .boolean) (by decide) (by decide))), a7.wrE a1 (by decide) (hwi hw 91 rfl) W⟩, ⟨b1.other W (Or.inr (slot_ne (Or.inl (hwi hw 113 rfl)) (Or.inl (hwi hw 187 rfl)) (by decide) (t := .int) (t' := .boolean) (by decide) (by decide))), b2.other W (Or.inr (slot_ne (Or.inl (hwi hw 155 rfl)) (Or.inl (hwi hw 187 rfl)) (by decide) (t := .int) (t' := .boolean) (by decide) (by decide))), b3.other W (Or.inr (slot_ne (Or.inl (hwi hw 160 rfl)) (Or.inl (hwi hw 187 rfl)) (by decide) (t := .boolean) (t' := .boolean) (by decide) (by decide))), b4.other W (Or.inr (slot_ne (Or.inl (hwi hw 158 rfl)) (Or.inl (hwi hw 187 rfl)) (by decide) (t := .int) (t' := .boolean) (by decide) (by decide))), b5.other W (Or.inr (slot_ne (Or.inl (hwi hw 171 rfl)) (Or.inl (hwi hw 187 rfl)) (by decide) (t := .boolean) (t' := .boolean) (by decide) (by decide))), b6.same W⟩, ⟨kd, st, en, c1.other W (c1.1.neE a1 (hwi hw 91 rfl)), c2.other W (c2.neE a1 (hwi hw 91 rfl)), c3.other W (c3.neE a1 (hwi hw 91 rfl)), c4⟩, d⟩
def updG {α : Type} (f : Nat → α) (i : Nat) (v : α) : Nat → α := fun j => if j = i then v else f j
theorem AF.neT {Z : State} {h : Heap} {a b : Addr} {n m : Nat} {ty ty' : FieldType} {f f' : Nat → Value} (A : AF Z h a ty n f) (B : AF Z h b ty' m f') (hn : ty ≠ ty') : a ≠ b := fun e => by
  subst e
  obtain ⟨c1, A1, -⟩ := A
  obtain ⟨c2, B1, -⟩ := B
  cases A1.1.symm.trans B1.1
  obtain ⟨-, k1, e1, p1, q1⟩ := A1.2.1
  obtain ⟨-, k2, e2, p2, q2⟩ := B1.2.1
  cases e1.symm.trans e2
  have := q1.symm.trans q2
  injection this with _ z
  exact hn z
theorem Str.wrA {Z : State} {a0 : Array Value} {h h' : Heap} {o b : Addr} {n m k sl : Nat} {g : Nat → Int32} {ty : FieldType} {f : Nat → Value} {v : Value} (S : Str Z h o n g) (A : AF Z h b ty m f) (ht : FieldType.byte ≠ ty) (wi : (Cond.instantiable "java/lang/String" k).before a0 Z = true) (W : Wr h h' b sl v) : Str Z h' o n g := by
  obtain ⟨X, d, V, K, B⟩ := S
  have q1 : o ≠ b := by obtain ⟨cl, Ar, -⟩ := id A; exact ne_arr X wi Ar
  have q2 : d ≠ b := B.neT A ht
  exact ⟨X.wr W, d, V.other W (Or.inl q1), K.other W (Or.inl q1), B.other W q2⟩
theorem RS.tok {Z : State} {a0 : Array Value} {h : Heap} {r o ka sa ea : Addr} {sc : Int32} {g : Nat → Int32} {a tk : Nat} {le eb : Int32} {kv : Nat → Addr} {sv ev : Nat → Nat} {h1 h2 h3 h4 : Heap} {y : Addr} {s1 e1 : Nat} (S : RS Z h r o ka sa ea sc g a tk le eb kv sv ev) (hw : HW Z a0) (htk : tk < 3) (W1 : Wr h h1 ka tk (.ref y)) (W2 : Wr h1 h2 sa tk (.int (Int32.ofNat s1))) (W3 : Wr h2 h3 ea tk (.int (Int32.ofNat e1))) (hse : s1 ≤ e1 ∧ e1 ≤ 56) (W4 : Wr h3 h4 r (Jvm.RoadKit.slotOf Z "com/example/killdeer/killdeer/EndingStatements" "tokens" "I") (.int (Int32.ofNat (tk + 1)))) :
    RS Z h4 r o ka sa ea sc g a (tk + 1) le eb (updG kv tk y) (updG sv tk s1) (updG ev tk e1) := by
  obtain ⟨⟨a1, a2, a3, a4, a5, a6, a7⟩, ⟨b1, b2, b3, b4, b5, b6⟩, ⟨kd, st, en, c1, c2, c3, c4⟩, d⟩ := S
  have n1 := c1.1.neE a1 (hwi hw 91 rfl)
  have n2 := c2.neE a1 (hwi hw 91 rfl)
  have n3 := c3.neE a1 (hwi hw 91 rfl)
  have m12 : sa ≠ ka := c2.neT c1.1 (by decide)
  have m13 : ea ≠ ka := c3.neT c1.1 (by decide)
  have F : ∀ {C n d : String} {v : Value}, Fld Z h r C n d v → Fld Z h3 r C n d v := fun f => ((f.other W1 (Or.inl n1.symm)).other W2 (Or.inl n2.symm)).other W3 (Or.inl n3.symm)
  have x1 := c1.wr W1
  have x2 := (c2.other W1 m12).wr W2
  have y1 := x1.other W2 m12.symm
  have y3 := (c3.other W1 m13).other W2 (Ne.symm d)
  have z1 := y1.other W3 m13.symm
  have z2 := x2.other W3 d
  have z3 := y3.wr W3
  have e3 := ((a1.wr W1).wr W2).wr W3
  have a7' := ((a7.wrA c1.1 (by decide) (hwi hw 10 rfl) W1).wrA (c2.other W1 m12) (by decide) (hwi hw 10 rfl) W2).wrA y3 (by decide) (hwi hw 10 rfl) W3
  have S3 : RS Z h3 r o ka sa ea sc g a tk le eb kv sv ev := ⟨⟨e3, F a2, F a3, F a4, F a5, F a6, a7'⟩, ⟨F b1, F b2, F b3, F b4, F b5, F b6⟩, ⟨_, _, _, z1, z2, z3, fun i hi => by
    have q : i ≠ tk := by omega
    unfold upd
    rw [if_neg q, if_neg q, if_neg q]
    exact c4 i hi⟩, d⟩
  refine S3.w_tokensH hw W4 ⟨_, _, _, z1.other W4 (z1.1.neE e3 (hwi hw 91 rfl)), z2.other W4 (z2.neE e3 (hwi hw 91 rfl)), z3.other W4 (z3.neE e3 (hwi hw 91 rfl)), fun i hi => ?_⟩
  unfold upd updG
  by_cases q : i = tk
  · rw [if_pos q, if_pos q, if_pos q, if_pos q, if_pos q, if_pos q]
    exact ⟨rfl, rfl, rfl, hse⟩
  · rw [if_neg q, if_neg q, if_neg q, if_neg q, if_neg q, if_neg q]
    exact c4 i (by omega)
def QRS (Z : State) (ws : List Addr) (r o ka sa ea : Addr) (sc : Int32) (g : Nat → Int32) (a tk : Nat) (P : Int32 → Int32 → Prop) (kv : Nat → Addr) (sv ev : Nat → Nat) (h0 : Heap) (n0 : Nat) (v : Option Value) (h : Heap) (L : List Loc) : Prop := v = none ∧ Fr n0 L ∧ Keep h0 h ws ∧ ∃ le eb, P le eb ∧ RS Z h r o ka sa ea sc g a tk le eb kv sv ev
def D32 : List (Nat × Instr × Nat) := [(0, .aload_n 0, 1), (1, .getfield 136, 3), (4, .ifCond .le 23, 3), (7, .aload_n 0, 1), (8, .getfield 45, 3), (11, .ifCond .eq 8, 3), (14, .aload_n 0, 1), (15, .iconst 1, 1), (16, .putfield 36, 3), (19, .aload_n 0, 1), (20, .aload_n 0, 1), (21, .invokevirtual 160, 3), (24, .putfield 45, 3), (27, .aload_n 0, 1), (28, .iconst 0, 1), (29, .putfield 136, 3), (32, .aload_n 0, 1), (33, .iconst 0, 1), (34, .putfield 147, 3), (37, .return_, 1)]
theorem d32 : ∀ x ∈ D32, decode prog_11_method_6_code x.1 = .ok x.2 := by decide +kernel
theorem pn_32 : plainName "com/example/killdeer/killdeer/EndingStatements" = true := by first | (simp [plainName, overriddenIn]; done) | decide +kernel
theorem ef_32 (m : MethodId) (x0 : Addr) : entryFrame m #[(.ref x0)] 1 = mkF m 0 #[.val (.ref x0)] [] := by first | (simp [entryFrame, mkF, argsToLocals, Value.category]; done) | rfl
theorem rmES0 (hw : HW Z a0) (ws : List Jvm.Cond) (r o ka sa ea : Addr) (sc : Int32) (g : Nat → Int32) (a : Nat) (le eb : Int32) (kv : Nat → Addr) (sv ev : Nat → Nat)  (h0 : Heap) (n0 : Nat) (Z0 : n0 ≤ h0.size) (O : Old Z n0 h0) (SK : StrSta Z) (hEL : EW Z a0 EL1) (RS0 : RS Z h0 r o ka sa ea sc g a 0 le eb kv sv ev) (g_r : n0 ≤ r)  :
    MH l Z (⟨"com/example/killdeer/killdeer/EndingStatements", "endStatement", "()V"⟩ : MethodName) prog_11_method_6_code 1 none ws (rM 7 140 0 0) #[(.ref r)] h0 (QRS Z [r] r o ka sa ea sc g a 0 (fun le' eb' => le' = le ∧ eb' = eb) kv sv ev h0 n0) := by
  refine zBodyH pn_32 (fun m => ef_32 m r) ?_
  intro p e s m below meth c s₁ Bd hx hby hml hown hZ hh X0 e0 pre0 CH0
  have hD := dk hby d32
  have N0 := Fr.nil n0
  obtain ⟨T86, X86, e86, st86⟩ := zF X0 hx hZ hown (hwi hw 154 rfl) e0 RS0.2.1.2.1 1 #[vR r] [] (hD 1 rfl)
  obtain ⟨T87, h87, X87, e87, W87, st87⟩ := putF X86 hx hZ hown (host := "") (Or.inl (hwi hw 154 rfl)) Via.refl e86 RS0.2.1.2.1 RS0.1.1 (Or.inl (hwi hw 155 rfl)) (hwi hw 91 rfl) (ty := .int) (by decide) rfl rfl (g := (mkF m 29 #[vR r] [(.int 0), (.ref r)])) rfl rfl (hD 15 rfl)
  have R87 := RS0.w_tokens (tk' := 0) hw W87 (by omega)
  have N87 := Fr.snoc X87 N0 g_r
  have K87 := (Keep.refl h0 [r]).wr W87 (Or.inl (List.mem_of_getElem? (i := 0) rfl))
  have Z87 := Nat.le_trans Z0 (Keep.of_wr W87).1
  have CR87 := (CHr.refl CH0).trans (CHr.wr W87 (Safe.exa hZ.alike RS0.1.1 (by decide) (by decide)) (CHr.refl CH0).1)
  have O87 := O.wr W87 g_r
  obtain ⟨T88, h88, X88, e88, W88, st88⟩ := putFN X87 hx hZ hown (hwi hw 159 rfl) Via.refl e87 R87.2.1.2.2.1 R87.1.1 (Or.inl (hwi hw 160 rfl)) (hwi hw 91 rfl) (ty := .boolean) (v' := (.int 0)) (by decide) rfl (by decide) (g := (mkF m 34 #[vR r] [(.int 0), (.ref r)])) rfl rfl (hD 18 rfl)
  have R88 := R87.w_afterBegin hw W88
  have N88 := Fr.snoc X88 N87 g_r
  have K88 := K87.wr W88 (Or.inl (List.mem_of_getElem? (i := 0) rfl))
  have Z88 := Nat.le_trans Z87 (Keep.of_wr W88).1
  have CR88 := CR87.trans (CHr.wr W88 (Safe.exa hZ.alike R87.1.1 (by decide) (by decide)) CR87.1)
  have O88 := O87.wr W88 g_r
  refine zLw Bd (vm₁ := s.vm) X88 ((State.WarmedH.refl s).since 0) (by rw [e88]; exact (Nat.zero_le _)) hZ hEL hh e88 CR88 (v := none) (by decide) (fun _ => rfl) (fun fs hr => pre0 _ ?_) (by exact ⟨rfl, N88, by rw [e88]; exact K88, le, eb, ⟨rfl, rfl⟩, by rw [e88]; exact R88⟩)
  refine zA X0 hx (hD 0 rfl) rfl rfl ?_
  refine st86 _ ?_
  show Steps p.tables e below (T86.setTop (mkF m 4 #[vR r] [(.int 0)])) _
  refine zI X86 hx 27 (hD 2 rfl) ((if0 _ _).trans (flt (by decide : ¬ ((0 : Int32) < (0 : Int32)))).2.2.2) rfl ?_
  refine zA X86 hx (hD 13 rfl) rfl rfl ?_
  refine zC X86 hx (hD 14 rfl) ?_
  refine st87 _ ?_
  refine zA X87 hx (hD 16 rfl) rfl rfl ?_
  refine zC X87 hx (hD 17 rfl) ?_
  refine st88 _ ?_
  show Steps p.tables e below (T88.setTop (mkF m 37 #[vR r] [])) _
  exact X88.returnOut hx Bd.returns (hD 19 rfl) hr
theorem rmES10 (hw : HW Z a0) (ws : List Jvm.Cond) (r o ka sa ea : Addr) (sc : Int32) (g : Nat → Int32) (a tk : Nat) (eb : Int32) (kv : Nat → Addr) (sv ev : Nat → Nat) (wv xv : Addr)  (h0 : Heap) (n0 : Nat) (Z0 : n0 ≤ h0.size) (hpos : 0 < tk) (htk : tk < 1000) (O : Old Z n0 h0) (SK : StrSta Z) (hEL : EW Z a0 EL1) (hgB : allB g) (hWD : Sta Z Z.heap "com/example/killdeer/killdeer/EndingStatements$Token" "WORD" "Lcom/example/killdeer/killdeer/EndingStatements$Token;" (.ref wv)) (hXD : Sta Z Z.heap "com/example/killdeer/killdeer/EndingStatements$Token" "STRING" "Lcom/example/killdeer/killdeer/EndingStatements$Token;" (.ref xv)) (RS0 : RS Z h0 r o ka sa ea sc g a tk (0 : Int32) eb kv sv ev) (g_r : n0 ≤ r)  :
    MH l Z (⟨"com/example/killdeer/killdeer/EndingStatements", "endStatement", "()V"⟩ : MethodName) prog_11_method_6_code 1 none ws (rM 7 140 18 400) #[(.ref r)] h0 (QRS Z [r] r o ka sa ea sc g a 0 (fun le' eb' => ((etP wv xv g tk kv sv ev ∧ le' = 1) ∨ (¬ etP wv xv g tk kv sv ev ∧ le' = 0)) ∧ eb' = eb) kv sv ev h0 n0) := by
  refine zBodyH pn_32 (fun m => ef_32 m r) ?_
  intro p e s m below meth c s₁ Bd hx hby hml hown hZ hh X0 e0 pre0 CH0
  have hD := dk hby d32
  have N0 := Fr.nil n0
  obtain ⟨T89, X89, e89, st89⟩ := zF X0 hx hZ hown (hwi hw 154 rfl) e0 RS0.2.1.2.1 1 #[vR r] [] (hD 1 rfl)
  obtain ⟨T90, X90, e90, st90⟩ := zF X89 hx hZ hown (hwi hw 170 rfl) e89 RS0.2.1.2.2.2.2.1 8 #[vR r] [] (hD 4 rfl)
  have ERz := RS0.1.1
  obtain ⟨cq91, kq91, q91a, q91b, q91c⟩ := isOf hZ e90 ERz
  obtain ⟨_, _, ⟨T91, L91, k91, n91⟩, -, X91, hS291, hg91, ⟨Lc91, hQ91, l91, y91, z91, C91⟩, st91⟩ := X90.virtualBackS hx hown (mvT hZ (hwi hw 172 rfl)) (mvT hZ (declOf (hwi hw 173 rfl) (hwi hw 175 rfl))) (notFace_of_selects (args := #[]) (mvT hZ (selOf (hwi hw 173 rfl) (hwi hw 174 rfl) (hwi hw 91 rfl) (by decide)))) (mvT hZ (selOf (hwi hw 173 rfl) (hwi hw 174 rfl) (hwi hw 91 rfl) (by decide))) (mvT hZ (hwi hw 173 rfl)) (by decide) (backOfSH (s := s) (vm0 := s.vm) (EL := EL1) (W := 1) (rmET l Z a0 hw [] r o ka sa ea sc g a tk (0 : Int32) eb kv sv ev wv xv h0 n0 Z0 htk O SK RS0 hgB hEL hWD hXD) hZ (hwi hw 175 rfl) (hwi hw 88 rfl) (by decide) (by decide) hEL CH0) q91a q91c (g := (mkF m 21 #[vR r] [(.ref r), (.ref r)])) rfl (by rw [hml]; rfl) (Steps.refl _) (argsL := []) (rest := [(.ref r)]) (lenOf pd_6 rfl) rfl (by show 2 * 0 + _ ≤ _; exact Nat.le_of_eq rfl) (hD 11 rfl) (fun _ _ => ⟨rfl, e90, (by decide : 0 + 18 ≤ _), (by decide : 0 + 400 ≤ _)⟩)
  dsimp only [Pt.U, Pt.locs, Pt.cells, Pt.slots] at X91 l91 y91 z91 st91 hQ91 hS291 hg91 C91
  obtain rfl : k91 = 18 := y91; obtain rfl : n91 = 400 := z91
  obtain ⟨z91, rfl, hz91, N91q, F91⟩ := hQ91
  have N91 : Fr n0 L91 := by rw [l91]; exact Fr.app N0 N91q
  have CR91 := (CHr.refl CH0).trans C91
  have hS91 := foldS ((State.WarmedH.refl s).since 0) (by rw [e90]; exact (Nat.zero_le _)) hS291 hg91
  have hZ91 : Z.Warmed39 (s.setVm T91.vm).vm := State.Warmed39.trans hZ hS291.1
  have hown91 := ownS (s := s) hS291.1 hown
  have R91 := RS0.ext F91
  have K91 := (Keep.refl h0 [r]).ext F91
  have Z91 := Nat.le_trans Z0 F91.1
  have O91 := O.ext F91
  rcases hz91 with ⟨hP, rfl⟩ | ⟨hP, rfl⟩
  · obtain ⟨T92, h92, X92, e92, W92, st92⟩ := putFN X91 hx hZ91 hown91 (hwi hw 170 rfl) Via.refl rfl R91.2.1.2.2.2.2.1 R91.1.1 (Or.inl (hwi hw 171 rfl)) (hwi hw 91 rfl) (ty := .boolean) (v' := (.int 1)) (by decide) rfl (by decide) (g := (mkF m 24 #[vR r] [(.int 1), (.ref r)])) rfl rfl (hD 12 rfl)
    have R92 := R91.w_lastEnds hw W92
    have N92 := Fr.snoc X92 N91 g_r
    have K92 := K91.wr W92 (Or.inl (List.mem_of_getElem? (i := 0) rfl))
    have Z92 := Nat.le_trans Z91 (Keep.of_wr W92).1
    have CR92 := CR91.trans (CHr.wr W92 (Safe.exa hZ91.alike R91.1.1 (by decide) (by decide)) CR91.1)
    have hk92 := Nat.le_trans (Nat.le_refl _) (Keep.of_wr W92).1
    have O92 := O91.wr W92 g_r
    obtain ⟨T93, h93, X93, e93, W93, st93⟩ := putF X92 hx hZ91 hown91 (host := "") (Or.inl (hwi hw 154 rfl)) Via.refl e92 R92.2.1.2.1 R92.1.1 (Or.inl (hwi hw 155 rfl)) (hwi hw 91 rfl) (ty := .int) (by decide) rfl rfl (g := (mkF m 29 #[vR r] [(.int 0), (.ref r)])) rfl rfl (hD 15 rfl)
    have R93 := R92.w_tokens (tk' := 0) hw W93 (by omega)
    have N93 := Fr.snoc X93 N92 g_r
    have K93 := K92.wr W93 (Or.inl (List.mem_of_getElem? (i := 0) rfl))
    have Z93 := Nat.le_trans Z92 (Keep.of_wr W93).1
    have CR93 := CR92.trans (CHr.wr W93 (Safe.exa hZ91.alike R92.1.1 (by decide) (by decide)) CR92.1)
    have hk93 := Nat.le_trans hk92 (Keep.of_wr W93).1
    have O93 := O92.wr W93 g_r
    obtain ⟨T94, h94, X94, e94, W94, st94⟩ := putFN X93 hx hZ91 hown91 (hwi hw 159 rfl) Via.refl e93 R93.2.1.2.2.1 R93.1.1 (Or.inl (hwi hw 160 rfl)) (hwi hw 91 rfl) (ty := .boolean) (v' := (.int 0)) (by decide) rfl (by decide) (g := (mkF m 34 #[vR r] [(.int 0), (.ref r)])) rfl rfl (hD 18 rfl)
    have R94 := R93.w_afterBegin hw W94
    have N94 := Fr.snoc X94 N93 g_r
    have K94 := K93.wr W94 (Or.inl (List.mem_of_getElem? (i := 0) rfl))
    have Z94 := Nat.le_trans Z93 (Keep.of_wr W94).1
    have CR94 := CR93.trans (CHr.wr W94 (Safe.exa hZ91.alike R93.1.1 (by decide) (by decide)) CR93.1)
    have hk94 := Nat.le_trans hk93 (Keep.of_wr W94).1
    have O94 := O93.wr W94 g_r
    refine zLw Bd (vm₁ := T91.vm) X94 hS91 (by rw [e94]; exact hk94) hZ91 hEL hh e94 CR94 (v := none) (by decide) (fun _ => rfl) (fun fs hr => pre0 _ ?_) (by exact ⟨rfl, N94, by rw [e94]; exact K94, _, _, ⟨Or.inl ⟨hP, rfl⟩, rfl⟩, by rw [e94]; exact R94⟩)
    refine zA X0 hx (hD 0 rfl) rfl rfl ?_
    refine st89 _ ?_
    refine zJ X89 hx (hD 2 rfl) ((if0 _ _).trans (tlt ((ltN (i := 0) (by decide) (by omega)).mpr hpos)).2.2.2) ?_
    refine zA X89 hx (hD 3 rfl) rfl rfl ?_
    refine st90 _ ?_
    refine zI X90 hx 19 (hD 5 rfl) ((if0 _ _).trans (teq (rfl : (0 : Int32) = 0)).1) rfl ?_
    refine zA X90 hx (hD 9 rfl) rfl rfl ?_
    refine zA X90 hx (hD 10 rfl) rfl rfl ?_
    refine st91.trans ?_
    refine st92 _ ?_
    refine zA X92 hx (hD 13 rfl) rfl rfl ?_
    refine zC X92 hx (hD 14 rfl) ?_
    refine st93 _ ?_
    refine zA X93 hx (hD 16 rfl) rfl rfl ?_
    refine zC X93 hx (hD 17 rfl) ?_
    refine st94 _ ?_
    show Steps p.tables e below (T94.setTop (mkF m 37 #[vR r] [])) _
    exact X94.returnOut hx Bd.returns (hD 19 rfl) hr
  · obtain ⟨T92, h92, X92, e92, W92, st92⟩ := putFN X91 hx hZ91 hown91 (hwi hw 170 rfl) Via.refl rfl R91.2.1.2.2.2.2.1 R91.1.1 (Or.inl (hwi hw 171 rfl)) (hwi hw 91 rfl) (ty := .boolean) (v' := (.int 0)) (by decide) rfl (by decide) (g := (mkF m 24 #[vR r] [(.int 0), (.ref r)])) rfl rfl (hD 12 rfl)
    have R92 := R91.w_lastEnds hw W92
    have N92 := Fr.snoc X92 N91 g_r
    have K92 := K91.wr W92 (Or.inl (List.mem_of_getElem? (i := 0) rfl))
    have Z92 := Nat.le_trans Z91 (Keep.of_wr W92).1
    have CR92 := CR91.trans (CHr.wr W92 (Safe.exa hZ91.alike R91.1.1 (by decide) (by decide)) CR91.1)
    have hk92 := Nat.le_trans (Nat.le_refl _) (Keep.of_wr W92).1
    have O92 := O91.wr W92 g_r
    obtain ⟨T93, h93, X93, e93, W93, st93⟩ := putF X92 hx hZ91 hown91 (host := "") (Or.inl (hwi hw 154 rfl)) Via.refl e92 R92.2.1.2.1 R92.1.1 (Or.inl (hwi hw 155 rfl)) (hwi hw 91 rfl) (ty := .int) (by decide) rfl rfl (g := (mkF m 29 #[vR r] [(.int 0), (.ref r)])) rfl rfl (hD 15 rfl)
    have R93 := R92.w_tokens (tk' := 0) hw W93 (by omega)
    have N93 := Fr.snoc X93 N92 g_r
    have K93 := K92.wr W93 (Or.inl (List.mem_of_getElem? (i := 0) rfl))
    have Z93 := Nat.le_trans Z92 (Keep.of_wr W93).1
    have CR93 := CR92.trans (CHr.wr W93 (Safe.exa hZ91.alike R92.1.1 (by decide) (by decide)) CR92.1)
    have hk93 := Nat.le_trans hk92 (Keep.of_wr W93).1
    have O93 := O92.wr W93 g_r
    obtain ⟨T94, h94, X94, e94, W94, st94⟩ := putFN X93 hx hZ91 hown91 (hwi hw 159 rfl) Via.refl e93 R93.2.1.2.2.1 R93.1.1 (Or.inl (hwi hw 160 rfl)) (hwi hw 91 rfl) (ty := .boolean) (v' := (.int 0)) (by decide) rfl (by decide) (g := (mkF m 34 #[vR r] [(.int 0), (.ref r)])) rfl rfl (hD 18 rfl)
    have R94 := R93.w_afterBegin hw W94
    have N94 := Fr.snoc X94 N93 g_r
    have K94 := K93.wr W94 (Or.inl (List.mem_of_getElem? (i := 0) rfl))
    have Z94 := Nat.le_trans Z93 (Keep.of_wr W94).1
    have CR94 := CR93.trans (CHr.wr W94 (Safe.exa hZ91.alike R93.1.1 (by decide) (by decide)) CR93.1)
    have hk94 := Nat.le_trans hk93 (Keep.of_wr W94).1
    have O94 := O93.wr W94 g_r
    refine zLw Bd (vm₁ := T91.vm) X94 hS91 (by rw [e94]; exact hk94) hZ91 hEL hh e94 CR94 (v := none) (by decide) (fun _ => rfl) (fun fs hr => pre0 _ ?_) (by exact ⟨rfl, N94, by rw [e94]; exact K94, _, _, ⟨Or.inr ⟨hP, rfl⟩, rfl⟩, by rw [e94]; exact R94⟩)
    refine zA X0 hx (hD 0 rfl) rfl rfl ?_
    refine st89 _ ?_
    refine zJ X89 hx (hD 2 rfl) ((if0 _ _).trans (tlt ((ltN (i := 0) (by decide) (by omega)).mpr hpos)).2.2.2) ?_
    refine zA X89 hx (hD 3 rfl) rfl rfl ?_
    refine st90 _ ?_
    refine zI X90 hx 19 (hD 5 rfl) ((if0 _ _).trans (teq (rfl : (0 : Int32) = 0)).1) rfl ?_
    refine zA X90 hx (hD 9 rfl) rfl rfl ?_
    refine zA X90 hx (hD 10 rfl) rfl rfl ?_
    refine st91.trans ?_
    refine st92 _ ?_
    refine zA X92 hx (hD 13 rfl) rfl rfl ?_
    refine zC X92 hx (hD 14 rfl) ?_
    refine st93 _ ?_
    refine zA X93 hx (hD 16 rfl) rfl rfl ?_
    refine zC X93 hx (hD 17 rfl) ?_
    refine st94 _ ?_
    show Steps p.tables e below (T94.setTop (mkF m 37 #[vR r] [])) _
    exact X94.returnOut hx Bd.returns (hD 19 rfl) hr
theorem rmES11 (hw : HW Z a0) (ws : List Jvm.Cond) (r o ka sa ea : Addr) (sc : Int32) (g : Nat → Int32) (a tk : Nat) (eb : Int32) (kv : Nat → Addr) (sv ev : Nat → Nat) (wv xv : Addr)  (h0 : Heap) (n0 : Nat) (Z0 : n0 ≤ h0.size) (hpos : 0 < tk) (htk : tk < 1000) (O : Old Z n0 h0) (SK : StrSta Z) (hEL : EW Z a0 EL1) (hgB : allB g) (hWD : Sta Z Z.heap "com/example/killdeer/killdeer/EndingStatements$Token" "WORD" "Lcom/example/killdeer/killdeer/EndingStatements$Token;" (.ref wv)) (hXD : Sta Z Z.heap "com/example/killdeer/killdeer/EndingStatements$Token" "STRING" "Lcom/example/killdeer/killdeer/EndingStatements$Token;" (.ref xv)) (RS0 : RS Z h0 r o ka sa ea sc g a tk (1 : Int32) eb kv sv ev) (g_r : n0 ≤ r)  :
    MH l Z (⟨"com/example/killdeer/killdeer/EndingStatements", "endStatement", "()V"⟩ : MethodName) prog_11_method_6_code 1 none ws (rM 7 140 18 400) #[(.ref r)] h0 (QRS Z [r] r o ka sa ea sc g a 0 (fun le' eb' => ((etP wv xv g tk kv sv ev ∧ le' = 1) ∨ (¬ etP wv xv g tk kv sv ev ∧ le' = 0)) ∧ eb' = 1) kv sv ev h0 n0) := by
  refine zBodyH pn_32 (fun m => ef_32 m r) ?_
  intro p e s m below meth c s₁ Bd hx hby hml hown hZ hh X0 e0 pre0 CH0
  have hD := dk hby d32
  have N0 := Fr.nil n0
  obtain ⟨T95, X95, e95, st95⟩ := zF X0 hx hZ hown (hwi hw 154 rfl) e0 RS0.2.1.2.1 1 #[vR r] [] (hD 1 rfl)
  obtain ⟨T96, X96, e96, st96⟩ := zF X95 hx hZ hown (hwi hw 170 rfl) e95 RS0.2.1.2.2.2.2.1 8 #[vR r] [] (hD 4 rfl)
  obtain ⟨T97, h97, X97, e97, W97, st97⟩ := putFN X96 hx hZ hown (hwi hw 186 rfl) Via.refl e96 RS0.2.1.2.2.2.2.2 RS0.1.1 (Or.inl (hwi hw 187 rfl)) (hwi hw 91 rfl) (ty := .boolean) (v' := (.int 1)) (by decide) rfl (by decide) (g := (mkF m 16 #[vR r] [(.int 1), (.ref r)])) rfl rfl (hD 8 rfl)
  have R97 := RS0.w_endsBeforeAnother hw W97
  have N97 := Fr.snoc X97 N0 g_r
  have K97 := (Keep.refl h0 [r]).wr W97 (Or.inl (List.mem_of_getElem? (i := 0) rfl))
  have Z97 := Nat.le_trans Z0 (Keep.of_wr W97).1
  have CR97 := (CHr.refl CH0).trans (CHr.wr W97 (Safe.exa hZ.alike RS0.1.1 (by decide) (by decide)) (CHr.refl CH0).1)
  have O97 := O.wr W97 g_r
  have ERz := R97.1.1
  obtain ⟨cq98, kq98, q98a, q98b, q98c⟩ := isOf hZ e97 ERz
  obtain ⟨_, _, ⟨T98, L98, k98, n98⟩, -, X98, hS298, hg98, ⟨Lc98, hQ98, l98, y98, z98, C98⟩, st98⟩ := X97.virtualBackS hx hown (mvT hZ (hwi hw 172 rfl)) (mvT hZ (declOf (hwi hw 173 rfl) (hwi hw 175 rfl))) (notFace_of_selects (args := #[]) (mvT hZ (selOf (hwi hw 173 rfl) (hwi hw 174 rfl) (hwi hw 91 rfl) (by decide)))) (mvT hZ (selOf (hwi hw 173 rfl) (hwi hw 174 rfl) (hwi hw 91 rfl) (by decide))) (mvT hZ (hwi hw 173 rfl)) (by decide) (backOfSH (s := s) (vm0 := s.vm) (EL := EL1) (W := 1) (rmET l Z a0 hw [] r o ka sa ea sc g a tk (1 : Int32) (1 : Int32) kv sv ev wv xv h97 n0 Z97 htk O97 SK R97 hgB hEL hWD hXD) hZ (hwi hw 175 rfl) (hwi hw 88 rfl) (by decide) (by decide) hEL CR97.1) q98a q98c (g := (mkF m 21 #[vR r] [(.ref r), (.ref r)])) rfl (by rw [hml]; rfl) (Steps.refl _) (argsL := []) (rest := [(.ref r)]) (lenOf pd_6 rfl) rfl (by show 2 * 0 + _ ≤ _; exact Nat.le_of_eq rfl) (hD 11 rfl) (fun _ _ => ⟨rfl, e97, (by decide : 0 + 18 ≤ _), (by decide : 0 + 400 ≤ _)⟩)
  dsimp only [Pt.U, Pt.locs, Pt.cells, Pt.slots] at X98 l98 y98 z98 st98 hQ98 hS298 hg98 C98
  obtain rfl : k98 = 18 := y98; obtain rfl : n98 = 400 := z98
  obtain ⟨z98, rfl, hz98, N98q, F98⟩ := hQ98
  have N98 : Fr n0 L98 := by rw [l98]; exact Fr.app N97 N98q
  have CR98 := CR97.trans C98
  have hS98 := foldS ((State.WarmedH.refl s).since 0) (by rw [e97]; exact (Nat.zero_le _)) hS298 hg98
  have hZ98 : Z.Warmed39 (s.setVm T98.vm).vm := State.Warmed39.trans hZ hS298.1
  have hown98 := ownS (s := s) hS298.1 hown
  have R98 := R97.ext F98
  have K98 := K97.ext F98
  have Z98 := Nat.le_trans Z97 F98.1
  have O98 := O97.ext F98
  rcases hz98 with ⟨hP, rfl⟩ | ⟨hP, rfl⟩
  · obtain ⟨T99, h99, X99, e99, W99, st99⟩ := putFN X98 hx hZ98 hown98 (hwi hw 170 rfl) Via.refl rfl R98.2.1.2.2.2.2.1 R98.1.1 (Or.inl (hwi hw 171 rfl)) (hwi hw 91 rfl) (ty := .boolean) (v' := (.int 1)) (by decide) rfl (by decide) (g := (mkF m 24 #[vR r] [(.int 1), (.ref r)])) rfl rfl (hD 12 rfl)
    have R99 := R98.w_lastEnds hw W99
    have N99 := Fr.snoc X99 N98 g_r
    have K99 := K98.wr W99 (Or.inl (List.mem_of_getElem? (i := 0) rfl))
    have Z99 := Nat.le_trans Z98 (Keep.of_wr W99).1
    have CR99 := CR98.trans (CHr.wr W99 (Safe.exa hZ98.alike R98.1.1 (by decide) (by decide)) CR98.1)
    have hk99 := Nat.le_trans (Nat.le_refl _) (Keep.of_wr W99).1
    have O99 := O98.wr W99 g_r
    obtain ⟨T100, h100, X100, e100, W100, st100⟩ := putF X99 hx hZ98 hown98 (host := "") (Or.inl (hwi hw 154 rfl)) Via.refl e99 R99.2.1.2.1 R99.1.1 (Or.inl (hwi hw 155 rfl)) (hwi hw 91 rfl) (ty := .int) (by decide) rfl rfl (g := (mkF m 29 #[vR r] [(.int 0), (.ref r)])) rfl rfl (hD 15 rfl)
    have R100 := R99.w_tokens (tk' := 0) hw W100 (by omega)
    have N100 := Fr.snoc X100 N99 g_r
    have K100 := K99.wr W100 (Or.inl (List.mem_of_getElem? (i := 0) rfl))
    have Z100 := Nat.le_trans Z99 (Keep.of_wr W100).1
    have CR100 := CR99.trans (CHr.wr W100 (Safe.exa hZ98.alike R99.1.1 (by decide) (by decide)) CR99.1)
    have hk100 := Nat.le_trans hk99 (Keep.of_wr W100).1
    have O100 := O99.wr W100 g_r
    obtain ⟨T101, h101, X101, e101, W101, st101⟩ := putFN X100 hx hZ98 hown98 (hwi hw 159 rfl) Via.refl e100 R100.2.1.2.2.1 R100.1.1 (Or.inl (hwi hw 160 rfl)) (hwi hw 91 rfl) (ty := .boolean) (v' := (.int 0)) (by decide) rfl (by decide) (g := (mkF m 34 #[vR r] [(.int 0), (.ref r)])) rfl rfl (hD 18 rfl)
    have R101 := R100.w_afterBegin hw W101
    have N101 := Fr.snoc X101 N100 g_r
    have K101 := K100.wr W101 (Or.inl (List.mem_of_getElem? (i := 0) rfl))
    have Z101 := Nat.le_trans Z100 (Keep.of_wr W101).1
    have CR101 := CR100.trans (CHr.wr W101 (Safe.exa hZ98.alike R100.1.1 (by decide) (by decide)) CR100.1)
    have hk101 := Nat.le_trans hk100 (Keep.of_wr W101).1
    have O101 := O100.wr W101 g_r
    refine zLw Bd (vm₁ := T98.vm) X101 hS98 (by rw [e101]; exact hk101) hZ98 hEL hh e101 CR101 (v := none) (by decide) (fun _ => rfl) (fun fs hr => pre0 _ ?_) (by exact ⟨rfl, N101, by rw [e101]; exact K101, _, _, ⟨Or.inl ⟨hP, rfl⟩, rfl⟩, by rw [e101]; exact R101⟩)
    refine zA X0 hx (hD 0 rfl) rfl rfl ?_
    refine st95 _ ?_
    refine zJ X95 hx (hD 2 rfl) ((if0 _ _).trans (tlt ((ltN (i := 0) (by decide) (by omega)).mpr hpos)).2.2.2) ?_
    refine zA X95 hx (hD 3 rfl) rfl rfl ?_
    refine st96 _ ?_
    refine zJ X96 hx (hD 5 rfl) ((if0 _ _).trans (feq (by decide : ¬ ((1 : Int32) = 0))).1) ?_
    refine zA X96 hx (hD 6 rfl) rfl rfl ?_
    refine zC X96 hx (hD 7 rfl) ?_
    refine st97 _ ?_
    refine zA X97 hx (hD 9 rfl) rfl rfl ?_
    refine zA X97 hx (hD 10 rfl) rfl rfl ?_
    refine st98.trans ?_
    refine st99 _ ?_
    refine zA X99 hx (hD 13 rfl) rfl rfl ?_
    refine zC X99 hx (hD 14 rfl) ?_
    refine st100 _ ?_
    refine zA X100 hx (hD 16 rfl) rfl rfl ?_
    refine zC X100 hx (hD 17 rfl) ?_
    refine st101 _ ?_
    show Steps p.tables e below (T101.setTop (mkF m 37 #[vR r] [])) _
    exact X101.returnOut hx Bd.returns (hD 19 rfl) hr
  · obtain ⟨T99, h99, X99, e99, W99, st99⟩ := putFN X98 hx hZ98 hown98 (hwi hw 170 rfl) Via.refl rfl R98.2.1.2.2.2.2.1 R98.1.1 (Or.inl (hwi hw 171 rfl)) (hwi hw 91 rfl) (ty := .boolean) (v' := (.int 0)) (by decide) rfl (by decide) (g := (mkF m 24 #[vR r] [(.int 0), (.ref r)])) rfl rfl (hD 12 rfl)
    have R99 := R98.w_lastEnds hw W99
    have N99 := Fr.snoc X99 N98 g_r
    have K99 := K98.wr W99 (Or.inl (List.mem_of_getElem? (i := 0) rfl))
    have Z99 := Nat.le_trans Z98 (Keep.of_wr W99).1
    have CR99 := CR98.trans (CHr.wr W99 (Safe.exa hZ98.alike R98.1.1 (by decide) (by decide)) CR98.1)
    have hk99 := Nat.le_trans (Nat.le_refl _) (Keep.of_wr W99).1
    have O99 := O98.wr W99 g_r
    obtain ⟨T100, h100, X100, e100, W100, st100⟩ := putF X99 hx hZ98 hown98 (host := "") (Or.inl (hwi hw 154 rfl)) Via.refl e99 R99.2.1.2.1 R99.1.1 (Or.inl (hwi hw 155 rfl)) (hwi hw 91 rfl) (ty := .int) (by decide) rfl rfl (g := (mkF m 29 #[vR r] [(.int 0), (.ref r)])) rfl rfl (hD 15 rfl)
    have R100 := R99.w_tokens (tk' := 0) hw W100 (by omega)
    have N100 := Fr.snoc X100 N99 g_r
    have K100 := K99.wr W100 (Or.inl (List.mem_of_getElem? (i := 0) rfl))
    have Z100 := Nat.le_trans Z99 (Keep.of_wr W100).1
    have CR100 := CR99.trans (CHr.wr W100 (Safe.exa hZ98.alike R99.1.1 (by decide) (by decide)) CR99.1)
    have hk100 := Nat.le_trans hk99 (Keep.of_wr W100).1
    have O100 := O99.wr W100 g_r
    obtain ⟨T101, h101, X101, e101, W101, st101⟩ := putFN X100 hx hZ98 hown98 (hwi hw 159 rfl) Via.refl e100 R100.2.1.2.2.1 R100.1.1 (Or.inl (hwi hw 160 rfl)) (hwi hw 91 rfl) (ty := .boolean) (v' := (.int 0)) (by decide) rfl (by decide) (g := (mkF m 34 #[vR r] [(.int 0), (.ref r)])) rfl rfl (hD 18 rfl)
    have R101 := R100.w_afterBegin hw W101
    have N101 := Fr.snoc X101 N100 g_r
    have K101 := K100.wr W101 (Or.inl (List.mem_of_getElem? (i := 0) rfl))
    have Z101 := Nat.le_trans Z100 (Keep.of_wr W101).1
    have CR101 := CR100.trans (CHr.wr W101 (Safe.exa hZ98.alike R100.1.1 (by decide) (by decide)) CR100.1)
    have hk101 := Nat.le_trans hk100 (Keep.of_wr W101).1
    have O101 := O100.wr W101 g_r
    refine zLw Bd (vm₁ := T98.vm) X101 hS98 (by rw [e101]; exact hk101) hZ98 hEL hh e101 CR101 (v := none) (by decide) (fun _ => rfl) (fun fs hr => pre0 _ ?_) (by exact ⟨rfl, N101, by rw [e101]; exact K101, _, _, ⟨Or.inr ⟨hP, rfl⟩, rfl⟩, by rw [e101]; exact R101⟩)
    refine zA X0 hx (hD 0 rfl) rfl rfl ?_
    refine st95 _ ?_
    refine zJ X95 hx (hD 2 rfl) ((if0 _ _).trans (tlt ((ltN (i := 0) (by decide) (by omega)).mpr hpos)).2.2.2) ?_
    refine zA X95 hx (hD 3 rfl) rfl rfl ?_
    refine st96 _ ?_
    refine zJ X96 hx (hD 5 rfl) ((if0 _ _).trans (feq (by decide : ¬ ((1 : Int32) = 0))).1) ?_
    refine zA X96 hx (hD 6 rfl) rfl rfl ?_
    refine zC X96 hx (hD 7 rfl) ?_
    refine st97 _ ?_
    refine zA X97 hx (hD 9 rfl) rfl rfl ?_
    refine zA X97 hx (hD 10 rfl) rfl rfl ?_
    refine st98.trans ?_
    refine st99 _ ?_
    refine zA X99 hx (hD 13 rfl) rfl rfl ?_
    refine zC X99 hx (hD 14 rfl) ?_
    refine st100 _ ?_
    refine zA X100 hx (hD 16 rfl) rfl rfl ?_
    refine zC X100 hx (hD 17 rfl) ?_
    refine st101 _ ?_
    show Steps p.tables e below (T101.setTop (mkF m 37 #[vR r] [])) _
    exact X101.returnOut hx Bd.returns (hD 19 rfl) hr
def D30 : List (Nat × Instr × Nat) := [(0, .aload_n 0, 1), (1, .getfield 136, 3), (4, .iconst 3, 1), (5, .if_icmp .ge 36, 3), (8, .aload_n 0, 1), (9, .getfield 11, 3), (12, .aload_n 0, 1), (13, .getfield 136, 3), (16, .aload_n 1, 1), (17, .aastore, 1), (18, .aload_n 0, 1), (19, .getfield 15, 3), (22, .aload_n 0, 1), (23, .getfield 136, 3), (26, .iload_n 2, 1), (27, .iastore, 1), (28, .aload_n 0, 1), (29, .getfield 19, 3), (32, .aload_n 0, 1), (33, .getfield 136, 3), (36, .aload_n 0, 1), (37, .getfield 54, 3), (40, .iastore, 1), (41, .aload_n 0, 1), (42, .dup, 1), (43, .getfield 136, 3), (46, .iconst 1, 1), (47, .iadd, 1), (48, .putfield 136, 3), (51, .aload_n 1, 1), (52, .getstatic 133, 3), (55, .if_acmp .ne 7, 3), (58, .iconst 1, 1), (59, .goto 4, 3), (62, .iconst 0, 1), (63, .istore_n 3, 1), (64, .iload_n 3, 1), (65, .ifCond .eq 37, 3), (68, .aload_n 0, 1), (69, .getfield 68, 3), (72, .ifCond .le 30, 3), (102, .iload_n 3, 1), (103, .ifCond .eq 37, 3), (106, .aload_n 0, 1), (107, .getfield 68, 3), (110, .ifCond .le 30, 3), (140, .iload_n 3, 1), (141, .ifCond .eq 39, 3), (144, .aload_n 0, 1), (145, .getfield 147, 3), (148, .ifCond .eq 32, 3), (180, .aload_n 0, 1), (181, .iload_n 3, 1), (182, .ifCond .eq 21, 3), (185, .aload_n 0, 1), (186, .iload_n 2, 1), (187, .aload_n 0, 1), (188, .getfield 54, 3), (191, .ldc 158, 2), (193, .invokevirtual 141, 3), (196, .ifCond .eq 7, 3), (203, .iconst 0, 1), (204, .putfield 147, 3), (207, .return_, 1)]
theorem d30 : ∀ x ∈ D30, decode prog_11_method_5_code x.1 = .ok x.2 := by decide +kernel
theorem pn_30 : plainName "com/example/killdeer/killdeer/EndingStatements" = true := by first | (simp [plainName, overriddenIn]; done) | decide +kernel
theorem ef_30 (m : MethodId) (x0 : Addr) (x1 : Addr) (x2 : Int32) : entryFrame m #[(.ref x0), (.ref x1), (.int x2)] 4 = mkF m 0 #[.val (.ref x0), .val (.ref x1), .val (.int x2), .unset] [] := by first | (simp [entryFrame, mkF, argsToLocals, Value.category]; done) | rfl
theorem rmTK1 (hw : HW Z a0) (ws : List Jvm.Cond) (r o ka sa ea : Addr) (sc : Int32) (g : Nat → Int32) (a tk : Nat) (le eb : Int32) (kv : Nat → Addr) (sv ev : Nat → Nat) (y wv : Addr) (s1 : Nat)  (h0 : Heap) (n0 : Nat) (Z0 : n0 ≤ h0.size) (hlt : tk < 3) (htk : tk < 1000) (O : Old Z n0 h0) (SK : StrSta Z) (hEL : EW Z a0 EL1) (hgB : allB g) (hWD : Sta Z Z.heap "com/example/killdeer/killdeer/EndingStatements$Token" "WORD" "Lcom/example/killdeer/killdeer/EndingStatements$Token;" (.ref wv)) (hY : Exa Z Z.heap y "com/example/killdeer/killdeer/EndingStatements$Token") (hsa : s1 ≤ a ∧ a ≤ 56) (hbeg : y = wv → ¬ kwP g (gl kl158) s1 a 5) (RS0 : RS Z h0 r o ka sa ea sc g a tk le eb kv sv ev) (g_r : n0 ≤ r) (g_ka : n0 ≤ ka) (g_sa : n0 ≤ sa) (g_ea : n0 ≤ ea)  :
    MH l Z (⟨"com/example/killdeer/killdeer/EndingStatements", "token", "(Lcom/example/killdeer/killdeer/EndingStatements$Token;I)V"⟩ : MethodName) prog_11_method_5_code 4 none ws (rM 5 96 2 24) #[(.ref r), (.ref y), (.int (iN s1))] h0 (QRS Z [r, ka, sa, ea] r o ka sa ea sc g a (tk + 1) (fun le' eb' => le' = le ∧ eb' = eb) (updG kv tk y) (updG sv tk s1) (updG ev tk a) h0 n0) := by
  refine zBodyH pn_30 (fun m => ef_30 m r y (iN s1)) ?_
  intro p e s m below meth c s₁ Bd hx hby hml hown hZ hh X0 e0 pre0 CH0
  have hD := dk hby d30
  have N0 := Fr.nil n0
  have hwS := hwSt hw
  obtain ⟨T102, X102, e102, st102⟩ := zF X0 hx hZ hown (hwi hw 154 rfl) e0 RS0.2.1.2.1 1 #[vR r, vR y, vI (iN s1), .unset] [] (hD 1 rfl)
  obtain ⟨⟨ER, FT, FS, FK, FSt, FEn, ST0⟩, ⟨FA, FTk, FAB, FBD, FLE, FEB⟩, ⟨kd, st0, en0, AK, ASt, AEn, htok⟩, hse0⟩ := id RS0
  have EO := ST0.1
  have nka := (AK.1.neE ER (hwi hw 91 rfl)).symm
  have nsa := (ASt.neE ER (hwi hw 91 rfl)).symm
  have nea := (AEn.neE ER (hwi hw 91 rfl)).symm
  have msk : sa ≠ ka := ASt.neT AK.1 (by decide)
  have mek : ea ≠ ka := AEn.neT AK.1 (by decide)
  obtain ⟨T103, X103, e103, st103⟩ := zF X102 hx hZ hown (hwi hw 98 rfl) e102 RS0.1.2.2.2.1 9 #[vR r, vR y, vI (iN s1), .unset] [] (hD 5 rfl)
  obtain ⟨T104, X104, e104, st104⟩ := zF X103 hx hZ hown (hwi hw 154 rfl) e103 RS0.2.1.2.1 13 #[vR r, vR y, vI (iN s1), .unset] [(.ref ka)] (hD 7 rfl)
  obtain ⟨T105, h105, X105, e105, W105, st105⟩ := stRf X104 hx hZ e104 AK (Ins.self (hY.ext O.2)) (i := tk) (by omega) (by decide) (g := (mkF m 17 #[vR r, vR y, vI (iN s1), .unset] [(.ref y), (.int (iN tk)), (.ref ka)])) rfl rfl (hD 9 rfl)
  have ER_e105 := ER.wr W105
  have FSt_e105 := FSt.other W105 (Or.inl nka)
  have FEn_e105 := FEn.other W105 (Or.inl nka)
  have FTk_e105 := FTk.other W105 (Or.inl nka)
  have FA_e105 := FA.other W105 (Or.inl nka)
  have ASt_e105 := ASt.other W105 msk
  have AEn_e105 := AEn.other W105 mek
  have CR105 := (CHr.refl CH0).trans (CHr.wr W105 (AF.safe hZ.alike AK.1 (by decide)) (CHr.refl CH0).1)
  have N105 := Fr.snoc X105 N0 g_ka
  have K105 := (Keep.refl h0 [r, ka, sa, ea]).wr W105 (Or.inl (List.mem_of_getElem? (i := 1) rfl))
  have Z105 := Nat.le_trans Z0 (Keep.of_wr W105).1
  have O105 := O.wr W105 g_ka
  obtain ⟨T106, X106, e106, st106⟩ := zF X105 hx hZ hown (hwi hw 100 rfl) e105 FSt_e105 19 #[vR r, vR y, vI (iN s1), .unset] [] (hD 11 rfl)
  obtain ⟨T107, X107, e107, st107⟩ := zF X106 hx hZ hown (hwi hw 154 rfl) e106 FTk_e105 23 #[vR r, vR y, vI (iN s1), .unset] [(.ref sa)] (hD 13 rfl)
  obtain ⟨T108, h108, X108, e108, W108, st108⟩ := stIn X107 hx hZ e107 ASt_e105 (i := tk) (by omega) (by decide) (g := (mkF m 27 #[vR r, vR y, vI (iN s1), .unset] [(.int (iN s1)), (.int (iN tk)), (.ref sa)])) rfl rfl (hD 15 rfl)
  have ER_e108 := ER_e105.wr W108
  have FSt_e108 := FSt_e105.other W108 (Or.inl nsa)
  have FEn_e108 := FEn_e105.other W108 (Or.inl nsa)
  have FTk_e108 := FTk_e105.other W108 (Or.inl nsa)
  have FA_e108 := FA_e105.other W108 (Or.inl nsa)
  have AEn_e108 := AEn_e105.other W108 (Ne.symm hse0)
  have CR108 := CR105.trans (CHr.wr W108 (AF.safe hZ.alike ASt_e105 (by decide)) CR105.1)
  have N108 := Fr.snoc X108 N105 g_sa
  have K108 := K105.wr W108 (Or.inl (List.mem_of_getElem? (i := 2) rfl))
  have Z108 := Nat.le_trans Z105 (Keep.of_wr W108).1
  have O108 := O105.wr W108 g_sa
  obtain ⟨T109, X109, e109, st109⟩ := zF X108 hx hZ hown (hwi hw 102 rfl) e108 FEn_e108 29 #[vR r, vR y, vI (iN s1), .unset] [] (hD 17 rfl)
  obtain ⟨T110, X110, e110, st110⟩ := zF X109 hx hZ hown (hwi hw 154 rfl) e109 FTk_e108 33 #[vR r, vR y, vI (iN s1), .unset] [(.ref ea)] (hD 19 rfl)
  obtain ⟨T111, X111, e111, st111⟩ := zF X110 hx hZ hown (hwi hw 112 rfl) e110 FA_e108 37 #[vR r, vR y, vI (iN s1), .unset] [(.int (iN tk)), (.ref ea)] (hD 21 rfl)
  obtain ⟨T112, h112, X112, e112, W112, st112⟩ := stIn X111 hx hZ e111 AEn_e108 (i := tk) (by omega) (by decide) (g := (mkF m 40 #[vR r, vR y, vI (iN s1), .unset] [(.int (iN a)), (.int (iN tk)), (.ref ea)])) rfl rfl (hD 22 rfl)
  have ER_e112 := ER_e108.wr W112
  have FSt_e112 := FSt_e108.other W112 (Or.inl nea)
  have FEn_e112 := FEn_e108.other W112 (Or.inl nea)
  have FTk_e112 := FTk_e108.other W112 (Or.inl nea)
  have FA_e112 := FA_e108.other W112 (Or.inl nea)
  have CR112 := CR108.trans (CHr.wr W112 (AF.safe hZ.alike AEn_e108 (by decide)) CR108.1)
  have N112 := Fr.snoc X112 N108 g_ea
  have K112 := K108.wr W112 (Or.inl (List.mem_of_getElem? (i := 3) rfl))
  have Z112 := Nat.le_trans Z108 (Keep.of_wr W112).1
  have O112 := O108.wr W112 g_ea
  obtain ⟨T113, X113, e113, st113⟩ := zF X112 hx hZ hown (hwi hw 154 rfl) e112 FTk_e112 43 #[vR r, vR y, vI (iN s1), .unset] [(.ref r)] (hD 25 rfl)
  obtain ⟨T114, h114, X114, e114, W114, st114⟩ := putF X113 hx hZ hown (host := "") (Or.inl (hwi hw 154 rfl)) Via.refl e113 FTk_e112 ER_e112 (Or.inl (hwi hw 155 rfl)) (hwi hw 91 rfl) (ty := .int) (by decide) rfl rfl (g := (mkF m 48 #[vR r, vR y, vI (iN s1), .unset] [(.int (iN (tk + 1))), (.ref r)])) rfl rfl (hD 28 rfl)
  have CR114 := CR112.trans (CHr.wr W114 (Safe.exa hZ.alike ER_e112 (by decide) (by decide)) CR112.1)
  have N114 := Fr.snoc X114 N112 g_r
  have K114 := K112.wr W114 (Or.inl (List.mem_of_getElem? (i := 0) rfl))
  have Z114 := Nat.le_trans Z112 (Keep.of_wr W114).1
  have O114 := O112.wr W114 g_r
  have R114 := RS0.tok hw hlt W105 W108 W112 hsa W114
  obtain ⟨T115, X115, e115, st115⟩ := getS2 X114 hx hZ hown (host := "") (Or.inl (hwi hw 147 rfl)) Via.refl e114 (Sta.ext O114.2 hWD) (g := (mkF m 52 #[vR r, vR y, vI (iN s1), .unset] [(.ref y)])) rfl (hD 30 rfl)
  by_cases hyw : y = wv
  · obtain ⟨T116, X116, e116, st116⟩ := zF X115 hx hZ hown (hwi hw 157 rfl) e115 R114.2.1.2.2.2.1 69 #[vR r, vR y, vI (iN s1), vI 1] [] (hD 39 rfl)
    obtain ⟨T117, X117, e117, st117⟩ := zF X116 hx hZ hown (hwi hw 157 rfl) e116 R114.2.1.2.2.2.1 107 #[vR r, vR y, vI (iN s1), vI 1] [] (hD 44 rfl)
    obtain ⟨T118, X118, e118, st118⟩ := zF X117 hx hZ hown (hwi hw 159 rfl) e117 R114.2.1.2.2.1 145 #[vR r, vR y, vI (iN s1), vI 1] [] (hD 49 rfl)
    obtain ⟨T119, X119, e119, st119⟩ := zF X118 hx hZ hown (hwi hw 112 rfl) e118 R114.2.1.1 188 #[vR r, vR y, vI (iN s1), vI 1] [(.int (iN s1)), (.ref r), (.ref r)] (hD 57 rfl)
    obtain ⟨a120, T120, h120, k120, X120, e120, E120, hS120, hk120, hZ120, hown120, S120, C120, st120⟩ := cLDC (s := s) (vm0 := s.vm) (EL := EL1) X119 hx hZ hown (hwi hw 161 rfl) hwS e119 ((State.WarmedH.refl s).since 0) (Nat.zero_le _) hEL (List.mem_of_getElem? (i := 3) rfl) CR114.1 kl158 (n := 5) (q := 20) (by decide +kernel) (g := (mkF m 191 #[vR r, vR y, vI (iN s1), vI 1] [(.int (iN a)), (.int (iN s1)), (.ref r), (.ref r)])) rfl (hD 58 rfl) (by decide) (by decide)
    have O120 := O114.ext E120
    have K120 := K114.ext E120
    have Z120 := Nat.le_trans Z114 E120.1
    have CR120 := CR114.trans C120
    have R120 := R114.ext E120
    have ERw := R120.1.1
    obtain ⟨T121, L121, X121, e121, N121, st121⟩ := zV X120 hx hZ120 hown120 e120 ERw N114 (hwi hw 162 rfl) (declOf (hwi hw 163 rfl) (hwi hw 165 rfl)) (selOf (hwi hw 163 rfl) (hwi hw 164 rfl) (hwi hw 91 rfl) (by decide)) (hwi hw 163 rfl) (hwi hw 165 rfl) (hwi hw 88 rfl) (rmKWn l Z a0 hw [] r o a120 s1 a 5 g (gl kl158) h120 n0 Z120 hsa.1 hsa.2 (by decide) O120 SK ERw R120.1.2.1 R120.1.2.2.2.2.2.2 hgB S120 (glB (by decide +kernel : ∀ x ∈ kl158, 0 ≤ x.toInt ∧ x.toInt < 256)) (hbeg hyw)) 193 #[vR r, vR y, vI (iN s1), vI 1] [(.ref a120), (.int (iN a)), (.int (iN s1)), (.ref r), (.ref r)] hml pd_23 (hD 59 rfl) 1
    obtain ⟨T122, h122, X122, e122, W122, st122⟩ := putFN X121 hx hZ120 hown120 (hwi hw 159 rfl) Via.refl e121 R120.2.1.2.2.1 R120.1.1 (Or.inl (hwi hw 160 rfl)) (hwi hw 91 rfl) (ty := .boolean) (v' := (.int 0)) (by decide) rfl (by decide) (g := (mkF m 204 #[vR r, vR y, vI (iN s1), vI 1] [(.int 0), (.ref r)])) rfl rfl (hD 62 rfl)
    have R122 := R120.w_afterBegin hw W122
    have N122 := Fr.snoc X122 N121 g_r
    have K122 := K120.wr W122 (Or.inl (List.mem_of_getElem? (i := 0) rfl))
    have Z122 := Nat.le_trans Z120 (Keep.of_wr W122).1
    have CR122 := CR120.trans (CHr.wr W122 (Safe.exa hZ120.alike R120.1.1 (by decide) (by decide)) CR120.1)
    have hk122 := Nat.le_trans hk120 (Keep.of_wr W122).1
    have O122 := O120.wr W122 g_r
    refine zLw Bd (vm₁ := T120.vm) X122 hS120 (by rw [e122]; exact hk122) hZ120 hEL hh e122 CR122 (v := none) (by decide) (fun _ => rfl) (fun fs hr => pre0 _ ?_) (by exact ⟨rfl, N122, by rw [e122]; exact K122, le, eb, ⟨rfl, rfl⟩, by rw [e122]; exact R122⟩)
    refine zA X0 hx (hD 0 rfl) rfl rfl ?_
    refine st102 _ ?_
    refine zC X102 hx (hD 2 rfl) ?_
    refine zN X102 hx (hD 3 rfl) (tlt ((ltN (n := 3) (by omega) (by decide)).mpr hlt)).2.1 ?_
    refine zA X102 hx (hD 4 rfl) rfl rfl ?_
    refine st103 _ ?_
    refine zA X103 hx (hD 6 rfl) rfl rfl ?_
    refine st104 _ ?_
    refine zA X104 hx (hD 8 rfl) rfl rfl ?_
    refine st105 _ ?_
    refine zA X105 hx (hD 10 rfl) rfl rfl ?_
    refine st106 _ ?_
    refine zA X106 hx (hD 12 rfl) rfl rfl ?_
    refine st107 _ ?_
    refine zL X107 hx (hD 14 rfl) rfl ?_
    refine st108 _ ?_
    refine zA X108 hx (hD 16 rfl) rfl rfl ?_
    refine st109 _ ?_
    refine zA X109 hx (hD 18 rfl) rfl rfl ?_
    refine st110 _ ?_
    refine zA X110 hx (hD 20 rfl) rfl rfl ?_
    refine st111 _ ?_
    refine st112 _ ?_
    refine zA X112 hx (hD 23 rfl) rfl rfl ?_
    refine zD X112 hx (hD 24 rfl) ?_
    refine st113 _ ?_
    refine zC X113 hx (hD 26 rfl) ?_
    refine zPl X113 hx (hD 27 rfl) (z := (iN (tk + 1))) (succN tk) ?_
    refine st114 _ ?_
    show Steps p.tables e below (T114.setTop (mkF m 51 #[vR r, vR y, vI (iN s1), .unset] [])) _
    refine zA X114 hx (hD 29 rfl) rfl rfl ?_
    refine st115 _ ?_
    refine Jvm.RoadKit.acmp (g := (mkF m 55 #[vR r, vR y, vI (iN s1), .unset] [(.ref wv), (.ref y)])) X115 hx rfl rfl rfl (pc0 := 55) (pc' := 58) (same := true) rfl (hD 31 rfl) rfl (decide_eq_true (congrArg Value.ref hyw)) (by decide) (by decide) ?_
    refine zC X115 hx (hD 32 rfl) ?_
    refine zG X115 hx 63 (hD 33 rfl) rfl ?_
    refine zS X115 hx (hD 35 rfl) rfl ?_
    refine zL X115 hx (hD 36 rfl) rfl ?_
    refine zJ X115 hx (hD 37 rfl) ((if0 _ _).trans (feq (by decide : ¬ ((1 : Int32) = 0))).1) ?_
    refine zA X115 hx (hD 38 rfl) rfl rfl ?_
    refine st116 _ ?_
    refine zI X116 hx 102 (hD 40 rfl) ((if0 _ _).trans (flt (by decide : ¬ ((0 : Int32) < (0 : Int32)))).2.2.2) rfl ?_
    refine zL X116 hx (hD 41 rfl) rfl ?_
    refine zJ X116 hx (hD 42 rfl) ((if0 _ _).trans (feq (by decide : ¬ ((1 : Int32) = 0))).1) ?_
    refine zA X116 hx (hD 43 rfl) rfl rfl ?_
    refine st117 _ ?_
    refine zI X117 hx 140 (hD 45 rfl) ((if0 _ _).trans (flt (by decide : ¬ ((0 : Int32) < (0 : Int32)))).2.2.2) rfl ?_
    refine zL X117 hx (hD 46 rfl) rfl ?_
    refine zJ X117 hx (hD 47 rfl) ((if0 _ _).trans (feq (by decide : ¬ ((1 : Int32) = 0))).1) ?_
    refine zA X117 hx (hD 48 rfl) rfl rfl ?_
    refine st118 _ ?_
    refine zI X118 hx 180 (hD 50 rfl) ((if0 _ _).trans (teq (rfl : (0 : Int32) = 0)).1) rfl ?_
    refine zA X118 hx (hD 51 rfl) rfl rfl ?_
    refine zL X118 hx (hD 52 rfl) rfl ?_
    refine zJ X118 hx (hD 53 rfl) ((if0 _ _).trans (feq (by decide : ¬ ((1 : Int32) = 0))).1) ?_
    refine zA X118 hx (hD 54 rfl) rfl rfl ?_
    refine zL X118 hx (hD 55 rfl) rfl ?_
    refine zA X118 hx (hD 56 rfl) rfl rfl ?_
    refine st119 _ ?_
    refine st120 _ ?_
    refine st121 _ ?_
    refine zI X121 hx 203 (hD 60 rfl) ((if0 _ _).trans (teq (rfl : (0 : Int32) = 0)).1) rfl ?_
    refine zC X121 hx (hD 61 rfl) ?_
    refine st122 _ ?_
    show Steps p.tables e below (T122.setTop (mkF m 207 #[vR r, vR y, vI (iN s1), vI 1] [])) _
    exact X122.returnOut hx Bd.returns (hD 63 rfl) hr
  · obtain ⟨T116, h116, X116, e116, W116, st116⟩ := putFN X115 hx hZ hown (hwi hw 159 rfl) Via.refl e115 R114.2.1.2.2.1 R114.1.1 (Or.inl (hwi hw 160 rfl)) (hwi hw 91 rfl) (ty := .boolean) (v' := (.int 0)) (by decide) rfl (by decide) (g := (mkF m 204 #[vR r, vR y, vI (iN s1), vI 0] [(.int 0), (.ref r)])) rfl rfl (hD 62 rfl)
    have R116 := R114.w_afterBegin hw W116
    have N116 := Fr.snoc X116 N114 g_r
    have K116 := K114.wr W116 (Or.inl (List.mem_of_getElem? (i := 0) rfl))
    have Z116 := Nat.le_trans Z114 (Keep.of_wr W116).1
    have CR116 := CR114.trans (CHr.wr W116 (Safe.exa hZ.alike R114.1.1 (by decide) (by decide)) CR114.1)
    have O116 := O114.wr W116 g_r
    refine zLw Bd (vm₁ := s.vm) X116 ((State.WarmedH.refl s).since 0) (by rw [e116]; exact (Nat.zero_le _)) hZ hEL hh e116 CR116 (v := none) (by decide) (fun _ => rfl) (fun fs hr => pre0 _ ?_) (by exact ⟨rfl, N116, by rw [e116]; exact K116, le, eb, ⟨rfl, rfl⟩, by rw [e116]; exact R116⟩)
    refine zA X0 hx (hD 0 rfl) rfl rfl ?_
    refine st102 _ ?_
    refine zC X102 hx (hD 2 rfl) ?_
    refine zN X102 hx (hD 3 rfl) (tlt ((ltN (n := 3) (by omega) (by decide)).mpr hlt)).2.1 ?_
    refine zA X102 hx (hD 4 rfl) rfl rfl ?_
    refine st103 _ ?_
    refine zA X103 hx (hD 6 rfl) rfl rfl ?_
    refine st104 _ ?_
    refine zA X104 hx (hD 8 rfl) rfl rfl ?_
    refine st105 _ ?_
    refine zA X105 hx (hD 10 rfl) rfl rfl ?_
    refine st106 _ ?_
    refine zA X106 hx (hD 12 rfl) rfl rfl ?_
    refine st107 _ ?_
    refine zL X107 hx (hD 14 rfl) rfl ?_
    refine st108 _ ?_
    refine zA X108 hx (hD 16 rfl) rfl rfl ?_
    refine st109 _ ?_
    refine zA X109 hx (hD 18 rfl) rfl rfl ?_
    refine st110 _ ?_
    refine zA X110 hx (hD 20 rfl) rfl rfl ?_
    refine st111 _ ?_
    refine st112 _ ?_
    refine zA X112 hx (hD 23 rfl) rfl rfl ?_
    refine zD X112 hx (hD 24 rfl) ?_
    refine st113 _ ?_
    refine zC X113 hx (hD 26 rfl) ?_
    refine zPl X113 hx (hD 27 rfl) (z := (iN (tk + 1))) (succN tk) ?_
    refine st114 _ ?_
    show Steps p.tables e below (T114.setTop (mkF m 51 #[vR r, vR y, vI (iN s1), .unset] [])) _
    refine zA X114 hx (hD 29 rfl) rfl rfl ?_
    refine st115 _ ?_
    refine Jvm.RoadKit.acmp (g := (mkF m 55 #[vR r, vR y, vI (iN s1), .unset] [(.ref wv), (.ref y)])) X115 hx rfl rfl rfl (pc0 := 55) (pc' := 62) (same := false) rfl (hD 31 rfl) rfl (decide_eq_false fun q => hyw (Value.ref.inj q)) (by decide) (by decide) ?_
    refine zC X115 hx (hD 34 rfl) ?_
    refine zS X115 hx (hD 35 rfl) rfl ?_
    refine zL X115 hx (hD 36 rfl) rfl ?_
    refine zI X115 hx 102 (hD 37 rfl) ((if0 _ _).trans (teq (rfl : (0 : Int32) = 0)).1) rfl ?_
    refine zL X115 hx (hD 41 rfl) rfl ?_
    refine zI X115 hx 140 (hD 42 rfl) ((if0 _ _).trans (teq (rfl : (0 : Int32) = 0)).1) rfl ?_
    refine zL X115 hx (hD 46 rfl) rfl ?_
    refine zI X115 hx 180 (hD 47 rfl) ((if0 _ _).trans (teq (rfl : (0 : Int32) = 0)).1) rfl ?_
    refine zA X115 hx (hD 51 rfl) rfl rfl ?_
    refine zL X115 hx (hD 52 rfl) rfl ?_
    refine zI X115 hx 203 (hD 53 rfl) ((if0 _ _).trans (teq (rfl : (0 : Int32) = 0)).1) rfl ?_
    refine zC X115 hx (hD 61 rfl) ?_
    refine st116 _ ?_
    show Steps p.tables e below (T116.setTop (mkF m 207 #[vR r, vR y, vI (iN s1), vI 0] [])) _
    exact X116.returnOut hx Bd.returns (hD 63 rfl) hr
theorem rmTK0 (hw : HW Z a0) (ws : List Jvm.Cond) (r o ka sa ea : Addr) (sc : Int32) (g : Nat → Int32) (a tk : Nat) (le eb : Int32) (kv : Nat → Addr) (sv ev : Nat → Nat) (y wv : Addr) (s1 : Nat)  (h0 : Heap) (n0 : Nat) (Z0 : n0 ≤ h0.size) (hlt : ¬ (tk < 3)) (htk : tk < 1000) (O : Old Z n0 h0) (SK : StrSta Z) (hEL : EW Z a0 EL1) (hgB : allB g) (hWD : Sta Z Z.heap "com/example/killdeer/killdeer/EndingStatements$Token" "WORD" "Lcom/example/killdeer/killdeer/EndingStatements$Token;" (.ref wv)) (hY : Exa Z Z.heap y "com/example/killdeer/killdeer/EndingStatements$Token") (hsa : s1 ≤ a ∧ a ≤ 56) (hbeg : y = wv → ¬ kwP g (gl kl158) s1 a 5) (RS0 : RS Z h0 r o ka sa ea sc g a tk le eb kv sv ev) (g_r : n0 ≤ r) (g_ka : n0 ≤ ka) (g_sa : n0 ≤ sa) (g_ea : n0 ≤ ea)  :
    MH l Z (⟨"com/example/killdeer/killdeer/EndingStatements", "token", "(Lcom/example/killdeer/killdeer/EndingStatements$Token;I)V"⟩ : MethodName) prog_11_method_5_code 4 none ws (rM 5 96 2 24) #[(.ref r), (.ref y), (.int (iN s1))] h0 (QRS Z [r, ka, sa, ea] r o ka sa ea sc g a (tk + 1) (fun le' eb' => le' = le ∧ eb' = eb) kv sv ev h0 n0) := by
  refine zBodyH pn_30 (fun m => ef_30 m r y (iN s1)) ?_
  intro p e s m below meth c s₁ Bd hx hby hml hown hZ hh X0 e0 pre0 CH0
  have hD := dk hby d30
  have N0 := Fr.nil n0
  have hwS := hwSt hw
  obtain ⟨T117, X117, e117, st117⟩ := zF X0 hx hZ hown (hwi hw 154 rfl) e0 RS0.2.1.2.1 1 #[vR r, vR y, vI (iN s1), .unset] [] (hD 1 rfl)
  obtain ⟨T118, X118, e118, st118⟩ := zF X117 hx hZ hown (hwi hw 154 rfl) e117 RS0.2.1.2.1 43 #[vR r, vR y, vI (iN s1), .unset] [(.ref r)] (hD 25 rfl)
  obtain ⟨T119, h119, X119, e119, W119, st119⟩ := putF X118 hx hZ hown (host := "") (Or.inl (hwi hw 154 rfl)) Via.refl e118 RS0.2.1.2.1 RS0.1.1 (Or.inl (hwi hw 155 rfl)) (hwi hw 91 rfl) (ty := .int) (by decide) rfl rfl (g := (mkF m 48 #[vR r, vR y, vI (iN s1), .unset] [(.int (iN (tk + 1))), (.ref r)])) rfl rfl (hD 28 rfl)
  have R119 := RS0.w_tokens (tk' := (tk + 1)) hw W119 (by omega)
  have N119 := Fr.snoc X119 N0 g_r
  have K119 := (Keep.refl h0 [r, ka, sa, ea]).wr W119 (Or.inl (List.mem_of_getElem? (i := 0) rfl))
  have Z119 := Nat.le_trans Z0 (Keep.of_wr W119).1
  have CR119 := (CHr.refl CH0).trans (CHr.wr W119 (Safe.exa hZ.alike RS0.1.1 (by decide) (by decide)) (CHr.refl CH0).1)
  have O119 := O.wr W119 g_r
  obtain ⟨T120, X120, e120, st120⟩ := getS2 X119 hx hZ hown (host := "") (Or.inl (hwi hw 147 rfl)) Via.refl e119 (Sta.ext O119.2 hWD) (g := (mkF m 52 #[vR r, vR y, vI (iN s1), .unset] [(.ref y)])) rfl (hD 30 rfl)
  by_cases hyw : y = wv
  · obtain ⟨T121, X121, e121, st121⟩ := zF X120 hx hZ hown (hwi hw 157 rfl) e120 R119.2.1.2.2.2.1 69 #[vR r, vR y, vI (iN s1), vI 1] [] (hD 39 rfl)
    obtain ⟨T122, X122, e122, st122⟩ := zF X121 hx hZ hown (hwi hw 157 rfl) e121 R119.2.1.2.2.2.1 107 #[vR r, vR y, vI (iN s1), vI 1] [] (hD 44 rfl)
    obtain ⟨T123, X123, e123, st123⟩ := zF X122 hx hZ hown (hwi hw 159 rfl) e122 R119.2.1.2.2.1 145 #[vR r, vR y, vI (iN s1), vI 1] [] (hD 49 rfl)
    obtain ⟨T124, X124, e124, st124⟩ := zF X123 hx hZ hown (hwi hw 112 rfl) e123 R119.2.1.1 188 #[vR r, vR y, vI (iN s1), vI 1] [(.int (iN s1)), (.ref r), (.ref r)] (hD 57 rfl)
    obtain ⟨a125, T125, h125, k125, X125, e125, E125, hS125, hk125, hZ125, hown125, S125, C125, st125⟩ := cLDC (s := s) (vm0 := s.vm) (EL := EL1) X124 hx hZ hown (hwi hw 161 rfl) hwS e124 ((State.WarmedH.refl s).since 0) (Nat.zero_le _) hEL (List.mem_of_getElem? (i := 3) rfl) CR119.1 kl158 (n := 5) (q := 20) (by decide +kernel) (g := (mkF m 191 #[vR r, vR y, vI (iN s1), vI 1] [(.int (iN a)), (.int (iN s1)), (.ref r), (.ref r)])) rfl (hD 58 rfl) (by decide) (by decide)
    have O125 := O119.ext E125
    have K125 := K119.ext E125
    have Z125 := Nat.le_trans Z119 E125.1
    have CR125 := CR119.trans C125
    have R125 := R119.ext E125
    have ERw := R125.1.1
    obtain ⟨T126, L126, X126, e126, N126, st126⟩ := zV X125 hx hZ125 hown125 e125 ERw N119 (hwi hw 162 rfl) (declOf (hwi hw 163 rfl) (hwi hw 165 rfl)) (selOf (hwi hw 163 rfl) (hwi hw 164 rfl) (hwi hw 91 rfl) (by decide)) (hwi hw 163 rfl) (hwi hw 165 rfl) (hwi hw 88 rfl) (rmKWn l Z a0 hw [] r o a125 s1 a 5 g (gl kl158) h125 n0 Z125 hsa.1 hsa.2 (by decide) O125 SK ERw R125.1.2.1 R125.1.2.2.2.2.2.2 hgB S125 (glB (by decide +kernel : ∀ x ∈ kl158, 0 ≤ x.toInt ∧ x.toInt < 256)) (hbeg hyw)) 193 #[vR r, vR y, vI (iN s1), vI 1] [(.ref a125), (.int (iN a)), (.int (iN s1)), (.ref r), (.ref r)] hml pd_23 (hD 59 rfl) 1
    obtain ⟨T127, h127, X127, e127, W127, st127⟩ := putFN X126 hx hZ125 hown125 (hwi hw 159 rfl) Via.refl e126 R125.2.1.2.2.1 R125.1.1 (Or.inl (hwi hw 160 rfl)) (hwi hw 91 rfl) (ty := .boolean) (v' := (.int 0)) (by decide) rfl (by decide) (g := (mkF m 204 #[vR r, vR y, vI (iN s1), vI 1] [(.int 0), (.ref r)])) rfl rfl (hD 62 rfl)
    have R127 := R125.w_afterBegin hw W127
    have N127 := Fr.snoc X127 N126 g_r
    have K127 := K125.wr W127 (Or.inl (List.mem_of_getElem? (i := 0) rfl))
    have Z127 := Nat.le_trans Z125 (Keep.of_wr W127).1
    have CR127 := CR125.trans (CHr.wr W127 (Safe.exa hZ125.alike R125.1.1 (by decide) (by decide)) CR125.1)
    have hk127 := Nat.le_trans hk125 (Keep.of_wr W127).1
    have O127 := O125.wr W127 g_r
    refine zLw Bd (vm₁ := T125.vm) X127 hS125 (by rw [e127]; exact hk127) hZ125 hEL hh e127 CR127 (v := none) (by decide) (fun _ => rfl) (fun fs hr => pre0 _ ?_) (by exact ⟨rfl, N127, by rw [e127]; exact K127, le, eb, ⟨rfl, rfl⟩, by rw [e127]; exact R127⟩)
    refine zA X0 hx (hD 0 rfl) rfl rfl ?_
    refine st117 _ ?_
    refine zC X117 hx (hD 2 rfl) ?_
    refine zM X117 hx 41 (hD 3 rfl) (flt (fun q => hlt ((ltN (n := 3) (by omega) (by decide)).mp q))).2.1 rfl ?_
    refine zA X117 hx (hD 23 rfl) rfl rfl ?_
    refine zD X117 hx (hD 24 rfl) ?_
    refine st118 _ ?_
    refine zC X118 hx (hD 26 rfl) ?_
    refine zPl X118 hx (hD 27 rfl) (z := (iN (tk + 1))) (succN tk) ?_
    refine st119 _ ?_
    refine zA X119 hx (hD 29 rfl) rfl rfl ?_
    refine st120 _ ?_
    refine Jvm.RoadKit.acmp (g := (mkF m 55 #[vR r, vR y, vI (iN s1), .unset] [(.ref wv), (.ref y)])) X120 hx rfl rfl rfl (pc0 := 55) (pc' := 58) (same := true) rfl (hD 31 rfl) rfl (decide_eq_true (congrArg Value.ref hyw)) (by decide) (by decide) ?_
    refine zC X120 hx (hD 32 rfl) ?_
    refine zG X120 hx 63 (hD 33 rfl) rfl ?_
    refine zS X120 hx (hD 35 rfl) rfl ?_
    refine zL X120 hx (hD 36 rfl) rfl ?_
    refine zJ X120 hx (hD 37 rfl) ((if0 _ _).trans (feq (by decide : ¬ ((1 : Int32) = 0))).1) ?_
    refine zA X120 hx (hD 38 rfl) rfl rfl ?_
    refine st121 _ ?_
    refine zI X121 hx 102 (hD 40 rfl) ((if0 _ _).trans (flt (by decide : ¬ ((0 : Int32) < (0 : Int32)))).2.2.2) rfl ?_
    refine zL X121 hx (hD 41 rfl) rfl ?_
    refine zJ X121 hx (hD 42 rfl) ((if0 _ _).trans (feq (by decide : ¬ ((1 : Int32) = 0))).1) ?_
    refine zA X121 hx (hD 43 rfl) rfl rfl ?_
    refine st122 _ ?_
    refine zI X122 hx 140 (hD 45 rfl) ((if0 _ _).trans (flt (by decide : ¬ ((0 : Int32) < (0 : Int32)))).2.2.2) rfl ?_
    refine zL X122 hx (hD 46 rfl) rfl ?_
    refine zJ X122 hx (hD 47 rfl) ((if0 _ _).trans (feq (by decide : ¬ ((1 : Int32) = 0))).1) ?_
    refine zA X122 hx (hD 48 rfl) rfl rfl ?_
    refine st123 _ ?_
    refine zI X123 hx 180 (hD 50 rfl) ((if0 _ _).trans (teq (rfl : (0 : Int32) = 0)).1) rfl ?_
    refine zA X123 hx (hD 51 rfl) rfl rfl ?_
    refine zL X123 hx (hD 52 rfl) rfl ?_
    refine zJ X123 hx (hD 53 rfl) ((if0 _ _).trans (feq (by decide : ¬ ((1 : Int32) = 0))).1) ?_
    refine zA X123 hx (hD 54 rfl) rfl rfl ?_
    refine zL X123 hx (hD 55 rfl) rfl ?_
    refine zA X123 hx (hD 56 rfl) rfl rfl ?_
    refine st124 _ ?_
    refine st125 _ ?_
    refine st126 _ ?_
    refine zI X126 hx 203 (hD 60 rfl) ((if0 _ _).trans (teq (rfl : (0 : Int32) = 0)).1) rfl ?_
    refine zC X126 hx (hD 61 rfl) ?_
    refine st127 _ ?_
    show Steps p.tables e below (T127.setTop (mkF m 207 #[vR r, vR y, vI (iN s1), vI 1] [])) _
    exact X127.returnOut hx Bd.returns (hD 63 rfl) hr
  · obtain ⟨T121, h121, X121, e121, W121, st121⟩ := putFN X120 hx hZ hown (hwi hw 159 rfl) Via.refl e120 R119.2.1.2.2.1 R119.1.1 (Or.inl (hwi hw 160 rfl)) (hwi hw 91 rfl) (ty := .boolean) (v' := (.int 0)) (by decide) rfl (by decide) (g := (mkF m 204 #[vR r, vR y, vI (iN s1), vI 0] [(.int 0), (.ref r)])) rfl rfl (hD 62 rfl)
    have R121 := R119.w_afterBegin hw W121
    have N121 := Fr.snoc X121 N119 g_r
    have K121 := K119.wr W121 (Or.inl (List.mem_of_getElem? (i := 0) rfl))
    have Z121 := Nat.le_trans Z119 (Keep.of_wr W121).1
    have CR121 := CR119.trans (CHr.wr W121 (Safe.exa hZ.alike R119.1.1 (by decide) (by decide)) CR119.1)
    have O121 := O119.wr W121 g_r
    refine zLw Bd (vm₁ := s.vm) X121 ((State.WarmedH.refl s).since 0) (by rw [e121]; exact (Nat.zero_le _)) hZ hEL hh e121 CR121 (v := none) (by decide) (fun _ => rfl) (fun fs hr => pre0 _ ?_) (by exact ⟨rfl, N121, by rw [e121]; exact K121, le, eb, ⟨rfl, rfl⟩, by rw [e121]; exact R121⟩)
    refine zA X0 hx (hD 0 rfl) rfl rfl ?_
    refine st117 _ ?_
    refine zC X117 hx (hD 2 rfl) ?_
    refine zM X117 hx 41 (hD 3 rfl) (flt (fun q => hlt ((ltN (n := 3) (by omega) (by decide)).mp q))).2.1 rfl ?_
    refine zA X117 hx (hD 23 rfl) rfl rfl ?_
    refine zD X117 hx (hD 24 rfl) ?_
    refine st118 _ ?_
    refine zC X118 hx (hD 26 rfl) ?_
    refine zPl X118 hx (hD 27 rfl) (z := (iN (tk + 1))) (succN tk) ?_
    refine st119 _ ?_
    refine zA X119 hx (hD 29 rfl) rfl rfl ?_
    refine st120 _ ?_
    refine Jvm.RoadKit.acmp (g := (mkF m 55 #[vR r, vR y, vI (iN s1), .unset] [(.ref wv), (.ref y)])) X120 hx rfl rfl rfl (pc0 := 55) (pc' := 62) (same := false) rfl (hD 31 rfl) rfl (decide_eq_false fun q => hyw (Value.ref.inj q)) (by decide) (by decide) ?_
    refine zC X120 hx (hD 34 rfl) ?_
    refine zS X120 hx (hD 35 rfl) rfl ?_
    refine zL X120 hx (hD 36 rfl) rfl ?_
    refine zI X120 hx 102 (hD 37 rfl) ((if0 _ _).trans (teq (rfl : (0 : Int32) = 0)).1) rfl ?_
    refine zL X120 hx (hD 41 rfl) rfl ?_
    refine zI X120 hx 140 (hD 42 rfl) ((if0 _ _).trans (teq (rfl : (0 : Int32) = 0)).1) rfl ?_
    refine zL X120 hx (hD 46 rfl) rfl ?_
    refine zI X120 hx 180 (hD 47 rfl) ((if0 _ _).trans (teq (rfl : (0 : Int32) = 0)).1) rfl ?_
    refine zA X120 hx (hD 51 rfl) rfl rfl ?_
    refine zL X120 hx (hD 52 rfl) rfl ?_
    refine zI X120 hx 203 (hD 53 rfl) ((if0 _ _).trans (teq (rfl : (0 : Int32) = 0)).1) rfl ?_
    refine zC X120 hx (hD 61 rfl) ?_
    refine st121 _ ?_
    show Steps p.tables e below (T121.setTop (mkF m 207 #[vR r, vR y, vI (iN s1), vI 0] [])) _
    exact X121.returnOut hx Bd.returns (hD 63 rfl) hr
/-- where the quoted text that opens before i ends -/
def eqF (g : Nat → Int32) (q : Int32) (esc : Int32) : Nat → Nat → Nat
  | 0, _ => 56
  | f + 1, i => if i < 56 then if ¬ (esc = 0) ∧ g i = 92 then eqF g q esc f (i + 2) else if g i = q then i + 1 else eqF g q esc f (i + 1) else 56
theorem eqF_no {g : Nat → Int32} {q esc : Int32} : ∀ (f i : Nat), ¬ (i < 56) → eqF g q esc f i = 56
  | 0, _, _ => rfl
  | f + 1, i, h => by unfold eqF; rw [if_neg h]
def D40 : List (Nat × Instr × Nat) := [(0, .aload_n 0, 1), (1, .getfield 22, 3), (4, .iload_n 1, 1), (5, .invokevirtual 64, 3), (8, .istore_n 3, 1), (9, .iload_n 1, 1), (10, .iconst 1, 1), (11, .iadd, 1), (12, .istore 4, 2), (14, .iload 4, 2), (16, .aload_n 0, 1), (17, .getfield 22, 3), (20, .invokevirtual 58, 3), (23, .if_icmp .ge 48, 3), (26, .aload_n 0, 1), (27, .getfield 22, 3), (30, .iload 4, 2), (32, .invokevirtual 64, 3), (35, .istore 5, 2), (37, .iload_n 2, 1), (38, .ifCond .eq 16, 3), (41, .iload 5, 2), (43, .bipush 92, 2), (45, .if_icmp .ne 9, 3), (48, .iinc 4 2, 3), (51, .goto 17, 3), (54, .iload 5, 2), (56, .iload_n 3, 1), (57, .if_icmp .ne 8, 3), (60, .iload 4, 2), (62, .iconst 1, 1), (63, .iadd, 1), (64, .ireturn, 1), (65, .iinc 4 1, 3), (68, .goto (-54), 3), (71, .aload_n 0, 1), (72, .getfield 22, 3), (75, .invokevirtual 58, 3), (78, .ireturn, 1)]
theorem d40 : ∀ x ∈ D40, decode prog_11_method_10_code x.1 = .ok x.2 := by decide +kernel
theorem pn_40 : plainName "com/example/killdeer/killdeer/EndingStatements" = true := by first | (simp [plainName, overriddenIn]; done) | decide +kernel
theorem ef_40 (m : MethodId) (x0 : Addr) (x1 : Int32) (x2 : Int32) : entryFrame m #[(.ref x0), (.int x1), (.int x2)] 6 = mkF m 0 #[.val (.ref x0), .val (.int x1), .val (.int x2), .unset, .unset, .unset] [] := by first | (simp [entryFrame, mkF, argsToLocals, Value.category]; done) | rfl
theorem tnEQe {p : Program} {l : Launch} {e : Env} {s : State} {m : MethodId} {args : Array Value} {below : List Frame} {meth : Method} {c : Code} {Z : State} {a0 : Array Value} {h0 : Heap} {n0 : Nat} {T0 : State} {locs : List Loc} (r o : Addr) (op i : Nat) (g : Nat → Int32) (esc : Int32) (q : Slot) (hq : q = .unset ∨ ∃ x : Int32, q = .val (.int x)) (hx : p.tables.exec = Jvm.exec) (hZ : Z.Warmed39 s.vm) (hw : HW Z a0) (hby : c.code = prog_11_method_10_code) (hml : c.maxLocals = 6) (hown : s.vm.findClass "com/example/killdeer/killdeer/EndingStatements" = some m.cls) (Z0 : n0 ≤ h0.size) (X0 : Stand p l e (rM 4 70 0 0) s m args below meth c T0 locs 0 0) (e0 : T0.heap = h0) (N0 : Fr n0 locs) (O : Old Z n0 h0) (SK : StrSta Z) (ER : Exa Z h0 r "com/example/killdeer/killdeer/EndingStatements") (FT : Fld Z h0 r "com/example/killdeer/killdeer/EndingStatements" "text" "Ljava/lang/String;" (.ref o)) (ST0 : Str Z h0 o 56 g) (hgB : allB g) (hi : i < 56) (hes : ¬ (esc = 0)) (h92 : g i = 92) :
    ∃ (T' : State) (locs' : List Loc), Stand p l e (rM 4 70 0 0) s m args below meth c T' locs' 0 0 ∧ T'.heap = h0 ∧ Fr n0 locs' ∧ ∀ target, Steps p.tables e below (T'.setTop (mkF m 14 #[vR r, vI (iN op), vI esc, vI (g op), vI (iN (i + 2)), vI (g i)] [])) target → Steps p.tables e below (T0.setTop (mkF m 14 #[vR r, vI (iN op), vI esc, vI (g op), vI (iN i), q] [])) target := by
  have hD := dk hby d40
  have EO := ST0.1
  obtain ⟨T122, X122, e122, st122⟩ := zF X0 hx hZ hown (hwi hw 104 rfl) e0 FT 17 #[vR r, vI (iN op), vI esc, vI (g op), vI (iN i), q] [(.int (iN i))] (hD 11 rfl)
  obtain ⟨T123, L123, X123, e123, N123, st123⟩ := vLEN X122 hx hZ hown e122 N0 hw (hwi hw 114 rfl) Z0 (by decide) O SK ST0 20 #[vR r, vI (iN op), vI esc, vI (g op), vI (iN i), q] [(.int (iN i))] hml (hD 12 rfl) 1
  obtain ⟨T124, X124, e124, st124⟩ := zF X123 hx hZ hown (hwi hw 104 rfl) e123 FT 27 #[vR r, vI (iN op), vI esc, vI (g op), vI (iN i), q] [] (hD 15 rfl)
  obtain ⟨T125, L125, X125, e125, N125, st125⟩ := vCA X124 hx hZ hown e124 N123 hw (hwi hw 115 rfl) Z0 (by decide) i (iN i) hi O SK ST0 (hgB _) 32 #[vR r, vI (iN op), vI esc, vI (g op), vI (iN i), q] [] hml (hD 17 rfl) 0
  refine ⟨_, _, X125, e125, N125, fun target kt => ?_⟩
  refine zl X0 hx (hD 9 rfl) rfl ?_
  refine zA X0 hx (hD 10 rfl) rfl rfl ?_
  refine st122 _ ?_
  refine st123 _ ?_
  refine zN X123 hx (hD 13 rfl) (tlt ((ltN (by omega) (by decide)).mpr hi)).2.1 ?_
  refine zA X123 hx (hD 14 rfl) rfl rfl ?_
  refine st124 _ ?_
  refine zl X124 hx (hD 16 rfl) rfl ?_
  refine st125 _ ?_
  refine zs X125 hx (hD 18 rfl) (L' := #[vR r, vI (iN op), vI esc, vI (g op), vI (iN i), vI (g i)]) (by rcases hq with rfl | ⟨_, rfl⟩ <;> rfl) ?_
  refine zL X125 hx (hD 19 rfl) rfl ?_
  refine zJ X125 hx (hD 20 rfl) ((if0 _ _).trans (feq hes).1) ?_
  refine zl X125 hx (hD 21 rfl) rfl ?_
  refine zB X125 hx (hD 22 rfl) ?_
  refine zN X125 hx (hD 23 rfl) (teq h92).2 ?_
  refine XS.iinc X125.here hx rfl (hD 24 rfl) rfl (l' := #[vR r, vI (iN op), vI esc, vI (g op), vI ((iN i) + (2 : Int32)), vI (g i)]) rfl ?_
  show Steps p.tables e below (T125.setTop (mkF m 51 #[vR r, vI (iN op), vI esc, vI (g op), vI ((iN i) + (2 : Int32)), vI (g i)] [])) _
  rw [show ((iN i) + (2 : Int32)) = (iN (i + 2)) from addN (m := 2)]
  refine zG X125 hx 68 (hD 25 rfl) rfl ?_
  refine zG X125 hx 14 (hD 34 rfl) rfl ?_
  exact kt
theorem tnEQa {p : Program} {l : Launch} {e : Env} {s : State} {m : MethodId} {args : Array Value} {below : List Frame} {meth : Method} {c : Code} {Z : State} {a0 : Array Value} {h0 : Heap} {n0 : Nat} {T0 : State} {locs : List Loc} (r o : Addr) (op i : Nat) (g : Nat → Int32) (esc : Int32) (q : Slot) (hq : q = .unset ∨ ∃ x : Int32, q = .val (.int x)) (hx : p.tables.exec = Jvm.exec) (hZ : Z.Warmed39 s.vm) (hw : HW Z a0) (hby : c.code = prog_11_method_10_code) (hml : c.maxLocals = 6) (hown : s.vm.findClass "com/example/killdeer/killdeer/EndingStatements" = some m.cls) (Z0 : n0 ≤ h0.size) (X0 : Stand p l e (rM 4 70 0 0) s m args below meth c T0 locs 0 0) (e0 : T0.heap = h0) (N0 : Fr n0 locs) (O : Old Z n0 h0) (SK : StrSta Z) (ER : Exa Z h0 r "com/example/killdeer/killdeer/EndingStatements") (FT : Fld Z h0 r "com/example/killdeer/killdeer/EndingStatements" "text" "Ljava/lang/String;" (.ref o)) (ST0 : Str Z h0 o 56 g) (hgB : allB g) (hi : i < 56) (hes : esc = 0) (hqt : ¬ (g i = g op)) :
    ∃ (T' : State) (locs' : List Loc), Stand p l e (rM 4 70 0 0) s m args below meth c T' locs' 0 0 ∧ T'.heap = h0 ∧ Fr n0 locs' ∧ ∀ target, Steps p.tables e below (T'.setTop (mkF m 14 #[vR r, vI (iN op), vI esc, vI (g op), vI (iN (i + 1)), vI (g i)] [])) target → Steps p.tables e below (T0.setTop (mkF m 14 #[vR r, vI (iN op), vI esc, vI (g op), vI (iN i), q] [])) target := by
  have hD := dk hby d40
  have EO := ST0.1
  obtain ⟨T126, X126, e126, st126⟩ := zF X0 hx hZ hown (hwi hw 104 rfl) e0 FT 17 #[vR r, vI (iN op), vI esc, vI (g op), vI (iN i), q] [(.int (iN i))] (hD 11 rfl)
  obtain ⟨T127, L127, X127, e127, N127, st127⟩ := vLEN X126 hx hZ hown e126 N0 hw (hwi hw 114 rfl) Z0 (by decide) O SK ST0 20 #[vR r, vI (iN op), vI esc, vI (g op), vI (iN i), q] [(.int (iN i))] hml (hD 12 rfl) 1
  obtain ⟨T128, X128, e128, st128⟩ := zF X127 hx hZ hown (hwi hw 104 rfl) e127 FT 27 #[vR r, vI (iN op), vI esc, vI (g op), vI (iN i), q] [] (hD 15 rfl)
  obtain ⟨T129, L129, X129, e129, N129, st129⟩ := vCA X128 hx hZ hown e128 N127 hw (hwi hw 115 rfl) Z0 (by decide) i (iN i) hi O SK ST0 (hgB _) 32 #[vR r, vI (iN op), vI esc, vI (g op), vI (iN i), q] [] hml (hD 17 rfl) 0
  refine ⟨_, _, X129, e129, N129, fun target kt => ?_⟩
  refine zl X0 hx (hD 9 rfl) rfl ?_
  refine zA X0 hx (hD 10 rfl) rfl rfl ?_
  refine st126 _ ?_
  refine st127 _ ?_
  refine zN X127 hx (hD 13 rfl) (tlt ((ltN (by omega) (by decide)).mpr hi)).2.1 ?_
  refine zA X127 hx (hD 14 rfl) rfl rfl ?_
  refine st128 _ ?_
  refine zl X128 hx (hD 16 rfl) rfl ?_
  refine st129 _ ?_
  refine zs X129 hx (hD 18 rfl) (L' := #[vR r, vI (iN op), vI esc, vI (g op), vI (iN i), vI (g i)]) (by rcases hq with rfl | ⟨_, rfl⟩ <;> rfl) ?_
  refine zL X129 hx (hD 19 rfl) rfl ?_
  refine zI X129 hx 54 (hD 20 rfl) ((if0 _ _).trans (teq hes).1) rfl ?_
  refine zl X129 hx (hD 26 rfl) rfl ?_
  refine zL X129 hx (hD 27 rfl) rfl ?_
  refine zM X129 hx 65 (hD 28 rfl) (feq hqt).2 rfl ?_
  refine XS.iinc X129.here hx rfl (hD 33 rfl) rfl (l' := #[vR r, vI (iN op), vI esc, vI (g op), vI ((iN i) + (1 : Int32)), vI (g i)]) rfl ?_
  show Steps p.tables e below (T129.setTop (mkF m 68 #[vR r, vI (iN op), vI esc, vI (g op), vI ((iN i) + (1 : Int32)), vI (g i)] [])) _
  rw [show ((iN i) + (1 : Int32)) = (iN (i + 1)) from addN (m := 1)]
  refine zG X129 hx 14 (hD 34 rfl) rfl ?_
  exact kt
theorem tnEQb {p : Program} {l : Launch} {e : Env} {s : State} {m : MethodId} {args : Array Value} {below : List Frame} {meth : Method} {c : Code} {Z : State} {a0 : Array Value} {h0 : Heap} {n0 : Nat} {T0 : State} {locs : List Loc} (r o : Addr) (op i : Nat) (g : Nat → Int32) (esc : Int32) (q : Slot) (hq : q = .unset ∨ ∃ x : Int32, q = .val (.int x)) (hx : p.tables.exec = Jvm.exec) (hZ : Z.Warmed39 s.vm) (hw : HW Z a0) (hby : c.code = prog_11_method_10_code) (hml : c.maxLocals = 6) (hown : s.vm.findClass "com/example/killdeer/killdeer/EndingStatements" = some m.cls) (Z0 : n0 ≤ h0.size) (X0 : Stand p l e (rM 4 70 0 0) s m args below meth c T0 locs 0 0) (e0 : T0.heap = h0) (N0 : Fr n0 locs) (O : Old Z n0 h0) (SK : StrSta Z) (ER : Exa Z h0 r "com/example/killdeer/killdeer/EndingStatements") (FT : Fld Z h0 r "com/example/killdeer/killdeer/EndingStatements" "text" "Ljava/lang/String;" (.ref o)) (ST0 : Str Z h0 o 56 g) (hgB : allB g) (hi : i < 56) (hes : ¬ (esc = 0)) (h92 : ¬ (g i = 92)) (hqt : ¬ (g i = g op)) :
    ∃ (T' : State) (locs' : List Loc), Stand p l e (rM 4 70 0 0) s m args below meth c T' locs' 0 0 ∧ T'.heap = h0 ∧ Fr n0 locs' ∧ ∀ target, Steps p.tables e below (T'.setTop (mkF m 14 #[vR r, vI (iN op), vI esc, vI (g op), vI (iN (i + 1)), vI (g i)] [])) target → Steps p.tables e below (T0.setTop (mkF m 14 #[vR r, vI (iN op), vI esc, vI (g op), vI (iN i), q] [])) target := by
  have hD := dk hby d40
  have EO := ST0.1
  obtain ⟨T130, X130, e130, st130⟩ := zF X0 hx hZ hown (hwi hw 104 rfl) e0 FT 17 #[vR r, vI (iN op), vI esc, vI (g op), vI (iN i), q] [(.int (iN i))] (hD 11 rfl)
  obtain ⟨T131, L131, X131, e131, N131, st131⟩ := vLEN X130 hx hZ hown e130 N0 hw (hwi hw 114 rfl) Z0 (by decide) O SK ST0 20 #[vR r, vI (iN op), vI esc, vI (g op), vI (iN i), q] [(.int (iN i))] hml (hD 12 rfl) 1
  obtain ⟨T132, X132, e132, st132⟩ := zF X131 hx hZ hown (hwi hw 104 rfl) e131 FT 27 #[vR r, vI (iN op), vI esc, vI (g op), vI (iN i), q] [] (hD 15 rfl)
  obtain ⟨T133, L133, X133, e133, N133, st133⟩ := vCA X132 hx hZ hown e132 N131 hw (hwi hw 115 rfl) Z0 (by decide) i (iN i) hi O SK ST0 (hgB _) 32 #[vR r, vI (iN op), vI esc, vI (g op), vI (iN i), q] [] hml (hD 17 rfl) 0
  refine ⟨_, _, X133, e133, N133, fun target kt => ?_⟩
  refine zl X0 hx (hD 9 rfl) rfl ?_
  refine zA X0 hx (hD 10 rfl) rfl rfl ?_
  refine st130 _ ?_
  refine st131 _ ?_
  refine zN X131 hx (hD 13 rfl) (tlt ((ltN (by omega) (by decide)).mpr hi)).2.1 ?_
  refine zA X131 hx (hD 14 rfl) rfl rfl ?_
  refine st132 _ ?_
  refine zl X132 hx (hD 16 rfl) rfl ?_
  refine st133 _ ?_
  refine zs X133 hx (hD 18 rfl) (L' := #[vR r, vI (iN op), vI esc, vI (g op), vI (iN i), vI (g i)]) (by rcases hq with rfl | ⟨_, rfl⟩ <;> rfl) ?_
  refine zL X133 hx (hD 19 rfl) rfl ?_
  refine zJ X133 hx (hD 20 rfl) ((if0 _ _).trans (feq hes).1) ?_
  refine zl X133 hx (hD 21 rfl) rfl ?_
  refine zB X133 hx (hD 22 rfl) ?_
  refine zM X133 hx 54 (hD 23 rfl) (feq h92).2 rfl ?_
  refine zl X133 hx (hD 26 rfl) rfl ?_
  refine zL X133 hx (hD 27 rfl) rfl ?_
  refine zM X133 hx 65 (hD 28 rfl) (feq hqt).2 rfl ?_
  refine XS.iinc X133.here hx rfl (hD 33 rfl) rfl (l' := #[vR r, vI (iN op), vI esc, vI (g op), vI ((iN i) + (1 : Int32)), vI (g i)]) rfl ?_
  show Steps p.tables e below (T133.setTop (mkF m 68 #[vR r, vI (iN op), vI esc, vI (g op), vI ((iN i) + (1 : Int32)), vI (g i)] [])) _
  rw [show ((iN i) + (1 : Int32)) = (iN (i + 1)) from addN (m := 1)]
  refine zG X133 hx 14 (hD 34 rfl) rfl ?_
  exact kt
theorem exEQn {p : Program} {l : Launch} {e : Env} {s : State} {m : MethodId} {args : Array Value} {below : List Frame} {meth : Method} {c : Code} {Z : State} {a0 : Array Value} {h0 : Heap} {n0 : Nat} {T0 : State} {locs : List Loc} (r o : Addr) (op i : Nat) (g : Nat → Int32) (esc : Int32) (q : Slot) (hq : q = .unset ∨ ∃ x : Int32, q = .val (.int x)) (hx : p.tables.exec = Jvm.exec) (hZ : Z.Warmed39 s.vm) (hw : HW Z a0) (hby : c.code = prog_11_method_10_code) (hml : c.maxLocals = 6) (hown : s.vm.findClass "com/example/killdeer/killdeer/EndingStatements" = some m.cls) (Z0 : n0 ≤ h0.size) (X0 : Stand p l e (rM 4 70 0 0) s m args below meth c T0 locs 0 0) (e0 : T0.heap = h0) (N0 : Fr n0 locs) (O : Old Z n0 h0) (SK : StrSta Z) (ER : Exa Z h0 r "com/example/killdeer/killdeer/EndingStatements") (FT : Fld Z h0 r "com/example/killdeer/killdeer/EndingStatements" "text" "Ljava/lang/String;" (.ref o)) (ST0 : Str Z h0 o 56 g) (hgB : allB g) (hi : ¬ (i < 56)) (hi2 : i < 1000) :
    ∃ (T' : State) (locs' : List Loc) (L' : Array Slot), Stand p l e (rM 4 70 0 0) s m args below meth c T' locs' 0 0 ∧ T'.heap = h0 ∧ Fr n0 locs' ∧ ∀ target, Steps p.tables e below (T'.setTop (mkF m 78 L' [.int (iN 56)])) target → Steps p.tables e below (T0.setTop (mkF m 14 #[vR r, vI (iN op), vI esc, vI (g op), vI (iN i), q] [])) target := by
  have hD := dk hby d40
  have EO := ST0.1
  obtain ⟨T134, X134, e134, st134⟩ := zF X0 hx hZ hown (hwi hw 104 rfl) e0 FT 17 #[vR r, vI (iN op), vI esc, vI (g op), vI (iN i), q] [(.int (iN i))] (hD 11 rfl)
  obtain ⟨T135, L135, X135, e135, N135, st135⟩ := vLEN X134 hx hZ hown e134 N0 hw (hwi hw 114 rfl) Z0 (by decide) O SK ST0 20 #[vR r, vI (iN op), vI esc, vI (g op), vI (iN i), q] [(.int (iN i))] hml (hD 12 rfl) 1
  obtain ⟨T136, X136, e136, st136⟩ := zF X135 hx hZ hown (hwi hw 104 rfl) e135 FT 72 #[vR r, vI (iN op), vI esc, vI (g op), vI (iN i), q] [] (hD 36 rfl)
  obtain ⟨T137, L137, X137, e137, N137, st137⟩ := vLEN X136 hx hZ hown e136 N135 hw (hwi hw 114 rfl) Z0 (by decide) O SK ST0 75 #[vR r, vI (iN op), vI esc, vI (g op), vI (iN i), q] [] hml (hD 37 rfl) 0
  refine ⟨_, _, #[vR r, vI (iN op), vI esc, vI (g op), vI (iN i), q], X137, e137, N137, fun target kt => ?_⟩
  refine zl X0 hx (hD 9 rfl) rfl ?_
  refine zA X0 hx (hD 10 rfl) rfl rfl ?_
  refine st134 _ ?_
  refine st135 _ ?_
  refine zM X135 hx 71 (hD 13 rfl) (flt (fun q => hi ((ltN (by omega) (by decide)).mp q))).2.1 rfl ?_
  refine zA X135 hx (hD 35 rfl) rfl rfl ?_
  refine st136 _ ?_
  refine st137 _ ?_
  exact kt
theorem exEQa {p : Program} {l : Launch} {e : Env} {s : State} {m : MethodId} {args : Array Value} {below : List Frame} {meth : Method} {c : Code} {Z : State} {a0 : Array Value} {h0 : Heap} {n0 : Nat} {T0 : State} {locs : List Loc} (r o : Addr) (op i : Nat) (g : Nat → Int32) (esc : Int32) (q : Slot) (hq : q = .unset ∨ ∃ x : Int32, q = .val (.int x)) (hx : p.tables.exec = Jvm.exec) (hZ : Z.Warmed39 s.vm) (hw : HW Z a0) (hby : c.code = prog_11_method_10_code) (hml : c.maxLocals = 6) (hown : s.vm.findClass "com/example/killdeer/killdeer/EndingStatements" = some m.cls) (Z0 : n0 ≤ h0.size) (X0 : Stand p l e (rM 4 70 0 0) s m args below meth c T0 locs 0 0) (e0 : T0.heap = h0) (N0 : Fr n0 locs) (O : Old Z n0 h0) (SK : StrSta Z) (ER : Exa Z h0 r "com/example/killdeer/killdeer/EndingStatements") (FT : Fld Z h0 r "com/example/killdeer/killdeer/EndingStatements" "text" "Ljava/lang/String;" (.ref o)) (ST0 : Str Z h0 o 56 g) (hgB : allB g) (hi : i < 56) (hes : esc = 0) (hqt : g i = g op) :
    ∃ (T' : State) (locs' : List Loc) (L' : Array Slot), Stand p l e (rM 4 70 0 0) s m args below meth c T' locs' 0 0 ∧ T'.heap = h0 ∧ Fr n0 locs' ∧ ∀ target, Steps p.tables e below (T'.setTop (mkF m 64 L' [.int (iN (i + 1))])) target → Steps p.tables e below (T0.setTop (mkF m 14 #[vR r, vI (iN op), vI esc, vI (g op), vI (iN i), q] [])) target := by
  have hD := dk hby d40
  have EO := ST0.1
  obtain ⟨T138, X138, e138, st138⟩ := zF X0 hx hZ hown (hwi hw 104 rfl) e0 FT 17 #[vR r, vI (iN op), vI esc, vI (g op), vI (iN i), q] [(.int (iN i))] (hD 11 rfl)
  obtain ⟨T139, L139, X139, e139, N139, st139⟩ := vLEN X138 hx hZ hown e138 N0 hw (hwi hw 114 rfl) Z0 (by decide) O SK ST0 20 #[vR r, vI (iN op), vI esc, vI (g op), vI (iN i), q] [(.int (iN i))] hml (hD 12 rfl) 1
  obtain ⟨T140, X140, e140, st140⟩ := zF X139 hx hZ hown (hwi hw 104 rfl) e139 FT 27 #[vR r, vI (iN op), vI esc, vI (g op), vI (iN i), q] [] (hD 15 rfl)
  obtain ⟨T141, L141, X141, e141, N141, st141⟩ := vCA X140 hx hZ hown e140 N139 hw (hwi hw 115 rfl) Z0 (by decide) i (iN i) hi O SK ST0 (hgB _) 32 #[vR r, vI (iN op), vI esc, vI (g op), vI (iN i), q] [] hml (hD 17 rfl) 0
  refine ⟨_, _, #[vR r, vI (iN op), vI esc, vI (g op), vI (iN i), vI (g i)], X141, e141, N141, fun target kt => ?_⟩
  refine zl X0 hx (hD 9 rfl) rfl ?_
  refine zA X0 hx (hD 10 rfl) rfl rfl ?_
  refine st138 _ ?_
  refine st139 _ ?_
  refine zN X139 hx (hD 13 rfl) (tlt ((ltN (by omega) (by decide)).mpr hi)).2.1 ?_
  refine zA X139 hx (hD 14 rfl) rfl rfl ?_
  refine st140 _ ?_
  refine zl X140 hx (hD 16 rfl) rfl ?_
  refine st141 _ ?_
  refine zs X141 hx (hD 18 rfl) (L' := #[vR r, vI (iN op), vI esc, vI (g op), vI (iN i), vI (g i)]) (by rcases hq with rfl | ⟨_, rfl⟩ <;> rfl) ?_
  refine zL X141 hx (hD 19 rfl) rfl ?_
  refine zI X141 hx 54 (hD 20 rfl) ((if0 _ _).trans (teq hes).1) rfl ?_
  refine zl X141 hx (hD 26 rfl) rfl ?_
  refine zL X141 hx (hD 27 rfl) rfl ?_
  refine zN X141 hx (hD 28 rfl) (teq hqt).2 ?_
  refine zl X141 hx (hD 29 rfl) rfl ?_
  refine zC X141 hx (hD 30 rfl) ?_
  refine zPl X141 hx (hD 31 rfl) (z := (iN (i + 1))) (succN i) ?_
  exact kt
theorem exEQb {p : Program} {l : Launch} {e : Env} {s : State} {m : MethodId} {args : Array Value} {below : List Frame} {meth : Method} {c : Code} {Z : State} {a0 : Array Value} {h0 : Heap} {n0 : Nat} {T0 : State} {locs : List Loc} (r o : Addr) (op i : Nat) (g : Nat → Int32) (esc : Int32) (q : Slot) (hq : q = .unset ∨ ∃ x : Int32, q = .val (.int x)) (hx : p.tables.exec = Jvm.exec) (hZ : Z.Warmed39 s.vm) (hw : HW Z a0) (hby : c.code = prog_11_method_10_code) (hml : c.maxLocals = 6) (hown : s.vm.findClass "com/example/killdeer/killdeer/EndingStatements" = some m.cls) (Z0 : n0 ≤ h0.size) (X0 : Stand p l e (rM 4 70 0 0) s m args below meth c T0 locs 0 0) (e0 : T0.heap = h0) (N0 : Fr n0 locs) (O : Old Z n0 h0) (SK : StrSta Z) (ER : Exa Z h0 r "com/example/killdeer/killdeer/EndingStatements") (FT : Fld Z h0 r "com/example/killdeer/killdeer/EndingStatements" "text" "Ljava/lang/String;" (.ref o)) (ST0 : Str Z h0 o 56 g) (hgB : allB g) (hi : i < 56) (hes : ¬ (esc = 0)) (h92 : ¬ (g i = 92)) (hqt : g i = g op) :
    ∃ (T' : State) (locs' : List Loc) (L' : Array Slot), Stand p l e (rM 4 70 0 0) s m args below meth c T' locs' 0 0 ∧ T'.heap = h0 ∧ Fr n0 locs' ∧ ∀ target, Steps p.tables e below (T'.setTop (mkF m 64 L' [.int (iN (i + 1))])) target → Steps p.tables e below (T0.setTop (mkF m 14 #[vR r, vI (iN op), vI esc, vI (g op), vI (iN i), q] [])) target := by
  have hD := dk hby d40
  have EO := ST0.1
  obtain ⟨T142, X142, e142, st142⟩ := zF X0 hx hZ hown (hwi hw 104 rfl) e0 FT 17 #[vR r, vI (iN op), vI esc, vI (g op), vI (iN i), q] [(.int (iN i))] (hD 11 rfl)
  obtain ⟨T143, L143, X143, e143, N143, st143⟩ := vLEN X142 hx hZ hown e142 N0 hw (hwi hw 114 rfl) Z0 (by decide) O SK ST0 20 #[vR r, vI (iN op), vI esc, vI (g op), vI (iN i), q] [(.int (iN i))] hml (hD 12 rfl) 1
  obtain ⟨T144, X144, e144, st144⟩ := zF X143 hx hZ hown (hwi hw 104 rfl) e143 FT 27 #[vR r, vI (iN op), vI esc, vI (g op), vI (iN i), q] [] (hD 15 rfl)
  obtain ⟨T145, L145, X145, e145, N145, st145⟩ := vCA X144 hx hZ hown e144 N143 hw (hwi hw 115 rfl) Z0 (by decide) i (iN i) hi O SK ST0 (hgB _) 32 #[vR r, vI (iN op), vI esc, vI (g op), vI (iN i), q] [] hml (hD 17 rfl) 0
  refine ⟨_, _, #[vR r, vI (iN op), vI esc, vI (g op), vI (iN i), vI (g i)], X145, e145, N145, fun target kt => ?_⟩
  refine zl X0 hx (hD 9 rfl) rfl ?_
  refine zA X0 hx (hD 10 rfl) rfl rfl ?_
  refine st142 _ ?_
  refine st143 _ ?_
  refine zN X143 hx (hD 13 rfl) (tlt ((ltN (by omega) (by decide)).mpr hi)).2.1 ?_
  refine zA X143 hx (hD 14 rfl) rfl rfl ?_
  refine st144 _ ?_
  refine zl X144 hx (hD 16 rfl) rfl ?_
  refine st145 _ ?_
  refine zs X145 hx (hD 18 rfl) (L' := #[vR r, vI (iN op), vI esc, vI (g op), vI (iN i), vI (g i)]) (by rcases hq with rfl | ⟨_, rfl⟩ <;> rfl) ?_
  refine zL X145 hx (hD 19 rfl) rfl ?_
  refine zJ X145 hx (hD 20 rfl) ((if0 _ _).trans (feq hes).1) ?_
  refine zl X145 hx (hD 21 rfl) rfl ?_
  refine zB X145 hx (hD 22 rfl) ?_
  refine zM X145 hx 54 (hD 23 rfl) (feq h92).2 rfl ?_
  refine zl X145 hx (hD 26 rfl) rfl ?_
  refine zL X145 hx (hD 27 rfl) rfl ?_
  refine zN X145 hx (hD 28 rfl) (teq hqt).2 ?_
  refine zl X145 hx (hD 29 rfl) rfl ?_
  refine zC X145 hx (hD 30 rfl) ?_
  refine zPl X145 hx (hD 31 rfl) (z := (iN (i + 1))) (succN i) ?_
  exact kt
theorem lpEQ {p : Program} {l : Launch} {e : Env} {s : State} {m : MethodId} {args : Array Value} {below : List Frame} {meth : Method} {c : Code} {Z : State} {a0 : Array Value} {h0 : Heap} {n0 : Nat} (r o : Addr) (op : Nat) (g : Nat → Int32) (esc : Int32) (hx : p.tables.exec = Jvm.exec) (hZ : Z.Warmed39 s.vm) (hw : HW Z a0) (hby : c.code = prog_11_method_10_code) (hml : c.maxLocals = 6) (hown : s.vm.findClass "com/example/killdeer/killdeer/EndingStatements" = some m.cls) (Z0 : n0 ≤ h0.size) (O : Old Z n0 h0) (SK : StrSta Z) (ER : Exa Z h0 r "com/example/killdeer/killdeer/EndingStatements") (FT : Fld Z h0 r "com/example/killdeer/killdeer/EndingStatements" "text" "Ljava/lang/String;" (.ref o)) (ST0 : Str Z h0 o 56 g) (hgB : allB g) : ∀ (f i : Nat) (q : Slot) (T0 : State) (locs : List Loc), (q = .unset ∨ ∃ x : Int32, q = .val (.int x)) → 56 ≤ i + f → i < 60 → Stand p l e (rM 4 70 0 0) s m args below meth c T0 locs 0 0 → T0.heap = h0 → Fr n0 locs →
    ∃ (T' : State) (locs' : List Loc) (L' : Array Slot) (pc' : Nat), (pc' = 64 ∨ pc' = 78) ∧ Stand p l e (rM 4 70 0 0) s m args below meth c T' locs' 0 0 ∧ T'.heap = h0 ∧ Fr n0 locs' ∧ ∀ target, Steps p.tables e below (T'.setTop (mkF m pc' L' [.int (iN (eqF g (g op) esc f i))])) target → Steps p.tables e below (T0.setTop (mkF m 14 #[vR r, vI (iN op), vI esc, vI (g op), vI (iN i), q] [])) target := by
  intro f
  induction f with
  | zero =>
    intro i q T0 locs hq hf hi X0 e0 N0
    obtain ⟨T1, l1, L1, X1, e1, N1, st1⟩ := exEQn r o op i g esc q hq hx hZ hw hby hml hown Z0 X0 e0 N0 O SK ER FT ST0 hgB (by omega) (by omega)
    exact ⟨T1, l1, L1, 78, Or.inr rfl, X1, e1, N1, st1⟩
  | succ f ih =>
    intro i q T0 locs hq hf hi X0 e0 N0
    unfold eqF
    by_cases h56 : i < 56
    · rw [if_pos h56]
      by_cases hes : esc = 0
      · rw [if_neg (fun z => z.1 hes)]
        by_cases hqt : g i = g op
        · rw [if_pos hqt]
          obtain ⟨T1, l1, L1, X1, e1, N1, st1⟩ := exEQa r o op i g esc q hq hx hZ hw hby hml hown Z0 X0 e0 N0 O SK ER FT ST0 hgB h56 hes hqt
          exact ⟨T1, l1, L1, 64, Or.inl rfl, X1, e1, N1, st1⟩
        · rw [if_neg hqt]
          obtain ⟨T1, l1, X1, e1, N1, st1⟩ := tnEQa r o op i g esc q hq hx hZ hw hby hml hown Z0 X0 e0 N0 O SK ER FT ST0 hgB h56 hes hqt
          obtain ⟨T2, l2, L2, p2, hp, X2, e2, N2, st2⟩ := ih (i + 1) _ T1 l1 (Or.inr ⟨_, rfl⟩) (by omega) (by omega) X1 e1 N1
          exact ⟨T2, l2, L2, p2, hp, X2, e2, N2, fun target kt => st1 target (st2 target kt)⟩
      · by_cases h92 : g i = 92
        · rw [if_pos ⟨hes, h92⟩]
          obtain ⟨T1, l1, X1, e1, N1, st1⟩ := tnEQe r o op i g esc q hq hx hZ hw hby hml hown Z0 X0 e0 N0 O SK ER FT ST0 hgB h56 hes h92
          obtain ⟨T2, l2, L2, p2, hp, X2, e2, N2, st2⟩ := ih (i + 2) _ T1 l1 (Or.inr ⟨_, rfl⟩) (by omega) (by omega) X1 e1 N1
          exact ⟨T2, l2, L2, p2, hp, X2, e2, N2, fun target kt => st1 target (st2 target kt)⟩
        · rw [if_neg (fun z => h92 z.2)]
          by_cases hqt : g i = g op
          · rw [if_pos hqt]
            obtain ⟨T1, l1, L1, X1, e1, N1, st1⟩ := exEQb r o op i g esc q hq hx hZ hw hby hml hown Z0 X0 e0 N0 O SK ER FT ST0 hgB h56 hes h92 hqt
            exact ⟨T1, l1, L1, 64, Or.inl rfl, X1, e1, N1, st1⟩
          · rw [if_neg hqt]
            obtain ⟨T1, l1, X1, e1, N1, st1⟩ := tnEQb r o op i g esc q hq hx hZ hw hby hml hown Z0 X0 e0 N0 O SK ER FT ST0 hgB h56 hes h92 hqt
            obtain ⟨T2, l2, L2, p2, hp, X2, e2, N2, st2⟩ := ih (i + 1) _ T1 l1 (Or.inr ⟨_, rfl⟩) (by omega) (by omega) X1 e1 N1
            exact ⟨T2, l2, L2, p2, hp, X2, e2, N2, fun target kt => st1 target (st2 target kt)⟩
    · rw [if_neg h56]
      obtain ⟨T1, l1, L1, X1, e1, N1, st1⟩ := exEQn r o op i g esc q hq hx hZ hw hby hml hown Z0 X0 e0 N0 O SK ER FT ST0 hgB h56 (by omega)
      exact ⟨T1, l1, L1, 78, Or.inr rfl, X1, e1, N1, st1⟩
theorem rmEQF (hw : HW Z a0) (ws : List Jvm.Cond) (r o : Addr) (op : Nat) (g : Nat → Int32) (esc : Int32)  (h0 : Heap) (n0 : Nat) (Z0 : n0 ≤ h0.size) (hop : op < 56) (O : Old Z n0 h0) (SK : StrSta Z) (ER : Exa Z h0 r "com/example/killdeer/killdeer/EndingStatements") (FT : Fld Z h0 r "com/example/killdeer/killdeer/EndingStatements" "text" "Ljava/lang/String;" (.ref o)) (ST0 : Str Z h0 o 56 g) (hgB : allB g)  :
    MF l Z (⟨"com/example/killdeer/killdeer/EndingStatements", "endOfQuoted", "(IZ)I"⟩ : MethodName) prog_11_method_10_code 6 (some .int) ws (rM 4 70 0 0) #[(.ref r), (.int (iN op)), (.int esc)] h0 (QI (iN (eqF g (g op) esc 60 (op + 1))) h0 n0) := by
  refine zBody pn_40 (fun m => ef_40 m r (iN op) esc) ?_
  intro p e s m below meth c s₁ Bd hx hby hml hown hZ hh X0 e0 pre0
  have hD := dk hby d40
  have N0 := Fr.nil n0
  have EO := ST0.1
  obtain ⟨T146, X146, e146, st146⟩ := zF X0 hx hZ hown (hwi hw 104 rfl) e0 FT 1 #[vR r, vI (iN op), vI esc, .unset, .unset, .unset] [] (hD 1 rfl)
  obtain ⟨T147, L147, X147, e147, N147, st147⟩ := vCA X146 hx hZ hown e146 N0 hw (hwi hw 115 rfl) Z0 (by decide) op (iN op) hop O SK ST0 (hgB _) 5 #[vR r, vI (iN op), vI esc, .unset, .unset, .unset] [] hml (hD 3 rfl) 0
  obtain ⟨T148, L148, F148, pc148, hpc148, X148, e148, N148, st148⟩ := lpEQ r o op g esc hx hZ hw hby hml hown Z0 O SK ER FT ST0 hgB 60 (op + 1) .unset _ _ (Or.inl rfl) (by omega) (by omega) X147 e147 N147
  refine zLv Bd X148 (v := some (.int (iN (eqF g (g op) esc 60 (op + 1))))) (by decide) nofun (fun fs hr => pre0 _ ?_) (by rw [e148]; exact ⟨rfl, N148, rfl⟩)
  refine zA X0 hx (hD 0 rfl) rfl rfl ?_
  refine st146 _ ?_
  refine zL X146 hx (hD 2 rfl) rfl ?_
  refine st147 _ ?_
  refine zS X147 hx (hD 4 rfl) rfl ?_
  refine zL X147 hx (hD 5 rfl) rfl ?_
  refine zC X147 hx (hD 6 rfl) ?_
  refine zPl X147 hx (hD 7 rfl) (z := (iN (op + 1))) (succN op) ?_
  refine zs X147 hx (hD 8 rfl) rfl ?_
  show Steps p.tables e below (T147.setTop (mkF m 14 #[vR r, vI (iN op), vI esc, vI (g op), vI (iN (op + 1)), .unset] [])) _
  refine st148 _ ?_
  rcases hpc148 with rfl | rfl
  · exact retI X148 hx Bd.returns (hD 32 rfl) hr
  · exact retI X148 hx Bd.returns (hD 38 rfl) hr
def D41 : List (Nat × Instr × Nat) := [(0, .iload_n 1, 1), (1, .aload_n 0, 1), (2, .getfield 22, 3), (5, .invokevirtual 58, 3), (8, .if_icmp .ge 14, 3), (11, .aload_n 0, 1), (12, .getfield 22, 3), (15, .iload_n 1, 1), (16, .invokevirtual 64, 3), (19, .goto 4, 3), (23, .ireturn, 1)]
theorem d41 : ∀ x ∈ D41, decode prog_11_method_15_code x.1 = .ok x.2 := by decide +kernel
theorem pn_41 : plainName "com/example/killdeer/killdeer/EndingStatements" = true := by first | (simp [plainName, overriddenIn]; done) | decide +kernel
theorem ef_41 (m : MethodId) (x0 : Addr) (x1 : Int32) : entryFrame m #[(.ref x0), (.int x1)] 2 = mkF m 0 #[.val (.ref x0), .val (.int x1)] [] := by first | (simp [entryFrame, mkF, argsToLocals, Value.category]; done) | rfl
theorem rmECA (hw : HW Z a0) (ws : List Jvm.Cond) (r o : Addr) (i : Nat) (g : Nat → Int32)  (h0 : Heap) (n0 : Nat) (Z0 : n0 ≤ h0.size) (hi : i < 56) (O : Old Z n0 h0) (SK : StrSta Z) (ER : Exa Z h0 r "com/example/killdeer/killdeer/EndingStatements") (FT : Fld Z h0 r "com/example/killdeer/killdeer/EndingStatements" "text" "Ljava/lang/String;" (.ref o)) (ST0 : Str Z h0 o 56 g) (hgB : allB g)  :
    MF l Z (⟨"com/example/killdeer/killdeer/EndingStatements", "charAt", "(I)C"⟩ : MethodName) prog_11_method_15_code 2 (some .char) ws (rM 4 66 0 0) #[(.ref r), (.int (iN i))] h0 (QI (g i) h0 n0) := by
  refine zBody pn_41 (fun m => ef_41 m r (iN i)) ?_
  intro p e s m below meth c s₁ Bd hx hby hml hown hZ hh X0 e0 pre0
  have hD := dk hby d41
  have N0 := Fr.nil n0
  have EO := ST0.1
  obtain ⟨T149, X149, e149, st149⟩ := zF X0 hx hZ hown (hwi hw 104 rfl) e0 FT 2 #[vR r, vI (iN i)] [(.int (iN i))] (hD 2 rfl)
  obtain ⟨T150, L150, X150, e150, N150, st150⟩ := vLEN X149 hx hZ hown e149 N0 hw (hwi hw 114 rfl) Z0 (by decide) O SK ST0 5 #[vR r, vI (iN i)] [(.int (iN i))] hml (hD 3 rfl) 1
  obtain ⟨T151, X151, e151, st151⟩ := zF X150 hx hZ hown (hwi hw 104 rfl) e150 FT 12 #[vR r, vI (iN i)] [] (hD 6 rfl)
  obtain ⟨T152, L152, X152, e152, N152, st152⟩ := vCA X151 hx hZ hown e151 N150 hw (hwi hw 115 rfl) Z0 (by decide) i (iN i) hi O SK ST0 (hgB _) 16 #[vR r, vI (iN i)] [] hml (hD 8 rfl) 0
  refine zLv Bd X152 (v := some (.int (nar .char (g i)))) (by decide) nofun (fun fs hr => pre0 _ ?_) (by rw [e152]; exact ⟨by rw [nar_id (isCh_of (hgB i))], N152, rfl⟩)
  refine zL X0 hx (hD 0 rfl) rfl ?_
  refine zA X0 hx (hD 1 rfl) rfl rfl ?_
  refine st149 _ ?_
  refine st150 _ ?_
  refine zN X150 hx (hD 4 rfl) (tlt ((ltN (by omega) (by decide)).mpr hi)).2.1 ?_
  refine zA X150 hx (hD 5 rfl) rfl rfl ?_
  refine st151 _ ?_
  refine zL X151 hx (hD 7 rfl) rfl ?_
  refine st152 _ ?_
  refine zG X152 hx 23 (hD 9 rfl) rfl ?_
  exact retN X152 hx (t := .char) Bd.returns (by simp) (hD 10 rfl) hr
def D26 : List (Nat × Instr × Nat) := [(0, .aload_n 0, 1), (1, .getfield 54, 3), (4, .istore_n 1, 1), (5, .aload_n 0, 1), (6, .getfield 54, 3), (9, .aload_n 0, 1), (10, .getfield 22, 3), (13, .invokevirtual 58, 3), (16, .if_icmp .ge 33, 3), (19, .aload_n 0, 1), (20, .getfield 22, 3), (23, .aload_n 0, 1), (24, .getfield 54, 3), (27, .invokevirtual 64, 3), (30, .invokestatic 125, 3), (33, .ifCond .eq 16, 3), (36, .aload_n 0, 1), (37, .dup, 1), (38, .getfield 54, 3), (41, .iconst 1, 1), (42, .iadd, 1), (43, .putfield 54, 3), (46, .goto (-41), 3), (49, .aload_n 0, 1), (50, .getfield 22, 3), (53, .iload_n 1, 1), (54, .invokevirtual 64, 3), (57, .invokestatic 128, 3), (60, .istore_n 2, 1), (61, .aload_n 0, 1), (62, .getfield 54, 3), (65, .iload_n 1, 1), (66, .isub, 1), (67, .iconst 1, 1), (68, .if_icmp .ne 7, 3), (71, .iconst 1, 1), (72, .goto 4, 3), (75, .iconst 0, 1), (76, .istore_n 3, 1), (77, .iload_n 3, 1), (78, .ifCond .eq 46, 3), (81, .iload_n 2, 1), (82, .bipush 101, 2), (84, .if_icmp .ne 40, 3), (87, .aload_n 0, 1), (88, .aload_n 0, 1), (89, .getfield 54, 3), (92, .invokevirtual 132, 3), (95, .bipush 39, 2), (97, .if_icmp .ne 27, 3), (100, .aload_n 0, 1), (101, .aload_n 0, 1), (102, .aload_n 0, 1), (103, .getfield 54, 3), (106, .iconst 1, 1), (107, .invokevirtual 92, 3), (110, .putfield 54, 3), (113, .aload_n 0, 1), (114, .getstatic 96, 3), (117, .iload_n 1, 1), (118, .invokevirtual 103, 3), (121, .goto 123, 3), (124, .iload_n 3, 1), (125, .ifCond .eq 111, 3), (236, .aload_n 0, 1), (237, .getstatic 133, 3), (240, .iload_n 1, 1), (241, .invokevirtual 103, 3), (244, .return_, 1)]
theorem d26 : ∀ x ∈ D26, decode prog_11_method_4_code x.1 = .ok x.2 := by decide +kernel
theorem pn_26 : plainName "com/example/killdeer/killdeer/EndingStatements" = true := by first | (simp [plainName, overriddenIn]; done) | decide +kernel
theorem ef_26 (m : MethodId) (x0 : Addr) : entryFrame m #[(.ref x0)] 5 = mkF m 0 #[.val (.ref x0), .unset, .unset, .unset, .unset] [] := by first | (simp [entryFrame, mkF, argsToLocals, Value.category]; done) | rfl
theorem tnRW {p : Program} {l : Launch} {e : Env} {s : State} {m : MethodId} {args : Array Value} {below : List Frame} {meth : Method} {c : Code} {Z : State} {a0 : Array Value} {h0 : Heap} {n0 : Nat} {T0 : State} {locs : List Loc} (r o ka sa ea : Addr) (sc : Int32) (g : Nat → Int32) (tk : Nat) (le eb : Int32) (kv : Nat → Addr) (sv ev : Nat → Nat) (a0' i : Nat) (hx : p.tables.exec = Jvm.exec) (hZ : Z.Warmed39 s.vm) (hw : HW Z a0) (hby : c.code = prog_11_method_4_code) (hml : c.maxLocals = 5) (hown : s.vm.findClass "com/example/killdeer/killdeer/EndingStatements" = some m.cls) (X0 : Stand p l e (rM 6 130 2 24) s m args below meth c T0 locs 0 0) (e0 : T0.heap = h0) (N0 : Fr n0 locs) (Z0 : n0 ≤ h0.size) (O : Old Z n0 h0) (SK : StrSta Z) (RS0 : RS Z h0 r o ka sa ea sc g i tk le eb kv sv ev) (hgB : allB g) (g_r : n0 ≤ r) (hi : i < 56) (hip : ¬ (f_ip (g i) = 0)) :
    ∃ (T' : State) (locs' : List Loc), Stand p l e (rM 6 130 2 24) s m args below meth c T' locs' 0 0 ∧ Fr n0 locs' ∧ Keep h0 T'.heap [r] ∧ RS Z T'.heap r o ka sa ea sc g (i + 1) tk le eb kv sv ev ∧ ∀ target, Steps p.tables e below (T'.setTop (mkF m 5 #[vR r, vI (iN a0'), .unset, .unset, .unset] [])) target → Steps p.tables e below (T0.setTop (mkF m 5 #[vR r, vI (iN a0'), .unset, .unset, .unset] [])) target := by
  have hD := dk hby d26
  obtain ⟨T153, X153, e153, st153⟩ := zF X0 hx hZ hown (hwi hw 112 rfl) e0 RS0.2.1.1 6 #[vR r, vI (iN a0'), .unset, .unset, .unset] [] (hD 4 rfl)
  obtain ⟨T154, X154, e154, st154⟩ := zF X153 hx hZ hown (hwi hw 104 rfl) e153 RS0.1.2.1 10 #[vR r, vI (iN a0'), .unset, .unset, .unset] [(.int (iN i))] (hD 6 rfl)
  obtain ⟨T155, L155, X155, e155, N155, st155⟩ := vLEN X154 hx hZ hown e154 N0 hw (hwi hw 114 rfl) Z0 (by decide) O SK RS0.1.2.2.2.2.2.2 13 #[vR r, vI (iN a0'), .unset, .unset, .unset] [(.int (iN i))] hml (hD 7 rfl) 1
  obtain ⟨T156, X156, e156, st156⟩ := zF X155 hx hZ hown (hwi hw 104 rfl) e155 RS0.1.2.1 20 #[vR r, vI (iN a0'), .unset, .unset, .unset] [] (hD 10 rfl)
  obtain ⟨T157, X157, e157, st157⟩ := zF X156 hx hZ hown (hwi hw 112 rfl) e156 RS0.2.1.1 24 #[vR r, vI (iN a0'), .unset, .unset, .unset] [(.ref o)] (hD 12 rfl)
  obtain ⟨T158, L158, X158, e158, N158, st158⟩ := vCA X157 hx hZ hown e157 N155 hw (hwi hw 115 rfl) Z0 (by decide) i (iN i) hi O SK RS0.1.2.2.2.2.2.2 (hgB _) 27 #[vR r, vI (iN a0'), .unset, .unset, .unset] [] hml (hD 13 rfl) 0
  obtain ⟨T159, L159, X159, e159, N159, st159⟩ := zT X158 hx hZ hown e158 N158 (hwi hw 138 rfl) (hwi hw 139 rfl) (hwi hw 88 rfl) (hwi hw 140 rfl) (rm_ip l Z a0 hw [] (g i) h0 n0 Z0 ) 30 #[vR r, vI (iN a0'), .unset, .unset, .unset] [(.int (g i))] hml pd_18 (hD 14 rfl) 0
  obtain ⟨T160, X160, e160, st160⟩ := zF X159 hx hZ hown (hwi hw 112 rfl) e159 RS0.2.1.1 38 #[vR r, vI (iN a0'), .unset, .unset, .unset] [(.ref r)] (hD 18 rfl)
  obtain ⟨T161, h161, X161, e161, W161, st161⟩ := putF X160 hx hZ hown (host := "") (Or.inl (hwi hw 112 rfl)) Via.refl e160 RS0.2.1.1 RS0.1.1 (Or.inl (hwi hw 113 rfl)) (hwi hw 91 rfl) (ty := .int) (by decide) rfl rfl (g := (mkF m 43 #[vR r, vI (iN a0'), .unset, .unset, .unset] [(.int (iN (i + 1))), (.ref r)])) rfl rfl (hD 21 rfl)
  have R161 := RS0.w_at (a' := (i + 1)) hw W161
  have N161 := Fr.snoc X161 N159 g_r
  have K161 := (Keep.refl h0 [r]).wr W161 (Or.inl (List.mem_of_getElem? (i := 0) rfl))
  have Z161 := Nat.le_trans Z0 (Keep.of_wr W161).1
  have O161 := O.wr W161 g_r
  refine ⟨_, _, X161, N161, by rw [e161]; exact K161, by rw [e161]; exact R161, fun target kt => ?_⟩
  refine zA X0 hx (hD 3 rfl) rfl rfl ?_
  refine st153 _ ?_
  refine zA X153 hx (hD 5 rfl) rfl rfl ?_
  refine st154 _ ?_
  refine st155 _ ?_
  refine zN X155 hx (hD 8 rfl) (tlt ((ltN (by omega) (by decide)).mpr hi)).2.1 ?_
  refine zA X155 hx (hD 9 rfl) rfl rfl ?_
  refine st156 _ ?_
  refine zA X156 hx (hD 11 rfl) rfl rfl ?_
  refine st157 _ ?_
  refine st158 _ ?_
  refine st159 _ ?_
  refine zJ X159 hx (hD 15 rfl) ((if0 _ _).trans (feq hip).1) ?_
  refine zA X159 hx (hD 16 rfl) rfl rfl ?_
  refine zD X159 hx (hD 17 rfl) ?_
  refine st160 _ ?_
  refine zC X160 hx (hD 19 rfl) ?_
  refine zPl X160 hx (hD 20 rfl) (z := (iN (i + 1))) (succN i) ?_
  refine st161 _ ?_
  refine zG X161 hx 5 (hD 22 rfl) rfl ?_
  exact kt
theorem lpRW {p : Program} {l : Launch} {e : Env} {s : State} {m : MethodId} {args : Array Value} {below : List Frame} {meth : Method} {c : Code} {Z : State} {a0 : Array Value} {n0 : Nat} (r o ka sa ea : Addr) (sc : Int32) (g : Nat → Int32) (tk : Nat) (le eb : Int32) (kv : Nat → Addr) (sv ev : Nat → Nat) (a0' : Nat) (hx : p.tables.exec = Jvm.exec) (hZ : Z.Warmed39 s.vm) (hw : HW Z a0) (hby : c.code = prog_11_method_4_code) (hml : c.maxLocals = 5) (hown : s.vm.findClass "com/example/killdeer/killdeer/EndingStatements" = some m.cls) (SK : StrSta Z) (hgB : allB g) (g_r : n0 ≤ r) : ∀ (k i : Nat) (T0 : State) (locs : List Loc), i + k ≤ 56 → Stand p l e (rM 6 130 2 24) s m args below meth c T0 locs 0 0 → Fr n0 locs → n0 ≤ T0.heap.size → Old Z n0 T0.heap → RS Z T0.heap r o ka sa ea sc g i tk le eb kv sv ev → (∀ j, i ≤ j → j < i + k → ¬ (f_ip (g j) = 0)) →
    ∃ (T' : State) (locs' : List Loc), Stand p l e (rM 6 130 2 24) s m args below meth c T' locs' 0 0 ∧ Fr n0 locs' ∧ Keep T0.heap T'.heap [r] ∧ RS Z T'.heap r o ka sa ea sc g (i + k) tk le eb kv sv ev ∧ ∀ target, Steps p.tables e below (T'.setTop (mkF m 5 #[vR r, vI (iN a0'), .unset, .unset, .unset] [])) target → Steps p.tables e below (T0.setTop (mkF m 5 #[vR r, vI (iN a0'), .unset, .unset, .unset] [])) target := by
  intro k
  induction k with
  | zero => intro i T0 locs hk X0 N0 Z0 O R0 hq; exact ⟨T0, locs, X0, N0, Keep.refl _ _, R0, fun target kt => kt⟩
  | succ k ih =>
    intro i T0 locs hk X0 N0 Z0 O R0 hq
    obtain ⟨T1, l1, X1, N1, K1, R1, st1⟩ := tnRW r o ka sa ea sc g tk le eb kv sv ev a0' i hx hZ hw hby hml hown X0 rfl N0 Z0 O SK R0 hgB g_r (by omega) (hq i (by omega) (by omega))
    obtain ⟨T2, l2, X2, N2, K2, R2, st2⟩ := ih (i + 1) T1 l1 (by omega) X1 N1 (Nat.le_trans Z0 K1.1) (O.keep K1 (all1 g_r)) R1 (fun j h1 h2 => hq j (by omega) (by omega))
    rw [show i + 1 + k = i + (k + 1) by omega] at R2
    exact ⟨T2, l2, X2, N2, K1.trans K2 (fun x z => Or.inl z), R2, fun target kt => st1 target (st2 target kt)⟩
def tkU {α : Type} (f : Nat → α) (i : Nat) (v : α) : Nat → α := if i < 3 then updG f i v else f
theorem rmTK (hw : HW Z a0) (ws : List Jvm.Cond) (r o ka sa ea : Addr) (sc : Int32) (g : Nat → Int32) (a tk : Nat) (le eb : Int32) (kv : Nat → Addr) (sv ev : Nat → Nat) (y wv : Addr) (s1 : Nat)  (h0 : Heap) (n0 : Nat) (Z0 : n0 ≤ h0.size) (htk : tk < 1000) (O : Old Z n0 h0) (SK : StrSta Z) (hEL : EW Z a0 EL1) (hgB : allB g) (hWD : Sta Z Z.heap "com/example/killdeer/killdeer/EndingStatements$Token" "WORD" "Lcom/example/killdeer/killdeer/EndingStatements$Token;" (.ref wv)) (hY : Exa Z Z.heap y "com/example/killdeer/killdeer/EndingStatements$Token") (hsa : s1 ≤ a ∧ a ≤ 56) (hbeg : y = wv → ¬ kwP g (gl kl158) s1 a 5) (RS0 : RS Z h0 r o ka sa ea sc g a tk le eb kv sv ev) (g_r : n0 ≤ r) (g_ka : n0 ≤ ka) (g_sa : n0 ≤ sa) (g_ea : n0 ≤ ea)  :
    MH l Z (⟨"com/example/killdeer/killdeer/EndingStatements", "token", "(Lcom/example/killdeer/killdeer/EndingStatements$Token;I)V"⟩ : MethodName) prog_11_method_5_code 4 none ws (rM 5 96 2 24) #[(.ref r), (.ref y), (.int (Int32.ofNat s1))] h0 (QRS Z [r, ka, sa, ea] r o ka sa ea sc g a (tk + 1) (fun le' eb' => le' = le ∧ eb' = eb) (tkU kv tk y) (tkU sv tk s1) (tkU ev tk a) h0 n0) := by
  unfold tkU
  by_cases h3 : tk < 3
  · rw [if_pos h3, if_pos h3, if_pos h3]; exact rmTK1 l Z a0 hw ws r o ka sa ea sc g a tk le eb kv sv ev y wv s1 h0 n0 Z0 h3 htk O SK hEL hgB hWD hY hsa hbeg RS0 g_r g_ka g_sa g_ea
  · rw [if_neg h3, if_neg h3, if_neg h3]; exact rmTK0 l Z a0 hw ws r o ka sa ea sc g a tk le eb kv sv ev y wv s1 h0 n0 Z0 h3 htk O SK hEL hgB hWD hY hsa hbeg RS0 g_r g_ka g_sa g_ea
theorem rmRWA (hw : HW Z a0) (ws : List Jvm.Cond) (r o ka sa ea : Addr) (sc : Int32) (g : Nat → Int32) (a tk : Nat) (le eb : Int32) (kv : Nat → Addr) (sv ev : Nat → Nat) (wv : Addr) (e1 : Nat)  (h0 : Heap) (n0 : Nat) (Z0 : n0 ≤ h0.size) (htk : tk < 1000) (O : Old Z n0 h0) (SK : StrSta Z) (hEL : EW Z a0 EL1) (hgB : allB g) (hWD : Sta Z Z.heap "com/example/killdeer/killdeer/EndingStatements$Token" "WORD" "Lcom/example/killdeer/killdeer/EndingStatements$Token;" (.ref wv)) (hY : Exa Z Z.heap wv "com/example/killdeer/killdeer/EndingStatements$Token") (RS0 : RS Z h0 r o ka sa ea sc g a tk le eb kv sv ev) (g_r : n0 ≤ r) (g_ka : n0 ≤ ka) (g_sa : n0 ≤ sa) (g_ea : n0 ≤ ea) (hae : a < e1) (he56 : e1 < 56) (hid : ∀ j, a ≤ j → j < e1 → ¬ (f_ip (g j) = 0)) (hst : f_ip (g e1) = 0) (hone : ¬ (e1 - a = 1)) (hbeg : ¬ kwP g (gl kl158) a e1 5)  :
    MH l Z (⟨"com/example/killdeer/killdeer/EndingStatements", "readWord", "()V"⟩ : MethodName) prog_11_method_4_code 5 none ws (rM 6 130 2 24) #[(.ref r)] h0 (QRS Z [r, ka, sa, ea] r o ka sa ea sc g e1 (tk + 1) (fun le' eb' => le' = le ∧ eb' = eb) (tkU kv tk wv) (tkU sv tk a) (tkU ev tk e1) h0 n0) := by
  refine zBodyH pn_26 (fun m => ef_26 m r) ?_
  intro p e s m below meth c s₁ Bd hx hby hml hown hZ hh X0 e0 pre0 CH0
  have hD := dk hby d26
  have N0 := Fr.nil n0
  obtain ⟨T162, X162, e162, st162⟩ := zF X0 hx hZ hown (hwi hw 112 rfl) e0 RS0.2.1.1 1 #[vR r, .unset, .unset, .unset, .unset] [] (hD 1 rfl)
  obtain ⟨T163, L163, X163, N163, Kl163, R163, st163⟩ := lpRW r o ka sa ea sc g tk le eb kv sv ev a hx hZ hw hby hml hown SK hgB g_r (e1 - a) a T162 _ (by omega) X162 N0 (by rw [e162]; exact Z0) (by rw [e162]; exact O) (by rw [e162]; exact RS0) (fun j h1 h2 => hid j h1 (by omega))
  rw [e162] at Kl163
  rw [show a + (e1 - a) = e1 by omega] at R163
  have sfr := safe1 (Safe.exa (EL := EL1) hZ.alike RS0.1.1 (by decide) (by decide))
  have CRl := CHr.keep Kl163 sfr CH0
  have Ol := O.keep Kl163 (all1 g_r)
  have Zl : n0 ≤ T163.heap.size := Nat.le_trans Z0 Kl163.1
  have Kll := (Keep.refl h0 [r, ka, sa, ea]).trans Kl163 (fun x q => by cases List.mem_singleton.mp q; exact Or.inl (List.mem_of_getElem? (i := 0) rfl))
  obtain ⟨T164, X164, e164, st164⟩ := zF X163 hx hZ hown (hwi hw 112 rfl) rfl R163.2.1.1 6 #[vR r, vI (iN a), .unset, .unset, .unset] [] (hD 4 rfl)
  obtain ⟨T165, X165, e165, st165⟩ := zF X164 hx hZ hown (hwi hw 104 rfl) e164 R163.1.2.1 10 #[vR r, vI (iN a), .unset, .unset, .unset] [(.int (iN e1))] (hD 6 rfl)
  obtain ⟨T166, L166, X166, e166, N166, st166⟩ := vLEN X165 hx hZ hown e165 N163 hw (hwi hw 114 rfl) Zl (by decide) Ol SK R163.1.2.2.2.2.2.2 13 #[vR r, vI (iN a), .unset, .unset, .unset] [(.int (iN e1))] hml (hD 7 rfl) 1
  obtain ⟨T167, X167, e167, st167⟩ := zF X166 hx hZ hown (hwi hw 104 rfl) e166 R163.1.2.1 20 #[vR r, vI (iN a), .unset, .unset, .unset] [] (hD 10 rfl)
  obtain ⟨T168, X168, e168, st168⟩ := zF X167 hx hZ hown (hwi hw 112 rfl) e167 R163.2.1.1 24 #[vR r, vI (iN a), .unset, .unset, .unset] [(.ref o)] (hD 12 rfl)
  obtain ⟨T169, L169, X169, e169, N169, st169⟩ := vCA X168 hx hZ hown e168 N166 hw (hwi hw 115 rfl) Zl (by decide) e1 (iN e1) he56 Ol SK R163.1.2.2.2.2.2.2 (hgB _) 27 #[vR r, vI (iN a), .unset, .unset, .unset] [] hml (hD 13 rfl) 0
  obtain ⟨T170, L170, X170, e170, N170, st170⟩ := zT X169 hx hZ hown e169 N169 (hwi hw 138 rfl) (hwi hw 139 rfl) (hwi hw 88 rfl) (hwi hw 140 rfl) (rm_ip l Z a0 hw [] (g e1) T163.heap n0 Zl ) 30 #[vR r, vI (iN a), .unset, .unset, .unset] [(.int (g e1))] hml pd_18 (hD 14 rfl) 0
  obtain ⟨T171, X171, e171, st171⟩ := zF X170 hx hZ hown (hwi hw 104 rfl) e170 R163.1.2.1 50 #[vR r, vI (iN a), .unset, .unset, .unset] [] (hD 24 rfl)
  obtain ⟨T172, L172, X172, e172, N172, st172⟩ := vCA X171 hx hZ hown e171 N170 hw (hwi hw 115 rfl) Zl (by decide) a (iN a) (by omega) Ol SK R163.1.2.2.2.2.2.2 (hgB _) 54 #[vR r, vI (iN a), .unset, .unset, .unset] [] hml (hD 26 rfl) 0
  obtain ⟨T173, L173, X173, e173, N173, st173⟩ := zT X172 hx hZ hown e172 N172 (hwi hw 144 rfl) (hwi hw 145 rfl) (hwi hw 88 rfl) (hwi hw 146 rfl) (rm_lc l Z a0 hw [] (g a) T163.heap n0 Zl (hgB _)) 57 #[vR r, vI (iN a), .unset, .unset, .unset] [(.int (g a))] hml pd_21 (hD 27 rfl) 0
  obtain ⟨T174, X174, e174, st174⟩ := zF X173 hx hZ hown (hwi hw 112 rfl) e173 R163.2.1.1 62 #[vR r, vI (iN a), vI (f_lc (g a)), .unset, .unset] [] (hD 30 rfl)
  obtain ⟨T175, X175, e175, st175⟩ := getS2 X174 hx hZ hown (host := "") (Or.inl (hwi hw 147 rfl)) Via.refl e174 (Sta.ext Ol.2 hWD) (g := (mkF m 237 #[vR r, vI (iN a), vI (f_lc (g a)), vI 0, .unset] [(.ref r)])) rfl (hD 65 rfl)
  have ERt := R163.1.1
  obtain ⟨cq176, kq176, q176a, q176b, q176c⟩ := isOf hZ e175 ERt
  obtain ⟨_, _, ⟨T176, L176, k176, n176⟩, -, X176, hS2176, hg176, ⟨Lc176, hQ176, l176, y176, z176, C176⟩, st176⟩ := X175.virtualBackS hx hown (mvT hZ (hwi hw 150 rfl)) (mvT hZ (declOf (hwi hw 151 rfl) (hwi hw 153 rfl))) (notFace_of_selects (args := #[]) (mvT hZ (selOf (hwi hw 151 rfl) (hwi hw 152 rfl) (hwi hw 91 rfl) (by decide)))) (mvT hZ (selOf (hwi hw 151 rfl) (hwi hw 152 rfl) (hwi hw 91 rfl) (by decide))) (mvT hZ (hwi hw 151 rfl)) (by decide) (backOfSH (s := s) (vm0 := s.vm) (EL := EL1) (W := 0) (rmTK l Z a0 hw [] r o ka sa ea sc g e1 tk le eb kv sv ev wv wv a T163.heap n0 Zl htk Ol SK hEL hgB hWD hY ⟨by omega, by omega⟩ (fun _ => hbeg) R163 g_r g_ka g_sa g_ea) hZ (hwi hw 153 rfl) (hwi hw 88 rfl) (by decide) (by decide) hEL CRl.1) q176a q176c (g := (mkF m 241 #[vR r, vI (iN a), vI (f_lc (g a)), vI 0, .unset] [(.int (iN a)), (.ref wv), (.ref r)])) rfl (by rw [hml]; rfl) (Steps.refl _) (argsL := [(.ref wv), (.int (iN a))]) (rest := []) (lenOf pd_22 rfl) rfl (by show 2 * 0 + _ ≤ _; exact Nat.le_of_eq rfl) (hD 67 rfl) (fun _ _ => ⟨rfl, e175, (by decide : 0 + 2 ≤ _), (by decide : 0 + 24 ≤ _)⟩)
  dsimp only [Pt.U, Pt.locs, Pt.cells, Pt.slots] at X176 l176 y176 z176 st176 hQ176 hS2176 hg176 C176
  obtain rfl : k176 = 2 := y176; obtain rfl : n176 = 24 := z176
  obtain ⟨rfl, N176q, K176, le176, eb176, hle176, R176⟩ := hQ176
  have N176 : Fr n0 L176 := by rw [l176]; exact Fr.app N173 N176q
  have CR176 := CRl.trans C176
  have hS176 := foldS ((State.WarmedH.refl s).since 0) (by rw [e175]; exact (Nat.zero_le _)) hS2176 hg176
  have hZ176 : Z.Warmed39 (s.setVm T176.vm).vm := State.Warmed39.trans hZ hS2176.1
  have hown176 := ownS (s := s) hS2176.1 hown
  obtain ⟨ql176, qe176⟩ := hle176
  rw [ql176, qe176] at R176
  have KK176 := Kll.trans K176 (fun x z => Or.inl z)
  have Z176 := Nat.le_trans Zl K176.1
  refine zLw Bd (vm₁ := T176.vm) X176 hS176 (by exact (Nat.le_refl _)) hZ176 hEL hh rfl CR176 (v := none) (by decide) (fun _ => rfl) (fun fs hr => pre0 _ ?_) ⟨rfl, N176, KK176, _, _, ⟨rfl, rfl⟩, R176⟩
  refine zA X0 hx (hD 0 rfl) rfl rfl ?_
  refine st162 _ ?_
  refine zS X162 hx (hD 2 rfl) rfl ?_
  refine st163 _ ?_
  show Steps p.tables e below (T163.setTop (mkF m 5 #[vR r, vI (iN a), .unset, .unset, .unset] [])) _
  refine zA X163 hx (hD 3 rfl) rfl rfl ?_
  refine st164 _ ?_
  refine zA X164 hx (hD 5 rfl) rfl rfl ?_
  refine st165 _ ?_
  refine st166 _ ?_
  refine zN X166 hx (hD 8 rfl) (tlt ((ltN (by omega) (by decide)).mpr he56)).2.1 ?_
  refine zA X166 hx (hD 9 rfl) rfl rfl ?_
  refine st167 _ ?_
  refine zA X167 hx (hD 11 rfl) rfl rfl ?_
  refine st168 _ ?_
  refine st169 _ ?_
  refine st170 _ ?_
  refine zI X170 hx 49 (hD 15 rfl) ((if0 _ _).trans (teq hst).1) rfl ?_
  refine zA X170 hx (hD 23 rfl) rfl rfl ?_
  refine st171 _ ?_
  refine zL X171 hx (hD 25 rfl) rfl ?_
  refine st172 _ ?_
  refine st173 _ ?_
  refine zS X173 hx (hD 28 rfl) rfl ?_
  refine zA X173 hx (hD 29 rfl) rfl rfl ?_
  refine st174 _ ?_
  refine zL X174 hx (hD 31 rfl) rfl ?_
  refine XS.isub X174.here hx rfl (hD 32 rfl) rfl ?_
  show Steps p.tables e below (T174.setTop (mkF m 67 #[vR r, vI (iN a), vI (f_lc (g a)), .unset, .unset] [(.int ((iN e1) - (iN a)))])) _
  rw [show ((iN e1) - (iN a)) = (iN (e1 - a)) from subN (by omega) (by omega)]
  refine zC X174 hx (hD 33 rfl) ?_
  refine zM X174 hx 75 (hD 34 rfl) (feq (neN (m := 1) hone (by omega) (by decide))).2 rfl ?_
  refine zC X174 hx (hD 37 rfl) ?_
  refine zS X174 hx (hD 38 rfl) rfl ?_
  refine zL X174 hx (hD 39 rfl) rfl ?_
  refine zI X174 hx 124 (hD 40 rfl) ((if0 _ _).trans (teq (rfl : (0 : Int32) = 0)).1) rfl ?_
  refine zL X174 hx (hD 62 rfl) rfl ?_
  refine zI X174 hx 236 (hD 63 rfl) ((if0 _ _).trans (teq (rfl : (0 : Int32) = 0)).1) rfl ?_
  refine zA X174 hx (hD 64 rfl) rfl rfl ?_
  refine st175 _ ?_
  refine zL X175 hx (hD 66 rfl) rfl ?_
  refine st176.trans ?_
  show Steps p.tables e below (T176.setTop (mkF m 244 #[vR r, vI (iN a), vI (f_lc (g a)), vI 0, .unset] [])) _
  exact X176.returnOut hx Bd.returns (hD 68 rfl) hr
theorem eqF_bd {g : Nat → Int32} {q esc : Int32} : ∀ (f i : Nat), i < 60 → eqF g q esc f i ≤ 56 ∧ (i ≤ 56 → i ≤ eqF g q esc f i)
  | 0, i, h => ⟨Nat.le_refl _, fun h => h⟩
  | f + 1, i, h => by
    unfold eqF
    by_cases h1 : i < 56
    · rw [if_pos h1]
      by_cases h2 : ¬ (esc = 0) ∧ g i = 92
      · rw [if_pos h2]
        have := @eqF_bd g q esc f (i + 2) (by omega)
        refine ⟨this.1, fun _ => ?_⟩
        by_cases z : i + 2 ≤ 56
        · have := this.2 z; omega
        · rw [eqF_no f (i + 2) (by omega)]; omega
      · rw [if_neg h2]
        by_cases h3 : g i = q
        · rw [if_pos h3]; omega
        · rw [if_neg h3]
          have := @eqF_bd g q esc f (i + 1) (by omega)
          exact ⟨this.1, fun _ => by have := this.2 (by omega); omega⟩
    · rw [if_neg h1]; omega
theorem rmRWB (hw : HW Z a0) (ws : List Jvm.Cond) (r o ka sa ea : Addr) (sc : Int32) (g : Nat → Int32) (a tk : Nat) (le eb : Int32) (kv : Nat → Addr) (sv ev : Nat → Nat) (wv xv : Addr) (e1 : Nat)  (h0 : Heap) (n0 : Nat) (Z0 : n0 ≤ h0.size) (htk : tk < 1000) (O : Old Z n0 h0) (SK : StrSta Z) (hEL : EW Z a0 EL1) (hgB : allB g) (hWD : Sta Z Z.heap "com/example/killdeer/killdeer/EndingStatements$Token" "WORD" "Lcom/example/killdeer/killdeer/EndingStatements$Token;" (.ref wv)) (hY : Exa Z Z.heap xv "com/example/killdeer/killdeer/EndingStatements$Token") (RS0 : RS Z h0 r o ka sa ea sc g a tk le eb kv sv ev) (g_r : n0 ≤ r) (g_ka : n0 ≤ ka) (g_sa : n0 ≤ sa) (g_ea : n0 ≤ ea) (hae : a < e1) (he56 : e1 < 56) (hid : ∀ j, a ≤ j → j < e1 → ¬ (f_ip (g j) = 0)) (hst : f_ip (g e1) = 0) (hXD : Sta Z Z.heap "com/example/killdeer/killdeer/EndingStatements$Token" "STRING" "Lcom/example/killdeer/killdeer/EndingStatements$Token;" (.ref xv)) (hxw : ¬ (xv = wv)) (hone : e1 - a = 1) (hlc : f_lc (g a) = 101) (h39 : g e1 = 39)  :
    MH l Z (⟨"com/example/killdeer/killdeer/EndingStatements", "readWord", "()V"⟩ : MethodName) prog_11_method_4_code 5 none ws (rM 6 130 2 24) #[(.ref r)] h0 (QRS Z [r, ka, sa, ea] r o ka sa ea sc g (eqF g (g e1) (1 : Int32) 60 (e1 + 1)) (tk + 1) (fun le' eb' => le' = le ∧ eb' = eb) (tkU kv tk xv) (tkU sv tk a) (tkU ev tk (eqF g (g e1) (1 : Int32) 60 (e1 + 1))) h0 n0) := by
  refine zBodyH pn_26 (fun m => ef_26 m r) ?_
  intro p e s m below meth c s₁ Bd hx hby hml hown hZ hh X0 e0 pre0 CH0
  have hD := dk hby d26
  have N0 := Fr.nil n0
  have eqF_le : (eqF g (g e1) (1 : Int32) 60 (e1 + 1)) ≤ 56 := (eqF_bd 60 (e1 + 1) (by omega)).1
  have eqF_ge : a ≤ (eqF g (g e1) (1 : Int32) 60 (e1 + 1)) := by have := (eqF_bd (g := g) (q := g e1) (esc := 1) 60 (e1 + 1) (by omega)).2 (by omega); omega
  obtain ⟨T177, X177, e177, st177⟩ := zF X0 hx hZ hown (hwi hw 112 rfl) e0 RS0.2.1.1 1 #[vR r, .unset, .unset, .unset, .unset] [] (hD 1 rfl)
  obtain ⟨T178, L178, X178, N178, Kl178, R178, st178⟩ := lpRW r o ka sa ea sc g tk le eb kv sv ev a hx hZ hw hby hml hown SK hgB g_r (e1 - a) a T177 _ (by omega) X177 N0 (by rw [e177]; exact Z0) (by rw [e177]; exact O) (by rw [e177]; exact RS0) (fun j h1 h2 => hid j h1 (by omega))
  rw [e177] at Kl178
  rw [show a + (e1 - a) = e1 by omega] at R178
  have sfr := safe1 (Safe.exa (EL := EL1) hZ.alike RS0.1.1 (by decide) (by decide))
  have CRl := CHr.keep Kl178 sfr CH0
  have Ol := O.keep Kl178 (all1 g_r)
  have Zl : n0 ≤ T178.heap.size := Nat.le_trans Z0 Kl178.1
  have Kll := (Keep.refl h0 [r, ka, sa, ea]).trans Kl178 (fun x q => by cases List.mem_singleton.mp q; exact Or.inl (List.mem_of_getElem? (i := 0) rfl))
  obtain ⟨T179, X179, e179, st179⟩ := zF X178 hx hZ hown (hwi hw 112 rfl) rfl R178.2.1.1 6 #[vR r, vI (iN a), .unset, .unset, .unset] [] (hD 4 rfl)
  obtain ⟨T180, X180, e180, st180⟩ := zF X179 hx hZ hown (hwi hw 104 rfl) e179 R178.1.2.1 10 #[vR r, vI (iN a), .unset, .unset, .unset] [(.int (iN e1))] (hD 6 rfl)
  obtain ⟨T181, L181, X181, e181, N181, st181⟩ := vLEN X180 hx hZ hown e180 N178 hw (hwi hw 114 rfl) Zl (by decide) Ol SK R178.1.2.2.2.2.2.2 13 #[vR r, vI (iN a), .unset, .unset, .unset] [(.int (iN e1))] hml (hD 7 rfl) 1
  obtain ⟨T182, X182, e182, st182⟩ := zF X181 hx hZ hown (hwi hw 104 rfl) e181 R178.1.2.1 20 #[vR r, vI (iN a), .unset, .unset, .unset] [] (hD 10 rfl)
  obtain ⟨T183, X183, e183, st183⟩ := zF X182 hx hZ hown (hwi hw 112 rfl) e182 R178.2.1.1 24 #[vR r, vI (iN a), .unset, .unset, .unset] [(.ref o)] (hD 12 rfl)
  obtain ⟨T184, L184, X184, e184, N184, st184⟩ := vCA X183 hx hZ hown e183 N181 hw (hwi hw 115 rfl) Zl (by decide) e1 (iN e1) he56 Ol SK R178.1.2.2.2.2.2.2 (hgB _) 27 #[vR r, vI (iN a), .unset, .unset, .unset] [] hml (hD 13 rfl) 0
  obtain ⟨T185, L185, X185, e185, N185, st185⟩ := zT X184 hx hZ hown e184 N184 (hwi hw 138 rfl) (hwi hw 139 rfl) (hwi hw 88 rfl) (hwi hw 140 rfl) (rm_ip l Z a0 hw [] (g e1) T178.heap n0 Zl ) 30 #[vR r, vI (iN a), .unset, .unset, .unset] [(.int (g e1))] hml pd_18 (hD 14 rfl) 0
  obtain ⟨T186, X186, e186, st186⟩ := zF X185 hx hZ hown (hwi hw 104 rfl) e185 R178.1.2.1 50 #[vR r, vI (iN a), .unset, .unset, .unset] [] (hD 24 rfl)
  obtain ⟨T187, L187, X187, e187, N187, st187⟩ := vCA X186 hx hZ hown e186 N185 hw (hwi hw 115 rfl) Zl (by decide) a (iN a) (by omega) Ol SK R178.1.2.2.2.2.2.2 (hgB _) 54 #[vR r, vI (iN a), .unset, .unset, .unset] [] hml (hD 26 rfl) 0
  obtain ⟨T188, L188, X188, e188, N188, st188⟩ := zT X187 hx hZ hown e187 N187 (hwi hw 144 rfl) (hwi hw 145 rfl) (hwi hw 88 rfl) (hwi hw 146 rfl) (rm_lc l Z a0 hw [] (g a) T178.heap n0 Zl (hgB _)) 57 #[vR r, vI (iN a), .unset, .unset, .unset] [(.int (g a))] hml pd_21 (hD 27 rfl) 0
  obtain ⟨T189, X189, e189, st189⟩ := zF X188 hx hZ hown (hwi hw 112 rfl) e188 R178.2.1.1 62 #[vR r, vI (iN a), vI (f_lc (g a)), .unset, .unset] [] (hD 30 rfl)
  obtain ⟨T190, X190, e190, st190⟩ := zF X189 hx hZ hown (hwi hw 112 rfl) e189 R178.2.1.1 89 #[vR r, vI (iN a), vI (f_lc (g a)), vI 1, .unset] [(.ref r)] (hD 46 rfl)
  have EZ190 := R178.1.1
  obtain ⟨T191, L191, X191, e191, N191, st191⟩ := zV X190 hx hZ hown e190 EZ190 N188 (hwi hw 231 rfl) (declOf (hwi hw 232 rfl) (hwi hw 234 rfl)) (selOf (hwi hw 232 rfl) (hwi hw 233 rfl) (hwi hw 91 rfl) (by decide)) (hwi hw 232 rfl) (hwi hw 234 rfl) (hwi hw 88 rfl) (rmECA l Z a0 hw [] r o e1 g T178.heap n0 Zl he56 Ol SK EZ190 R178.1.2.1 R178.1.2.2.2.2.2.2 hgB) 92 #[vR r, vI (iN a), vI (f_lc (g a)), vI 1, .unset] [(.int (iN e1)), (.ref r)] hml pd_5 (hD 47 rfl) 0
  obtain ⟨T192, X192, e192, st192⟩ := zF X191 hx hZ hown (hwi hw 112 rfl) e191 R178.2.1.1 103 #[vR r, vI (iN a), vI (f_lc (g a)), vI 1, .unset] [(.ref r), (.ref r)] (hD 53 rfl)
  have EZ192 := R178.1.1
  obtain ⟨T193, L193, X193, e193, N193, st193⟩ := zV X192 hx hZ hown e192 EZ192 N191 (hwi hw 222 rfl) (declOf (hwi hw 223 rfl) (hwi hw 225 rfl)) (selOf (hwi hw 223 rfl) (hwi hw 224 rfl) (hwi hw 91 rfl) (by decide)) (hwi hw 223 rfl) (hwi hw 225 rfl) (hwi hw 88 rfl) (rmEQF l Z a0 hw [] r o e1 g (1 : Int32) T178.heap n0 Zl he56 Ol SK EZ192 R178.1.2.1 R178.1.2.2.2.2.2.2 hgB) 107 #[vR r, vI (iN a), vI (f_lc (g a)), vI 1, .unset] [(.int 1), (.int (iN e1)), (.ref r), (.ref r)] hml pd_29 (hD 55 rfl) 1
  obtain ⟨T194, h194, X194, e194, W194, st194⟩ := putF X193 hx hZ hown (host := "") (Or.inl (hwi hw 112 rfl)) Via.refl e193 R178.2.1.1 R178.1.1 (Or.inl (hwi hw 113 rfl)) (hwi hw 91 rfl) (ty := .int) (by decide) rfl rfl (g := (mkF m 110 #[vR r, vI (iN a), vI (f_lc (g a)), vI 1, .unset] [(.int (iN (eqF g (g e1) (1 : Int32) 60 (e1 + 1)))), (.ref r)])) rfl rfl (hD 56 rfl)
  have R194 := R178.w_at (a' := (eqF g (g e1) (1 : Int32) 60 (e1 + 1))) hw W194
  have N194 := Fr.snoc X194 N193 g_r
  have K194 := Kll.wr W194 (Or.inl (List.mem_of_getElem? (i := 0) rfl))
  have Z194 := Nat.le_trans Zl (Keep.of_wr W194).1
  have CR194 := CRl.trans (CHr.wr W194 (Safe.exa hZ.alike R178.1.1 (by decide) (by decide)) CRl.1)
  have O194 := Ol.wr W194 g_r
  obtain ⟨T195, X195, e195, st195⟩ := getS2 X194 hx hZ hown (host := "") (Or.inl (hwi hw 226 rfl)) Via.refl e194 (Sta.ext O194.2 hXD) (g := (mkF m 114 #[vR r, vI (iN a), vI (f_lc (g a)), vI 1, .unset] [(.ref r)])) rfl (hD 58 rfl)
  have ERt := R194.1.1
  obtain ⟨cq196, kq196, q196a, q196b, q196c⟩ := isOf hZ e195 ERt
  obtain ⟨_, _, ⟨T196, L196, k196, n196⟩, -, X196, hS2196, hg196, ⟨Lc196, hQ196, l196, y196, z196, C196⟩, st196⟩ := X195.virtualBackS hx hown (mvT hZ (hwi hw 150 rfl)) (mvT hZ (declOf (hwi hw 151 rfl) (hwi hw 153 rfl))) (notFace_of_selects (args := #[]) (mvT hZ (selOf (hwi hw 151 rfl) (hwi hw 152 rfl) (hwi hw 91 rfl) (by decide)))) (mvT hZ (selOf (hwi hw 151 rfl) (hwi hw 152 rfl) (hwi hw 91 rfl) (by decide))) (mvT hZ (hwi hw 151 rfl)) (by decide) (backOfSH (s := s) (vm0 := s.vm) (EL := EL1) (W := 0) (rmTK l Z a0 hw [] r o ka sa ea sc g (eqF g (g e1) (1 : Int32) 60 (e1 + 1)) tk le eb kv sv ev xv wv a h194 n0 Z194 htk O194 SK hEL hgB hWD hY ⟨eqF_ge, eqF_le⟩ (fun q => absurd q hxw) R194 g_r g_ka g_sa g_ea) hZ (hwi hw 153 rfl) (hwi hw 88 rfl) (by decide) (by decide) hEL CR194.1) q196a q196c (g := (mkF m 118 #[vR r, vI (iN a), vI (f_lc (g a)), vI 1, .unset] [(.int (iN a)), (.ref xv), (.ref r)])) rfl (by rw [hml]; rfl) (Steps.refl _) (argsL := [(.ref xv), (.int (iN a))]) (rest := []) (lenOf pd_22 rfl) rfl (by show 2 * 0 + _ ≤ _; exact Nat.le_of_eq rfl) (hD 60 rfl) (fun _ _ => ⟨rfl, e195, (by decide : 0 + 2 ≤ _), (by decide : 0 + 24 ≤ _)⟩)
  dsimp only [Pt.U, Pt.locs, Pt.cells, Pt.slots] at X196 l196 y196 z196 st196 hQ196 hS2196 hg196 C196
  obtain rfl : k196 = 2 := y196; obtain rfl : n196 = 24 := z196
  obtain ⟨rfl, N196q, K196, le196, eb196, hle196, R196⟩ := hQ196
  have N196 : Fr n0 L196 := by rw [l196]; exact Fr.app N194 N196q
  have CR196 := CR194.trans C196
  have hS196 := foldS ((State.WarmedH.refl s).since 0) (by rw [e195]; exact (Nat.zero_le _)) hS2196 hg196
  have hZ196 : Z.Warmed39 (s.setVm T196.vm).vm := State.Warmed39.trans hZ hS2196.1
  have hown196 := ownS (s := s) hS2196.1 hown
  obtain ⟨ql196, qe196⟩ := hle196
  rw [ql196, qe196] at R196
  have KK196 := K194.trans K196 (fun x z => Or.inl z)
  have Z196 := Nat.le_trans Z194 K196.1
  refine zLw Bd (vm₁ := T196.vm) X196 hS196 (by exact (Nat.le_refl _)) hZ196 hEL hh rfl CR196 (v := none) (by decide) (fun _ => rfl) (fun fs hr => pre0 _ ?_) ⟨rfl, N196, KK196, _, _, ⟨rfl, rfl⟩, R196⟩
  refine zA X0 hx (hD 0 rfl) rfl rfl ?_
  refine st177 _ ?_
  refine zS X177 hx (hD 2 rfl) rfl ?_
  refine st178 _ ?_
  show Steps p.tables e below (T178.setTop (mkF m 5 #[vR r, vI (iN a), .unset, .unset, .unset] [])) _
  refine zA X178 hx (hD 3 rfl) rfl rfl ?_
  refine st179 _ ?_
  refine zA X179 hx (hD 5 rfl) rfl rfl ?_
  refine st180 _ ?_
  refine st181 _ ?_
  refine zN X181 hx (hD 8 rfl) (tlt ((ltN (by omega) (by decide)).mpr he56)).2.1 ?_
  refine zA X181 hx (hD 9 rfl) rfl rfl ?_
  refine st182 _ ?_
  refine zA X182 hx (hD 11 rfl) rfl rfl ?_
  refine st183 _ ?_
  refine st184 _ ?_
  refine st185 _ ?_
  refine zI X185 hx 49 (hD 15 rfl) ((if0 _ _).trans (teq hst).1) rfl ?_
  refine zA X185 hx (hD 23 rfl) rfl rfl ?_
  refine st186 _ ?_
  refine zL X186 hx (hD 25 rfl) rfl ?_
  refine st187 _ ?_
  refine st188 _ ?_
  refine zS X188 hx (hD 28 rfl) rfl ?_
  refine zA X188 hx (hD 29 rfl) rfl rfl ?_
  refine st189 _ ?_
  refine zL X189 hx (hD 31 rfl) rfl ?_
  refine XS.isub X189.here hx rfl (hD 32 rfl) rfl ?_
  show Steps p.tables e below (T189.setTop (mkF m 67 #[vR r, vI (iN a), vI (f_lc (g a)), .unset, .unset] [(.int ((iN e1) - (iN a)))])) _
  rw [show ((iN e1) - (iN a)) = (iN (e1 - a)) from subN (by omega) (by omega)]
  refine zC X189 hx (hD 33 rfl) ?_
  refine zN X189 hx (hD 34 rfl) (teq (congrArg Int32.ofNat hone)).2 ?_
  refine zC X189 hx (hD 35 rfl) ?_
  refine zG X189 hx 76 (hD 36 rfl) rfl ?_
  refine zS X189 hx (hD 38 rfl) rfl ?_
  refine zL X189 hx (hD 39 rfl) rfl ?_
  refine zJ X189 hx (hD 40 rfl) ((if0 _ _).trans (feq (by decide : ¬ ((1 : Int32) = 0))).1) ?_
  refine zL X189 hx (hD 41 rfl) rfl ?_
  refine zB X189 hx (hD 42 rfl) ?_
  refine zN X189 hx (hD 43 rfl) (teq hlc).2 ?_
  refine zA X189 hx (hD 44 rfl) rfl rfl ?_
  refine zA X189 hx (hD 45 rfl) rfl rfl ?_
  refine st190 _ ?_
  refine st191 _ ?_
  refine zB X191 hx (hD 48 rfl) ?_
  refine zN X191 hx (hD 49 rfl) (teq h39).2 ?_
  refine zA X191 hx (hD 50 rfl) rfl rfl ?_
  refine zA X191 hx (hD 51 rfl) rfl rfl ?_
  refine zA X191 hx (hD 52 rfl) rfl rfl ?_
  refine st192 _ ?_
  refine zC X192 hx (hD 54 rfl) ?_
  refine st193 _ ?_
  refine st194 _ ?_
  refine zA X194 hx (hD 57 rfl) rfl rfl ?_
  refine st195 _ ?_
  refine zL X195 hx (hD 59 rfl) rfl ?_
  refine st196.trans ?_
  refine zG X196 hx 244 (hD 61 rfl) rfl ?_
  show Steps p.tables e below (T196.setTop (mkF m 244 #[vR r, vI (iN a), vI (f_lc (g a)), vI 1, .unset] [])) _
  exact X196.returnOut hx Bd.returns (hD 68 rfl) hr
def D24 : List (Nat × Instr × Nat) := [(0, .iconst 0, 1), (1, .istore 5, 2), (3, .iload 4, 2), (5, .bipush 7, 2), (7, .if_icmp .le 63, 3), (70, .iload 5, 2), (72, .iload 4, 2), (74, .if_icmp .ge 27, 3), (77, .aload_n 0, 1), (78, .iload_n 1, 1), (79, .iload 5, 2), (81, .iadd, 1), (82, .baload, 1), (83, .aload_n 2, 1), (84, .iload_n 3, 1), (85, .iload 5, 2), (87, .iadd, 1), (88, .baload, 1), (89, .if_icmp .eq 6, 3), (92, .iload 5, 2), (94, .ireturn, 1), (95, .iinc 5 1, 3), (98, .goto (-28), 3), (101, .iconst (-1), 1), (102, .ireturn, 1)]
theorem d24 : ∀ x ∈ D24, decode jdk_48_method_14_code x.1 = .ok x.2 := by decide +kernel
theorem pn_24 : plainName "jdk/internal/util/ArraysSupport" = true := by first | (simp [plainName, overriddenIn]; done) | decide +kernel
theorem ef_24 (m : MethodId) (x0 : Addr) (x1 : Int32) (x2 : Addr) (x3 : Int32) (x4 : Int32) : entryFrame m #[(.ref x0), (.int x1), (.ref x2), (.int x3), (.int x4)] 8 = mkF m 0 #[.val (.ref x0), .val (.int x1), .val (.ref x2), .val (.int x3), .val (.int x4), .unset, .unset, .unset] [] := by first | (simp [entryFrame, mkF, argsToLocals, Value.category]; done) | rfl
def f_mm (b : Addr) (i : Nat) (d : Addr) (g kg : Nat → Int32) : Int32 := if (b8 (g i)) = (b8 (kg 0)) then if (b8 (g (i + 1))) = (b8 (kg 1)) then (-1 : Int32) else (1 : Int32) else (0 : Int32)
theorem rm_mm (hw : HW Z a0) (ws : List Jvm.Cond) (b : Addr) (i : Nat) (d : Addr) (g kg : Nat → Int32)  (h0 : Heap) (n0 : Nat) (Z0 : n0 ≤ h0.size) (hi : i + 2 ≤ 56) (FB : AF Z h0 b .byte 56 (Lb g)) (FD : AF Z h0 d .byte 2 (Lb kg))  :
    MF l Z (⟨"jdk/internal/util/ArraysSupport", "mismatch", "([BI[BII)I"⟩ : MethodName) jdk_48_method_14_code 8 (some .int) ws (rM 0 0 0 0) #[(.ref b), (.int (iN i)), (.ref d), (.int 0), (.int 2)] h0 (QI (f_mm b i d g kg) h0 n0) := by
  refine zBody pn_24 (fun m => ef_24 m b (iN i) d (0 : Int32) (2 : Int32)) ?_
  intro p e s m below meth c s₁ Bd hx hby hml hown hZ hh X0 e0 pre0
  have hD := dk hby d24
  have N0 := Fr.nil n0
  have pq : ∀ zz, Steps p.tables e below (s₁.setTop (mkF m 89 #[vR b, vI (iN i), vR d, vI 0, vI 2, vI 0, .unset, .unset] [(.int (b8 (kg 0))), (.int (b8 (g i)))])) zz → Steps p.tables e below (s₁.setTop (entryFrame m #[(.ref b), (.int (iN i)), (.ref d), (.int 0), (.int 2)] 8)) zz := by
    intro zz kz_
    refine pre0 zz ?_
    refine zC X0 hx (hD 0 rfl) ?_
    refine zs X0 hx (hD 1 rfl) rfl ?_
    refine zl X0 hx (hD 2 rfl) rfl ?_
    refine zB X0 hx (hD 3 rfl) ?_
    refine zM X0 hx 70 (hD 4 rfl) (flt (by decide : ¬ ((7 : Int32) < (2 : Int32)))).2.2.2 rfl ?_
    refine zl X0 hx (hD 5 rfl) rfl ?_
    refine zl X0 hx (hD 6 rfl) rfl ?_
    refine zN X0 hx (hD 7 rfl) (tlt (by decide : (0 : Int32) < (2 : Int32))).2.1 ?_
    refine zA X0 hx (hD 8 rfl) rfl rfl ?_
    refine zL X0 hx (hD 9 rfl) rfl ?_
    refine zl X0 hx (hD 10 rfl) rfl ?_
    refine zPl X0 hx (hD 11 rfl) (z := (iN i)) (Int32.add_zero _) ?_
    refine ldBy X0 hx hZ e0 FB (i := i) (by omega) (by decide) (v := (.int (b8 (g i)))) rfl (g := (mkF m 82 #[vR b, vI (iN i), vR d, vI 0, vI 2, vI 0, .unset, .unset] [(.int (iN i)), (.ref b)])) rfl rfl (hD 12 rfl) ?_
    refine zA X0 hx (hD 13 rfl) rfl rfl ?_
    refine zL X0 hx (hD 14 rfl) rfl ?_
    refine zl X0 hx (hD 15 rfl) rfl ?_
    refine zPl X0 hx (hD 16 rfl) (z := (iN 0)) (rfl) ?_
    refine ldBy X0 hx hZ e0 FD (i := 0) (by decide) (by decide) (v := (.int (b8 (kg 0)))) rfl (g := (mkF m 88 #[vR b, vI (iN i), vR d, vI 0, vI 2, vI 0, .unset, .unset] [(.int (iN 0)), (.ref d), (.int (b8 (g i)))])) rfl rfl (hD 17 rfl) ?_
    exact kz_
  by_cases hc89 : (b8 (g i)) = (b8 (kg 0))
  ·have pqa : ∀ zz, Steps p.tables e below (s₁.setTop (mkF m 89 #[vR b, vI (iN i), vR d, vI 0, vI 2, vI 1, .unset, .unset] [(.int (b8 (kg 1))), (.int (b8 (g (i + 1))))])) zz → Steps p.tables e below (s₁.setTop (entryFrame m #[(.ref b), (.int (iN i)), (.ref d), (.int 0), (.int 2)] 8)) zz := by
     intro zz kz_
     refine pq zz ?_
     refine zM X0 hx 95 (hD 18 rfl) (teq hc89).1 rfl ?_
     refine XS.iinc X0.here hx rfl (hD 21 rfl) rfl (l' := #[vR b, vI (iN i), vR d, vI 0, vI 2, vI ((0 : Int32) + (1 : Int32)), .unset, .unset]) rfl ?_
     show Steps p.tables e below (s₁.setTop (mkF m 98 #[vR b, vI (iN i), vR d, vI 0, vI 2, vI ((0 : Int32) + (1 : Int32)), .unset, .unset] [])) _
     rw [show ((0 : Int32) + (1 : Int32)) = (1 : Int32) from rfl]
     refine zG X0 hx 70 (hD 22 rfl) rfl ?_
     refine zl X0 hx (hD 5 rfl) rfl ?_
     refine zl X0 hx (hD 6 rfl) rfl ?_
     refine zN X0 hx (hD 7 rfl) (tlt (by decide : (1 : Int32) < (2 : Int32))).2.1 ?_
     refine zA X0 hx (hD 8 rfl) rfl rfl ?_
     refine zL X0 hx (hD 9 rfl) rfl ?_
     refine zl X0 hx (hD 10 rfl) rfl ?_
     refine zPl X0 hx (hD 11 rfl) (z := (iN (i + 1))) (addN (m := 1)) ?_
     refine ldBy X0 hx hZ e0 FB (i := (i + 1)) (by omega) (by decide) (v := (.int (b8 (g (i + 1))))) rfl (g := (mkF m 82 #[vR b, vI (iN i), vR d, vI 0, vI 2, vI 1, .unset, .unset] [(.int (iN (i + 1))), (.ref b)])) rfl rfl (hD 12 rfl) ?_
     refine zA X0 hx (hD 13 rfl) rfl rfl ?_
     refine zL X0 hx (hD 14 rfl) rfl ?_
     refine zl X0 hx (hD 15 rfl) rfl ?_
     refine zPl X0 hx (hD 16 rfl) (z := (iN 1)) (rfl) ?_
     refine ldBy X0 hx hZ e0 FD (i := 1) (by decide) (by decide) (v := (.int (b8 (kg 1)))) rfl (g := (mkF m 88 #[vR b, vI (iN i), vR d, vI 0, vI 2, vI 1, .unset, .unset] [(.int (iN 1)), (.ref d), (.int (b8 (g (i + 1))))])) rfl rfl (hD 17 rfl) ?_
     exact kz_
   by_cases hc89_1 : (b8 (g (i + 1))) = (b8 (kg 1))
   ·refine zLv Bd X0 (v := some (.int (-1))) (by decide) nofun (fun fs hr => pqa _ ?_) (by rw [e0]; exact ⟨by rw [f_mm, if_pos hc89, if_pos hc89_1], N0, rfl⟩)
    refine zM X0 hx 95 (hD 18 rfl) (teq hc89_1).1 rfl ?_
    refine XS.iinc X0.here hx rfl (hD 21 rfl) rfl (l' := #[vR b, vI (iN i), vR d, vI 0, vI 2, vI ((1 : Int32) + (1 : Int32)), .unset, .unset]) rfl ?_
    show Steps p.tables e below (s₁.setTop (mkF m 98 #[vR b, vI (iN i), vR d, vI 0, vI 2, vI ((1 : Int32) + (1 : Int32)), .unset, .unset] [])) _
    rw [show ((1 : Int32) + (1 : Int32)) = (2 : Int32) from rfl]
    refine zG X0 hx 70 (hD 22 rfl) rfl ?_
    refine zl X0 hx (hD 5 rfl) rfl ?_
    refine zl X0 hx (hD 6 rfl) rfl ?_
    refine zM X0 hx 101 (hD 7 rfl) (flt (by decide : ¬ ((2 : Int32) < (2 : Int32)))).2.1 rfl ?_
    refine zC X0 hx (hD 23 rfl) ?_
    exact retI X0 hx Bd.returns (hD 24 rfl) hr
   ·refine zLv Bd X0 (v := some (.int 1)) (by decide) nofun (fun fs hr => pqa _ ?_) (by rw [e0]; exact ⟨by rw [f_mm, if_pos hc89, if_neg hc89_1], N0, rfl⟩)
    refine zN X0 hx (hD 18 rfl) (feq hc89_1).1 ?_
    refine zl X0 hx (hD 19 rfl) rfl ?_
    exact retI X0 hx Bd.returns (hD 20 rfl) hr
  ·refine zLv Bd X0 (v := some (.int 0)) (by decide) nofun (fun fs hr => pq _ ?_) (by rw [e0]; exact ⟨by rw [f_mm, if_neg hc89], N0, rfl⟩)
   refine zN X0 hx (hD 18 rfl) (feq hc89).1 ?_
   refine zl X0 hx (hD 19 rfl) rfl ?_
   exact retI X0 hx Bd.returns (hD 20 rfl) hr
def D23 : List (Nat × Instr × Nat) := [(0, .iload_n 2, 1), (1, .ifCond .lt 16, 3), (4, .iload_n 2, 1), (5, .aload_n 0, 1), (6, .invokevirtual 505, 3), (9, .aload_n 1, 1), (10, .invokevirtual 505, 3), (13, .isub, 1), (14, .if_icmp .le 5, 3), (19, .aload_n 0, 1), (20, .getfield 9, 3), (23, .astore_n 3, 1), (24, .aload_n 1, 1), (25, .getfield 9, 3), (28, .astore 4, 2), (30, .iconst 0, 1), (31, .istore 5, 2), (33, .aload 4, 2), (35, .arraylength, 1), (36, .istore 6, 2), (38, .aload_n 0, 1), (39, .invokevirtual 335, 3), (42, .istore 7, 2), (44, .iload 7, 2), (46, .aload_n 1, 1), (47, .invokevirtual 335, 3), (50, .if_icmp .ne 32, 3), (53, .iload 7, 2), (55, .iconst 1, 1), (56, .if_icmp .ne 7, 3), (63, .aload_n 3, 1), (64, .iload_n 2, 1), (65, .aload 4, 2), (67, .iconst 0, 1), (68, .iload 6, 2), (70, .invokestatic 607, 3), (73, .ifCond .ge 7, 3), (76, .iconst 1, 1), (77, .goto 4, 3), (80, .iconst 0, 1), (81, .ireturn, 1)]
theorem d23 : ∀ x ∈ D23, decode jdk_42_method_75_code x.1 = .ok x.2 := by decide +kernel
theorem pn_23 : plainName "java/lang/String" = true := by first | (simp [plainName, overriddenIn]; done) | decide +kernel
theorem ef_23 (m : MethodId) (x0 : Addr) (x1 : Addr) (x2 : Int32) : entryFrame m #[(.ref x0), (.ref x1), (.int x2)] 8 = mkF m 0 #[.val (.ref x0), .val (.ref x1), .val (.int x2), .unset, .unset, .unset, .unset, .unset] [] := by first | (simp [entryFrame, mkF, argsToLocals, Value.category]; done) | rfl
def f_sw (o kw b d : Addr) (i : Nat) (g kg : Nat → Int32) : Int32 := if (f_mm b i d g kg) < (0 : Int32) then (1 : Int32) else (0 : Int32)
theorem rm_sw (hw : HW Z a0) (ws : List Jvm.Cond) (o kw b d : Addr) (i : Nat) (g kg : Nat → Int32)  (h0 : Heap) (n0 : Nat) (Z0 : n0 ≤ h0.size) (hi : i + 2 ≤ 56) (O : Old Z n0 h0) (SK : StrSta Z) (EO : Exa Z h0 o "java/lang/String") (FC : Fld Z h0 o "java/lang/String" "coder" "B" (.int 0)) (FV : Fld Z h0 o "java/lang/String" "value" "[B" (.ref b)) (EO2 : Exa Z h0 kw "java/lang/String") (FC2 : Fld Z h0 kw "java/lang/String" "coder" "B" (.int 0)) (FV2 : Fld Z h0 kw "java/lang/String" "value" "[B" (.ref d)) (FB : AF Z h0 b .byte 56 (Lb g)) (FD : AF Z h0 d .byte 2 (Lb kg))  :
    MF l Z (⟨"java/lang/String", "startsWith", "(Ljava/lang/String;I)Z"⟩ : MethodName) jdk_42_method_75_code 8 (some .boolean) ws (rM 2 40 0 0) #[(.ref o), (.ref kw), (.int (iN i))] h0 (QI (f_sw o kw b d i g kg) h0 n0) := by
  refine zBody pn_23 (fun m => ef_23 m o kw (iN i)) ?_
  intro p e s m below meth c s₁ Bd hx hby hml hown hZ hh X0 e0 pre0
  have hD := dk hby d23
  have N0 := Fr.nil n0
  have pq : ∀ zz, Steps p.tables e below (s₁.setTop (mkF m 1 #[vR o, vR kw, vI (iN i), .unset, .unset, .unset, .unset, .unset] [(.int (iN i))])) zz → Steps p.tables e below (s₁.setTop (entryFrame m #[(.ref o), (.ref kw), (.int (iN i))] 8)) zz := by
    intro zz kz_
    refine pre0 zz ?_
    refine zL X0 hx (hD 0 rfl) rfl ?_
    exact kz_
  by_cases hc73 : (f_mm b i d g kg) < (0 : Int32)
  ·obtain ⟨cq197, kq197, q197a, q197b, q197c⟩ := isOf hZ e0 EO
   obtain ⟨_, _, ⟨T197, L197, k197, n197⟩, -, X197, ⟨Lc197, hQ197, l197, y197, z197⟩, st197⟩ := X0.virtualBack hx hown (mvT hZ (hwi hw 125 rfl)) (mvT hZ (hwi hw 20 rfl)) (notFace_of_selects (args := #[]) (mvT hZ (hwi hw 22 rfl))) (mvT hZ (hwi hw 22 rfl)) (mvT hZ (hwi hw 21 rfl)) (by decide) (backOf (W := 1) (rmLEN0 l Z a0 hw [] o b 56 (Lb g) h0 n0 Z0 (by decide) O SK EO FC FV FB) hZ (hwi hw 23 rfl) (hwi hw 9 rfl) (by decide) (by decide)) q197a q197c (g := (mkF m 6 #[vR o, vR kw, vI (iN i), .unset, .unset, .unset, .unset, .unset] [(.ref o), (.int (iN i))])) rfl (by rw [hml]; rfl) (Steps.refl _) (argsL := []) (rest := [(.int (iN i))]) (lenOf pd_3 rfl) rfl (by show 2 * 0 + _ ≤ _; exact Nat.le_of_eq rfl) (hD 4 rfl) (fun _ _ => ⟨rfl, e0, (by decide : 0 + 0 ≤ _), (by decide : 0 + 0 ≤ _)⟩)
   dsimp only [Pt.U, Pt.locs, Pt.cells, Pt.slots] at X197 l197 y197 z197 st197 hQ197
   obtain rfl : k197 = 0 := y197; obtain rfl : n197 = 0 := z197
   obtain ⟨rfl, N197q, e197⟩ := hQ197
   have N197 : Fr n0 L197 := by rw [l197]; exact Fr.app N0 N197q
   obtain ⟨T198, L198, X198, e198, N198, st198⟩ := zV X197 hx hZ hown e197 EO2 N197 (hwi hw 125 rfl) (hwi hw 20 rfl) (hwi hw 22 rfl) (hwi hw 21 rfl) (hwi hw 23 rfl) (hwi hw 9 rfl) (rmLEN0 l Z a0 hw [] kw d 2 (Lb kg) h0 n0 Z0 (by decide) O SK EO2 FC2 FV2 FD) 10 #[vR o, vR kw, vI (iN i), .unset, .unset, .unset, .unset, .unset] [(.ref kw), (.int (iN 56)), (.int (iN i))] hml pd_3 (hD 6 rfl) 2
   obtain ⟨T199, X199, e199, st199⟩ := zF X198 hx hZ hown (hwi hw 24 rfl) e198 FV 20 #[vR o, vR kw, vI (iN i), .unset, .unset, .unset, .unset, .unset] [] (hD 10 rfl)
   obtain ⟨T200, X200, e200, st200⟩ := zF X199 hx hZ hown (hwi hw 24 rfl) e199 FV2 25 #[vR o, vR kw, vI (iN i), vR b, .unset, .unset, .unset, .unset] [] (hD 13 rfl)
   obtain ⟨T201, L201, X201, e201, N201, st201⟩ := zV X200 hx hZ hown e200 EO N198 (hwi hw 25 rfl) (hwi hw 26 rfl) (hwi hw 28 rfl) (hwi hw 27 rfl) (hwi hw 29 rfl) (hwi hw 9 rfl) (rmCD0 l Z a0 hw [] o h0 n0 Z0 O SK EO FC) 39 #[vR o, vR kw, vI (iN i), vR b, vR d, vI 0, vI (iN 2), .unset] [(.ref o)] hml pd_4 (hD 21 rfl) 0
   obtain ⟨T202, L202, X202, e202, N202, st202⟩ := zV X201 hx hZ hown e201 EO2 N201 (hwi hw 25 rfl) (hwi hw 26 rfl) (hwi hw 28 rfl) (hwi hw 27 rfl) (hwi hw 29 rfl) (hwi hw 9 rfl) (rmCD0 l Z a0 hw [] kw h0 n0 Z0 O SK EO2 FC2) 47 #[vR o, vR kw, vI (iN i), vR b, vR d, vI 0, vI (iN 2), vI 0] [(.ref kw), (.int 0)] hml pd_4 (hD 25 rfl) 1
   obtain ⟨T203, L203, X203, e203, N203, st203⟩ := zT X202 hx hZ hown e202 N202 (hwi hw 126 rfl) (hwi hw 127 rfl) (hwi hw 128 rfl) (hwi hw 129 rfl) (rm_mm l Z a0 hw [] b i d g kg h0 n0 Z0 hi FB FD) 70 #[vR o, vR kw, vI (iN i), vR b, vR d, vI 0, vI (iN 2), vI 0] [(.int 2), (.int 0), (.ref d), (.int (iN i)), (.ref b)] hml pd_20 (hD 35 rfl) 0
   refine zLv Bd X203 (v := some (.int 1)) (by decide) nofun (fun fs hr => pq _ ?_) (by rw [e203]; exact ⟨by rw [f_sw, if_pos hc73], N203, rfl⟩)
   refine zJ X0 hx (hD 1 rfl) ((if0 _ _).trans (flt (nnN (by omega))).1) ?_
   refine zL X0 hx (hD 2 rfl) rfl ?_
   refine zA X0 hx (hD 3 rfl) rfl rfl ?_
   refine st197.trans ?_
   refine zA X197 hx (hD 5 rfl) rfl rfl ?_
   refine st198 _ ?_
   refine XS.isub X198.here hx rfl (hD 7 rfl) rfl ?_
   show Steps p.tables e below (T198.setTop (mkF m 14 #[vR o, vR kw, vI (iN i), .unset, .unset, .unset, .unset, .unset] [(.int ((iN 56) - (iN 2))), (.int (iN i))])) _
   rw [show ((iN 56) - (iN 2)) = (iN 54) from rfl]
   refine zM X198 hx 19 (hD 8 rfl) (flt (fun q => absurd ((ltN (by decide) (by omega)).mp q) (by omega))).2.2.2 rfl ?_
   refine zA X198 hx (hD 9 rfl) rfl rfl ?_
   refine st199 _ ?_
   refine XS.astoreN X199.here hx rfl (hD 11 rfl) rfl rfl (l' := #[vR o, vR kw, vI (iN i), vR b, .unset, .unset, .unset, .unset]) rfl ?_
   refine zA X199 hx (hD 12 rfl) rfl rfl ?_
   refine st200 _ ?_
   refine XS.astore X200.here hx rfl (hD 14 rfl) rfl rfl (l' := #[vR o, vR kw, vI (iN i), vR b, vR d, .unset, .unset, .unset]) rfl ?_
   refine zC X200 hx (hD 15 rfl) ?_
   refine zs X200 hx (hD 16 rfl) rfl ?_
   refine XS.aload X200.here hx rfl (hD 17 rfl) rfl rfl ?_
   refine lenA X200 hx hZ e200 FD (g := (mkF m 35 #[vR o, vR kw, vI (iN i), vR b, vR d, vI 0, .unset, .unset] [(.ref d)])) rfl rfl (hD 18 rfl) ?_
   refine zs X200 hx (hD 19 rfl) rfl ?_
   refine zA X200 hx (hD 20 rfl) rfl rfl ?_
   refine st201 _ ?_
   refine zs X201 hx (hD 22 rfl) rfl ?_
   refine zl X201 hx (hD 23 rfl) rfl ?_
   refine zA X201 hx (hD 24 rfl) rfl rfl ?_
   refine st202 _ ?_
   refine zN X202 hx (hD 26 rfl) (teq (rfl : (0 : Int32) = 0)).2 ?_
   refine zl X202 hx (hD 27 rfl) rfl ?_
   refine zC X202 hx (hD 28 rfl) ?_
   refine zM X202 hx 63 (hD 29 rfl) (feq (by decide : ¬ ((0 : Int32) = 1))).2 rfl ?_
   refine zA X202 hx (hD 30 rfl) rfl rfl ?_
   refine zL X202 hx (hD 31 rfl) rfl ?_
   refine XS.aload X202.here hx rfl (hD 32 rfl) rfl rfl ?_
   refine zC X202 hx (hD 33 rfl) ?_
   refine zl X202 hx (hD 34 rfl) rfl ?_
   show Steps p.tables e below (T202.setTop (mkF m 70 #[vR o, vR kw, vI (iN i), vR b, vR d, vI 0, vI (iN 2), vI 0] [(.int 2), (.int 0), (.ref d), (.int (iN i)), (.ref b)])) _
   refine st203 _ ?_
   refine zJ X203 hx (hD 36 rfl) ((if0 _ _).trans (tlt hc73).2.1) ?_
   refine zC X203 hx (hD 37 rfl) ?_
   refine zG X203 hx 81 (hD 38 rfl) rfl ?_
   exact retN X203 hx (t := .boolean) Bd.returns (by simp) (hD 40 rfl) hr
  ·obtain ⟨cq197, kq197, q197a, q197b, q197c⟩ := isOf hZ e0 EO
   obtain ⟨_, _, ⟨T197, L197, k197, n197⟩, -, X197, ⟨Lc197, hQ197, l197, y197, z197⟩, st197⟩ := X0.virtualBack hx hown (mvT hZ (hwi hw 125 rfl)) (mvT hZ (hwi hw 20 rfl)) (notFace_of_selects (args := #[]) (mvT hZ (hwi hw 22 rfl))) (mvT hZ (hwi hw 22 rfl)) (mvT hZ (hwi hw 21 rfl)) (by decide) (backOf (W := 1) (rmLEN0 l Z a0 hw [] o b 56 (Lb g) h0 n0 Z0 (by decide) O SK EO FC FV FB) hZ (hwi hw 23 rfl) (hwi hw 9 rfl) (by decide) (by decide)) q197a q197c (g := (mkF m 6 #[vR o, vR kw, vI (iN i), .unset, .unset, .unset, .unset, .unset] [(.ref o), (.int (iN i))])) rfl (by rw [hml]; rfl) (Steps.refl _) (argsL := []) (rest := [(.int (iN i))]) (lenOf pd_3 rfl) rfl (by show 2 * 0 + _ ≤ _; exact Nat.le_of_eq rfl) (hD 4 rfl) (fun _ _ => ⟨rfl, e0, (by decide : 0 + 0 ≤ _), (by decide : 0 + 0 ≤ _)⟩)
   dsimp only [Pt.U, Pt.locs, Pt.cells, Pt.slots] at X197 l197 y197 z197 st197 hQ197
   obtain rfl : k197 = 0 := y197; obtain rfl : n197 = 0 := z197
   obtain ⟨rfl, N197q, e197⟩ := hQ197
   have N197 : Fr n0 L197 := by rw [l197]; exact Fr.app N0 N197q
   obtain ⟨T198, L198, X198, e198, N198, st198⟩ := zV X197 hx hZ hown e197 EO2 N197 (hwi hw 125 rfl) (hwi hw 20 rfl) (hwi hw 22 rfl) (hwi hw 21 rfl) (hwi hw 23 rfl) (hwi hw 9 rfl) (rmLEN0 l Z a0 hw [] kw d 2 (Lb kg) h0 n0 Z0 (by decide) O SK EO2 FC2 FV2 FD) 10 #[vR o, vR kw, vI (iN i), .unset, .unset, .unset, .unset, .unset] [(.ref kw), (.int (iN 56)), (.int (iN i))] hml pd_3 (hD 6 rfl) 2
   obtain ⟨T199, X199, e199, st199⟩ := zF X198 hx hZ hown (hwi hw 24 rfl) e198 FV 20 #[vR o, vR kw, vI (iN i), .unset, .unset, .unset, .unset, .unset] [] (hD 10 rfl)
   obtain ⟨T200, X200, e200, st200⟩ := zF X199 hx hZ hown (hwi hw 24 rfl) e199 FV2 25 #[vR o, vR kw, vI (iN i), vR b, .unset, .unset, .unset, .unset] [] (hD 13 rfl)
   obtain ⟨T201, L201, X201, e201, N201, st201⟩ := zV X200 hx hZ hown e200 EO N198 (hwi hw 25 rfl) (hwi hw 26 rfl) (hwi hw 28 rfl) (hwi hw 27 rfl) (hwi hw 29 rfl) (hwi hw 9 rfl) (rmCD0 l Z a0 hw [] o h0 n0 Z0 O SK EO FC) 39 #[vR o, vR kw, vI (iN i), vR b, vR d, vI 0, vI (iN 2), .unset] [(.ref o)] hml pd_4 (hD 21 rfl) 0
   obtain ⟨T202, L202, X202, e202, N202, st202⟩ := zV X201 hx hZ hown e201 EO2 N201 (hwi hw 25 rfl) (hwi hw 26 rfl) (hwi hw 28 rfl) (hwi hw 27 rfl) (hwi hw 29 rfl) (hwi hw 9 rfl) (rmCD0 l Z a0 hw [] kw h0 n0 Z0 O SK EO2 FC2) 47 #[vR o, vR kw, vI (iN i), vR b, vR d, vI 0, vI (iN 2), vI 0] [(.ref kw), (.int 0)] hml pd_4 (hD 25 rfl) 1
   obtain ⟨T203, L203, X203, e203, N203, st203⟩ := zT X202 hx hZ hown e202 N202 (hwi hw 126 rfl) (hwi hw 127 rfl) (hwi hw 128 rfl) (hwi hw 129 rfl) (rm_mm l Z a0 hw [] b i d g kg h0 n0 Z0 hi FB FD) 70 #[vR o, vR kw, vI (iN i), vR b, vR d, vI 0, vI (iN 2), vI 0] [(.int 2), (.int 0), (.ref d), (.int (iN i)), (.ref b)] hml pd_20 (hD 35 rfl) 0
   refine zLv Bd X203 (v := some (.int 0)) (by decide) nofun (fun fs hr => pq _ ?_) (by rw [e203]; exact ⟨by rw [f_sw, if_neg hc73], N203, rfl⟩)
   refine zJ X0 hx (hD 1 rfl) ((if0 _ _).trans (flt (nnN (by omega))).1) ?_
   refine zL X0 hx (hD 2 rfl) rfl ?_
   refine zA X0 hx (hD 3 rfl) rfl rfl ?_
   refine st197.trans ?_
   refine zA X197 hx (hD 5 rfl) rfl rfl ?_
   refine st198 _ ?_
   refine XS.isub X198.here hx rfl (hD 7 rfl) rfl ?_
   show Steps p.tables e below (T198.setTop (mkF m 14 #[vR o, vR kw, vI (iN i), .unset, .unset, .unset, .unset, .unset] [(.int ((iN 56) - (iN 2))), (.int (iN i))])) _
   rw [show ((iN 56) - (iN 2)) = (iN 54) from rfl]
   refine zM X198 hx 19 (hD 8 rfl) (flt (fun q => absurd ((ltN (by decide) (by omega)).mp q) (by omega))).2.2.2 rfl ?_
   refine zA X198 hx (hD 9 rfl) rfl rfl ?_
   refine st199 _ ?_
   refine XS.astoreN X199.here hx rfl (hD 11 rfl) rfl rfl (l' := #[vR o, vR kw, vI (iN i), vR b, .unset, .unset, .unset, .unset]) rfl ?_
   refine zA X199 hx (hD 12 rfl) rfl rfl ?_
   refine st200 _ ?_
   refine XS.astore X200.here hx rfl (hD 14 rfl) rfl rfl (l' := #[vR o, vR kw, vI (iN i), vR b, vR d, .unset, .unset, .unset]) rfl ?_
   refine zC X200 hx (hD 15 rfl) ?_
   refine zs X200 hx (hD 16 rfl) rfl ?_
   refine XS.aload X200.here hx rfl (hD 17 rfl) rfl rfl ?_
   refine lenA X200 hx hZ e200 FD (g := (mkF m 35 #[vR o, vR kw, vI (iN i), vR b, vR d, vI 0, .unset, .unset] [(.ref d)])) rfl rfl (hD 18 rfl) ?_
   refine zs X200 hx (hD 19 rfl) rfl ?_
   refine zA X200 hx (hD 20 rfl) rfl rfl ?_
   refine st201 _ ?_
   refine zs X201 hx (hD 22 rfl) rfl ?_
   refine zl X201 hx (hD 23 rfl) rfl ?_
   refine zA X201 hx (hD 24 rfl) rfl rfl ?_
   refine st202 _ ?_
   refine zN X202 hx (hD 26 rfl) (teq (rfl : (0 : Int32) = 0)).2 ?_
   refine zl X202 hx (hD 27 rfl) rfl ?_
   refine zC X202 hx (hD 28 rfl) ?_
   refine zM X202 hx 63 (hD 29 rfl) (feq (by decide : ¬ ((0 : Int32) = 1))).2 rfl ?_
   refine zA X202 hx (hD 30 rfl) rfl rfl ?_
   refine zL X202 hx (hD 31 rfl) rfl ?_
   refine XS.aload X202.here hx rfl (hD 32 rfl) rfl rfl ?_
   refine zC X202 hx (hD 33 rfl) ?_
   refine zl X202 hx (hD 34 rfl) rfl ?_
   show Steps p.tables e below (T202.setTop (mkF m 70 #[vR o, vR kw, vI (iN i), vR b, vR d, vI 0, vI (iN 2), vI 0] [(.int 2), (.int 0), (.ref d), (.int (iN i)), (.ref b)])) _
   refine st203 _ ?_
   refine zI X203 hx 80 (hD 36 rfl) ((if0 _ _).trans (flt hc73).2.1) rfl ?_
   refine zC X203 hx (hD 39 rfl) ?_
   exact retN X203 hx (t := .boolean) Bd.returns (by simp) (hD 40 rfl) hr
def swV (g kg : Nat → Int32) (i : Nat) : Int32 := if g i = kg 0 ∧ g (i + 1) = kg 1 then 1 else 0
theorem b8_iff {x y : Int32} (h1 : isB x) (h2 : isB y) : b8 x = b8 y ↔ x = y := ⟨fun q => by rw [← l16_eq h1, ← l16_eq h2, q], fun q => by rw [q]⟩
theorem swV_eq {o kw b d : Addr} {i : Nat} {g kg : Nat → Int32} (h1 : allB g) (h2 : allB kg) : f_sw o kw b d i g kg = swV g kg i := by
  unfold f_sw f_mm swV
  simp only [b8_iff (h1 i) (h2 0), b8_iff (h1 (i + 1)) (h2 1)]
  by_cases q1 : g i = kg 0
  · by_cases q2 : g (i + 1) = kg 1
    · simp [q1, q2]
    · simp [q1, q2]
  · simp [q1]
theorem rmSW (hw : HW Z a0) (ws : List Jvm.Cond) (o kw : Addr) (i : Nat) (g kg : Nat → Int32)  (h0 : Heap) (n0 : Nat) (Z0 : n0 ≤ h0.size) (hi : i + 2 ≤ 56) (O : Old Z n0 h0) (SK : StrSta Z) (hgB : allB g) (hkB : allB kg) (S : Str Z h0 o 56 g) (S2 : Str Z h0 kw 2 kg)  :
    MF l Z (⟨"java/lang/String", "startsWith", "(Ljava/lang/String;I)Z"⟩ : MethodName) jdk_42_method_75_code 8 (some .boolean) ws (rM 2 40 0 0) #[(.ref o), (.ref kw), (.int (Int32.ofNat i))] h0 (QI (swV g kg i) h0 n0) := by
  obtain ⟨EO, b, FV, FC, FB⟩ := S
  obtain ⟨EO2, d, FV2, FC2, FD⟩ := S2
  rw [← swV_eq (o := o) (kw := kw) (b := b) (d := d) hgB hkB]
  exact rm_sw l Z a0 hw ws o kw b d i g kg h0 n0 Z0 hi O SK EO FC FV EO2 FC2 FV2 FB FD
def D58 : List (Nat × Instr × Nat) := [(0, .aload_n 0, 1), (1, .getfield 54, 3), (4, .iconst 2, 1), (5, .iadd, 1), (6, .istore_n 1, 1), (7, .iload_n 1, 1), (8, .aload_n 0, 1), (9, .getfield 22, 3), (12, .invokevirtual 58, 3), (15, .if_icmp .ge 35, 3), (18, .aload_n 0, 1), (19, .getfield 22, 3), (22, .iload_n 1, 1), (23, .invokevirtual 64, 3), (26, .bipush 10, 2), (28, .if_icmp .eq 22, 3), (31, .aload_n 0, 1), (32, .getfield 22, 3), (35, .iload_n 1, 1), (36, .invokevirtual 64, 3), (39, .bipush 13, 2), (41, .if_icmp .eq 9, 3), (44, .iinc 1 1, 3), (47, .goto (-40), 3), (50, .iload_n 1, 1), (51, .ireturn, 1)]
theorem d58 : ∀ x ∈ D58, decode prog_11_method_13_code x.1 = .ok x.2 := by decide +kernel
theorem pn_58 : plainName "com/example/killdeer/killdeer/EndingStatements" = true := by first | (simp [plainName, overriddenIn]; done) | decide +kernel
theorem ef_58 (m : MethodId) (x0 : Addr) : entryFrame m #[(.ref x0)] 2 = mkF m 0 #[.val (.ref x0), .unset] [] := by first | (simp [entryFrame, mkF, argsToLocals, Value.category]; done) | rfl
theorem rmELC (hw : HW Z a0) (ws : List Jvm.Cond) (r o ka sa ea : Addr) (sc : Int32) (g : Nat → Int32) (tk : Nat) (le eb : Int32) (kv : Nat → Addr) (sv ev : Nat → Nat)  (h0 : Heap) (n0 : Nat) (Z0 : n0 ≤ h0.size) (O : Old Z n0 h0) (SK : StrSta Z) (RS0 : RS Z h0 r o ka sa ea sc g 36 tk le eb kv sv ev) (hgB : allB g) (h38 : g 38 = 59) (h39 : g 39 = 10)  :
    MF l Z (⟨"com/example/killdeer/killdeer/EndingStatements", "endOfLineComment", "()I"⟩ : MethodName) prog_11_method_13_code 2 (some .int) ws (rM 4 70 0 0) #[(.ref r)] h0 (QI (39 : Int32) h0 n0) := by
  refine zBody pn_58 (fun m => ef_58 m r) ?_
  intro p e s m below meth c s₁ Bd hx hby hml hown hZ hh X0 e0 pre0
  have hD := dk hby d58
  have N0 := Fr.nil n0
  obtain ⟨T204, X204, e204, st204⟩ := zF X0 hx hZ hown (hwi hw 112 rfl) e0 RS0.2.1.1 1 #[vR r, .unset] [] (hD 1 rfl)
  obtain ⟨T205, X205, e205, st205⟩ := zF X204 hx hZ hown (hwi hw 104 rfl) e204 RS0.1.2.1 9 #[vR r, vI 38] [(.int 38)] (hD 7 rfl)
  obtain ⟨T206, L206, X206, e206, N206, st206⟩ := vLEN X205 hx hZ hown e205 N0 hw (hwi hw 114 rfl) Z0 (by decide) O SK RS0.1.2.2.2.2.2.2 12 #[vR r, vI 38] [(.int 38)] hml (hD 8 rfl) 1
  obtain ⟨T207, X207, e207, st207⟩ := zF X206 hx hZ hown (hwi hw 104 rfl) e206 RS0.1.2.1 19 #[vR r, vI 38] [] (hD 11 rfl)
  obtain ⟨T208, L208, X208, e208, N208, st208⟩ := vCA X207 hx hZ hown e207 N206 hw (hwi hw 115 rfl) Z0 (by decide) 38 (38 : Int32) (by decide) O SK RS0.1.2.2.2.2.2.2 (hgB _) 23 #[vR r, vI 38] [] hml (hD 13 rfl) 0
  obtain ⟨T209, X209, e209, st209⟩ := zF X208 hx hZ hown (hwi hw 104 rfl) e208 RS0.1.2.1 32 #[vR r, vI 38] [] (hD 17 rfl)
  obtain ⟨T210, L210, X210, e210, N210, st210⟩ := vCA X209 hx hZ hown e209 N208 hw (hwi hw 115 rfl) Z0 (by decide) 38 (38 : Int32) (by decide) O SK RS0.1.2.2.2.2.2.2 (hgB _) 36 #[vR r, vI 38] [] hml (hD 19 rfl) 0
  obtain ⟨T211, X211, e211, st211⟩ := zF X210 hx hZ hown (hwi hw 104 rfl) e210 RS0.1.2.1 9 #[vR r, vI 39] [(.int 39)] (hD 7 rfl)
  obtain ⟨T212, L212, X212, e212, N212, st212⟩ := vLEN X211 hx hZ hown e211 N210 hw (hwi hw 114 rfl) Z0 (by decide) O SK RS0.1.2.2.2.2.2.2 12 #[vR r, vI 39] [(.int 39)] hml (hD 8 rfl) 1
  obtain ⟨T213, X213, e213, st213⟩ := zF X212 hx hZ hown (hwi hw 104 rfl) e212 RS0.1.2.1 19 #[vR r, vI 39] [] (hD 11 rfl)
  obtain ⟨T214, L214, X214, e214, N214, st214⟩ := vCA X213 hx hZ hown e213 N212 hw (hwi hw 115 rfl) Z0 (by decide) 39 (39 : Int32) (by decide) O SK RS0.1.2.2.2.2.2.2 (hgB _) 23 #[vR r, vI 39] [] hml (hD 13 rfl) 0
  refine zLv Bd X214 (v := some (.int 39)) (by decide) nofun (fun fs hr => pre0 _ ?_) (by rw [e214]; exact ⟨rfl, N214, rfl⟩)
  refine zA X0 hx (hD 0 rfl) rfl rfl ?_
  refine st204 _ ?_
  refine zC X204 hx (hD 2 rfl) ?_
  refine zPl X204 hx (hD 3 rfl) (z := 38) rfl ?_
  refine zS X204 hx (hD 4 rfl) rfl ?_
  refine zL X204 hx (hD 5 rfl) rfl ?_
  refine zA X204 hx (hD 6 rfl) rfl rfl ?_
  refine st205 _ ?_
  refine st206 _ ?_
  refine zN X206 hx (hD 9 rfl) (tlt (by decide : (38 : Int32) < (56 : Int32))).2.1 ?_
  refine zA X206 hx (hD 10 rfl) rfl rfl ?_
  refine st207 _ ?_
  refine zL X207 hx (hD 12 rfl) rfl ?_
  refine st208 _ ?_
  refine zB X208 hx (hD 14 rfl) ?_
  refine zN X208 hx (hD 15 rfl) (feq (by rw [h38]; decide)).1 ?_
  refine zA X208 hx (hD 16 rfl) rfl rfl ?_
  refine st209 _ ?_
  refine zL X209 hx (hD 18 rfl) rfl ?_
  refine st210 _ ?_
  refine zB X210 hx (hD 20 rfl) ?_
  refine zN X210 hx (hD 21 rfl) (feq (by rw [h38]; decide)).1 ?_
  refine XS.iinc X210.here hx rfl (hD 22 rfl) rfl (l' := #[vR r, vI 39]) rfl ?_
  refine zG X210 hx 7 (hD 23 rfl) rfl ?_
  refine zL X210 hx (hD 5 rfl) rfl ?_
  refine zA X210 hx (hD 6 rfl) rfl rfl ?_
  refine st211 _ ?_
  refine st212 _ ?_
  refine zN X212 hx (hD 9 rfl) (tlt (by decide : (39 : Int32) < (56 : Int32))).2.1 ?_
  refine zA X212 hx (hD 10 rfl) rfl rfl ?_
  refine st213 _ ?_
  refine zL X213 hx (hD 12 rfl) rfl ?_
  refine st214 _ ?_
  refine zB X214 hx (hD 14 rfl) ?_
  refine zM X214 hx 50 (hD 15 rfl) (teq h39).1 rfl ?_
  refine zL X214 hx (hD 24 rfl) rfl ?_
  exact retI X214 hx Bd.returns (hD 25 rfl) hr
def D42 : List (Nat × Instr × Nat) := [(0, .aload_n 0, 1), (1, .getfield 54, 3), (4, .iconst 1, 1), (5, .iadd, 1), (6, .istore_n 1, 1), (7, .iload_n 1, 1), (8, .aload_n 0, 1), (9, .getfield 22, 3), (12, .invokevirtual 58, 3), (15, .if_icmp .ge 47, 3), (18, .aload_n 0, 1), (19, .getfield 22, 3), (22, .iload_n 1, 1), (23, .invokevirtual 64, 3), (26, .invokestatic 113, 3), (29, .ifCond .ne 27, 3), (32, .iload_n 1, 1), (33, .aload_n 0, 1), (34, .getfield 54, 3), (37, .iconst 1, 1), (38, .iadd, 1), (39, .if_icmp .le 23, 3), (62, .aload_n 0, 1), (63, .iload_n 1, 1), (64, .invokevirtual 132, 3), (67, .bipush 36, 2), (69, .if_icmp .ne 14, 3), (72, .iload_n 1, 1), (73, .iconst 1, 1), (74, .iadd, 1), (75, .aload_n 0, 1), (76, .getfield 54, 3), (79, .isub, 1), (80, .goto 4, 3), (84, .ireturn, 1)]
theorem d42 : ∀ x ∈ D42, decode prog_11_method_11_code x.1 = .ok x.2 := by decide +kernel
theorem pn_42 : plainName "com/example/killdeer/killdeer/EndingStatements" = true := by first | (simp [plainName, overriddenIn]; done) | decide +kernel
theorem ef_42 (m : MethodId) (x0 : Addr) : entryFrame m #[(.ref x0)] 2 = mkF m 0 #[.val (.ref x0), .unset] [] := by first | (simp [entryFrame, mkF, argsToLocals, Value.category]; done) | rfl
theorem f_is36 {x : Int32} (h : x = 36) : f_is x = 0 := by rw [h]; decide
theorem rm_is0 (hw : HW Z a0) (ws : List Jvm.Cond) (x : Int32)  (h0 : Heap) (n0 : Nat) (Z0 : n0 ≤ h0.size) (hx0 : f_is x = 0)  :
    MF l Z (⟨"com/example/killdeer/killdeer/EndingStatements", "isIdentifierStart", "(C)Z"⟩ : MethodName) prog_11_method_17_code 1 (some .boolean) ws (rM 0 0 0 0) #[(.int x)] h0 (QI (0 : Int32) h0 n0) := by
  rw [← hx0]; exact rm_is l Z a0 hw ws x h0 n0 Z0
theorem rmDDL (hw : HW Z a0) (ws : List Jvm.Cond) (r o ka sa ea : Addr) (sc : Int32) (g : Nat → Int32) (tk : Nat) (le eb : Int32) (kv : Nat → Addr) (sv ev : Nat → Nat)  (h0 : Heap) (n0 : Nat) (Z0 : n0 ≤ h0.size) (O : Old Z n0 h0) (SK : StrSta Z) (RS0 : RS Z h0 r o ka sa ea sc g 36 tk le eb kv sv ev) (hgB : allB g) (h37 : g 37 = 36)  :
    MF l Z (⟨"com/example/killdeer/killdeer/EndingStatements", "dollarDelimiterLength", "()I"⟩ : MethodName) prog_11_method_11_code 2 (some .int) ws (rM 5 90 0 0) #[(.ref r)] h0 (QI (2 : Int32) h0 n0) := by
  refine zBody pn_42 (fun m => ef_42 m r) ?_
  intro p e s m below meth c s₁ Bd hx hby hml hown hZ hh X0 e0 pre0
  have hD := dk hby d42
  have N0 := Fr.nil n0
  obtain ⟨T215, X215, e215, st215⟩ := zF X0 hx hZ hown (hwi hw 112 rfl) e0 RS0.2.1.1 1 #[vR r, .unset] [] (hD 1 rfl)
  obtain ⟨T216, X216, e216, st216⟩ := zF X215 hx hZ hown (hwi hw 104 rfl) e215 RS0.1.2.1 9 #[vR r, vI 37] [(.int 37)] (hD 7 rfl)
  obtain ⟨T217, L217, X217, e217, N217, st217⟩ := vLEN X216 hx hZ hown e216 N0 hw (hwi hw 114 rfl) Z0 (by decide) O SK RS0.1.2.2.2.2.2.2 12 #[vR r, vI 37] [(.int 37)] hml (hD 8 rfl) 1
  obtain ⟨T218, X218, e218, st218⟩ := zF X217 hx hZ hown (hwi hw 104 rfl) e217 RS0.1.2.1 19 #[vR r, vI 37] [] (hD 11 rfl)
  obtain ⟨T219, L219, X219, e219, N219, st219⟩ := vCA X218 hx hZ hown e218 N217 hw (hwi hw 115 rfl) Z0 (by decide) 37 (37 : Int32) (by decide) O SK RS0.1.2.2.2.2.2.2 (hgB _) 23 #[vR r, vI 37] [] hml (hD 13 rfl) 0
  obtain ⟨T220, L220, X220, e220, N220, st220⟩ := zT X219 hx hZ hown e219 N219 (hwi hw 131 rfl) (hwi hw 132 rfl) (hwi hw 88 rfl) (hwi hw 133 rfl) (rm_is0 l Z a0 hw [] (g 37) h0 n0 Z0 (f_is36 h37)) 26 #[vR r, vI 37] [(.int (g 37))] hml pd_18 (hD 14 rfl) 0
  obtain ⟨T221, X221, e221, st221⟩ := zF X220 hx hZ hown (hwi hw 112 rfl) e220 RS0.2.1.1 34 #[vR r, vI 37] [(.int 37)] (hD 18 rfl)
  have EZ221 := RS0.1.1
  obtain ⟨T222, L222, X222, e222, N222, st222⟩ := zV X221 hx hZ hown e221 EZ221 N220 (hwi hw 231 rfl) (declOf (hwi hw 232 rfl) (hwi hw 234 rfl)) (selOf (hwi hw 232 rfl) (hwi hw 233 rfl) (hwi hw 91 rfl) (by decide)) (hwi hw 232 rfl) (hwi hw 234 rfl) (hwi hw 88 rfl) (rmECA l Z a0 hw [] r o 37 g h0 n0 Z0 (by decide) O SK EZ221 RS0.1.2.1 RS0.1.2.2.2.2.2.2 hgB) 64 #[vR r, vI 37] [(.int 37), (.ref r)] hml pd_5 (hD 24 rfl) 0
  obtain ⟨T223, X223, e223, st223⟩ := zF X222 hx hZ hown (hwi hw 112 rfl) e222 RS0.2.1.1 76 #[vR r, vI 37] [(.int 38)] (hD 31 rfl)
  refine zLv Bd X223 (v := some (.int 2)) (by decide) nofun (fun fs hr => pre0 _ ?_) (by rw [e223]; exact ⟨rfl, N222, rfl⟩)
  refine zA X0 hx (hD 0 rfl) rfl rfl ?_
  refine st215 _ ?_
  refine zC X215 hx (hD 2 rfl) ?_
  refine zPl X215 hx (hD 3 rfl) (z := 37) rfl ?_
  refine zS X215 hx (hD 4 rfl) rfl ?_
  refine zL X215 hx (hD 5 rfl) rfl ?_
  refine zA X215 hx (hD 6 rfl) rfl rfl ?_
  refine st216 _ ?_
  refine st217 _ ?_
  refine zN X217 hx (hD 9 rfl) (tlt (by decide : (37 : Int32) < (56 : Int32))).2.1 ?_
  refine zA X217 hx (hD 10 rfl) rfl rfl ?_
  refine st218 _ ?_
  refine zL X218 hx (hD 12 rfl) rfl ?_
  refine st219 _ ?_
  refine st220 _ ?_
  refine zJ X220 hx (hD 15 rfl) ((if0 _ _).trans (teq (rfl : (0 : Int32) = 0)).2) ?_
  refine zL X220 hx (hD 16 rfl) rfl ?_
  refine zA X220 hx (hD 17 rfl) rfl rfl ?_
  refine st221 _ ?_
  refine zC X221 hx (hD 19 rfl) ?_
  refine zPl X221 hx (hD 20 rfl) (z := 37) rfl ?_
  refine zM X221 hx 62 (hD 21 rfl) (flt (by decide : ¬ ((37 : Int32) < (37 : Int32)))).2.2.2 rfl ?_
  refine zA X221 hx (hD 22 rfl) rfl rfl ?_
  refine zL X221 hx (hD 23 rfl) rfl ?_
  refine st222 _ ?_
  refine zB X222 hx (hD 25 rfl) ?_
  refine zN X222 hx (hD 26 rfl) (teq h37).2 ?_
  refine zL X222 hx (hD 27 rfl) rfl ?_
  refine zC X222 hx (hD 28 rfl) ?_
  refine zPl X222 hx (hD 29 rfl) (z := 38) rfl ?_
  refine zA X222 hx (hD 30 rfl) rfl rfl ?_
  refine st223 _ ?_
  refine zQl X223 hx (hD 32 rfl) (z := 2) rfl ?_
  refine zG X223 hx 84 (hD 33 rfl) rfl ?_
  exact retI X223 hx Bd.returns (hD 34 rfl) hr
section CopyG
variable {p : Program} {l : Launch} {e : Env} {R : Room} {s : State} {m : MethodId} {args : Array Value} {below : List Frame} {meth : Method} {c : Code} {T : State} {locs : List Loc} {cells slots : Nat} {Z : State} {a0 : Array Value} {h h' : Heap} {a b : Addr} {ty : FieldType} {f f' : Nat → Value}
/-- System.arraycopy of k components, from sp of a to the start of b -/
theorem cpG (X : Stand p l e R s m args below meth c T locs cells slots) (hx : p.tables.exec = Jvm.exec) (hZ : Z.Warmed39 s.vm) {own : String} {index : Nat} (hown : s.vm.findClass own = some m.cls)
    (w1 : (Cond.methodLink own index Jvm.Stand.acN).before a0 Z = true) (w2 : (Cond.native Jvm.Stand.acN).before a0 Z = true) (w3 : (Cond.static Jvm.Stand.acN).before a0 Z = true) (w4 : (Cond.initialized "java/lang/System").before a0 Z = true) (eT : T.heap = h)
    {k na nb sp : Nat} (A : AF Z h a ty na f) (B : AF Z h b ty nb f') (hty : refKind ty = false) (ha : na < 2147483648) (hb : nb < 2147483648) (h4 : sp + k ≤ na) (h5 : k ≤ nb) (hf : ∀ j, j < na → fits ty (f j) = true) (hf' : ∀ j, j < nb → fits ty (f' j) = true) {n0 : Nat} (N : Fr n0 locs) (ge : n0 ≤ b)
    {g : JFrame} (hg : g.method = m) (hsize : g.locals.size = c.maxLocals) {rest : List Value} (hs : g.stack = .int (Int32.ofNat k) :: .int (0 : Int32) :: .ref b :: .int (Int32.ofNat sp) :: .ref a :: rest) (hd : decode c.code g.pc = .ok (.invokestatic index, 3))
    (hfr : 1 ≤ R.frames) {W : Nat} (hW : 2 * g.monitorRoom + (rest.map fun v => v.category).sum ≤ W) (hlo : W + (nativeFrameWords "java/lang/System" "arraycopy" 5 + 11) ≤ R.locals) :
    ∃ T' h' L, Stand p l e R s m args below meth c T' L cells slots ∧ T'.heap = h' ∧ Fr n0 L ∧ Keep h h' [b] ∧ AF Z h' b ty nb (fun j => if j < k then f (sp + j) else f' j) ∧
      ∀ target, Steps p.tables e below (T'.setTop { g with pc := g.pc + 3, stack := rest }) target → Steps p.tables e below (T.setTop g) target := by
  obtain ⟨ka, VA⟩ := A.arv ha .null hf
  obtain ⟨kb, VB⟩ := B.arv hb .null hf'
  have ck : (Int32.ofNat k).toNatClampNeg = k := clampN (by omega)
  have cs : (Int32.ofNat sp).toNatClampNeg = sp := clampN (by omega)
  have c0 : (0 : Int32).toNatClampNeg = 0 := rfl
  obtain ⟨T', h', L, X', e', N', K', V', st⟩ := cpA X hx hZ hown w1 w2 w3 w4 eT VA VB (Or.inl ⟨rfl, hty⟩) (sp := Int32.ofNat sp) (dp := 0) (nn := Int32.ofNat k) (nnN (by omega)) (by decide) (nnN (by omega)) (by rw [cs, ck, clampN ha]; omega) (by rw [c0, ck, clampN hb]; omega) rfl (by rw [c0, ck, List.length_map, List.length_range]; omega) N ge hg hsize hs hd hfr hW hlo
  refine ⟨T', h', L, X', e', N', K', (afOf V' (clampN hb)).congr fun j hj => ?_, st⟩
  rw [c0, ck, cs]
  simp only [List.take_zero, List.nil_append, Nat.zero_add]
  by_cases q : j < k
  · rw [if_pos q]
    simp only [List.getD]
    rw [List.getElem?_append_left (by simp [q])]
    simp [q, show sp + j < na by omega]
  · rw [if_neg q]
    simp only [List.getD]
    rw [List.getElem?_append_right (by simp; omega)]
    simp [show k + (j - k) = j by omega, hj]
end CopyG
theorem extK {h h' : Heap} (K : Keep h h' []) : Ext h h' := ⟨K.1, fun a c q => K.2.1 a c q List.not_mem_nil⟩
theorem fitsLb (g : Nat → Int32) (n : Nat) : ∀ j, j < n → fits .byte (Lb g j) = true := fun j _ => fits_nar_byte _
def QJ (x : Int64) (h0 : Heap) (n0 : Nat) (v : Option Value) (h : Heap) (L : List Loc) : Prop := v = some (.long x) ∧ Fr n0 L ∧ h = h0
/-- answers v0; the heap has only grown -/
def QX (v0 : Value) (h0 : Heap) (n0 : Nat) (v : Option Value) (h : Heap) (L : List Loc) : Prop := v = some v0 ∧ Fr n0 L ∧ Ext h0 h

theorem rmSWv (hw : HW Z a0) (ws : List Jvm.Cond) (o kw : Addr) (i : Nat) (g kg : Nat → Int32) (b : Int32)  (h0 : Heap) (n0 : Nat) (Z0 : n0 ≤ h0.size) (hi : i + 2 ≤ 56) (O : Old Z n0 h0) (SK : StrSta Z) (hgB : allB g) (hkB : allB kg) (S : Str Z h0 o 56 g) (S2 : Str Z h0 kw 2 kg) (hv : swV g kg i = b)  :
    MF l Z (⟨"java/lang/String", "startsWith", "(Ljava/lang/String;I)Z"⟩ : MethodName) jdk_42_method_75_code 8 (some .boolean) ws (rM 2 40 0 0) #[(.ref o), (.ref kw), (.int (Int32.ofNat i))] h0 (QI b h0 n0) := by
  rw [← hv]; exact rmSW l Z a0 hw ws o kw i g kg h0 n0 Z0 hi O SK hgB hkB S S2
theorem swY {g kg : Nat → Int32} {i : Nat} (h1 : g i = kg 0) (h2 : g (i + 1) = kg 1) : swV g kg i = 1 := if_pos ⟨h1, h2⟩
theorem swN0 {g kg : Nat → Int32} {i : Nat} (h1 : ¬ (g i = kg 0)) : swV g kg i = 0 := if_neg fun q => h1 q.1
def D59 : List (Nat × Instr × Nat) := [(0, .iconst 0, 1), (1, .istore_n 1, 1), (2, .aload_n 0, 1), (3, .getfield 54, 3), (6, .istore_n 2, 1), (7, .iload_n 2, 1), (8, .aload_n 0, 1), (9, .getfield 22, 3), (12, .invokevirtual 58, 3), (15, .if_icmp .ge 56, 3), (18, .aload_n 0, 1), (19, .getfield 22, 3), (22, .ldc 87, 2), (24, .iload_n 2, 1), (25, .invokevirtual 80, 3), (28, .ifCond .eq 12, 3), (31, .iinc 1 1, 3), (34, .iinc 2 2, 3), (37, .goto (-30), 3), (40, .aload_n 0, 1), (41, .getfield 22, 3), (44, .ldc 194, 2), (46, .iload_n 2, 1), (47, .invokevirtual 80, 3), (50, .ifCond .eq 15, 3), (53, .iinc 1 (-1), 3), (56, .iinc 2 2, 3), (59, .iload_n 1, 1), (60, .ifCond .ne (-53), 3), (63, .iload_n 2, 1), (64, .ireturn, 1), (65, .iinc 2 1, 3), (68, .goto (-61), 3)]
theorem d59 : ∀ x ∈ D59, decode prog_11_method_14_code x.1 = .ok x.2 := by decide +kernel
theorem pn_59 : plainName "com/example/killdeer/killdeer/EndingStatements" = true := by first | (simp [plainName, overriddenIn]; done) | decide +kernel
theorem ef_59 (m : MethodId) (x0 : Addr) : entryFrame m #[(.ref x0)] 3 = mkF m 0 #[.val (.ref x0), .unset, .unset] [] := by first | (simp [entryFrame, mkF, argsToLocals, Value.category]; done) | rfl
theorem rmEBC (hw : HW Z a0) (ws : List Jvm.Cond) (r o ka sa ea : Addr) (sc : Int32) (g : Nat → Int32) (tk : Nat) (le eb : Int32) (kv : Nat → Addr) (sv ev : Nat → Nat)  (h0 : Heap) (n0 : Nat) (Z0 : n0 ≤ h0.size) (O : Old Z n0 h0) (SK : StrSta Z) (RS0 : RS Z h0 r o ka sa ea sc g 36 tk le eb kv sv ev) (hgB : allB g) (h36 : g 36 = 47) (h37 : g 37 = 42) (h38 : g 38 = 59) (h39 : g 39 = 42) (h40 : g 40 = 47) (hEL : EW Z a0 EL1)  :
    MH l Z (⟨"com/example/killdeer/killdeer/EndingStatements", "endOfBlockComment", "()I"⟩ : MethodName) prog_11_method_14_code 3 (some .int) ws (rM 4 74 10 60) #[(.ref r)] h0 (QX (.int 41) h0 n0) := by
  refine zBodyH pn_59 (fun m => ef_59 m r) ?_
  intro p e s m below meth c s₁ Bd hx hby hml hown hZ hh X0 e0 pre0 CH0
  have hD := dk hby d59
  have N0 := Fr.nil n0
  have hwS := hwSt hw
  obtain ⟨T224, X224, e224, st224⟩ := zF X0 hx hZ hown (hwi hw 112 rfl) e0 RS0.2.1.1 3 #[vR r, vI 0, .unset] [] (hD 3 rfl)
  obtain ⟨T225, X225, e225, st225⟩ := zF X224 hx hZ hown (hwi hw 104 rfl) e224 RS0.1.2.1 9 #[vR r, vI 0, vI 36] [(.int 36)] (hD 7 rfl)
  obtain ⟨T226, L226, X226, e226, N226, st226⟩ := vLEN X225 hx hZ hown e225 N0 hw (hwi hw 114 rfl) Z0 (by decide) O SK RS0.1.2.2.2.2.2.2 12 #[vR r, vI 0, vI 36] [(.int 36)] hml (hD 8 rfl) 1
  obtain ⟨T227, X227, e227, st227⟩ := zF X226 hx hZ hown (hwi hw 104 rfl) e226 RS0.1.2.1 19 #[vR r, vI 0, vI 36] [] (hD 11 rfl)
  obtain ⟨a228, T228, h228, k228, X228, e228, E228, hS228, hk228, hZ228, hown228, S228, C228, st228⟩ := cLDC (s := s) (vm0 := s.vm) (EL := EL1) X227 hx hZ hown (hwi hw 130 rfl) hwS e227 ((State.WarmedH.refl s).since 0) (Nat.zero_le _) hEL (List.mem_of_getElem? (i := 1) rfl) CH0 kl87 (n := 2) (q := 8) (by decide +kernel) (g := (mkF m 22 #[vR r, vI 0, vI 36] [(.ref o)])) rfl (hD 12 rfl) (by decide) (by decide)
  have O228 := O.ext E228
  have K228 := (Keep.refl h0 []).ext E228
  have Z228 := Nat.le_trans Z0 E228.1
  have CR228 := (CHr.refl CH0).trans C228
  have R228 := RS0.ext E228
  have F228 := id E228
  have EY228 := R228.1.2.2.2.2.2.2.1
  obtain ⟨T229, L229, X229, e229, N229, st229⟩ := zV X228 hx hZ228 hown228 e228 EY228 N226 (hwi hw 120 rfl) (hwi hw 121 rfl) (hwi hw 123 rfl) (hwi hw 122 rfl) (hwi hw 124 rfl) (hwi hw 9 rfl) (rmSWv l Z a0 hw [] o a228 36 g (gl kl87) (1 : Int32) h228 n0 Z228 (by decide) O228 SK hgB (glB (by decide +kernel : ∀ x ∈ kl87, 0 ≤ x.toInt ∧ x.toInt < 256)) R228.1.2.2.2.2.2.2 S228 (swY h36 h37)) 25 #[vR r, vI 0, vI 36] [(.int 36), (.ref a228), (.ref o)] hml pd_19 (hD 14 rfl) 0
  obtain ⟨T230, X230, e230, st230⟩ := zF X229 hx hZ228 hown228 (hwi hw 104 rfl) e229 R228.1.2.1 9 #[vR r, vI 1, vI 38] [(.int 38)] (hD 7 rfl)
  obtain ⟨T231, L231, X231, e231, N231, st231⟩ := vLEN X230 hx hZ228 hown228 e230 N229 hw (hwi hw 114 rfl) Z228 (by decide) O228 SK R228.1.2.2.2.2.2.2 12 #[vR r, vI 1, vI 38] [(.int 38)] hml (hD 8 rfl) 1
  obtain ⟨T232, X232, e232, st232⟩ := zF X231 hx hZ228 hown228 (hwi hw 104 rfl) e231 R228.1.2.1 19 #[vR r, vI 1, vI 38] [] (hD 11 rfl)
  obtain ⟨a233, T233, h233, k233, X233, e233, E233, hS233, hk233, hZ233, hown233, S233, C233, st233⟩ := cLDC (s := s) (vm0 := T228.vm) (EL := EL1) X232 hx hZ228 hown228 (hwi hw 130 rfl) hwS e232 hS228 hk228 hEL (List.mem_of_getElem? (i := 1) rfl) C228.1 kl87 (n := 2) (q := 8) (by decide +kernel) (g := (mkF m 22 #[vR r, vI 1, vI 38] [(.ref o)])) rfl (hD 12 rfl) (by decide) (by decide)
  have O233 := O228.ext E233
  have K233 := K228.ext E233
  have Z233 := Nat.le_trans Z228 E233.1
  have CR233 := CR228.trans C233
  have R233 := R228.ext E233
  have F233 := extT F228 E233
  have EY233 := R233.1.2.2.2.2.2.2.1
  obtain ⟨T234, L234, X234, e234, N234, st234⟩ := zV X233 hx hZ233 hown233 e233 EY233 N231 (hwi hw 120 rfl) (hwi hw 121 rfl) (hwi hw 123 rfl) (hwi hw 122 rfl) (hwi hw 124 rfl) (hwi hw 9 rfl) (rmSWv l Z a0 hw [] o a233 38 g (gl kl87) (0 : Int32) h233 n0 Z233 (by decide) O233 SK hgB (glB (by decide +kernel : ∀ x ∈ kl87, 0 ≤ x.toInt ∧ x.toInt < 256)) R233.1.2.2.2.2.2.2 S233 (swN0 (by rw [h38]; decide +kernel))) 25 #[vR r, vI 1, vI 38] [(.int 38), (.ref a233), (.ref o)] hml pd_19 (hD 14 rfl) 0
  obtain ⟨T235, X235, e235, st235⟩ := zF X234 hx hZ233 hown233 (hwi hw 104 rfl) e234 R233.1.2.1 41 #[vR r, vI 1, vI 38] [] (hD 20 rfl)
  obtain ⟨a236, T236, h236, k236, X236, e236, E236, hS236, hk236, hZ236, hown236, S236, C236, st236⟩ := cLDC (s := s) (vm0 := T233.vm) (EL := EL1) X235 hx hZ233 hown233 (hwi hw 317 rfl) hwS e235 hS233 hk233 hEL (List.mem_of_getElem? (i := 12) rfl) C233.1 kl194 (n := 2) (q := 8) (by decide +kernel) (g := (mkF m 44 #[vR r, vI 1, vI 38] [(.ref o)])) rfl (hD 21 rfl) (by decide) (by decide)
  have O236 := O233.ext E236
  have K236 := K233.ext E236
  have Z236 := Nat.le_trans Z233 E236.1
  have CR236 := CR233.trans C236
  have R236 := R233.ext E236
  have F236 := extT F233 E236
  have EY236 := R236.1.2.2.2.2.2.2.1
  obtain ⟨T237, L237, X237, e237, N237, st237⟩ := zV X236 hx hZ236 hown236 e236 EY236 N234 (hwi hw 120 rfl) (hwi hw 121 rfl) (hwi hw 123 rfl) (hwi hw 122 rfl) (hwi hw 124 rfl) (hwi hw 9 rfl) (rmSWv l Z a0 hw [] o a236 38 g (gl kl194) (0 : Int32) h236 n0 Z236 (by decide) O236 SK hgB (glB (by decide +kernel : ∀ x ∈ kl194, 0 ≤ x.toInt ∧ x.toInt < 256)) R236.1.2.2.2.2.2.2 S236 (swN0 (by rw [h38]; decide +kernel))) 47 #[vR r, vI 1, vI 38] [(.int 38), (.ref a236), (.ref o)] hml pd_19 (hD 23 rfl) 0
  obtain ⟨T238, X238, e238, st238⟩ := zF X237 hx hZ236 hown236 (hwi hw 104 rfl) e237 R236.1.2.1 9 #[vR r, vI 1, vI 39] [(.int 39)] (hD 7 rfl)
  obtain ⟨T239, L239, X239, e239, N239, st239⟩ := vLEN X238 hx hZ236 hown236 e238 N237 hw (hwi hw 114 rfl) Z236 (by decide) O236 SK R236.1.2.2.2.2.2.2 12 #[vR r, vI 1, vI 39] [(.int 39)] hml (hD 8 rfl) 1
  obtain ⟨T240, X240, e240, st240⟩ := zF X239 hx hZ236 hown236 (hwi hw 104 rfl) e239 R236.1.2.1 19 #[vR r, vI 1, vI 39] [] (hD 11 rfl)
  obtain ⟨a241, T241, h241, k241, X241, e241, E241, hS241, hk241, hZ241, hown241, S241, C241, st241⟩ := cLDC (s := s) (vm0 := T236.vm) (EL := EL1) X240 hx hZ236 hown236 (hwi hw 130 rfl) hwS e240 hS236 hk236 hEL (List.mem_of_getElem? (i := 1) rfl) C236.1 kl87 (n := 2) (q := 8) (by decide +kernel) (g := (mkF m 22 #[vR r, vI 1, vI 39] [(.ref o)])) rfl (hD 12 rfl) (by decide) (by decide)
  have O241 := O236.ext E241
  have K241 := K236.ext E241
  have Z241 := Nat.le_trans Z236 E241.1
  have CR241 := CR236.trans C241
  have R241 := R236.ext E241
  have F241 := extT F236 E241
  have EY241 := R241.1.2.2.2.2.2.2.1
  obtain ⟨T242, L242, X242, e242, N242, st242⟩ := zV X241 hx hZ241 hown241 e241 EY241 N239 (hwi hw 120 rfl) (hwi hw 121 rfl) (hwi hw 123 rfl) (hwi hw 122 rfl) (hwi hw 124 rfl) (hwi hw 9 rfl) (rmSWv l Z a0 hw [] o a241 39 g (gl kl87) (0 : Int32) h241 n0 Z241 (by decide) O241 SK hgB (glB (by decide +kernel : ∀ x ∈ kl87, 0 ≤ x.toInt ∧ x.toInt < 256)) R241.1.2.2.2.2.2.2 S241 (swN0 (by rw [h39]; decide +kernel))) 25 #[vR r, vI 1, vI 39] [(.int 39), (.ref a241), (.ref o)] hml pd_19 (hD 14 rfl) 0
  obtain ⟨T243, X243, e243, st243⟩ := zF X242 hx hZ241 hown241 (hwi hw 104 rfl) e242 R241.1.2.1 41 #[vR r, vI 1, vI 39] [] (hD 20 rfl)
  obtain ⟨a244, T244, h244, k244, X244, e244, E244, hS244, hk244, hZ244, hown244, S244, C244, st244⟩ := cLDC (s := s) (vm0 := T241.vm) (EL := EL1) X243 hx hZ241 hown241 (hwi hw 317 rfl) hwS e243 hS241 hk241 hEL (List.mem_of_getElem? (i := 12) rfl) C241.1 kl194 (n := 2) (q := 8) (by decide +kernel) (g := (mkF m 44 #[vR r, vI 1, vI 39] [(.ref o)])) rfl (hD 21 rfl) (by decide) (by decide)
  have O244 := O241.ext E244
  have K244 := K241.ext E244
  have Z244 := Nat.le_trans Z241 E244.1
  have CR244 := CR241.trans C244
  have R244 := R241.ext E244
  have F244 := extT F241 E244
  have EY244 := R244.1.2.2.2.2.2.2.1
  obtain ⟨T245, L245, X245, e245, N245, st245⟩ := zV X244 hx hZ244 hown244 e244 EY244 N242 (hwi hw 120 rfl) (hwi hw 121 rfl) (hwi hw 123 rfl) (hwi hw 122 rfl) (hwi hw 124 rfl) (hwi hw 9 rfl) (rmSWv l Z a0 hw [] o a244 39 g (gl kl194) (1 : Int32) h244 n0 Z244 (by decide) O244 SK hgB (glB (by decide +kernel : ∀ x ∈ kl194, 0 ≤ x.toInt ∧ x.toInt < 256)) R244.1.2.2.2.2.2.2 S244 (swY h39 h40)) 47 #[vR r, vI 1, vI 39] [(.int 39), (.ref a244), (.ref o)] hml pd_19 (hD 23 rfl) 0
  refine zLw Bd (vm₁ := T244.vm) X245 hS244 (by rw [e245]; exact hk244) hZ244 hEL hh e245 CR244 (v := some (.int 41)) (by decide) nofun (fun fs hr => pre0 _ ?_) (by exact ⟨rfl, N245, by rw [e245]; exact F244⟩)
  refine zC X0 hx (hD 0 rfl) ?_
  refine zS X0 hx (hD 1 rfl) rfl ?_
  refine zA X0 hx (hD 2 rfl) rfl rfl ?_
  refine st224 _ ?_
  refine zS X224 hx (hD 4 rfl) rfl ?_
  refine zL X224 hx (hD 5 rfl) rfl ?_
  refine zA X224 hx (hD 6 rfl) rfl rfl ?_
  refine st225 _ ?_
  refine st226 _ ?_
  refine zN X226 hx (hD 9 rfl) (tlt (by decide : (36 : Int32) < (56 : Int32))).2.1 ?_
  refine zA X226 hx (hD 10 rfl) rfl rfl ?_
  refine st227 _ ?_
  refine st228 _ ?_
  refine zL X228 hx (hD 13 rfl) rfl ?_
  refine st229 _ ?_
  refine zJ X229 hx (hD 15 rfl) ((if0 _ _).trans (feq (by decide : ¬ ((1 : Int32) = 0))).1) ?_
  refine XS.iinc X229.here hx rfl (hD 16 rfl) rfl (l' := #[vR r, vI 1, vI 36]) rfl ?_
  refine XS.iinc X229.here hx rfl (hD 17 rfl) rfl (l' := #[vR r, vI 1, vI 38]) rfl ?_
  refine zG X229 hx 7 (hD 18 rfl) rfl ?_
  refine zL X229 hx (hD 5 rfl) rfl ?_
  refine zA X229 hx (hD 6 rfl) rfl rfl ?_
  refine st230 _ ?_
  refine st231 _ ?_
  refine zN X231 hx (hD 9 rfl) (tlt (by decide : (38 : Int32) < (56 : Int32))).2.1 ?_
  refine zA X231 hx (hD 10 rfl) rfl rfl ?_
  refine st232 _ ?_
  refine st233 _ ?_
  refine zL X233 hx (hD 13 rfl) rfl ?_
  refine st234 _ ?_
  refine zI X234 hx 40 (hD 15 rfl) ((if0 _ _).trans (teq (rfl : (0 : Int32) = 0)).1) rfl ?_
  refine zA X234 hx (hD 19 rfl) rfl rfl ?_
  refine st235 _ ?_
  refine st236 _ ?_
  refine zL X236 hx (hD 22 rfl) rfl ?_
  refine st237 _ ?_
  refine zI X237 hx 65 (hD 24 rfl) ((if0 _ _).trans (teq (rfl : (0 : Int32) = 0)).1) rfl ?_
  refine XS.iinc X237.here hx rfl (hD 31 rfl) rfl (l' := #[vR r, vI 1, vI 39]) rfl ?_
  refine zG X237 hx 7 (hD 32 rfl) rfl ?_
  refine zL X237 hx (hD 5 rfl) rfl ?_
  refine zA X237 hx (hD 6 rfl) rfl rfl ?_
  refine st238 _ ?_
  refine st239 _ ?_
  refine zN X239 hx (hD 9 rfl) (tlt (by decide : (39 : Int32) < (56 : Int32))).2.1 ?_
  refine zA X239 hx (hD 10 rfl) rfl rfl ?_
  refine st240 _ ?_
  refine st241 _ ?_
  refine zL X241 hx (hD 13 rfl) rfl ?_
  refine st242 _ ?_
  refine zI X242 hx 40 (hD 15 rfl) ((if0 _ _).trans (teq (rfl : (0 : Int32) = 0)).1) rfl ?_
  refine zA X242 hx (hD 19 rfl) rfl rfl ?_
  refine st243 _ ?_
  refine st244 _ ?_
  refine zL X244 hx (hD 22 rfl) rfl ?_
  refine st245 _ ?_
  refine zJ X245 hx (hD 24 rfl) ((if0 _ _).trans (feq (by decide : ¬ ((1 : Int32) = 0))).1) ?_
  refine XS.iinc X245.here hx rfl (hD 25 rfl) rfl (l' := #[vR r, vI 0, vI 39]) rfl ?_
  refine XS.iinc X245.here hx rfl (hD 26 rfl) rfl (l' := #[vR r, vI 0, vI 41]) rfl ?_
  refine zL X245 hx (hD 27 rfl) rfl ?_
  refine zJ X245 hx (hD 28 rfl) ((if0 _ _).trans (teq (rfl : (0 : Int32) = 0)).2) ?_
  refine zL X245 hx (hD 29 rfl) rfl ?_
  exact retI X245 hx Bd.returns (hD 30 rfl) hr
def D46 : List (Nat × Instr × Nat) := [(0, .iload_n 0, 1), (1, .ifCond .lt 13, 3), (4, .iload_n 0, 1), (5, .iload_n 1, 1), (6, .if_icmp .gt 8, 3), (9, .iload_n 1, 1), (10, .iload_n 2, 1), (11, .if_icmp .le 11, 3), (22, .iload_n 0, 1), (23, .ireturn, 1)]
theorem d46 : ∀ x ∈ D46, decode jdk_41_method_12_code x.1 = .ok x.2 := by decide +kernel
theorem pn_46 : plainName "jdk/internal/util/Preconditions" = true := by first | (simp [plainName, overriddenIn]; done) | decide +kernel
theorem ef_46 (m : MethodId) (x0 : Int32) (x1 : Int32) (x2 : Int32) (x3 : Addr) : entryFrame m #[(.int x0), (.int x1), (.int x2), (.ref x3)] 4 = mkF m 0 #[.val (.int x0), .val (.int x1), .val (.int x2), .val (.ref x3)] [] := by first | (simp [entryFrame, mkF, argsToLocals, Value.category]; done) | rfl
theorem ef_46n (m : MethodId) (x0 : Int32) (x1 : Int32) (x2 : Int32) : entryFrame m #[(.int x0), (.int x1), (.int x2), .null] 4 = mkF m 0 #[.val (.int x0), .val (.int x1), .val (.int x2), .val .null] [] := by first | (simp [entryFrame, mkF, argsToLocals, Value.category]; done) | rfl
theorem rmCFT0 (hw : HW Z a0) (ws : List Jvm.Cond)   (h0 : Heap) (n0 : Nat) (Z0 : n0 ≤ h0.size)   :
    MF l Z (⟨"jdk/internal/util/Preconditions", "checkFromToIndex", "(IIILjava/util/function/BiFunction;)I"⟩ : MethodName) jdk_41_method_12_code 4 (some .int) ws (rM 0 0 0 0) #[(.int 36), (.int 38), (.int 56), .null] h0 (QI (36 : Int32) h0 n0) := by
  refine zBody pn_46 (fun m => ef_46n m (36 : Int32) (38 : Int32) (56 : Int32)) ?_
  intro p e s m below meth c s₁ Bd hx hby hml hown hZ hh X0 e0 pre0
  have hD := dk hby d46
  have N0 := Fr.nil n0
  refine zLv Bd X0 (v := some (.int 36)) (by decide) nofun (fun fs hr => pre0 _ ?_) (by rw [e0]; exact ⟨rfl, N0, rfl⟩)
  refine zL X0 hx (hD 0 rfl) rfl ?_
  refine zJ X0 hx (hD 1 rfl) ((if0 _ _).trans (flt (by decide : ¬ ((36 : Int32) < (0 : Int32)))).1) ?_
  refine zL X0 hx (hD 2 rfl) rfl ?_
  refine zL X0 hx (hD 3 rfl) rfl ?_
  refine zN X0 hx (hD 4 rfl) (flt (by decide : ¬ ((38 : Int32) < (36 : Int32)))).2.2.1 ?_
  refine zL X0 hx (hD 5 rfl) rfl ?_
  refine zL X0 hx (hD 6 rfl) rfl ?_
  refine zM X0 hx 22 (hD 7 rfl) (flt (by decide : ¬ ((56 : Int32) < (38 : Int32)))).2.2.2 rfl ?_
  refine zL X0 hx (hD 8 rfl) rfl ?_
  exact retI X0 hx Bd.returns (hD 9 rfl) hr
theorem rmCFT1 (hw : HW Z a0) (ws : List Jvm.Cond) (fa : Addr)  (h0 : Heap) (n0 : Nat) (Z0 : n0 ≤ h0.size)   :
    MF l Z (⟨"jdk/internal/util/Preconditions", "checkFromToIndex", "(IIILjava/util/function/BiFunction;)I"⟩ : MethodName) jdk_41_method_12_code 4 (some .int) ws (rM 0 0 0 0) #[(.int 36), (.int 38), (.int 56), (.ref fa)] h0 (QI (36 : Int32) h0 n0) := by
  refine zBody pn_46 (fun m => ef_46 m (36 : Int32) (38 : Int32) (56 : Int32) fa) ?_
  intro p e s m below meth c s₁ Bd hx hby hml hown hZ hh X0 e0 pre0
  have hD := dk hby d46
  have N0 := Fr.nil n0
  refine zLv Bd X0 (v := some (.int 36)) (by decide) nofun (fun fs hr => pre0 _ ?_) (by rw [e0]; exact ⟨rfl, N0, rfl⟩)
  refine zL X0 hx (hD 0 rfl) rfl ?_
  refine zJ X0 hx (hD 1 rfl) ((if0 _ _).trans (flt (by decide : ¬ ((36 : Int32) < (0 : Int32)))).1) ?_
  refine zL X0 hx (hD 2 rfl) rfl ?_
  refine zL X0 hx (hD 3 rfl) rfl ?_
  refine zN X0 hx (hD 4 rfl) (flt (by decide : ¬ ((38 : Int32) < (36 : Int32)))).2.2.1 ?_
  refine zL X0 hx (hD 5 rfl) rfl ?_
  refine zL X0 hx (hD 6 rfl) rfl ?_
  refine zM X0 hx 22 (hD 7 rfl) (flt (by decide : ¬ ((56 : Int32) < (38 : Int32)))).2.2.2 rfl ?_
  refine zL X0 hx (hD 8 rfl) rfl ?_
  exact retI X0 hx Bd.returns (hD 9 rfl) hr
def D45 : List (Nat × Instr × Nat) := [(0, .iload_n 0, 1), (1, .iload_n 1, 1), (2, .iload_n 2, 1), (3, .getstatic 1053, 3), (6, .invokestatic 1062, 3), (9, .pop, 1), (10, .return_, 1)]
theorem d45 : ∀ x ∈ D45, decode jdk_42_method_158_code x.1 = .ok x.2 := by decide +kernel
theorem pn_45 : plainName "java/lang/String" = true := by first | (simp [plainName, overriddenIn]; done) | decide +kernel
theorem ef_45 (m : MethodId) (x0 : Int32) (x1 : Int32) (x2 : Int32) : entryFrame m #[(.int x0), (.int x1), (.int x2)] 3 = mkF m 0 #[.val (.int x0), .val (.int x1), .val (.int x2)] [] := by first | (simp [entryFrame, mkF, argsToLocals, Value.category]; done) | rfl
theorem rmCBE0 (hw : HW Z a0) (ws : List Jvm.Cond)   (h0 : Heap) (n0 : Nat) (Z0 : n0 ≤ h0.size) (O : Old Z n0 h0) (hfm : Sta Z Z.heap "jdk/internal/util/Preconditions" "SIOOBE_FORMATTER" "Ljava/util/function/BiFunction;" .null)  :
    MF l Z (⟨"java/lang/String", "checkBoundsBeginEnd", "(III)V"⟩ : MethodName) jdk_42_method_158_code 3 none ws (rM 1 16 0 0) #[(.int 36), (.int 38), (.int 56)] h0 (QN  h0 n0) := by
  refine zBody pn_45 (fun m => ef_45 m (36 : Int32) (38 : Int32) (56 : Int32)) ?_
  intro p e s m below meth c s₁ Bd hx hby hml hown hZ hh X0 e0 pre0
  have hD := dk hby d45
  have N0 := Fr.nil n0
  obtain ⟨T246, X246, e246, st246⟩ := getS2 X0 hx hZ hown (host := "") (Or.inl (hwi hw 49 rfl)) Via.refl e0 (Sta.ext O.2 hfm) (g := (mkF m 3 #[vI 36, vI 38, vI 56] [(.int 56), (.int 38), (.int 36)])) rfl (hD 3 rfl)
  obtain ⟨T247, L247, X247, e247, N247, st247⟩ := zT X246 hx hZ hown e246 N0 (hwi hw 257 rfl) (hwi hw 258 rfl) (hwi hw 50 rfl) (hwi hw 259 rfl) (rmCFT0 l Z a0 hw []  h0 n0 Z0 ) 6 #[vI 36, vI 38, vI 56] [.null, (.int 56), (.int 38), (.int 36)] hml pd_32 (hD 4 rfl) 0
  refine zLv Bd X247 (v := none) (by decide) (fun _ => rfl) (fun fs hr => pre0 _ ?_) (by rw [e247]; exact ⟨rfl, N247, rfl⟩)
  refine zL X0 hx (hD 0 rfl) rfl ?_
  refine zL X0 hx (hD 1 rfl) rfl ?_
  refine zL X0 hx (hD 2 rfl) rfl ?_
  refine st246 _ ?_
  refine st247 _ ?_
  refine XS.pop X247.here hx rfl (hD 5 rfl) rfl rfl ?_
  show Steps p.tables e below (T247.setTop (mkF m 10 #[vI 36, vI 38, vI 56] [])) _
  exact X247.returnOut hx Bd.returns (hD 6 rfl) hr
theorem rmCBE1 (hw : HW Z a0) (ws : List Jvm.Cond) (fa : Addr)  (h0 : Heap) (n0 : Nat) (Z0 : n0 ≤ h0.size) (O : Old Z n0 h0) (hfm : Sta Z Z.heap "jdk/internal/util/Preconditions" "SIOOBE_FORMATTER" "Ljava/util/function/BiFunction;" (.ref fa))  :
    MF l Z (⟨"java/lang/String", "checkBoundsBeginEnd", "(III)V"⟩ : MethodName) jdk_42_method_158_code 3 none ws (rM 1 16 0 0) #[(.int 36), (.int 38), (.int 56)] h0 (QN  h0 n0) := by
  refine zBody pn_45 (fun m => ef_45 m (36 : Int32) (38 : Int32) (56 : Int32)) ?_
  intro p e s m below meth c s₁ Bd hx hby hml hown hZ hh X0 e0 pre0
  have hD := dk hby d45
  have N0 := Fr.nil n0
  obtain ⟨T248, X248, e248, st248⟩ := getS2 X0 hx hZ hown (host := "") (Or.inl (hwi hw 49 rfl)) Via.refl e0 (Sta.ext O.2 hfm) (g := (mkF m 3 #[vI 36, vI 38, vI 56] [(.int 56), (.int 38), (.int 36)])) rfl (hD 3 rfl)
  obtain ⟨T249, L249, X249, e249, N249, st249⟩ := zT X248 hx hZ hown e248 N0 (hwi hw 257 rfl) (hwi hw 258 rfl) (hwi hw 50 rfl) (hwi hw 259 rfl) (rmCFT1 l Z a0 hw [] fa h0 n0 Z0 ) 6 #[vI 36, vI 38, vI 56] [(.ref fa), (.int 56), (.int 38), (.int 36)] hml pd_32 (hD 4 rfl) 0
  refine zLv Bd X249 (v := none) (by decide) (fun _ => rfl) (fun fs hr => pre0 _ ?_) (by rw [e249]; exact ⟨rfl, N249, rfl⟩)
  refine zL X0 hx (hD 0 rfl) rfl ?_
  refine zL X0 hx (hD 1 rfl) rfl ?_
  refine zL X0 hx (hD 2 rfl) rfl ?_
  refine st248 _ ?_
  refine st249 _ ?_
  refine XS.pop X249.here hx rfl (hD 5 rfl) rfl rfl ?_
  show Steps p.tables e below (T249.setTop (mkF m 10 #[vI 36, vI 38, vI 56] [])) _
  exact X249.returnOut hx Bd.returns (hD 6 rfl) hr
theorem rmCBE (hw : HW Z a0) (ws : List Jvm.Cond)   (h0 : Heap) (n0 : Nat) (Z0 : n0 ≤ h0.size) (O : Old Z n0 h0) (SK : StrSta Z)  :
    MF l Z (⟨"java/lang/String", "checkBoundsBeginEnd", "(III)V"⟩ : MethodName) jdk_42_method_158_code 3 none ws (rM 1 16 0 0) #[(.int 36), (.int 38), (.int 56)] h0 (QN  h0 n0) := by
  obtain hfm | ⟨fa, hfm⟩ := SK.2
  · exact rmCBE0 l Z a0 hw ws h0 n0 Z0 O hfm
  · exact rmCBE1 l Z a0 hw ws fa h0 n0 Z0 O hfm
def D50 : List (Nat × Instr × Nat) := [(0, .iload_n 1, 1), (1, .iload_n 0, 1), (2, .if_icmp .ge 35, 3), (37, .return_, 1)]
theorem d50 : ∀ x ∈ D50, decode jdk_65_method_131_code x.1 = .ok x.2 := by decide +kernel
theorem pn_50 : plainName "java/util/Arrays" = true := by first | (simp [plainName, overriddenIn]; done) | decide +kernel
theorem ef_50 (m : MethodId) (x0 : Int32) (x1 : Int32) : entryFrame m #[(.int x0), (.int x1)] 2 = mkF m 0 #[.val (.int x0), .val (.int x1)] [] := by first | (simp [entryFrame, mkF, argsToLocals, Value.category]; done) | rfl
theorem rmCKL (hw : HW Z a0) (ws : List Jvm.Cond)   (h0 : Heap) (n0 : Nat) (Z0 : n0 ≤ h0.size)   :
    MF l Z (⟨"java/util/Arrays", "checkLength", "(II)V"⟩ : MethodName) jdk_65_method_131_code 2 none ws (rM 0 0 0 0) #[(.int 36), (.int 38)] h0 (QN  h0 n0) := by
  refine zBody pn_50 (fun m => ef_50 m (36 : Int32) (38 : Int32)) ?_
  intro p e s m below meth c s₁ Bd hx hby hml hown hZ hh X0 e0 pre0
  have hD := dk hby d50
  have N0 := Fr.nil n0
  refine zLv Bd X0 (v := none) (by decide) (fun _ => rfl) (fun fs hr => pre0 _ ?_) (by rw [e0]; exact ⟨rfl, N0, rfl⟩)
  refine zL X0 hx (hD 0 rfl) rfl ?_
  refine zL X0 hx (hD 1 rfl) rfl ?_
  refine zM X0 hx 37 (hD 2 rfl) (flt (by decide : ¬ ((38 : Int32) < (36 : Int32)))).2.1 rfl ?_
  show Steps p.tables e below (s₁.setTop (mkF m 37 #[vI 36, vI 38] [])) _
  exact X0.returnOut hx Bd.returns (hD 3 rfl) hr
theorem rmMN20 (hw : HW Z a0) (ws : List Jvm.Cond)   (h0 : Heap) (n0 : Nat) (Z0 : n0 ≤ h0.size)   :
    MF l Z (⟨"java/lang/Math", "min", "(II)I"⟩ : MethodName) jdk_29_method_69_code 2 (some .int) ws (rM 0 0 0 0) #[(.int 20), (.int 2)] h0 (QI (2 : Int32) h0 n0) := by
  refine MetFree.of_bodySF (Jvm.Free.JP.mathPlain rfl (by decide +kernel)) hisR ?_
  intro p e s m args below meth c s₁ Bd hml0 hP hK
  obtain ⟨rfl, hZ, hh⟩ := hP
  have hx := Bd.exec
  have hby := Bd.bytes
  have hml : c.maxLocals = 2 := hml0
  have hown : s.vm.findClass "java/lang/Math" = some m.cls := findClass_of_methodNamed Bd.named
  have X0 : Stand p l e (rM 0 0 0 0) s m #[(.int 20), (.int 2)] below meth c s₁ [] 0 0 := Stand.of_body Bd
  have e0 : s₁.heap = h0 := by rw [← hh, Bd.state]; rfl
  have hD := dk hby d35
  have N0 := Fr.nil n0
  have pre0 : ∀ zz, Steps p.tables e below (s₁.setTop (mkF m 0 #[vI 20, vI 2] [])) zz → Steps p.tables e below (s₁.setTop (entryFrame m #[(.int 20), (.int 2)] 2)) zz := fun zz kz_ => castTop (ef_35 m (20 : Int32) (2 : Int32)) kz_
  obtain ⟨fs, hr, hrun, hended, hW, hsame⟩ := X0.leave (v := some (.int 2)) (fun h => by rw [Bd.returns] at h; cases h)
  refine ⟨_, _, pre0 _ ?_, hrun, hended, _, _, rfl, ?_, ⟨_, rfl⟩, hW, hsame.mono (by decide) (by decide)⟩
  · show Steps p.tables e below (s₁.setTop (mkF m 0 #[vI 20, vI 2] [])) _
    refine zL X0 hx (hD 0 rfl) rfl ?_
    refine zL X0 hx (hD 1 rfl) rfl ?_
    refine zM X0 hx 9 (hD 2 rfl) (tlt (by decide : (2 : Int32) < (20 : Int32))).2.2.1 rfl ?_
    refine zL X0 hx (hD 5 rfl) rfl ?_
    exact retI X0 hx Bd.returns (hD 6 rfl) hr
  · show QI (2 : Int32) h0 n0 _ s₁.heap _
    rw [e0]
    exact ⟨rfl, N0, rfl⟩
def D49 : List (Nat × Instr × Nat) := [(0, .iload_n 1, 1), (1, .iload_n 2, 1), (2, .invokestatic 343, 3), (5, .iload_n 2, 1), (6, .iload_n 1, 1), (7, .isub, 1), (8, .istore_n 3, 1), (9, .iload_n 3, 1), (10, .newarray .byte, 2), (12, .astore 4, 2), (14, .aload_n 0, 1), (15, .iload_n 1, 1), (16, .aload 4, 2), (18, .iconst 0, 1), (19, .aload_n 0, 1), (20, .arraylength, 1), (21, .iload_n 1, 1), (22, .isub, 1), (23, .iload_n 3, 1), (24, .invokestatic 304, 3), (27, .invokestatic 150, 3), (30, .aload 4, 2), (32, .areturn, 1)]
theorem d49 : ∀ x ∈ D49, decode jdk_65_method_133_code x.1 = .ok x.2 := by decide +kernel
theorem pn_49 : plainName "java/util/Arrays" = true := by first | (simp [plainName, overriddenIn]; done) | decide +kernel
theorem ef_49 (m : MethodId) (x0 : Addr) (x1 : Int32) (x2 : Int32) : entryFrame m #[(.ref x0), (.int x1), (.int x2)] 5 = mkF m 0 #[.val (.ref x0), .val (.int x1), .val (.int x2), .unset, .unset] [] := by first | (simp [entryFrame, mkF, argsToLocals, Value.category]; done) | rfl
theorem rmCRB (hw : HW Z a0) (ws : List Jvm.Cond) (b : Addr) (g : Nat → Int32)  (h0 : Heap) (n0 : Nat) (Z0 : n0 ≤ h0.size) (FB : AF Z h0 b .byte 56 (Lb g))  :
    MF l Z (⟨"java/util/Arrays", "copyOfRangeByte", "([BII)[B"⟩ : MethodName) jdk_65_method_133_code 5 (some (.array .byte)) ws (rM 1 40 1 2) #[(.ref b), (.int 36), (.int 38)] h0 (QA Z .byte 2 (fun j => Lb g (36 + j)) h0 n0) := by
  refine zBody pn_49 (fun m => ef_49 m b (36 : Int32) (38 : Int32)) ?_
  intro p e s m below meth c s₁ Bd hx hby hml hown hZ hh X0 e0 pre0
  have hD := dk hby d49
  have N0 := Fr.nil n0
  obtain ⟨T250, L250, X250, e250, N250, st250⟩ := zT X0 hx hZ hown e0 N0 (hwi hw 271 rfl) (hwi hw 272 rfl) (hwi hw 266 rfl) (hwi hw 273 rfl) (rmCKL l Z a0 hw []  h0 n0 Z0 ) 2 #[vR b, vI 36, vI 38, .unset, .unset] [(.int 38), (.int 36)] hml pd_8 (hD 2 rfl) 0
  obtain ⟨T251, h251, X251, e251, E251, A251, st251⟩ := nwA X250 hx hZ (hwi hw 11 rfl) e250 (g := (mkF m 10 #[vR b, vI 36, vI 38, vI 2, .unset] [(.int 2)])) rfl (hD 8 rfl) (n := 2) rfl (cap := 2) (by decide) (by decide) (by decide) (by decide)
  obtain ⟨b251, q251⟩ : ∃ z, z = h0.size := ⟨_, rfl⟩
  rw [← q251] at A251 st251
  have V251 : AF Z h251 b251 .byte 2 (fun _ => (.int 0)) := A251
  have g_b251 : n0 ≤ b251 := Nat.le_trans Z0 (Nat.le_of_eq q251.symm)
  have sz_b251 : h0.size ≤ b251 := Nat.le_trans (Keep.refl h0 []).1 (Nat.le_of_eq q251.symm)
  have K251 := (Keep.refl h0 []).ext E251
  have Z251 := Nat.le_trans Z0 E251.1
  have ne_b_b251 : b ≠ b251 := Nat.ne_of_lt (Nat.lt_of_lt_of_le FB.lt (Nat.le_of_eq q251.symm))
  have FB_e251 := FB.ext E251
  obtain ⟨T252, L252, X252, e252, N252, st252⟩ := zT X251 hx hZ hown e251 N250 (hwi hw 274 rfl) (hwi hw 182 rfl) (hwi hw 183 rfl) (hwi hw 184 rfl) (rmMN20 l Z a0 hw []  h251 n0 Z251 ) 24 #[vR b, vI 36, vI 38, vI 2, vR b251] [(.int 2), (.int 20), (.int 0), (.ref b251), (.int 36), (.ref b)] hml pd_25 (hD 19 rfl) 4
  obtain ⟨T253, h253, L253, X253, e253, N253, K253, A253, st253⟩ := cpG X252 hx hZ hown (hwi hw 275 rfl) (hwi hw 278 rfl) (hwi hw 276 rfl) (hwi hw 277 rfl) e252 FB_e251 V251 (k := 2) (sp := 36) rfl (by decide) (by decide) (by decide) (by decide) (fitsLb g 56) (fun _ _ => by decide) N252 g_b251 (g := (mkF m 27 #[vR b, vI 36, vI 38, vI 2, vR b251] [(.int 2), (.int 0), (.ref b251), (.int 36), (.ref b)])) rfl (by rw [hml]; rfl) rfl (hD 20 rfl) (by decide) (W := 0) (by show 2 * 0 + _ ≤ _; exact Nat.le_of_eq rfl) (by decide)
  have FB_e253 := FB_e251.keep K253 (notin1 ne_b_b251)
  have KK253 := K251.trans K253 (fun x r => by cases List.mem_singleton.mp r; exact (Or.inr sz_b251))
  have Z253 := Nat.le_trans Z251 K253.1
  refine zLv Bd X253 (v := some (.ref b251)) (by decide) nofun (fun fs hr => pre0 _ ?_) (by exact ⟨b251, rfl, N253, by rw [e253]; exact KK253, sz_b251, by rw [e253]; exact A253.congr fun j hj => if_pos hj⟩)
  refine zL X0 hx (hD 0 rfl) rfl ?_
  refine zL X0 hx (hD 1 rfl) rfl ?_
  refine st250 _ ?_
  refine zL X250 hx (hD 3 rfl) rfl ?_
  refine zL X250 hx (hD 4 rfl) rfl ?_
  refine zQl X250 hx (hD 5 rfl) (z := 2) rfl ?_
  refine zS X250 hx (hD 6 rfl) rfl ?_
  refine zL X250 hx (hD 7 rfl) rfl ?_
  refine st251 _ ?_
  refine XS.astore X251.here hx rfl (hD 9 rfl) rfl rfl (l' := #[vR b, vI 36, vI 38, vI 2, vR b251]) rfl ?_
  refine zA X251 hx (hD 10 rfl) rfl rfl ?_
  refine zL X251 hx (hD 11 rfl) rfl ?_
  refine XS.aload X251.here hx rfl (hD 12 rfl) rfl rfl ?_
  refine zC X251 hx (hD 13 rfl) ?_
  refine zA X251 hx (hD 14 rfl) rfl rfl ?_
  refine lenA X251 hx hZ e251 FB_e251 (g := (mkF m 20 #[vR b, vI 36, vI 38, vI 2, vR b251] [(.ref b), (.int 0), (.ref b251), (.int 36), (.ref b)])) rfl rfl (hD 15 rfl) ?_
  show Steps p.tables e below (T251.setTop (mkF m 21 #[vR b, vI 36, vI 38, vI 2, vR b251] [(.int 56), (.int 0), (.ref b251), (.int 36), (.ref b)])) _
  refine zL X251 hx (hD 16 rfl) rfl ?_
  refine zQl X251 hx (hD 17 rfl) (z := 20) rfl ?_
  refine zL X251 hx (hD 18 rfl) rfl ?_
  refine st252 _ ?_
  refine st253 _ ?_
  refine XS.aload X253.here hx rfl (hD 21 rfl) rfl rfl ?_
  show Steps p.tables e below (T253.setTop (mkF m 32 #[vR b, vI 36, vI 38, vI 2, vR b251] [(.ref b251)])) _
  jvm_step X253.here [X253.here.top, hx, (hD 22 rfl), X253.method', Bd.returns, Value.isRef, FieldType.isReference]
  first | (intro acts; rw [hr _ acts rfl rfl rfl]) | rw [hr _ _ rfl rfl rfl]
  exact Steps.refl _
def D48 : List (Nat × Instr × Nat) := [(0, .iload_n 1, 1), (1, .ifCond .ne 9, 3), (10, .aload_n 0, 1), (11, .iload_n 1, 1), (12, .iload_n 2, 1), (13, .invokestatic 339, 3), (16, .areturn, 1)]
theorem d48 : ∀ x ∈ D48, decode jdk_65_method_132_code x.1 = .ok x.2 := by decide +kernel
theorem pn_48 : plainName "java/util/Arrays" = true := by first | (simp [plainName, overriddenIn]; done) | decide +kernel
theorem ef_48 (m : MethodId) (x0 : Addr) (x1 : Int32) (x2 : Int32) : entryFrame m #[(.ref x0), (.int x1), (.int x2)] 3 = mkF m 0 #[.val (.ref x0), .val (.int x1), .val (.int x2)] [] := by first | (simp [entryFrame, mkF, argsToLocals, Value.category]; done) | rfl
theorem rmCR (hw : HW Z a0) (ws : List Jvm.Cond) (b : Addr) (g : Nat → Int32)  (h0 : Heap) (n0 : Nat) (Z0 : n0 ≤ h0.size) (FB : AF Z h0 b .byte 56 (Lb g))  :
    MF l Z (⟨"java/util/Arrays", "copyOfRange", "([BII)[B"⟩ : MethodName) jdk_65_method_132_code 3 (some (.array .byte)) ws (rM 2 60 1 2) #[(.ref b), (.int 36), (.int 38)] h0 (QA Z .byte 2 (fun j => Lb g (36 + j)) h0 n0) := by
  refine zBody pn_48 (fun m => ef_48 m b (36 : Int32) (38 : Int32)) ?_
  intro p e s m below meth c s₁ Bd hx hby hml hown hZ hh X0 e0 pre0
  have hD := dk hby d48
  have N0 := Fr.nil n0
  obtain ⟨_, _, ⟨T254, L254, k254, n254⟩, -, X254, ⟨Lc254, hQ254, l254, y254, z254⟩, st254⟩ := Jvm.LawKit.callS X0 hx (y := (⟨"java/util/Arrays", "copyOfRangeByte", "([BII)[B"⟩ : MethodName)) hown (mvT hZ (hwi hw 268 rfl)) (mvT hZ (hwi hw 269 rfl)) (mvT hZ (hwi hw 266 rfl)) (mvT hZ (hwi hw 270 rfl)) (by decide) (backOf (W := 0) (rmCRB l Z a0 hw [] b g h0 n0 Z0 FB) hZ (hwi hw 270 rfl) (hwi hw 266 rfl) (by decide) (by decide)) (g := (mkF m 13 #[vR b, vI 36, vI 38] [(.int 38), (.int 36), (.ref b)])) rfl (by rw [hml]; rfl) (argsL := [(.ref b), (.int 36), (.int 38)]) (rest := []) (lenOf pd_34 rfl) rfl (by show 2 * 0 + _ ≤ _; exact Nat.le_of_eq rfl) (hD 5 rfl) (fun _ _ => ⟨rfl, e0, (by decide : 0 + 1 ≤ _), (by decide : 0 + 2 ≤ _)⟩)
  dsimp only [Pt.U, Pt.locs, Pt.cells, Pt.slots] at X254 l254 y254 z254 st254 hQ254
  obtain rfl : k254 = 1 := y254; obtain rfl : n254 = 2 := z254
  obtain ⟨b254, rfl, N254q, K254, zq254, A254⟩ := hQ254
  have N254 : Fr n0 L254 := by rw [l254]; exact Fr.app N0 N254q
  have ne_b_b254 : b ≠ b254 := Nat.ne_of_lt (Nat.lt_of_lt_of_le FB.lt zq254)
  have g_b254 : n0 ≤ b254 := Nat.le_trans Z0 zq254
  have sz_b254 : h0.size ≤ b254 := Nat.le_trans (Keep.refl h0 []).1 zq254
  have FB_e254 := FB.keep K254 List.not_mem_nil
  have KK254 := (Keep.refl h0 []).trans K254 (fun x r => absurd r List.not_mem_nil)
  have Z254 := Nat.le_trans Z0 K254.1
  refine zLv Bd X254 (v := some (.ref b254)) (by decide) nofun (fun fs hr => pre0 _ ?_) ⟨b254, rfl, N254, KK254, sz_b254, A254⟩
  refine zL X0 hx (hD 0 rfl) rfl ?_
  refine zI X0 hx 10 (hD 1 rfl) ((if0 _ _).trans (feq (by decide : ¬ ((36 : Int32) = 0))).2) rfl ?_
  refine zA X0 hx (hD 2 rfl) rfl rfl ?_
  refine zL X0 hx (hD 3 rfl) rfl ?_
  refine zL X0 hx (hD 4 rfl) rfl ?_
  refine st254 _ ?_
  show Steps p.tables e below (T254.setTop (mkF m 16 #[vR b, vI 36, vI 38] [(.ref b254)])) _
  jvm_step X254.here [X254.here.top, hx, (hD 6 rfl), X254.method', Bd.returns, Value.isRef, FieldType.isReference]
  first | (intro acts; rw [hr _ acts rfl rfl rfl]) | rw [hr _ _ rfl rfl rfl]
  exact Steps.refl _
def D51 : List (Nat × Instr × Nat) := [(0, .aload_n 0, 1), (1, .invokespecial 1, 3), (4, .aload_n 0, 1), (5, .aload_n 1, 1), (6, .putfield 9, 3), (9, .aload_n 0, 1), (10, .iload_n 2, 1), (11, .putfield 15, 3), (14, .return_, 1)]
theorem d51 : ∀ x ∈ D51, decode jdk_42_method_151_code x.1 = .ok x.2 := by decide +kernel
theorem pn_51 : plainName "java/lang/String" = true := by first | (simp [plainName, overriddenIn]; done) | decide +kernel
theorem ef_51 (m : MethodId) (x0 : Addr) (x1 : Addr) (x2 : Int32) : entryFrame m #[(.ref x0), (.ref x1), (.int x2)] 3 = mkF m 0 #[.val (.ref x0), .val (.ref x1), .val (.int x2)] [] := by first | (simp [entryFrame, mkF, argsToLocals, Value.category]; done) | rfl
theorem rmIB (hw : HW Z a0) (ws : List Jvm.Cond) (o b : Addr) (n : Nat) (f : Nat → Value)  (h0 : Heap) (n0 : Nat) (Z0 : n0 ≤ h0.size) (EO : Exa Z h0 o "java/lang/String") (FV : Fld Z h0 o "java/lang/String" "value" "[B" .null) (FC : Fld Z h0 o "java/lang/String" "coder" "B" (.int 0)) (g_o : n0 ≤ o) (FB : AF Z h0 b .byte n f) (hbo : b ≠ o)  :
    MF l Z (⟨"java/lang/String", "<init>", "([BB)V"⟩ : MethodName) jdk_42_method_151_code 3 none ws (rM 1 14 0 0) #[(.ref o), (.ref b), (.int 0)] h0 (QSV Z o n f h0 n0) := by
  refine zBody pn_51 (fun m => ef_51 m o b (0 : Int32)) ?_
  intro p e s m below meth c s₁ Bd hx hby hml hown hZ hh X0 e0 pre0
  have hD := dk hby d51
  have N0 := Fr.nil n0
  have hnm := (name_of_methodNamed Bd.named Bd.method).1
  obtain ⟨T255, X255, e255, st255⟩ := initO X0 hx hZ hown (hwi hw 73 rfl) (hwi hw 74 rfl) (hwi hw 75 rfl) e0 (g := (mkF m 1 #[vR o, vR b, vI 0] [(.ref o)])) rfl (by rw [hml]; rfl) rfl (hD 1 rfl) (by decide) (W := 0) (by show 2 * 0 + _ ≤ _; exact Nat.le_of_eq rfl) (by decide)
  obtain ⟨T256, h256, X256, e256, W256, st256⟩ := putF X255 hx hZ hown (host := "") (Or.inl (hwi hw 24 rfl)) Via.refl e255 FV EO (Or.inr ⟨(hwi hw 12 rfl), rfl, hnm⟩) (hwi hw 10 rfl) (ty := (.array .byte)) (by decide) rfl rfl (g := (mkF m 6 #[vR o, vR b, vI 0] [(.ref b), (.ref o)])) rfl rfl (hD 4 rfl)
  have Fw256 := FV.same W256
  have EO_e256 := EO.wr W256
  have FC_e256 := FC.other W256 (Or.inr (slot_ne (Or.inr (hwi hw 13 rfl)) (Or.inr (hwi hw 12 rfl)) (by decide) (t := .byte) (t' := (.array .byte)) (by decide) (by decide)))
  have FB_e256 := FB.other W256 hbo
  have N256 := Fr.snoc X256 N0 g_o
  have K256 := (Keep.refl h0 [o]).wr W256 (Or.inl (List.mem_of_getElem? (i := 0) rfl))
  have Z256 := Nat.le_trans Z0 (Keep.of_wr W256).1
  obtain ⟨T257, h257, X257, e257, W257, st257⟩ := putFN X256 hx hZ hown (hwi hw 31 rfl) Via.refl e256 FC_e256 EO_e256 (Or.inr ⟨(hwi hw 13 rfl), rfl, hnm⟩) (hwi hw 10 rfl) (ty := .byte) (v' := (.int 0)) (by decide) rfl (by decide) (g := (mkF m 11 #[vR o, vR b, vI 0] [(.int 0), (.ref o)])) rfl rfl (hD 7 rfl)
  have Fw257 := FC_e256.same W257
  have EO_e257 := EO_e256.wr W257
  have Fw256_e257 := Fw256.other W257 (Or.inr (slot_ne (Or.inr (hwi hw 12 rfl)) (Or.inr (hwi hw 13 rfl)) (by decide) (t := (.array .byte)) (t' := .byte) (by decide) (by decide)))
  have FB_e257 := FB_e256.other W257 hbo
  have N257 := Fr.snoc X257 N256 g_o
  have K257 := K256.wr W257 (Or.inl (List.mem_of_getElem? (i := 0) rfl))
  have Z257 := Nat.le_trans Z256 (Keep.of_wr W257).1
  refine zLv Bd X257 (v := none) (by decide) (fun _ => rfl) (fun fs hr => pre0 _ ?_) (by exact ⟨rfl, N257, by rw [e257]; exact K257, by rw [e257]; exact ⟨EO_e257, b, Fw256_e257, Fw257, FB_e257⟩⟩)
  refine zA X0 hx (hD 0 rfl) rfl rfl ?_
  refine st255 _ ?_
  refine zA X255 hx (hD 2 rfl) rfl rfl ?_
  refine zA X255 hx (hD 3 rfl) rfl rfl ?_
  refine st256 _ ?_
  refine zA X256 hx (hD 5 rfl) rfl rfl ?_
  refine zL X256 hx (hD 6 rfl) rfl ?_
  refine st257 _ ?_
  show Steps p.tables e below (T257.setTop (mkF m 14 #[vR o, vR b, vI 0] [])) _
  exact X257.returnOut hx Bd.returns (hD 8 rfl) hr
def D47 : List (Nat × Instr × Nat) := [(0, .iload_n 2, 1), (1, .ifCond .ne 6, 3), (7, .new 1, 3), (10, .dup, 1), (11, .aload_n 0, 1), (12, .iload_n 1, 1), (13, .iload_n 1, 1), (14, .iload_n 2, 1), (15, .iadd, 1), (16, .invokestatic 232, 3), (19, .iconst 0, 1), (20, .invokespecial 112, 3), (23, .areturn, 1)]
theorem d47 : ∀ x ∈ D47, decode jdk_43_method_47_code x.1 = .ok x.2 := by decide +kernel
theorem pn_47 : plainName "java/lang/StringLatin1" = true := by first | (simp [plainName, overriddenIn]; done) | decide +kernel
theorem ef_47 (m : MethodId) (x0 : Addr) (x1 : Int32) (x2 : Int32) : entryFrame m #[(.ref x0), (.int x1), (.int x2)] 3 = mkF m 0 #[.val (.ref x0), .val (.int x1), .val (.int x2)] [] := by first | (simp [entryFrame, mkF, argsToLocals, Value.category]; done) | rfl
theorem rmNS (hw : HW Z a0) (ws : List Jvm.Cond) (b : Addr) (g : Nat → Int32)  (h0 : Heap) (n0 : Nat) (Z0 : n0 ≤ h0.size) (FB : AF Z h0 b .byte 56 (Lb g))  :
    MF l Z (⟨"java/lang/StringLatin1", "newString", "([BII)Ljava/lang/String;"⟩ : MethodName) jdk_43_method_47_code 3 (some (.object "java/lang/String")) ws (rM 3 80 2 6) #[(.ref b), (.int 36), (.int 2)] h0 (QV Z 2 (fun j => Lb g (36 + j)) h0 n0) := by
  refine zBody pn_47 (fun m => ef_47 m b (36 : Int32) (2 : Int32)) ?_
  intro p e s m below meth c s₁ Bd hx hby hml hown hZ hh X0 e0 pre0
  have hD := dk hby d47
  have N0 := Fr.nil n0
  obtain ⟨T258, h258, X258, e258, E258, A258, D258, -, st258⟩ := newO X0 hx hZ hown (hwi hw 263 rfl) (hwi hw 10 rfl) (hwi hw 9 rfl) e0 (g := (mkF m 7 #[vR b, vI 36, vI 2] [])) rfl (hD 2 rfl) (by decide) (by decide)
  obtain ⟨b258, g258⟩ : ∃ z, z = h0.size := ⟨_, rfl⟩
  rw [← g258] at A258 D258 st258
  have ne_b_b258 : b ≠ b258 := Nat.ne_of_lt (Nat.lt_of_lt_of_le FB.lt (Nat.le_of_eq g258.symm))
  have FB_e258 := FB.ext E258
  have E_b258 := A258
  have g_b258 : n0 ≤ b258 := Nat.le_trans Z0 (Nat.le_of_eq g258.symm)
  have sz_b258 : h0.size ≤ b258 := Nat.le_trans (Keep.refl h0 []).1 (Nat.le_of_eq g258.symm)
  have K258 := (Keep.refl h0 []).ext E258
  have Z258 := Nat.le_trans Z0 E258.1
  have F_value_b258 : Fld Z h258 b258 "java/lang/String" "value" "[B" .null := D258 (Or.inr (hwi hw 12 rfl)) (ty := (.array .byte)) (by decide)
  have F_coder_b258 : Fld Z h258 b258 "java/lang/String" "coder" "B" (.int 0) := D258 (Or.inr (hwi hw 13 rfl)) (ty := .byte) (by decide)
  obtain ⟨_, _, ⟨T259, L259, k259, n259⟩, -, X259, ⟨Lc259, hQ259, l259, y259, z259⟩, st259⟩ := Jvm.LawKit.callS X258 hx (y := (⟨"java/util/Arrays", "copyOfRange", "([BII)[B"⟩ : MethodName)) hown (mvT hZ (hwi hw 264 rfl)) (mvT hZ (hwi hw 265 rfl)) (mvT hZ (hwi hw 266 rfl)) (mvT hZ (hwi hw 267 rfl)) (by decide) (backOf (W := 2) (rmCR l Z a0 hw [] b g h258 n0 Z258 FB_e258) hZ (hwi hw 267 rfl) (hwi hw 266 rfl) (by decide) (by decide)) (g := (mkF m 16 #[vR b, vI 36, vI 2] [(.int 38), (.int 36), (.ref b), (.ref b258), (.ref b258)])) rfl (by rw [hml]; rfl) (argsL := [(.ref b), (.int 36), (.int 38)]) (rest := [(.ref b258), (.ref b258)]) (lenOf pd_34 rfl) rfl (by show 2 * 0 + _ ≤ _; exact Nat.le_of_eq rfl) (hD 9 rfl) (fun _ _ => ⟨rfl, e258, (by decide : 1 + 1 ≤ _), (by decide : 4 + 2 ≤ _)⟩)
  dsimp only [Pt.U, Pt.locs, Pt.cells, Pt.slots] at X259 l259 y259 z259 st259 hQ259
  obtain rfl : k259 = 2 := y259; obtain rfl : n259 = 6 := z259
  obtain ⟨b259, rfl, N259q, K259, zq259, A259⟩ := hQ259
  have N259 : Fr n0 L259 := by rw [l259]; exact Fr.app N0 N259q
  have ne_b_b259 : b ≠ b259 := Nat.ne_of_lt (Nat.lt_of_lt_of_le FB_e258.lt zq259)
  have ne_b258_b259 : b258 ≠ b259 := Nat.ne_of_lt (Nat.lt_of_lt_of_le E_b258.lt zq259)
  have g_b259 : n0 ≤ b259 := Nat.le_trans Z258 zq259
  have sz_b259 : h0.size ≤ b259 := Nat.le_trans K258.1 zq259
  have FB_e259 := FB_e258.keep K259 List.not_mem_nil
  have E_b258_e259 := E_b258.keep K259
  have F_value_b258_e259 := F_value_b258.keep K259 List.not_mem_nil
  have F_coder_b258_e259 := F_coder_b258.keep K259 List.not_mem_nil
  have KK259 := K258.trans K259 (fun x r => absurd r List.not_mem_nil)
  have Z259 := Nat.le_trans Z258 K259.1
  obtain ⟨_, _, ⟨T260, L260, k260, n260⟩, -, X260, ⟨Lc260, hQ260, l260, y260, z260⟩, st260⟩ := X259.specialBack hx (y := (⟨"java/lang/String", "<init>", "([BB)V"⟩ : MethodName)) rfl hown (mvT hZ (hwi hw 279 rfl)) (mvT hZ (hwi hw 280 rfl)) (mvT hZ (hwi hw 281 rfl)) (by decide) (backOf (W := 1) (rmIB l Z a0 hw [] b258 b259 2 (fun j => Lb g (36 + j)) T259.heap n0 Z259 E_b258_e259 F_value_b258_e259 F_coder_b258_e259 g_b258 A259 (Ne.symm ne_b258_b259)) hZ (hwi hw 281 rfl) (hwi hw 9 rfl) (by decide) (by decide)) (g := (mkF m 20 #[vR b, vI 36, vI 2] [(.int 0), (.ref b259), (.ref b258), (.ref b258)])) rfl (by rw [hml]; rfl) (Steps.refl _) (a := b258) (argsL := [(.ref b259), (.int 0)]) (rest := [(.ref b258)]) (lenOf pd_36 rfl) rfl (by show 2 * 0 + _ ≤ _; exact Nat.le_of_eq rfl) (hD 11 rfl) (fun _ _ => ⟨rfl, rfl, (by decide : 2 + 0 ≤ _), (by decide : 6 + 0 ≤ _)⟩)
  dsimp only [Pt.U, Pt.locs, Pt.cells, Pt.slots] at X260 l260 y260 z260 st260 hQ260
  obtain rfl : k260 = 2 := y260; obtain rfl : n260 = 6 := z260
  obtain ⟨rfl, N260q, K260, S260⟩ := hQ260
  have N260 : Fr n0 L260 := by rw [l260]; exact Fr.app N259 N260q
  have KK260 := KK259.trans K260 (fun x r => by cases List.mem_singleton.mp r; exact (Or.inr sz_b258))
  have Z260 := Nat.le_trans Z259 K260.1
  refine zLv Bd X260 (v := some (.ref b258)) (by decide) nofun (fun fs hr => pre0 _ ?_) ⟨b258, rfl, N260, KK260, S260⟩
  refine zL X0 hx (hD 0 rfl) rfl ?_
  refine zI X0 hx 7 (hD 1 rfl) ((if0 _ _).trans (feq (by decide : ¬ ((2 : Int32) = 0))).2) rfl ?_
  refine st258 _ ?_
  refine zD X258 hx (hD 3 rfl) ?_
  refine zA X258 hx (hD 4 rfl) rfl rfl ?_
  refine zL X258 hx (hD 5 rfl) rfl ?_
  refine zL X258 hx (hD 6 rfl) rfl ?_
  refine zL X258 hx (hD 7 rfl) rfl ?_
  refine zPl X258 hx (hD 8 rfl) (z := 38) rfl ?_
  refine st259 _ ?_
  refine zC X259 hx (hD 10 rfl) ?_
  refine st260.trans ?_
  show Steps p.tables e below (T260.setTop (mkF m 23 #[vR b, vI 36, vI 2] [(.ref b258)])) _
  jvm_step X260.here [X260.here.top, hx, (hD 12 rfl), X260.method', Bd.returns, Value.isRef, FieldType.isReference]
  first | (intro acts; rw [hr _ acts rfl rfl rfl]) | rw [hr _ _ rfl rfl rfl]
  exact Steps.refl _
def D44 : List (Nat × Instr × Nat) := [(0, .aload_n 0, 1), (1, .invokevirtual 505, 3), (4, .istore_n 3, 1), (5, .iload_n 1, 1), (6, .iload_n 2, 1), (7, .iload_n 3, 1), (8, .invokestatic 521, 3), (11, .iload_n 1, 1), (12, .ifCond .ne 10, 3), (22, .iload_n 2, 1), (23, .iload_n 1, 1), (24, .isub, 1), (25, .istore 4, 2), (27, .aload_n 0, 1), (28, .invokevirtual 492, 3), (31, .ifCond .eq 16, 3), (34, .aload_n 0, 1), (35, .getfield 9, 3), (38, .iload_n 1, 1), (39, .iload 4, 2), (41, .invokestatic 685, 3), (44, .goto 13, 3), (57, .areturn, 1)]
theorem d44 : ∀ x ∈ D44, decode jdk_42_method_92_code x.1 = .ok x.2 := by decide +kernel
theorem pn_44 : plainName "java/lang/String" = true := by first | (simp [plainName, overriddenIn]; done) | decide +kernel
theorem ef_44 (m : MethodId) (x0 : Addr) (x1 : Int32) (x2 : Int32) : entryFrame m #[(.ref x0), (.int x1), (.int x2)] 5 = mkF m 0 #[.val (.ref x0), .val (.int x1), .val (.int x2), .unset, .unset] [] := by first | (simp [entryFrame, mkF, argsToLocals, Value.category]; done) | rfl
theorem rmSUB (hw : HW Z a0) (ws : List Jvm.Cond) (o : Addr) (g : Nat → Int32)  (h0 : Heap) (n0 : Nat) (Z0 : n0 ≤ h0.size) (O : Old Z n0 h0) (SK : StrSta Z) (S : Str Z h0 o 56 g)  :
    MF l Z (⟨"java/lang/String", "substring", "(II)Ljava/lang/String;"⟩ : MethodName) jdk_42_method_92_code 5 (some (.object "java/lang/String")) ws (rM 4 110 2 6) #[(.ref o), (.int 36), (.int 38)] h0 (QV Z 2 (fun j => Lb g (36 + j)) h0 n0) := by
  refine zBody pn_44 (fun m => ef_44 m o (36 : Int32) (38 : Int32)) ?_
  intro p e s m below meth c s₁ Bd hx hby hml hown hZ hh X0 e0 pre0
  have hD := dk hby d44
  have N0 := Fr.nil n0
  obtain ⟨EO, b, FV, FC, FB⟩ := S
  obtain ⟨T261, L261, X261, e261, N261, st261⟩ := zV X0 hx hZ hown e0 EO N0 (hwi hw 125 rfl) (hwi hw 20 rfl) (hwi hw 22 rfl) (hwi hw 21 rfl) (hwi hw 23 rfl) (hwi hw 9 rfl) (rmLEN0 l Z a0 hw [] o b 56 (Lb g) h0 n0 Z0 (by decide) O SK EO FC FV FB) 1 #[vR o, vI 36, vI 38, .unset, .unset] [(.ref o)] hml pd_3 (hD 1 rfl) 0
  obtain ⟨T262, L262, X262, e262, N262, st262⟩ := zT X261 hx hZ hown e261 N261 (hwi hw 254 rfl) (hwi hw 255 rfl) (hwi hw 9 rfl) (hwi hw 256 rfl) (rmCBE l Z a0 hw []  h0 n0 Z0 O SK) 8 #[vR o, vI 36, vI 38, vI 56, .unset] [(.int 56), (.int 38), (.int 36)] hml pd_31 (hD 6 rfl) 0
  obtain ⟨T263, L263, X263, e263, N263, st263⟩ := zV X262 hx hZ hown e262 EO N262 (hwi hw 37 rfl) (hwi hw 38 rfl) (hwi hw 40 rfl) (hwi hw 39 rfl) (hwi hw 41 rfl) (hwi hw 9 rfl) (rmIL0 l Z a0 hw [] o h0 n0 Z0 O SK EO FC) 28 #[vR o, vI 36, vI 38, vI 56, vI 2] [(.ref o)] hml pd_6 (hD 14 rfl) 0
  obtain ⟨T264, X264, e264, st264⟩ := zF X263 hx hZ hown (hwi hw 24 rfl) e263 FV 35 #[vR o, vI 36, vI 38, vI 56, vI 2] [] (hD 17 rfl)
  obtain ⟨_, _, ⟨T265, L265, k265, n265⟩, -, X265, ⟨Lc265, hQ265, l265, y265, z265⟩, st265⟩ := Jvm.LawKit.callS X264 hx (y := (⟨"java/lang/StringLatin1", "newString", "([BII)Ljava/lang/String;"⟩ : MethodName)) hown (mvT hZ (hwi hw 260 rfl)) (mvT hZ (hwi hw 261 rfl)) (mvT hZ (hwi hw 44 rfl)) (mvT hZ (hwi hw 262 rfl)) (by decide) (backOf (W := 0) (rmNS l Z a0 hw [] b g h0 n0 Z0 FB) hZ (hwi hw 262 rfl) (hwi hw 44 rfl) (by decide) (by decide)) (g := (mkF m 41 #[vR o, vI 36, vI 38, vI 56, vI 2] [(.int 2), (.int 36), (.ref b)])) rfl (by rw [hml]; rfl) (argsL := [(.ref b), (.int 36), (.int 2)]) (rest := []) (lenOf pd_33 rfl) rfl (by show 2 * 0 + _ ≤ _; exact Nat.le_of_eq rfl) (hD 20 rfl) (fun _ _ => ⟨rfl, e264, (by decide : 0 + 2 ≤ _), (by decide : 0 + 6 ≤ _)⟩)
  dsimp only [Pt.U, Pt.locs, Pt.cells, Pt.slots] at X265 l265 y265 z265 st265 hQ265
  obtain rfl : k265 = 2 := y265; obtain rfl : n265 = 6 := z265
  obtain ⟨o265, rfl, N265q, K265, S265⟩ := hQ265
  have N265 : Fr n0 L265 := by rw [l265]; exact Fr.app N263 N265q
  have KK265 := (Keep.refl h0 []).trans K265 (fun x r => absurd r List.not_mem_nil)
  have Z265 := Nat.le_trans Z0 K265.1
  have O265 := O.keep K265 all0'
  refine zLv Bd X265 (v := some (.ref o265)) (by decide) nofun (fun fs hr => pre0 _ ?_) ⟨o265, rfl, N265, KK265, S265⟩
  refine zA X0 hx (hD 0 rfl) rfl rfl ?_
  refine st261 _ ?_
  refine zS X261 hx (hD 2 rfl) rfl ?_
  refine zL X261 hx (hD 3 rfl) rfl ?_
  refine zL X261 hx (hD 4 rfl) rfl ?_
  refine zL X261 hx (hD 5 rfl) rfl ?_
  refine st262 _ ?_
  refine zL X262 hx (hD 7 rfl) rfl ?_
  refine zI X262 hx 22 (hD 8 rfl) ((if0 _ _).trans (feq (by decide : ¬ ((36 : Int32) = 0))).2) rfl ?_
  refine zL X262 hx (hD 9 rfl) rfl ?_
  refine zL X262 hx (hD 10 rfl) rfl ?_
  refine zQl X262 hx (hD 11 rfl) (z := 2) rfl ?_
  refine zs X262 hx (hD 12 rfl) rfl ?_
  refine zA X262 hx (hD 13 rfl) rfl rfl ?_
  refine st263 _ ?_
  refine zJ X263 hx (hD 15 rfl) ((if0 _ _).trans (feq (by decide : ¬ ((1 : Int32) = 0))).1) ?_
  refine zA X263 hx (hD 16 rfl) rfl rfl ?_
  refine st264 _ ?_
  refine zL X264 hx (hD 18 rfl) rfl ?_
  refine zl X264 hx (hD 19 rfl) rfl ?_
  refine st265 _ ?_
  refine zG X265 hx 57 (hD 21 rfl) rfl ?_
  show Steps p.tables e below (T265.setTop (mkF m 57 #[vR o, vI 36, vI 38, vI 56, vI 2] [(.ref o265)])) _
  jvm_step X265.here [X265.here.top, hx, (hD 22 rfl), X265.method', Bd.returns, Value.isRef, FieldType.isReference]
  first | (intro acts; rw [hr _ acts rfl rfl rfl]) | rw [hr _ _ rfl rfl rfl]
  exact Steps.refl _
def D55 : List (Nat × Instr × Nat) := [(0, .lload_n 0, 1), (1, .lload_n 2, 1), (2, .lcmp, 1), (3, .ifCond .lt 7, 3), (6, .lload_n 0, 1), (7, .goto 4, 3), (11, .lreturn, 1)]
theorem d55 : ∀ x ∈ D55, decode jdk_29_method_66_code x.1 = .ok x.2 := by decide +kernel

theorem ef_55 (m : MethodId) (x0 : Int64) (x1 : Int64) : entryFrame m #[(.long x0), (.long x1)] 4 = mkF m 0 #[.val (.long x0), .second, .val (.long x1), .second] [] := by first | (simp [entryFrame, mkF, argsToLocals, Value.category]; done) | rfl
theorem rmMXJ (hw : HW Z a0) (ws : List Jvm.Cond)   (h0 : Heap) (n0 : Nat) (Z0 : n0 ≤ h0.size)   :
    MF l Z (⟨"java/lang/Math", "max", "(JJ)J"⟩ : MethodName) jdk_29_method_66_code 4 (some .long) ws (rM 0 0 0 0) #[(.long (38 : Int64)), (.long (0 : Int64))] h0 (QJ (38 : Int64) h0 n0) := by
  refine MetFree.of_bodySF (Jvm.Free.JP.mathPlain rfl (by decide +kernel)) hisR ?_
  intro p e s m args below meth c s₁ Bd hml0 hP hK
  obtain ⟨rfl, hZ, hh⟩ := hP
  have hx := Bd.exec
  have hby := Bd.bytes
  have hml : c.maxLocals = 4 := hml0
  have hown : s.vm.findClass "java/lang/Math" = some m.cls := findClass_of_methodNamed Bd.named
  have X0 : Stand p l e (rM 0 0 0 0) s m #[(.long (38 : Int64)), (.long (0 : Int64))] below meth c s₁ [] 0 0 := Stand.of_body Bd
  have e0 : s₁.heap = h0 := by rw [← hh, Bd.state]; rfl
  have hD := dk hby d55
  have N0 := Fr.nil n0
  have pre0 : ∀ zz, Steps p.tables e below (s₁.setTop (mkF m 0 #[.val (.long (38 : Int64)), .second, .val (.long (0 : Int64)), .second] [])) zz → Steps p.tables e below (s₁.setTop (entryFrame m #[(.long (38 : Int64)), (.long (0 : Int64))] 4)) zz := fun zz kz_ => castTop (ef_55 m (38 : Int64) (0 : Int64)) kz_
  obtain ⟨fs, hr, hrun, hended, hW, hsame⟩ := X0.leave (v := some (.long (38 : Int64))) (fun h => by rw [Bd.returns] at h; cases h)
  refine ⟨_, _, pre0 _ ?_, hrun, hended, _, _, rfl, ?_, ⟨_, rfl⟩, hW, hsame.mono (by decide) (by decide)⟩
  · show Steps p.tables e below (s₁.setTop (mkF m 0 #[.val (.long (38 : Int64)), .second, .val (.long (0 : Int64)), .second] [])) _
    refine XS.lloadN X0.here hx rfl (hD 0 rfl) rfl ?_
    refine XS.lloadN X0.here hx rfl (hD 1 rfl) rfl ?_
    refine XS.lcmp X0.here hx rfl (hD 2 rfl) rfl ?_
    refine zJ X0 hx (hD 3 rfl) ((if0 _ _).trans (flt (by decide)).1) ?_
    refine XS.lloadN X0.here hx rfl (hD 4 rfl) rfl ?_
    refine zG X0 hx 11 (hD 5 rfl) rfl ?_
    show Steps p.tables e below (s₁.setTop (mkF m 11 #[.val (.long (38 : Int64)), .second, .val (.long (0 : Int64)), .second] [(.long (38 : Int64))])) _
    jvm_step X0.here [X0.here.top, hx, (hD 6 rfl), X0.method', Bd.returns, narrow]
    first | (intro acts; rw [hr _ acts rfl rfl rfl]) | rw [hr _ _ rfl rfl rfl]
    exact Steps.refl _
  · show QJ (38 : Int64) h0 n0 _ s₁.heap _
    rw [e0]
    exact ⟨rfl, N0, rfl⟩
def D56 : List (Nat × Instr × Nat) := [(0, .lload_n 0, 1), (1, .lload_n 2, 1), (2, .lcmp, 1), (3, .ifCond .gt 7, 3), (10, .lload_n 2, 1), (11, .lreturn, 1)]
theorem d56 : ∀ x ∈ D56, decode jdk_29_method_70_code x.1 = .ok x.2 := by decide +kernel

theorem ef_56 (m : MethodId) (x0 : Int64) (x1 : Int64) : entryFrame m #[(.long x0), (.long x1)] 4 = mkF m 0 #[.val (.long x0), .second, .val (.long x1), .second] [] := by first | (simp [entryFrame, mkF, argsToLocals, Value.category]; done) | rfl
theorem rmMNJ (hw : HW Z a0) (ws : List Jvm.Cond)   (h0 : Heap) (n0 : Nat) (Z0 : n0 ≤ h0.size)   :
    MF l Z (⟨"java/lang/Math", "min", "(JJ)J"⟩ : MethodName) jdk_29_method_70_code 4 (some .long) ws (rM 0 0 0 0) #[(.long (56 : Int64)), (.long (38 : Int64))] h0 (QJ (38 : Int64) h0 n0) := by
  refine MetFree.of_bodySF (Jvm.Free.JP.mathPlain rfl (by decide +kernel)) hisR ?_
  intro p e s m args below meth c s₁ Bd hml0 hP hK
  obtain ⟨rfl, hZ, hh⟩ := hP
  have hx := Bd.exec
  have hby := Bd.bytes
  have hml : c.maxLocals = 4 := hml0
  have hown : s.vm.findClass "java/lang/Math" = some m.cls := findClass_of_methodNamed Bd.named
  have X0 : Stand p l e (rM 0 0 0 0) s m #[(.long (56 : Int64)), (.long (38 : Int64))] below meth c s₁ [] 0 0 := Stand.of_body Bd
  have e0 : s₁.heap = h0 := by rw [← hh, Bd.state]; rfl
  have hD := dk hby d56
  have N0 := Fr.nil n0
  have pre0 : ∀ zz, Steps p.tables e below (s₁.setTop (mkF m 0 #[.val (.long (56 : Int64)), .second, .val (.long (38 : Int64)), .second] [])) zz → Steps p.tables e below (s₁.setTop (entryFrame m #[(.long (56 : Int64)), (.long (38 : Int64))] 4)) zz := fun zz kz_ => castTop (ef_56 m (56 : Int64) (38 : Int64)) kz_
  obtain ⟨fs, hr, hrun, hended, hW, hsame⟩ := X0.leave (v := some (.long (38 : Int64))) (fun h => by rw [Bd.returns] at h; cases h)
  refine ⟨_, _, pre0 _ ?_, hrun, hended, _, _, rfl, ?_, ⟨_, rfl⟩, hW, hsame.mono (by decide) (by decide)⟩
  · show Steps p.tables e below (s₁.setTop (mkF m 0 #[.val (.long (56 : Int64)), .second, .val (.long (38 : Int64)), .second] [])) _
    refine XS.lloadN X0.here hx rfl (hD 0 rfl) rfl ?_
    refine XS.lloadN X0.here hx rfl (hD 1 rfl) rfl ?_
    refine XS.lcmp X0.here hx rfl (hD 2 rfl) rfl ?_
    refine zI X0 hx 10 (hD 3 rfl) ((if0 _ _).trans (tlt (by decide)).2.2.1) rfl ?_
    refine XS.lloadN X0.here hx rfl (hD 4 rfl) rfl ?_
    show Steps p.tables e below (s₁.setTop (mkF m 11 #[.val (.long (56 : Int64)), .second, .val (.long (38 : Int64)), .second] [(.long (38 : Int64))])) _
    jvm_step X0.here [X0.here.top, hx, (hD 5 rfl), X0.method', Bd.returns, narrow]
    first | (intro acts; rw [hr _ acts rfl rfl rfl]) | rw [hr _ _ rfl rfl rfl]
    exact Steps.refl _
  · show QJ (38 : Int64) h0 n0 _ s₁.heap _
    rw [e0]
    exact ⟨rfl, N0, rfl⟩
def D54 : List (Nat × Instr × Nat) := [(0, .iload_n 2, 1), (1, .iload_n 3, 1), (2, .if_icmp .le 34, 3), (36, .iload_n 3, 1), (37, .i2l, 1), (38, .lload_n 0, 1), (39, .iload_n 2, 1), (40, .i2l, 1), (41, .invokestatic 196, 3), (44, .invokestatic 199, 3), (47, .l2i, 1), (48, .ireturn, 1)]
theorem d54 : ∀ x ∈ D54, decode jdk_29_method_73_code x.1 = .ok x.2 := by decide +kernel

theorem ef_54 (m : MethodId) (x0 : Int64) (x1 : Int32) (x2 : Int32) : entryFrame m #[(.long x0), (.int x1), (.int x2)] 4 = mkF m 0 #[.val (.long x0), .second, .val (.int x1), .val (.int x2)] [] := by first | (simp [entryFrame, mkF, argsToLocals, Value.category]; done) | rfl
theorem rmCLP (hw : HW Z a0) (ws : List Jvm.Cond)   (h0 : Heap) (n0 : Nat) (Z0 : n0 ≤ h0.size)   :
    MF l Z (⟨"java/lang/Math", "clamp", "(JII)I"⟩ : MethodName) jdk_29_method_73_code 4 (some .int) ws (rM 1 20 0 0) #[(.long (38 : Int64)), (.int 0), (.int 56)] h0 (QI (38 : Int32) h0 n0) := by
  refine MetFree.of_bodySF (Jvm.Free.JP.mathPlain rfl (by decide +kernel)) hisR ?_
  intro p e s m args below meth c s₁ Bd hml0 hP hK
  obtain ⟨rfl, hZ, hh⟩ := hP
  have hx := Bd.exec
  have hby := Bd.bytes
  have hml : c.maxLocals = 4 := hml0
  have hown : s.vm.findClass "java/lang/Math" = some m.cls := findClass_of_methodNamed Bd.named
  have X0 : Stand p l e (rM 1 20 0 0) s m #[(.long (38 : Int64)), (.int 0), (.int 56)] below meth c s₁ [] 0 0 := Stand.of_body Bd
  have e0 : s₁.heap = h0 := by rw [← hh, Bd.state]; rfl
  have hD := dk hby d54
  have N0 := Fr.nil n0
  have pre0 : ∀ zz, Steps p.tables e below (s₁.setTop (mkF m 0 #[.val (.long (38 : Int64)), .second, vI 0, vI 56] [])) zz → Steps p.tables e below (s₁.setTop (entryFrame m #[(.long (38 : Int64)), (.int 0), (.int 56)] 4)) zz := fun zz kz_ => castTop (ef_54 m (38 : Int64) (0 : Int32) (56 : Int32)) kz_
  obtain ⟨T266, L266, X266, e266, N266, st266⟩ := zT X0 hx hZ hown e0 N0 (hwi hw 293 rfl) (hwi hw 294 rfl) (hwi hw 183 rfl) (hwi hw 295 rfl) (rmMXJ l Z a0 hw []  h0 n0 Z0 ) 41 #[.val (.long (38 : Int64)), .second, vI 0, vI 56] [(.long (0 : Int64)), (.long (38 : Int64)), (.long (56 : Int64))] hml pd_40 (hD 8 rfl) 2
  obtain ⟨T267, L267, X267, e267, N267, st267⟩ := zT X266 hx hZ hown e266 N266 (hwi hw 296 rfl) (hwi hw 297 rfl) (hwi hw 183 rfl) (hwi hw 298 rfl) (rmMNJ l Z a0 hw []  h0 n0 Z0 ) 44 #[.val (.long (38 : Int64)), .second, vI 0, vI 56] [(.long (38 : Int64)), (.long (56 : Int64))] hml pd_40 (hD 9 rfl) 0
  obtain ⟨fs, hr, hrun, hended, hW, hsame⟩ := X267.leave (v := some (.int 38)) (fun h => by rw [Bd.returns] at h; cases h)
  refine ⟨_, _, pre0 _ ?_, hrun, hended, _, _, rfl, ?_, ⟨_, rfl⟩, hW, hsame.mono (by decide) (by decide)⟩
  · show Steps p.tables e below (s₁.setTop (mkF m 0 #[.val (.long (38 : Int64)), .second, vI 0, vI 56] [])) _
    refine zL X0 hx (hD 0 rfl) rfl ?_
    refine zL X0 hx (hD 1 rfl) rfl ?_
    refine zM X0 hx 36 (hD 2 rfl) (flt (by decide : ¬ ((56 : Int32) < (0 : Int32)))).2.2.2 rfl ?_
    refine zL X0 hx (hD 3 rfl) rfl ?_
    refine XS.i2l X0.here hx rfl (hD 4 rfl) rfl ?_
    show Steps p.tables e below (s₁.setTop (mkF m 38 #[.val (.long (38 : Int64)), .second, vI 0, vI 56] [(.long ((56 : Int32).toInt64))])) _
    rw [show ((56 : Int32).toInt64) = (56 : Int64) from (by decide)]
    refine XS.lloadN X0.here hx rfl (hD 5 rfl) rfl ?_
    refine zL X0 hx (hD 6 rfl) rfl ?_
    refine XS.i2l X0.here hx rfl (hD 7 rfl) rfl ?_
    show Steps p.tables e below (s₁.setTop (mkF m 41 #[.val (.long (38 : Int64)), .second, vI 0, vI 56] [(.long ((0 : Int32).toInt64)), (.long (38 : Int64)), (.long (56 : Int64))])) _
    rw [show ((0 : Int32).toInt64) = (0 : Int64) from (by decide)]
    refine st266 _ ?_
    refine st267 _ ?_
    refine XS.l2i X267.here hx rfl (hD 10 rfl) rfl ?_
    show Steps p.tables e below (T267.setTop (mkF m 48 #[.val (.long (38 : Int64)), .second, vI 0, vI 56] [(.int ((38 : Int64).toInt32))])) _
    rw [show ((38 : Int64).toInt32) = (38 : Int32) from (by decide)]
    show Steps p.tables e below (T267.setTop (mkF m 48 #[.val (.long (38 : Int64)), .second, vI 0, vI 56] [(.int 38)])) _
    exact retI X267 hx Bd.returns (hD 11 rfl) hr
  · show QI (38 : Int32) h0 n0 _ T267.heap _
    rw [e267]
    exact ⟨rfl, N267, rfl⟩
def D57 : List (Nat × Instr × Nat) := [(0, .aload_n 2, 1), (1, .iconst 0, 1), (2, .baload, 1), (3, .istore 5, 2), (5, .iload_n 1, 1), (6, .iload_n 3, 1), (7, .isub, 1), (8, .istore 6, 2), (10, .iload 4, 2), (12, .istore 7, 2), (14, .iload 7, 2), (16, .iload 6, 2), (18, .if_icmp .gt 101, 3), (21, .aload_n 0, 1), (22, .iload 7, 2), (24, .baload, 1), (25, .iload 5, 2), (27, .if_icmp .eq 25, 3), (30, .iinc 7 1, 3), (33, .iload 7, 2), (35, .iload 6, 2), (37, .if_icmp .gt 15, 3), (40, .aload_n 0, 1), (41, .iload 7, 2), (43, .baload, 1), (44, .iload 5, 2), (46, .if_icmp .eq 6, 3), (52, .iload 7, 2), (54, .iload 6, 2), (56, .if_icmp .gt 57, 3), (59, .iload 7, 2), (61, .iconst 1, 1), (62, .iadd, 1), (63, .istore 8, 2), (65, .iload 8, 2), (67, .iload_n 3, 1), (68, .iadd, 1), (69, .iconst 1, 1), (70, .isub, 1), (71, .istore 9, 2), (73, .iconst 1, 1), (74, .istore 10, 2), (76, .iload 8, 2), (78, .iload 9, 2), (80, .if_icmp .ge 23, 3), (83, .aload_n 0, 1), (84, .iload 8, 2), (86, .baload, 1), (87, .aload_n 2, 1), (88, .iload 10, 2), (90, .baload, 1), (91, .if_icmp .ne 12, 3), (94, .iinc 8 1, 3), (97, .iinc 10 1, 3), (100, .goto (-24), 3), (103, .iload 8, 2), (105, .iload 9, 2), (107, .if_icmp .ne 6, 3), (110, .iload 7, 2), (112, .ireturn, 1)]
theorem d57 : ∀ x ∈ D57, decode jdk_43_method_25_code x.1 = .ok x.2 := by decide +kernel
theorem pn_57 : plainName "java/lang/StringLatin1" = true := by first | (simp [plainName, overriddenIn]; done) | decide +kernel
theorem ef_57 (m : MethodId) (x0 : Addr) (x1 : Int32) (x2 : Addr) (x3 : Int32) (x4 : Int32) : entryFrame m #[(.ref x0), (.int x1), (.ref x2), (.int x3), (.int x4)] 11 = mkF m 0 #[.val (.ref x0), .val (.int x1), .val (.ref x2), .val (.int x3), .val (.int x4), .unset, .unset, .unset, .unset, .unset, .unset] [] := by first | (simp [entryFrame, mkF, argsToLocals, Value.category]; done) | rfl
theorem rmLIO (hw : HW Z a0) (ws : List Jvm.Cond) (b d : Addr) (g : Nat → Int32)  (h0 : Heap) (n0 : Nat) (Z0 : n0 ≤ h0.size) (FB : AF Z h0 b .byte 56 (Lb g)) (FD : AF Z h0 d .byte 2 (fun j => Lb g (36 + j))) (h36 : g 36 = 36) (h37 : g 37 = 36) (h38 : g 38 = 59) (h39 : g 39 = 36) (h40 : g 40 = 36)  :
    MF l Z (⟨"java/lang/StringLatin1", "indexOf", "([BI[BII)I"⟩ : MethodName) jdk_43_method_25_code 11 (some .int) ws (rM 0 0 0 0) #[(.ref b), (.int 56), (.ref d), (.int 2), (.int 38)] h0 (QI (39 : Int32) h0 n0) := by
  refine zBody pn_57 (fun m => ef_57 m b (56 : Int32) d (2 : Int32) (38 : Int32)) ?_
  intro p e s m below meth c s₁ Bd hx hby hml hown hZ hh X0 e0 pre0
  have hD := dk hby d57
  have N0 := Fr.nil n0
  refine zLv Bd X0 (v := some (.int 39)) (by decide) nofun (fun fs hr => pre0 _ ?_) (by rw [e0]; exact ⟨rfl, N0, rfl⟩)
  refine zA X0 hx (hD 0 rfl) rfl rfl ?_
  refine zC X0 hx (hD 1 rfl) ?_
  refine ldBy X0 hx hZ e0 FD (i := 0) (by decide) (by decide) (v := (.int (b8 (g 36)))) rfl (g := (mkF m 2 #[vR b, vI 56, vR d, vI 2, vI 38, .unset, .unset, .unset, .unset, .unset, .unset] [(.int 0), (.ref d)])) rfl rfl (hD 2 rfl) ?_
  refine zs X0 hx (hD 3 rfl) rfl ?_
  refine zL X0 hx (hD 4 rfl) rfl ?_
  refine zL X0 hx (hD 5 rfl) rfl ?_
  refine zQl X0 hx (hD 6 rfl) (z := 54) rfl ?_
  refine zs X0 hx (hD 7 rfl) rfl ?_
  refine zl X0 hx (hD 8 rfl) rfl ?_
  refine zs X0 hx (hD 9 rfl) rfl ?_
  refine zl X0 hx (hD 10 rfl) rfl ?_
  refine zl X0 hx (hD 11 rfl) rfl ?_
  refine zN X0 hx (hD 12 rfl) (flt (by decide : ¬ ((54 : Int32) < (38 : Int32)))).2.2.1 ?_
  refine zA X0 hx (hD 13 rfl) rfl rfl ?_
  refine zl X0 hx (hD 14 rfl) rfl ?_
  refine ldBy X0 hx hZ e0 FB (i := 38) (by decide) (by decide) (v := (.int (b8 (g 38)))) rfl (g := (mkF m 24 #[vR b, vI 56, vR d, vI 2, vI 38, vI (b8 (g 36)), vI 54, vI 38, .unset, .unset, .unset] [(.int 38), (.ref b)])) rfl rfl (hD 15 rfl) ?_
  refine zl X0 hx (hD 16 rfl) rfl ?_
  refine zN X0 hx (hD 17 rfl) (feq (by rw [h36, h38]; decide)).1 ?_
  refine XS.iinc X0.here hx rfl (hD 18 rfl) rfl (l' := #[vR b, vI 56, vR d, vI 2, vI 38, vI (b8 (g 36)), vI 54, vI 39, .unset, .unset, .unset]) rfl ?_
  refine zl X0 hx (hD 19 rfl) rfl ?_
  refine zl X0 hx (hD 20 rfl) rfl ?_
  refine zN X0 hx (hD 21 rfl) (flt (by decide : ¬ ((54 : Int32) < (39 : Int32)))).2.2.1 ?_
  refine zA X0 hx (hD 22 rfl) rfl rfl ?_
  refine zl X0 hx (hD 23 rfl) rfl ?_
  refine ldBy X0 hx hZ e0 FB (i := 39) (by decide) (by decide) (v := (.int (b8 (g 39)))) rfl (g := (mkF m 43 #[vR b, vI 56, vR d, vI 2, vI 38, vI (b8 (g 36)), vI 54, vI 39, .unset, .unset, .unset] [(.int 39), (.ref b)])) rfl rfl (hD 24 rfl) ?_
  refine zl X0 hx (hD 25 rfl) rfl ?_
  refine zM X0 hx 52 (hD 26 rfl) (teq (by rw [h36, h39])).1 rfl ?_
  refine zl X0 hx (hD 27 rfl) rfl ?_
  refine zl X0 hx (hD 28 rfl) rfl ?_
  refine zN X0 hx (hD 29 rfl) (flt (by decide : ¬ ((54 : Int32) < (39 : Int32)))).2.2.1 ?_
  refine zl X0 hx (hD 30 rfl) rfl ?_
  refine zC X0 hx (hD 31 rfl) ?_
  refine zPl X0 hx (hD 32 rfl) (z := 40) rfl ?_
  refine zs X0 hx (hD 33 rfl) rfl ?_
  refine zl X0 hx (hD 34 rfl) rfl ?_
  refine zL X0 hx (hD 35 rfl) rfl ?_
  refine zPl X0 hx (hD 36 rfl) (z := 42) rfl ?_
  refine zC X0 hx (hD 37 rfl) ?_
  refine zQl X0 hx (hD 38 rfl) (z := 41) rfl ?_
  refine zs X0 hx (hD 39 rfl) rfl ?_
  refine zC X0 hx (hD 40 rfl) ?_
  refine zs X0 hx (hD 41 rfl) rfl ?_
  refine zl X0 hx (hD 42 rfl) rfl ?_
  refine zl X0 hx (hD 43 rfl) rfl ?_
  refine zN X0 hx (hD 44 rfl) (tlt (by decide : (40 : Int32) < (41 : Int32))).2.1 ?_
  refine zA X0 hx (hD 45 rfl) rfl rfl ?_
  refine zl X0 hx (hD 46 rfl) rfl ?_
  refine ldBy X0 hx hZ e0 FB (i := 40) (by decide) (by decide) (v := (.int (b8 (g 40)))) rfl (g := (mkF m 86 #[vR b, vI 56, vR d, vI 2, vI 38, vI (b8 (g 36)), vI 54, vI 39, vI 40, vI 41, vI 1] [(.int 40), (.ref b)])) rfl rfl (hD 47 rfl) ?_
  refine zA X0 hx (hD 48 rfl) rfl rfl ?_
  refine zl X0 hx (hD 49 rfl) rfl ?_
  refine ldBy X0 hx hZ e0 FD (i := 1) (by decide) (by decide) (v := (.int (b8 (g 37)))) rfl (g := (mkF m 90 #[vR b, vI 56, vR d, vI 2, vI 38, vI (b8 (g 36)), vI 54, vI 39, vI 40, vI 41, vI 1] [(.int 1), (.ref d), (.int (b8 (g 40)))])) rfl rfl (hD 50 rfl) ?_
  refine zN X0 hx (hD 51 rfl) (teq (by rw [h37, h40])).2 ?_
  refine XS.iinc X0.here hx rfl (hD 52 rfl) rfl (l' := #[vR b, vI 56, vR d, vI 2, vI 38, vI (b8 (g 36)), vI 54, vI 39, vI 41, vI 41, vI 1]) rfl ?_
  refine XS.iinc X0.here hx rfl (hD 53 rfl) rfl (l' := #[vR b, vI 56, vR d, vI 2, vI 38, vI (b8 (g 36)), vI 54, vI 39, vI 41, vI 41, vI 2]) rfl ?_
  refine zG X0 hx 76 (hD 54 rfl) rfl ?_
  refine zl X0 hx (hD 42 rfl) rfl ?_
  refine zl X0 hx (hD 43 rfl) rfl ?_
  refine zM X0 hx 103 (hD 44 rfl) (flt (by decide : ¬ ((41 : Int32) < (41 : Int32)))).2.1 rfl ?_
  refine zl X0 hx (hD 55 rfl) rfl ?_
  refine zl X0 hx (hD 56 rfl) rfl ?_
  refine zN X0 hx (hD 57 rfl) (teq (rfl : (41 : Int32) = 41)).2 ?_
  refine zl X0 hx (hD 58 rfl) rfl ?_
  exact retI X0 hx Bd.returns (hD 59 rfl) hr
def D53 : List (Nat × Instr × Nat) := [(0, .iload 4, 2), (2, .i2l, 1), (3, .iconst 0, 1), (4, .iload_n 2, 1), (5, .invokestatic 659, 3), (8, .istore 4, 2), (10, .aload_n 3, 1), (11, .invokevirtual 505, 3), (14, .istore 5, 2), (16, .iload 5, 2), (18, .iload_n 2, 1), (19, .iload 4, 2), (21, .isub, 1), (22, .if_icmp .le 5, 3), (27, .iload 5, 2), (29, .ifCond .ne 6, 3), (35, .aload_n 3, 1), (36, .getfield 9, 3), (39, .astore 6, 2), (41, .aload_n 3, 1), (42, .invokevirtual 335, 3), (45, .istore 7, 2), (47, .iload_n 1, 1), (48, .iload 7, 2), (50, .if_icmp .ne 33, 3), (53, .iload_n 1, 1), (54, .ifCond .ne 17, 3), (57, .aload_n 0, 1), (58, .iload_n 2, 1), (59, .aload 6, 2), (61, .iload 5, 2), (63, .iload 4, 2), (65, .invokestatic 665, 3), (68, .goto 14, 3), (82, .ireturn, 1)]
theorem d53 : ∀ x ∈ D53, decode jdk_42_method_87_code x.1 = .ok x.2 := by decide +kernel
theorem pn_53 : plainName "java/lang/String" = true := by first | (simp [plainName, overriddenIn]; done) | decide +kernel
theorem ef_53 (m : MethodId) (x0 : Addr) (x1 : Int32) (x2 : Int32) (x3 : Addr) (x4 : Int32) : entryFrame m #[(.ref x0), (.int x1), (.int x2), (.ref x3), (.int x4)] 8 = mkF m 0 #[.val (.ref x0), .val (.int x1), .val (.int x2), .val (.ref x3), .val (.int x4), .unset, .unset, .unset] [] := by first | (simp [entryFrame, mkF, argsToLocals, Value.category]; done) | rfl
theorem rmIO5 (hw : HW Z a0) (ws : List Jvm.Cond) (o kw b d : Addr) (g : Nat → Int32)  (h0 : Heap) (n0 : Nat) (Z0 : n0 ≤ h0.size) (O : Old Z n0 h0) (SK : StrSta Z) (EO : Exa Z h0 o "java/lang/String") (FC : Fld Z h0 o "java/lang/String" "coder" "B" (.int 0)) (FV : Fld Z h0 o "java/lang/String" "value" "[B" (.ref b)) (EO2 : Exa Z h0 kw "java/lang/String") (FC2 : Fld Z h0 kw "java/lang/String" "coder" "B" (.int 0)) (FV2 : Fld Z h0 kw "java/lang/String" "value" "[B" (.ref d)) (FB : AF Z h0 b .byte 56 (Lb g)) (FD : AF Z h0 d .byte 2 (fun j => Lb g (36 + j))) (h36 : g 36 = 36) (h37 : g 37 = 36) (h38 : g 38 = 59) (h39 : g 39 = 36) (h40 : g 40 = 36)  :
    MF l Z (⟨"java/lang/String", "indexOf", "([BBILjava/lang/String;I)I"⟩ : MethodName) jdk_42_method_87_code 8 (some .int) ws (rM 2 50 0 0) #[(.ref b), (.int 0), (.int 56), (.ref kw), (.int 38)] h0 (QI (39 : Int32) h0 n0) := by
  refine zBody pn_53 (fun m => ef_53 m b (0 : Int32) (56 : Int32) kw (38 : Int32)) ?_
  intro p e s m below meth c s₁ Bd hx hby hml hown hZ hh X0 e0 pre0
  have hD := dk hby d53
  have N0 := Fr.nil n0
  obtain ⟨T268, L268, X268, e268, N268, st268⟩ := zT X0 hx hZ hown e0 N0 (hwi hw 290 rfl) (hwi hw 291 rfl) (hwi hw 183 rfl) (hwi hw 292 rfl) (rmCLP l Z a0 hw []  h0 n0 Z0 ) 5 #[vR b, vI 0, vI 56, vR kw, vI 38, .unset, .unset, .unset] [(.int 56), (.int 0), (.long (38 : Int64))] hml pd_39 (hD 4 rfl) 0
  obtain ⟨T269, L269, X269, e269, N269, st269⟩ := zV X268 hx hZ hown e268 EO2 N268 (hwi hw 125 rfl) (hwi hw 20 rfl) (hwi hw 22 rfl) (hwi hw 21 rfl) (hwi hw 23 rfl) (hwi hw 9 rfl) (rmLEN0 l Z a0 hw [] kw d 2 (fun j => Lb g (36 + j)) h0 n0 Z0 (by decide) O SK EO2 FC2 FV2 FD) 11 #[vR b, vI 0, vI 56, vR kw, vI 38, .unset, .unset, .unset] [(.ref kw)] hml pd_3 (hD 7 rfl) 0
  obtain ⟨T270, X270, e270, st270⟩ := zF X269 hx hZ hown (hwi hw 24 rfl) e269 FV2 36 #[vR b, vI 0, vI 56, vR kw, vI 38, vI 2, .unset, .unset] [] (hD 17 rfl)
  obtain ⟨T271, L271, X271, e271, N271, st271⟩ := zV X270 hx hZ hown e270 EO2 N269 (hwi hw 25 rfl) (hwi hw 26 rfl) (hwi hw 28 rfl) (hwi hw 27 rfl) (hwi hw 29 rfl) (hwi hw 9 rfl) (rmCD0 l Z a0 hw [] kw h0 n0 Z0 O SK EO2 FC2) 42 #[vR b, vI 0, vI 56, vR kw, vI 38, vI 2, vR d, .unset] [(.ref kw)] hml pd_4 (hD 20 rfl) 0
  obtain ⟨T272, L272, X272, e272, N272, st272⟩ := zT X271 hx hZ hown e271 N271 (hwi hw 299 rfl) (hwi hw 300 rfl) (hwi hw 44 rfl) (hwi hw 301 rfl) (rmLIO l Z a0 hw [] b d g h0 n0 Z0 FB FD h36 h37 h38 h39 h40) 65 #[vR b, vI 0, vI 56, vR kw, vI 38, vI 2, vR d, vI 0] [(.int 38), (.int 2), (.ref d), (.int 56), (.ref b)] hml pd_20 (hD 32 rfl) 0
  refine zLv Bd X272 (v := some (.int 39)) (by decide) nofun (fun fs hr => pre0 _ ?_) (by rw [e272]; exact ⟨rfl, N272, rfl⟩)
  refine zl X0 hx (hD 0 rfl) rfl ?_
  refine XS.i2l X0.here hx rfl (hD 1 rfl) rfl ?_
  show Steps p.tables e below (s₁.setTop (mkF m 3 #[vR b, vI 0, vI 56, vR kw, vI 38, .unset, .unset, .unset] [(.long ((38 : Int32).toInt64))])) _
  rw [show ((38 : Int32).toInt64) = (38 : Int64) from (by decide)]
  refine zC X0 hx (hD 2 rfl) ?_
  refine zL X0 hx (hD 3 rfl) rfl ?_
  refine st268 _ ?_
  refine zs X268 hx (hD 5 rfl) rfl ?_
  refine zA X268 hx (hD 6 rfl) rfl rfl ?_
  refine st269 _ ?_
  refine zs X269 hx (hD 8 rfl) rfl ?_
  refine zl X269 hx (hD 9 rfl) rfl ?_
  refine zL X269 hx (hD 10 rfl) rfl ?_
  refine zl X269 hx (hD 11 rfl) rfl ?_
  refine zQl X269 hx (hD 12 rfl) (z := 18) rfl ?_
  refine zM X269 hx 27 (hD 13 rfl) (flt (by decide : ¬ ((18 : Int32) < (2 : Int32)))).2.2.2 rfl ?_
  refine zl X269 hx (hD 14 rfl) rfl ?_
  refine zI X269 hx 35 (hD 15 rfl) ((if0 _ _).trans (feq (by decide : ¬ ((2 : Int32) = 0))).2) rfl ?_
  refine zA X269 hx (hD 16 rfl) rfl rfl ?_
  refine st270 _ ?_
  refine XS.astore X270.here hx rfl (hD 18 rfl) rfl rfl (l' := #[vR b, vI 0, vI 56, vR kw, vI 38, vI 2, vR d, .unset]) rfl ?_
  refine zA X270 hx (hD 19 rfl) rfl rfl ?_
  refine st271 _ ?_
  refine zs X271 hx (hD 21 rfl) rfl ?_
  refine zL X271 hx (hD 22 rfl) rfl ?_
  refine zl X271 hx (hD 23 rfl) rfl ?_
  refine zN X271 hx (hD 24 rfl) (teq (rfl : (0 : Int32) = 0)).2 ?_
  refine zL X271 hx (hD 25 rfl) rfl ?_
  refine zJ X271 hx (hD 26 rfl) ((if0 _ _).trans (teq (rfl : (0 : Int32) = 0)).2) ?_
  refine zA X271 hx (hD 27 rfl) rfl rfl ?_
  refine zL X271 hx (hD 28 rfl) rfl ?_
  refine XS.aload X271.here hx rfl (hD 29 rfl) rfl rfl ?_
  refine zl X271 hx (hD 30 rfl) rfl ?_
  refine zl X271 hx (hD 31 rfl) rfl ?_
  refine st272 _ ?_
  refine zG X272 hx 82 (hD 33 rfl) rfl ?_
  exact retI X272 hx Bd.returns (hD 34 rfl) hr
def D52 : List (Nat × Instr × Nat) := [(0, .aload_n 0, 1), (1, .getfield 9, 3), (4, .aload_n 0, 1), (5, .invokevirtual 335, 3), (8, .aload_n 0, 1), (9, .invokevirtual 505, 3), (12, .aload_n 1, 1), (13, .iload_n 2, 1), (14, .invokestatic 653, 3), (17, .ireturn, 1)]
theorem d52 : ∀ x ∈ D52, decode jdk_42_method_85_code x.1 = .ok x.2 := by decide +kernel
theorem pn_52 : plainName "java/lang/String" = true := by first | (simp [plainName, overriddenIn]; done) | decide +kernel
theorem ef_52 (m : MethodId) (x0 : Addr) (x1 : Addr) (x2 : Int32) : entryFrame m #[(.ref x0), (.ref x1), (.int x2)] 3 = mkF m 0 #[.val (.ref x0), .val (.ref x1), .val (.int x2)] [] := by first | (simp [entryFrame, mkF, argsToLocals, Value.category]; done) | rfl
theorem rmIO1 (hw : HW Z a0) (ws : List Jvm.Cond) (o kw b d : Addr) (g : Nat → Int32)  (h0 : Heap) (n0 : Nat) (Z0 : n0 ≤ h0.size) (O : Old Z n0 h0) (SK : StrSta Z) (EO : Exa Z h0 o "java/lang/String") (FC : Fld Z h0 o "java/lang/String" "coder" "B" (.int 0)) (FV : Fld Z h0 o "java/lang/String" "value" "[B" (.ref b)) (EO2 : Exa Z h0 kw "java/lang/String") (FC2 : Fld Z h0 kw "java/lang/String" "coder" "B" (.int 0)) (FV2 : Fld Z h0 kw "java/lang/String" "value" "[B" (.ref d)) (FB : AF Z h0 b .byte 56 (Lb g)) (FD : AF Z h0 d .byte 2 (fun j => Lb g (36 + j))) (h36 : g 36 = 36) (h37 : g 37 = 36) (h38 : g 38 = 59) (h39 : g 39 = 36) (h40 : g 40 = 36)  :
    MF l Z (⟨"java/lang/String", "indexOf", "(Ljava/lang/String;I)I"⟩ : MethodName) jdk_42_method_85_code 3 (some .int) ws (rM 3 80 0 0) #[(.ref o), (.ref kw), (.int 38)] h0 (QI (39 : Int32) h0 n0) := by
  refine zBody pn_52 (fun m => ef_52 m o kw (38 : Int32)) ?_
  intro p e s m below meth c s₁ Bd hx hby hml hown hZ hh X0 e0 pre0
  have hD := dk hby d52
  have N0 := Fr.nil n0
  obtain ⟨T273, X273, e273, st273⟩ := zF X0 hx hZ hown (hwi hw 24 rfl) e0 FV 1 #[vR o, vR kw, vI 38] [] (hD 1 rfl)
  obtain ⟨T274, L274, X274, e274, N274, st274⟩ := zV X273 hx hZ hown e273 EO N0 (hwi hw 25 rfl) (hwi hw 26 rfl) (hwi hw 28 rfl) (hwi hw 27 rfl) (hwi hw 29 rfl) (hwi hw 9 rfl) (rmCD0 l Z a0 hw [] o h0 n0 Z0 O SK EO FC) 5 #[vR o, vR kw, vI 38] [(.ref o), (.ref b)] hml pd_4 (hD 3 rfl) 1
  obtain ⟨T275, L275, X275, e275, N275, st275⟩ := zV X274 hx hZ hown e274 EO N274 (hwi hw 125 rfl) (hwi hw 20 rfl) (hwi hw 22 rfl) (hwi hw 21 rfl) (hwi hw 23 rfl) (hwi hw 9 rfl) (rmLEN0 l Z a0 hw [] o b 56 (Lb g) h0 n0 Z0 (by decide) O SK EO FC FV FB) 9 #[vR o, vR kw, vI 38] [(.ref o), (.int 0), (.ref b)] hml pd_3 (hD 5 rfl) 2
  obtain ⟨T276, L276, X276, e276, N276, st276⟩ := zT X275 hx hZ hown e275 N275 (hwi hw 287 rfl) (hwi hw 288 rfl) (hwi hw 9 rfl) (hwi hw 289 rfl) (rmIO5 l Z a0 hw [] o kw b d g h0 n0 Z0 O SK EO FC FV EO2 FC2 FV2 FB FD h36 h37 h38 h39 h40) 14 #[vR o, vR kw, vI 38] [(.int 38), (.ref kw), (.int 56), (.int 0), (.ref b)] hml pd_38 (hD 8 rfl) 0
  refine zLv Bd X276 (v := some (.int 39)) (by decide) nofun (fun fs hr => pre0 _ ?_) (by rw [e276]; exact ⟨rfl, N276, rfl⟩)
  refine zA X0 hx (hD 0 rfl) rfl rfl ?_
  refine st273 _ ?_
  refine zA X273 hx (hD 2 rfl) rfl rfl ?_
  refine st274 _ ?_
  refine zA X274 hx (hD 4 rfl) rfl rfl ?_
  refine st275 _ ?_
  refine zA X275 hx (hD 6 rfl) rfl rfl ?_
  refine zL X275 hx (hD 7 rfl) rfl ?_
  refine st276 _ ?_
  show Steps p.tables e below (T276.setTop (mkF m 17 #[vR o, vR kw, vI 38] [(.int 39)])) _
  exact retI X276 hx Bd.returns (hD 9 rfl) hr
theorem rmIO (hw : HW Z a0) (ws : List Jvm.Cond) (o kw : Addr) (g : Nat → Int32)  (h0 : Heap) (n0 : Nat) (Z0 : n0 ≤ h0.size) (O : Old Z n0 h0) (SK : StrSta Z) (S : Str Z h0 o 56 g) (S2 : StrV Z h0 kw 2 (fun j => Lb g (36 + j))) (h36 : g 36 = 36) (h37 : g 37 = 36) (h38 : g 38 = 59) (h39 : g 39 = 36) (h40 : g 40 = 36)  :
    MF l Z (⟨"java/lang/String", "indexOf", "(Ljava/lang/String;I)I"⟩ : MethodName) jdk_42_method_85_code 3 (some .int) ws (rM 3 80 0 0) #[(.ref o), (.ref kw), (.int 38)] h0 (QI (39 : Int32) h0 n0) := by
  obtain ⟨EO, b, FV, FC, FB⟩ := S
  obtain ⟨EO2, d, FV2, FC2, FD⟩ := S2
  exact rmIO1 l Z a0 hw ws o kw b d g h0 n0 Z0 O SK EO FC FV EO2 FC2 FV2 FB FD h36 h37 h38 h39 h40
def D43 : List (Nat × Instr × Nat) := [(0, .aload_n 0, 1), (1, .invokevirtual 107, 3), (4, .istore_n 1, 1), (5, .aload_n 0, 1), (6, .getfield 22, 3), (9, .aload_n 0, 1), (10, .getfield 22, 3), (13, .aload_n 0, 1), (14, .getfield 54, 3), (17, .aload_n 0, 1), (18, .getfield 54, 3), (21, .iload_n 1, 1), (22, .iadd, 1), (23, .invokevirtual 186, 3), (26, .aload_n 0, 1), (27, .getfield 54, 3), (30, .iload_n 1, 1), (31, .iadd, 1), (32, .invokevirtual 190, 3), (35, .istore_n 2, 1), (36, .iload_n 2, 1), (37, .ifCond .ge 13, 3), (50, .iload_n 2, 1), (51, .iload_n 1, 1), (52, .iadd, 1), (53, .ireturn, 1)]
theorem d43 : ∀ x ∈ D43, decode prog_11_method_12_code x.1 = .ok x.2 := by decide +kernel
theorem pn_43 : plainName "com/example/killdeer/killdeer/EndingStatements" = true := by first | (simp [plainName, overriddenIn]; done) | decide +kernel
theorem ef_43 (m : MethodId) (x0 : Addr) : entryFrame m #[(.ref x0)] 3 = mkF m 0 #[.val (.ref x0), .unset, .unset] [] := by first | (simp [entryFrame, mkF, argsToLocals, Value.category]; done) | rfl
theorem rmEDQ (hw : HW Z a0) (ws : List Jvm.Cond) (r o ka sa ea : Addr) (sc : Int32) (g : Nat → Int32) (tk : Nat) (le eb : Int32) (kv : Nat → Addr) (sv ev : Nat → Nat)  (h0 : Heap) (n0 : Nat) (Z0 : n0 ≤ h0.size) (O : Old Z n0 h0) (SK : StrSta Z) (RS0 : RS Z h0 r o ka sa ea sc g 36 tk le eb kv sv ev) (hgB : allB g) (h36 : g 36 = 36) (h37 : g 37 = 36) (h38 : g 38 = 59) (h39 : g 39 = 36) (h40 : g 40 = 36)  :
    MF l Z (⟨"com/example/killdeer/killdeer/EndingStatements", "endOfDollarQuoted", "()I"⟩ : MethodName) prog_11_method_12_code 3 (some .int) ws (rM 6 140 2 6) #[(.ref r)] h0 (QX (.int 41) h0 n0) := by
  refine zBody pn_43 (fun m => ef_43 m r) ?_
  intro p e s m below meth c s₁ Bd hx hby hml hown hZ hh X0 e0 pre0
  have hD := dk hby d43
  have N0 := Fr.nil n0
  have EZ276 := RS0.1.1
  obtain ⟨T277, L277, X277, e277, N277, st277⟩ := zV X0 hx hZ hown e0 EZ276 N0 (hwi hw 241 rfl) (declOf (hwi hw 242 rfl) (hwi hw 244 rfl)) (selOf (hwi hw 242 rfl) (hwi hw 243 rfl) (hwi hw 91 rfl) (by decide)) (hwi hw 242 rfl) (hwi hw 244 rfl) (hwi hw 88 rfl) (rmDDL l Z a0 hw [] r o ka sa ea sc g tk le eb kv sv ev h0 n0 Z0 O SK RS0 hgB h37) 1 #[vR r, .unset, .unset] [(.ref r)] hml pd_3 (hD 1 rfl) 0
  obtain ⟨T278, X278, e278, st278⟩ := zF X277 hx hZ hown (hwi hw 104 rfl) e277 RS0.1.2.1 6 #[vR r, vI 2, .unset] [] (hD 4 rfl)
  obtain ⟨T279, X279, e279, st279⟩ := zF X278 hx hZ hown (hwi hw 104 rfl) e278 RS0.1.2.1 10 #[vR r, vI 2, .unset] [(.ref o)] (hD 6 rfl)
  obtain ⟨T280, X280, e280, st280⟩ := zF X279 hx hZ hown (hwi hw 112 rfl) e279 RS0.2.1.1 14 #[vR r, vI 2, .unset] [(.ref o), (.ref o)] (hD 8 rfl)
  obtain ⟨T281, X281, e281, st281⟩ := zF X280 hx hZ hown (hwi hw 112 rfl) e280 RS0.2.1.1 18 #[vR r, vI 2, .unset] [(.int 36), (.ref o), (.ref o)] (hD 10 rfl)
  have EY281 := RS0.1.2.2.2.2.2.2.1
  obtain ⟨cq282, kq282, q282a, q282b, q282c⟩ := isOf hZ e281 EY281
  obtain ⟨_, _, ⟨T282, L282, k282, n282⟩, -, X282, ⟨Lc282, hQ282, l282, y282, z282⟩, st282⟩ := X281.virtualBack hx hown (mvT hZ (hwi hw 249 rfl)) (mvT hZ (hwi hw 250 rfl)) (notFace_of_selects (args := #[]) (mvT hZ (hwi hw 252 rfl))) (mvT hZ (hwi hw 252 rfl)) (mvT hZ (hwi hw 251 rfl)) (by decide) (backOf (W := 1) (rmSUB l Z a0 hw [] o g h0 n0 Z0 O SK RS0.1.2.2.2.2.2.2) hZ (hwi hw 253 rfl) (hwi hw 9 rfl) (by decide) (by decide)) q282a q282c (g := (mkF m 23 #[vR r, vI 2, .unset] [(.int 38), (.int 36), (.ref o), (.ref o)])) rfl (by rw [hml]; rfl) (Steps.refl _) (argsL := [(.int 36), (.int 38)]) (rest := [(.ref o)]) (lenOf pd_30 rfl) rfl (by show 2 * 0 + _ ≤ _; exact Nat.le_of_eq rfl) (hD 13 rfl) (fun _ _ => ⟨rfl, e281, (by decide : 0 + 2 ≤ _), (by decide : 0 + 6 ≤ _)⟩)
  dsimp only [Pt.U, Pt.locs, Pt.cells, Pt.slots] at X282 l282 y282 z282 st282 hQ282
  obtain rfl : k282 = 2 := y282; obtain rfl : n282 = 6 := z282
  obtain ⟨o282, rfl, N282q, K282, S282⟩ := hQ282
  have N282 : Fr n0 L282 := by rw [l282]; exact Fr.app N277 N282q
  have F282 := extK K282
  have R282 := RS0.ext F282
  have Z282 := Nat.le_trans Z0 K282.1
  have O282 := O.ext F282
  obtain ⟨T283, X283, e283, st283⟩ := zF X282 hx hZ hown (hwi hw 112 rfl) rfl R282.2.1.1 27 #[vR r, vI 2, .unset] [(.ref o282), (.ref o)] (hD 15 rfl)
  have EY283 := R282.1.2.2.2.2.2.2.1
  obtain ⟨T284, L284, X284, e284, N284, st284⟩ := zV X283 hx hZ hown e283 EY283 N282 (hwi hw 282 rfl) (hwi hw 283 rfl) (hwi hw 285 rfl) (hwi hw 284 rfl) (hwi hw 286 rfl) (hwi hw 9 rfl) (rmIO l Z a0 hw [] o o282 g T282.heap n0 Z282 O282 SK R282.1.2.2.2.2.2.2 S282 h36 h37 h38 h39 h40) 32 #[vR r, vI 2, .unset] [(.int 38), (.ref o282), (.ref o)] hml pd_37 (hD 18 rfl) 0
  refine zLv Bd X284 (v := some (.int 41)) (by decide) nofun (fun fs hr => pre0 _ ?_) (by exact ⟨rfl, N284, by rw [e284]; exact F282⟩)
  refine zA X0 hx (hD 0 rfl) rfl rfl ?_
  refine st277 _ ?_
  refine zS X277 hx (hD 2 rfl) rfl ?_
  refine zA X277 hx (hD 3 rfl) rfl rfl ?_
  refine st278 _ ?_
  refine zA X278 hx (hD 5 rfl) rfl rfl ?_
  refine st279 _ ?_
  refine zA X279 hx (hD 7 rfl) rfl rfl ?_
  refine st280 _ ?_
  refine zA X280 hx (hD 9 rfl) rfl rfl ?_
  refine st281 _ ?_
  refine zL X281 hx (hD 11 rfl) rfl ?_
  refine zPl X281 hx (hD 12 rfl) (z := 38) rfl ?_
  refine st282.trans ?_
  refine zA X282 hx (hD 14 rfl) rfl rfl ?_
  refine st283 _ ?_
  refine zL X283 hx (hD 16 rfl) rfl ?_
  refine zPl X283 hx (hD 17 rfl) (z := 38) rfl ?_
  refine st284 _ ?_
  refine zS X284 hx (hD 19 rfl) rfl ?_
  refine zL X284 hx (hD 20 rfl) rfl ?_
  refine zI X284 hx 50 (hD 21 rfl) ((if0 _ _).trans (flt (by decide : ¬ ((39 : Int32) < (0 : Int32)))).2.1) rfl ?_
  refine zL X284 hx (hD 22 rfl) rfl ?_
  refine zL X284 hx (hD 23 rfl) rfl ?_
  refine zPl X284 hx (hD 24 rfl) (z := 41) rfl ?_
  show Steps p.tables e below (T284.setTop (mkF m 53 #[vR r, vI 2, vI 39] [(.int 41)])) _
  exact retI X284 hx Bd.returns (hD 25 rfl) hr
def D21 : List (Nat × Instr × Nat) := [(0, .aload_n 0, 1), (1, .getfield 54, 3), (4, .aload_n 0, 1), (5, .getfield 22, 3), (8, .invokevirtual 58, 3), (11, .if_icmp .ge 341, 3), (14, .aload_n 0, 1), (15, .getfield 22, 3), (18, .aload_n 0, 1), (19, .getfield 54, 3), (22, .invokevirtual 64, 3), (25, .istore_n 1, 1), (26, .iload_n 1, 1), (27, .bipush 59, 2), (29, .if_icmp .ne 27, 3), (32, .aload_n 0, 1), (33, .getfield 68, 3), (36, .ifCond .ne 20, 3), (39, .aload_n 0, 1), (40, .dup, 1), (41, .getfield 54, 3), (44, .iconst 1, 1), (45, .iadd, 1), (46, .putfield 54, 3), (49, .aload_n 0, 1), (50, .invokevirtual 71, 3), (53, .goto 296, 3), (56, .iload_n 1, 1), (57, .invokestatic 74, 3), (60, .ifCond .eq 16, 3), (63, .aload_n 0, 1), (64, .dup, 1), (65, .getfield 54, 3), (68, .iconst 1, 1), (69, .iadd, 1), (70, .putfield 54, 3), (73, .goto 276, 3), (76, .aload_n 0, 1), (77, .getfield 22, 3), (80, .ldc 78, 2), (82, .aload_n 0, 1), (83, .getfield 54, 3), (86, .invokevirtual 80, 3), (89, .ifCond .eq 14, 3), (92, .aload_n 0, 1), (93, .aload_n 0, 1), (94, .invokevirtual 84, 3), (97, .putfield 54, 3), (100, .goto 249, 3), (103, .aload_n 0, 1), (104, .getfield 22, 3), (107, .ldc 87, 2), (109, .aload_n 0, 1), (110, .getfield 54, 3), (113, .invokevirtual 80, 3), (116, .ifCond .eq 14, 3), (119, .aload_n 0, 1), (120, .aload_n 0, 1), (121, .invokevirtual 89, 3), (124, .putfield 54, 3), (127, .goto 222, 3), (130, .iload_n 1, 1), (131, .bipush 39, 2), (133, .if_icmp .eq 9, 3), (136, .iload_n 1, 1), (137, .bipush 34, 2), (139, .if_icmp .ne 69, 3), (142, .aload_n 0, 1), (143, .getfield 54, 3), (146, .istore_n 2, 1), (147, .iload_n 1, 1), (148, .bipush 39, 2), (150, .if_icmp .ne 7, 3), (153, .iconst 1, 1), (154, .goto 4, 3), (157, .iconst 0, 1), (158, .istore_n 3, 1), (159, .aload_n 0, 1), (160, .aload_n 0, 1), (161, .aload_n 0, 1), (162, .getfield 54, 3), (165, .iload_n 3, 1), (166, .ifCond .eq 14, 3), (169, .aload_n 0, 1), (170, .getfield 26, 3), (173, .ifCond .ne 7, 3), (176, .iconst 1, 1), (177, .goto 4, 3), (180, .iconst 0, 1), (181, .invokevirtual 92, 3), (184, .putfield 54, 3), (187, .aload_n 0, 1), (188, .iload_n 3, 1), (189, .ifCond .eq 9, 3), (192, .getstatic 96, 3), (195, .goto 6, 3), (198, .getstatic 100, 3), (201, .iload_n 2, 1), (202, .invokevirtual 103, 3), (205, .goto 144, 3), (208, .iload_n 1, 1), (209, .bipush 36, 2), (211, .if_icmp .ne 34, 3), (214, .aload_n 0, 1), (215, .invokevirtual 107, 3), (218, .ifCond .le 27, 3), (221, .aload_n 0, 1), (222, .getfield 54, 3), (225, .istore_n 2, 1), (226, .aload_n 0, 1), (227, .aload_n 0, 1), (228, .invokevirtual 110, 3), (231, .putfield 54, 3), (234, .aload_n 0, 1), (235, .getstatic 96, 3), (238, .iload_n 2, 1), (239, .invokevirtual 103, 3), (242, .goto 107, 3), (245, .iload_n 1, 1), (246, .invokestatic 113, 3), (249, .ifCond .eq 10, 3), (252, .aload_n 0, 1), (253, .invokevirtual 116, 3), (256, .goto 93, 3), (259, .iload_n 1, 1), (260, .invokestatic 119, 3), (263, .ifCond .eq 63, 3), (266, .aload_n 0, 1), (267, .getfield 54, 3), (270, .istore_n 2, 1), (271, .aload_n 0, 1), (272, .getfield 54, 3), (275, .aload_n 0, 1), (276, .getfield 22, 3), (279, .invokevirtual 58, 3), (282, .if_icmp .ge 33, 3), (285, .aload_n 0, 1), (286, .getfield 22, 3), (289, .aload_n 0, 1), (290, .getfield 54, 3), (293, .invokevirtual 64, 3), (296, .invokestatic 122, 3), (299, .ifCond .eq 16, 3), (302, .aload_n 0, 1), (303, .dup, 1), (304, .getfield 54, 3), (307, .iconst 1, 1), (308, .iadd, 1), (309, .putfield 54, 3), (312, .goto (-41), 3), (315, .aload_n 0, 1), (316, .getstatic 100, 3), (319, .iload_n 2, 1), (320, .invokevirtual 103, 3), (323, .goto 26, 3), (326, .aload_n 0, 1), (327, .dup, 1), (328, .getfield 54, 3), (331, .iconst 1, 1), (332, .iadd, 1), (333, .putfield 54, 3), (336, .aload_n 0, 1), (337, .getstatic 100, 3), (340, .aload_n 0, 1), (341, .getfield 54, 3), (344, .iconst 1, 1), (345, .isub, 1), (346, .invokevirtual 103, 3), (349, .goto (-349), 3), (352, .aload_n 0, 1), (353, .invokevirtual 71, 3), (356, .return_, 1)]
theorem d21 : ∀ x ∈ D21, decode prog_11_method_3_code x.1 = .ok x.2 := by decide +kernel
theorem pn_21 : plainName "com/example/killdeer/killdeer/EndingStatements" = true := by first | (simp [plainName, overriddenIn]; done) | decide +kernel
theorem ef_21 (m : MethodId) (x0 : Addr) : entryFrame m #[(.ref x0)] 4 = mkF m 0 #[.val (.ref x0), .unset, .unset, .unset] [] := by first | (simp [entryFrame, mkF, argsToLocals, Value.category]; done) | rfl
/-- what the loop of read() stands in -/
abbrev Cx := Program × Launch × Env × State × MethodId × (Array Value) × (List Frame) × Method × Code × State × (Array Value) × Nat × Heap × Addr × Addr × Addr × Addr × Addr × Addr × Addr × Addr × Int32 × (Nat → Int32)
abbrev Cx.p (C : Cx) : Program := C.1
abbrev Cx.ln (C : Cx) : Launch := C.2.1
abbrev Cx.e (C : Cx) : Env := C.2.2.1
abbrev Cx.s (C : Cx) : State := C.2.2.2.1
abbrev Cx.m (C : Cx) : MethodId := C.2.2.2.2.1
abbrev Cx.args (C : Cx) : Array Value := C.2.2.2.2.2.1
abbrev Cx.below (C : Cx) : List Frame := C.2.2.2.2.2.2.1
abbrev Cx.meth (C : Cx) : Method := C.2.2.2.2.2.2.2.1
abbrev Cx.c (C : Cx) : Code := C.2.2.2.2.2.2.2.2.1
abbrev Cx.zs (C : Cx) : State := C.2.2.2.2.2.2.2.2.2.1
abbrev Cx.az (C : Cx) : Array Value := C.2.2.2.2.2.2.2.2.2.2.1
abbrev Cx.n0 (C : Cx) : Nat := C.2.2.2.2.2.2.2.2.2.2.2.1
abbrev Cx.h00 (C : Cx) : Heap := C.2.2.2.2.2.2.2.2.2.2.2.2.1
abbrev Cx.r (C : Cx) : Addr := C.2.2.2.2.2.2.2.2.2.2.2.2.2.1
abbrev Cx.o (C : Cx) : Addr := C.2.2.2.2.2.2.2.2.2.2.2.2.2.2.1
abbrev Cx.ka (C : Cx) : Addr := C.2.2.2.2.2.2.2.2.2.2.2.2.2.2.2.1
abbrev Cx.sa (C : Cx) : Addr := C.2.2.2.2.2.2.2.2.2.2.2.2.2.2.2.2.1
abbrev Cx.ea (C : Cx) : Addr := C.2.2.2.2.2.2.2.2.2.2.2.2.2.2.2.2.2.1
abbrev Cx.wv (C : Cx) : Addr := C.2.2.2.2.2.2.2.2.2.2.2.2.2.2.2.2.2.2.1
abbrev Cx.xv (C : Cx) : Addr := C.2.2.2.2.2.2.2.2.2.2.2.2.2.2.2.2.2.2.2.1
abbrev Cx.ov (C : Cx) : Addr := C.2.2.2.2.2.2.2.2.2.2.2.2.2.2.2.2.2.2.2.2.1
abbrev Cx.sc (C : Cx) : Int32 := C.2.2.2.2.2.2.2.2.2.2.2.2.2.2.2.2.2.2.2.2.2.1
abbrev Cx.g (C : Cx) : Nat → Int32 := C.2.2.2.2.2.2.2.2.2.2.2.2.2.2.2.2.2.2.2.2.2.2
def CxOk (C : Cx) : Prop := (C.p.tables.exec = Jvm.exec) ∧ (∀ d ∈ tables_1, d.before C.az C.zs = true) ∧ (C.c.code = prog_11_method_3_code) ∧ (C.c.maxLocals = 4) ∧ (EW C.zs C.az EL1) ∧ (StrSta C.zs) ∧ (allB C.g) ∧ (Sta C.zs C.zs.heap "com/example/killdeer/killdeer/EndingStatements$Token" "WORD" "Lcom/example/killdeer/killdeer/EndingStatements$Token;" (.ref C.wv)) ∧ (Sta C.zs C.zs.heap "com/example/killdeer/killdeer/EndingStatements$Token" "STRING" "Lcom/example/killdeer/killdeer/EndingStatements$Token;" (.ref C.xv)) ∧ (Sta C.zs C.zs.heap "com/example/killdeer/killdeer/EndingStatements$Token" "OTHER" "Lcom/example/killdeer/killdeer/EndingStatements$Token;" (.ref C.ov)) ∧ (Exa C.zs C.zs.heap C.wv "com/example/killdeer/killdeer/EndingStatements$Token") ∧ (Exa C.zs C.zs.heap C.xv "com/example/killdeer/killdeer/EndingStatements$Token") ∧ (Exa C.zs C.zs.heap C.ov "com/example/killdeer/killdeer/EndingStatements$Token") ∧ (¬ (C.xv = C.wv)) ∧ (¬ (C.ov = C.wv)) ∧ (¬ (C.ov = C.xv)) ∧ (C.n0 ≤ C.r) ∧ (C.n0 ≤ C.ka) ∧ (C.n0 ≤ C.sa) ∧ (C.n0 ≤ C.ea) ∧ (Old C.zs C.n0 C.h00) ∧ (C.n0 ≤ C.h00.size) ∧ (∀ a ∈ Bundle.stringAtoms, a.before C.az C.zs = true)
theorem CxOk.hby {C : Cx} (H : CxOk C) : C.c.code = prog_11_method_3_code := H.2.2.1
theorem all4 {n0 : Nat} {a b c d : Addr} (h1 : n0 ≤ a) (h2 : n0 ≤ b) (h3 : n0 ≤ c) (h4 : n0 ≤ d) : ∀ x ∈ [a, b, c, d], n0 ≤ x := fun x q => by
  simp only [List.mem_cons, List.not_mem_nil, or_false] at q
  rcases q with rfl | rfl | rfl | rfl <;> assumption
/-- the words that are read as words -/
def wrdK (k : Nat) : Bool := k != 9 && k != 10 && k != 14 && k != 15
/-- a token of kind y from s to e has the law's code cd -/
def tokP (wv xv ov : Addr) (g : Nat → Int32) (y : Addr) (s e : Nat) (cd : Int32) : Prop :=
  (cd = 100 ∧ y = xv) ∨ (cd = 101 ∧ y = ov) ∨ (y = wv ∧ ∃ (k : Nat) (up : Int32), k < 16 ∧ wrdK k = true ∧ cd = Int32.ofNat k ∧ e = s + (wl k).length ∧ ∀ j, j < (wl k).length → g (s + j) = wc k up j)
/-- the codes cv of the tokens read -/
def TC (wv xv ov : Addr) (g : Nat → Int32) (tk : Nat) (kv : Nat → Addr) (sv ev : Nat → Nat) (cv : Nat → Int32) : Prop :=
  (∀ i, i < 3 → i < tk → tokP wv xv ov g (kv i) (sv i) (ev i) (cv i)) ∧ ∀ i, ¬ i < tk → cv i = -1
theorem TC.zero {wv xv ov : Addr} {g : Nat → Int32} {kv : Nat → Addr} {sv ev : Nat → Nat} : TC wv xv ov g 0 kv sv ev (fun _ => -1) := ⟨fun i _ h => absurd h (Nat.not_lt_zero _), fun _ _ => rfl⟩
theorem TC.push {wv xv ov : Addr} {g : Nat → Int32} {tk : Nat} {kv : Nat → Addr} {sv ev : Nat → Nat} {cv : Nat → Int32} (H : TC wv xv ov g tk kv sv ev cv) {y : Addr} {s e : Nat} {cd : Int32} (h : tokP wv xv ov g y s e cd) : TC wv xv ov g (tk + 1) (tkU kv tk y) (tkU sv tk s) (tkU ev tk e) (tkU cv tk cd) := by
  unfold tkU
  by_cases q : tk < 3
  · simp only [if_pos q]
    refine ⟨fun i h3 hi => ?_, fun i hi => ?_⟩
    · unfold updG
      by_cases z : i = tk
      · simp only [if_pos z]; exact h
      · simp only [if_neg z]; exact H.1 i h3 (by omega)
    · unfold updG
      rw [if_neg (by omega)]; exact H.2 i (by omega)
  · simp only [if_neg q]
    exact ⟨fun i h3 hi => H.1 i h3 (by omega), fun i hi => H.2 i (by omega)⟩
/-- the law's ends -/
def endV (c0 c1 c2 : Int32) : Int32 := if c0 = 0 then (if c1 = 5 then 0 else 1) else if c0 = 1 then 1 else if c0 = 2 then 1 else if c0 = 3 then (if c1 = 6 then 0 else if (c1 = 7 ∨ c1 = 8) ∧ c2 = 6 then 0 else if c1 = 5 then 0 else 1) else if c0 = 4 then (if c1 = 8 ∧ c2 = 100 then 1 else 0) else 0
theorem endV_iff {c0 c1 c2 : Int32} : EPd (c0 = 0) (c1 = 5) (c0 = 1) (c0 = 2) (c0 = 3) (c1 = 6) (c1 = 7) (c1 = 8) (c2 = 6) (c0 = 4) (c2 = 100) ↔ endV c0 c1 c2 = 1 := by
  unfold EPd endV
  by_cases h0 : c0 = 0
  · subst h0; by_cases h5 : c1 = 5 <;> simp [h5]
  · by_cases h1 : c0 = 1
    · subst h1; simp
    · by_cases h2 : c0 = 2
      · subst h2; simp
      · by_cases h3 : c0 = 3
        · subst h3
          by_cases h6 : c1 = 6
          · subst h6; simp
          · by_cases h7 : (c1 = 7 ∨ c1 = 8) ∧ c2 = 6
            · simp [h6, h7]
            · by_cases h5 : c1 = 5
              · subst h5; simp
              · simp only [h6, h7, h5]; simp
        · by_cases h4 : c0 = 4
          · subst h4; by_cases h8 : c1 = 8 ∧ c2 = 100 <;> simp [h8]
          · simp [h0, h1, h2, h3, h4]
theorem endV_01 (c0 c1 c2 : Int32) : endV c0 c1 c2 = 0 ∨ endV c0 c1 c2 = 1 := by
  unfold endV
  repeat' split
  all_goals simp
theorem wlLow : ∀ k, k < 16 → wrdK k = true → ∀ j, j < (wl k).length → f_lc (gl (wl k) j) = gl (wl k) j ∧ f_lc (gl (wl k) j - 32) = gl (wl k) j := by decide +kernel
theorem wc_or (k : Nat) (up : Int32) (j : Nat) (hj : j < (wl k).length) : wc k up j = gl (wl k) j ∨ (wc k up j = gl (wl k) j - 32 ∧ ¬ (gl (wl k) j < 97) ∧ ¬ (122 < gl (wl k) j)) := by
  unfold wc chF
  rw [if_pos hj]
  by_cases q : upB up j = 0
  · rw [if_pos q]; exact Or.inl rfl
  · rw [if_neg q]
    by_cases q1 : gl (wl k) j < 97
    · rw [if_pos q1]; exact Or.inl rfl
    · rw [if_neg q1]
      by_cases q2 : 122 < gl (wl k) j
      · rw [if_pos q2]; exact Or.inl rfl
      · rw [if_neg q2]; exact Or.inr ⟨rfl, q1, q2⟩
theorem lc_wc {k : Nat} {up : Int32} (hk : k < 16) (hw : wrdK k = true) {j : Nat} (hj : j < (wl k).length) : f_lc (wc k up j) = gl (wl k) j := by
  obtain ⟨h1, h2⟩ := wlLow k hk hw j hj
  rcases wc_or k up j hj with h | ⟨h, -⟩ <;> rw [h] <;> assumption
theorem listE {a b : List Int32} (hl : a.length = b.length) (h : ∀ j, j < a.length → gl a j = gl b j) : a = b := by
  refine List.ext_getElem hl fun i h1 h2 => ?_
  have := h i h1
  unfold gl at this
  simpa [List.getD, h1, h2] using this
/-- a word's chars as a keyword -/
theorem kw_iff {g : Nat → Int32} {k : Nat} {up : Int32} {s : Nat} (hk : k < 16) (hw : wrdK k = true) (hg : ∀ j, j < (wl k).length → g (s + j) = wc k up j) (kl : List Int32) : kwP g (gl kl) s (s + (wl k).length) kl.length ↔ wl k = kl := by
  unfold kwP
  constructor
  · rintro ⟨h1, h2⟩
    refine listE (by omega) fun j hj => ?_
    rw [← h2 j (by omega), hg j hj, lc_wc hk hw hj]
  · intro h
    refine ⟨by rw [← h]; omega, fun j hj => ?_⟩
    rw [← h] at hj ⊢
    rw [hg j hj, lc_wc hk hw hj]
theorem wlInj : ∀ k, k < 16 → ∀ q, q < 9 → wl k = wl q → k = q := by decide +kernel
theorem ofN_inj {a b : Nat} (ha : a < 1000) (hb : b < 1000) (h : Int32.ofNat a = Int32.ofNat b) : a = b := by
  have q := congrArg Int32.toInt h
  rw [Int32.toInt_ofNat_small (by omega), Int32.toInt_ofNat_small (by omega)] at q
  omega
theorem iw_iff {wv xv ov : Addr} {g : Nat → Int32} {tk : Nat} {kv : Nat → Addr} {sv ev : Nat → Nat} {cv : Nat → Int32} (H : TC wv xv ov g tk kv sv ev cv) (hxw : ¬ (xv = wv)) (how : ¬ (ov = wv)) {i : Nat} (hi : i < 3) (q : Nat) (hq : q < 9) {n : Nat} (hn : n = (wl q).length) : iwP wv g (gl (wl q)) n tk kv sv ev i ↔ cv i = Int32.ofNat q := by
  subst hn
  unfold iwP
  constructor
  · rintro ⟨h1, h2, h3⟩
    rcases H.1 i hi (by omega) with ⟨-, h⟩ | ⟨-, h⟩ | ⟨-, k, up, k1, k2, k3, k4, k5⟩
    · exact absurd (h.symm.trans h2) hxw
    · exact absurd (h.symm.trans h2) how
    · rw [k4] at h3
      rw [k3, wlInj k k1 q hq ((kw_iff k1 k2 k5 _).mp h3)]
  · intro h
    by_cases ht : i < tk
    · rcases H.1 i hi ht with ⟨z, -⟩ | ⟨z, -⟩ | ⟨z, k, up, k1, k2, k3, k4, k5⟩
      · exact absurd (ofN_inj (a := 100) (by omega) (by omega) (z.symm.trans h)) (by omega)
      · exact absurd (ofN_inj (a := 101) (by omega) (by omega) (z.symm.trans h)) (by omega)
      · obtain rfl := ofN_inj (by omega) (by omega) (k3.symm.trans h)
        refine ⟨by omega, z, ?_⟩
        rw [k4]
        exact (kw_iff k1 k2 k5 _).mpr rfl
    · rw [H.2 i ht] at h
      exact absurd h ((by decide +kernel : ∀ q, q < 9 → ¬ ((-1 : Int32) = Int32.ofNat q)) q hq)
theorem et_iff {wv xv ov : Addr} {g : Nat → Int32} {tk : Nat} {kv : Nat → Addr} {sv ev : Nat → Nat} {cv : Nat → Int32} (H : TC wv xv ov g tk kv sv ev cv) (hxw : ¬ (xv = wv)) (how : ¬ (ov = wv)) (hox : ¬ (ov = xv)) : etP wv xv g tk kv sv ev ↔ endV (cv 0) (cv 1) (cv 2) = 1 := by
  have I : ∀ i, i < 3 → ∀ q, q < 9 → (iwP wv g (gl (wl q)) (wl q).length tk kv sv ev i ↔ cv i = Int32.ofNat q) := fun i hi q hq => iw_iff H hxw how hi q hq rfl
  have K2 : (2 < tk ∧ kv 2 = xv) ↔ cv 2 = 100 := by
    constructor
    · rintro ⟨h1, h2⟩
      rcases H.1 2 (by omega) h1 with ⟨z, -⟩ | ⟨-, z⟩ | ⟨z, -⟩
      · exact z
      · exact absurd (z.symm.trans h2) hox
      · exact absurd (h2.symm.trans z) hxw
    · intro h
      by_cases ht : 2 < tk
      · refine ⟨ht, ?_⟩
        rcases H.1 2 (by omega) ht with ⟨-, z⟩ | ⟨z, -⟩ | ⟨z, k, up, k1, k2, k3, -⟩
        · exact z
        · exact absurd (z.symm.trans h) (by decide)
        · exact absurd (ofN_inj (b := 100) (by omega) (by omega) (k3.symm.trans h)) (by omega)
      · rw [H.2 2 ht] at h; exact absurd h (by decide)
  rw [← endV_iff]
  unfold etP
  rw [K2]
  have e0 := fun q hq => propext (I 0 (by omega) q hq)
  have e1 := fun q hq => propext (I 1 (by omega) q hq)
  have e2 := fun q hq => propext (I 2 (by omega) q hq)
  have r : ∀ (a b c d e f g h i j k : Prop) (a' b' c' d' e' f' g' h' i' j' : Prop), a = a' → b = b' → c = c' → d = d' → e = e' → f = f' → g = g' → h = h' → i = i' → j = j' → (EPd a b c d e f g h i j k ↔ EPd a' b' c' d' e' f' g' h' i' j' k) := by
    intros; subst_vars; exact Iff.rfl
  exact r _ _ _ _ _ _ _ _ _ _ _ _ _ _ _ _ _ _ _ _ _ (e0 0 (by omega)) (e1 5 (by omega)) (e0 1 (by omega)) (e0 2 (by omega)) (e0 3 (by omega)) (e1 6 (by omega)) (e1 7 (by omega)) (e1 8 (by omega)) (e2 6 (by omega)) (e0 4 (by omega))
theorem endV_of {P : Prop} {le c0 c1 c2 : Int32} (h : P ↔ endV c0 c1 c2 = 1) (q : (P ∧ le = 1) ∨ (¬ P ∧ le = 0)) : le = endV c0 c1 c2 := by
  rcases q with ⟨h1, h2⟩ | ⟨h1, h2⟩
  · rw [h2]; exact (h.mp h1).symm
  · rcases endV_01 c0 c1 c2 with z | z
    · rw [h2, z]
    · exact absurd (h.mpr z) h1
/-- the loop of read() stands at T: at a, tk tokens of codes cv read, le and eb found; kc cells and ks slots used -/
def LH (C : Cx) (T : State) (a tk : Nat) (le eb : Int32) (cv : Nat → Int32) (kc ks : Nat) : Prop :=
  ∃ (vm : Vm) (locs : List Loc) (k : Nat) (kv : Nat → Addr) (sv ev : Nat → Nat), Stand C.p C.ln C.e (rM 8 160 80 4000) (C.s.setVm vm) C.m C.args C.below C.meth C.c T locs kc ks ∧ Fr C.n0 locs ∧ Keep C.h00 T.heap [C.r, C.ka, C.sa, C.ea] ∧ RS C.zs T.heap C.r C.o C.ka C.sa C.ea C.sc C.g a tk le eb kv sv ev ∧ C.s.Since vm k ∧ k ≤ T.heap.size ∧ C.zs.Warmed39 (C.s.setVm vm).vm ∧ (C.s.setVm vm).vm.findClass "com/example/killdeer/killdeer/EndingStatements" = some C.m.cls ∧ CHr C.zs EL1 C.s.vm C.h00 vm T.heap ∧ TC C.wv C.xv C.ov C.g tk kv sv ev cv
/-- where the reading stands -/
abbrev SI := Nat × Nat × Int32 × Int32 × (Nat → Int32)
/-- the run goes from pc0 (locals by F0) and A to pc1 and B, at the cost of dc cells and ds slots -/
def RN (C : Cx) (F0 : Array Slot → Prop) (pc0 : Nat) (A : SI) (F1 : Array Slot → Prop) (pc1 : Nat) (B : SI) (dc ds : Nat) : Prop :=
  ∀ (T : State) (L : Array Slot) (kc ks : Nat), F0 L → kc + dc ≤ 80 → ks + ds ≤ 4000 → LH C T A.1 A.2.1 A.2.2.1 A.2.2.2.1 A.2.2.2.2 kc ks →
    ∃ (T' : State) (L' : Array Slot) (kc' ks' : Nat), F1 L' ∧ kc' ≤ kc + dc ∧ ks' ≤ ks + ds ∧ LH C T' B.1 B.2.1 B.2.2.1 B.2.2.2.1 B.2.2.2.2 kc' ks' ∧ ∀ target, Steps C.p.tables C.e C.below (T'.setTop (mkF C.m pc1 L' [])) target → Steps C.p.tables C.e C.below (T.setTop (mkF C.m pc0 L [])) target
theorem RN.refl {C : Cx} {F : Array Slot → Prop} {pc : Nat} {A : SI} : RN C F pc A F pc A 0 0 := fun T L kc ks hL _ _ H => ⟨T, L, kc, ks, hL, Nat.le_refl _, Nat.le_refl _, H, fun _ k => k⟩
theorem RN.trans {C : Cx} {F0 F1 F2 : Array Slot → Prop} {p0 p1 p2 : Nat} {A B D : SI} {d1 d2 s1 s2 : Nat} (h1 : RN C F0 p0 A F1 p1 B d1 s1) (h2 : RN C F1 p1 B F2 p2 D d2 s2) : RN C F0 p0 A F2 p2 D (d1 + d2) (s1 + s2) := fun T L kc ks hL hk hs H => by
  obtain ⟨T1, L1, k1, n1, f1, a1, b1, H1, st1⟩ := h1 T L kc ks hL (by omega) (by omega) H
  obtain ⟨T2, L2, k2, n2, f2, a2, b2, H2, st2⟩ := h2 T1 L1 k1 n1 f1 (by omega) (by omega) H1
  exact ⟨T2, L2, k2, n2, f2, by omega, by omega, H2, fun target kt => st1 target (st2 target kt)⟩
theorem RN.mono {C : Cx} {F0 F1 : Array Slot → Prop} {p0 p1 : Nat} {A B : SI} {d1 d2 s1 s2 : Nat} (h1 : RN C F0 p0 A F1 p1 B d1 s1) (hd : d1 ≤ d2) (hs : s1 ≤ s2) : RN C F0 p0 A F1 p1 B d2 s2 := fun T L kc ks hL hk hs' H => by
  obtain ⟨T1, L1, k1, n1, f1, a1, b1, H1, st1⟩ := h1 T L kc ks hL (by omega) (by omega) H
  exact ⟨T1, L1, k1, n1, f1, by omega, by omega, H1, st1⟩
def GS (q : Slot) : Prop := q = .unset ∨ ∃ x : Int32, q = .val (.int x)
def GL (r : Addr) (L : Array Slot) : Prop := ∃ q1 q2 q3, L = #[vR r, q1, q2, q3] ∧ GS q1 ∧ GS q2 ∧ GS q3
def GM (r : Addr) (x : Int32) (L : Array Slot) : Prop := ∃ q2 q3, L = #[vR r, vI x, q2, q3] ∧ GS q2 ∧ GS q3

theorem rdCH (C : Cx) (H : CxOk C) (a tk : Nat) (le eb : Int32) (cv : Nat → Int32) (ha : a < 56) : RN C (GL C.r) 0 ⟨a, tk, le, eb, cv⟩ (GM C.r (C.g a)) 26 ⟨a, tk, le, eb, cv⟩ 0 0 := by
  obtain ⟨p, l, e, s, m, args, below, meth, c, Z, a0, n0, h00, r, o, ka, sa, ea, wv, xv, ov, sc, g⟩ := C
  obtain ⟨hx, hw, hby, hml, hEL, SK, hgB, hWD, hXD, hPD, YW, YX, YO, hxw, how, hox, g_r, g_ka, g_sa, g_ea, O0, Z00, hwS⟩ := H
  unfold RN LH
  dsimp only [Cx.p, Cx.ln, Cx.e, Cx.s, Cx.m, Cx.args, Cx.below, Cx.meth, Cx.c, Cx.zs, Cx.az, Cx.n0, Cx.h00, Cx.r, Cx.o, Cx.ka, Cx.sa, Cx.ea, Cx.wv, Cx.xv, Cx.ov, Cx.sc, Cx.g] at *
  intro T L kc ks hL hkc hks HL
  obtain ⟨q1, q2, q3, rfl, g1, g2, g3⟩ := hL
  obtain ⟨vm0, locs, k0, kv, sv, ev, X0, N0, K0, RS0, hS0, hk0, hZ, hown, CR0, TC0⟩ := HL
  have O := O0.keep K0 (all4 g_r g_ka g_sa g_ea)
  have hD := dk hby d21
  have Z0 := Nat.le_trans Z00 K0.1
  obtain ⟨T285, X285, e285, st285⟩ := zF X0 hx hZ hown (hwi hw 112 rfl) rfl RS0.2.1.1 1 #[vR r, q1, q2, q3] [] (hD 1 rfl)
  obtain ⟨T286, X286, e286, st286⟩ := zF X285 hx hZ hown (hwi hw 104 rfl) e285 RS0.1.2.1 5 #[vR r, q1, q2, q3] [(.int (iN a))] (hD 3 rfl)
  obtain ⟨T287, L287, X287, e287, N287, st287⟩ := vLEN X286 hx hZ hown e286 N0 hw (hwi hw 114 rfl) Z0 (by decide) O SK RS0.1.2.2.2.2.2.2 8 #[vR r, q1, q2, q3] [(.int (iN a))] hml (hD 4 rfl) 1 (hr := by (try dsimp only [rM, Pt.cells, Pt.slots]); omega)
  obtain ⟨T288, X288, e288, st288⟩ := zF X287 hx hZ hown (hwi hw 104 rfl) e287 RS0.1.2.1 15 #[vR r, q1, q2, q3] [] (hD 7 rfl)
  obtain ⟨T289, X289, e289, st289⟩ := zF X288 hx hZ hown (hwi hw 112 rfl) e288 RS0.2.1.1 19 #[vR r, q1, q2, q3] [(.ref o)] (hD 9 rfl)
  obtain ⟨T290, L290, X290, e290, N290, st290⟩ := vCA X289 hx hZ hown e289 N287 hw (hwi hw 115 rfl) Z0 (by decide) a (iN a) (by omega) O SK RS0.1.2.2.2.2.2.2 (hgB _) 22 #[vR r, q1, q2, q3] [] hml (hD 10 rfl) 0 (hr := by (try dsimp only [rM, Pt.cells, Pt.slots]); omega)
  refine ⟨_, #[vR r, vI (g a), q2, q3], _, _, ⟨_, _, rfl, g2, g3⟩, ?_, ?_, ⟨vm0, _, _, _, _, _, X290, N290, by rw [e290]; exact K0, by rw [e290]; exact RS0, hS0, (by rw [e290]; exact hk0), hZ, hown, by rw [e290]; exact CR0, TC0⟩, fun target kt => ?_⟩
  · (try dsimp only [rM]); omega
  · (try dsimp only [rM]); omega
  · show Steps p.tables e below (T.setTop (mkF m 0 #[vR r, q1, q2, q3] [])) target
    refine zA X0 hx (hD 0 rfl) rfl rfl ?_
    refine st285 _ ?_
    refine zA X285 hx (hD 2 rfl) rfl rfl ?_
    refine st286 _ ?_
    refine st287 _ ?_
    refine zN X287 hx (hD 5 rfl) (tlt ((ltN (by omega) (by decide)).mpr ha)).2.1 ?_
    refine zA X287 hx (hD 6 rfl) rfl rfl ?_
    refine st288 _ ?_
    refine zA X288 hx (hD 8 rfl) rfl rfl ?_
    refine st289 _ ?_
    refine st290 _ ?_
    refine zS X290 hx (hD 11 rfl) (L' := #[vR r, vI (g a), q2, q3]) (by rcases g1 with rfl | ⟨_, rfl⟩ <;> rcases g2 with rfl | ⟨_, rfl⟩ <;> rcases g3 with rfl | ⟨_, rfl⟩ <;> rfl) ?_
    exact kt
theorem rdPREx (C : Cx) (H : CxOk C) (a tk : Nat) (le eb : Int32) (cv : Nat → Int32) (ha54 : a ≤ 54) (n59 : ¬ (C.g a = 59)) (nsp : f_sp (C.g a) = 0) (n45 : ¬ (C.g a = 45)) (n47 : ¬ (C.g a = 47)) : RN C (GM C.r (C.g a)) 26 ⟨a, tk, le, eb, cv⟩ (GM C.r (C.g a)) 130 ⟨a, tk, le, eb, cv⟩ 4 24 := by
  obtain ⟨p, l, e, s, m, args, below, meth, c, Z, a0, n0, h00, r, o, ka, sa, ea, wv, xv, ov, sc, g⟩ := C
  obtain ⟨hx, hw, hby, hml, hEL, SK, hgB, hWD, hXD, hPD, YW, YX, YO, hxw, how, hox, g_r, g_ka, g_sa, g_ea, O0, Z00, hwS⟩ := H
  unfold RN LH
  dsimp only [Cx.p, Cx.ln, Cx.e, Cx.s, Cx.m, Cx.args, Cx.below, Cx.meth, Cx.c, Cx.zs, Cx.az, Cx.n0, Cx.h00, Cx.r, Cx.o, Cx.ka, Cx.sa, Cx.ea, Cx.wv, Cx.xv, Cx.ov, Cx.sc, Cx.g] at *
  intro T L kc ks hL hkc hks HL
  obtain ⟨q2, q3, rfl, g2, g3⟩ := hL
  obtain ⟨vm0, locs, k0, kv, sv, ev, X0, N0, K0, RS0, hS0, hk0, hZ, hown, CR0, TC0⟩ := HL
  have O := O0.keep K0 (all4 g_r g_ka g_sa g_ea)
  have hD := dk hby d21
  have Z0 := Nat.le_trans Z00 K0.1
  have ha : a < 56 := by omega
  obtain ⟨T291, L291, X291, e291, N291, st291⟩ := zT X0 hx hZ hown rfl N0 (hwi hw 116 rfl) (hwi hw 117 rfl) (hwi hw 88 rfl) (hwi hw 118 rfl) (rm_sp l Z a0 hw [] (g a) T.heap n0 Z0 ) 57 #[vR r, vI (g a), q2, q3] [(.int (g a))] hml pd_18 (hD 28 rfl) 0 (hr := by (try dsimp only [rM, Pt.cells, Pt.slots]); omega)
  obtain ⟨T292, X292, e292, st292⟩ := zF X291 hx hZ hown (hwi hw 104 rfl) e291 RS0.1.2.1 77 #[vR r, vI (g a), q2, q3] [] (hD 38 rfl)
  obtain ⟨a293, T293, h293, k293, X293, e293, E293, hS293, hk293, hZ293, hown293, S293, C293, st293⟩ := cLDC (s := s) (vm0 := vm0) (EL := EL1) X292 hx hZ hown (hwi hw 119 rfl) hwS e292 hS0 hk0 hEL (List.mem_of_getElem? (i := 0) rfl) CR0.1 kl78 (n := 2) (q := 8) (by decide +kernel) (g := (mkF m 80 #[vR r, vI (g a), q2, q3] [(.ref o)])) rfl (hD 39 rfl) (by (try dsimp only [rM, Pt.cells, Pt.slots]); omega) (by (try dsimp only [rM, Pt.cells, Pt.slots]); omega)
  have O293 := O.ext E293
  have K293 := K0.ext E293
  have Z293 := Nat.le_trans Z0 E293.1
  have CR293 := CR0.trans C293
  have R293 := RS0.ext E293
  have F293 := id E293
  obtain ⟨T294, X294, e294, st294⟩ := zF X293 hx hZ293 hown293 (hwi hw 112 rfl) e293 R293.2.1.1 83 #[vR r, vI (g a), q2, q3] [(.ref a293), (.ref o)] (hD 41 rfl)
  have EY294 := R293.1.2.2.2.2.2.2.1
  obtain ⟨T295, L295, X295, e295, N295, st295⟩ := zV X294 hx hZ293 hown293 e294 EY294 N291 (hwi hw 120 rfl) (hwi hw 121 rfl) (hwi hw 123 rfl) (hwi hw 122 rfl) (hwi hw 124 rfl) (hwi hw 9 rfl) (rmSWv l Z a0 hw [] o a293 a g (gl kl78) (0 : Int32) h293 n0 Z293 (by omega) O293 SK hgB (glB (by decide +kernel : ∀ x ∈ kl78, 0 ≤ x.toInt ∧ x.toInt < 256)) R293.1.2.2.2.2.2.2 S293 (swN0 n45)) 86 #[vR r, vI (g a), q2, q3] [(.int (iN a)), (.ref a293), (.ref o)] hml pd_19 (hD 42 rfl) 0 (hr := by (try dsimp only [rM, Pt.cells, Pt.slots]); omega)
  obtain ⟨T296, X296, e296, st296⟩ := zF X295 hx hZ293 hown293 (hwi hw 104 rfl) e295 R293.1.2.1 104 #[vR r, vI (g a), q2, q3] [] (hD 50 rfl)
  obtain ⟨a297, T297, h297, k297, X297, e297, E297, hS297, hk297, hZ297, hown297, S297, C297, st297⟩ := cLDC (s := s) (vm0 := T293.vm) (EL := EL1) X296 hx hZ293 hown293 (hwi hw 130 rfl) hwS e296 hS293 hk293 hEL (List.mem_of_getElem? (i := 1) rfl) C293.1 kl87 (n := 2) (q := 8) (by decide +kernel) (g := (mkF m 107 #[vR r, vI (g a), q2, q3] [(.ref o)])) rfl (hD 51 rfl) (by (try dsimp only [rM, Pt.cells, Pt.slots]); omega) (by (try dsimp only [rM, Pt.cells, Pt.slots]); omega)
  have O297 := O293.ext E297
  have K297 := K293.ext E297
  have Z297 := Nat.le_trans Z293 E297.1
  have CR297 := CR293.trans C297
  have R297 := R293.ext E297
  have F297 := extT F293 E297
  obtain ⟨T298, X298, e298, st298⟩ := zF X297 hx hZ297 hown297 (hwi hw 112 rfl) e297 R297.2.1.1 110 #[vR r, vI (g a), q2, q3] [(.ref a297), (.ref o)] (hD 53 rfl)
  have EY298 := R297.1.2.2.2.2.2.2.1
  obtain ⟨T299, L299, X299, e299, N299, st299⟩ := zV X298 hx hZ297 hown297 e298 EY298 N295 (hwi hw 120 rfl) (hwi hw 121 rfl) (hwi hw 123 rfl) (hwi hw 122 rfl) (hwi hw 124 rfl) (hwi hw 9 rfl) (rmSWv l Z a0 hw [] o a297 a g (gl kl87) (0 : Int32) h297 n0 Z297 (by omega) O297 SK hgB (glB (by decide +kernel : ∀ x ∈ kl87, 0 ≤ x.toInt ∧ x.toInt < 256)) R297.1.2.2.2.2.2.2 S297 (swN0 n47)) 113 #[vR r, vI (g a), q2, q3] [(.int (iN a)), (.ref a297), (.ref o)] hml pd_19 (hD 54 rfl) 0 (hr := by (try dsimp only [rM, Pt.cells, Pt.slots]); omega)
  refine ⟨_, #[vR r, vI (g a), q2, q3], _, _, ⟨_, _, rfl, g2, g3⟩, ?_, ?_, ⟨T297.vm, _, _, _, _, _, X299, N299, by rw [e299]; exact K297, by rw [e299]; exact R297, hS297, (by rw [e299]; exact hk297), hZ297, hown297, by rw [e299]; exact CR297, TC0⟩, fun target kt => ?_⟩
  · (try dsimp only [rM]); omega
  · (try dsimp only [rM]); omega
  · show Steps p.tables e below (T.setTop (mkF m 26 #[vR r, vI (g a), q2, q3] [])) target
    refine zL X0 hx (hD 12 rfl) rfl ?_
    refine zB X0 hx (hD 13 rfl) ?_
    refine zM X0 hx 56 (hD 14 rfl) (feq n59).2 rfl ?_
    refine zL X0 hx (hD 27 rfl) rfl ?_
    refine st291 _ ?_
    refine zI X291 hx 76 (hD 29 rfl) ((if0 _ _).trans (teq nsp).1) rfl ?_
    refine zA X291 hx (hD 37 rfl) rfl rfl ?_
    refine st292 _ ?_
    refine st293 _ ?_
    refine zA X293 hx (hD 40 rfl) rfl rfl ?_
    refine st294 _ ?_
    refine st295 _ ?_
    refine zI X295 hx 103 (hD 43 rfl) ((if0 _ _).trans (teq (rfl : (0 : Int32) = 0)).1) rfl ?_
    refine zA X295 hx (hD 49 rfl) rfl rfl ?_
    refine st296 _ ?_
    refine st297 _ ?_
    refine zA X297 hx (hD 52 rfl) rfl rfl ?_
    refine st298 _ ?_
    refine st299 _ ?_
    refine zI X299 hx 130 (hD 55 rfl) ((if0 _ _).trans (teq (rfl : (0 : Int32) = 0)).1) rfl ?_
    exact kt
theorem rdPRE (C : Cx) (H : CxOk C) (a tk : Nat) (le eb : Int32) (cv : Nat → Int32) (ha54 : a ≤ 54) (n59 : ¬ (C.g a = 59)) (nsp : f_sp (C.g a) = 0) (n45 : ¬ (C.g a = 45)) (n47 : ¬ (C.g a = 47)) : RN C (GL C.r) 0 ⟨a, tk, le, eb, cv⟩ (GM C.r (C.g a)) 130 ⟨a, tk, le, eb, cv⟩ 4 24 :=
  ((rdCH C H a tk le eb cv (by omega)).trans (rdPREx C H a tk le eb cv ha54 n59 nsp n45 n47)).mono (by decide) (by decide)
theorem rdSPx (C : Cx) (H : CxOk C) (a tk : Nat) (le eb : Int32) (cv : Nat → Int32) (ha : a < 56) (n59 : ¬ (C.g a = 59)) (hsp : ¬ (f_sp (C.g a) = 0)) : RN C (GM C.r (C.g a)) 26 ⟨a, tk, le, eb, cv⟩ (GL C.r) 0 ⟨a + 1, tk, le, eb, cv⟩ 0 0 := by
  obtain ⟨p, l, e, s, m, args, below, meth, c, Z, a0, n0, h00, r, o, ka, sa, ea, wv, xv, ov, sc, g⟩ := C
  obtain ⟨hx, hw, hby, hml, hEL, SK, hgB, hWD, hXD, hPD, YW, YX, YO, hxw, how, hox, g_r, g_ka, g_sa, g_ea, O0, Z00, hwS⟩ := H
  unfold RN LH
  dsimp only [Cx.p, Cx.ln, Cx.e, Cx.s, Cx.m, Cx.args, Cx.below, Cx.meth, Cx.c, Cx.zs, Cx.az, Cx.n0, Cx.h00, Cx.r, Cx.o, Cx.ka, Cx.sa, Cx.ea, Cx.wv, Cx.xv, Cx.ov, Cx.sc, Cx.g] at *
  intro T L kc ks hL hkc hks HL
  obtain ⟨q2, q3, rfl, g2, g3⟩ := hL
  obtain ⟨vm0, locs, k0, kv, sv, ev, X0, N0, K0, RS0, hS0, hk0, hZ, hown, CR0, TC0⟩ := HL
  have O := O0.keep K0 (all4 g_r g_ka g_sa g_ea)
  have hD := dk hby d21
  have Z0 := Nat.le_trans Z00 K0.1
  obtain ⟨T300, L300, X300, e300, N300, st300⟩ := zT X0 hx hZ hown rfl N0 (hwi hw 116 rfl) (hwi hw 117 rfl) (hwi hw 88 rfl) (hwi hw 118 rfl) (rm_sp l Z a0 hw [] (g a) T.heap n0 Z0 ) 57 #[vR r, vI (g a), q2, q3] [(.int (g a))] hml pd_18 (hD 28 rfl) 0 (hr := by (try dsimp only [rM, Pt.cells, Pt.slots]); omega)
  obtain ⟨T301, X301, e301, st301⟩ := zF X300 hx hZ hown (hwi hw 112 rfl) e300 RS0.2.1.1 65 #[vR r, vI (g a), q2, q3] [(.ref r)] (hD 32 rfl)
  obtain ⟨T302, h302, X302, e302, W302, st302⟩ := putF X301 hx hZ hown (host := "") (Or.inl (hwi hw 112 rfl)) Via.refl e301 RS0.2.1.1 RS0.1.1 (Or.inl (hwi hw 113 rfl)) (hwi hw 91 rfl) (ty := .int) (by decide) rfl rfl (g := (mkF m 70 #[vR r, vI (g a), q2, q3] [(.int (iN (a + 1))), (.ref r)])) rfl rfl (hD 35 rfl)
  have R302 := RS0.w_at (a' := (a + 1)) hw W302
  have N302 := Fr.snoc X302 N300 g_r
  have K302 := K0.wr W302 (Or.inl (List.mem_of_getElem? (i := 0) rfl))
  have Z302 := Nat.le_trans Z0 (Keep.of_wr W302).1
  have CR302 := CR0.trans (CHr.wr W302 (Safe.exa hZ.alike RS0.1.1 (by decide) (by decide)) CR0.1)
  have hk302 := Nat.le_trans hk0 (Keep.of_wr W302).1
  have O302 := O.wr W302 g_r
  refine ⟨_, #[vR r, vI (g a), q2, q3], _, _, ⟨_, _, _, rfl, Or.inr ⟨_, rfl⟩, g2, g3⟩, ?_, ?_, ⟨vm0, _, _, _, _, _, X302, N302, by rw [e302]; exact K302, by rw [e302]; exact R302, hS0, (by rw [e302]; exact hk302), hZ, hown, by rw [e302]; exact CR302, TC0⟩, fun target kt => ?_⟩
  · (try dsimp only [rM]); omega
  · (try dsimp only [rM]); omega
  · show Steps p.tables e below (T.setTop (mkF m 26 #[vR r, vI (g a), q2, q3] [])) target
    refine zL X0 hx (hD 12 rfl) rfl ?_
    refine zB X0 hx (hD 13 rfl) ?_
    refine zM X0 hx 56 (hD 14 rfl) (feq n59).2 rfl ?_
    refine zL X0 hx (hD 27 rfl) rfl ?_
    refine st300 _ ?_
    refine zJ X300 hx (hD 29 rfl) ((if0 _ _).trans (feq hsp).1) ?_
    refine zA X300 hx (hD 30 rfl) rfl rfl ?_
    refine zD X300 hx (hD 31 rfl) ?_
    refine st301 _ ?_
    refine zC X301 hx (hD 33 rfl) ?_
    refine zPl X301 hx (hD 34 rfl) (z := (iN (a + 1))) (succN _) ?_
    refine st302 _ ?_
    refine zG X302 hx 349 (hD 36 rfl) rfl ?_
    refine zG X302 hx 0 (hD 168 rfl) rfl ?_
    exact kt
theorem rdSP (C : Cx) (H : CxOk C) (a tk : Nat) (le eb : Int32) (cv : Nat → Int32) (ha : a < 56) (n59 : ¬ (C.g a = 59)) (hsp : ¬ (f_sp (C.g a) = 0)) : RN C (GL C.r) 0 ⟨a, tk, le, eb, cv⟩ (GL C.r) 0 ⟨a + 1, tk, le, eb, cv⟩ 0 0 :=
  ((rdCH C H a tk le eb cv ha).trans (rdSPx C H a tk le eb cv ha n59 hsp)).mono (by decide) (by decide)
theorem rdSCx (C : Cx) (H : CxOk C) (a tk : Nat) (le eb : Int32) (cv : Nat → Int32) (ha : a < 56) (h59 : C.g a = 59) : RN C (GM C.r (C.g a)) 26 ⟨a, tk, le, eb, cv⟩ (GL C.r) 49 ⟨a + 1, tk, le, eb, cv⟩ 0 0 := by
  obtain ⟨p, l, e, s, m, args, below, meth, c, Z, a0, n0, h00, r, o, ka, sa, ea, wv, xv, ov, sc, g⟩ := C
  obtain ⟨hx, hw, hby, hml, hEL, SK, hgB, hWD, hXD, hPD, YW, YX, YO, hxw, how, hox, g_r, g_ka, g_sa, g_ea, O0, Z00, hwS⟩ := H
  unfold RN LH
  dsimp only [Cx.p, Cx.ln, Cx.e, Cx.s, Cx.m, Cx.args, Cx.below, Cx.meth, Cx.c, Cx.zs, Cx.az, Cx.n0, Cx.h00, Cx.r, Cx.o, Cx.ka, Cx.sa, Cx.ea, Cx.wv, Cx.xv, Cx.ov, Cx.sc, Cx.g] at *
  intro T L kc ks hL hkc hks HL
  obtain ⟨q2, q3, rfl, g2, g3⟩ := hL
  obtain ⟨vm0, locs, k0, kv, sv, ev, X0, N0, K0, RS0, hS0, hk0, hZ, hown, CR0, TC0⟩ := HL
  have O := O0.keep K0 (all4 g_r g_ka g_sa g_ea)
  have hD := dk hby d21
  have Z0 := Nat.le_trans Z00 K0.1
  obtain ⟨T303, X303, e303, st303⟩ := zF X0 hx hZ hown (hwi hw 157 rfl) rfl RS0.2.1.2.2.2.1 33 #[vR r, vI (g a), q2, q3] [] (hD 16 rfl)
  obtain ⟨T304, X304, e304, st304⟩ := zF X303 hx hZ hown (hwi hw 112 rfl) e303 RS0.2.1.1 41 #[vR r, vI (g a), q2, q3] [(.ref r)] (hD 20 rfl)
  obtain ⟨T305, h305, X305, e305, W305, st305⟩ := putF X304 hx hZ hown (host := "") (Or.inl (hwi hw 112 rfl)) Via.refl e304 RS0.2.1.1 RS0.1.1 (Or.inl (hwi hw 113 rfl)) (hwi hw 91 rfl) (ty := .int) (by decide) rfl rfl (g := (mkF m 46 #[vR r, vI (g a), q2, q3] [(.int (iN (a + 1))), (.ref r)])) rfl rfl (hD 23 rfl)
  have R305 := RS0.w_at (a' := (a + 1)) hw W305
  have N305 := Fr.snoc X305 N0 g_r
  have K305 := K0.wr W305 (Or.inl (List.mem_of_getElem? (i := 0) rfl))
  have Z305 := Nat.le_trans Z0 (Keep.of_wr W305).1
  have CR305 := CR0.trans (CHr.wr W305 (Safe.exa hZ.alike RS0.1.1 (by decide) (by decide)) CR0.1)
  have hk305 := Nat.le_trans hk0 (Keep.of_wr W305).1
  have O305 := O.wr W305 g_r
  refine ⟨_, #[vR r, vI (g a), q2, q3], _, _, ⟨_, _, _, rfl, Or.inr ⟨_, rfl⟩, g2, g3⟩, ?_, ?_, ⟨vm0, _, _, _, _, _, X305, N305, by rw [e305]; exact K305, by rw [e305]; exact R305, hS0, (by rw [e305]; exact hk305), hZ, hown, by rw [e305]; exact CR305, TC0⟩, fun target kt => ?_⟩
  · (try dsimp only [rM]); omega
  · (try dsimp only [rM]); omega
  · show Steps p.tables e below (T.setTop (mkF m 26 #[vR r, vI (g a), q2, q3] [])) target
    refine zL X0 hx (hD 12 rfl) rfl ?_
    refine zB X0 hx (hD 13 rfl) ?_
    refine zN X0 hx (hD 14 rfl) (teq h59).2 ?_
    refine zA X0 hx (hD 15 rfl) rfl rfl ?_
    refine st303 _ ?_
    refine zJ X303 hx (hD 17 rfl) ((if0 _ _).trans (teq (rfl : (0 : Int32) = 0)).2) ?_
    refine zA X303 hx (hD 18 rfl) rfl rfl ?_
    refine zD X303 hx (hD 19 rfl) ?_
    refine st304 _ ?_
    refine zC X304 hx (hD 21 rfl) ?_
    refine zPl X304 hx (hD 22 rfl) (z := (iN (a + 1))) (succN _) ?_
    refine st305 _ ?_
    exact kt
theorem rdSC (C : Cx) (H : CxOk C) (a tk : Nat) (le eb : Int32) (cv : Nat → Int32) (ha : a < 56) (h59 : C.g a = 59) : RN C (GL C.r) 0 ⟨a, tk, le, eb, cv⟩ (GL C.r) 49 ⟨a + 1, tk, le, eb, cv⟩ 0 0 :=
  ((rdCH C H a tk le eb cv ha).trans (rdSCx C H a tk le eb cv ha h59)).mono (by decide) (by decide)
theorem rdGO (C : Cx) (H : CxOk C) (a tk : Nat) (le eb : Int32) (cv : Nat → Int32)  : RN C (GL C.r) 53 ⟨a, tk, le, eb, cv⟩ (GL C.r) 0 ⟨a, tk, le, eb, cv⟩ 0 0 := by
  obtain ⟨p, l, e, s, m, args, below, meth, c, Z, a0, n0, h00, r, o, ka, sa, ea, wv, xv, ov, sc, g⟩ := C
  obtain ⟨hx, hw, hby, hml, hEL, SK, hgB, hWD, hXD, hPD, YW, YX, YO, hxw, how, hox, g_r, g_ka, g_sa, g_ea, O0, Z00, hwS⟩ := H
  unfold RN LH
  dsimp only [Cx.p, Cx.ln, Cx.e, Cx.s, Cx.m, Cx.args, Cx.below, Cx.meth, Cx.c, Cx.zs, Cx.az, Cx.n0, Cx.h00, Cx.r, Cx.o, Cx.ka, Cx.sa, Cx.ea, Cx.wv, Cx.xv, Cx.ov, Cx.sc, Cx.g] at *
  intro T L kc ks hL hkc hks HL
  obtain ⟨q1, q2, q3, rfl, g1, g2, g3⟩ := hL
  obtain ⟨vm0, locs, k0, kv, sv, ev, X0, N0, K0, RS0, hS0, hk0, hZ, hown, CR0, TC0⟩ := HL
  have O := O0.keep K0 (all4 g_r g_ka g_sa g_ea)
  have Z0 := Nat.le_trans Z00 K0.1
  refine ⟨_, #[vR r, q1, q2, q3], _, _, ⟨_, _, _, rfl, g1, g2, g3⟩, ?_, ?_, ⟨vm0, _, _, _, _, _, X0, N0, K0, RS0, hS0, (by exact hk0), hZ, hown, CR0, TC0⟩, fun target kt => ?_⟩
  · (try dsimp only [rM]); omega
  · (try dsimp only [rM]); omega
  · show Steps p.tables e below (T.setTop (mkF m 53 #[vR r, q1, q2, q3] [])) target
    refine zG X0 hx 349 (dk hby d21 26 rfl) rfl ?_
    refine zG X0 hx 0 (dk hby d21 168 rfl) rfl ?_
    exact kt
theorem rdEN (C : Cx) (H : CxOk C) (tk : Nat) (le eb : Int32) (cv : Nat → Int32)  : RN C (GL C.r) 0 ⟨56, tk, le, eb, cv⟩ (GL C.r) 352 ⟨56, tk, le, eb, cv⟩ 0 0 := by
  obtain ⟨p, l, e, s, m, args, below, meth, c, Z, a0, n0, h00, r, o, ka, sa, ea, wv, xv, ov, sc, g⟩ := C
  obtain ⟨hx, hw, hby, hml, hEL, SK, hgB, hWD, hXD, hPD, YW, YX, YO, hxw, how, hox, g_r, g_ka, g_sa, g_ea, O0, Z00, hwS⟩ := H
  unfold RN LH
  dsimp only [Cx.p, Cx.ln, Cx.e, Cx.s, Cx.m, Cx.args, Cx.below, Cx.meth, Cx.c, Cx.zs, Cx.az, Cx.n0, Cx.h00, Cx.r, Cx.o, Cx.ka, Cx.sa, Cx.ea, Cx.wv, Cx.xv, Cx.ov, Cx.sc, Cx.g] at *
  intro T L kc ks hL hkc hks HL
  obtain ⟨q1, q2, q3, rfl, g1, g2, g3⟩ := hL
  obtain ⟨vm0, locs, k0, kv, sv, ev, X0, N0, K0, RS0, hS0, hk0, hZ, hown, CR0, TC0⟩ := HL
  have O := O0.keep K0 (all4 g_r g_ka g_sa g_ea)
  have hD := dk hby d21
  have Z0 := Nat.le_trans Z00 K0.1
  obtain ⟨T306, X306, e306, st306⟩ := zF X0 hx hZ hown (hwi hw 112 rfl) rfl RS0.2.1.1 1 #[vR r, q1, q2, q3] [] (hD 1 rfl)
  obtain ⟨T307, X307, e307, st307⟩ := zF X306 hx hZ hown (hwi hw 104 rfl) e306 RS0.1.2.1 5 #[vR r, q1, q2, q3] [(.int (iN 56))] (hD 3 rfl)
  obtain ⟨T308, L308, X308, e308, N308, st308⟩ := vLEN X307 hx hZ hown e307 N0 hw (hwi hw 114 rfl) Z0 (by decide) O SK RS0.1.2.2.2.2.2.2 8 #[vR r, q1, q2, q3] [(.int (iN 56))] hml (hD 4 rfl) 1 (hr := by (try dsimp only [rM, Pt.cells, Pt.slots]); omega)
  refine ⟨_, #[vR r, q1, q2, q3], _, _, ⟨_, _, _, rfl, g1, g2, g3⟩, ?_, ?_, ⟨vm0, _, _, _, _, _, X308, N308, by rw [e308]; exact K0, by rw [e308]; exact RS0, hS0, (by rw [e308]; exact hk0), hZ, hown, by rw [e308]; exact CR0, TC0⟩, fun target kt => ?_⟩
  · (try dsimp only [rM]); omega
  · (try dsimp only [rM]); omega
  · show Steps p.tables e below (T.setTop (mkF m 0 #[vR r, q1, q2, q3] [])) target
    refine zA X0 hx (hD 0 rfl) rfl rfl ?_
    refine st306 _ ?_
    refine zA X306 hx (hD 2 rfl) rfl rfl ?_
    refine st307 _ ?_
    refine st308 _ ?_
    refine zM X308 hx 352 (hD 5 rfl) (flt (fun q => absurd ((ltN (by decide) (by decide)).mp q) (by decide))).2.1 rfl ?_
    exact kt
theorem rdES0 (C : Cx) (H : CxOk C) (a tk : Nat) (le eb : Int32) (cv : Nat → Int32) (pc : Nat) (hd0 : decode C.c.code pc = .ok (.aload_n 0, 1)) (hd1 : decode C.c.code (pc + 1) = .ok (.invokevirtual 71, 3)) : RN C (GL C.r) pc ⟨a, 0, le, eb, cv⟩ (GL C.r) (pc + 4) ⟨a, 0, le, eb, fun _ => -1⟩ 0 0 := by
  obtain ⟨p, l, e, s, m, args, below, meth, c, Z, a0, n0, h00, r, o, ka, sa, ea, wv, xv, ov, sc, g⟩ := C
  obtain ⟨hx, hw, hby, hml, hEL, SK, hgB, hWD, hXD, hPD, YW, YX, YO, hxw, how, hox, g_r, g_ka, g_sa, g_ea, O0, Z00, hwS⟩ := H
  unfold RN LH
  dsimp only [Cx.p, Cx.ln, Cx.e, Cx.s, Cx.m, Cx.args, Cx.below, Cx.meth, Cx.c, Cx.zs, Cx.az, Cx.n0, Cx.h00, Cx.r, Cx.o, Cx.ka, Cx.sa, Cx.ea, Cx.wv, Cx.xv, Cx.ov, Cx.sc, Cx.g] at *
  intro T L kc ks hL hkc hks HL
  obtain ⟨q1, q2, q3, rfl, g1, g2, g3⟩ := hL
  obtain ⟨vm0, locs, k0, kv, sv, ev, X0, N0, K0, RS0, hS0, hk0, hZ, hown, CR0, TC0⟩ := HL
  have O := O0.keep K0 (all4 g_r g_ka g_sa g_ea)
  have Z0 := Nat.le_trans Z00 K0.1
  have ERe308 := RS0.1.1
  obtain ⟨cq309, kq309, q309a, q309b, q309c⟩ := isOf hZ rfl ERe308
  obtain ⟨_, _, ⟨T309, L309, k309, n309⟩, -, X309, hS2309, hg309, ⟨Lc309, hQ309, l309, y309, z309, C309⟩, st309⟩ := X0.virtualBackS hx hown (mvT hZ (hwi hw 166 rfl)) (mvT hZ (declOf (hwi hw 167 rfl) (hwi hw 169 rfl))) (notFace_of_selects (args := #[]) (mvT hZ (selOf (hwi hw 167 rfl) (hwi hw 168 rfl) (hwi hw 91 rfl) (by decide)))) (mvT hZ (selOf (hwi hw 167 rfl) (hwi hw 168 rfl) (hwi hw 91 rfl) (by decide))) (mvT hZ (hwi hw 167 rfl)) (by decide) (backOfSH (s := s) (vm0 := vm0) (EL := EL1) (W := 0) (rmES0 l Z a0 hw [] r o ka sa ea sc g a le eb kv sv ev T.heap n0 Z0 O SK hEL RS0 g_r) hZ (hwi hw 169 rfl) (hwi hw 88 rfl) (by decide) (by decide) hEL CR0.1) q309a q309c (g := (mkF m (pc + 1) #[vR r, q1, q2, q3] [(.ref r)])) rfl (by rw [hml]; rfl) (Steps.refl _) (argsL := []) (rest := []) (lenOf pd_12 rfl) rfl (by show 2 * 0 + _ ≤ _; exact Nat.le_of_eq rfl) hd1 (fun _ _ => ⟨rfl, rfl, (by (try dsimp only [rM, Pt.cells, Pt.slots]); omega), (by (try dsimp only [rM, Pt.cells, Pt.slots]); omega)⟩)
  dsimp only [Pt.U, Pt.locs, Pt.cells, Pt.slots] at X309 l309 y309 z309 st309 hQ309 hS2309 hg309 C309
  subst y309 z309
  obtain ⟨rfl, N309q, K309, le309, eb309, hle309, R309⟩ := hQ309
  have N309 : Fr n0 L309 := by rw [l309]; exact Fr.app N0 N309q
  have CR309 := CR0.trans C309
  have hS309 := foldS hS0 (by exact hk0) hS2309 hg309
  have hZ309 : Z.Warmed39 (s.setVm T309.vm).vm := State.Warmed39.trans hZ hS2309.1
  have hown309 := ownS (s := s) hS2309.1 hown
  obtain ⟨ql309, qe309⟩ := hle309
  rw [ql309, qe309] at R309
  have KK309 := K0.trans K309 (fun x z => by cases List.mem_singleton.mp z; exact Or.inl (List.mem_of_getElem? (i := 0) rfl))
  refine ⟨_, #[vR r, q1, q2, q3], _, _, ⟨_, _, _, rfl, g1, g2, g3⟩, ?_, ?_, ⟨T309.vm, _, _, _, _, _, X309, N309, KK309, R309, hS309, (by exact (Nat.le_refl _)), hZ309, hown309, CR309, TC.zero⟩, fun target kt => ?_⟩
  · (try dsimp only [rM]); omega
  · (try dsimp only [rM]); omega
  · show Steps p.tables e below (T.setTop (mkF m pc #[vR r, q1, q2, q3] [])) target
    refine XS.aloadN X0.here hx rfl hd0 rfl rfl ?_
    refine st309.trans ?_
    exact kt
theorem rdES1 (C : Cx) (H : CxOk C) (a tk : Nat) (le eb : Int32) (cv : Nat → Int32) (pc : Nat) (hd0 : decode C.c.code pc = .ok (.aload_n 0, 1)) (hd1 : decode C.c.code (pc + 1) = .ok (.invokevirtual 71, 3)) (hpos : 0 < tk) (htk : tk < 1000) : RN C (GL C.r) pc ⟨a, tk, 0, eb, cv⟩ (GL C.r) (pc + 4) ⟨a, 0, endV (cv 0) (cv 1) (cv 2), eb, fun _ => -1⟩ 18 400 := by
  obtain ⟨p, l, e, s, m, args, below, meth, c, Z, a0, n0, h00, r, o, ka, sa, ea, wv, xv, ov, sc, g⟩ := C
  obtain ⟨hx, hw, hby, hml, hEL, SK, hgB, hWD, hXD, hPD, YW, YX, YO, hxw, how, hox, g_r, g_ka, g_sa, g_ea, O0, Z00, hwS⟩ := H
  unfold RN LH
  dsimp only [Cx.p, Cx.ln, Cx.e, Cx.s, Cx.m, Cx.args, Cx.below, Cx.meth, Cx.c, Cx.zs, Cx.az, Cx.n0, Cx.h00, Cx.r, Cx.o, Cx.ka, Cx.sa, Cx.ea, Cx.wv, Cx.xv, Cx.ov, Cx.sc, Cx.g] at *
  intro T L kc ks hL hkc hks HL
  obtain ⟨q1, q2, q3, rfl, g1, g2, g3⟩ := hL
  obtain ⟨vm0, locs, k0, kv, sv, ev, X0, N0, K0, RS0, hS0, hk0, hZ, hown, CR0, TC0⟩ := HL
  have O := O0.keep K0 (all4 g_r g_ka g_sa g_ea)
  have Z0 := Nat.le_trans Z00 K0.1
  have ERe309 := RS0.1.1
  obtain ⟨cq310, kq310, q310a, q310b, q310c⟩ := isOf hZ rfl ERe309
  obtain ⟨_, _, ⟨T310, L310, k310, n310⟩, -, X310, hS2310, hg310, ⟨Lc310, hQ310, l310, y310, z310, C310⟩, st310⟩ := X0.virtualBackS hx hown (mvT hZ (hwi hw 166 rfl)) (mvT hZ (declOf (hwi hw 167 rfl) (hwi hw 169 rfl))) (notFace_of_selects (args := #[]) (mvT hZ (selOf (hwi hw 167 rfl) (hwi hw 168 rfl) (hwi hw 91 rfl) (by decide)))) (mvT hZ (selOf (hwi hw 167 rfl) (hwi hw 168 rfl) (hwi hw 91 rfl) (by decide))) (mvT hZ (hwi hw 167 rfl)) (by decide) (backOfSH (s := s) (vm0 := vm0) (EL := EL1) (W := 0) (rmES10 l Z a0 hw [] r o ka sa ea sc g a tk eb kv sv ev wv xv T.heap n0 Z0 hpos htk O SK hEL hgB hWD hXD RS0 g_r) hZ (hwi hw 169 rfl) (hwi hw 88 rfl) (by decide) (by decide) hEL CR0.1) q310a q310c (g := (mkF m (pc + 1) #[vR r, q1, q2, q3] [(.ref r)])) rfl (by rw [hml]; rfl) (Steps.refl _) (argsL := []) (rest := []) (lenOf pd_12 rfl) rfl (by show 2 * 0 + _ ≤ _; exact Nat.le_of_eq rfl) hd1 (fun _ _ => ⟨rfl, rfl, (by (try dsimp only [rM, Pt.cells, Pt.slots]); omega), (by (try dsimp only [rM, Pt.cells, Pt.slots]); omega)⟩)
  dsimp only [Pt.U, Pt.locs, Pt.cells, Pt.slots] at X310 l310 y310 z310 st310 hQ310 hS2310 hg310 C310
  subst y310 z310
  obtain ⟨rfl, N310q, K310, le310, eb310, hle310, R310⟩ := hQ310
  have N310 : Fr n0 L310 := by rw [l310]; exact Fr.app N0 N310q
  have CR310 := CR0.trans C310
  have hS310 := foldS hS0 (by exact hk0) hS2310 hg310
  have hZ310 : Z.Warmed39 (s.setVm T310.vm).vm := State.Warmed39.trans hZ hS2310.1
  have hown310 := ownS (s := s) hS2310.1 hown
  obtain ⟨ql310, qe310⟩ := hle310
  have qm310 := endV_of (et_iff TC0 hxw how hox) ql310
  rw [qm310, qe310] at R310
  have KK310 := K0.trans K310 (fun x z => by cases List.mem_singleton.mp z; exact Or.inl (List.mem_of_getElem? (i := 0) rfl))
  refine ⟨_, #[vR r, q1, q2, q3], _, _, ⟨_, _, _, rfl, g1, g2, g3⟩, ?_, ?_, ⟨T310.vm, _, _, _, _, _, X310, N310, KK310, R310, hS310, (by exact (Nat.le_refl _)), hZ310, hown310, CR310, TC.zero⟩, fun target kt => ?_⟩
  · (try dsimp only [rM]); omega
  · (try dsimp only [rM]); omega
  · show Steps p.tables e below (T.setTop (mkF m pc #[vR r, q1, q2, q3] [])) target
    refine XS.aloadN X0.here hx rfl hd0 rfl rfl ?_
    refine st310.trans ?_
    exact kt
theorem rdES2 (C : Cx) (H : CxOk C) (a tk : Nat) (le eb : Int32) (cv : Nat → Int32) (pc : Nat) (hd0 : decode C.c.code pc = .ok (.aload_n 0, 1)) (hd1 : decode C.c.code (pc + 1) = .ok (.invokevirtual 71, 3)) (hpos : 0 < tk) (htk : tk < 1000) : RN C (GL C.r) pc ⟨a, tk, 1, eb, cv⟩ (GL C.r) (pc + 4) ⟨a, 0, endV (cv 0) (cv 1) (cv 2), 1, fun _ => -1⟩ 18 400 := by
  obtain ⟨p, l, e, s, m, args, below, meth, c, Z, a0, n0, h00, r, o, ka, sa, ea, wv, xv, ov, sc, g⟩ := C
  obtain ⟨hx, hw, hby, hml, hEL, SK, hgB, hWD, hXD, hPD, YW, YX, YO, hxw, how, hox, g_r, g_ka, g_sa, g_ea, O0, Z00, hwS⟩ := H
  unfold RN LH
  dsimp only [Cx.p, Cx.ln, Cx.e, Cx.s, Cx.m, Cx.args, Cx.below, Cx.meth, Cx.c, Cx.zs, Cx.az, Cx.n0, Cx.h00, Cx.r, Cx.o, Cx.ka, Cx.sa, Cx.ea, Cx.wv, Cx.xv, Cx.ov, Cx.sc, Cx.g] at *
  intro T L kc ks hL hkc hks HL
  obtain ⟨q1, q2, q3, rfl, g1, g2, g3⟩ := hL
  obtain ⟨vm0, locs, k0, kv, sv, ev, X0, N0, K0, RS0, hS0, hk0, hZ, hown, CR0, TC0⟩ := HL
  have O := O0.keep K0 (all4 g_r g_ka g_sa g_ea)
  have Z0 := Nat.le_trans Z00 K0.1
  have ERe310 := RS0.1.1
  obtain ⟨cq311, kq311, q311a, q311b, q311c⟩ := isOf hZ rfl ERe310
  obtain ⟨_, _, ⟨T311, L311, k311, n311⟩, -, X311, hS2311, hg311, ⟨Lc311, hQ311, l311, y311, z311, C311⟩, st311⟩ := X0.virtualBackS hx hown (mvT hZ (hwi hw 166 rfl)) (mvT hZ (declOf (hwi hw 167 rfl) (hwi hw 169 rfl))) (notFace_of_selects (args := #[]) (mvT hZ (selOf (hwi hw 167 rfl) (hwi hw 168 rfl) (hwi hw 91 rfl) (by decide)))) (mvT hZ (selOf (hwi hw 167 rfl) (hwi hw 168 rfl) (hwi hw 91 rfl) (by decide))) (mvT hZ (hwi hw 167 rfl)) (by decide) (backOfSH (s := s) (vm0 := vm0) (EL := EL1) (W := 0) (rmES11 l Z a0 hw [] r o ka sa ea sc g a tk eb kv sv ev wv xv T.heap n0 Z0 hpos htk O SK hEL hgB hWD hXD RS0 g_r) hZ (hwi hw 169 rfl) (hwi hw 88 rfl) (by decide) (by decide) hEL CR0.1) q311a q311c (g := (mkF m (pc + 1) #[vR r, q1, q2, q3] [(.ref r)])) rfl (by rw [hml]; rfl) (Steps.refl _) (argsL := []) (rest := []) (lenOf pd_12 rfl) rfl (by show 2 * 0 + _ ≤ _; exact Nat.le_of_eq rfl) hd1 (fun _ _ => ⟨rfl, rfl, (by (try dsimp only [rM, Pt.cells, Pt.slots]); omega), (by (try dsimp only [rM, Pt.cells, Pt.slots]); omega)⟩)
  dsimp only [Pt.U, Pt.locs, Pt.cells, Pt.slots] at X311 l311 y311 z311 st311 hQ311 hS2311 hg311 C311
  subst y311 z311
  obtain ⟨rfl, N311q, K311, le311, eb311, hle311, R311⟩ := hQ311
  have N311 : Fr n0 L311 := by rw [l311]; exact Fr.app N0 N311q
  have CR311 := CR0.trans C311
  have hS311 := foldS hS0 (by exact hk0) hS2311 hg311
  have hZ311 : Z.Warmed39 (s.setVm T311.vm).vm := State.Warmed39.trans hZ hS2311.1
  have hown311 := ownS (s := s) hS2311.1 hown
  obtain ⟨ql311, qe311⟩ := hle311
  have qm311 := endV_of (et_iff TC0 hxw how hox) ql311
  rw [qm311, qe311] at R311
  have KK311 := K0.trans K311 (fun x z => by cases List.mem_singleton.mp z; exact Or.inl (List.mem_of_getElem? (i := 0) rfl))
  refine ⟨_, #[vR r, q1, q2, q3], _, _, ⟨_, _, _, rfl, g1, g2, g3⟩, ?_, ?_, ⟨T311.vm, _, _, _, _, _, X311, N311, KK311, R311, hS311, (by exact (Nat.le_refl _)), hZ311, hown311, CR311, TC.zero⟩, fun target kt => ?_⟩
  · (try dsimp only [rM]); omega
  · (try dsimp only [rM]); omega
  · show Steps p.tables e below (T.setTop (mkF m pc #[vR r, q1, q2, q3] [])) target
    refine XS.aloadN X0.here hx rfl hd0 rfl rfl ?_
    refine st311.trans ?_
    exact kt
theorem rdLCx (C : Cx) (H : CxOk C) (tk : Nat) (le eb : Int32) (cv : Nat → Int32) (h36 : C.g 36 = 45) (h37 : C.g 37 = 45) (h38 : C.g 38 = 59) (h39 : C.g 39 = 10) : RN C (GM C.r (C.g 36)) 26 ⟨36, tk, le, eb, cv⟩ (GL C.r) 0 ⟨39, tk, le, eb, cv⟩ 2 12 := by
  obtain ⟨p, l, e, s, m, args, below, meth, c, Z, a0, n0, h00, r, o, ka, sa, ea, wv, xv, ov, sc, g⟩ := C
  obtain ⟨hx, hw, hby, hml, hEL, SK, hgB, hWD, hXD, hPD, YW, YX, YO, hxw, how, hox, g_r, g_ka, g_sa, g_ea, O0, Z00, hwS⟩ := H
  unfold RN LH
  dsimp only [Cx.p, Cx.ln, Cx.e, Cx.s, Cx.m, Cx.args, Cx.below, Cx.meth, Cx.c, Cx.zs, Cx.az, Cx.n0, Cx.h00, Cx.r, Cx.o, Cx.ka, Cx.sa, Cx.ea, Cx.wv, Cx.xv, Cx.ov, Cx.sc, Cx.g] at *
  intro T L kc ks hL hkc hks HL
  obtain ⟨q2, q3, rfl, g2, g3⟩ := hL
  obtain ⟨vm0, locs, k0, kv, sv, ev, X0, N0, K0, RS0, hS0, hk0, hZ, hown, CR0, TC0⟩ := HL
  have O := O0.keep K0 (all4 g_r g_ka g_sa g_ea)
  have hD := dk hby d21
  have Z0 := Nat.le_trans Z00 K0.1
  obtain ⟨T312, L312, X312, e312, N312, st312⟩ := zT X0 hx hZ hown rfl N0 (hwi hw 116 rfl) (hwi hw 117 rfl) (hwi hw 88 rfl) (hwi hw 118 rfl) (rm_sp l Z a0 hw [] (g 36) T.heap n0 Z0 ) 57 #[vR r, vI (g 36), q2, q3] [(.int (g 36))] hml pd_18 (hD 28 rfl) 0 (hr := by (try dsimp only [rM, Pt.cells, Pt.slots]); omega)
  obtain ⟨T313, X313, e313, st313⟩ := zF X312 hx hZ hown (hwi hw 104 rfl) e312 RS0.1.2.1 77 #[vR r, vI (g 36), q2, q3] [] (hD 38 rfl)
  obtain ⟨a314, T314, h314, k314, X314, e314, E314, hS314, hk314, hZ314, hown314, S314, C314, st314⟩ := cLDC (s := s) (vm0 := vm0) (EL := EL1) X313 hx hZ hown (hwi hw 119 rfl) hwS e313 hS0 hk0 hEL (List.mem_of_getElem? (i := 0) rfl) CR0.1 kl78 (n := 2) (q := 8) (by decide +kernel) (g := (mkF m 80 #[vR r, vI (g 36), q2, q3] [(.ref o)])) rfl (hD 39 rfl) (by (try dsimp only [rM, Pt.cells, Pt.slots]); omega) (by (try dsimp only [rM, Pt.cells, Pt.slots]); omega)
  have O314 := O.ext E314
  have K314 := K0.ext E314
  have Z314 := Nat.le_trans Z0 E314.1
  have CR314 := CR0.trans C314
  have R314 := RS0.ext E314
  have F314 := id E314
  obtain ⟨T315, X315, e315, st315⟩ := zF X314 hx hZ314 hown314 (hwi hw 112 rfl) e314 R314.2.1.1 83 #[vR r, vI (g 36), q2, q3] [(.ref a314), (.ref o)] (hD 41 rfl)
  have EY315 := R314.1.2.2.2.2.2.2.1
  obtain ⟨T316, L316, X316, e316, N316, st316⟩ := zV X315 hx hZ314 hown314 e315 EY315 N312 (hwi hw 120 rfl) (hwi hw 121 rfl) (hwi hw 123 rfl) (hwi hw 122 rfl) (hwi hw 124 rfl) (hwi hw 9 rfl) (rmSWv l Z a0 hw [] o a314 36 g (gl kl78) (1 : Int32) h314 n0 Z314 (by decide) O314 SK hgB (glB (by decide +kernel : ∀ x ∈ kl78, 0 ≤ x.toInt ∧ x.toInt < 256)) R314.1.2.2.2.2.2.2 S314 (swY h36 h37)) 86 #[vR r, vI (g 36), q2, q3] [(.int 36), (.ref a314), (.ref o)] hml pd_19 (hD 42 rfl) 0 (hr := by (try dsimp only [rM, Pt.cells, Pt.slots]); omega)
  have EZ316 := R314.1.1
  obtain ⟨T317, L317, X317, e317, N317, st317⟩ := zV X316 hx hZ314 hown314 e316 EZ316 N316 (hwi hw 307 rfl) (declOf (hwi hw 308 rfl) (hwi hw 310 rfl)) (selOf (hwi hw 308 rfl) (hwi hw 309 rfl) (hwi hw 91 rfl) (by decide)) (hwi hw 308 rfl) (hwi hw 310 rfl) (hwi hw 88 rfl) (rmELC l Z a0 hw [] r o ka sa ea sc g tk le eb kv sv ev h314 n0 Z314 O314 SK R314 hgB h38 h39) 94 #[vR r, vI (g 36), q2, q3] [(.ref r), (.ref r)] hml pd_3 (hD 46 rfl) 1 (hr := by (try dsimp only [rM, Pt.cells, Pt.slots]); omega)
  obtain ⟨T318, h318, X318, e318, W318, st318⟩ := putF X317 hx hZ314 hown314 (host := "") (Or.inl (hwi hw 112 rfl)) Via.refl e317 R314.2.1.1 R314.1.1 (Or.inl (hwi hw 113 rfl)) (hwi hw 91 rfl) (ty := .int) (by decide) rfl rfl (g := (mkF m 97 #[vR r, vI (g 36), q2, q3] [(.int 39), (.ref r)])) rfl rfl (hD 47 rfl)
  have R318 := R314.w_at (a' := 39) hw W318
  have N318 := Fr.snoc X318 N317 g_r
  have K318 := K314.wr W318 (Or.inl (List.mem_of_getElem? (i := 0) rfl))
  have Z318 := Nat.le_trans Z314 (Keep.of_wr W318).1
  have CR318 := CR314.trans (CHr.wr W318 (Safe.exa hZ314.alike R314.1.1 (by decide) (by decide)) CR314.1)
  have hk318 := Nat.le_trans hk314 (Keep.of_wr W318).1
  have O318 := O314.wr W318 g_r
  refine ⟨_, #[vR r, vI (g 36), q2, q3], _, _, ⟨_, _, _, rfl, Or.inr ⟨_, rfl⟩, g2, g3⟩, ?_, ?_, ⟨T314.vm, _, _, _, _, _, X318, N318, by rw [e318]; exact K318, by rw [e318]; exact R318, hS314, (by rw [e318]; exact hk318), hZ314, hown314, by rw [e318]; exact CR318, TC0⟩, fun target kt => ?_⟩
  · (try dsimp only [rM]); omega
  · (try dsimp only [rM]); omega
  · show Steps p.tables e below (T.setTop (mkF m 26 #[vR r, vI (g 36), q2, q3] [])) target
    refine zL X0 hx (hD 12 rfl) rfl ?_
    refine zB X0 hx (hD 13 rfl) ?_
    refine zM X0 hx 56 (hD 14 rfl) (feq (by rw [h36]; decide)).2 rfl ?_
    refine zL X0 hx (hD 27 rfl) rfl ?_
    refine st312 _ ?_
    refine zI X312 hx 76 (hD 29 rfl) ((if0 _ _).trans (teq (by rw [h36]; decide)).1) rfl ?_
    refine zA X312 hx (hD 37 rfl) rfl rfl ?_
    refine st313 _ ?_
    refine st314 _ ?_
    refine zA X314 hx (hD 40 rfl) rfl rfl ?_
    refine st315 _ ?_
    refine st316 _ ?_
    refine zJ X316 hx (hD 43 rfl) ((if0 _ _).trans (feq (by decide : ¬ ((1 : Int32) = 0))).1) ?_
    refine zA X316 hx (hD 44 rfl) rfl rfl ?_
    refine zA X316 hx (hD 45 rfl) rfl rfl ?_
    refine st317 _ ?_
    refine st318 _ ?_
    refine zG X318 hx 349 (hD 48 rfl) rfl ?_
    refine zG X318 hx 0 (hD 168 rfl) rfl ?_
    exact kt
theorem rdLC (C : Cx) (H : CxOk C) (tk : Nat) (le eb : Int32) (cv : Nat → Int32) (h36 : C.g 36 = 45) (h37 : C.g 37 = 45) (h38 : C.g 38 = 59) (h39 : C.g 39 = 10) : RN C (GL C.r) 0 ⟨36, tk, le, eb, cv⟩ (GL C.r) 0 ⟨39, tk, le, eb, cv⟩ 2 12 :=
  ((rdCH C H 36 tk le eb cv (by decide)).trans (rdLCx C H tk le eb cv h36 h37 h38 h39)).mono (by decide) (by decide)
theorem rdBCx (C : Cx) (H : CxOk C) (tk : Nat) (le eb : Int32) (cv : Nat → Int32) (h36 : C.g 36 = 47) (h37 : C.g 37 = 42) (h38 : C.g 38 = 59) (h39 : C.g 39 = 42) (h40 : C.g 40 = 47) : RN C (GM C.r (C.g 36)) 26 ⟨36, tk, le, eb, cv⟩ (GL C.r) 0 ⟨41, tk, le, eb, cv⟩ 14 84 := by
  obtain ⟨p, l, e, s, m, args, below, meth, c, Z, a0, n0, h00, r, o, ka, sa, ea, wv, xv, ov, sc, g⟩ := C
  obtain ⟨hx, hw, hby, hml, hEL, SK, hgB, hWD, hXD, hPD, YW, YX, YO, hxw, how, hox, g_r, g_ka, g_sa, g_ea, O0, Z00, hwS⟩ := H
  unfold RN LH
  dsimp only [Cx.p, Cx.ln, Cx.e, Cx.s, Cx.m, Cx.args, Cx.below, Cx.meth, Cx.c, Cx.zs, Cx.az, Cx.n0, Cx.h00, Cx.r, Cx.o, Cx.ka, Cx.sa, Cx.ea, Cx.wv, Cx.xv, Cx.ov, Cx.sc, Cx.g] at *
  intro T L kc ks hL hkc hks HL
  obtain ⟨q2, q3, rfl, g2, g3⟩ := hL
  obtain ⟨vm0, locs, k0, kv, sv, ev, X0, N0, K0, RS0, hS0, hk0, hZ, hown, CR0, TC0⟩ := HL
  have O := O0.keep K0 (all4 g_r g_ka g_sa g_ea)
  have hD := dk hby d21
  have Z0 := Nat.le_trans Z00 K0.1
  obtain ⟨T319, L319, X319, e319, N319, st319⟩ := zT X0 hx hZ hown rfl N0 (hwi hw 116 rfl) (hwi hw 117 rfl) (hwi hw 88 rfl) (hwi hw 118 rfl) (rm_sp l Z a0 hw [] (g 36) T.heap n0 Z0 ) 57 #[vR r, vI (g 36), q2, q3] [(.int (g 36))] hml pd_18 (hD 28 rfl) 0 (hr := by (try dsimp only [rM, Pt.cells, Pt.slots]); omega)
  obtain ⟨T320, X320, e320, st320⟩ := zF X319 hx hZ hown (hwi hw 104 rfl) e319 RS0.1.2.1 77 #[vR r, vI (g 36), q2, q3] [] (hD 38 rfl)
  obtain ⟨a321, T321, h321, k321, X321, e321, E321, hS321, hk321, hZ321, hown321, S321, C321, st321⟩ := cLDC (s := s) (vm0 := vm0) (EL := EL1) X320 hx hZ hown (hwi hw 119 rfl) hwS e320 hS0 hk0 hEL (List.mem_of_getElem? (i := 0) rfl) CR0.1 kl78 (n := 2) (q := 8) (by decide +kernel) (g := (mkF m 80 #[vR r, vI (g 36), q2, q3] [(.ref o)])) rfl (hD 39 rfl) (by (try dsimp only [rM, Pt.cells, Pt.slots]); omega) (by (try dsimp only [rM, Pt.cells, Pt.slots]); omega)
  have O321 := O.ext E321
  have K321 := K0.ext E321
  have Z321 := Nat.le_trans Z0 E321.1
  have CR321 := CR0.trans C321
  have R321 := RS0.ext E321
  have F321 := id E321
  obtain ⟨T322, X322, e322, st322⟩ := zF X321 hx hZ321 hown321 (hwi hw 112 rfl) e321 R321.2.1.1 83 #[vR r, vI (g 36), q2, q3] [(.ref a321), (.ref o)] (hD 41 rfl)
  have EY322 := R321.1.2.2.2.2.2.2.1
  obtain ⟨T323, L323, X323, e323, N323, st323⟩ := zV X322 hx hZ321 hown321 e322 EY322 N319 (hwi hw 120 rfl) (hwi hw 121 rfl) (hwi hw 123 rfl) (hwi hw 122 rfl) (hwi hw 124 rfl) (hwi hw 9 rfl) (rmSWv l Z a0 hw [] o a321 36 g (gl kl78) (0 : Int32) h321 n0 Z321 (by decide) O321 SK hgB (glB (by decide +kernel : ∀ x ∈ kl78, 0 ≤ x.toInt ∧ x.toInt < 256)) R321.1.2.2.2.2.2.2 S321 (swN0 (by rw [h36]; decide +kernel))) 86 #[vR r, vI (g 36), q2, q3] [(.int 36), (.ref a321), (.ref o)] hml pd_19 (hD 42 rfl) 0 (hr := by (try dsimp only [rM, Pt.cells, Pt.slots]); omega)
  obtain ⟨T324, X324, e324, st324⟩ := zF X323 hx hZ321 hown321 (hwi hw 104 rfl) e323 R321.1.2.1 104 #[vR r, vI (g 36), q2, q3] [] (hD 50 rfl)
  obtain ⟨a325, T325, h325, k325, X325, e325, E325, hS325, hk325, hZ325, hown325, S325, C325, st325⟩ := cLDC (s := s) (vm0 := T321.vm) (EL := EL1) X324 hx hZ321 hown321 (hwi hw 130 rfl) hwS e324 hS321 hk321 hEL (List.mem_of_getElem? (i := 1) rfl) C321.1 kl87 (n := 2) (q := 8) (by decide +kernel) (g := (mkF m 107 #[vR r, vI (g 36), q2, q3] [(.ref o)])) rfl (hD 51 rfl) (by (try dsimp only [rM, Pt.cells, Pt.slots]); omega) (by (try dsimp only [rM, Pt.cells, Pt.slots]); omega)
  have O325 := O321.ext E325
  have K325 := K321.ext E325
  have Z325 := Nat.le_trans Z321 E325.1
  have CR325 := CR321.trans C325
  have R325 := R321.ext E325
  have F325 := extT F321 E325
  obtain ⟨T326, X326, e326, st326⟩ := zF X325 hx hZ325 hown325 (hwi hw 112 rfl) e325 R325.2.1.1 110 #[vR r, vI (g 36), q2, q3] [(.ref a325), (.ref o)] (hD 53 rfl)
  have EY326 := R325.1.2.2.2.2.2.2.1
  obtain ⟨T327, L327, X327, e327, N327, st327⟩ := zV X326 hx hZ325 hown325 e326 EY326 N323 (hwi hw 120 rfl) (hwi hw 121 rfl) (hwi hw 123 rfl) (hwi hw 122 rfl) (hwi hw 124 rfl) (hwi hw 9 rfl) (rmSWv l Z a0 hw [] o a325 36 g (gl kl87) (1 : Int32) h325 n0 Z325 (by decide) O325 SK hgB (glB (by decide +kernel : ∀ x ∈ kl87, 0 ≤ x.toInt ∧ x.toInt < 256)) R325.1.2.2.2.2.2.2 S325 (swY h36 h37)) 113 #[vR r, vI (g 36), q2, q3] [(.int 36), (.ref a325), (.ref o)] hml pd_19 (hD 54 rfl) 0 (hr := by (try dsimp only [rM, Pt.cells, Pt.slots]); omega)
  have EZ327 := R325.1.1
  obtain ⟨cq328, kq328, q328a, q328b, q328c⟩ := isOf hZ325 e327 EZ327
  obtain ⟨_, _, ⟨T328, L328, k328, n328⟩, -, X328, hS2328, hg328, ⟨Lc328, hQ328, l328, y328, z328, C328⟩, st328⟩ := X327.virtualBackS hx hown325 (mvT hZ325 (hwi hw 313 rfl)) (mvT hZ325 (declOf (hwi hw 314 rfl) (hwi hw 316 rfl))) (notFace_of_selects (args := #[]) (mvT hZ325 (selOf (hwi hw 314 rfl) (hwi hw 315 rfl) (hwi hw 91 rfl) (by decide)))) (mvT hZ325 (selOf (hwi hw 314 rfl) (hwi hw 315 rfl) (hwi hw 91 rfl) (by decide))) (mvT hZ325 (hwi hw 314 rfl)) (by decide) (backOfSH (s := s) (vm0 := T325.vm) (EL := EL1) (W := 1) (rmEBC l Z a0 hw [] r o ka sa ea sc g tk le eb kv sv ev h325 n0 Z325 O325 SK R325 hgB h36 h37 h38 h39 h40 hEL) hZ325 (hwi hw 316 rfl) (hwi hw 88 rfl) (by decide) (by decide) hEL C325.1) q328a q328c (g := (mkF m 121 #[vR r, vI (g 36), q2, q3] [(.ref r), (.ref r)])) rfl (by rw [hml]; rfl) (Steps.refl _) (argsL := []) (rest := [(.ref r)]) (lenOf pd_3 rfl) rfl (by show 2 * 0 + _ ≤ _; exact Nat.le_of_eq rfl) (hD 58 rfl) (fun _ _ => ⟨rfl, e327, (by (try dsimp only [rM, Pt.cells, Pt.slots]); omega), (by (try dsimp only [rM, Pt.cells, Pt.slots]); omega)⟩)
  dsimp only [Pt.U, Pt.locs, Pt.cells, Pt.slots] at X328 l328 y328 z328 st328 hQ328 hS2328 hg328 C328
  subst y328 z328
  obtain ⟨rfl, N328q, E328⟩ := hQ328
  have N328 : Fr n0 L328 := by rw [l328]; exact Fr.app N327 N328q
  have CR328 := CR325.trans C328
  have hS328 := foldS hS325 (by rw [e327]; exact hk325) hS2328 hg328
  have hZ328 : Z.Warmed39 (s.setVm T328.vm).vm := State.Warmed39.trans hZ325 hS2328.1
  have hown328 := ownS (s := s) hS2328.1 hown325
  have R328 := R325.ext E328
  have K328 := K325.ext E328
  have Z328 := Nat.le_trans Z325 E328.1
  have O328 := O325.ext E328
  obtain ⟨T329, h329, X329, e329, W329, st329⟩ := putF X328 hx hZ328 hown328 (host := "") (Or.inl (hwi hw 112 rfl)) Via.refl rfl R328.2.1.1 R328.1.1 (Or.inl (hwi hw 113 rfl)) (hwi hw 91 rfl) (ty := .int) (by decide) rfl rfl (g := (mkF m 124 #[vR r, vI (g 36), q2, q3] [(.int 41), (.ref r)])) rfl rfl (hD 59 rfl)
  have R329 := R328.w_at (a' := 41) hw W329
  have N329 := Fr.snoc X329 N328 g_r
  have K329 := K328.wr W329 (Or.inl (List.mem_of_getElem? (i := 0) rfl))
  have Z329 := Nat.le_trans Z328 (Keep.of_wr W329).1
  have CR329 := CR328.trans (CHr.wr W329 (Safe.exa hZ328.alike R328.1.1 (by decide) (by decide)) CR328.1)
  have hk329 := Nat.le_trans (Nat.le_refl _) (Keep.of_wr W329).1
  have O329 := O328.wr W329 g_r
  refine ⟨_, #[vR r, vI (g 36), q2, q3], _, _, ⟨_, _, _, rfl, Or.inr ⟨_, rfl⟩, g2, g3⟩, ?_, ?_, ⟨T328.vm, _, _, _, _, _, X329, N329, by rw [e329]; exact K329, by rw [e329]; exact R329, hS328, (by rw [e329]; exact hk329), hZ328, hown328, by rw [e329]; exact CR329, TC0⟩, fun target kt => ?_⟩
  · (try dsimp only [rM]); omega
  · (try dsimp only [rM]); omega
  · show Steps p.tables e below (T.setTop (mkF m 26 #[vR r, vI (g 36), q2, q3] [])) target
    refine zL X0 hx (hD 12 rfl) rfl ?_
    refine zB X0 hx (hD 13 rfl) ?_
    refine zM X0 hx 56 (hD 14 rfl) (feq (by rw [h36]; decide)).2 rfl ?_
    refine zL X0 hx (hD 27 rfl) rfl ?_
    refine st319 _ ?_
    refine zI X319 hx 76 (hD 29 rfl) ((if0 _ _).trans (teq (by rw [h36]; decide)).1) rfl ?_
    refine zA X319 hx (hD 37 rfl) rfl rfl ?_
    refine st320 _ ?_
    refine st321 _ ?_
    refine zA X321 hx (hD 40 rfl) rfl rfl ?_
    refine st322 _ ?_
    refine st323 _ ?_
    refine zI X323 hx 103 (hD 43 rfl) ((if0 _ _).trans (teq (rfl : (0 : Int32) = 0)).1) rfl ?_
    refine zA X323 hx (hD 49 rfl) rfl rfl ?_
    refine st324 _ ?_
    refine st325 _ ?_
    refine zA X325 hx (hD 52 rfl) rfl rfl ?_
    refine st326 _ ?_
    refine st327 _ ?_
    refine zJ X327 hx (hD 55 rfl) ((if0 _ _).trans (feq (by decide : ¬ ((1 : Int32) = 0))).1) ?_
    refine zA X327 hx (hD 56 rfl) rfl rfl ?_
    refine zA X327 hx (hD 57 rfl) rfl rfl ?_
    refine st328.trans ?_
    refine st329 _ ?_
    refine zG X329 hx 349 (hD 60 rfl) rfl ?_
    refine zG X329 hx 0 (hD 168 rfl) rfl ?_
    exact kt
theorem rdBC (C : Cx) (H : CxOk C) (tk : Nat) (le eb : Int32) (cv : Nat → Int32) (h36 : C.g 36 = 47) (h37 : C.g 37 = 42) (h38 : C.g 38 = 59) (h39 : C.g 39 = 42) (h40 : C.g 40 = 47) : RN C (GL C.r) 0 ⟨36, tk, le, eb, cv⟩ (GL C.r) 0 ⟨41, tk, le, eb, cv⟩ 14 84 :=
  ((rdCH C H 36 tk le eb cv (by decide)).trans (rdBCx C H tk le eb cv h36 h37 h38 h39 h40)).mono (by decide) (by decide)
theorem rdQ0 (C : Cx) (H : CxOk C) (a tk : Nat) (le eb : Int32) (cv : Nat → Int32) (ha : a < 56) (htk : tk < 900) (h39 : C.g a = 39) (hsc : C.sc = 0) (htok : tokP C.wv C.xv C.ov C.g C.xv a (eqF C.g (C.g a) (1 : Int32) 60 (a + 1)) 100) : RN C (GM C.r (C.g a)) 130 ⟨a, tk, le, eb, cv⟩ (GL C.r) 0 ⟨(eqF C.g (C.g a) (1 : Int32) 60 (a + 1)), tk + 1, le, eb, tkU cv tk 100⟩ 2 24 := by
  obtain ⟨p, l, e, s, m, args, below, meth, c, Z, a0, n0, h00, r, o, ka, sa, ea, wv, xv, ov, sc, g⟩ := C
  obtain ⟨hx, hw, hby, hml, hEL, SK, hgB, hWD, hXD, hPD, YW, YX, YO, hxw, how, hox, g_r, g_ka, g_sa, g_ea, O0, Z00, hwS⟩ := H
  unfold RN LH
  dsimp only [Cx.p, Cx.ln, Cx.e, Cx.s, Cx.m, Cx.args, Cx.below, Cx.meth, Cx.c, Cx.zs, Cx.az, Cx.n0, Cx.h00, Cx.r, Cx.o, Cx.ka, Cx.sa, Cx.ea, Cx.wv, Cx.xv, Cx.ov, Cx.sc, Cx.g] at *
  intro T L kc ks hL hkc hks HL
  obtain ⟨q2, q3, rfl, g2, g3⟩ := hL
  obtain ⟨vm0, locs, k0, kv, sv, ev, X0, N0, K0, RS0, hS0, hk0, hZ, hown, CR0, TC0⟩ := HL
  have O := O0.keep K0 (all4 g_r g_ka g_sa g_ea)
  have hD := dk hby d21
  have Z0 := Nat.le_trans Z00 K0.1
  have htk' : tk < 1000 := by omega
  have eqle : (eqF g (g a) (1 : Int32) 60 (a + 1)) ≤ 56 := (eqF_bd 60 (a + 1) (by omega)).1
  have eqge : a ≤ (eqF g (g a) (1 : Int32) 60 (a + 1)) := by have := (eqF_bd (g := g) (q := g a) (esc := 1) 60 (a + 1) (by omega)).2 (by omega); omega
  obtain ⟨T330, X330, e330, st330⟩ := zF X0 hx hZ hown (hwi hw 112 rfl) rfl RS0.2.1.1 143 #[vR r, vI (g a), q2, q3] [] (hD 68 rfl)
  obtain ⟨T331, X331, e331, st331⟩ := zF X330 hx hZ hown (hwi hw 112 rfl) e330 RS0.2.1.1 162 #[vR r, vI (g a), vI (iN a), vI 1] [(.ref r), (.ref r)] (hD 80 rfl)
  obtain ⟨T332, X332, e332, st332⟩ := zF X331 hx hZ hown (hwi hw 106 rfl) e331 RS0.1.2.2.1 170 #[vR r, vI (g a), vI (iN a), vI 1] [(.int (iN a)), (.ref r), (.ref r)] (hD 84 rfl)
  have EZ332 := RS0.1.1
  obtain ⟨T333, L333, X333, e333, N333, st333⟩ := zV X332 hx hZ hown e332 EZ332 N0 (hwi hw 222 rfl) (declOf (hwi hw 223 rfl) (hwi hw 225 rfl)) (selOf (hwi hw 223 rfl) (hwi hw 224 rfl) (hwi hw 91 rfl) (by decide)) (hwi hw 223 rfl) (hwi hw 225 rfl) (hwi hw 88 rfl) (rmEQF l Z a0 hw [] r o a g (1 : Int32) T.heap n0 Z0 ha O SK EZ332 RS0.1.2.1 RS0.1.2.2.2.2.2.2 hgB) 181 #[vR r, vI (g a), vI (iN a), vI 1] [(.int 1), (.int (iN a)), (.ref r), (.ref r)] hml pd_29 (hD 89 rfl) 1 (hr := by (try dsimp only [rM, Pt.cells, Pt.slots]); omega)
  obtain ⟨T334, h334, X334, e334, W334, st334⟩ := putF X333 hx hZ hown (host := "") (Or.inl (hwi hw 112 rfl)) Via.refl e333 RS0.2.1.1 RS0.1.1 (Or.inl (hwi hw 113 rfl)) (hwi hw 91 rfl) (ty := .int) (by decide) rfl rfl (g := (mkF m 184 #[vR r, vI (g a), vI (iN a), vI 1] [(.int (iN (eqF g (g a) (1 : Int32) 60 (a + 1)))), (.ref r)])) rfl rfl (hD 90 rfl)
  have R334 := RS0.w_at (a' := (eqF g (g a) (1 : Int32) 60 (a + 1))) hw W334
  have N334 := Fr.snoc X334 N333 g_r
  have K334 := K0.wr W334 (Or.inl (List.mem_of_getElem? (i := 0) rfl))
  have Z334 := Nat.le_trans Z0 (Keep.of_wr W334).1
  have CR334 := CR0.trans (CHr.wr W334 (Safe.exa hZ.alike RS0.1.1 (by decide) (by decide)) CR0.1)
  have hk334 := Nat.le_trans hk0 (Keep.of_wr W334).1
  have O334 := O.wr W334 g_r
  obtain ⟨T335, X335, e335, st335⟩ := getS2 X334 hx hZ hown (host := "") (Or.inl (hwi hw 226 rfl)) Via.refl e334 (Sta.ext O334.2 hXD) (g := (mkF m 192 #[vR r, vI (g a), vI (iN a), vI 1] [(.ref r)])) rfl (hD 94 rfl)
  have ERt := R334.1.1
  obtain ⟨cq336, kq336, q336a, q336b, q336c⟩ := isOf hZ e335 ERt
  obtain ⟨_, _, ⟨T336, L336, k336, n336⟩, -, X336, hS2336, hg336, ⟨Lc336, hQ336, l336, y336, z336, C336⟩, st336⟩ := X335.virtualBackS hx hown (mvT hZ (hwi hw 150 rfl)) (mvT hZ (declOf (hwi hw 151 rfl) (hwi hw 153 rfl))) (notFace_of_selects (args := #[]) (mvT hZ (selOf (hwi hw 151 rfl) (hwi hw 152 rfl) (hwi hw 91 rfl) (by decide)))) (mvT hZ (selOf (hwi hw 151 rfl) (hwi hw 152 rfl) (hwi hw 91 rfl) (by decide))) (mvT hZ (hwi hw 151 rfl)) (by decide) (backOfSH (s := s) (vm0 := vm0) (EL := EL1) (W := 0) (rmTK l Z a0 hw [] r o ka sa ea sc g (eqF g (g a) (1 : Int32) 60 (a + 1)) tk le eb kv sv ev xv wv a h334 n0 Z334 htk' O334 SK hEL hgB hWD YX ⟨eqge, eqle⟩ (fun q => absurd q hxw) R334 g_r g_ka g_sa g_ea) hZ (hwi hw 153 rfl) (hwi hw 88 rfl) (by decide) (by decide) hEL CR334.1) q336a q336c (g := (mkF m 202 #[vR r, vI (g a), vI (iN a), vI 1] [(.int (iN a)), (.ref xv), (.ref r)])) rfl (by rw [hml]; rfl) (Steps.refl _) (argsL := [(.ref xv), (.int (iN a))]) (rest := []) (lenOf pd_22 rfl) rfl (by show 2 * 0 + _ ≤ _; exact Nat.le_of_eq rfl) (hD 98 rfl) (fun _ _ => ⟨rfl, e335, (by (try dsimp only [rM, Pt.cells, Pt.slots]); omega), (by (try dsimp only [rM, Pt.cells, Pt.slots]); omega)⟩)
  dsimp only [Pt.U, Pt.locs, Pt.cells, Pt.slots] at X336 l336 y336 z336 st336 hQ336 hS2336 hg336 C336
  subst y336 z336
  obtain ⟨rfl, N336q, K336, le336, eb336, hle336, R336⟩ := hQ336
  have N336 : Fr n0 L336 := by rw [l336]; exact Fr.app N334 N336q
  have CR336 := CR334.trans C336
  have hS336 := foldS hS0 (by rw [e335]; exact hk334) hS2336 hg336
  have hZ336 : Z.Warmed39 (s.setVm T336.vm).vm := State.Warmed39.trans hZ hS2336.1
  have hown336 := ownS (s := s) hS2336.1 hown
  obtain ⟨ql336, qe336⟩ := hle336
  rw [ql336, qe336] at R336
  have KK336 := K334.trans K336 (fun x z => Or.inl z)
  have Z336 := Nat.le_trans Z334 K336.1
  refine ⟨_, #[vR r, vI (g a), vI (iN a), vI 1], _, _, ⟨_, _, _, rfl, Or.inr ⟨_, rfl⟩, Or.inr ⟨_, rfl⟩, Or.inr ⟨_, rfl⟩⟩, ?_, ?_, ⟨T336.vm, _, _, _, _, _, X336, N336, KK336, R336, hS336, (by exact (Nat.le_refl _)), hZ336, hown336, CR336, (TC0.push htok)⟩, fun target kt => ?_⟩
  · (try dsimp only [rM]); omega
  · (try dsimp only [rM]); omega
  · show Steps p.tables e below (T.setTop (mkF m 130 #[vR r, vI (g a), q2, q3] [])) target
    refine zL X0 hx (hD 61 rfl) rfl ?_
    refine zB X0 hx (hD 62 rfl) ?_
    refine zM X0 hx 142 (hD 63 rfl) (teq h39).1 rfl ?_
    refine zA X0 hx (hD 67 rfl) rfl rfl ?_
    refine st330 _ ?_
    refine zS X330 hx (hD 69 rfl) (L' := #[vR r, vI (g a), vI (iN a), q3]) (by rcases g2 with rfl | ⟨_, rfl⟩ <;> rcases g3 with rfl | ⟨_, rfl⟩ <;> rfl) ?_
    refine zL X330 hx (hD 70 rfl) rfl ?_
    refine zB X330 hx (hD 71 rfl) ?_
    refine zN X330 hx (hD 72 rfl) (teq h39).2 ?_
    refine zC X330 hx (hD 73 rfl) ?_
    refine zG X330 hx 158 (hD 74 rfl) rfl ?_
    refine zS X330 hx (hD 76 rfl) (L' := #[vR r, vI (g a), vI (iN a), vI 1]) (by rcases g2 with rfl | ⟨_, rfl⟩ <;> rcases g3 with rfl | ⟨_, rfl⟩ <;> rfl) ?_
    refine zA X330 hx (hD 77 rfl) rfl rfl ?_
    refine zA X330 hx (hD 78 rfl) rfl rfl ?_
    refine zA X330 hx (hD 79 rfl) rfl rfl ?_
    refine st331 _ ?_
    refine zL X331 hx (hD 81 rfl) rfl ?_
    refine zJ X331 hx (hD 82 rfl) ((if0 _ _).trans (feq (by decide : ¬ ((1 : Int32) = 0))).1) ?_
    refine zA X331 hx (hD 83 rfl) rfl rfl ?_
    refine st332 _ ?_
    refine zJ X332 hx (hD 85 rfl) ((if0 _ _).trans (teq hsc).2) ?_
    refine zC X332 hx (hD 86 rfl) ?_
    refine zG X332 hx 181 (hD 87 rfl) rfl ?_
    refine st333 _ ?_
    refine st334 _ ?_
    refine zA X334 hx (hD 91 rfl) rfl rfl ?_
    refine zL X334 hx (hD 92 rfl) rfl ?_
    refine zJ X334 hx (hD 93 rfl) ((if0 _ _).trans (feq (by decide : ¬ ((1 : Int32) = 0))).1) ?_
    refine st335 _ ?_
    refine zG X335 hx 201 (hD 95 rfl) rfl ?_
    refine zL X335 hx (hD 97 rfl) rfl ?_
    refine st336.trans ?_
    refine zG X336 hx 349 (hD 99 rfl) rfl ?_
    refine zG X336 hx 0 (hD 168 rfl) rfl ?_
    exact kt
theorem rdQ1 (C : Cx) (H : CxOk C) (a tk : Nat) (le eb : Int32) (cv : Nat → Int32) (ha : a < 56) (htk : tk < 900) (h39 : C.g a = 39) (hsc : ¬ (C.sc = 0)) (htok : tokP C.wv C.xv C.ov C.g C.xv a (eqF C.g (C.g a) (0 : Int32) 60 (a + 1)) 100) : RN C (GM C.r (C.g a)) 130 ⟨a, tk, le, eb, cv⟩ (GL C.r) 0 ⟨(eqF C.g (C.g a) (0 : Int32) 60 (a + 1)), tk + 1, le, eb, tkU cv tk 100⟩ 2 24 := by
  obtain ⟨p, l, e, s, m, args, below, meth, c, Z, a0, n0, h00, r, o, ka, sa, ea, wv, xv, ov, sc, g⟩ := C
  obtain ⟨hx, hw, hby, hml, hEL, SK, hgB, hWD, hXD, hPD, YW, YX, YO, hxw, how, hox, g_r, g_ka, g_sa, g_ea, O0, Z00, hwS⟩ := H
  unfold RN LH
  dsimp only [Cx.p, Cx.ln, Cx.e, Cx.s, Cx.m, Cx.args, Cx.below, Cx.meth, Cx.c, Cx.zs, Cx.az, Cx.n0, Cx.h00, Cx.r, Cx.o, Cx.ka, Cx.sa, Cx.ea, Cx.wv, Cx.xv, Cx.ov, Cx.sc, Cx.g] at *
  intro T L kc ks hL hkc hks HL
  obtain ⟨q2, q3, rfl, g2, g3⟩ := hL
  obtain ⟨vm0, locs, k0, kv, sv, ev, X0, N0, K0, RS0, hS0, hk0, hZ, hown, CR0, TC0⟩ := HL
  have O := O0.keep K0 (all4 g_r g_ka g_sa g_ea)
  have hD := dk hby d21
  have Z0 := Nat.le_trans Z00 K0.1
  have htk' : tk < 1000 := by omega
  have eqle : (eqF g (g a) (0 : Int32) 60 (a + 1)) ≤ 56 := (eqF_bd 60 (a + 1) (by omega)).1
  have eqge : a ≤ (eqF g (g a) (0 : Int32) 60 (a + 1)) := by have := (eqF_bd (g := g) (q := g a) (esc := 0) 60 (a + 1) (by omega)).2 (by omega); omega
  obtain ⟨T337, X337, e337, st337⟩ := zF X0 hx hZ hown (hwi hw 112 rfl) rfl RS0.2.1.1 143 #[vR r, vI (g a), q2, q3] [] (hD 68 rfl)
  obtain ⟨T338, X338, e338, st338⟩ := zF X337 hx hZ hown (hwi hw 112 rfl) e337 RS0.2.1.1 162 #[vR r, vI (g a), vI (iN a), vI 1] [(.ref r), (.ref r)] (hD 80 rfl)
  obtain ⟨T339, X339, e339, st339⟩ := zF X338 hx hZ hown (hwi hw 106 rfl) e338 RS0.1.2.2.1 170 #[vR r, vI (g a), vI (iN a), vI 1] [(.int (iN a)), (.ref r), (.ref r)] (hD 84 rfl)
  have EZ339 := RS0.1.1
  obtain ⟨T340, L340, X340, e340, N340, st340⟩ := zV X339 hx hZ hown e339 EZ339 N0 (hwi hw 222 rfl) (declOf (hwi hw 223 rfl) (hwi hw 225 rfl)) (selOf (hwi hw 223 rfl) (hwi hw 224 rfl) (hwi hw 91 rfl) (by decide)) (hwi hw 223 rfl) (hwi hw 225 rfl) (hwi hw 88 rfl) (rmEQF l Z a0 hw [] r o a g (0 : Int32) T.heap n0 Z0 ha O SK EZ339 RS0.1.2.1 RS0.1.2.2.2.2.2.2 hgB) 181 #[vR r, vI (g a), vI (iN a), vI 1] [(.int 0), (.int (iN a)), (.ref r), (.ref r)] hml pd_29 (hD 89 rfl) 1 (hr := by (try dsimp only [rM, Pt.cells, Pt.slots]); omega)
  obtain ⟨T341, h341, X341, e341, W341, st341⟩ := putF X340 hx hZ hown (host := "") (Or.inl (hwi hw 112 rfl)) Via.refl e340 RS0.2.1.1 RS0.1.1 (Or.inl (hwi hw 113 rfl)) (hwi hw 91 rfl) (ty := .int) (by decide) rfl rfl (g := (mkF m 184 #[vR r, vI (g a), vI (iN a), vI 1] [(.int (iN (eqF g (g a) (0 : Int32) 60 (a + 1)))), (.ref r)])) rfl rfl (hD 90 rfl)
  have R341 := RS0.w_at (a' := (eqF g (g a) (0 : Int32) 60 (a + 1))) hw W341
  have N341 := Fr.snoc X341 N340 g_r
  have K341 := K0.wr W341 (Or.inl (List.mem_of_getElem? (i := 0) rfl))
  have Z341 := Nat.le_trans Z0 (Keep.of_wr W341).1
  have CR341 := CR0.trans (CHr.wr W341 (Safe.exa hZ.alike RS0.1.1 (by decide) (by decide)) CR0.1)
  have hk341 := Nat.le_trans hk0 (Keep.of_wr W341).1
  have O341 := O.wr W341 g_r
  obtain ⟨T342, X342, e342, st342⟩ := getS2 X341 hx hZ hown (host := "") (Or.inl (hwi hw 226 rfl)) Via.refl e341 (Sta.ext O341.2 hXD) (g := (mkF m 192 #[vR r, vI (g a), vI (iN a), vI 1] [(.ref r)])) rfl (hD 94 rfl)
  have ERt := R341.1.1
  obtain ⟨cq343, kq343, q343a, q343b, q343c⟩ := isOf hZ e342 ERt
  obtain ⟨_, _, ⟨T343, L343, k343, n343⟩, -, X343, hS2343, hg343, ⟨Lc343, hQ343, l343, y343, z343, C343⟩, st343⟩ := X342.virtualBackS hx hown (mvT hZ (hwi hw 150 rfl)) (mvT hZ (declOf (hwi hw 151 rfl) (hwi hw 153 rfl))) (notFace_of_selects (args := #[]) (mvT hZ (selOf (hwi hw 151 rfl) (hwi hw 152 rfl) (hwi hw 91 rfl) (by decide)))) (mvT hZ (selOf (hwi hw 151 rfl) (hwi hw 152 rfl) (hwi hw 91 rfl) (by decide))) (mvT hZ (hwi hw 151 rfl)) (by decide) (backOfSH (s := s) (vm0 := vm0) (EL := EL1) (W := 0) (rmTK l Z a0 hw [] r o ka sa ea sc g (eqF g (g a) (0 : Int32) 60 (a + 1)) tk le eb kv sv ev xv wv a h341 n0 Z341 htk' O341 SK hEL hgB hWD YX ⟨eqge, eqle⟩ (fun q => absurd q hxw) R341 g_r g_ka g_sa g_ea) hZ (hwi hw 153 rfl) (hwi hw 88 rfl) (by decide) (by decide) hEL CR341.1) q343a q343c (g := (mkF m 202 #[vR r, vI (g a), vI (iN a), vI 1] [(.int (iN a)), (.ref xv), (.ref r)])) rfl (by rw [hml]; rfl) (Steps.refl _) (argsL := [(.ref xv), (.int (iN a))]) (rest := []) (lenOf pd_22 rfl) rfl (by show 2 * 0 + _ ≤ _; exact Nat.le_of_eq rfl) (hD 98 rfl) (fun _ _ => ⟨rfl, e342, (by (try dsimp only [rM, Pt.cells, Pt.slots]); omega), (by (try dsimp only [rM, Pt.cells, Pt.slots]); omega)⟩)
  dsimp only [Pt.U, Pt.locs, Pt.cells, Pt.slots] at X343 l343 y343 z343 st343 hQ343 hS2343 hg343 C343
  subst y343 z343
  obtain ⟨rfl, N343q, K343, le343, eb343, hle343, R343⟩ := hQ343
  have N343 : Fr n0 L343 := by rw [l343]; exact Fr.app N341 N343q
  have CR343 := CR341.trans C343
  have hS343 := foldS hS0 (by rw [e342]; exact hk341) hS2343 hg343
  have hZ343 : Z.Warmed39 (s.setVm T343.vm).vm := State.Warmed39.trans hZ hS2343.1
  have hown343 := ownS (s := s) hS2343.1 hown
  obtain ⟨ql343, qe343⟩ := hle343
  rw [ql343, qe343] at R343
  have KK343 := K341.trans K343 (fun x z => Or.inl z)
  have Z343 := Nat.le_trans Z341 K343.1
  refine ⟨_, #[vR r, vI (g a), vI (iN a), vI 1], _, _, ⟨_, _, _, rfl, Or.inr ⟨_, rfl⟩, Or.inr ⟨_, rfl⟩, Or.inr ⟨_, rfl⟩⟩, ?_, ?_, ⟨T343.vm, _, _, _, _, _, X343, N343, KK343, R343, hS343, (by exact (Nat.le_refl _)), hZ343, hown343, CR343, (TC0.push htok)⟩, fun target kt => ?_⟩
  · (try dsimp only [rM]); omega
  · (try dsimp only [rM]); omega
  · show Steps p.tables e below (T.setTop (mkF m 130 #[vR r, vI (g a), q2, q3] [])) target
    refine zL X0 hx (hD 61 rfl) rfl ?_
    refine zB X0 hx (hD 62 rfl) ?_
    refine zM X0 hx 142 (hD 63 rfl) (teq h39).1 rfl ?_
    refine zA X0 hx (hD 67 rfl) rfl rfl ?_
    refine st337 _ ?_
    refine zS X337 hx (hD 69 rfl) (L' := #[vR r, vI (g a), vI (iN a), q3]) (by rcases g2 with rfl | ⟨_, rfl⟩ <;> rcases g3 with rfl | ⟨_, rfl⟩ <;> rfl) ?_
    refine zL X337 hx (hD 70 rfl) rfl ?_
    refine zB X337 hx (hD 71 rfl) ?_
    refine zN X337 hx (hD 72 rfl) (teq h39).2 ?_
    refine zC X337 hx (hD 73 rfl) ?_
    refine zG X337 hx 158 (hD 74 rfl) rfl ?_
    refine zS X337 hx (hD 76 rfl) (L' := #[vR r, vI (g a), vI (iN a), vI 1]) (by rcases g2 with rfl | ⟨_, rfl⟩ <;> rcases g3 with rfl | ⟨_, rfl⟩ <;> rfl) ?_
    refine zA X337 hx (hD 77 rfl) rfl rfl ?_
    refine zA X337 hx (hD 78 rfl) rfl rfl ?_
    refine zA X337 hx (hD 79 rfl) rfl rfl ?_
    refine st338 _ ?_
    refine zL X338 hx (hD 81 rfl) rfl ?_
    refine zJ X338 hx (hD 82 rfl) ((if0 _ _).trans (feq (by decide : ¬ ((1 : Int32) = 0))).1) ?_
    refine zA X338 hx (hD 83 rfl) rfl rfl ?_
    refine st339 _ ?_
    refine zI X339 hx 180 (hD 85 rfl) ((if0 _ _).trans (feq hsc).2) rfl ?_
    refine zC X339 hx (hD 88 rfl) ?_
    refine st340 _ ?_
    refine st341 _ ?_
    refine zA X341 hx (hD 91 rfl) rfl rfl ?_
    refine zL X341 hx (hD 92 rfl) rfl ?_
    refine zJ X341 hx (hD 93 rfl) ((if0 _ _).trans (feq (by decide : ¬ ((1 : Int32) = 0))).1) ?_
    refine st342 _ ?_
    refine zG X342 hx 201 (hD 95 rfl) rfl ?_
    refine zL X342 hx (hD 97 rfl) rfl ?_
    refine st343.trans ?_
    refine zG X343 hx 349 (hD 99 rfl) rfl ?_
    refine zG X343 hx 0 (hD 168 rfl) rfl ?_
    exact kt
theorem rdDQ (C : Cx) (H : CxOk C) (a tk : Nat) (le eb : Int32) (cv : Nat → Int32) (ha : a < 56) (htk : tk < 900) (h34 : C.g a = 34) (htok : tokP C.wv C.xv C.ov C.g C.ov a (eqF C.g (C.g a) (0 : Int32) 60 (a + 1)) 101) : RN C (GM C.r (C.g a)) 130 ⟨a, tk, le, eb, cv⟩ (GL C.r) 0 ⟨(eqF C.g (C.g a) (0 : Int32) 60 (a + 1)), tk + 1, le, eb, tkU cv tk 101⟩ 2 24 := by
  obtain ⟨p, l, e, s, m, args, below, meth, c, Z, a0, n0, h00, r, o, ka, sa, ea, wv, xv, ov, sc, g⟩ := C
  obtain ⟨hx, hw, hby, hml, hEL, SK, hgB, hWD, hXD, hPD, YW, YX, YO, hxw, how, hox, g_r, g_ka, g_sa, g_ea, O0, Z00, hwS⟩ := H
  unfold RN LH
  dsimp only [Cx.p, Cx.ln, Cx.e, Cx.s, Cx.m, Cx.args, Cx.below, Cx.meth, Cx.c, Cx.zs, Cx.az, Cx.n0, Cx.h00, Cx.r, Cx.o, Cx.ka, Cx.sa, Cx.ea, Cx.wv, Cx.xv, Cx.ov, Cx.sc, Cx.g] at *
  intro T L kc ks hL hkc hks HL
  obtain ⟨q2, q3, rfl, g2, g3⟩ := hL
  obtain ⟨vm0, locs, k0, kv, sv, ev, X0, N0, K0, RS0, hS0, hk0, hZ, hown, CR0, TC0⟩ := HL
  have O := O0.keep K0 (all4 g_r g_ka g_sa g_ea)
  have hD := dk hby d21
  have Z0 := Nat.le_trans Z00 K0.1
  have htk' : tk < 1000 := by omega
  have eqle : (eqF g (g a) (0 : Int32) 60 (a + 1)) ≤ 56 := (eqF_bd 60 (a + 1) (by omega)).1
  have eqge : a ≤ (eqF g (g a) (0 : Int32) 60 (a + 1)) := by have := (eqF_bd (g := g) (q := g a) (esc := 0) 60 (a + 1) (by omega)).2 (by omega); omega
  obtain ⟨T344, X344, e344, st344⟩ := zF X0 hx hZ hown (hwi hw 112 rfl) rfl RS0.2.1.1 143 #[vR r, vI (g a), q2, q3] [] (hD 68 rfl)
  obtain ⟨T345, X345, e345, st345⟩ := zF X344 hx hZ hown (hwi hw 112 rfl) e344 RS0.2.1.1 162 #[vR r, vI (g a), vI (iN a), vI 0] [(.ref r), (.ref r)] (hD 80 rfl)
  have EZ345 := RS0.1.1
  obtain ⟨T346, L346, X346, e346, N346, st346⟩ := zV X345 hx hZ hown e345 EZ345 N0 (hwi hw 222 rfl) (declOf (hwi hw 223 rfl) (hwi hw 225 rfl)) (selOf (hwi hw 223 rfl) (hwi hw 224 rfl) (hwi hw 91 rfl) (by decide)) (hwi hw 223 rfl) (hwi hw 225 rfl) (hwi hw 88 rfl) (rmEQF l Z a0 hw [] r o a g (0 : Int32) T.heap n0 Z0 ha O SK EZ345 RS0.1.2.1 RS0.1.2.2.2.2.2.2 hgB) 181 #[vR r, vI (g a), vI (iN a), vI 0] [(.int 0), (.int (iN a)), (.ref r), (.ref r)] hml pd_29 (hD 89 rfl) 1 (hr := by (try dsimp only [rM, Pt.cells, Pt.slots]); omega)
  obtain ⟨T347, h347, X347, e347, W347, st347⟩ := putF X346 hx hZ hown (host := "") (Or.inl (hwi hw 112 rfl)) Via.refl e346 RS0.2.1.1 RS0.1.1 (Or.inl (hwi hw 113 rfl)) (hwi hw 91 rfl) (ty := .int) (by decide) rfl rfl (g := (mkF m 184 #[vR r, vI (g a), vI (iN a), vI 0] [(.int (iN (eqF g (g a) (0 : Int32) 60 (a + 1)))), (.ref r)])) rfl rfl (hD 90 rfl)
  have R347 := RS0.w_at (a' := (eqF g (g a) (0 : Int32) 60 (a + 1))) hw W347
  have N347 := Fr.snoc X347 N346 g_r
  have K347 := K0.wr W347 (Or.inl (List.mem_of_getElem? (i := 0) rfl))
  have Z347 := Nat.le_trans Z0 (Keep.of_wr W347).1
  have CR347 := CR0.trans (CHr.wr W347 (Safe.exa hZ.alike RS0.1.1 (by decide) (by decide)) CR0.1)
  have hk347 := Nat.le_trans hk0 (Keep.of_wr W347).1
  have O347 := O.wr W347 g_r
  obtain ⟨T348, X348, e348, st348⟩ := getS2 X347 hx hZ hown (host := "") (Or.inl (hwi hw 209 rfl)) Via.refl e347 (Sta.ext O347.2 hPD) (g := (mkF m 198 #[vR r, vI (g a), vI (iN a), vI 0] [(.ref r)])) rfl (hD 96 rfl)
  have ERt := R347.1.1
  obtain ⟨cq349, kq349, q349a, q349b, q349c⟩ := isOf hZ e348 ERt
  obtain ⟨_, _, ⟨T349, L349, k349, n349⟩, -, X349, hS2349, hg349, ⟨Lc349, hQ349, l349, y349, z349, C349⟩, st349⟩ := X348.virtualBackS hx hown (mvT hZ (hwi hw 150 rfl)) (mvT hZ (declOf (hwi hw 151 rfl) (hwi hw 153 rfl))) (notFace_of_selects (args := #[]) (mvT hZ (selOf (hwi hw 151 rfl) (hwi hw 152 rfl) (hwi hw 91 rfl) (by decide)))) (mvT hZ (selOf (hwi hw 151 rfl) (hwi hw 152 rfl) (hwi hw 91 rfl) (by decide))) (mvT hZ (hwi hw 151 rfl)) (by decide) (backOfSH (s := s) (vm0 := vm0) (EL := EL1) (W := 0) (rmTK l Z a0 hw [] r o ka sa ea sc g (eqF g (g a) (0 : Int32) 60 (a + 1)) tk le eb kv sv ev ov wv a h347 n0 Z347 htk' O347 SK hEL hgB hWD YO ⟨eqge, eqle⟩ (fun q => absurd q how) R347 g_r g_ka g_sa g_ea) hZ (hwi hw 153 rfl) (hwi hw 88 rfl) (by decide) (by decide) hEL CR347.1) q349a q349c (g := (mkF m 202 #[vR r, vI (g a), vI (iN a), vI 0] [(.int (iN a)), (.ref ov), (.ref r)])) rfl (by rw [hml]; rfl) (Steps.refl _) (argsL := [(.ref ov), (.int (iN a))]) (rest := []) (lenOf pd_22 rfl) rfl (by show 2 * 0 + _ ≤ _; exact Nat.le_of_eq rfl) (hD 98 rfl) (fun _ _ => ⟨rfl, e348, (by (try dsimp only [rM, Pt.cells, Pt.slots]); omega), (by (try dsimp only [rM, Pt.cells, Pt.slots]); omega)⟩)
  dsimp only [Pt.U, Pt.locs, Pt.cells, Pt.slots] at X349 l349 y349 z349 st349 hQ349 hS2349 hg349 C349
  subst y349 z349
  obtain ⟨rfl, N349q, K349, le349, eb349, hle349, R349⟩ := hQ349
  have N349 : Fr n0 L349 := by rw [l349]; exact Fr.app N347 N349q
  have CR349 := CR347.trans C349
  have hS349 := foldS hS0 (by rw [e348]; exact hk347) hS2349 hg349
  have hZ349 : Z.Warmed39 (s.setVm T349.vm).vm := State.Warmed39.trans hZ hS2349.1
  have hown349 := ownS (s := s) hS2349.1 hown
  obtain ⟨ql349, qe349⟩ := hle349
  rw [ql349, qe349] at R349
  have KK349 := K347.trans K349 (fun x z => Or.inl z)
  have Z349 := Nat.le_trans Z347 K349.1
  refine ⟨_, #[vR r, vI (g a), vI (iN a), vI 0], _, _, ⟨_, _, _, rfl, Or.inr ⟨_, rfl⟩, Or.inr ⟨_, rfl⟩, Or.inr ⟨_, rfl⟩⟩, ?_, ?_, ⟨T349.vm, _, _, _, _, _, X349, N349, KK349, R349, hS349, (by exact (Nat.le_refl _)), hZ349, hown349, CR349, (TC0.push htok)⟩, fun target kt => ?_⟩
  · (try dsimp only [rM]); omega
  · (try dsimp only [rM]); omega
  · show Steps p.tables e below (T.setTop (mkF m 130 #[vR r, vI (g a), q2, q3] [])) target
    refine zL X0 hx (hD 61 rfl) rfl ?_
    refine zB X0 hx (hD 62 rfl) ?_
    refine zN X0 hx (hD 63 rfl) (feq (by rw [h34]; decide)).1 ?_
    refine zL X0 hx (hD 64 rfl) rfl ?_
    refine zB X0 hx (hD 65 rfl) ?_
    refine zN X0 hx (hD 66 rfl) (teq h34).2 ?_
    refine zA X0 hx (hD 67 rfl) rfl rfl ?_
    refine st344 _ ?_
    refine zS X344 hx (hD 69 rfl) (L' := #[vR r, vI (g a), vI (iN a), q3]) (by rcases g2 with rfl | ⟨_, rfl⟩ <;> rcases g3 with rfl | ⟨_, rfl⟩ <;> rfl) ?_
    refine zL X344 hx (hD 70 rfl) rfl ?_
    refine zB X344 hx (hD 71 rfl) ?_
    refine zM X344 hx 157 (hD 72 rfl) (feq (by rw [h34]; decide)).2 rfl ?_
    refine zC X344 hx (hD 75 rfl) ?_
    refine zS X344 hx (hD 76 rfl) (L' := #[vR r, vI (g a), vI (iN a), vI 0]) (by rcases g2 with rfl | ⟨_, rfl⟩ <;> rcases g3 with rfl | ⟨_, rfl⟩ <;> rfl) ?_
    refine zA X344 hx (hD 77 rfl) rfl rfl ?_
    refine zA X344 hx (hD 78 rfl) rfl rfl ?_
    refine zA X344 hx (hD 79 rfl) rfl rfl ?_
    refine st345 _ ?_
    refine zL X345 hx (hD 81 rfl) rfl ?_
    refine zI X345 hx 180 (hD 82 rfl) ((if0 _ _).trans (teq (rfl : (0 : Int32) = 0)).1) rfl ?_
    refine zC X345 hx (hD 88 rfl) ?_
    refine st346 _ ?_
    refine st347 _ ?_
    refine zA X347 hx (hD 91 rfl) rfl rfl ?_
    refine zL X347 hx (hD 92 rfl) rfl ?_
    refine zI X347 hx 198 (hD 93 rfl) ((if0 _ _).trans (teq (rfl : (0 : Int32) = 0)).1) rfl ?_
    refine st348 _ ?_
    refine zL X348 hx (hD 97 rfl) rfl ?_
    refine st349.trans ?_
    refine zG X349 hx 349 (hD 99 rfl) rfl ?_
    refine zG X349 hx 0 (hD 168 rfl) rfl ?_
    exact kt
theorem rdDL (C : Cx) (H : CxOk C) (tk : Nat) (le eb : Int32) (cv : Nat → Int32) (htk : tk < 900) (h36 : C.g 36 = 36) (h37 : C.g 37 = 36) (h38 : C.g 38 = 59) (h39 : C.g 39 = 36) (h40 : C.g 40 = 36) (htok : tokP C.wv C.xv C.ov C.g C.xv 36 41 100) : RN C (GM C.r (C.g 36)) 130 ⟨36, tk, le, eb, cv⟩ (GL C.r) 0 ⟨41, tk + 1, le, eb, tkU cv tk 100⟩ 4 30 := by
  obtain ⟨p, l, e, s, m, args, below, meth, c, Z, a0, n0, h00, r, o, ka, sa, ea, wv, xv, ov, sc, g⟩ := C
  obtain ⟨hx, hw, hby, hml, hEL, SK, hgB, hWD, hXD, hPD, YW, YX, YO, hxw, how, hox, g_r, g_ka, g_sa, g_ea, O0, Z00, hwS⟩ := H
  unfold RN LH
  dsimp only [Cx.p, Cx.ln, Cx.e, Cx.s, Cx.m, Cx.args, Cx.below, Cx.meth, Cx.c, Cx.zs, Cx.az, Cx.n0, Cx.h00, Cx.r, Cx.o, Cx.ka, Cx.sa, Cx.ea, Cx.wv, Cx.xv, Cx.ov, Cx.sc, Cx.g] at *
  intro T L kc ks hL hkc hks HL
  obtain ⟨q2, q3, rfl, g2, g3⟩ := hL
  obtain ⟨vm0, locs, k0, kv, sv, ev, X0, N0, K0, RS0, hS0, hk0, hZ, hown, CR0, TC0⟩ := HL
  have O := O0.keep K0 (all4 g_r g_ka g_sa g_ea)
  have hD := dk hby d21
  have Z0 := Nat.le_trans Z00 K0.1
  have htk' : tk < 1000 := by omega
  have EZ349 := RS0.1.1
  obtain ⟨T350, L350, X350, e350, N350, st350⟩ := zV X0 hx hZ hown rfl EZ349 N0 (hwi hw 241 rfl) (declOf (hwi hw 242 rfl) (hwi hw 244 rfl)) (selOf (hwi hw 242 rfl) (hwi hw 243 rfl) (hwi hw 91 rfl) (by decide)) (hwi hw 242 rfl) (hwi hw 244 rfl) (hwi hw 88 rfl) (rmDDL l Z a0 hw [] r o ka sa ea sc g tk le eb kv sv ev T.heap n0 Z0 O SK RS0 hgB h37) 215 #[vR r, vI (g 36), q2, q3] [(.ref r)] hml pd_3 (hD 104 rfl) 0 (hr := by (try dsimp only [rM, Pt.cells, Pt.slots]); omega)
  obtain ⟨T351, X351, e351, st351⟩ := zF X350 hx hZ hown (hwi hw 112 rfl) e350 RS0.2.1.1 222 #[vR r, vI (g 36), q2, q3] [] (hD 107 rfl)
  have EZ351 := RS0.1.1
  obtain ⟨cq352, kq352, q352a, q352b, q352c⟩ := isOf hZ e351 EZ351
  obtain ⟨_, _, ⟨T352, L352, k352, n352⟩, -, X352, ⟨Lc352, hQ352, l352, y352, z352⟩, st352⟩ := X351.virtualBack hx hown (mvT hZ (hwi hw 245 rfl)) (mvT hZ (declOf (hwi hw 246 rfl) (hwi hw 248 rfl))) (notFace_of_selects (args := #[]) (mvT hZ (selOf (hwi hw 246 rfl) (hwi hw 247 rfl) (hwi hw 91 rfl) (by decide)))) (mvT hZ (selOf (hwi hw 246 rfl) (hwi hw 247 rfl) (hwi hw 91 rfl) (by decide))) (mvT hZ (hwi hw 246 rfl)) (by decide) (backOf (W := 1) (rmEDQ l Z a0 hw [] r o ka sa ea sc g tk le eb kv sv ev T.heap n0 Z0 O SK RS0 hgB h36 h37 h38 h39 h40) hZ (hwi hw 248 rfl) (hwi hw 88 rfl) (by decide) (by decide)) q352a q352c (g := (mkF m 228 #[vR r, vI (g 36), vI 36, q3] [(.ref r), (.ref r)])) rfl (by rw [hml]; rfl) (Steps.refl _) (argsL := []) (rest := [(.ref r)]) (lenOf pd_3 rfl) rfl (by show 2 * 0 + _ ≤ _; exact Nat.le_of_eq rfl) (hD 111 rfl) (fun _ _ => ⟨rfl, e351, (by (try dsimp only [rM, Pt.cells, Pt.slots]); omega), (by (try dsimp only [rM, Pt.cells, Pt.slots]); omega)⟩)
  dsimp only [Pt.U, Pt.locs, Pt.cells, Pt.slots] at X352 l352 y352 z352 st352 hQ352
  subst y352 z352
  obtain ⟨rfl, N352q, E352⟩ := hQ352
  have N352 : Fr n0 L352 := by rw [l352]; exact Fr.app N350 N352q
  have R352 := RS0.ext E352
  have K352 := K0.ext E352
  have Z352 := Nat.le_trans Z0 E352.1
  have O352 := O.ext E352
  have CR352 := CR0.trans (CHr.ext E352 CR0.1)
  have hk352 := Nat.le_trans hk0 E352.1
  obtain ⟨T353, h353, X353, e353, W353, st353⟩ := putF X352 hx hZ hown (host := "") (Or.inl (hwi hw 112 rfl)) Via.refl rfl R352.2.1.1 R352.1.1 (Or.inl (hwi hw 113 rfl)) (hwi hw 91 rfl) (ty := .int) (by decide) rfl rfl (g := (mkF m 231 #[vR r, vI (g 36), vI 36, q3] [(.int 41), (.ref r)])) rfl rfl (hD 112 rfl)
  have R353 := R352.w_at (a' := 41) hw W353
  have N353 := Fr.snoc X353 N352 g_r
  have K353 := K352.wr W353 (Or.inl (List.mem_of_getElem? (i := 0) rfl))
  have Z353 := Nat.le_trans Z352 (Keep.of_wr W353).1
  have CR353 := CR352.trans (CHr.wr W353 (Safe.exa hZ.alike R352.1.1 (by decide) (by decide)) CR352.1)
  have hk353 := Nat.le_trans hk352 (Keep.of_wr W353).1
  have O353 := O352.wr W353 g_r
  obtain ⟨T354, X354, e354, st354⟩ := getS2 X353 hx hZ hown (host := "") (Or.inl (hwi hw 226 rfl)) Via.refl e353 (Sta.ext O353.2 hXD) (g := (mkF m 235 #[vR r, vI (g 36), vI 36, q3] [(.ref r)])) rfl (hD 114 rfl)
  have ERt := R353.1.1
  obtain ⟨cq355, kq355, q355a, q355b, q355c⟩ := isOf hZ e354 ERt
  obtain ⟨_, _, ⟨T355, L355, k355, n355⟩, -, X355, hS2355, hg355, ⟨Lc355, hQ355, l355, y355, z355, C355⟩, st355⟩ := X354.virtualBackS hx hown (mvT hZ (hwi hw 150 rfl)) (mvT hZ (declOf (hwi hw 151 rfl) (hwi hw 153 rfl))) (notFace_of_selects (args := #[]) (mvT hZ (selOf (hwi hw 151 rfl) (hwi hw 152 rfl) (hwi hw 91 rfl) (by decide)))) (mvT hZ (selOf (hwi hw 151 rfl) (hwi hw 152 rfl) (hwi hw 91 rfl) (by decide))) (mvT hZ (hwi hw 151 rfl)) (by decide) (backOfSH (s := s) (vm0 := vm0) (EL := EL1) (W := 0) (rmTK l Z a0 hw [] r o ka sa ea sc g 41 tk le eb kv sv ev xv wv 36 h353 n0 Z353 htk' O353 SK hEL hgB hWD YX ⟨by decide, by decide⟩ (fun q => absurd q hxw) R353 g_r g_ka g_sa g_ea) hZ (hwi hw 153 rfl) (hwi hw 88 rfl) (by decide) (by decide) hEL CR353.1) q355a q355c (g := (mkF m 239 #[vR r, vI (g 36), vI 36, q3] [(.int 36), (.ref xv), (.ref r)])) rfl (by rw [hml]; rfl) (Steps.refl _) (argsL := [(.ref xv), (.int 36)]) (rest := []) (lenOf pd_22 rfl) rfl (by show 2 * 0 + _ ≤ _; exact Nat.le_of_eq rfl) (hD 116 rfl) (fun _ _ => ⟨rfl, e354, (by (try dsimp only [rM, Pt.cells, Pt.slots]); omega), (by (try dsimp only [rM, Pt.cells, Pt.slots]); omega)⟩)
  dsimp only [Pt.U, Pt.locs, Pt.cells, Pt.slots] at X355 l355 y355 z355 st355 hQ355 hS2355 hg355 C355
  subst y355 z355
  obtain ⟨rfl, N355q, K355, le355, eb355, hle355, R355⟩ := hQ355
  have N355 : Fr n0 L355 := by rw [l355]; exact Fr.app N353 N355q
  have CR355 := CR353.trans C355
  have hS355 := foldS hS0 (by rw [e354]; exact hk353) hS2355 hg355
  have hZ355 : Z.Warmed39 (s.setVm T355.vm).vm := State.Warmed39.trans hZ hS2355.1
  have hown355 := ownS (s := s) hS2355.1 hown
  obtain ⟨ql355, qe355⟩ := hle355
  rw [ql355, qe355] at R355
  have KK355 := K353.trans K355 (fun x z => Or.inl z)
  have Z355 := Nat.le_trans Z353 K355.1
  refine ⟨_, #[vR r, vI (g 36), vI 36, q3], _, _, ⟨_, _, _, rfl, Or.inr ⟨_, rfl⟩, Or.inr ⟨_, rfl⟩, g3⟩, ?_, ?_, ⟨T355.vm, _, _, _, _, _, X355, N355, KK355, R355, hS355, (by exact (Nat.le_refl _)), hZ355, hown355, CR355, (TC0.push htok)⟩, fun target kt => ?_⟩
  · (try dsimp only [rM]); omega
  · (try dsimp only [rM]); omega
  · show Steps p.tables e below (T.setTop (mkF m 130 #[vR r, vI (g 36), q2, q3] [])) target
    refine zL X0 hx (hD 61 rfl) rfl ?_
    refine zB X0 hx (hD 62 rfl) ?_
    refine zN X0 hx (hD 63 rfl) (feq (by rw [h36]; decide)).1 ?_
    refine zL X0 hx (hD 64 rfl) rfl ?_
    refine zB X0 hx (hD 65 rfl) ?_
    refine zM X0 hx 208 (hD 66 rfl) (feq (by rw [h36]; decide)).2 rfl ?_
    refine zL X0 hx (hD 100 rfl) rfl ?_
    refine zB X0 hx (hD 101 rfl) ?_
    refine zN X0 hx (hD 102 rfl) (teq h36).2 ?_
    refine zA X0 hx (hD 103 rfl) rfl rfl ?_
    refine st350 _ ?_
    refine zJ X350 hx (hD 105 rfl) ((if0 _ _).trans (tlt (by decide : (0 : Int32) < (2 : Int32))).2.2.2) ?_
    refine zA X350 hx (hD 106 rfl) rfl rfl ?_
    refine st351 _ ?_
    refine zS X351 hx (hD 108 rfl) (L' := #[vR r, vI (g 36), vI 36, q3]) (by rcases g2 with rfl | ⟨_, rfl⟩ <;> rcases g3 with rfl | ⟨_, rfl⟩ <;> rfl) ?_
    refine zA X351 hx (hD 109 rfl) rfl rfl ?_
    refine zA X351 hx (hD 110 rfl) rfl rfl ?_
    refine st352.trans ?_
    refine st353 _ ?_
    refine zA X353 hx (hD 113 rfl) rfl rfl ?_
    refine st354 _ ?_
    refine zL X354 hx (hD 115 rfl) rfl ?_
    refine st355.trans ?_
    refine zG X355 hx 349 (hD 117 rfl) rfl ?_
    refine zG X355 hx 0 (hD 168 rfl) rfl ?_
    exact kt
theorem rdWA (C : Cx) (H : CxOk C) (a tk : Nat) (le eb : Int32) (cv : Nat → Int32) (htk : tk < 900) (n39 : ¬ (C.g a = 39)) (n34 : ¬ (C.g a = 34)) (n36 : ¬ (C.g a = 36)) (e1 : Nat) (hae : a < e1) (he56 : e1 < 56) (hid : ∀ j, a ≤ j → j < e1 → ¬ (f_ip (C.g j) = 0)) (hst : f_ip (C.g e1) = 0) (his : ¬ (f_is (C.g a) = 0)) (hone : ¬ (e1 - a = 1)) (hbeg : ¬ kwP C.g (gl kl158) a e1 5) (cd : Int32) (htok : tokP C.wv C.xv C.ov C.g C.wv a e1 cd) : RN C (GM C.r (C.g a)) 130 ⟨a, tk, le, eb, cv⟩ (GL C.r) 0 ⟨e1, tk + 1, le, eb, tkU cv tk cd⟩ 2 24 := by
  obtain ⟨p, l, e, s, m, args, below, meth, c, Z, a0, n0, h00, r, o, ka, sa, ea, wv, xv, ov, sc, g⟩ := C
  obtain ⟨hx, hw, hby, hml, hEL, SK, hgB, hWD, hXD, hPD, YW, YX, YO, hxw, how, hox, g_r, g_ka, g_sa, g_ea, O0, Z00, hwS⟩ := H
  unfold RN LH
  dsimp only [Cx.p, Cx.ln, Cx.e, Cx.s, Cx.m, Cx.args, Cx.below, Cx.meth, Cx.c, Cx.zs, Cx.az, Cx.n0, Cx.h00, Cx.r, Cx.o, Cx.ka, Cx.sa, Cx.ea, Cx.wv, Cx.xv, Cx.ov, Cx.sc, Cx.g] at *
  intro T L kc ks hL hkc hks HL
  obtain ⟨q2, q3, rfl, g2, g3⟩ := hL
  obtain ⟨vm0, locs, k0, kv, sv, ev, X0, N0, K0, RS0, hS0, hk0, hZ, hown, CR0, TC0⟩ := HL
  have O := O0.keep K0 (all4 g_r g_ka g_sa g_ea)
  have hD := dk hby d21
  have Z0 := Nat.le_trans Z00 K0.1
  have htk' : tk < 1000 := by omega
  obtain ⟨T356, L356, X356, e356, N356, st356⟩ := zT X0 hx hZ hown rfl N0 (hwi hw 131 rfl) (hwi hw 132 rfl) (hwi hw 88 rfl) (hwi hw 133 rfl) (rm_is l Z a0 hw [] (g a) T.heap n0 Z0 ) 246 #[vR r, vI (g a), q2, q3] [(.int (g a))] hml pd_18 (hD 119 rfl) 0 (hr := by (try dsimp only [rM, Pt.cells, Pt.slots]); omega)
  have EZ356 := RS0.1.1
  obtain ⟨cq357, kq357, q357a, q357b, q357c⟩ := isOf hZ e356 EZ356
  obtain ⟨_, _, ⟨T357, L357, k357, n357⟩, -, X357, hS2357, hg357, ⟨Lc357, hQ357, l357, y357, z357, C357⟩, st357⟩ := X356.virtualBackS hx hown (mvT hZ (hwi hw 134 rfl)) (mvT hZ (declOf (hwi hw 135 rfl) (hwi hw 137 rfl))) (notFace_of_selects (args := #[]) (mvT hZ (selOf (hwi hw 135 rfl) (hwi hw 136 rfl) (hwi hw 91 rfl) (by decide)))) (mvT hZ (selOf (hwi hw 135 rfl) (hwi hw 136 rfl) (hwi hw 91 rfl) (by decide))) (mvT hZ (hwi hw 135 rfl)) (by decide) (backOfSH (s := s) (vm0 := vm0) (EL := EL1) (W := 0) (rmRWA l Z a0 hw [] r o ka sa ea sc g a tk le eb kv sv ev wv e1 T.heap n0 Z0 htk' O SK hEL hgB hWD YW RS0 g_r g_ka g_sa g_ea hae he56 hid hst hone hbeg) hZ (hwi hw 137 rfl) (hwi hw 88 rfl) (by decide) (by decide) hEL CR0.1) q357a q357c (g := (mkF m 253 #[vR r, vI (g a), q2, q3] [(.ref r)])) rfl (by rw [hml]; rfl) (Steps.refl _) (argsL := []) (rest := []) (lenOf pd_12 rfl) rfl (by show 2 * 0 + _ ≤ _; exact Nat.le_of_eq rfl) (hD 122 rfl) (fun _ _ => ⟨rfl, e356, (by (try dsimp only [rM, Pt.cells, Pt.slots]); omega), (by (try dsimp only [rM, Pt.cells, Pt.slots]); omega)⟩)
  dsimp only [Pt.U, Pt.locs, Pt.cells, Pt.slots] at X357 l357 y357 z357 st357 hQ357 hS2357 hg357 C357
  subst y357 z357
  obtain ⟨rfl, N357q, K357, le357, eb357, hle357, R357⟩ := hQ357
  have N357 : Fr n0 L357 := by rw [l357]; exact Fr.app N356 N357q
  have CR357 := CR0.trans C357
  have hS357 := foldS hS0 (by rw [e356]; exact hk0) hS2357 hg357
  have hZ357 : Z.Warmed39 (s.setVm T357.vm).vm := State.Warmed39.trans hZ hS2357.1
  have hown357 := ownS (s := s) hS2357.1 hown
  obtain ⟨ql357, qe357⟩ := hle357
  rw [ql357, qe357] at R357
  have KK357 := K0.trans K357 (fun x z => Or.inl z)
  refine ⟨_, #[vR r, vI (g a), q2, q3], _, _, ⟨_, _, _, rfl, Or.inr ⟨_, rfl⟩, g2, g3⟩, ?_, ?_, ⟨T357.vm, _, _, _, _, _, X357, N357, KK357, R357, hS357, (by exact (Nat.le_refl _)), hZ357, hown357, CR357, (TC0.push htok)⟩, fun target kt => ?_⟩
  · (try dsimp only [rM]); omega
  · (try dsimp only [rM]); omega
  · show Steps p.tables e below (T.setTop (mkF m 130 #[vR r, vI (g a), q2, q3] [])) target
    refine zL X0 hx (hD 61 rfl) rfl ?_
    refine zB X0 hx (hD 62 rfl) ?_
    refine zN X0 hx (hD 63 rfl) (feq n39).1 ?_
    refine zL X0 hx (hD 64 rfl) rfl ?_
    refine zB X0 hx (hD 65 rfl) ?_
    refine zM X0 hx 208 (hD 66 rfl) (feq n34).2 rfl ?_
    refine zL X0 hx (hD 100 rfl) rfl ?_
    refine zB X0 hx (hD 101 rfl) ?_
    refine zM X0 hx 245 (hD 102 rfl) (feq n36).2 rfl ?_
    refine zL X0 hx (hD 118 rfl) rfl ?_
    refine st356 _ ?_
    refine zJ X356 hx (hD 120 rfl) ((if0 _ _).trans (feq his).1) ?_
    refine zA X356 hx (hD 121 rfl) rfl rfl ?_
    refine st357.trans ?_
    refine zG X357 hx 349 (hD 123 rfl) rfl ?_
    refine zG X357 hx 0 (hD 168 rfl) rfl ?_
    exact kt
theorem rdWB (C : Cx) (H : CxOk C) (a tk : Nat) (le eb : Int32) (cv : Nat → Int32) (htk : tk < 900) (n39 : ¬ (C.g a = 39)) (n34 : ¬ (C.g a = 34)) (n36 : ¬ (C.g a = 36)) (e1 : Nat) (hae : a < e1) (he56 : e1 < 56) (hid : ∀ j, a ≤ j → j < e1 → ¬ (f_ip (C.g j) = 0)) (hst : f_ip (C.g e1) = 0) (his : ¬ (f_is (C.g a) = 0)) (hone : e1 - a = 1) (hlc : f_lc (C.g a) = 101) (h39 : C.g e1 = 39) (htok : tokP C.wv C.xv C.ov C.g C.xv a (eqF C.g (C.g e1) (1 : Int32) 60 (e1 + 1)) 100) : RN C (GM C.r (C.g a)) 130 ⟨a, tk, le, eb, cv⟩ (GL C.r) 0 ⟨(eqF C.g (C.g e1) (1 : Int32) 60 (e1 + 1)), tk + 1, le, eb, tkU cv tk 100⟩ 2 24 := by
  obtain ⟨p, l, e, s, m, args, below, meth, c, Z, a0, n0, h00, r, o, ka, sa, ea, wv, xv, ov, sc, g⟩ := C
  obtain ⟨hx, hw, hby, hml, hEL, SK, hgB, hWD, hXD, hPD, YW, YX, YO, hxw, how, hox, g_r, g_ka, g_sa, g_ea, O0, Z00, hwS⟩ := H
  unfold RN LH
  dsimp only [Cx.p, Cx.ln, Cx.e, Cx.s, Cx.m, Cx.args, Cx.below, Cx.meth, Cx.c, Cx.zs, Cx.az, Cx.n0, Cx.h00, Cx.r, Cx.o, Cx.ka, Cx.sa, Cx.ea, Cx.wv, Cx.xv, Cx.ov, Cx.sc, Cx.g] at *
  intro T L kc ks hL hkc hks HL
  obtain ⟨q2, q3, rfl, g2, g3⟩ := hL
  obtain ⟨vm0, locs, k0, kv, sv, ev, X0, N0, K0, RS0, hS0, hk0, hZ, hown, CR0, TC0⟩ := HL
  have O := O0.keep K0 (all4 g_r g_ka g_sa g_ea)
  have hD := dk hby d21
  have Z0 := Nat.le_trans Z00 K0.1
  have htk' : tk < 1000 := by omega
  obtain ⟨T358, L358, X358, e358, N358, st358⟩ := zT X0 hx hZ hown rfl N0 (hwi hw 131 rfl) (hwi hw 132 rfl) (hwi hw 88 rfl) (hwi hw 133 rfl) (rm_is l Z a0 hw [] (g a) T.heap n0 Z0 ) 246 #[vR r, vI (g a), q2, q3] [(.int (g a))] hml pd_18 (hD 119 rfl) 0 (hr := by (try dsimp only [rM, Pt.cells, Pt.slots]); omega)
  have EZ358 := RS0.1.1
  obtain ⟨cq359, kq359, q359a, q359b, q359c⟩ := isOf hZ e358 EZ358
  obtain ⟨_, _, ⟨T359, L359, k359, n359⟩, -, X359, hS2359, hg359, ⟨Lc359, hQ359, l359, y359, z359, C359⟩, st359⟩ := X358.virtualBackS hx hown (mvT hZ (hwi hw 134 rfl)) (mvT hZ (declOf (hwi hw 135 rfl) (hwi hw 137 rfl))) (notFace_of_selects (args := #[]) (mvT hZ (selOf (hwi hw 135 rfl) (hwi hw 136 rfl) (hwi hw 91 rfl) (by decide)))) (mvT hZ (selOf (hwi hw 135 rfl) (hwi hw 136 rfl) (hwi hw 91 rfl) (by decide))) (mvT hZ (hwi hw 135 rfl)) (by decide) (backOfSH (s := s) (vm0 := vm0) (EL := EL1) (W := 0) (rmRWB l Z a0 hw [] r o ka sa ea sc g a tk le eb kv sv ev wv xv e1 T.heap n0 Z0 htk' O SK hEL hgB hWD YX RS0 g_r g_ka g_sa g_ea hae he56 hid hst hXD hxw hone hlc h39) hZ (hwi hw 137 rfl) (hwi hw 88 rfl) (by decide) (by decide) hEL CR0.1) q359a q359c (g := (mkF m 253 #[vR r, vI (g a), q2, q3] [(.ref r)])) rfl (by rw [hml]; rfl) (Steps.refl _) (argsL := []) (rest := []) (lenOf pd_12 rfl) rfl (by show 2 * 0 + _ ≤ _; exact Nat.le_of_eq rfl) (hD 122 rfl) (fun _ _ => ⟨rfl, e358, (by (try dsimp only [rM, Pt.cells, Pt.slots]); omega), (by (try dsimp only [rM, Pt.cells, Pt.slots]); omega)⟩)
  dsimp only [Pt.U, Pt.locs, Pt.cells, Pt.slots] at X359 l359 y359 z359 st359 hQ359 hS2359 hg359 C359
  subst y359 z359
  obtain ⟨rfl, N359q, K359, le359, eb359, hle359, R359⟩ := hQ359
  have N359 : Fr n0 L359 := by rw [l359]; exact Fr.app N358 N359q
  have CR359 := CR0.trans C359
  have hS359 := foldS hS0 (by rw [e358]; exact hk0) hS2359 hg359
  have hZ359 : Z.Warmed39 (s.setVm T359.vm).vm := State.Warmed39.trans hZ hS2359.1
  have hown359 := ownS (s := s) hS2359.1 hown
  obtain ⟨ql359, qe359⟩ := hle359
  rw [ql359, qe359] at R359
  have KK359 := K0.trans K359 (fun x z => Or.inl z)
  refine ⟨_, #[vR r, vI (g a), q2, q3], _, _, ⟨_, _, _, rfl, Or.inr ⟨_, rfl⟩, g2, g3⟩, ?_, ?_, ⟨T359.vm, _, _, _, _, _, X359, N359, KK359, R359, hS359, (by exact (Nat.le_refl _)), hZ359, hown359, CR359, (TC0.push htok)⟩, fun target kt => ?_⟩
  · (try dsimp only [rM]); omega
  · (try dsimp only [rM]); omega
  · show Steps p.tables e below (T.setTop (mkF m 130 #[vR r, vI (g a), q2, q3] [])) target
    refine zL X0 hx (hD 61 rfl) rfl ?_
    refine zB X0 hx (hD 62 rfl) ?_
    refine zN X0 hx (hD 63 rfl) (feq n39).1 ?_
    refine zL X0 hx (hD 64 rfl) rfl ?_
    refine zB X0 hx (hD 65 rfl) ?_
    refine zM X0 hx 208 (hD 66 rfl) (feq n34).2 rfl ?_
    refine zL X0 hx (hD 100 rfl) rfl ?_
    refine zB X0 hx (hD 101 rfl) ?_
    refine zM X0 hx 245 (hD 102 rfl) (feq n36).2 rfl ?_
    refine zL X0 hx (hD 118 rfl) rfl ?_
    refine st358 _ ?_
    refine zJ X358 hx (hD 120 rfl) ((if0 _ _).trans (feq his).1) ?_
    refine zA X358 hx (hD 121 rfl) rfl rfl ?_
    refine st359.trans ?_
    refine zG X359 hx 349 (hD 123 rfl) rfl ?_
    refine zG X359 hx 0 (hD 168 rfl) rfl ?_
    exact kt
theorem rdNM (C : Cx) (H : CxOk C) (a tk : Nat) (le eb : Int32) (cv : Nat → Int32) (ha2 : a + 2 < 56) (htk : tk < 900) (n39 : ¬ (C.g a = 39)) (n34 : ¬ (C.g a = 34)) (n36 : ¬ (C.g a = 36)) (nis : f_is (C.g a) = 0) (hdg : ¬ (f_dg (C.g a) = 0)) (p0 : ¬ (f_np (C.g a) = 0)) (p1 : ¬ (f_np (C.g (a + 1)) = 0)) (p2 : f_np (C.g (a + 2)) = 0) (htok : tokP C.wv C.xv C.ov C.g C.ov a (a + 2) 101) : RN C (GM C.r (C.g a)) 130 ⟨a, tk, le, eb, cv⟩ (GL C.r) 0 ⟨a + 2, tk + 1, le, eb, tkU cv tk 101⟩ 2 24 := by
  obtain ⟨p, l, e, s, m, args, below, meth, c, Z, a0, n0, h00, r, o, ka, sa, ea, wv, xv, ov, sc, g⟩ := C
  obtain ⟨hx, hw, hby, hml, hEL, SK, hgB, hWD, hXD, hPD, YW, YX, YO, hxw, how, hox, g_r, g_ka, g_sa, g_ea, O0, Z00, hwS⟩ := H
  unfold RN LH
  dsimp only [Cx.p, Cx.ln, Cx.e, Cx.s, Cx.m, Cx.args, Cx.below, Cx.meth, Cx.c, Cx.zs, Cx.az, Cx.n0, Cx.h00, Cx.r, Cx.o, Cx.ka, Cx.sa, Cx.ea, Cx.wv, Cx.xv, Cx.ov, Cx.sc, Cx.g] at *
  intro T L kc ks hL hkc hks HL
  obtain ⟨q2, q3, rfl, g2, g3⟩ := hL
  obtain ⟨vm0, locs, k0, kv, sv, ev, X0, N0, K0, RS0, hS0, hk0, hZ, hown, CR0, TC0⟩ := HL
  have O := O0.keep K0 (all4 g_r g_ka g_sa g_ea)
  have hD := dk hby d21
  have Z0 := Nat.le_trans Z00 K0.1
  have htk' : tk < 1000 := by omega
  have ha : a < 56 := by omega
  obtain ⟨T360, L360, X360, e360, N360, st360⟩ := zT X0 hx hZ hown rfl N0 (hwi hw 131 rfl) (hwi hw 132 rfl) (hwi hw 88 rfl) (hwi hw 133 rfl) (rm_is l Z a0 hw [] (g a) T.heap n0 Z0 ) 246 #[vR r, vI (g a), q2, q3] [(.int (g a))] hml pd_18 (hD 119 rfl) 0 (hr := by (try dsimp only [rM, Pt.cells, Pt.slots]); omega)
  obtain ⟨T361, L361, X361, e361, N361, st361⟩ := zT X360 hx hZ hown e360 N360 (hwi hw 141 rfl) (hwi hw 142 rfl) (hwi hw 88 rfl) (hwi hw 143 rfl) (rm_dg l Z a0 hw [] (g a) T.heap n0 Z0 ) 260 #[vR r, vI (g a), q2, q3] [(.int (g a))] hml pd_18 (hD 125 rfl) 0 (hr := by (try dsimp only [rM, Pt.cells, Pt.slots]); omega)
  obtain ⟨T362, X362, e362, st362⟩ := zF X361 hx hZ hown (hwi hw 112 rfl) e361 RS0.2.1.1 267 #[vR r, vI (g a), q2, q3] [] (hD 128 rfl)
  obtain ⟨T363, X363, e363, st363⟩ := zF X362 hx hZ hown (hwi hw 112 rfl) e362 RS0.2.1.1 272 #[vR r, vI (g a), vI (iN a), q3] [] (hD 131 rfl)
  obtain ⟨T364, X364, e364, st364⟩ := zF X363 hx hZ hown (hwi hw 104 rfl) e363 RS0.1.2.1 276 #[vR r, vI (g a), vI (iN a), q3] [(.int (iN a))] (hD 133 rfl)
  obtain ⟨T365, L365, X365, e365, N365, st365⟩ := vLEN X364 hx hZ hown e364 N361 hw (hwi hw 114 rfl) Z0 (by decide) O SK RS0.1.2.2.2.2.2.2 279 #[vR r, vI (g a), vI (iN a), q3] [(.int (iN a))] hml (hD 134 rfl) 1 (hr := by (try dsimp only [rM, Pt.cells, Pt.slots]); omega)
  obtain ⟨T366, X366, e366, st366⟩ := zF X365 hx hZ hown (hwi hw 104 rfl) e365 RS0.1.2.1 286 #[vR r, vI (g a), vI (iN a), q3] [] (hD 137 rfl)
  obtain ⟨T367, X367, e367, st367⟩ := zF X366 hx hZ hown (hwi hw 112 rfl) e366 RS0.2.1.1 290 #[vR r, vI (g a), vI (iN a), q3] [(.ref o)] (hD 139 rfl)
  obtain ⟨T368, L368, X368, e368, N368, st368⟩ := vCA X367 hx hZ hown e367 N365 hw (hwi hw 115 rfl) Z0 (by decide) a (iN a) (by omega) O SK RS0.1.2.2.2.2.2.2 (hgB _) 293 #[vR r, vI (g a), vI (iN a), q3] [] hml (hD 140 rfl) 0 (hr := by (try dsimp only [rM, Pt.cells, Pt.slots]); omega)
  obtain ⟨T369, L369, X369, e369, N369, st369⟩ := zT X368 hx hZ hown e368 N368 (hwi hw 206 rfl) (hwi hw 207 rfl) (hwi hw 88 rfl) (hwi hw 208 rfl) (rm_np l Z a0 hw [] (g a) T.heap n0 Z0 ) 296 #[vR r, vI (g a), vI (iN a), q3] [(.int (g a))] hml pd_18 (hD 141 rfl) 0 (hr := by (try dsimp only [rM, Pt.cells, Pt.slots]); omega)
  obtain ⟨T370, X370, e370, st370⟩ := zF X369 hx hZ hown (hwi hw 112 rfl) e369 RS0.2.1.1 304 #[vR r, vI (g a), vI (iN a), q3] [(.ref r)] (hD 145 rfl)
  obtain ⟨T371, h371, X371, e371, W371, st371⟩ := putF X370 hx hZ hown (host := "") (Or.inl (hwi hw 112 rfl)) Via.refl e370 RS0.2.1.1 RS0.1.1 (Or.inl (hwi hw 113 rfl)) (hwi hw 91 rfl) (ty := .int) (by decide) rfl rfl (g := (mkF m 309 #[vR r, vI (g a), vI (iN a), q3] [(.int (iN (a + 1))), (.ref r)])) rfl rfl (hD 148 rfl)
  have R371 := RS0.w_at (a' := (a + 1)) hw W371
  have N371 := Fr.snoc X371 N369 g_r
  have K371 := K0.wr W371 (Or.inl (List.mem_of_getElem? (i := 0) rfl))
  have Z371 := Nat.le_trans Z0 (Keep.of_wr W371).1
  have CR371 := CR0.trans (CHr.wr W371 (Safe.exa hZ.alike RS0.1.1 (by decide) (by decide)) CR0.1)
  have hk371 := Nat.le_trans hk0 (Keep.of_wr W371).1
  have O371 := O.wr W371 g_r
  obtain ⟨T372, X372, e372, st372⟩ := zF X371 hx hZ hown (hwi hw 112 rfl) e371 R371.2.1.1 272 #[vR r, vI (g a), vI (iN a), q3] [] (hD 131 rfl)
  obtain ⟨T373, X373, e373, st373⟩ := zF X372 hx hZ hown (hwi hw 104 rfl) e372 R371.1.2.1 276 #[vR r, vI (g a), vI (iN a), q3] [(.int (iN (a + 1)))] (hD 133 rfl)
  obtain ⟨T374, L374, X374, e374, N374, st374⟩ := vLEN X373 hx hZ hown e373 N371 hw (hwi hw 114 rfl) Z371 (by decide) O371 SK R371.1.2.2.2.2.2.2 279 #[vR r, vI (g a), vI (iN a), q3] [(.int (iN (a + 1)))] hml (hD 134 rfl) 1 (hr := by (try dsimp only [rM, Pt.cells, Pt.slots]); omega)
  obtain ⟨T375, X375, e375, st375⟩ := zF X374 hx hZ hown (hwi hw 104 rfl) e374 R371.1.2.1 286 #[vR r, vI (g a), vI (iN a), q3] [] (hD 137 rfl)
  obtain ⟨T376, X376, e376, st376⟩ := zF X375 hx hZ hown (hwi hw 112 rfl) e375 R371.2.1.1 290 #[vR r, vI (g a), vI (iN a), q3] [(.ref o)] (hD 139 rfl)
  obtain ⟨T377, L377, X377, e377, N377, st377⟩ := vCA X376 hx hZ hown e376 N374 hw (hwi hw 115 rfl) Z371 (by decide) (a + 1) (iN (a + 1)) (by omega) O371 SK R371.1.2.2.2.2.2.2 (hgB _) 293 #[vR r, vI (g a), vI (iN a), q3] [] hml (hD 140 rfl) 0 (hr := by (try dsimp only [rM, Pt.cells, Pt.slots]); omega)
  obtain ⟨T378, L378, X378, e378, N378, st378⟩ := zT X377 hx hZ hown e377 N377 (hwi hw 206 rfl) (hwi hw 207 rfl) (hwi hw 88 rfl) (hwi hw 208 rfl) (rm_np l Z a0 hw [] (g (a + 1)) h371 n0 Z371 ) 296 #[vR r, vI (g a), vI (iN a), q3] [(.int (g (a + 1)))] hml pd_18 (hD 141 rfl) 0 (hr := by (try dsimp only [rM, Pt.cells, Pt.slots]); omega)
  obtain ⟨T379, X379, e379, st379⟩ := zF X378 hx hZ hown (hwi hw 112 rfl) e378 R371.2.1.1 304 #[vR r, vI (g a), vI (iN a), q3] [(.ref r)] (hD 145 rfl)
  obtain ⟨T380, h380, X380, e380, W380, st380⟩ := putF X379 hx hZ hown (host := "") (Or.inl (hwi hw 112 rfl)) Via.refl e379 R371.2.1.1 R371.1.1 (Or.inl (hwi hw 113 rfl)) (hwi hw 91 rfl) (ty := .int) (by decide) rfl rfl (g := (mkF m 309 #[vR r, vI (g a), vI (iN a), q3] [(.int (iN (a + 2))), (.ref r)])) rfl rfl (hD 148 rfl)
  have R380 := R371.w_at (a' := (a + 2)) hw W380
  have N380 := Fr.snoc X380 N378 g_r
  have K380 := K371.wr W380 (Or.inl (List.mem_of_getElem? (i := 0) rfl))
  have Z380 := Nat.le_trans Z371 (Keep.of_wr W380).1
  have CR380 := CR371.trans (CHr.wr W380 (Safe.exa hZ.alike R371.1.1 (by decide) (by decide)) CR371.1)
  have hk380 := Nat.le_trans hk371 (Keep.of_wr W380).1
  have O380 := O371.wr W380 g_r
  obtain ⟨T381, X381, e381, st381⟩ := zF X380 hx hZ hown (hwi hw 112 rfl) e380 R380.2.1.1 272 #[vR r, vI (g a), vI (iN a), q3] [] (hD 131 rfl)
  obtain ⟨T382, X382, e382, st382⟩ := zF X381 hx hZ hown (hwi hw 104 rfl) e381 R380.1.2.1 276 #[vR r, vI (g a), vI (iN a), q3] [(.int (iN (a + 2)))] (hD 133 rfl)
  obtain ⟨T383, L383, X383, e383, N383, st383⟩ := vLEN X382 hx hZ hown e382 N380 hw (hwi hw 114 rfl) Z380 (by decide) O380 SK R380.1.2.2.2.2.2.2 279 #[vR r, vI (g a), vI (iN a), q3] [(.int (iN (a + 2)))] hml (hD 134 rfl) 1 (hr := by (try dsimp only [rM, Pt.cells, Pt.slots]); omega)
  obtain ⟨T384, X384, e384, st384⟩ := zF X383 hx hZ hown (hwi hw 104 rfl) e383 R380.1.2.1 286 #[vR r, vI (g a), vI (iN a), q3] [] (hD 137 rfl)
  obtain ⟨T385, X385, e385, st385⟩ := zF X384 hx hZ hown (hwi hw 112 rfl) e384 R380.2.1.1 290 #[vR r, vI (g a), vI (iN a), q3] [(.ref o)] (hD 139 rfl)
  obtain ⟨T386, L386, X386, e386, N386, st386⟩ := vCA X385 hx hZ hown e385 N383 hw (hwi hw 115 rfl) Z380 (by decide) (a + 2) (iN (a + 2)) (by omega) O380 SK R380.1.2.2.2.2.2.2 (hgB _) 293 #[vR r, vI (g a), vI (iN a), q3] [] hml (hD 140 rfl) 0 (hr := by (try dsimp only [rM, Pt.cells, Pt.slots]); omega)
  obtain ⟨T387, L387, X387, e387, N387, st387⟩ := zT X386 hx hZ hown e386 N386 (hwi hw 206 rfl) (hwi hw 207 rfl) (hwi hw 88 rfl) (hwi hw 208 rfl) (rm_np l Z a0 hw [] (g (a + 2)) h380 n0 Z380 ) 296 #[vR r, vI (g a), vI (iN a), q3] [(.int (g (a + 2)))] hml pd_18 (hD 141 rfl) 0 (hr := by (try dsimp only [rM, Pt.cells, Pt.slots]); omega)
  obtain ⟨T388, X388, e388, st388⟩ := getS2 X387 hx hZ hown (host := "") (Or.inl (hwi hw 209 rfl)) Via.refl e387 (Sta.ext O380.2 hPD) (g := (mkF m 316 #[vR r, vI (g a), vI (iN a), q3] [(.ref r)])) rfl (hD 151 rfl)
  have ERt := R380.1.1
  obtain ⟨cq389, kq389, q389a, q389b, q389c⟩ := isOf hZ e388 ERt
  obtain ⟨_, _, ⟨T389, L389, k389, n389⟩, -, X389, hS2389, hg389, ⟨Lc389, hQ389, l389, y389, z389, C389⟩, st389⟩ := X388.virtualBackS hx hown (mvT hZ (hwi hw 150 rfl)) (mvT hZ (declOf (hwi hw 151 rfl) (hwi hw 153 rfl))) (notFace_of_selects (args := #[]) (mvT hZ (selOf (hwi hw 151 rfl) (hwi hw 152 rfl) (hwi hw 91 rfl) (by decide)))) (mvT hZ (selOf (hwi hw 151 rfl) (hwi hw 152 rfl) (hwi hw 91 rfl) (by decide))) (mvT hZ (hwi hw 151 rfl)) (by decide) (backOfSH (s := s) (vm0 := vm0) (EL := EL1) (W := 0) (rmTK l Z a0 hw [] r o ka sa ea sc g (a + 2) tk le eb kv sv ev ov wv a h380 n0 Z380 htk' O380 SK hEL hgB hWD YO ⟨by omega, by omega⟩ (fun q => absurd q how) R380 g_r g_ka g_sa g_ea) hZ (hwi hw 153 rfl) (hwi hw 88 rfl) (by decide) (by decide) hEL CR380.1) q389a q389c (g := (mkF m 320 #[vR r, vI (g a), vI (iN a), q3] [(.int (iN a)), (.ref ov), (.ref r)])) rfl (by rw [hml]; rfl) (Steps.refl _) (argsL := [(.ref ov), (.int (iN a))]) (rest := []) (lenOf pd_22 rfl) rfl (by show 2 * 0 + _ ≤ _; exact Nat.le_of_eq rfl) (hD 153 rfl) (fun _ _ => ⟨rfl, e388, (by (try dsimp only [rM, Pt.cells, Pt.slots]); omega), (by (try dsimp only [rM, Pt.cells, Pt.slots]); omega)⟩)
  dsimp only [Pt.U, Pt.locs, Pt.cells, Pt.slots] at X389 l389 y389 z389 st389 hQ389 hS2389 hg389 C389
  subst y389 z389
  obtain ⟨rfl, N389q, K389, le389, eb389, hle389, R389⟩ := hQ389
  have N389 : Fr n0 L389 := by rw [l389]; exact Fr.app N387 N389q
  have CR389 := CR380.trans C389
  have hS389 := foldS hS0 (by rw [e388]; exact hk380) hS2389 hg389
  have hZ389 : Z.Warmed39 (s.setVm T389.vm).vm := State.Warmed39.trans hZ hS2389.1
  have hown389 := ownS (s := s) hS2389.1 hown
  obtain ⟨ql389, qe389⟩ := hle389
  rw [ql389, qe389] at R389
  have KK389 := K380.trans K389 (fun x z => Or.inl z)
  have Z389 := Nat.le_trans Z380 K389.1
  refine ⟨_, #[vR r, vI (g a), vI (iN a), q3], _, _, ⟨_, _, _, rfl, Or.inr ⟨_, rfl⟩, Or.inr ⟨_, rfl⟩, g3⟩, ?_, ?_, ⟨T389.vm, _, _, _, _, _, X389, N389, KK389, R389, hS389, (by exact (Nat.le_refl _)), hZ389, hown389, CR389, (TC0.push htok)⟩, fun target kt => ?_⟩
  · (try dsimp only [rM]); omega
  · (try dsimp only [rM]); omega
  · show Steps p.tables e below (T.setTop (mkF m 130 #[vR r, vI (g a), q2, q3] [])) target
    refine zL X0 hx (hD 61 rfl) rfl ?_
    refine zB X0 hx (hD 62 rfl) ?_
    refine zN X0 hx (hD 63 rfl) (feq n39).1 ?_
    refine zL X0 hx (hD 64 rfl) rfl ?_
    refine zB X0 hx (hD 65 rfl) ?_
    refine zM X0 hx 208 (hD 66 rfl) (feq n34).2 rfl ?_
    refine zL X0 hx (hD 100 rfl) rfl ?_
    refine zB X0 hx (hD 101 rfl) ?_
    refine zM X0 hx 245 (hD 102 rfl) (feq n36).2 rfl ?_
    refine zL X0 hx (hD 118 rfl) rfl ?_
    refine st360 _ ?_
    refine zI X360 hx 259 (hD 120 rfl) ((if0 _ _).trans (teq nis).1) rfl ?_
    refine zL X360 hx (hD 124 rfl) rfl ?_
    refine st361 _ ?_
    refine zJ X361 hx (hD 126 rfl) ((if0 _ _).trans (feq hdg).1) ?_
    refine zA X361 hx (hD 127 rfl) rfl rfl ?_
    refine st362 _ ?_
    refine zS X362 hx (hD 129 rfl) (L' := #[vR r, vI (g a), vI (iN a), q3]) (by rcases g2 with rfl | ⟨_, rfl⟩ <;> rcases g3 with rfl | ⟨_, rfl⟩ <;> rfl) ?_
    refine zA X362 hx (hD 130 rfl) rfl rfl ?_
    refine st363 _ ?_
    refine zA X363 hx (hD 132 rfl) rfl rfl ?_
    refine st364 _ ?_
    refine st365 _ ?_
    refine zN X365 hx (hD 135 rfl) (tlt ((ltN (by omega) (by decide)).mpr ha)).2.1 ?_
    refine zA X365 hx (hD 136 rfl) rfl rfl ?_
    refine st366 _ ?_
    refine zA X366 hx (hD 138 rfl) rfl rfl ?_
    refine st367 _ ?_
    refine st368 _ ?_
    refine st369 _ ?_
    refine zJ X369 hx (hD 142 rfl) ((if0 _ _).trans (feq p0).1) ?_
    refine zA X369 hx (hD 143 rfl) rfl rfl ?_
    refine zD X369 hx (hD 144 rfl) ?_
    refine st370 _ ?_
    refine zC X370 hx (hD 146 rfl) ?_
    refine zPl X370 hx (hD 147 rfl) (z := (iN (a + 1))) (succN _) ?_
    refine st371 _ ?_
    refine zG X371 hx 271 (hD 149 rfl) rfl ?_
    refine zA X371 hx (hD 130 rfl) rfl rfl ?_
    refine st372 _ ?_
    refine zA X372 hx (hD 132 rfl) rfl rfl ?_
    refine st373 _ ?_
    refine st374 _ ?_
    refine zN X374 hx (hD 135 rfl) (tlt ((ltN (by omega) (by decide)).mpr (by omega))).2.1 ?_
    refine zA X374 hx (hD 136 rfl) rfl rfl ?_
    refine st375 _ ?_
    refine zA X375 hx (hD 138 rfl) rfl rfl ?_
    refine st376 _ ?_
    refine st377 _ ?_
    refine st378 _ ?_
    refine zJ X378 hx (hD 142 rfl) ((if0 _ _).trans (feq p1).1) ?_
    refine zA X378 hx (hD 143 rfl) rfl rfl ?_
    refine zD X378 hx (hD 144 rfl) ?_
    refine st379 _ ?_
    refine zC X379 hx (hD 146 rfl) ?_
    refine zPl X379 hx (hD 147 rfl) (z := (iN (a + 2))) (succN _) ?_
    refine st380 _ ?_
    refine zG X380 hx 271 (hD 149 rfl) rfl ?_
    refine zA X380 hx (hD 130 rfl) rfl rfl ?_
    refine st381 _ ?_
    refine zA X381 hx (hD 132 rfl) rfl rfl ?_
    refine st382 _ ?_
    refine st383 _ ?_
    refine zN X383 hx (hD 135 rfl) (tlt ((ltN (by omega) (by decide)).mpr (by omega))).2.1 ?_
    refine zA X383 hx (hD 136 rfl) rfl rfl ?_
    refine st384 _ ?_
    refine zA X384 hx (hD 138 rfl) rfl rfl ?_
    refine st385 _ ?_
    refine st386 _ ?_
    refine st387 _ ?_
    refine zI X387 hx 315 (hD 142 rfl) ((if0 _ _).trans (teq p2).1) rfl ?_
    refine zA X387 hx (hD 150 rfl) rfl rfl ?_
    refine st388 _ ?_
    refine zL X388 hx (hD 152 rfl) rfl ?_
    refine st389.trans ?_
    refine zG X389 hx 349 (hD 154 rfl) rfl ?_
    refine zG X389 hx 0 (hD 168 rfl) rfl ?_
    exact kt
theorem rdOT (C : Cx) (H : CxOk C) (a tk : Nat) (le eb : Int32) (cv : Nat → Int32) (ha : a < 56) (htk : tk < 900) (n39 : ¬ (C.g a = 39)) (n34 : ¬ (C.g a = 34)) (n36 : ¬ (C.g a = 36)) (nis : f_is (C.g a) = 0) (ndg : f_dg (C.g a) = 0) (htok : tokP C.wv C.xv C.ov C.g C.ov a (a + 1) 101) : RN C (GM C.r (C.g a)) 130 ⟨a, tk, le, eb, cv⟩ (GL C.r) 0 ⟨a + 1, tk + 1, le, eb, tkU cv tk 101⟩ 2 24 := by
  obtain ⟨p, l, e, s, m, args, below, meth, c, Z, a0, n0, h00, r, o, ka, sa, ea, wv, xv, ov, sc, g⟩ := C
  obtain ⟨hx, hw, hby, hml, hEL, SK, hgB, hWD, hXD, hPD, YW, YX, YO, hxw, how, hox, g_r, g_ka, g_sa, g_ea, O0, Z00, hwS⟩ := H
  unfold RN LH
  dsimp only [Cx.p, Cx.ln, Cx.e, Cx.s, Cx.m, Cx.args, Cx.below, Cx.meth, Cx.c, Cx.zs, Cx.az, Cx.n0, Cx.h00, Cx.r, Cx.o, Cx.ka, Cx.sa, Cx.ea, Cx.wv, Cx.xv, Cx.ov, Cx.sc, Cx.g] at *
  intro T L kc ks hL hkc hks HL
  obtain ⟨q2, q3, rfl, g2, g3⟩ := hL
  obtain ⟨vm0, locs, k0, kv, sv, ev, X0, N0, K0, RS0, hS0, hk0, hZ, hown, CR0, TC0⟩ := HL
  have O := O0.keep K0 (all4 g_r g_ka g_sa g_ea)
  have hD := dk hby d21
  have Z0 := Nat.le_trans Z00 K0.1
  have htk' : tk < 1000 := by omega
  obtain ⟨T390, L390, X390, e390, N390, st390⟩ := zT X0 hx hZ hown rfl N0 (hwi hw 131 rfl) (hwi hw 132 rfl) (hwi hw 88 rfl) (hwi hw 133 rfl) (rm_is l Z a0 hw [] (g a) T.heap n0 Z0 ) 246 #[vR r, vI (g a), q2, q3] [(.int (g a))] hml pd_18 (hD 119 rfl) 0 (hr := by (try dsimp only [rM, Pt.cells, Pt.slots]); omega)
  obtain ⟨T391, L391, X391, e391, N391, st391⟩ := zT X390 hx hZ hown e390 N390 (hwi hw 141 rfl) (hwi hw 142 rfl) (hwi hw 88 rfl) (hwi hw 143 rfl) (rm_dg l Z a0 hw [] (g a) T.heap n0 Z0 ) 260 #[vR r, vI (g a), q2, q3] [(.int (g a))] hml pd_18 (hD 125 rfl) 0 (hr := by (try dsimp only [rM, Pt.cells, Pt.slots]); omega)
  obtain ⟨T392, X392, e392, st392⟩ := zF X391 hx hZ hown (hwi hw 112 rfl) e391 RS0.2.1.1 328 #[vR r, vI (g a), q2, q3] [(.ref r)] (hD 157 rfl)
  obtain ⟨T393, h393, X393, e393, W393, st393⟩ := putF X392 hx hZ hown (host := "") (Or.inl (hwi hw 112 rfl)) Via.refl e392 RS0.2.1.1 RS0.1.1 (Or.inl (hwi hw 113 rfl)) (hwi hw 91 rfl) (ty := .int) (by decide) rfl rfl (g := (mkF m 333 #[vR r, vI (g a), q2, q3] [(.int (iN (a + 1))), (.ref r)])) rfl rfl (hD 160 rfl)
  have R393 := RS0.w_at (a' := (a + 1)) hw W393
  have N393 := Fr.snoc X393 N391 g_r
  have K393 := K0.wr W393 (Or.inl (List.mem_of_getElem? (i := 0) rfl))
  have Z393 := Nat.le_trans Z0 (Keep.of_wr W393).1
  have CR393 := CR0.trans (CHr.wr W393 (Safe.exa hZ.alike RS0.1.1 (by decide) (by decide)) CR0.1)
  have hk393 := Nat.le_trans hk0 (Keep.of_wr W393).1
  have O393 := O.wr W393 g_r
  obtain ⟨T394, X394, e394, st394⟩ := getS2 X393 hx hZ hown (host := "") (Or.inl (hwi hw 209 rfl)) Via.refl e393 (Sta.ext O393.2 hPD) (g := (mkF m 337 #[vR r, vI (g a), q2, q3] [(.ref r)])) rfl (hD 162 rfl)
  obtain ⟨T395, X395, e395, st395⟩ := zF X394 hx hZ hown (hwi hw 112 rfl) e394 R393.2.1.1 341 #[vR r, vI (g a), q2, q3] [(.ref ov), (.ref r)] (hD 164 rfl)
  have ERt := R393.1.1
  obtain ⟨cq396, kq396, q396a, q396b, q396c⟩ := isOf hZ e395 ERt
  obtain ⟨_, _, ⟨T396, L396, k396, n396⟩, -, X396, hS2396, hg396, ⟨Lc396, hQ396, l396, y396, z396, C396⟩, st396⟩ := X395.virtualBackS hx hown (mvT hZ (hwi hw 150 rfl)) (mvT hZ (declOf (hwi hw 151 rfl) (hwi hw 153 rfl))) (notFace_of_selects (args := #[]) (mvT hZ (selOf (hwi hw 151 rfl) (hwi hw 152 rfl) (hwi hw 91 rfl) (by decide)))) (mvT hZ (selOf (hwi hw 151 rfl) (hwi hw 152 rfl) (hwi hw 91 rfl) (by decide))) (mvT hZ (hwi hw 151 rfl)) (by decide) (backOfSH (s := s) (vm0 := vm0) (EL := EL1) (W := 0) (rmTK l Z a0 hw [] r o ka sa ea sc g (a + 1) tk le eb kv sv ev ov wv a h393 n0 Z393 htk' O393 SK hEL hgB hWD YO ⟨by omega, by omega⟩ (fun q => absurd q how) R393 g_r g_ka g_sa g_ea) hZ (hwi hw 153 rfl) (hwi hw 88 rfl) (by decide) (by decide) hEL CR393.1) q396a q396c (g := (mkF m 346 #[vR r, vI (g a), q2, q3] [(.int (iN a)), (.ref ov), (.ref r)])) rfl (by rw [hml]; rfl) (Steps.refl _) (argsL := [(.ref ov), (.int (iN a))]) (rest := []) (lenOf pd_22 rfl) rfl (by show 2 * 0 + _ ≤ _; exact Nat.le_of_eq rfl) (hD 167 rfl) (fun _ _ => ⟨rfl, e395, (by (try dsimp only [rM, Pt.cells, Pt.slots]); omega), (by (try dsimp only [rM, Pt.cells, Pt.slots]); omega)⟩)
  dsimp only [Pt.U, Pt.locs, Pt.cells, Pt.slots] at X396 l396 y396 z396 st396 hQ396 hS2396 hg396 C396
  subst y396 z396
  obtain ⟨rfl, N396q, K396, le396, eb396, hle396, R396⟩ := hQ396
  have N396 : Fr n0 L396 := by rw [l396]; exact Fr.app N393 N396q
  have CR396 := CR393.trans C396
  have hS396 := foldS hS0 (by rw [e395]; exact hk393) hS2396 hg396
  have hZ396 : Z.Warmed39 (s.setVm T396.vm).vm := State.Warmed39.trans hZ hS2396.1
  have hown396 := ownS (s := s) hS2396.1 hown
  obtain ⟨ql396, qe396⟩ := hle396
  rw [ql396, qe396] at R396
  have KK396 := K393.trans K396 (fun x z => Or.inl z)
  have Z396 := Nat.le_trans Z393 K396.1
  refine ⟨_, #[vR r, vI (g a), q2, q3], _, _, ⟨_, _, _, rfl, Or.inr ⟨_, rfl⟩, g2, g3⟩, ?_, ?_, ⟨T396.vm, _, _, _, _, _, X396, N396, KK396, R396, hS396, (by exact (Nat.le_refl _)), hZ396, hown396, CR396, (TC0.push htok)⟩, fun target kt => ?_⟩
  · (try dsimp only [rM]); omega
  · (try dsimp only [rM]); omega
  · show Steps p.tables e below (T.setTop (mkF m 130 #[vR r, vI (g a), q2, q3] [])) target
    refine zL X0 hx (hD 61 rfl) rfl ?_
    refine zB X0 hx (hD 62 rfl) ?_
    refine zN X0 hx (hD 63 rfl) (feq n39).1 ?_
    refine zL X0 hx (hD 64 rfl) rfl ?_
    refine zB X0 hx (hD 65 rfl) ?_
    refine zM X0 hx 208 (hD 66 rfl) (feq n34).2 rfl ?_
    refine zL X0 hx (hD 100 rfl) rfl ?_
    refine zB X0 hx (hD 101 rfl) ?_
    refine zM X0 hx 245 (hD 102 rfl) (feq n36).2 rfl ?_
    refine zL X0 hx (hD 118 rfl) rfl ?_
    refine st390 _ ?_
    refine zI X390 hx 259 (hD 120 rfl) ((if0 _ _).trans (teq nis).1) rfl ?_
    refine zL X390 hx (hD 124 rfl) rfl ?_
    refine st391 _ ?_
    refine zI X391 hx 326 (hD 126 rfl) ((if0 _ _).trans (teq ndg).1) rfl ?_
    refine zA X391 hx (hD 155 rfl) rfl rfl ?_
    refine zD X391 hx (hD 156 rfl) ?_
    refine st392 _ ?_
    refine zC X392 hx (hD 158 rfl) ?_
    refine zPl X392 hx (hD 159 rfl) (z := (iN (a + 1))) (succN _) ?_
    refine st393 _ ?_
    refine zA X393 hx (hD 161 rfl) rfl rfl ?_
    refine st394 _ ?_
    refine zA X394 hx (hD 163 rfl) rfl rfl ?_
    refine st395 _ ?_
    refine zC X395 hx (hD 165 rfl) ?_
    refine XS.isub X395.here hx rfl (hD 166 rfl) rfl ?_
    show Steps p.tables e below (T395.setTop (mkF m 346 #[vR r, vI (g a), q2, q3] [(.int ((iN (a + 1)) - (1 : Int32))), (.ref ov), (.ref r)])) _
    rw [show ((iN (a + 1)) - (1 : Int32)) = (iN a) from (subN (n := a + 1) (m := 1) (by omega) (by omega)).trans (congrArg Int32.ofNat (Nat.add_sub_cancel a 1))]
    refine st396.trans ?_
    refine zG X396 hx 0 (hD 168 rfl) rfl ?_
    exact kt
/-- the law's push -/
def psh (S : Nat × (Nat → Int32)) (cd : Int32) : Nat × (Nat → Int32) := if cd < 0 then S else (S.1 + 1, tkU S.2 S.1 cd)
theorem psh_le (S : Nat × (Nat → Int32)) (cd : Int32) : (psh S cd).1 ≤ S.1 + 1 := by
  unfold psh
  split
  · omega
  · exact Nat.le_refl _
def S00 : Nat × (Nat → Int32) := (0, fun _ => -1)
def cdK (k : Nat) : Int32 := if k = 9 ∨ k = 14 then 100 else if k = 15 then 101 else if k = 10 then -1 else Int32.ofNat k
abbrev siOf (a : Nat) (S : Nat × (Nat → Int32)) (le eb : Int32) : SI := (a, S.1, le, eb, S.2)
section Read
variable {C : Cx}
theorem rdSPs (H : CxOk C) (S : Nat × (Nat → Int32)) (le eb : Int32) : ∀ (n a : Nat), a + n ≤ 56 → (∀ j, a ≤ j → j < a + n → ¬ (C.g j = 59) ∧ ¬ (f_sp (C.g j) = 0)) → RN C (GL C.r) 0 (siOf a S le eb) (GL C.r) 0 (siOf (a + n) S le eb) 0 0
  | 0, _, _, _ => RN.refl
  | n + 1, a, h, q => by
    have h1 := rdSP C H a S.1 le eb S.2 (by omega) (q a (by omega) (by omega)).1 (q a (by omega) (by omega)).2
    have h2 := rdSPs H S le eb n (a + 1) (by omega) (fun j x y => q j (by omega) (by omega))
    rw [show a + 1 + n = a + (n + 1) by omega] at h2
    exact h1.trans h2
theorem eqF_s {g : Nat → Int32} {q esc : Int32} (f : Nat) {i : Nat} (h1 : i < 56) (h2 : ¬ (g i = 92) ∨ esc = 0) (h3 : ¬ (g i = q)) : eqF g q esc (f + 1) i = eqF g q esc f (i + 1) := by
  rw [eqF, if_pos h1, if_neg (fun z => h2.elim (fun y => y z.2) (fun y => z.1 y)), if_neg h3]
theorem eqF_e {g : Nat → Int32} {q esc : Int32} (f : Nat) {i : Nat} (h1 : i < 56) (h2 : ¬ (g i = 92) ∨ esc = 0) (h3 : g i = q) : eqF g q esc (f + 1) i = i + 1 := by
  rw [eqF, if_pos h1, if_neg (fun z => h2.elim (fun y => y z.2) (fun y => z.1 y)), if_pos h3]
theorem eqF_b {g : Nat → Int32} {q esc : Int32} (f : Nat) {i : Nat} (h1 : i < 56) (h2 : ¬ (esc = 0)) (h3 : g i = 92) : eqF g q esc (f + 1) i = eqF g q esc f (i + 2) := by
  rw [eqF, if_pos h1, if_pos ⟨h2, h3⟩]
/-- a letter at a token's start -/
def okc (x : Int32) : Bool := decide (¬ (f_ip x = 0) ∧ ¬ (x = 59) ∧ f_sp x = 0 ∧ ¬ (x = 45) ∧ ¬ (x = 47) ∧ ¬ (x = 39) ∧ ¬ (x = 34) ∧ ¬ (x = 36) ∧ ¬ (f_is x = 0))
theorem okc_all : ∀ k, k < 16 → wrdK k = true → 2 ≤ (wl k).length ∧ ¬ (wl k = kl158) ∧ cdK k = Int32.ofNat k ∧ ¬ (cdK k < 0) ∧ ∀ j, j < (wl k).length → okc (gl (wl k) j) = true ∧ okc (gl (wl k) j - 32) = true := by decide +kernel
theorem wc_ok {k : Nat} {up : Int32} (hk : k < 16) (hw : wrdK k = true) {j : Nat} (hj : j < (wl k).length) : ¬ (f_ip (wc k up j) = 0) ∧ ¬ (wc k up j = 59) ∧ f_sp (wc k up j) = 0 ∧ ¬ (wc k up j = 45) ∧ ¬ (wc k up j = 47) ∧ ¬ (wc k up j = 39) ∧ ¬ (wc k up j = 34) ∧ ¬ (wc k up j = 36) ∧ ¬ (f_is (wc k up j) = 0) := by
  obtain ⟨h1, h2⟩ := (okc_all k hk hw).2.2.2.2 j hj
  rcases wc_or k up j hj with h | ⟨h, -⟩ <;> rw [h]
  · exact of_decide_eq_true h1
  · exact of_decide_eq_true h2
theorem wc_out {k : Nat} {up : Int32} {j : Nat} (hj : ¬ j < (wl k).length) : wc k up j = 32 := by unfold wc chF; rw [if_neg hj]
theorem wc_n {k : Nat} {up : Int32} {j : Nat} (hj : j < (wl k).length) (h : gl (wl k) j < 97) : wc k up j = gl (wl k) j := (wc_or k up j hj).elim id fun z => absurd h z.2.1
theorem sp32 {x : Int32} (h : x = 32) : ¬ (x = 59) ∧ ¬ (f_sp x = 0) := by subst h; decide
/-- any token that begins with the quote or a letter, a digit ..: PRE, then the turn -/
theorem rdTok (H : CxOk C) {a tk : Nat} {le eb : Int32} {cv : Nat → Int32} {B : SI} {x : Int32} (hx : C.g a = x) (ha : a ≤ 54) (hc : ¬ (x = 59) ∧ f_sp x = 0 ∧ ¬ (x = 45) ∧ ¬ (x = 47)) {dc ds : Nat} (h : RN C (GM C.r (C.g a)) 130 ⟨a, tk, le, eb, cv⟩ (GL C.r) 0 B dc ds) : RN C (GL C.r) 0 ⟨a, tk, le, eb, cv⟩ (GL C.r) 0 B (4 + dc) (24 + ds) :=
  (rdPRE C H a tk le eb cv ha (by rw [hx]; exact hc.1) (by rw [hx]; exact hc.2.1) (by rw [hx]; exact hc.2.2.1) (by rw [hx]; exact hc.2.2.2)).trans h
/-- '..' -/
theorem rdQ (H : CxOk C) {a e1 tk : Nat} {le eb : Int32} {cv : Nat → Int32} (h39 : C.g a = 39) (ha : a ≤ 54) (htk : tk < 900) (h0 : C.sc = 0 → eqF C.g 39 1 60 (a + 1) = e1) (h1 : ¬ (C.sc = 0) → eqF C.g 39 0 60 (a + 1) = e1) : RN C (GL C.r) 0 ⟨a, tk, le, eb, cv⟩ (GL C.r) 0 ⟨e1, tk + 1, le, eb, tkU cv tk 100⟩ 6 48 := by
  refine rdTok (dc := 2) (ds := 24) H h39 ha (by decide) ?_
  by_cases hs : C.sc = 0
  · have h := rdQ0 C H a tk le eb cv (by omega) htk h39 hs (Or.inl ⟨rfl, rfl⟩)
    rw [show eqF C.g (C.g a) 1 60 (a + 1) = e1 by rw [h39]; exact h0 hs] at h
    exact h
  · have h := rdQ1 C H a tk le eb cv (by omega) htk h39 hs (Or.inl ⟨rfl, rfl⟩)
    rw [show eqF C.g (C.g a) 0 60 (a + 1) = e1 by rw [h39]; exact h1 hs] at h
    exact h
/-- a word's part of the text -/
theorem rdSeg (H : CxOk C) (off k : Nat) (up : Int32) (S : Nat × (Nat → Int32)) (le eb : Int32) (hk : k < 16) (htk : S.1 < 900) (hoff : off + 11 ≤ 55) (hg : ∀ j, j < 11 → C.g (off + j) = wc k up j) (hnx : f_ip (C.g (off + 11)) = 0) : RN C (GL C.r) 0 (siOf off S le eb) (GL C.r) 0 (siOf (off + 11) (psh S (cdK k)) le eb) 6 48 := by
  have hsp : ∀ (n : Nat) (S' : Nat × (Nat → Int32)), (wl k).length ≤ n → n ≤ 11 → RN C (GL C.r) 0 (siOf (off + n) S' le eb) (GL C.r) 0 (siOf (off + 11) S' le eb) 0 0 := fun n S' h1 h2 => by
    have h := rdSPs H S' le eb (11 - n) (off + n) (by omega) (fun j x y => by
      have := hg (j - off) (by omega)
      rw [show off + (j - off) = j by omega, wc_out (by omega)] at this
      exact sp32 this)
    rw [show off + n + (11 - n) = off + 11 by omega] at h
    exact h
  have g0 := hg 0 (by omega)
  rw [Nat.add_zero] at g0
  by_cases hw : wrdK k = true
  · obtain ⟨hn2, hnb, hcd, hc0, -⟩ := okc_all k hk hw
    have hn11 := (wl_ok k hk).1
    have ok := fun j (hj : j < (wl k).length) => wc_ok (up := up) hk hw hj
    have hP : psh S (cdK k) = (S.1 + 1, tkU S.2 S.1 (Int32.ofNat k)) := by unfold psh; rw [if_neg hc0, hcd]
    obtain ⟨-, z59, zsp, z45, z47, z39, z34, z36, zis⟩ := ok 0 (by omega)
    rw [hP]
    have h1 := rdWA C H off S.1 le eb S.2 htk (by rw [g0]; exact z39) (by rw [g0]; exact z34) (by rw [g0]; exact z36) (off + (wl k).length) (by omega) (by omega) (fun j x y => by
        have := hg (j - off) (by omega)
        rw [show off + (j - off) = j by omega] at this
        rw [this]; exact (ok (j - off) (by omega)).1)
      (by
        by_cases q : (wl k).length < 11
        · rw [hg _ q, wc_out (Nat.lt_irrefl _)]; decide
        · rw [show (wl k).length = 11 by omega]; exact hnx)
      (by rw [g0]; exact zis) (by omega) (fun q => hnb ((kw_iff hk hw (fun j hj => hg j (by omega)) kl158).mp q)) (Int32.ofNat k) (Or.inr (Or.inr ⟨rfl, k, up, hk, hw, rfl, rfl, fun j hj => hg j (by omega)⟩))
    exact ((rdTok H g0 (by omega) ⟨z59, zsp, z45, z47⟩ h1).trans (hsp (wl k).length (S.1 + 1, tkU S.2 S.1 (Int32.ofNat k)) (Nat.le_refl _) hn11)).mono (by decide) (by decide)
  · have hq : k = 9 ∨ k = 10 ∨ k = 14 ∨ k = 15 := (by decide +kernel : ∀ k, k < 16 → ¬ (wrdK k = true) → k = 9 ∨ k = 10 ∨ k = 14 ∨ k = 15) k hk hw
    have gn : ∀ j, j < 11 → j < (wl k).length → gl (wl k) j < 97 → C.g (off + j) = gl (wl k) j := fun j h1 h2 h3 => by rw [hg j h1]; exact wc_n h2 h3
    have gx : ∀ j, j < 11 → j < (wl k).length → ¬ (gl (wl k) j = 92) → ¬ (gl (wl k) j - 32 = 92) → ¬ (gl (wl k) j = 39) → ¬ (gl (wl k) j - 32 = 39) → ¬ (C.g (off + j) = 92) ∧ ¬ (C.g (off + j) = 39) := fun j h1 h2 h3 h4 h5 h6 => by
      rw [hg j h1]
      rcases wc_or k up j h2 with h | ⟨h, -⟩ <;> rw [h]
      · exact ⟨h3, h5⟩
      · exact ⟨h4, h6⟩
    rcases hq with rfl | rfl | rfl | rfl
    · have x1 := gx 1 (by decide) (by decide) (by decide) (by decide) (by decide) (by decide)
      have x2 := gx 2 (by decide) (by decide) (by decide) (by decide) (by decide) (by decide)
      have x3 : C.g (off + 3) = 39 := gn 3 (by decide) (by decide) (by decide)
      have E : ∀ esc : Int32, eqF C.g 39 esc 60 (off + 1) = off + 4 := fun esc => by
        rw [eqF_s 59 (by omega) (Or.inl x1.1) x1.2, eqF_s 58 (by omega) (Or.inl x2.1) x2.2, eqF_e 57 (by omega) (Or.inl (by show ¬ (C.g (off + 3) = 92); rw [x3]; decide)) x3]
      exact ((rdQ H (gn 0 (by decide) (by decide) (by decide)) (by omega) htk (fun _ => E 1) (fun _ => E 0)).trans (hsp 4 (S.1 + 1, tkU S.2 S.1 100) (by decide) (by decide))).mono (by decide) (by decide)
    · exact (hsp 0 S (by decide) (by decide)).mono (by decide) (by decide)
    · have x1 : C.g (off + 1) = 39 := gn 1 (by decide) (by decide) (by decide)
      have x2 := gx 2 (by decide) (by decide) (by decide) (by decide) (by decide) (by decide)
      have x3 : C.g (off + 3) = 39 := gn 3 (by decide) (by decide) (by decide)
      have e0 : okc (C.g off) = true ∧ f_lc (C.g off) = 101 := by
        rw [g0]
        rcases wc_or 14 up 0 (by decide) with h | ⟨h, -⟩ <;> rw [h] <;> decide +kernel
      obtain ⟨z0, z59, zsp, z45, z47, z39, z34, z36, zis⟩ := of_decide_eq_true e0.1
      have h1 := rdWB C H off S.1 le eb S.2 htk z39 z34 z36 (off + 1) (by omega) (by omega) (fun j x y => by rw [show j = off by omega]; exact z0) (by rw [x1]; decide) zis (by omega) e0.2 x1 (Or.inl ⟨rfl, rfl⟩)
      rw [show eqF C.g (C.g (off + 1)) 1 60 (off + 1 + 1) = off + 4 by
        rw [x1, eqF_s 59 (by omega) (Or.inl x2.1) x2.2, eqF_e 58 (by omega) (Or.inl (by show ¬ (C.g (off + 3) = 92); rw [x3]; decide)) x3]] at h1
      exact ((rdTok H rfl (by omega) ⟨z59, zsp, z45, z47⟩ h1).trans (hsp 4 (S.1 + 1, tkU S.2 S.1 100) (by decide) (by decide))).mono (by decide) (by decide)
    · have x0 : C.g off = 52 := gn 0 (by decide) (by decide) (by decide)
      have x1 : C.g (off + 1) = 50 := gn 1 (by decide) (by decide) (by decide)
      have x2 : C.g (off + 2) = 32 := by rw [hg 2 (by decide)]; exact wc_out (by decide)
      have h1 := rdNM C H off S.1 le eb S.2 (by omega) htk (by rw [x0]; decide) (by rw [x0]; decide) (by rw [x0]; decide) (by rw [x0]; decide) (by rw [x0]; decide) (by rw [x0]; decide) (by rw [x1]; decide) (by rw [x2]; decide) (Or.inr (Or.inl ⟨rfl, rfl⟩))
      exact ((rdTok H x0 (by omega) (by decide) h1).trans (hsp 2 (S.1 + 1, tkU S.2 S.1 101) (by decide) (by decide))).mono (by decide) (by decide)
def leE (S : Nat × (Nat → Int32)) (le : Int32) : Int32 := if S.1 = 0 then le else endV (S.2 0) (S.2 1) (S.2 2)
def ebE (S : Nat × (Nat → Int32)) (le eb : Int32) : Int32 := if S.1 = 0 then eb else if le = 1 then 1 else eb
/-- a statement's end, where the code at pc calls endStatement -/
theorem rdEnd (H : CxOk C) (pc : Nat) (hd0 : decode C.c.code pc = .ok (.aload_n 0, 1)) (hd1 : decode C.c.code (pc + 1) = .ok (.invokevirtual 71, 3)) (a : Nat) (S : Nat × (Nat → Int32)) (le eb : Int32) (hle : le = 0 ∨ le = 1) (htk : S.1 < 900) : RN C (GL C.r) pc (siOf a S le eb) (GL C.r) (pc + 4) (siOf a S00 (leE S le) (ebE S le eb)) 18 400 := by
  unfold leE ebE
  obtain ⟨tk, cv⟩ := S
  dsimp only at *
  by_cases h : tk = 0
  · subst h
    rw [if_pos rfl, if_pos rfl]
    exact (rdES0 C H a 0 le eb cv pc hd0 hd1).mono (by decide) (by decide)
  · rw [if_neg h, if_neg h]
    rcases hle with rfl | rfl
    · rw [if_neg (by decide)]; exact rdES1 C H a tk 0 eb cv pc hd0 hd1 (by omega) (by omega)
    · rw [if_pos rfl]; exact rdES2 C H a tk 1 eb cv pc hd0 hd1 (by omega) (by omega)
theorem dc49 (H : CxOk C) : decode C.c.code 49 = .ok (.aload_n 0, 1) := by
  have hby := H.hby
  exact (dk hby d21 24 rfl)
theorem dc50 (H : CxOk C) : decode C.c.code 50 = .ok (.invokevirtual 71, 3) := by
  have hby := H.hby
  exact (dk hby d21 25 rfl)
theorem dc352 (H : CxOk C) : decode C.c.code 352 = .ok (.aload_n 0, 1) := by
  have hby := H.hby
  exact (dk hby d21 169 rfl)
theorem dc353 (H : CxOk C) : decode C.c.code 353 = .ok (.invokevirtual 71, 3) := by
  have hby := H.hby
  exact (dk hby d21 170 rfl)
/-- a semicolon -/
theorem rdSemi (H : CxOk C) (a : Nat) (S : Nat × (Nat → Int32)) (le eb : Int32) (hle : le = 0 ∨ le = 1) (htk : S.1 < 900) (ha : a < 56) (h59 : C.g a = 59) : RN C (GL C.r) 0 (siOf a S le eb) (GL C.r) 0 (siOf (a + 1) S00 (leE S le) (ebE S le eb)) 18 400 :=
  ((rdSC C H a S.1 le eb S.2 ha h59).trans (rdEnd H 49 (dc49 H) (dc50 H) (a + 1) S le eb hle htk)).trans (rdGO C H (a + 1) 0 (leE S le) (ebE S le eb) (fun _ => -1)) |>.mono (by decide) (by decide)
/-- what the separator q makes of the first statement's tokens: the first and the second statement's -/
def midK (q : Nat) : Int32 := if q = 5 then 101 else if q ≤ 3 then -1 else 100
def prt (q : Nat) (sc : Int32) : Bool := decide (q = 0 ∨ (q = 4 ∧ ¬ (sc = 0)))
def two0 (q : Nat) : Nat × (Nat → Int32) := if q = 4 then psh (psh S00 101) 100 else S00
theorem rdSep (H : CxOk C) (q : Nat) (hq : q < 8) (S : Nat × (Nat → Int32)) (htk : S.1 < 800) (hg : ∀ j, j < 7 → C.g (36 + j) = gl (sl q) j) : RN C (GL C.r) 0 (siOf 36 S 0 0) (GL C.r) 0 (if prt q C.sc then siOf 43 (two0 q) (leE (psh S (midK q)) 0) (ebE (psh S (midK q)) 0 0) else siOf 43 (psh S (midK q)) 0 0) 36 600 := by
  have G : ∀ j, 36 ≤ j → j < 43 → C.g j = gl (sl q) (j - 36) := fun j h1 h2 => by rw [← hg (j - 36) (by omega), show 36 + (j - 36) = j by omega]
  have sps : ∀ (n : Nat) (S' : Nat × (Nat → Int32)) (le eb : Int32), 36 ≤ n → n ≤ 43 → (∀ j, n ≤ j → j < 43 → gl (sl q) (j - 36) = 32) → RN C (GL C.r) 0 (siOf n S' le eb) (GL C.r) 0 (siOf 43 S' le eb) 0 0 := fun n S' le eb h1 h2 h3 => by
    have h := rdSPs H S' le eb (43 - n) n (by omega) (fun j x y => sp32 ((G j (by omega) (by omega)).trans (h3 j (by omega) (by omega))))
    rw [show n + (43 - n) = 43 by omega] at h
    exact h
  have P0 : ∀ cd : Int32, ¬ (cd < 0) → psh S cd = (S.1 + 1, tkU S.2 S.1 cd) := fun cd h => by unfold psh; rw [if_neg h]
  have d32 : ∀ n : Nat, (∀ i, i < 7 → n ≤ i → gl (sl q) i = 32) → ∀ j, 36 + n ≤ j → j < 43 → gl (sl q) (j - 36) = 32 := fun n h j h1 h2 => h _ (by omega) (by omega)
  rcases (by omega : q = 0 ∨ q = 1 ∨ q = 2 ∨ q = 3 ∨ q = 4 ∨ q = 5 ∨ q = 6 ∨ q = 7) with rfl | rfl | rfl | rfl | rfl | rfl | rfl | rfl
  · rw [if_pos (by unfold prt; simp)]
    have h1 := rdSemi H 36 S 0 0 (Or.inl rfl) (by omega) (by omega) (G 36 (by omega) (by omega))
    exact (h1.trans (sps 37 S00 _ _ (by omega) (by omega) (d32 1 (by decide +kernel)))).mono (by decide) (by decide)
  · rw [if_neg (by unfold prt; simp)]
    exact (sps 36 S 0 0 (by omega) (by omega) (d32 0 (by decide +kernel))).mono (by decide) (by decide)
  · rw [if_neg (by unfold prt; simp)]
    have h1 := rdBC C H S.1 0 0 S.2 (G 36 (by omega) (by omega)) (G 37 (by omega) (by omega)) (G 38 (by omega) (by omega)) (G 39 (by omega) (by omega)) (G 40 (by omega) (by omega))
    exact (h1.trans (sps 41 S 0 0 (by omega) (by omega) (d32 5 (by decide +kernel)))).mono (by decide) (by decide)
  · rw [if_neg (by unfold prt; simp)]
    have h1 := rdLC C H S.1 0 0 S.2 (G 36 (by omega) (by omega)) (G 37 (by omega) (by omega)) (G 38 (by omega) (by omega)) (G 39 (by omega) (by omega))
    have h2 := rdSPs H S 0 0 4 39 (by omega) (fun j x y => by
      rw [G j (by omega) (by omega)]
      exact (by decide +kernel : ∀ i, i < 7 → 3 ≤ i → ¬ (gl (sl 3) i = 59) ∧ ¬ (f_sp (gl (sl 3) i) = 0)) (j - 36) (by omega) (by omega))
    exact (h1.trans h2).mono (by decide) (by decide)
  · have h36 : C.g 36 = 39 := G 36 (by omega) (by omega)
    have h37 : C.g 37 = 92 := G 37 (by omega) (by omega)
    have h38 : C.g 38 = 39 := G 38 (by omega) (by omega)
    have h39 : C.g 39 = 59 := G 39 (by omega) (by omega)
    have h40 : C.g 40 = 92 := G 40 (by omega) (by omega)
    have h41 : C.g 41 = 39 := G 41 (by omega) (by omega)
    have h42 : C.g 42 = 39 := G 42 (by omega) (by omega)
    by_cases hs : C.sc = 0
    · rw [if_neg (by unfold prt; simp [hs]), show midK 4 = 100 from rfl, P0 100 (by decide)]
      have h1 := rdQ (e1 := 43) H h36 (by omega) (tk := S.1) (le := 0) (eb := 0) (cv := S.2) (by omega) (fun _ => by
        rw [eqF_b 59 (by omega) (by decide) h37, eqF_s 58 (by omega) (Or.inl (by show ¬ (C.g 39 = 92); rw [h39]; decide)) (by show ¬ (C.g 39 = 39); rw [h39]; decide), eqF_b 57 (by omega) (by decide) h40, eqF_e 56 (by omega) (Or.inl (by show ¬ (C.g 42 = 92); rw [h42]; decide)) h42]) (fun z => absurd hs z)
      exact h1.mono (by decide) (by decide)
    · rw [if_pos (by unfold prt; simp [hs]), show midK 4 = 100 from rfl, P0 100 (by decide)]
      have h1 := rdQ (e1 := 39) H h36 (by omega) (tk := S.1) (le := 0) (eb := 0) (cv := S.2) (by omega) (fun z => absurd z hs) (fun _ => by
        rw [eqF_s 59 (by omega) (Or.inr rfl) (by show ¬ (C.g 37 = 39); rw [h37]; decide), eqF_e 58 (by omega) (Or.inr rfl) h38])
      have h2 := rdSemi H 39 (S.1 + 1, tkU S.2 S.1 100) 0 0 (Or.inl rfl) (by show S.1 + 1 < 900; omega) (by omega) h39
      have h3 := rdTok H h40 (by omega) (by decide) (rdOT C H 40 0 (leE (S.1 + 1, tkU S.2 S.1 100) 0) (ebE (S.1 + 1, tkU S.2 S.1 100) 0 0) (fun _ => -1) (by omega) (by omega) (by rw [h40]; decide) (by rw [h40]; decide) (by rw [h40]; decide) (by rw [h40]; decide) (by rw [h40]; decide) (Or.inr (Or.inl ⟨rfl, rfl⟩)))
      have h4 := rdQ (e1 := 43) H h41 (by omega) (tk := 1) (le := leE (S.1 + 1, tkU S.2 S.1 100) 0) (eb := ebE (S.1 + 1, tkU S.2 S.1 100) 0 0) (cv := tkU (fun _ => -1) 0 101) (by omega) (fun z => absurd z hs) (fun _ => eqF_e 59 (by omega) (Or.inr rfl) h42)
      exact (((h1.trans h2).trans h3).trans h4).mono (by decide) (by decide)
  · rw [if_neg (by unfold prt; simp), show midK 5 = 101 from rfl, P0 101 (by decide)]
    have h36 : C.g 36 = 34 := G 36 (by omega) (by omega)
    have h37 : C.g 37 = 59 := G 37 (by omega) (by omega)
    have h38 : C.g 38 = 34 := G 38 (by omega) (by omega)
    have h1 := rdDQ C H 36 S.1 0 0 S.2 (by omega) (by omega) h36 (Or.inr (Or.inl ⟨rfl, rfl⟩))
    rw [show eqF C.g (C.g 36) 0 60 (36 + 1) = 39 by rw [h36, eqF_s 59 (by omega) (Or.inr rfl) (by show ¬ (C.g 37 = 34); rw [h37]; decide), eqF_e 58 (by omega) (Or.inr rfl) h38]] at h1
    exact ((rdTok H h36 (by omega) (by decide) h1).trans (sps 39 (S.1 + 1, tkU S.2 S.1 101) 0 0 (by omega) (by omega) (d32 3 (by decide +kernel)))).mono (by decide) (by decide)
  · rw [if_neg (by unfold prt; simp), show midK 6 = 100 from rfl, P0 100 (by decide)]
    have h36 : C.g 36 = 36 := G 36 (by omega) (by omega)
    have h1 := rdDL C H S.1 0 0 S.2 (by omega) h36 (G 37 (by omega) (by omega)) (G 38 (by omega) (by omega)) (G 39 (by omega) (by omega)) (G 40 (by omega) (by omega)) (Or.inl ⟨rfl, rfl⟩)
    exact ((rdTok H h36 (by omega) (by decide) h1).trans (sps 41 (S.1 + 1, tkU S.2 S.1 100) 0 0 (by omega) (by omega) (d32 5 (by decide +kernel)))).mono (by decide) (by decide)
  · rw [if_neg (by unfold prt; simp), show midK 7 = 100 from rfl, P0 100 (by decide)]
    have h36 : C.g 36 = 69 := G 36 (by omega) (by omega)
    have h37 : C.g 37 = 39 := G 37 (by omega) (by omega)
    have h38 : C.g 38 = 92 := G 38 (by omega) (by omega)
    have h40 : C.g 40 = 59 := G 40 (by omega) (by omega)
    have h41 : C.g 41 = 39 := G 41 (by omega) (by omega)
    have h1 := rdWB C H 36 S.1 0 0 S.2 (by omega) (by rw [h36]; decide) (by rw [h36]; decide) (by rw [h36]; decide) 37 (by omega) (by omega) (fun j x y => by rw [show j = 36 by omega, h36]; decide) (by rw [h37]; decide) (by rw [h36]; decide) (by omega) (by rw [h36]; decide) h37 (Or.inl ⟨rfl, rfl⟩)
    rw [show eqF C.g (C.g 37) 1 60 (37 + 1) = 42 by rw [h37, eqF_b 59 (by omega) (by decide) h38, eqF_s 58 (by omega) (Or.inl (by show ¬ (C.g 40 = 92); rw [h40]; decide)) (by show ¬ (C.g 40 = 39); rw [h40]; decide), eqF_e 57 (by omega) (Or.inl (by show ¬ (C.g 41 = 92); rw [h41]; decide)) h41]] at h1
    exact ((rdTok H h36 (by omega) (by decide) h1).trans (sps 42 (S.1 + 1, tkU S.2 S.1 100) 0 0 (by omega) (by omega) (d32 6 (by decide +kernel)))).mono (by decide) (by decide)
/-- the text of the law -/
def TxOk (g : Nat → Int32) (a b c d : Int32) (q : Nat) : Prop := (∀ j, j < 11 → g (0 + j) = wc (k16 a) (u4 a) j) ∧ (∀ j, j < 11 → g (12 + j) = wc (k16 b) (u4 b) j) ∧ (∀ j, j < 11 → g (24 + j) = wc (k16 c) (u4 c) j) ∧ (∀ j, j < 7 → g (36 + j) = gl (sl q) j) ∧ (∀ j, j < 11 → g (44 + j) = wc (k16 d) (u4 d) j) ∧ (∀ j, j = 11 ∨ j = 23 ∨ j = 35 ∨ j = 43 → ¬ (g j = 59) ∧ ¬ (f_sp (g j) = 0) ∧ f_ip (g j) = 0) ∧ (g 55 = 59 ∨ g 55 = 32)
theorem TxOk.w0 {g : Nat → Int32} {a b c d : Int32} {q : Nat} (X : TxOk g a b c d q) : ∀ j, j < 11 → g (0 + j) = wc (k16 a) (u4 a) j := X.1
theorem TxOk.w1 {g : Nat → Int32} {a b c d : Int32} {q : Nat} (X : TxOk g a b c d q) : ∀ j, j < 11 → g (12 + j) = wc (k16 b) (u4 b) j := X.2.1
theorem TxOk.w2 {g : Nat → Int32} {a b c d : Int32} {q : Nat} (X : TxOk g a b c d q) : ∀ j, j < 11 → g (24 + j) = wc (k16 c) (u4 c) j := X.2.2.1
theorem TxOk.ws {g : Nat → Int32} {a b c d : Int32} {q : Nat} (X : TxOk g a b c d q) : ∀ j, j < 7 → g (36 + j) = gl (sl q) j := X.2.2.2.1
theorem TxOk.w3 {g : Nat → Int32} {a b c d : Int32} {q : Nat} (X : TxOk g a b c d q) : ∀ j, j < 11 → g (44 + j) = wc (k16 d) (u4 d) j := X.2.2.2.2.1
theorem TxOk.s {g : Nat → Int32} {a b c d : Int32} {q : Nat} (X : TxOk g a b c d q) : ∀ j, j = 11 ∨ j = 23 ∨ j = 35 ∨ j = 43 → ¬ (g j = 59) ∧ ¬ (f_sp (g j) = 0) ∧ f_ip (g j) = 0 := X.2.2.2.2.2.1
theorem TxOk.lst {g : Nat → Int32} {a b c d : Int32} {q : Nat} (X : TxOk g a b c d q) : g 55 = 59 ∨ g 55 = 32 := X.2.2.2.2.2.2
def one1 (a b c : Int32) (q : Nat) : Nat × (Nat → Int32) := psh (psh (psh (psh S00 (cdK (k16 a))) (cdK (k16 b))) (cdK (k16 c))) (midK q)
def stO (a b c d : Int32) (q : Nat) (sc : Int32) : Nat × (Nat → Int32) := if prt q sc then one1 a b c q else psh (one1 a b c q) (cdK (k16 d))
def stT (d : Int32) (q : Nat) (sc : Int32) : Nat × (Nat → Int32) := if prt q sc then psh (two0 q) (cdK (k16 d)) else S00
def LEo (a b c d : Int32) (q : Nat) (sc : Int32) : Int32 := leE (stT d q sc) (leE (stO a b c d q sc) 0)
def EBo (a b c d : Int32) (q : Nat) (sc : Int32) : Int32 := ebE (stT d q sc) (leE (stO a b c d q sc) 0) 0
theorem leE_01 {S : Nat × (Nat → Int32)} {le : Int32} (h : le = 0 ∨ le = 1) : leE S le = 0 ∨ leE S le = 1 := by
  unfold leE
  split
  · exact h
  · exact endV_01 _ _ _
theorem ebE_0 (S : Nat × (Nat → Int32)) : ebE S 0 0 = 0 := by
  unfold ebE
  split
  · rfl
  · rw [if_neg (by decide)]
/-- the whole text -/
theorem rdAll (H : CxOk C) {a b c d : Int32} {q : Nat} (hq : q < 8) (X : TxOk C.g a b c d q) : RN C (GL C.r) 0 (siOf 0 S00 0 0) (GL C.r) 356 (siOf 56 S00 (LEo a b c d q C.sc) (EBo a b c d q C.sc)) 80 2000 := by
  have sg := fun (off : Nat) (x : Int32) (S : Nat × (Nat → Int32)) (le eb : Int32) (hs : S.1 < 900) (ho : off + 11 ≤ 55) (hg : ∀ j, j < 11 → C.g (off + j) = wc (k16 x) (u4 x) j) (hx : f_ip (C.g (off + 11)) = 0) => rdSeg H off (k16 x) (u4 x) S le eb (k16_lt x) hs ho hg hx
  have s1 := fun (i : Nat) (S : Nat × (Nat → Int32)) (le eb : Int32) (h : i = 11 ∨ i = 23 ∨ i = 35 ∨ i = 43) => rdSP C H i S.1 le eb S.2 (by omega) (X.s i h).1 (X.s i h).2.1
  have p1 := psh_le S00 (cdK (k16 a))
  have p2 := psh_le (psh S00 (cdK (k16 a))) (cdK (k16 b))
  have p3 := psh_le (psh (psh S00 (cdK (k16 a))) (cdK (k16 b))) (cdK (k16 c))
  have p4 := psh_le (psh (psh (psh S00 (cdK (k16 a))) (cdK (k16 b))) (cdK (k16 c))) (midK q)
  have pz : S00.1 = 0 := rfl
  have A1 := (sg 0 a S00 0 0 (by omega) (by omega) X.w0 (X.s 11 (by omega)).2.2).trans (s1 11 _ 0 0 (by omega))
  have A2 := (sg 12 b (psh S00 (cdK (k16 a))) 0 0 (by omega) (by omega) X.w1 (X.s 23 (by omega)).2.2).trans (s1 23 _ 0 0 (by omega))
  have A3 := (sg 24 c (psh (psh S00 (cdK (k16 a))) (cdK (k16 b))) 0 0 (by omega) (by omega) X.w2 (X.s 35 (by omega)).2.2).trans (s1 35 _ 0 0 (by omega))
  have A4 := rdSep H q hq (psh (psh (psh S00 (cdK (k16 a))) (cdK (k16 b))) (cdK (k16 c))) (by omega) X.ws
  have A := ((A1.trans A2).trans A3).trans A4
  have F5 : f_ip (C.g (44 + 11)) = 0 := by rcases X.lst with h | h <;> (show f_ip (C.g 55) = 0; rw [h]; decide)
  -- the end, from 55 on
  have fin : ∀ (S : Nat × (Nat → Int32)) (le eb : Int32), S.1 < 900 → (le = 0 ∨ le = 1) → RN C (GL C.r) 0 (siOf 55 S le eb) (GL C.r) 356 (siOf 56 S00 (leE S le) (ebE S le eb)) 18 400 := fun S le eb hs hle => by
    rcases X.lst with h | h
    · have h1 := rdSemi H 55 S le eb hle hs (by omega) h
      have h2 := rdEN C H 0 (leE S le) (ebE S le eb) (fun _ => -1)
      have h3 := rdES0 C H 56 0 (leE S le) (ebE S le eb) (fun _ => -1) 352 (dc352 H) (dc353 H)
      exact ((h1.trans h2).trans h3).mono (by decide) (by decide)
    · have h1 := rdSP C H 55 S.1 le eb S.2 (by omega) (sp32 h).1 (sp32 h).2
      have h2 := rdEN C H S.1 le eb S.2
      have h3 := rdEnd H 352 (dc352 H) (dc353 H) 56 S le eb hle hs
      exact ((h1.trans h2).trans h3).mono (by decide) (by decide)
  have e4 : one1 a b c q = psh (psh (psh (psh S00 (cdK (k16 a))) (cdK (k16 b))) (cdK (k16 c))) (midK q) := rfl
  rw [← e4] at A p4
  unfold LEo EBo stO stT
  by_cases hp : prt q C.sc = true
  · rw [if_pos hp] at A
    rw [if_pos hp, if_pos hp]
    have t0 : (two0 q).1 ≤ 2 := by
      unfold two0
      split
      · have := psh_le (psh S00 101) 100
        have := psh_le S00 101
        omega
      · omega
    have t1 := psh_le (two0 q) (cdK (k16 d))
    have B1 := s1 43 (two0 q) (leE (one1 a b c q) 0) (ebE (one1 a b c q) 0 0) (by omega)
    have B2 := sg 44 d (two0 q) (leE (one1 a b c q) 0) (ebE (one1 a b c q) 0 0) (by omega) (by omega) X.w3 F5
    have B3 := fin (psh (two0 q) (cdK (k16 d))) (leE (one1 a b c q) 0) (ebE (one1 a b c q) 0 0) (by omega) (leE_01 (Or.inl rfl))
    rw [ebE_0] at B1 B2 B3 A
    exact (((A.trans B1).trans B2).trans B3).mono (by decide) (by decide)
  · rw [if_neg hp] at A
    rw [if_neg hp, if_neg hp]
    have t1 := psh_le (one1 a b c q) (cdK (k16 d))
    have B1 := s1 43 (one1 a b c q) 0 0 (by omega)
    have B2 := sg 44 d (one1 a b c q) 0 0 (by omega) (by omega) X.w3 F5
    have B3 := fin (psh (one1 a b c q) (cdK (k16 d))) 0 0 (by omega) (Or.inl rfl)
    have z : leE S00 (leE (psh (one1 a b c q) (cdK (k16 d))) 0) = leE (psh (one1 a b c q) (cdK (k16 d))) 0 := by unfold leE; rw [if_pos pz]
    have z2 : ebE S00 (leE (psh (one1 a b c q) (cdK (k16 d))) 0) 0 = ebE (psh (one1 a b c q) (cdK (k16 d))) 0 0 := by rw [ebE_0]; unfold ebE; rw [if_pos pz]
    rw [z, z2]
    exact (((A.trans B1).trans B2).trans B3).mono (by decide) (by decide)
end Read

/-- the fields of a reader -/
def FLs : List (String × String) := [("text", "Ljava/lang/String;"), ("standardConformingStrings", "Z"), ("kinds", "[Lcom/example/killdeer/killdeer/EndingStatements$Token;"), ("starts", "[I"), ("ends", "[I"), ("at", "I"), ("tokens", "I"), ("afterBegin", "Z"), ("bodyDepth", "I"), ("lastEnds", "Z"), ("endsBeforeAnother", "Z")]
def fnm (i : Nat) : String := (FLs.getD i ("", "")).1
def fds (i : Nat) : String := (FLs.getD i ("", "")).2
def fty (i : Nat) : FieldType := (parseFieldDescriptor (fds i)).getD .int
theorem fpar : ∀ i, i < 11 → parseFieldDescriptor (fds i) = some (fty i) := by decide +kernel
theorem fn_ne : ∀ i, i < 11 → ∀ j, j < 11 → i ≠ j → fnm i ≠ fnm j := by decide +kernel
theorem laid {Z : State} {a0 : Array Value} (hw : HW Z a0) : ∀ i, i < 11 → Laid Z a0 "com/example/killdeer/killdeer/EndingStatements" "com/example/killdeer/killdeer/EndingStatements" (fnm i) (fds i)
  | 0, _ => Or.inr (hwi hw 105 rfl)
  | 1, _ => Or.inr (hwi hw 107 rfl)
  | 2, _ => Or.inr (hwi hw 99 rfl)
  | 3, _ => Or.inr (hwi hw 101 rfl)
  | 4, _ => Or.inr (hwi hw 103 rfl)
  | 5, _ => Or.inl (hwi hw 113 rfl)
  | 6, _ => Or.inl (hwi hw 155 rfl)
  | 7, _ => Or.inl (hwi hw 160 rfl)
  | 8, _ => Or.inl (hwi hw 158 rfl)
  | 9, _ => Or.inl (hwi hw 171 rfl)
  | 10, _ => Or.inl (hwi hw 187 rfl)
  | i + 11, h => absurd h (by omega)
def FM (Z : State) (h : Heap) (r : Addr) (v : Nat → Value) : Prop := ∀ i, i < 11 → Fld Z h r "com/example/killdeer/killdeer/EndingStatements" (fnm i) (fds i) (v i)
theorem FM.ext {Z : State} {h h' : Heap} {r : Addr} {v : Nat → Value} (H : FM Z h r v) (E : Ext h h') : FM Z h' r v := fun i hi => (H i hi).ext E
theorem FM.wr {Z : State} {a0 : Array Value} {h h' : Heap} {r : Addr} {v : Nat → Value} (H : FM Z h r v) (hw : HW Z a0) (j : Nat) (hj : j < 11) {x : Value} (W : Wr h h' r (Jvm.RoadKit.slotOf Z "com/example/killdeer/killdeer/EndingStatements" (fnm j) (fds j)) x) : FM Z h' r (upd v j x) := fun i hi => by
  unfold upd
  by_cases q : i = j
  · subst q; rw [if_pos rfl]; exact (H i hi).same W
  · rw [if_neg q]; exact (H i hi).other W (Or.inr (slot_ne (laid hw i hi) (laid hw j hj) (fn_ne i hi j hj q) (fpar i hi) (fpar j hj)))
theorem AR.lt {Z : State} {h : Heap} {a : Addr} {C : String} {n : Nat} {f : Nat → Value} (F : AR Z h a C n f) : a < h.size := F.1.lt
/-- a new reader's fields -/
def fv0 : Nat → Value := fun i => if i = 0 ∨ i = 2 ∨ i = 3 ∨ i = 4 then .null else .int (0 : Int32)
def QIN (Z : State) (r o : Addr) (sc : Int32) (g : Nat → Int32) (h0 : Heap) (n0 : Nat) (v : Option Value) (h : Heap) (L : List Loc) : Prop := v = none ∧ Fr n0 L ∧ Keep h0 h [r] ∧ ∃ ka sa ea : Addr, h0.size ≤ ka ∧ h0.size ≤ sa ∧ h0.size ≤ ea ∧ RS Z h r o ka sa ea sc g 0 0 0 0 (fun _ => 0) (fun _ => 0) (fun _ => 0)
def QRD (Z : State) (r ka sa ea : Addr) (le eb : Int32) (h0 : Heap) (n0 : Nat) (v : Option Value) (h : Heap) (L : List Loc) : Prop := v = none ∧ Fr n0 L ∧ Keep h0 h [r, ka, sa, ea] ∧ Exa Z h r "com/example/killdeer/killdeer/EndingStatements" ∧ Fld Z h r "com/example/killdeer/killdeer/EndingStatements" "lastEnds" "Z" (.int le) ∧ Fld Z h r "com/example/killdeer/killdeer/EndingStatements" "endsBeforeAnother" "Z" (.int eb)
def plc (bf la no : Addr) (le eb : Int32) : Addr := if eb = 0 then (if le = 0 then no else la) else bf
def QOF (a : Addr) (h0 : Heap) (n0 : Nat) (v : Option Value) (h : Heap) (L : List Loc) : Prop := v = some (.ref a) ∧ Fr n0 L ∧ Keep h0 h []
/-- the law's buffer -/
def bfV (S : Nat × (Nat → Int32)) : Nat → Value := fun j => match j with
  | 0 => .int (Int32.ofNat S.1)
  | j + 1 => .int (S.2 j)
def QPS (Z : State) (b : Addr) (S : Nat × (Nat → Int32)) (h0 : Heap) (n0 : Nat) (v : Option Value) (h : Heap) (L : List Loc) : Prop := v = none ∧ Fr n0 L ∧ Keep h0 h [b] ∧ AF Z h b .int 4 (bfV S)
theorem psh1 {n : Nat} {cv : Nat → Int32} {cd : Int32} (h : n < 3) : ∀ j, j < 4 → upd (upd (bfV (n, cv)) (n + 1) (.int cd)) 0 (.int (Int32.ofNat (n + 1))) j = bfV (n + 1, tkU cv n cd) j := fun j hj => by
  unfold upd bfV tkU updG
  rw [if_pos h]
  match j, hj with
  | 0, _ => rfl
  | j + 1, hj =>
    rw [if_neg (by omega)]
    by_cases q : j = n
    · simp [q]
    · simp [q]
theorem psh2 {n : Nat} {cv : Nat → Int32} {cd : Int32} (h : ¬ n < 3) : ∀ j, j < 4 → upd (bfV (n, cv)) 0 (.int (Int32.ofNat (n + 1))) j = bfV (n + 1, tkU cv n cd) j := fun j hj => by
  unfold upd bfV tkU
  rw [if_neg h]
  match j, hj with
  | 0, _ => rfl
  | j + 1, hj => rw [if_neg (by omega)]

theorem rmRD (hw : HW Z a0) (ws : List Jvm.Cond) (r o ka sa ea wv xv ov : Addr) (sc : Int32) (g : Nat → Int32) (kv : Nat → Addr) (sv ev : Nat → Nat) (p1 p2 p3 p4 : Int32) (q : Nat)  (h0 : Heap) (n0 : Nat) (Z0 : n0 ≤ h0.size) (O : Old Z n0 h0) (SK : StrSta Z) (hEL : EW Z a0 EL1) (hgB : allB g) (hWD : Sta Z Z.heap "com/example/killdeer/killdeer/EndingStatements$Token" "WORD" "Lcom/example/killdeer/killdeer/EndingStatements$Token;" (.ref wv)) (YW : Exa Z Z.heap wv "com/example/killdeer/killdeer/EndingStatements$Token") (hXD : Sta Z Z.heap "com/example/killdeer/killdeer/EndingStatements$Token" "STRING" "Lcom/example/killdeer/killdeer/EndingStatements$Token;" (.ref xv)) (YX : Exa Z Z.heap xv "com/example/killdeer/killdeer/EndingStatements$Token") (hPD : Sta Z Z.heap "com/example/killdeer/killdeer/EndingStatements$Token" "OTHER" "Lcom/example/killdeer/killdeer/EndingStatements$Token;" (.ref ov)) (YP : Exa Z Z.heap ov "com/example/killdeer/killdeer/EndingStatements$Token") (hxw : ¬ (xv = wv)) (how : ¬ (ov = wv)) (hox : ¬ (ov = xv)) (hq : q < 8) (TX : TxOk g p1 p2 p3 p4 q) (RS0 : RS Z h0 r o ka sa ea sc g 0 0 0 0 kv sv ev) (g_r : n0 ≤ r) (g_ka : n0 ≤ ka) (g_sa : n0 ≤ sa) (g_ea : n0 ≤ ea)  :
    MH l Z (⟨"com/example/killdeer/killdeer/EndingStatements", "read", "()V"⟩ : MethodName) prog_11_method_3_code 4 none ws (rM 8 160 80 4000) #[(.ref r)] h0 (QRD Z r ka sa ea (LEo p1 p2 p3 p4 q sc) (EBo p1 p2 p3 p4 q sc) h0 n0) := by
  refine zBodyH pn_21 (fun m => ef_21 m r) ?_
  intro p e s m below meth c s₁ Bd hx hby hml hown hZ hh X0 e0 pre0 CH0
  have hwS := hwSt hw
  have H : CxOk ⟨p, l, e, s, m, #[.ref r], below, meth, c, Z, a0, n0, h0, r, o, ka, sa, ea, wv, xv, ov, sc, g⟩ := ⟨hx, hw, hby, hml, hEL, SK, hgB, hWD, hXD, hPD, YW, YX, YP, hxw, how, hox, g_r, g_ka, g_sa, g_ea, O, Z0, hwS⟩
  obtain ⟨T', L', kc, ks, -, k1, k2, ⟨vm1, locs, kk, kv', sv', ev', X1, N1, K1, R1, hS1, hk1, hZ1, hown1, CR1, -⟩, st⟩ := rdAll H hq TX s₁ #[vR r, .unset, .unset, .unset] 0 0 ⟨_, _, _, rfl, Or.inl rfl, Or.inl rfl, Or.inl rfl⟩ (by decide) (by decide) ⟨s.vm, [], 0, kv, sv, ev, X0, Fr.nil n0, by rw [e0]; exact Keep.refl _ _, by rw [e0]; exact RS0, (State.WarmedH.refl s).since 0, Nat.zero_le _, hZ, hown, by rw [e0]; exact CHr.refl CH0, TC.zero⟩
  obtain ⟨fs, hr, hrun, hended, -, hWW, hBB, hSS⟩ := Stand.leaveW (s := s) (vm₁ := vm1) X1 hS1 hk1 (v := none) (fun _ => rfl)
  refine ⟨_, _, pre0 _ ?_, hrun, hended, _, _, rfl, ?_, ?_, ⟨_, rfl⟩, hWW, hBB, hSS.mono (by dsimp only [rM] at *; omega) (by dsimp only [rM] at *; omega)⟩
  · refine st _ ?_
    exact X1.returnOut hx Bd.returns (dk hby d21 171 rfl) hr
  · exact ⟨rfl, N1, K1, R1.1.1, R1.2.1.2.2.2.2.1, R1.2.1.2.2.2.2.2⟩
  · show CHr Z EL1 s.vm s.heap T'.vm T'.heap
    have q := CR1.trans (CHv.at (s := s) (vm0 := vm1) X1 hZ1 hEL CR1.1)
    rw [hh]
    exact q
def D20 : List (Nat × Instr × Nat) := [(0, .aload_n 0, 1), (1, .invokespecial 1, 3), (4, .aload_n 0, 1), (5, .iconst 3, 1), (6, .anewarray 9, 3), (9, .putfield 11, 3), (12, .aload_n 0, 1), (13, .iconst 3, 1), (14, .newarray .int, 2), (16, .putfield 15, 3), (19, .aload_n 0, 1), (20, .iconst 3, 1), (21, .newarray .int, 2), (23, .putfield 19, 3), (26, .aload_n 0, 1), (27, .aload_n 1, 1), (28, .putfield 22, 3), (31, .aload_n 0, 1), (32, .iload_n 2, 1), (33, .putfield 26, 3), (36, .return_, 1)]
theorem d20 : ∀ x ∈ D20, decode prog_11_method_1_code x.1 = .ok x.2 := by decide +kernel
theorem pn_20 : plainName "com/example/killdeer/killdeer/EndingStatements" = true := by first | (simp [plainName, overriddenIn]; done) | decide +kernel
theorem ef_20 (m : MethodId) (x0 : Addr) (x1 : Addr) (x2 : Int32) : entryFrame m #[(.ref x0), (.ref x1), (.int x2)] 3 = mkF m 0 #[.val (.ref x0), .val (.ref x1), .val (.int x2)] [] := by first | (simp [entryFrame, mkF, argsToLocals, Value.category]; done) | rfl
theorem rmIN (hw : HW Z a0) (ws : List Jvm.Cond) (r o : Addr) (sc : Int32) (g : Nat → Int32)  (h0 : Heap) (n0 : Nat) (Z0 : n0 ≤ h0.size) (O : Old Z n0 h0) (hsc : sc = 0 ∨ sc = 1) (ER : Exa Z h0 r "com/example/killdeer/killdeer/EndingStatements") (FM0 : FM Z h0 r fv0) (ST0 : Str Z h0 o 56 g) (g_r : n0 ≤ r)  :
    MF l Z (⟨"com/example/killdeer/killdeer/EndingStatements", "<init>", "(Ljava/lang/String;Z)V"⟩ : MethodName) prog_11_method_1_code 3 none ws (rM 1 14 3 9) #[(.ref r), (.ref o), (.int sc)] h0 (QIN Z r o sc g h0 n0) := by
  refine zBody pn_20 (fun m => ef_20 m r o sc) ?_
  intro p e s m below meth c s₁ Bd hx hby hml hown hZ hh X0 e0 pre0
  have hD := dk hby d20
  have N0 := Fr.nil n0
  have hnm := (name_of_methodNamed Bd.named Bd.method).1
  obtain ⟨T397, X397, e397, st397⟩ := initO X0 hx hZ hown (hwi hw 95 rfl) (hwi hw 74 rfl) (hwi hw 75 rfl) e0 (g := (mkF m 1 #[vR r, vR o, vI sc] [(.ref r)])) rfl (by rw [hml]; rfl) rfl (hD 1 rfl) (by decide) (W := 0) (by show 2 * 0 + _ ≤ _; exact Nat.le_of_eq rfl) (by decide)
  obtain ⟨T398, h398, cA398, X398, e398, E398, A398, Ov398, st398⟩ := newR X397 hx hZ hown (hwi hw 96 rfl) (hwi hw 97 rfl) e397 (g := (mkF m 6 #[vR r, vR o, vI sc] [(.int 3), (.ref r)])) rfl (hD 4 rfl) rfl (by decide) (cap := 3) (by decide) (by decide) (by decide) (by decide)
  obtain ⟨b398, q398⟩ : ∃ z, z = h0.size := ⟨_, rfl⟩
  rw [← q398] at A398 st398
  have V398 : AR Z h398 b398 "com/example/killdeer/killdeer/EndingStatements$Token" 3 (fun _ => .null) := ⟨AF.new A398 rfl, _, A398.1, Ov398⟩
  have g_b398 : n0 ≤ b398 := Nat.le_trans Z0 (Nat.le_of_eq q398.symm)
  have sz_b398 : h0.size ≤ b398 := Nat.le_trans (Keep.refl h0 [r]).1 (Nat.le_of_eq q398.symm)
  have K398 := (Keep.refl h0 [r]).ext E398
  have Z398 := Nat.le_trans Z0 E398.1
  have ne_r_b398 : r ≠ b398 := Nat.ne_of_lt (Nat.lt_of_lt_of_le ER.lt (Nat.le_of_eq q398.symm))
  have ER_e398 := ER.ext E398
  have O398 := O.ext E398
  have FM398 := FM0.ext E398
  have ST398 : Str Z h398 o 56 g := StrV.ext ST0 E398
  obtain ⟨T399, h399, X399, e399, W399, st399⟩ := putF X398 hx hZ hown (host := "") (Or.inl (hwi hw 98 rfl)) Via.refl e398 (FM398 2 (by decide)) ER_e398 (Or.inr ⟨(hwi hw 99 rfl), rfl, hnm⟩) (hwi hw 91 rfl) (ty := (.array (.object "com/example/killdeer/killdeer/EndingStatements$Token"))) (by decide) rfl rfl (g := (mkF m 9 #[vR r, vR o, vI sc] [(.ref b398), (.ref r)])) rfl rfl (hD 5 rfl)
  have FM399 := FM398.wr hw 2 (by decide) W399
  have ST399 := ST398.wrE ER_e398 (by decide) (hwi hw 91 rfl) W399
  have ER_e399 := ER_e398.wr W399
  have V398_e399 := V398.other W399 (Ne.symm ne_r_b398)
  have N399 := Fr.snoc X399 N0 g_r
  have K399 := K398.wr W399 (Or.inl (List.mem_of_getElem? (i := 0) rfl))
  have Z399 := Nat.le_trans Z398 (Keep.of_wr W399).1
  have O399 := O398.wr W399 g_r
  obtain ⟨T400, h400, X400, e400, E400, A400, st400⟩ := nwA X399 hx hZ (hwi hw 64 rfl) e399 (g := (mkF m 14 #[vR r, vR o, vI sc] [(.int 3), (.ref r)])) rfl (hD 8 rfl) (n := 3) rfl (cap := 3) (by decide) (by decide) (by decide) (by decide)
  obtain ⟨b400, q400⟩ : ∃ z, z = h399.size := ⟨_, rfl⟩
  rw [← q400] at A400 st400
  have V400 : AF Z h400 b400 .int 3 (fun _ => (.int 0)) := A400
  have g_b400 : n0 ≤ b400 := Nat.le_trans Z399 (Nat.le_of_eq q400.symm)
  have sz_b400 : h0.size ≤ b400 := Nat.le_trans K399.1 (Nat.le_of_eq q400.symm)
  have K400 := K399.ext E400
  have Z400 := Nat.le_trans Z399 E400.1
  have ne_b398_b400 : b398 ≠ b400 := Nat.ne_of_lt (Nat.lt_of_lt_of_le V398_e399.lt (Nat.le_of_eq q400.symm))
  have ne_r_b400 : r ≠ b400 := Nat.ne_of_lt (Nat.lt_of_lt_of_le ER_e399.lt (Nat.le_of_eq q400.symm))
  have ER_e400 := ER_e399.ext E400
  have V398_e400 := V398_e399.ext E400
  have O400 := O399.ext E400
  have FM400 := FM399.ext E400
  have ST400 : Str Z h400 o 56 g := StrV.ext ST399 E400
  obtain ⟨T401, h401, X401, e401, W401, st401⟩ := putF X400 hx hZ hown (host := "") (Or.inl (hwi hw 100 rfl)) Via.refl e400 (FM400 3 (by decide)) ER_e400 (Or.inr ⟨(hwi hw 101 rfl), rfl, hnm⟩) (hwi hw 91 rfl) (ty := (.array .int)) (by decide) rfl rfl (g := (mkF m 16 #[vR r, vR o, vI sc] [(.ref b400), (.ref r)])) rfl rfl (hD 9 rfl)
  have FM401 := FM400.wr hw 3 (by decide) W401
  have ST401 := ST400.wrE ER_e400 (by decide) (hwi hw 91 rfl) W401
  have ER_e401 := ER_e400.wr W401
  have V398_e401 := V398_e400.other W401 (Ne.symm ne_r_b398)
  have V400_e401 := V400.other W401 (Ne.symm ne_r_b400)
  have N401 := Fr.snoc X401 N399 g_r
  have K401 := K400.wr W401 (Or.inl (List.mem_of_getElem? (i := 0) rfl))
  have Z401 := Nat.le_trans Z400 (Keep.of_wr W401).1
  have O401 := O400.wr W401 g_r
  obtain ⟨T402, h402, X402, e402, E402, A402, st402⟩ := nwA X401 hx hZ (hwi hw 64 rfl) e401 (g := (mkF m 21 #[vR r, vR o, vI sc] [(.int 3), (.ref r)])) rfl (hD 12 rfl) (n := 3) rfl (cap := 3) (by decide) (by decide) (by decide) (by decide)
  obtain ⟨b402, q402⟩ : ∃ z, z = h401.size := ⟨_, rfl⟩
  rw [← q402] at A402 st402
  have V402 : AF Z h402 b402 .int 3 (fun _ => (.int 0)) := A402
  have g_b402 : n0 ≤ b402 := Nat.le_trans Z401 (Nat.le_of_eq q402.symm)
  have sz_b402 : h0.size ≤ b402 := Nat.le_trans K401.1 (Nat.le_of_eq q402.symm)
  have K402 := K401.ext E402
  have Z402 := Nat.le_trans Z401 E402.1
  have ne_b398_b402 : b398 ≠ b402 := Nat.ne_of_lt (Nat.lt_of_lt_of_le V398_e401.lt (Nat.le_of_eq q402.symm))
  have ne_b400_b402 : b400 ≠ b402 := Nat.ne_of_lt (Nat.lt_of_lt_of_le V400_e401.lt (Nat.le_of_eq q402.symm))
  have ne_r_b402 : r ≠ b402 := Nat.ne_of_lt (Nat.lt_of_lt_of_le ER_e401.lt (Nat.le_of_eq q402.symm))
  have ER_e402 := ER_e401.ext E402
  have V398_e402 := V398_e401.ext E402
  have V400_e402 := V400_e401.ext E402
  have O402 := O401.ext E402
  have FM402 := FM401.ext E402
  have ST402 : Str Z h402 o 56 g := StrV.ext ST401 E402
  obtain ⟨T403, h403, X403, e403, W403, st403⟩ := putF X402 hx hZ hown (host := "") (Or.inl (hwi hw 102 rfl)) Via.refl e402 (FM402 4 (by decide)) ER_e402 (Or.inr ⟨(hwi hw 103 rfl), rfl, hnm⟩) (hwi hw 91 rfl) (ty := (.array .int)) (by decide) rfl rfl (g := (mkF m 23 #[vR r, vR o, vI sc] [(.ref b402), (.ref r)])) rfl rfl (hD 13 rfl)
  have FM403 := FM402.wr hw 4 (by decide) W403
  have ST403 := ST402.wrE ER_e402 (by decide) (hwi hw 91 rfl) W403
  have ER_e403 := ER_e402.wr W403
  have V398_e403 := V398_e402.other W403 (Ne.symm ne_r_b398)
  have V400_e403 := V400_e402.other W403 (Ne.symm ne_r_b400)
  have V402_e403 := V402.other W403 (Ne.symm ne_r_b402)
  have N403 := Fr.snoc X403 N401 g_r
  have K403 := K402.wr W403 (Or.inl (List.mem_of_getElem? (i := 0) rfl))
  have Z403 := Nat.le_trans Z402 (Keep.of_wr W403).1
  have O403 := O402.wr W403 g_r
  obtain ⟨T404, h404, X404, e404, W404, st404⟩ := putF X403 hx hZ hown (host := "") (Or.inl (hwi hw 104 rfl)) Via.refl e403 (FM403 0 (by decide)) ER_e403 (Or.inr ⟨(hwi hw 105 rfl), rfl, hnm⟩) (hwi hw 91 rfl) (ty := (.object "java/lang/String")) (by decide) rfl rfl (g := (mkF m 28 #[vR r, vR o, vI sc] [(.ref o), (.ref r)])) rfl rfl (hD 16 rfl)
  have FM404 := FM403.wr hw 0 (by decide) W404
  have ST404 := ST403.wrE ER_e403 (by decide) (hwi hw 91 rfl) W404
  have ER_e404 := ER_e403.wr W404
  have V398_e404 := V398_e403.other W404 (Ne.symm ne_r_b398)
  have V400_e404 := V400_e403.other W404 (Ne.symm ne_r_b400)
  have V402_e404 := V402_e403.other W404 (Ne.symm ne_r_b402)
  have N404 := Fr.snoc X404 N403 g_r
  have K404 := K403.wr W404 (Or.inl (List.mem_of_getElem? (i := 0) rfl))
  have Z404 := Nat.le_trans Z403 (Keep.of_wr W404).1
  have O404 := O403.wr W404 g_r
  obtain ⟨T405, h405, X405, e405, W405, st405⟩ := putFN X404 hx hZ hown (hwi hw 106 rfl) Via.refl e404 (FM404 1 (by decide)) ER_e404 (Or.inr ⟨(hwi hw 107 rfl), rfl, hnm⟩) (hwi hw 91 rfl) (ty := .boolean) (v' := (.int sc)) (by decide) (by rcases hsc with rfl | rfl <;> rfl) (by rcases hsc with rfl | rfl <;> decide) (g := (mkF m 33 #[vR r, vR o, vI sc] [(.int sc), (.ref r)])) rfl rfl (hD 19 rfl)
  have FM405 := FM404.wr hw 1 (by decide) W405
  have ST405 := ST404.wrE ER_e404 (by decide) (hwi hw 91 rfl) W405
  have ER_e405 := ER_e404.wr W405
  have V398_e405 := V398_e404.other W405 (Ne.symm ne_r_b398)
  have V400_e405 := V400_e404.other W405 (Ne.symm ne_r_b400)
  have V402_e405 := V402_e404.other W405 (Ne.symm ne_r_b402)
  have N405 := Fr.snoc X405 N404 g_r
  have K405 := K404.wr W405 (Or.inl (List.mem_of_getElem? (i := 0) rfl))
  have Z405 := Nat.le_trans Z404 (Keep.of_wr W405).1
  have O405 := O404.wr W405 g_r
  have RSn : RS Z h405 r o b398 b400 b402 sc g 0 0 0 0 (fun _ => 0) (fun _ => 0) (fun _ => 0) := ⟨⟨ER_e405, FM405 0 (by decide), FM405 1 (by decide), FM405 2 (by decide), FM405 3 (by decide), FM405 4 (by decide), ST405⟩, ⟨FM405 5 (by decide), FM405 6 (by decide), FM405 7 (by decide), FM405 8 (by decide), FM405 9 (by decide), FM405 10 (by decide)⟩, ⟨_, _, _, V398_e405, V400_e405, V402_e405, fun i hi => absurd hi (by omega)⟩, ne_b400_b402⟩
  refine zLv Bd X405 (v := none) (by decide) (fun _ => rfl) (fun fs hr => pre0 _ ?_) (by exact ⟨rfl, N405, by rw [e405]; exact K405, b398, b400, b402, sz_b398, sz_b400, sz_b402, by rw [e405]; exact RSn⟩)
  refine zA X0 hx (hD 0 rfl) rfl rfl ?_
  refine st397 _ ?_
  refine zA X397 hx (hD 2 rfl) rfl rfl ?_
  refine zC X397 hx (hD 3 rfl) ?_
  refine st398 _ ?_
  refine st399 _ ?_
  refine zA X399 hx (hD 6 rfl) rfl rfl ?_
  refine zC X399 hx (hD 7 rfl) ?_
  refine st400 _ ?_
  refine st401 _ ?_
  refine zA X401 hx (hD 10 rfl) rfl rfl ?_
  refine zC X401 hx (hD 11 rfl) ?_
  refine st402 _ ?_
  refine st403 _ ?_
  refine zA X403 hx (hD 14 rfl) rfl rfl ?_
  refine zA X403 hx (hD 15 rfl) rfl rfl ?_
  refine st404 _ ?_
  refine zA X404 hx (hD 17 rfl) rfl rfl ?_
  refine zL X404 hx (hD 18 rfl) rfl ?_
  refine st405 _ ?_
  show Steps p.tables e below (T405.setTop (mkF m 36 #[vR r, vR o, vI sc] [])) _
  exact X405.returnOut hx Bd.returns (hD 20 rfl) hr
def D19 : List (Nat × Instr × Nat) := [(0, .new 7, 3), (3, .dup, 1), (4, .aload_n 0, 1), (5, .iload_n 1, 1), (6, .invokespecial 30, 3), (9, .astore_n 2, 1), (10, .aload_n 2, 1), (11, .invokevirtual 33, 3), (14, .aload_n 2, 1), (15, .getfield 36, 3), (18, .ifCond .eq 10, 3), (21, .getstatic 39, 3), (24, .astore_n 3, 1), (25, .goto 21, 3), (28, .aload_n 2, 1), (29, .getfield 45, 3), (32, .ifCond .eq 10, 3), (35, .getstatic 48, 3), (38, .astore_n 3, 1), (39, .goto 7, 3), (42, .getstatic 51, 3), (45, .astore_n 3, 1), (46, .aload_n 3, 1), (47, .areturn, 1)]
theorem d19 : ∀ x ∈ D19, decode prog_11_method_2_code x.1 = .ok x.2 := by decide +kernel
theorem pn_19 : plainName "com/example/killdeer/killdeer/EndingStatements" = true := by first | (simp [plainName, overriddenIn]; done) | decide +kernel
theorem ef_19 (m : MethodId) (x0 : Addr) (x1 : Int32) : entryFrame m #[(.ref x0), (.int x1)] 4 = mkF m 0 #[.val (.ref x0), .val (.int x1), .unset, .unset] [] := by first | (simp [entryFrame, mkF, argsToLocals, Value.category]; done) | rfl
theorem rmOF (hw : HW Z a0) (ws : List Jvm.Cond) (o wv xv ov bf la no : Addr) (sc : Int32) (g : Nat → Int32) (p1 p2 p3 p4 : Int32) (q : Nat)  (h0 : Heap) (n0 : Nat) (Z0 : n0 ≤ h0.size) (O : Old Z n0 h0) (SK : StrSta Z) (hEL : EW Z a0 EL1) (hgB : allB g) (hWD : Sta Z Z.heap "com/example/killdeer/killdeer/EndingStatements$Token" "WORD" "Lcom/example/killdeer/killdeer/EndingStatements$Token;" (.ref wv)) (YW : Exa Z Z.heap wv "com/example/killdeer/killdeer/EndingStatements$Token") (hXD : Sta Z Z.heap "com/example/killdeer/killdeer/EndingStatements$Token" "STRING" "Lcom/example/killdeer/killdeer/EndingStatements$Token;" (.ref xv)) (YX : Exa Z Z.heap xv "com/example/killdeer/killdeer/EndingStatements$Token") (hPD : Sta Z Z.heap "com/example/killdeer/killdeer/EndingStatements$Token" "OTHER" "Lcom/example/killdeer/killdeer/EndingStatements$Token;" (.ref ov)) (YP : Exa Z Z.heap ov "com/example/killdeer/killdeer/EndingStatements$Token") (hxw : ¬ (xv = wv)) (how : ¬ (ov = wv)) (hox : ¬ (ov = xv)) (hbf : Sta Z Z.heap "com/example/killdeer/killdeer/EndingStatements$Place" "BEFORE_ANOTHER" "Lcom/example/killdeer/killdeer/EndingStatements$Place;" (.ref bf)) (hla : Sta Z Z.heap "com/example/killdeer/killdeer/EndingStatements$Place" "LAST" "Lcom/example/killdeer/killdeer/EndingStatements$Place;" (.ref la)) (hno : Sta Z Z.heap "com/example/killdeer/killdeer/EndingStatements$Place" "NONE" "Lcom/example/killdeer/killdeer/EndingStatements$Place;" (.ref no)) (hq : q < 8) (TX : TxOk g p1 p2 p3 p4 q) (hsc : sc = 0 ∨ sc = 1) (ST0 : Str Z h0 o 56 g)  :
    MH l Z (⟨"com/example/killdeer/killdeer/EndingStatements", "of", "(Ljava/lang/String;Z)Lcom/example/killdeer/killdeer/EndingStatements$Place;"⟩ : MethodName) prog_11_method_2_code 4 (some (.object "com/example/killdeer/killdeer/EndingStatements$Place")) ws (rM 9 180 84 4040) #[(.ref o), (.int sc)] h0 (QOF (plc bf la no (LEo p1 p2 p3 p4 q sc) (EBo p1 p2 p3 p4 q sc)) h0 n0) := by
  refine zBodyH pn_19 (fun m => ef_19 m o sc) ?_
  intro p e s m below meth c s₁ Bd hx hby hml hown hZ hh X0 e0 pre0 CH0
  have hD := dk hby d19
  have N0 := Fr.nil n0
  obtain ⟨T406, h406, X406, e406, E406, A406, D406, -, st406⟩ := newO X0 hx hZ hown (hwi hw 90 rfl) (hwi hw 91 rfl) (hwi hw 88 rfl) e0 (g := (mkF m 0 #[vR o, vI sc, .unset, .unset] [])) rfl (hD 0 rfl) (by decide) (by decide)
  obtain ⟨b406, g406⟩ : ∃ z, z = h0.size := ⟨_, rfl⟩
  rw [← g406] at A406 D406 st406
  have E_b406 := A406
  have g_b406 : n0 ≤ b406 := Nat.le_trans Z0 (Nat.le_of_eq g406.symm)
  have sz_b406 : h0.size ≤ b406 := Nat.le_trans (Keep.refl h0 []).1 (Nat.le_of_eq g406.symm)
  have K406 := (Keep.refl h0 []).ext E406
  have Z406 := Nat.le_trans Z0 E406.1
  have F_kinds_b406 : Fld Z h406 b406 "com/example/killdeer/killdeer/EndingStatements" "kinds" "[Lcom/example/killdeer/killdeer/EndingStatements$Token;" .null := D406 (Or.inr (hwi hw 99 rfl)) (ty := (.array (.object "com/example/killdeer/killdeer/EndingStatements$Token"))) (by decide)
  have F_starts_b406 : Fld Z h406 b406 "com/example/killdeer/killdeer/EndingStatements" "starts" "[I" .null := D406 (Or.inr (hwi hw 101 rfl)) (ty := (.array .int)) (by decide)
  have F_ends_b406 : Fld Z h406 b406 "com/example/killdeer/killdeer/EndingStatements" "ends" "[I" .null := D406 (Or.inr (hwi hw 103 rfl)) (ty := (.array .int)) (by decide)
  have F_text_b406 : Fld Z h406 b406 "com/example/killdeer/killdeer/EndingStatements" "text" "Ljava/lang/String;" .null := D406 (Or.inr (hwi hw 105 rfl)) (ty := (.object "java/lang/String")) (by decide)
  have F_standardConformingStrings_b406 : Fld Z h406 b406 "com/example/killdeer/killdeer/EndingStatements" "standardConformingStrings" "Z" (.int 0) := D406 (Or.inr (hwi hw 107 rfl)) (ty := .boolean) (by decide)
  have F_at_b406 : Fld Z h406 b406 "com/example/killdeer/killdeer/EndingStatements" "at" "I" (.int 0) := D406 (Or.inl (hwi hw 113 rfl)) (ty := .int) (by decide)
  have F_tokens_b406 : Fld Z h406 b406 "com/example/killdeer/killdeer/EndingStatements" "tokens" "I" (.int 0) := D406 (Or.inl (hwi hw 155 rfl)) (ty := .int) (by decide)
  have F_bodyDepth_b406 : Fld Z h406 b406 "com/example/killdeer/killdeer/EndingStatements" "bodyDepth" "I" (.int 0) := D406 (Or.inl (hwi hw 158 rfl)) (ty := .int) (by decide)
  have F_afterBegin_b406 : Fld Z h406 b406 "com/example/killdeer/killdeer/EndingStatements" "afterBegin" "Z" (.int 0) := D406 (Or.inl (hwi hw 160 rfl)) (ty := .boolean) (by decide)
  have F_lastEnds_b406 : Fld Z h406 b406 "com/example/killdeer/killdeer/EndingStatements" "lastEnds" "Z" (.int 0) := D406 (Or.inl (hwi hw 171 rfl)) (ty := .boolean) (by decide)
  have F_endsBeforeAnother_b406 : Fld Z h406 b406 "com/example/killdeer/killdeer/EndingStatements" "endsBeforeAnother" "Z" (.int 0) := D406 (Or.inl (hwi hw 187 rfl)) (ty := .boolean) (by decide)
  have O406 := O.ext E406
  have CR406 := (CHr.refl CH0).trans (CHr.ext E406 CH0)
  have CH406 := CHv.ext E406 CH0
  have ST406 : Str Z h406 o 56 g := StrV.ext ST0 E406
  have FM406 : FM Z h406 b406 fv0 := fun i hi => match i, hi with
    | 0, _ => F_text_b406
    | 1, _ => F_standardConformingStrings_b406
    | 2, _ => F_kinds_b406
    | 3, _ => F_starts_b406
    | 4, _ => F_ends_b406
    | 5, _ => F_at_b406
    | 6, _ => F_tokens_b406
    | 7, _ => F_afterBegin_b406
    | 8, _ => F_bodyDepth_b406
    | 9, _ => F_lastEnds_b406
    | 10, _ => F_endsBeforeAnother_b406
    | i + 11, hi => absurd hi (by omega)
  obtain ⟨_, _, ⟨T407, L407, k407, n407⟩, -, X407, ⟨Lc407, hQ407, l407, y407, z407⟩, st407⟩ := X406.specialBack hx (y := (⟨"com/example/killdeer/killdeer/EndingStatements", "<init>", "(Ljava/lang/String;Z)V"⟩ : MethodName)) rfl hown (mvT hZ (hwi hw 92 rfl)) (mvT hZ (hwi hw 93 rfl)) (mvT hZ (hwi hw 94 rfl)) (by decide) (backOf (W := 1) (rmIN l Z a0 hw [] b406 o sc g h406 n0 Z406 O406 hsc E_b406 FM406 ST406 g_b406) hZ (hwi hw 94 rfl) (hwi hw 88 rfl) (by decide) (by decide)) (g := (mkF m 6 #[vR o, vI sc, .unset, .unset] [(.int sc), (.ref o), (.ref b406), (.ref b406)])) rfl (by rw [hml]; rfl) (Steps.refl _) (a := b406) (argsL := [(.ref o), (.int sc)]) (rest := [(.ref b406)]) (lenOf pd_17 rfl) rfl (by show 2 * 0 + _ ≤ _; exact Nat.le_of_eq rfl) (hD 4 rfl) (fun _ _ => ⟨rfl, e406, (by decide : 1 + 3 ≤ _), (by decide : 11 + 9 ≤ _)⟩)
  dsimp only [Pt.U, Pt.locs, Pt.cells, Pt.slots] at X407 l407 y407 z407 st407 hQ407
  obtain rfl : k407 = 4 := y407; obtain rfl : n407 = 20 := z407
  obtain ⟨rfl, N407q, K407, ka407, sa407, ea407, ya407, yb407, yc407, R407⟩ := hQ407
  have N407 : Fr n0 L407 := by rw [l407]; exact Fr.app N0 N407q
  have CR407 := CR406.trans (CHr.keep K407 (safe1 (Safe.exa hZ.alike E_b406 (by decide) (by decide))) CR406.1)
  have KK407 := K406.trans K407 (fun x z => by cases List.mem_singleton.mp z; exact Or.inr sz_b406)
  have Z407 := Nat.le_trans Z406 K407.1
  have gk407 : n0 ≤ ka407 := Nat.le_trans Z406 ya407
  have gs407 : n0 ≤ sa407 := Nat.le_trans Z406 yb407
  have ge407 : n0 ≤ ea407 := Nat.le_trans Z406 yc407
  have za407 := Nat.le_trans K406.1 ya407
  have zb407 := Nat.le_trans K406.1 yb407
  have zc407 := Nat.le_trans K406.1 yc407
  have O407 := O406.keep K407 (all1 g_b406)
  have ERr := R407.1.1
  obtain ⟨cq408, kq408, q408a, q408b, q408c⟩ := isOf hZ rfl ERr
  obtain ⟨_, _, ⟨T408, L408, k408, n408⟩, -, X408, hS2408, hg408, ⟨Lc408, hQ408, l408, y408, z408, C408⟩, st408⟩ := X407.virtualBackS hx hown (mvT hZ (hwi hw 108 rfl)) (mvT hZ (declOf (hwi hw 109 rfl) (hwi hw 111 rfl))) (notFace_of_selects (args := #[]) (mvT hZ (selOf (hwi hw 109 rfl) (hwi hw 110 rfl) (hwi hw 91 rfl) (by decide)))) (mvT hZ (selOf (hwi hw 109 rfl) (hwi hw 110 rfl) (hwi hw 91 rfl) (by decide))) (mvT hZ (hwi hw 109 rfl)) (by decide) (backOfSH (s := s) (vm0 := s.vm) (EL := EL1) (W := 0) (rmRD l Z a0 hw [] b406 o ka407 sa407 ea407 wv xv ov sc g _ _ _ p1 p2 p3 p4 q T407.heap n0 Z407 O407 SK hEL hgB hWD YW hXD YX hPD YP hxw how hox hq TX R407 g_b406 gk407 gs407 ge407) hZ (hwi hw 111 rfl) (hwi hw 88 rfl) (by decide) (by decide) hEL CR407.1) q408a q408c (g := (mkF m 11 #[vR o, vI sc, vR b406, .unset] [(.ref b406)])) rfl (by rw [hml]; rfl) (Steps.refl _) (argsL := []) (rest := []) (lenOf pd_12 rfl) rfl (by show 2 * 0 + _ ≤ _; exact Nat.le_of_eq rfl) (hD 7 rfl) (fun _ _ => ⟨rfl, rfl, (by decide : 4 + 80 ≤ _), (by decide : 20 + 4000 ≤ _)⟩)
  dsimp only [Pt.U, Pt.locs, Pt.cells, Pt.slots] at X408 l408 y408 z408 st408 hQ408 hS2408 hg408 C408
  obtain rfl : k408 = 84 := y408; obtain rfl : n408 = 4020 := z408
  obtain ⟨rfl, N408q, K408, EE408, FL408, FE408⟩ := hQ408
  have N408 : Fr n0 L408 := by rw [l408]; exact Fr.app N407 N408q
  have CR408 := CR407.trans C408
  have hS408 := foldS ((State.WarmedH.refl s).since 0) (by exact (Nat.zero_le _)) hS2408 hg408
  have hZ408 : Z.Warmed39 (s.setVm T408.vm).vm := State.Warmed39.trans hZ hS2408.1
  have hown408 := ownS (s := s) hS2408.1 hown
  have KK408 := KK407.trans K408 (fun x z => Or.inr (by simp only [List.mem_cons, List.not_mem_nil, or_false] at z; rcases z with rfl | rfl | rfl | rfl <;> assumption))
  have O408 := O407.keep K408 (all4 g_b406 gk407 gs407 ge407)
  obtain ⟨T409, X409, e409, st409⟩ := zF X408 hx hZ408 hown408 (hwi hw 186 rfl) rfl FE408 15 #[vR o, vI sc, vR b406, .unset] [] (hD 9 rfl)
  by_cases hEB : (EBo p1 p2 p3 p4 q sc) = 0
  · obtain ⟨T410, X410, e410, st410⟩ := zF X409 hx hZ408 hown408 (hwi hw 170 rfl) e409 FL408 29 #[vR o, vI sc, vR b406, .unset] [] (hD 15 rfl)
    by_cases hLE : (LEo p1 p2 p3 p4 q sc) = 0
    · obtain ⟨T411, X411, e411, st411⟩ := getS2 X410 hx hZ408 hown408 (host := "") (Or.inl (hwi hw 215 rfl)) Via.refl e410 (Sta.ext O408.2 hno) (g := (mkF m 42 #[vR o, vI sc, vR b406, .unset] [])) rfl (hD 20 rfl)
      refine zLw Bd (vm₁ := T408.vm) X411 hS408 (by rw [e411]; exact (Nat.le_refl _)) hZ408 hEL hh e411 CR408 (v := some (.ref no)) (by decide) nofun (fun fs hr => pre0 _ ?_) (by exact ⟨by unfold plc; rw [if_pos hEB, if_pos hLE], N408, by rw [e411]; exact KK408⟩)
      refine st406 _ ?_
      refine zD X406 hx (hD 1 rfl) ?_
      refine zA X406 hx (hD 2 rfl) rfl rfl ?_
      refine zL X406 hx (hD 3 rfl) rfl ?_
      refine st407.trans ?_
      refine XS.astoreN X407.here hx rfl (hD 5 rfl) rfl rfl (l' := #[vR o, vI sc, vR b406, .unset]) rfl ?_
      refine zA X407 hx (hD 6 rfl) rfl rfl ?_
      refine st408.trans ?_
      refine zA X408 hx (hD 8 rfl) rfl rfl ?_
      refine st409 _ ?_
      refine zI X409 hx 28 (hD 10 rfl) ((if0 _ _).trans (teq hEB).1) rfl ?_
      refine zA X409 hx (hD 14 rfl) rfl rfl ?_
      refine st410 _ ?_
      refine zI X410 hx 42 (hD 16 rfl) ((if0 _ _).trans (teq hLE).1) rfl ?_
      refine st411 _ ?_
      refine XS.astoreN X411.here hx rfl (hD 21 rfl) rfl rfl (l' := #[vR o, vI sc, vR b406, vR no]) rfl ?_
      refine zA X411 hx (hD 22 rfl) rfl rfl ?_
      show Steps p.tables e below (T411.setTop (mkF m 47 #[vR o, vI sc, vR b406, vR no] [(.ref no)])) _
      jvm_step X411.here [X411.here.top, hx, (hD 23 rfl), X411.method', Bd.returns, Value.isRef, FieldType.isReference]
      first | (intro acts; rw [hr _ acts rfl rfl rfl]) | rw [hr _ _ rfl rfl rfl]
      exact Steps.refl _
    · obtain ⟨T411, X411, e411, st411⟩ := getS2 X410 hx hZ408 hown408 (host := "") (Or.inl (hwi hw 235 rfl)) Via.refl e410 (Sta.ext O408.2 hla) (g := (mkF m 35 #[vR o, vI sc, vR b406, .unset] [])) rfl (hD 17 rfl)
      refine zLw Bd (vm₁ := T408.vm) X411 hS408 (by rw [e411]; exact (Nat.le_refl _)) hZ408 hEL hh e411 CR408 (v := some (.ref la)) (by decide) nofun (fun fs hr => pre0 _ ?_) (by exact ⟨by unfold plc; rw [if_pos hEB, if_neg hLE], N408, by rw [e411]; exact KK408⟩)
      refine st406 _ ?_
      refine zD X406 hx (hD 1 rfl) ?_
      refine zA X406 hx (hD 2 rfl) rfl rfl ?_
      refine zL X406 hx (hD 3 rfl) rfl ?_
      refine st407.trans ?_
      refine XS.astoreN X407.here hx rfl (hD 5 rfl) rfl rfl (l' := #[vR o, vI sc, vR b406, .unset]) rfl ?_
      refine zA X407 hx (hD 6 rfl) rfl rfl ?_
      refine st408.trans ?_
      refine zA X408 hx (hD 8 rfl) rfl rfl ?_
      refine st409 _ ?_
      refine zI X409 hx 28 (hD 10 rfl) ((if0 _ _).trans (teq hEB).1) rfl ?_
      refine zA X409 hx (hD 14 rfl) rfl rfl ?_
      refine st410 _ ?_
      refine zJ X410 hx (hD 16 rfl) ((if0 _ _).trans (feq hLE).1) ?_
      refine st411 _ ?_
      refine XS.astoreN X411.here hx rfl (hD 18 rfl) rfl rfl (l' := #[vR o, vI sc, vR b406, vR la]) rfl ?_
      refine zG X411 hx 46 (hD 19 rfl) rfl ?_
      refine zA X411 hx (hD 22 rfl) rfl rfl ?_
      show Steps p.tables e below (T411.setTop (mkF m 47 #[vR o, vI sc, vR b406, vR la] [(.ref la)])) _
      jvm_step X411.here [X411.here.top, hx, (hD 23 rfl), X411.method', Bd.returns, Value.isRef, FieldType.isReference]
      first | (intro acts; rw [hr _ acts rfl rfl rfl]) | rw [hr _ _ rfl rfl rfl]
      exact Steps.refl _
  · obtain ⟨T410, X410, e410, st410⟩ := getS2 X409 hx hZ408 hown408 (host := "") (Or.inl (hwi hw 189 rfl)) Via.refl e409 (Sta.ext O408.2 hbf) (g := (mkF m 21 #[vR o, vI sc, vR b406, .unset] [])) rfl (hD 11 rfl)
    refine zLw Bd (vm₁ := T408.vm) X410 hS408 (by rw [e410]; exact (Nat.le_refl _)) hZ408 hEL hh e410 CR408 (v := some (.ref bf)) (by decide) nofun (fun fs hr => pre0 _ ?_) (by exact ⟨by unfold plc; rw [if_neg hEB], N408, by rw [e410]; exact KK408⟩)
    refine st406 _ ?_
    refine zD X406 hx (hD 1 rfl) ?_
    refine zA X406 hx (hD 2 rfl) rfl rfl ?_
    refine zL X406 hx (hD 3 rfl) rfl ?_
    refine st407.trans ?_
    refine XS.astoreN X407.here hx rfl (hD 5 rfl) rfl rfl (l' := #[vR o, vI sc, vR b406, .unset]) rfl ?_
    refine zA X407 hx (hD 6 rfl) rfl rfl ?_
    refine st408.trans ?_
    refine zA X408 hx (hD 8 rfl) rfl rfl ?_
    refine st409 _ ?_
    refine zJ X409 hx (hD 10 rfl) ((if0 _ _).trans (feq hEB).1) ?_
    refine st410 _ ?_
    refine XS.astoreN X410.here hx rfl (hD 12 rfl) rfl rfl (l' := #[vR o, vI sc, vR b406, vR bf]) rfl ?_
    refine zG X410 hx 46 (hD 13 rfl) rfl ?_
    refine zA X410 hx (hD 22 rfl) rfl rfl ?_
    show Steps p.tables e below (T410.setTop (mkF m 47 #[vR o, vI sc, vR b406, vR bf] [(.ref bf)])) _
    jvm_step X410.here [X410.here.top, hx, (hD 23 rfl), X410.method', Bd.returns, Value.isRef, FieldType.isReference]
    first | (intro acts; rw [hr _ acts rfl rfl rfl]) | rw [hr _ _ rfl rfl rfl]
    exact Steps.refl _
def D37 : List (Nat × Instr × Nat) := [(0, .iload_n 1, 1), (1, .ifCond .ge 4, 3), (4, .return_, 1), (5, .aload_n 0, 1), (6, .iconst 0, 1), (7, .iaload, 1), (8, .iconst 3, 1), (9, .if_icmp .ge 11, 3), (12, .aload_n 0, 1), (13, .aload_n 0, 1), (14, .iconst 0, 1), (15, .iaload, 1), (16, .iconst 1, 1), (17, .iadd, 1), (18, .iload_n 1, 1), (19, .iastore, 1), (20, .aload_n 0, 1), (21, .iconst 0, 1), (22, .aload_n 0, 1), (23, .iconst 0, 1), (24, .iaload, 1), (25, .iconst 1, 1), (26, .iadd, 1), (27, .iastore, 1), (28, .return_, 1)]
theorem d37 : ∀ x ∈ D37, decode method_3_code x.1 = .ok x.2 := by decide +kernel
theorem pn_37 : plainName "com/example/killdeer/killdeer/EndingStatementsOfPinLaw" = true := by first | (simp [plainName, overriddenIn]; done) | decide +kernel
theorem ef_37 (m : MethodId) (x0 : Addr) (x1 : Int32) : entryFrame m #[(.ref x0), (.int x1)] 2 = mkF m 0 #[.val (.ref x0), .val (.int x1)] [] := by first | (simp [entryFrame, mkF, argsToLocals, Value.category]; done) | rfl
theorem rmPS0 (hw : HW Z a0) (ws : List Jvm.Cond) (b : Addr) (n : Nat) (cv : Nat → Int32) (cd : Int32)  (h0 : Heap) (n0 : Nat) (Z0 : n0 ≤ h0.size) (hn : n < 1000) (g_b : n0 ≤ b) (FB : AF Z h0 b .int 4 (bfV (n, cv))) (hcd : cd < 0)  :
    MF l Z (⟨"com/example/killdeer/killdeer/EndingStatementsOfPinLaw", "push", "([II)V"⟩ : MethodName) method_3_code 2 none ws (rM 0 0 0 0) #[(.ref b), (.int cd)] h0 (QPS Z b (psh (n, cv) cd) h0 n0) := by
  refine zBody pn_37 (fun m => ef_37 m b cd) ?_
  intro p e s m below meth c s₁ Bd hx hby hml hown hZ hh X0 e0 pre0
  have hD := dk hby d37
  have N0 := Fr.nil n0
  refine zLv Bd X0 (v := none) (by decide) (fun _ => rfl) (fun fs hr => pre0 _ ?_) (by exact ⟨rfl, N0, by rw [e0]; exact (Keep.refl h0 [b]), by unfold psh; rw [if_pos hcd, e0]; exact FB⟩)
  refine zL X0 hx (hD 0 rfl) rfl ?_
  refine zJ X0 hx (hD 1 rfl) ((if0 _ _).trans (tlt hcd).2.1) ?_
  show Steps p.tables e below (s₁.setTop (mkF m 4 #[vR b, vI cd] [])) _
  exact X0.returnOut hx Bd.returns (hD 2 rfl) hr
theorem rmPS1 (hw : HW Z a0) (ws : List Jvm.Cond) (b : Addr) (n : Nat) (cv : Nat → Int32) (cd : Int32)  (h0 : Heap) (n0 : Nat) (Z0 : n0 ≤ h0.size) (hn : n < 1000) (g_b : n0 ≤ b) (FB : AF Z h0 b .int 4 (bfV (n, cv))) (hcd : ¬ (cd < 0)) (hlt : n < 3)  :
    MF l Z (⟨"com/example/killdeer/killdeer/EndingStatementsOfPinLaw", "push", "([II)V"⟩ : MethodName) method_3_code 2 none ws (rM 0 0 0 0) #[(.ref b), (.int cd)] h0 (QPS Z b (psh (n, cv) cd) h0 n0) := by
  refine zBody pn_37 (fun m => ef_37 m b cd) ?_
  intro p e s m below meth c s₁ Bd hx hby hml hown hZ hh X0 e0 pre0
  have hD := dk hby d37
  have N0 := Fr.nil n0
  obtain ⟨T411, h411, X411, e411, W411, st411⟩ := stIn X0 hx hZ e0 FB (i := (n + 1)) (by omega) (by decide) (g := (mkF m 19 #[vR b, vI cd] [(.int cd), (.int (iN (n + 1))), (.ref b)])) rfl rfl (hD 15 rfl)
  have A411 := FB.wr W411
  have N411 := Fr.snoc X411 N0 g_b
  have K411 := (Keep.refl h0 [b]).wr W411 (Or.inl (List.mem_of_getElem? (i := 0) rfl))
  obtain ⟨T412, h412, X412, e412, W412, st412⟩ := stIn X411 hx hZ e411 A411 (i := 0) (by omega) (by decide) (g := (mkF m 27 #[vR b, vI cd] [(.int (iN (n + 1))), (.int 0), (.ref b)])) rfl rfl (hD 23 rfl)
  have A412 := A411.wr W412
  have N412 := Fr.snoc X412 N411 g_b
  have K412 := K411.wr W412 (Or.inl (List.mem_of_getElem? (i := 0) rfl))
  refine zLv Bd X412 (v := none) (by decide) (fun _ => rfl) (fun fs hr => pre0 _ ?_) (by exact ⟨rfl, N412, by rw [e412]; exact K412, by unfold psh; rw [if_neg hcd, e412]; exact A412.congr (psh1 hlt)⟩)
  refine zL X0 hx (hD 0 rfl) rfl ?_
  refine zI X0 hx 5 (hD 1 rfl) ((if0 _ _).trans (flt hcd).2.1) rfl ?_
  refine zA X0 hx (hD 3 rfl) rfl rfl ?_
  refine zC X0 hx (hD 4 rfl) ?_
  refine ldIn X0 hx hZ e0 FB (i := 0) (by decide) (by decide) (v := .int (iN n)) rfl (g := (mkF m 7 #[vR b, vI cd] [(.int 0), (.ref b)])) rfl rfl (hD 5 rfl) ?_
  refine zC X0 hx (hD 6 rfl) ?_
  refine zN X0 hx (hD 7 rfl) (tlt ((ltN (n := 3) (by omega) (by decide)).mpr hlt)).2.1 ?_
  refine zA X0 hx (hD 8 rfl) rfl rfl ?_
  refine zA X0 hx (hD 9 rfl) rfl rfl ?_
  refine zC X0 hx (hD 10 rfl) ?_
  refine ldIn X0 hx hZ e0 FB (i := 0) (by decide) (by decide) (v := .int (iN n)) rfl (g := (mkF m 15 #[vR b, vI cd] [(.int 0), (.ref b), (.ref b)])) rfl rfl (hD 11 rfl) ?_
  refine zC X0 hx (hD 12 rfl) ?_
  refine zPl X0 hx (hD 13 rfl) (z := (iN (n + 1))) (succN n) ?_
  refine zL X0 hx (hD 14 rfl) rfl ?_
  refine st411 _ ?_
  refine zA X411 hx (hD 16 rfl) rfl rfl ?_
  refine zC X411 hx (hD 17 rfl) ?_
  refine zA X411 hx (hD 18 rfl) rfl rfl ?_
  refine zC X411 hx (hD 19 rfl) ?_
  refine ldIn X411 hx hZ e411 A411 (i := 0) (by decide) (by decide) (v := .int (iN n)) (by unfold upd; rw [if_neg (by omega)]; rfl) (g := (mkF m 24 #[vR b, vI cd] [(.int 0), (.ref b), (.int 0), (.ref b)])) rfl rfl (hD 20 rfl) ?_
  refine zC X411 hx (hD 21 rfl) ?_
  refine zPl X411 hx (hD 22 rfl) (z := (iN (n + 1))) (succN n) ?_
  refine st412 _ ?_
  show Steps p.tables e below (T412.setTop (mkF m 28 #[vR b, vI cd] [])) _
  exact X412.returnOut hx Bd.returns (hD 24 rfl) hr
theorem rmPS2 (hw : HW Z a0) (ws : List Jvm.Cond) (b : Addr) (n : Nat) (cv : Nat → Int32) (cd : Int32)  (h0 : Heap) (n0 : Nat) (Z0 : n0 ≤ h0.size) (hn : n < 1000) (g_b : n0 ≤ b) (FB : AF Z h0 b .int 4 (bfV (n, cv))) (hcd : ¬ (cd < 0)) (hlt : ¬ (n < 3))  :
    MF l Z (⟨"com/example/killdeer/killdeer/EndingStatementsOfPinLaw", "push", "([II)V"⟩ : MethodName) method_3_code 2 none ws (rM 0 0 0 0) #[(.ref b), (.int cd)] h0 (QPS Z b (psh (n, cv) cd) h0 n0) := by
  refine zBody pn_37 (fun m => ef_37 m b cd) ?_
  intro p e s m below meth c s₁ Bd hx hby hml hown hZ hh X0 e0 pre0
  have hD := dk hby d37
  have N0 := Fr.nil n0
  obtain ⟨T413, h413, X413, e413, W413, st413⟩ := stIn X0 hx hZ e0 FB (i := 0) (by omega) (by decide) (g := (mkF m 27 #[vR b, vI cd] [(.int (iN (n + 1))), (.int 0), (.ref b)])) rfl rfl (hD 23 rfl)
  have A413 := FB.wr W413
  have N413 := Fr.snoc X413 N0 g_b
  have K413 := (Keep.refl h0 [b]).wr W413 (Or.inl (List.mem_of_getElem? (i := 0) rfl))
  refine zLv Bd X413 (v := none) (by decide) (fun _ => rfl) (fun fs hr => pre0 _ ?_) (by exact ⟨rfl, N413, by rw [e413]; exact K413, by unfold psh; rw [if_neg hcd, e413]; exact A413.congr (psh2 hlt)⟩)
  refine zL X0 hx (hD 0 rfl) rfl ?_
  refine zI X0 hx 5 (hD 1 rfl) ((if0 _ _).trans (flt hcd).2.1) rfl ?_
  refine zA X0 hx (hD 3 rfl) rfl rfl ?_
  refine zC X0 hx (hD 4 rfl) ?_
  refine ldIn X0 hx hZ e0 FB (i := 0) (by decide) (by decide) (v := .int (iN n)) rfl (g := (mkF m 7 #[vR b, vI cd] [(.int 0), (.ref b)])) rfl rfl (hD 5 rfl) ?_
  refine zC X0 hx (hD 6 rfl) ?_
  refine zM X0 hx 20 (hD 7 rfl) (flt (fun q => hlt ((ltN (n := 3) (by omega) (by decide)).mp q))).2.1 rfl ?_
  refine zA X0 hx (hD 16 rfl) rfl rfl ?_
  refine zC X0 hx (hD 17 rfl) ?_
  refine zA X0 hx (hD 18 rfl) rfl rfl ?_
  refine zC X0 hx (hD 19 rfl) ?_
  refine ldIn X0 hx hZ e0 FB (i := 0) (by decide) (by decide) (v := .int (iN n)) rfl (g := (mkF m 24 #[vR b, vI cd] [(.int 0), (.ref b), (.int 0), (.ref b)])) rfl rfl (hD 20 rfl) ?_
  refine zC X0 hx (hD 21 rfl) ?_
  refine zPl X0 hx (hD 22 rfl) (z := (iN (n + 1))) (succN n) ?_
  refine st413 _ ?_
  show Steps p.tables e below (T413.setTop (mkF m 28 #[vR b, vI cd] [])) _
  exact X413.returnOut hx Bd.returns (hD 24 rfl) hr
theorem rmPS (hw : HW Z a0) (ws : List Jvm.Cond) (b : Addr) (S : Nat × (Nat → Int32)) (cd : Int32)  (h0 : Heap) (n0 : Nat) (Z0 : n0 ≤ h0.size) (hn : S.1 < 1000) (g_b : n0 ≤ b) (FB : AF Z h0 b .int 4 (bfV S))  :
    MF l Z (⟨"com/example/killdeer/killdeer/EndingStatementsOfPinLaw", "push", "([II)V"⟩ : MethodName) method_3_code 2 none ws (rM 0 0 0 0) #[(.ref b), (.int cd)] h0 (QPS Z b (psh S cd) h0 n0) := by
  obtain ⟨n, cv⟩ := S
  by_cases hcd : cd < 0
  · exact rmPS0 l Z a0 hw ws b n cv cd h0 n0 Z0 hn g_b FB hcd
  · by_cases hlt : n < 3
    · exact rmPS1 l Z a0 hw ws b n cv cd h0 n0 Z0 hn g_b FB hcd hlt
    · exact rmPS2 l Z a0 hw ws b n cv cd h0 n0 Z0 hn g_b FB hcd hlt
def D38 : List (Nat × Instr × Nat) := [(0, .aload_n 0, 1), (1, .iconst 1, 1), (2, .iaload, 1), (3, .istore_n 1, 1), (4, .aload_n 0, 1), (5, .iconst 2, 1), (6, .iaload, 1), (7, .istore_n 2, 1), (8, .aload_n 0, 1), (9, .iconst 3, 1), (10, .iaload, 1), (11, .istore_n 3, 1), (12, .iload_n 1, 1), (13, .ifCond .ne 14, 3), (16, .iload_n 2, 1), (17, .iconst 5, 1), (18, .if_icmp .eq 7, 3), (21, .iconst 1, 1), (22, .goto 4, 3), (25, .iconst 0, 1), (26, .ireturn, 1), (27, .iload_n 1, 1), (28, .iconst 1, 1), (29, .if_icmp .eq 8, 3), (32, .iload_n 1, 1), (33, .iconst 2, 1), (34, .if_icmp .ne 5, 3), (37, .iconst 1, 1), (38, .ireturn, 1), (39, .iload_n 1, 1), (40, .iconst 3, 1), (41, .if_icmp .ne 50, 3), (44, .iload_n 2, 1), (45, .bipush 6, 2), (47, .if_icmp .eq 21, 3), (50, .iload_n 2, 1), (51, .bipush 7, 2), (53, .if_icmp .eq 9, 3), (56, .iload_n 2, 1), (57, .bipush 8, 2), (59, .if_icmp .ne 13, 3), (62, .iload_n 3, 1), (63, .bipush 6, 2), (65, .if_icmp .ne 7, 3), (68, .iconst 1, 1), (69, .goto 4, 3), (72, .iconst 0, 1), (73, .istore 4, 2), (75, .iload 4, 2), (77, .ifCond .ne 12, 3), (80, .iload_n 2, 1), (81, .iconst 5, 1), (82, .if_icmp .eq 7, 3), (85, .iconst 1, 1), (86, .goto 4, 3), (89, .iconst 0, 1), (90, .ireturn, 1), (91, .iload_n 1, 1), (92, .iconst 4, 1), (93, .if_icmp .ne 21, 3), (96, .iload_n 2, 1), (97, .bipush 8, 2), (99, .if_icmp .ne 13, 3), (102, .iload_n 3, 1), (103, .bipush 100, 2), (105, .if_icmp .ne 7, 3), (108, .iconst 1, 1), (109, .goto 4, 3), (112, .iconst 0, 1), (113, .ireturn, 1), (114, .iconst 0, 1), (115, .ireturn, 1)]
theorem d38 : ∀ x ∈ D38, decode method_4_code x.1 = .ok x.2 := by decide +kernel
theorem pn_38 : plainName "com/example/killdeer/killdeer/EndingStatementsOfPinLaw" = true := by first | (simp [plainName, overriddenIn]; done) | decide +kernel
theorem ef_38 (m : MethodId) (x0 : Addr) : entryFrame m #[(.ref x0)] 5 = mkF m 0 #[.val (.ref x0), .unset, .unset, .unset, .unset] [] := by first | (simp [entryFrame, mkF, argsToLocals, Value.category]; done) | rfl
def f_en (b : Addr) (S : Nat × (Nat → Int32)) : Int32 := if (S.2 0) = (0 : Int32) then if (S.2 1) = (5 : Int32) then (0 : Int32) else (1 : Int32) else if (S.2 0) = (1 : Int32) then (1 : Int32) else if (S.2 0) = (2 : Int32) then (1 : Int32) else if (S.2 0) = (3 : Int32) then if (S.2 1) = (6 : Int32) then (0 : Int32) else if (S.2 1) = (7 : Int32) then if (S.2 2) = (6 : Int32) then (0 : Int32) else if (S.2 1) = (5 : Int32) then (0 : Int32) else (1 : Int32) else if (S.2 1) = (8 : Int32) then if (S.2 2) = (6 : Int32) then (0 : Int32) else if (S.2 1) = (5 : Int32) then (0 : Int32) else (1 : Int32) else if (S.2 1) = (5 : Int32) then (0 : Int32) else (1 : Int32) else if (S.2 0) = (4 : Int32) then if (S.2 1) = (8 : Int32) then if (S.2 2) = (100 : Int32) then (1 : Int32) else (0 : Int32) else (0 : Int32) else (0 : Int32)
theorem rm_en (hw : HW Z a0) (ws : List Jvm.Cond) (b : Addr) (S : Nat × (Nat → Int32))  (h0 : Heap) (n0 : Nat) (Z0 : n0 ≤ h0.size) (FB : AF Z h0 b .int 4 (bfV S))  :
    MF l Z (⟨"com/example/killdeer/killdeer/EndingStatementsOfPinLaw", "ends", "([I)Z"⟩ : MethodName) method_4_code 5 (some .boolean) ws (rM 0 0 0 0) #[(.ref b)] h0 (QI (f_en b S) h0 n0) := by
  refine zBody pn_38 (fun m => ef_38 m b) ?_
  intro p e s m below meth c s₁ Bd hx hby hml hown hZ hh X0 e0 pre0
  have hD := dk hby d38
  have N0 := Fr.nil n0
  have pq : ∀ zz, Steps p.tables e below (s₁.setTop (mkF m 13 #[vR b, vI (S.2 0), vI (S.2 1), vI (S.2 2), .unset] [(.int (S.2 0))])) zz → Steps p.tables e below (s₁.setTop (entryFrame m #[(.ref b)] 5)) zz := by
    intro zz kz_
    refine pre0 zz ?_
    refine zA X0 hx (hD 0 rfl) rfl rfl ?_
    refine zC X0 hx (hD 1 rfl) ?_
    refine ldIn X0 hx hZ e0 FB (i := 1) (by decide) (by decide) (v := .int (S.2 0)) rfl (g := (mkF m 2 #[vR b, .unset, .unset, .unset, .unset] [(.int 1), (.ref b)])) rfl rfl (hD 2 rfl) ?_
    refine zS X0 hx (hD 3 rfl) rfl ?_
    refine zA X0 hx (hD 4 rfl) rfl rfl ?_
    refine zC X0 hx (hD 5 rfl) ?_
    refine ldIn X0 hx hZ e0 FB (i := 2) (by decide) (by decide) (v := .int (S.2 1)) rfl (g := (mkF m 6 #[vR b, vI (S.2 0), .unset, .unset, .unset] [(.int 2), (.ref b)])) rfl rfl (hD 6 rfl) ?_
    refine zS X0 hx (hD 7 rfl) rfl ?_
    refine zA X0 hx (hD 8 rfl) rfl rfl ?_
    refine zC X0 hx (hD 9 rfl) ?_
    refine ldIn X0 hx hZ e0 FB (i := 3) (by decide) (by decide) (v := .int (S.2 2)) rfl (g := (mkF m 10 #[vR b, vI (S.2 0), vI (S.2 1), .unset, .unset] [(.int 3), (.ref b)])) rfl rfl (hD 10 rfl) ?_
    refine zS X0 hx (hD 11 rfl) rfl ?_
    refine zL X0 hx (hD 12 rfl) rfl ?_
    exact kz_
  by_cases hc13 : (S.2 0) = (0 : Int32)
  ·have pqa : ∀ zz, Steps p.tables e below (s₁.setTop (mkF m 18 #[vR b, vI (S.2 0), vI (S.2 1), vI (S.2 2), .unset] [(.int 5), (.int (S.2 1))])) zz → Steps p.tables e below (s₁.setTop (entryFrame m #[(.ref b)] 5)) zz := by
     intro zz kz_
     refine pq zz ?_
     refine zJ X0 hx (hD 13 rfl) ((if0 _ _).trans (teq hc13).2) ?_
     refine zL X0 hx (hD 14 rfl) rfl ?_
     refine zC X0 hx (hD 15 rfl) ?_
     exact kz_
   by_cases hc18 : (S.2 1) = (5 : Int32)
   ·refine zLv Bd X0 (v := some (.int 0)) (by decide) nofun (fun fs hr => pqa _ ?_) (by rw [e0]; exact ⟨by rw [f_en, if_pos hc13, if_pos hc18], N0, rfl⟩)
    refine zM X0 hx 25 (hD 16 rfl) (teq hc18).1 rfl ?_
    refine zC X0 hx (hD 19 rfl) ?_
    exact retN X0 hx (t := .boolean) Bd.returns (by simp) (hD 20 rfl) hr
   ·refine zLv Bd X0 (v := some (.int 1)) (by decide) nofun (fun fs hr => pqa _ ?_) (by rw [e0]; exact ⟨by rw [f_en, if_pos hc13, if_neg hc18], N0, rfl⟩)
    refine zN X0 hx (hD 16 rfl) (feq hc18).1 ?_
    refine zC X0 hx (hD 17 rfl) ?_
    refine zG X0 hx 26 (hD 18 rfl) rfl ?_
    exact retN X0 hx (t := .boolean) Bd.returns (by simp) (hD 20 rfl) hr
  ·have pqb : ∀ zz, Steps p.tables e below (s₁.setTop (mkF m 29 #[vR b, vI (S.2 0), vI (S.2 1), vI (S.2 2), .unset] [(.int 1), (.int (S.2 0))])) zz → Steps p.tables e below (s₁.setTop (entryFrame m #[(.ref b)] 5)) zz := by
     intro zz kz_
     refine pq zz ?_
     refine zI X0 hx 27 (hD 13 rfl) ((if0 _ _).trans (feq hc13).2) rfl ?_
     refine zL X0 hx (hD 21 rfl) rfl ?_
     refine zC X0 hx (hD 22 rfl) ?_
     exact kz_
   by_cases hc29 : (S.2 0) = (1 : Int32)
   ·refine zLv Bd X0 (v := some (.int 1)) (by decide) nofun (fun fs hr => pqb _ ?_) (by rw [e0]; exact ⟨by rw [f_en, if_neg hc13, if_pos hc29], N0, rfl⟩)
    refine zM X0 hx 37 (hD 23 rfl) (teq hc29).1 rfl ?_
    refine zC X0 hx (hD 27 rfl) ?_
    exact retN X0 hx (t := .boolean) Bd.returns (by simp) (hD 28 rfl) hr
   ·have pqbb : ∀ zz, Steps p.tables e below (s₁.setTop (mkF m 34 #[vR b, vI (S.2 0), vI (S.2 1), vI (S.2 2), .unset] [(.int 2), (.int (S.2 0))])) zz → Steps p.tables e below (s₁.setTop (entryFrame m #[(.ref b)] 5)) zz := by
      intro zz kz_
      refine pqb zz ?_
      refine zN X0 hx (hD 23 rfl) (feq hc29).1 ?_
      refine zL X0 hx (hD 24 rfl) rfl ?_
      refine zC X0 hx (hD 25 rfl) ?_
      exact kz_
    by_cases hc34 : (S.2 0) = (2 : Int32)
    ·refine zLv Bd X0 (v := some (.int 1)) (by decide) nofun (fun fs hr => pqbb _ ?_) (by rw [e0]; exact ⟨by rw [f_en, if_neg hc13, if_neg hc29, if_pos hc34], N0, rfl⟩)
     refine zN X0 hx (hD 26 rfl) (teq hc34).2 ?_
     refine zC X0 hx (hD 27 rfl) ?_
     exact retN X0 hx (t := .boolean) Bd.returns (by simp) (hD 28 rfl) hr
    ·have pqbbb : ∀ zz, Steps p.tables e below (s₁.setTop (mkF m 41 #[vR b, vI (S.2 0), vI (S.2 1), vI (S.2 2), .unset] [(.int 3), (.int (S.2 0))])) zz → Steps p.tables e below (s₁.setTop (entryFrame m #[(.ref b)] 5)) zz := by
       intro zz kz_
       refine pqbb zz ?_
       refine zM X0 hx 39 (hD 26 rfl) (feq hc34).2 rfl ?_
       refine zL X0 hx (hD 29 rfl) rfl ?_
       refine zC X0 hx (hD 30 rfl) ?_
       exact kz_
     by_cases hc41 : (S.2 0) = (3 : Int32)
     ·have pqbbba : ∀ zz, Steps p.tables e below (s₁.setTop (mkF m 47 #[vR b, vI (S.2 0), vI (S.2 1), vI (S.2 2), .unset] [(.int 6), (.int (S.2 1))])) zz → Steps p.tables e below (s₁.setTop (entryFrame m #[(.ref b)] 5)) zz := by
        intro zz kz_
        refine pqbbb zz ?_
        refine zN X0 hx (hD 31 rfl) (teq hc41).2 ?_
        refine zL X0 hx (hD 32 rfl) rfl ?_
        refine zB X0 hx (hD 33 rfl) ?_
        exact kz_
      by_cases hc47 : (S.2 1) = (6 : Int32)
      ·refine zLv Bd X0 (v := some (.int 0)) (by decide) nofun (fun fs hr => pqbbba _ ?_) (by rw [e0]; exact ⟨by rw [f_en, if_neg hc13, if_neg hc29, if_neg hc34, if_pos hc41, if_pos hc47], N0, rfl⟩)
       refine zM X0 hx 68 (hD 34 rfl) (teq hc47).1 rfl ?_
       refine zC X0 hx (hD 44 rfl) ?_
       refine zG X0 hx 73 (hD 45 rfl) rfl ?_
       refine zs X0 hx (hD 47 rfl) rfl ?_
       refine zl X0 hx (hD 48 rfl) rfl ?_
       refine zI X0 hx 89 (hD 49 rfl) ((if0 _ _).trans (feq (by decide : ¬ ((1 : Int32) = 0))).2) rfl ?_
       refine zC X0 hx (hD 55 rfl) ?_
       exact retN X0 hx (t := .boolean) Bd.returns (by simp) (hD 56 rfl) hr
      ·have pqbbbab : ∀ zz, Steps p.tables e below (s₁.setTop (mkF m 53 #[vR b, vI (S.2 0), vI (S.2 1), vI (S.2 2), .unset] [(.int 7), (.int (S.2 1))])) zz → Steps p.tables e below (s₁.setTop (entryFrame m #[(.ref b)] 5)) zz := by
         intro zz kz_
         refine pqbbba zz ?_
         refine zN X0 hx (hD 34 rfl) (feq hc47).1 ?_
         refine zL X0 hx (hD 35 rfl) rfl ?_
         refine zB X0 hx (hD 36 rfl) ?_
         exact kz_
       by_cases hc53 : (S.2 1) = (7 : Int32)
       ·have pqbbbaba : ∀ zz, Steps p.tables e below (s₁.setTop (mkF m 65 #[vR b, vI (S.2 0), vI (S.2 1), vI (S.2 2), .unset] [(.int 6), (.int (S.2 2))])) zz → Steps p.tables e below (s₁.setTop (entryFrame m #[(.ref b)] 5)) zz := by
          intro zz kz_
          refine pqbbbab zz ?_
          refine zM X0 hx 62 (hD 37 rfl) (teq hc53).1 rfl ?_
          refine zL X0 hx (hD 41 rfl) rfl ?_
          refine zB X0 hx (hD 42 rfl) ?_
          exact kz_
        by_cases hc65 : (S.2 2) = (6 : Int32)
        ·refine zLv Bd X0 (v := some (.int 0)) (by decide) nofun (fun fs hr => pqbbbaba _ ?_) (by rw [e0]; exact ⟨by rw [f_en, if_neg hc13, if_neg hc29, if_neg hc34, if_pos hc41, if_neg hc47, if_pos hc53, if_pos hc65], N0, rfl⟩)
         refine zN X0 hx (hD 43 rfl) (teq hc65).2 ?_
         refine zC X0 hx (hD 44 rfl) ?_
         refine zG X0 hx 73 (hD 45 rfl) rfl ?_
         refine zs X0 hx (hD 47 rfl) rfl ?_
         refine zl X0 hx (hD 48 rfl) rfl ?_
         refine zI X0 hx 89 (hD 49 rfl) ((if0 _ _).trans (feq (by decide : ¬ ((1 : Int32) = 0))).2) rfl ?_
         refine zC X0 hx (hD 55 rfl) ?_
         exact retN X0 hx (t := .boolean) Bd.returns (by simp) (hD 56 rfl) hr
        ·have pqbbbabab : ∀ zz, Steps p.tables e below (s₁.setTop (mkF m 82 #[vR b, vI (S.2 0), vI (S.2 1), vI (S.2 2), vI 0] [(.int 5), (.int (S.2 1))])) zz → Steps p.tables e below (s₁.setTop (entryFrame m #[(.ref b)] 5)) zz := by
           intro zz kz_
           refine pqbbbaba zz ?_
           refine zM X0 hx 72 (hD 43 rfl) (feq hc65).2 rfl ?_
           refine zC X0 hx (hD 46 rfl) ?_
           refine zs X0 hx (hD 47 rfl) rfl ?_
           refine zl X0 hx (hD 48 rfl) rfl ?_
           refine zJ X0 hx (hD 49 rfl) ((if0 _ _).trans (teq (rfl : (0 : Int32) = 0)).2) ?_
           refine zL X0 hx (hD 50 rfl) rfl ?_
           refine zC X0 hx (hD 51 rfl) ?_
           exact kz_
         by_cases hc82 : (S.2 1) = (5 : Int32)
         ·refine zLv Bd X0 (v := some (.int 0)) (by decide) nofun (fun fs hr => pqbbbabab _ ?_) (by rw [e0]; exact ⟨by rw [f_en, if_neg hc13, if_neg hc29, if_neg hc34, if_pos hc41, if_neg hc47, if_pos hc53, if_neg hc65, if_pos hc82], N0, rfl⟩)
          refine zM X0 hx 89 (hD 52 rfl) (teq hc82).1 rfl ?_
          refine zC X0 hx (hD 55 rfl) ?_
          exact retN X0 hx (t := .boolean) Bd.returns (by simp) (hD 56 rfl) hr
         ·refine zLv Bd X0 (v := some (.int 1)) (by decide) nofun (fun fs hr => pqbbbabab _ ?_) (by rw [e0]; exact ⟨by rw [f_en, if_neg hc13, if_neg hc29, if_neg hc34, if_pos hc41, if_neg hc47, if_pos hc53, if_neg hc65, if_neg hc82], N0, rfl⟩)
          refine zN X0 hx (hD 52 rfl) (feq hc82).1 ?_
          refine zC X0 hx (hD 53 rfl) ?_
          refine zG X0 hx 90 (hD 54 rfl) rfl ?_
          exact retN X0 hx (t := .boolean) Bd.returns (by simp) (hD 56 rfl) hr
       ·have pqbbbabb : ∀ zz, Steps p.tables e below (s₁.setTop (mkF m 59 #[vR b, vI (S.2 0), vI (S.2 1), vI (S.2 2), .unset] [(.int 8), (.int (S.2 1))])) zz → Steps p.tables e below (s₁.setTop (entryFrame m #[(.ref b)] 5)) zz := by
          intro zz kz_
          refine pqbbbab zz ?_
          refine zN X0 hx (hD 37 rfl) (feq hc53).1 ?_
          refine zL X0 hx (hD 38 rfl) rfl ?_
          refine zB X0 hx (hD 39 rfl) ?_
          exact kz_
        by_cases hc59 : (S.2 1) = (8 : Int32)
        ·have pqbbbabba : ∀ zz, Steps p.tables e below (s₁.setTop (mkF m 65 #[vR b, vI (S.2 0), vI (S.2 1), vI (S.2 2), .unset] [(.int 6), (.int (S.2 2))])) zz → Steps p.tables e below (s₁.setTop (entryFrame m #[(.ref b)] 5)) zz := by
           intro zz kz_
           refine pqbbbabb zz ?_
           refine zN X0 hx (hD 40 rfl) (teq hc59).2 ?_
           refine zL X0 hx (hD 41 rfl) rfl ?_
           refine zB X0 hx (hD 42 rfl) ?_
           exact kz_
         by_cases hc65 : (S.2 2) = (6 : Int32)
         ·refine zLv Bd X0 (v := some (.int 0)) (by decide) nofun (fun fs hr => pqbbbabba _ ?_) (by rw [e0]; exact ⟨by rw [f_en, if_neg hc13, if_neg hc29, if_neg hc34, if_pos hc41, if_neg hc47, if_neg hc53, if_pos hc59, if_pos hc65], N0, rfl⟩)
          refine zN X0 hx (hD 43 rfl) (teq hc65).2 ?_
          refine zC X0 hx (hD 44 rfl) ?_
          refine zG X0 hx 73 (hD 45 rfl) rfl ?_
          refine zs X0 hx (hD 47 rfl) rfl ?_
          refine zl X0 hx (hD 48 rfl) rfl ?_
          refine zI X0 hx 89 (hD 49 rfl) ((if0 _ _).trans (feq (by decide : ¬ ((1 : Int32) = 0))).2) rfl ?_
          refine zC X0 hx (hD 55 rfl) ?_
          exact retN X0 hx (t := .boolean) Bd.returns (by simp) (hD 56 rfl) hr
         ·have pqbbbabbab : ∀ zz, Steps p.tables e below (s₁.setTop (mkF m 82 #[vR b, vI (S.2 0), vI (S.2 1), vI (S.2 2), vI 0] [(.int 5), (.int (S.2 1))])) zz → Steps p.tables e below (s₁.setTop (entryFrame m #[(.ref b)] 5)) zz := by
            intro zz kz_
            refine pqbbbabba zz ?_
            refine zM X0 hx 72 (hD 43 rfl) (feq hc65).2 rfl ?_
            refine zC X0 hx (hD 46 rfl) ?_
            refine zs X0 hx (hD 47 rfl) rfl ?_
            refine zl X0 hx (hD 48 rfl) rfl ?_
            refine zJ X0 hx (hD 49 rfl) ((if0 _ _).trans (teq (rfl : (0 : Int32) = 0)).2) ?_
            refine zL X0 hx (hD 50 rfl) rfl ?_
            refine zC X0 hx (hD 51 rfl) ?_
            exact kz_
          by_cases hc82 : (S.2 1) = (5 : Int32)
          ·refine zLv Bd X0 (v := some (.int 0)) (by decide) nofun (fun fs hr => pqbbbabbab _ ?_) (by rw [e0]; exact ⟨by rw [f_en, if_neg hc13, if_neg hc29, if_neg hc34, if_pos hc41, if_neg hc47, if_neg hc53, if_pos hc59, if_neg hc65, if_pos hc82], N0, rfl⟩)
           refine zM X0 hx 89 (hD 52 rfl) (teq hc82).1 rfl ?_
           refine zC X0 hx (hD 55 rfl) ?_
           exact retN X0 hx (t := .boolean) Bd.returns (by simp) (hD 56 rfl) hr
          ·refine zLv Bd X0 (v := some (.int 1)) (by decide) nofun (fun fs hr => pqbbbabbab _ ?_) (by rw [e0]; exact ⟨by rw [f_en, if_neg hc13, if_neg hc29, if_neg hc34, if_pos hc41, if_neg hc47, if_neg hc53, if_pos hc59, if_neg hc65, if_neg hc82], N0, rfl⟩)
           refine zN X0 hx (hD 52 rfl) (feq hc82).1 ?_
           refine zC X0 hx (hD 53 rfl) ?_
           refine zG X0 hx 90 (hD 54 rfl) rfl ?_
           exact retN X0 hx (t := .boolean) Bd.returns (by simp) (hD 56 rfl) hr
        ·have pqbbbabbb : ∀ zz, Steps p.tables e below (s₁.setTop (mkF m 82 #[vR b, vI (S.2 0), vI (S.2 1), vI (S.2 2), vI 0] [(.int 5), (.int (S.2 1))])) zz → Steps p.tables e below (s₁.setTop (entryFrame m #[(.ref b)] 5)) zz := by
           intro zz kz_
           refine pqbbbabb zz ?_
           refine zM X0 hx 72 (hD 40 rfl) (feq hc59).2 rfl ?_
           refine zC X0 hx (hD 46 rfl) ?_
           refine zs X0 hx (hD 47 rfl) rfl ?_
           refine zl X0 hx (hD 48 rfl) rfl ?_
           refine zJ X0 hx (hD 49 rfl) ((if0 _ _).trans (teq (rfl : (0 : Int32) = 0)).2) ?_
           refine zL X0 hx (hD 50 rfl) rfl ?_
           refine zC X0 hx (hD 51 rfl) ?_
           exact kz_
         by_cases hc82 : (S.2 1) = (5 : Int32)
         ·refine zLv Bd X0 (v := some (.int 0)) (by decide) nofun (fun fs hr => pqbbbabbb _ ?_) (by rw [e0]; exact ⟨by rw [f_en, if_neg hc13, if_neg hc29, if_neg hc34, if_pos hc41, if_neg hc47, if_neg hc53, if_neg hc59, if_pos hc82], N0, rfl⟩)
          refine zM X0 hx 89 (hD 52 rfl) (teq hc82).1 rfl ?_
          refine zC X0 hx (hD 55 rfl) ?_
          exact retN X0 hx (t := .boolean) Bd.returns (by simp) (hD 56 rfl) hr
         ·refine zLv Bd X0 (v := some (.int 1)) (by decide) nofun (fun fs hr => pqbbbabbb _ ?_) (by rw [e0]; exact ⟨by rw [f_en, if_neg hc13, if_neg hc29, if_neg hc34, if_pos hc41, if_neg hc47, if_neg hc53, if_neg hc59, if_neg hc82], N0, rfl⟩)
          refine zN X0 hx (hD 52 rfl) (feq hc82).1 ?_
          refine zC X0 hx (hD 53 rfl) ?_
          refine zG X0 hx 90 (hD 54 rfl) rfl ?_
          exact retN X0 hx (t := .boolean) Bd.returns (by simp) (hD 56 rfl) hr
     ·have pqbbbb : ∀ zz, Steps p.tables e below (s₁.setTop (mkF m 93 #[vR b, vI (S.2 0), vI (S.2 1), vI (S.2 2), .unset] [(.int 4), (.int (S.2 0))])) zz → Steps p.tables e below (s₁.setTop (entryFrame m #[(.ref b)] 5)) zz := by
        intro zz kz_
        refine pqbbb zz ?_
        refine zM X0 hx 91 (hD 31 rfl) (feq hc41).2 rfl ?_
        refine zL X0 hx (hD 57 rfl) rfl ?_
        refine zC X0 hx (hD 58 rfl) ?_
        exact kz_
      by_cases hc93 : (S.2 0) = (4 : Int32)
      ·have pqbbbba : ∀ zz, Steps p.tables e below (s₁.setTop (mkF m 99 #[vR b, vI (S.2 0), vI (S.2 1), vI (S.2 2), .unset] [(.int 8), (.int (S.2 1))])) zz → Steps p.tables e below (s₁.setTop (entryFrame m #[(.ref b)] 5)) zz := by
         intro zz kz_
         refine pqbbbb zz ?_
         refine zN X0 hx (hD 59 rfl) (teq hc93).2 ?_
         refine zL X0 hx (hD 60 rfl) rfl ?_
         refine zB X0 hx (hD 61 rfl) ?_
         exact kz_
       by_cases hc99 : (S.2 1) = (8 : Int32)
       ·have pqbbbbaa : ∀ zz, Steps p.tables e below (s₁.setTop (mkF m 105 #[vR b, vI (S.2 0), vI (S.2 1), vI (S.2 2), .unset] [(.int 100), (.int (S.2 2))])) zz → Steps p.tables e below (s₁.setTop (entryFrame m #[(.ref b)] 5)) zz := by
          intro zz kz_
          refine pqbbbba zz ?_
          refine zN X0 hx (hD 62 rfl) (teq hc99).2 ?_
          refine zL X0 hx (hD 63 rfl) rfl ?_
          refine zB X0 hx (hD 64 rfl) ?_
          exact kz_
        by_cases hc105 : (S.2 2) = (100 : Int32)
        ·refine zLv Bd X0 (v := some (.int 1)) (by decide) nofun (fun fs hr => pqbbbbaa _ ?_) (by rw [e0]; exact ⟨by rw [f_en, if_neg hc13, if_neg hc29, if_neg hc34, if_neg hc41, if_pos hc93, if_pos hc99, if_pos hc105], N0, rfl⟩)
         refine zN X0 hx (hD 65 rfl) (teq hc105).2 ?_
         refine zC X0 hx (hD 66 rfl) ?_
         refine zG X0 hx 113 (hD 67 rfl) rfl ?_
         exact retN X0 hx (t := .boolean) Bd.returns (by simp) (hD 69 rfl) hr
        ·refine zLv Bd X0 (v := some (.int 0)) (by decide) nofun (fun fs hr => pqbbbbaa _ ?_) (by rw [e0]; exact ⟨by rw [f_en, if_neg hc13, if_neg hc29, if_neg hc34, if_neg hc41, if_pos hc93, if_pos hc99, if_neg hc105], N0, rfl⟩)
         refine zM X0 hx 112 (hD 65 rfl) (feq hc105).2 rfl ?_
         refine zC X0 hx (hD 68 rfl) ?_
         exact retN X0 hx (t := .boolean) Bd.returns (by simp) (hD 69 rfl) hr
       ·refine zLv Bd X0 (v := some (.int 0)) (by decide) nofun (fun fs hr => pqbbbba _ ?_) (by rw [e0]; exact ⟨by rw [f_en, if_neg hc13, if_neg hc29, if_neg hc34, if_neg hc41, if_pos hc93, if_neg hc99], N0, rfl⟩)
        refine zM X0 hx 112 (hD 62 rfl) (feq hc99).2 rfl ?_
        refine zC X0 hx (hD 68 rfl) ?_
        exact retN X0 hx (t := .boolean) Bd.returns (by simp) (hD 69 rfl) hr
      ·refine zLv Bd X0 (v := some (.int 0)) (by decide) nofun (fun fs hr => pqbbbb _ ?_) (by rw [e0]; exact ⟨by rw [f_en, if_neg hc13, if_neg hc29, if_neg hc34, if_neg hc41, if_neg hc93], N0, rfl⟩)
       refine zM X0 hx 114 (hD 59 rfl) (feq hc93).2 rfl ?_
       refine zC X0 hx (hD 70 rfl) ?_
       exact retN X0 hx (t := .boolean) Bd.returns (by simp) (hD 71 rfl) hr
theorem f_en_eq (b : Addr) (S : Nat × (Nat → Int32)) : f_en b S = endV (S.2 0) (S.2 1) (S.2 2) := by
  unfold f_en endV
  by_cases h0 : S.2 0 = 0
  · simp [h0]
  · by_cases h1 : S.2 0 = 1
    · simp [h1]
    · by_cases h2 : S.2 0 = 2
      · simp [h2]
      · by_cases h3 : S.2 0 = 3
        · by_cases h6 : S.2 1 = 6
          · simp [h3, h6]
          · by_cases h7 : S.2 1 = 7 <;> by_cases h8 : S.2 1 = 8 <;> by_cases h9 : S.2 2 = 6 <;> by_cases h5 : S.2 1 = 5 <;> simp_all
        · by_cases h4 : S.2 0 = 4
          · by_cases h8 : S.2 1 = 8 <;> by_cases h9 : S.2 2 = 100 <;> simp_all
          · simp [h0, h1, h2, h3, h4]
theorem rmEN (hw : HW Z a0) (ws : List Jvm.Cond) (b : Addr) (S : Nat × (Nat → Int32))  (h0 : Heap) (n0 : Nat) (Z0 : n0 ≤ h0.size) (FB : AF Z h0 b .int 4 (bfV S))  :
    MF l Z (⟨"com/example/killdeer/killdeer/EndingStatementsOfPinLaw", "ends", "([I)Z"⟩ : MethodName) method_4_code 5 (some .boolean) ws (rM 0 0 0 0) #[(.ref b)] h0 (QI (endV (S.2 0) (S.2 1) (S.2 2)) h0 n0) := by
  rw [← f_en_eq b S]; exact rm_en l Z a0 hw ws b S h0 n0 Z0 FB
/-- F, but v at i -/
def sU (F : Nat → Int32) (i : Nat) (v : Int32) : Nat → Int32 := fun j => if j = i then v else F j
theorem caU {F : Nat → Int32} {i n : Nat} {v : Int32} (h : isCh v) : ∀ j, j < n → upd (Ca F) i (.int (nar .char v)) j = Ca (sU F i v) j := fun j _ => by
  unfold upd Ca sU
  rw [nar_id h]
  by_cases q : j = i
  · rw [if_pos q, if_pos q]
  · rw [if_neg q, if_neg q]
def k8 (x : Int32) : Nat := (x &&& (7 : Int32)).toInt.toNat
theorem k8_eq (x : Int32) : x &&& (7 : Int32) = Int32.ofNat (k8 x) := by
  have m := c_and x 7 (by decide)
  rw [show (7 : Int32).toInt = 7 from rfl] at m
  refine Int32.toInt_inj.mp ?_
  unfold k8
  rw [Int32.toInt_ofNat_small (by omega)]
  omega
theorem k8_lt (x : Int32) : k8 x < 8 := by
  have m := c_mask x 7 3 (by decide) (by decide)
  unfold k8
  omega
theorem co_eq (x : Int32) : f_co x = cdK (k16 x) := by
  unfold f_co
  rw [k16_eq]
  exact (by decide +kernel : ∀ k, k < 16 → (if Int32.ofNat k = 9 then (100 : Int32) else if Int32.ofNat k = 14 then 100 else if Int32.ofNat k = 15 then 101 else if Int32.ofNat k = 10 then -1 else Int32.ofNat k) = cdK k) _ (k16_lt x)
def sOk (x : Int32) : Prop := ¬ (x = 59) ∧ ¬ (f_sp x = 0) ∧ f_ip x = 0
theorem sc_ok (x : Int32) : sOk (f_sc x) ∧ isB (f_sc x) := by
  have h : ∀ y : Int32, y = 32 ∨ y = 9 ∨ y = 10 ∨ y = 13 ∨ y = 12 ∨ y = 11 → sOk y ∧ isB y := by
    intro y hy
    rcases hy with rfl | rfl | rfl | rfl | rfl | rfl <;> exact ⟨⟨by decide, by decide, by decide⟩, by decide, by decide⟩
  refine h _ ?_
  unfold f_sc
  repeat' split
  all_goals simp
def lcV (x : Int32) : Int32 := if x &&& (8 : Int32) = 0 then 32 else 59
def scV (x : Int32) : Int32 := if x &&& (16 : Int32) = 0 then 0 else 1
def ptV (q : Nat) (sc : Int32) : Int32 := if prt q sc then 1 else 0
def hV (S : Nat × (Nat → Int32)) : Int32 := if 0 < S.1 then 1 else 0
theorem lc_or (x : Int32) : lcV x = 59 ∨ lcV x = 32 := by unfold lcV; split <;> simp
theorem lc_B (x : Int32) : isB (lcV x) := by rcases lc_or x with h | h <;> rw [h] <;> exact ⟨by decide, by decide⟩
theorem sc_01 (x : Int32) : scV x = 0 ∨ scV x = 1 := by unfold scV; split <;> simp
/-- the law's text -/
def TXT (p1 p2 p3 p4 : Int32) (q : Nat) (s1 s2 s3 s4 v : Int32) : Nat → Int32 :=
  sU (pfV 44 11 (wc (k16 p4) (u4 p4)) (sU (sU (sU (sU (sU (sU (sU (sU (sU (pfV 24 11 (wc (k16 p3) (u4 p3)) (sU (pfV 12 11 (wc (k16 p2) (u4 p2)) (sU (pfV 0 11 (wc (k16 p1) (u4 p1)) (fun _ => 0)) 11 s1)) 23 s2)) 35 s3) 36 (gl (sl q) 0)) 37 (gl (sl q) 1)) 38 (gl (sl q) 2)) 39 (gl (sl q) 3)) 40 (gl (sl q) 4)) 41 (gl (sl q) 5)) 42 (gl (sl q) 6)) 43 s4)) 55 v
theorem txOk {p1 p2 p3 p4 : Int32} {q : Nat} {s1 s2 s3 s4 v : Int32} (h1 : sOk s1) (h2 : sOk s2) (h3 : sOk s3) (h4 : sOk s4) (hv : v = 59 ∨ v = 32) : TxOk (TXT p1 p2 p3 p4 q s1 s2 s3 s4 v) p1 p2 p3 p4 q := by
  refine ⟨fun j hj => ?_, fun j hj => ?_, fun j hj => ?_, fun j hj => ?_, fun j hj => ?_, fun j hj => ?_, ?_⟩
  · simp only [TXT, sU, pfV]
    repeat rw [if_neg (by omega)]
    rw [if_pos (by omega), show 0 + j - 0 = j by omega]
  · simp only [TXT, sU, pfV]
    repeat rw [if_neg (by omega)]
    rw [if_pos (by omega), show 12 + j - 12 = j by omega]
  · simp only [TXT, sU, pfV]
    repeat rw [if_neg (by omega)]
    rw [if_pos (by omega), show 24 + j - 24 = j by omega]
  · rcases (by omega : j = 0 ∨ j = 1 ∨ j = 2 ∨ j = 3 ∨ j = 4 ∨ j = 5 ∨ j = 6) with rfl | rfl | rfl | rfl | rfl | rfl | rfl <;> simp [TXT, sU, pfV]
  · simp only [TXT, sU, pfV]
    repeat rw [if_neg (by omega)]
    rw [if_pos (by omega), show 44 + j - 44 = j by omega]
  · rcases hj with rfl | rfl | rfl | rfl
    · rw [show TXT p1 p2 p3 p4 q s1 s2 s3 s4 v 11 = s1 by simp [TXT, sU, pfV]]; exact h1
    · rw [show TXT p1 p2 p3 p4 q s1 s2 s3 s4 v 23 = s2 by simp [TXT, sU, pfV]]; exact h2
    · rw [show TXT p1 p2 p3 p4 q s1 s2 s3 s4 v 35 = s3 by simp [TXT, sU, pfV]]; exact h3
    · rw [show TXT p1 p2 p3 p4 q s1 s2 s3 s4 v 43 = s4 by simp [TXT, sU, pfV]]; exact h4
  · rw [show TXT p1 p2 p3 p4 q s1 s2 s3 s4 v 55 = v by simp [TXT, sU]]; exact hv
theorem up_B {x : Int32} (h1 : ¬ x < 97) (h2 : ¬ 122 < x) : isB (x - 32) := by
  rw [Int32.lt_iff_toInt_lt] at h1 h2
  have h1 : ¬ x.toInt < 97 := h1
  have h2 : ¬ 122 < x.toInt := h2
  have q := c_isub x 32
  have e : (32 : Int32).toInt = 32 := rfl
  rw [e] at q
  have b1 := (x - 32).toInt_lt
  have b2 := (x - 32).le_toInt
  exact ⟨by omega, by omega⟩
theorem wcB {k : Nat} (hk : k < 16) (up : Int32) : allB (wc k up) := fun j => by
  by_cases hj : j < (wl k).length
  · rcases wc_or k up j hj with h | ⟨h, a, b⟩ <;> rw [h]
    · exact glB (wl_ok k hk).2 j
    · exact up_B a b
  · rw [wc_out hj]; exact ⟨by decide, by decide⟩
theorem allB_sU {F : Nat → Int32} (H : allB F) {i : Nat} {v : Int32} (h : isB v) : allB (sU F i v) := fun j => by
  unfold sU
  split
  · exact h
  · exact H j
theorem allB_pf {F X : Nat → Int32} (H : allB F) (G : allB X) {off n : Nat} : allB (pfV off n X F) := fun j => by
  unfold pfV
  split
  · exact G _
  · exact H j
theorem txB {p1 p2 p3 p4 : Int32} {q : Nat} (hq : q < 8) {s1 s2 s3 s4 v : Int32} (h1 : isB s1) (h2 : isB s2) (h3 : isB s3) (h4 : isB s4) (hv : isB v) : allB (TXT p1 p2 p3 p4 q s1 s2 s3 s4 v) := by
  have c := glB (sl_ok q hq).2
  have w := fun x : Int32 => wcB (k16_lt x) (u4 x)
  exact allB_sU (allB_pf (allB_sU (allB_sU (allB_sU (allB_sU (allB_sU (allB_sU (allB_sU (allB_sU (allB_sU (allB_pf (allB_sU (allB_pf (allB_sU (allB_pf (fun _ => ⟨by decide, by decide⟩) (w p1)) h1) (w p2)) h2) (w p3)) h3) (c 0)) (c 1)) (c 2)) (c 3)) (c 4)) (c 5)) (c 6)) h4) (w p4)) hv
theorem notBig {x : Int32} (h : isB x) : ¬ ((255 : Int32) < x) := by
  rw [Int32.lt_iff_toInt_lt, show (255 : Int32).toInt = 255 from rfl]
  have := h.2; omega
theorem pshB {S : Nat × (Nat → Int32)} {k : Nat} {cd : Int32} (h : S.1 ≤ k) : (psh S cd).1 ≤ k + 1 := Nat.le_trans (psh_le S cd) (by omega)
theorem bf00 : ∀ j, j < 4 → upd (upd (upd (upd (fun _ => Value.int (0 : Int32)) 0 (.int 0)) 1 (.int (-1))) 2 (.int (-1))) 3 (.int (-1)) j = bfV S00 j := fun j hj => by
  match j, hj with
  | 0, _ => rfl
  | 1, _ => rfl
  | 2, _ => rfl
  | 3, _ => rfl
  | j + 4, hj => exact absurd hj (by omega)
def enV (S : Nat × (Nat → Int32)) : Int32 := endV (S.2 0) (S.2 1) (S.2 2)
/-- what the law wants -/
def wantP (bf la no : Addr) (S1 S2 : Nat × (Nat → Int32)) : Addr := if 0 < S1.1 then (if 0 < S2.1 then (if enV S1 = 0 then (if enV S2 = 0 then no else la) else bf) else if enV S1 = 0 then no else la) else if enV S2 = 0 then no else la
theorem plc_want {bf la no : Addr} {S1 S2 : Nat × (Nat → Int32)} (h : S2.1 = 0 → S2.2 0 = -1) : plc bf la no (leE S2 (leE S1 0)) (ebE S2 (leE S1 0) 0) = wantP bf la no S1 S2 := by
  unfold plc wantP ebE leE
  by_cases a : S1.1 = 0
  · rw [if_pos a, if_neg (show ¬ 0 < S1.1 by omega)]
    by_cases b : S2.1 = 0
    · have z : enV S2 = 0 := by unfold enV endV; rw [h b]; simp
      rw [if_pos b, if_pos b, if_pos rfl, if_pos rfl, if_pos z]
    · rw [if_neg b, if_neg b, show (if (0 : Int32) = 1 then (1 : Int32) else 0) = 0 by decide, if_pos rfl]
      rfl
  · rw [if_neg a, if_pos (show 0 < S1.1 by omega)]
    by_cases b : S2.1 = 0
    · rw [if_pos b, if_pos b, if_pos rfl, if_neg (show ¬ 0 < S2.1 by omega)]
      rfl
    · rw [if_neg b, if_neg b, if_pos (show 0 < S2.1 by omega)]
      rcases endV_01 (S1.2 0) (S1.2 1) (S1.2 2) with z | z
      · rw [z, show (if (0 : Int32) = 1 then (1 : Int32) else 0) = 0 by decide, if_pos rfl, if_pos (show enV S1 = 0 from z)]
        rfl
      · rw [z, show (if (1 : Int32) = 1 then (1 : Int32) else 0) = 1 by decide, if_neg (by decide), if_neg (show ¬ (enV S1 = 0) by unfold enV; rw [z]; decide)]
theorem psh0 {S : Nat × (Nat → Int32)} {cd : Int32} (h : S.1 = 0 → S.2 0 = -1) : (psh S cd).1 = 0 → (psh S cd).2 0 = -1 := by
  unfold psh
  split
  · exact h
  · intro q; exact absurd q (Nat.succ_ne_zero _)
theorem stT0 {d : Int32} {q : Nat} {sc : Int32} : (stT d q sc).1 = 0 → (stT d q sc).2 0 = -1 := by
  unfold stT two0
  split
  · refine psh0 ?_
    split
    · exact psh0 (psh0 (fun _ => rfl))
    · exact fun _ => rfl
  · exact fun _ => rfl

theorem pn_0 : plainName "com/example/killdeer/killdeer/EndingStatementsOfPinLaw" = true := by first | (simp [plainName, overriddenIn]; done) | decide +kernel
theorem ef_0 (m : MethodId) (x0 : Int32) (x1 : Int32) (x2 : Int32) (x3 : Int32) (x4 : Int32) (x5 : Int32) : entryFrame m #[(.int x0), (.int x1), (.int x2), (.int x3), (.int x4), (.int x5)] maxLocals = mkF m 0 #[.val (.int x0), .val (.int x1), .val (.int x2), .val (.int x3), .val (.int x4), .val (.int x5), .unset, .unset, .unset, .unset, .unset, .unset, .unset, .unset, .unset, .unset, .unset, .unset] [] := by first | (simp [entryFrame, mkF, argsToLocals, Value.category, maxLocals]; done) | rfl
theorem lw398 {p : Program} {l : Launch} {e : Env} {s : State} {m : MethodId} {args : Array Value} {below : List Frame} {meth : Method} {c : Code} {T0 : State} {locs : List Loc} {Z : State} {a0 : Array Value} {h0 : Heap} {n0 kc ks : Nat} (u0 u1 u2 u3 u4 u5 u6 u7 u8 u9 u13 : Slot) (x14 : Int32) (one two got bf la no : Addr) (S1 S2 : Nat × (Nat → Int32)) (X0 : Stand p l e room_1 s m args below meth c T0 locs kc ks) (hx : p.tables.exec = Jvm.exec) (hZ : Z.Warmed39 s.vm) (hw : HW Z a0) (hby : c.code = code) (hml : c.maxLocals = 18) (hown : s.vm.findClass "com/example/killdeer/killdeer/EndingStatementsOfPinLaw" = some m.cls) (e0 : T0.heap = h0) (N0 : Fr n0 locs) (Z0 : n0 ≤ h0.size) (O : Old Z n0 h0) (hbf : Sta Z Z.heap "com/example/killdeer/killdeer/EndingStatements$Place" "BEFORE_ANOTHER" "Lcom/example/killdeer/killdeer/EndingStatements$Place;" (.ref bf)) (hla : Sta Z Z.heap "com/example/killdeer/killdeer/EndingStatements$Place" "LAST" "Lcom/example/killdeer/killdeer/EndingStatements$Place;" (.ref la)) (hno : Sta Z Z.heap "com/example/killdeer/killdeer/EndingStatements$Place" "NONE" "Lcom/example/killdeer/killdeer/EndingStatements$Place;" (.ref no)) (F1 : AF Z h0 one .int 4 (bfV S1)) (F2 : AF Z h0 two .int 4 (bfV S2)) (hs1 : S1.1 < 1000) (hs2 : S2.1 < 1000) (hgot : got = wantP bf la no S1 S2) (hkc : kc ≤ 104) (hks : ks ≤ 38400) :
    ∃ (T' : State) (locs' : List Loc) (L' : Array Slot), Stand p l e room_1 s m args below meth c T' locs' kc ks ∧ T'.heap = h0 ∧ Fr n0 locs' ∧ ∀ target, Steps p.tables e below (T'.setTop (mkF m 530 L' [.int (1 : Int32)])) target → Steps p.tables e below (T0.setTop (mkF m 398 #[u0, u1, u2, u3, u4, u5, u6, u7, u8, u9, vR one, vR two, vR got, u13, vI x14, .unset, .unset, .unset] [])) target := by
  have dm414 : ∀ zz, Steps p.tables e below (T0.setTop (mkF m 410 #[u0, u1, u2, u3, u4, u5, u6, u7, u8, u9, vR one, vR two, vR got, u13, vI x14, .unset, .unset, .unset] [(.int (hV S1))])) zz → Steps p.tables e below (T0.setTop (mkF m 402 #[u0, u1, u2, u3, u4, u5, u6, u7, u8, u9, vR one, vR two, vR got, u13, vI x14, .unset, .unset, .unset] [(.int (iN S1.1))])) zz := by
    intro zz kz
    by_cases hh1 : 0 < S1.1
    · rw [show (hV S1) = (1 : Int32) from if_pos hh1] at kz
      refine zJ X0 hx (hb hby at_402) ((if0 _ _).trans (tlt ((ltN (i := 0) (by decide) (by omega)).mpr hh1)).2.2.2) ?_
      refine zC X0 hx (hb hby at_405) ?_
      refine zG X0 hx 410 (hb hby at_406) rfl ?_
      exact kz
    · rw [show (hV S1) = (0 : Int32) from if_neg hh1] at kz
      refine zI X0 hx 409 (hb hby at_402) ((if0 _ _).trans (flt (fun q => hh1 ((ltN (i := 0) (by decide) (by omega)).mp q))).2.2.2) rfl ?_
      refine zC X0 hx (hb hby at_409) ?_
      exact kz
  have dm415 : ∀ zz, Steps p.tables e below (T0.setTop (mkF m 424 #[u0, u1, u2, u3, u4, u5, u6, u7, u8, u9, vR one, vR two, vR got, u13, vI x14, vI (hV S1), .unset, .unset] [(.int (hV S2))])) zz → Steps p.tables e below (T0.setTop (mkF m 416 #[u0, u1, u2, u3, u4, u5, u6, u7, u8, u9, vR one, vR two, vR got, u13, vI x14, vI (hV S1), .unset, .unset] [(.int (iN S2.1))])) zz := by
    intro zz kz
    by_cases hh2 : 0 < S2.1
    · rw [show (hV S2) = (1 : Int32) from if_pos hh2] at kz
      refine zJ X0 hx (hb hby at_416) ((if0 _ _).trans (tlt ((ltN (i := 0) (by decide) (by omega)).mpr hh2)).2.2.2) ?_
      refine zC X0 hx (hb hby at_419) ?_
      refine zG X0 hx 424 (hb hby at_420) rfl ?_
      exact kz
    · rw [show (hV S2) = (0 : Int32) from if_neg hh2] at kz
      refine zI X0 hx 423 (hb hby at_416) ((if0 _ _).trans (flt (fun q => hh2 ((ltN (i := 0) (by decide) (by omega)).mp q))).2.2.2) rfl ?_
      refine zC X0 hx (hb hby at_423) ?_
      exact kz
  have pq416 : ∀ zz, Steps p.tables e below (T0.setTop (mkF m 426 #[u0, u1, u2, u3, u4, u5, u6, u7, u8, u9, vR one, vR two, vR got, u13, vI x14, vI (hV S1), vI (hV S2), .unset] [])) zz → Steps p.tables e below (T0.setTop (mkF m 398 #[u0, u1, u2, u3, u4, u5, u6, u7, u8, u9, vR one, vR two, vR got, u13, vI x14, .unset, .unset, .unset] [])) zz := by
    intro zz kz_
    refine XS.aload X0.here hx rfl (hb hby at_398) rfl rfl ?_
    refine zC X0 hx (hb hby at_400) ?_
    refine ldIn X0 hx hZ e0 F1 (i := 0) (by decide) (by decide) (v := .int (iN S1.1)) rfl (g := (mkF m 401 #[u0, u1, u2, u3, u4, u5, u6, u7, u8, u9, vR one, vR two, vR got, u13, vI x14, .unset, .unset, .unset] [(.int 0), (.ref one)])) rfl rfl (hb hby at_401) ?_
    refine dm414 _ ?_
    refine zs X0 hx (hb hby at_410) rfl ?_
    refine XS.aload X0.here hx rfl (hb hby at_412) rfl rfl ?_
    refine zC X0 hx (hb hby at_414) ?_
    refine ldIn X0 hx hZ e0 F2 (i := 0) (by decide) (by decide) (v := .int (iN S2.1)) rfl (g := (mkF m 415 #[u0, u1, u2, u3, u4, u5, u6, u7, u8, u9, vR one, vR two, vR got, u13, vI x14, vI (hV S1), .unset, .unset] [(.int 0), (.ref two)])) rfl rfl (hb hby at_415) ?_
    refine dm415 _ ?_
    refine zs X0 hx (hb hby at_424) rfl ?_
    exact kz_
  by_cases hA : 0 < S1.1
  · by_cases hB : 0 < S2.1
    · by_cases hE1 : (enV S1) = 0
      · by_cases hE2 : (enV S2) = 0
        · have hg : got = no := by rw [hgot]; unfold wantP; rw [if_pos hA, if_pos hB, if_pos hE1, if_pos hE2]
          obtain ⟨T417, L417, X417, e417, N417, st417⟩ := zT X0 hx hZ hown e0 N0 (hwi hw 198 rfl) (hwi hw 199 rfl) (hwi hw 3 rfl) (hwi hw 200 rfl) (rmEN l Z a0 hw [] one S1 h0 n0 Z0 F1) 438 #[u0, u1, u2, u3, u4, u5, u6, u7, u8, u9, vR one, vR two, vR got, u13, vI x14, vI (hV S1), vI (hV S2), .unset] [(.ref one)] hml pd_28 (hb hby at_438) 0 (hr := by dsimp only [room_1]; omega)
          obtain ⟨T418, L418, X418, e418, N418, st418⟩ := zT X417 hx hZ hown e417 N417 (hwi hw 198 rfl) (hwi hw 199 rfl) (hwi hw 3 rfl) (hwi hw 200 rfl) (rmEN l Z a0 hw [] two S2 h0 n0 Z0 F2) 452 #[u0, u1, u2, u3, u4, u5, u6, u7, u8, u9, vR one, vR two, vR got, u13, vI x14, vI (hV S1), vI (hV S2), .unset] [(.ref two)] hml pd_28 (hb hby at_452) 0 (hr := by dsimp only [room_1]; omega)
          obtain ⟨T419, X419, e419, st419⟩ := getS2 X418 hx hZ hown (host := "") (Or.inl (hwi hw 217 rfl)) Via.refl e418 (Sta.ext O.2 hno) (g := (mkF m 464 #[u0, u1, u2, u3, u4, u5, u6, u7, u8, u9, vR one, vR two, vR got, u13, vI x14, vI (hV S1), vI (hV S2), .unset] [])) rfl (hb hby at_464)
          refine ⟨_, _, #[u0, u1, u2, u3, u4, u5, u6, u7, u8, u9, vR one, vR two, vR got, u13, vI x14, vI (hV S1), vI (hV S2), vR no], X419, e419, N418, fun target kt => pq416 _ ?_⟩
          refine zl X0 hx (hb hby at_426) rfl ?_
          refine zJ X0 hx (hb hby at_428) ((if0 _ _).trans (feq (show ¬ (hV S1 = 0) by unfold hV; rw [if_pos hA]; decide)).1) ?_
          refine zl X0 hx (hb hby at_431) rfl ?_
          refine zJ X0 hx (hb hby at_433) ((if0 _ _).trans (feq (show ¬ (hV S2 = 0) by unfold hV; rw [if_pos hB]; decide)).1) ?_
          refine XS.aload X0.here hx rfl (hb hby at_436) rfl rfl ?_
          refine st417 _ ?_
          refine zI X417 hx 450 (hb hby at_441) ((if0 _ _).trans (teq hE1).1) rfl ?_
          refine XS.aload X417.here hx rfl (hb hby at_450) rfl rfl ?_
          refine st418 _ ?_
          refine zI X418 hx 464 (hb hby at_455) ((if0 _ _).trans (teq hE2).1) rfl ?_
          refine st419 _ ?_
          refine XS.astore X419.here hx rfl (hb hby at_467) rfl rfl (l' := #[u0, u1, u2, u3, u4, u5, u6, u7, u8, u9, vR one, vR two, vR got, u13, vI x14, vI (hV S1), vI (hV S2), vR no]) rfl ?_
          refine zG X419 hx 518 (hb hby at_469) rfl ?_
          refine XS.aload X419.here hx rfl (hb hby at_518) rfl rfl ?_
          refine XS.aload X419.here hx rfl (hb hby at_520) rfl rfl ?_
          refine Jvm.RoadKit.acmp (g := (mkF m 522 #[u0, u1, u2, u3, u4, u5, u6, u7, u8, u9, vR one, vR two, vR got, u13, vI x14, vI (hV S1), vI (hV S2), vR no] [(.ref no), (.ref got)])) X419 hx rfl rfl rfl (pc0 := 522) (pc' := 525) (same := true) rfl (hb hby at_522) rfl (decide_eq_true (congrArg Value.ref hg)) (by decide) (by decide) ?_
          refine zC X419 hx (hb hby at_525) ?_
          refine zG X419 hx 530 (hb hby at_526) rfl ?_
          exact kt
        · have hg : got = la := by rw [hgot]; unfold wantP; rw [if_pos hA, if_pos hB, if_pos hE1, if_neg hE2]
          obtain ⟨T417, L417, X417, e417, N417, st417⟩ := zT X0 hx hZ hown e0 N0 (hwi hw 198 rfl) (hwi hw 199 rfl) (hwi hw 3 rfl) (hwi hw 200 rfl) (rmEN l Z a0 hw [] one S1 h0 n0 Z0 F1) 438 #[u0, u1, u2, u3, u4, u5, u6, u7, u8, u9, vR one, vR two, vR got, u13, vI x14, vI (hV S1), vI (hV S2), .unset] [(.ref one)] hml pd_28 (hb hby at_438) 0 (hr := by dsimp only [room_1]; omega)
          obtain ⟨T418, L418, X418, e418, N418, st418⟩ := zT X417 hx hZ hown e417 N417 (hwi hw 198 rfl) (hwi hw 199 rfl) (hwi hw 3 rfl) (hwi hw 200 rfl) (rmEN l Z a0 hw [] two S2 h0 n0 Z0 F2) 452 #[u0, u1, u2, u3, u4, u5, u6, u7, u8, u9, vR one, vR two, vR got, u13, vI x14, vI (hV S1), vI (hV S2), .unset] [(.ref two)] hml pd_28 (hb hby at_452) 0 (hr := by dsimp only [room_1]; omega)
          obtain ⟨T419, X419, e419, st419⟩ := getS2 X418 hx hZ hown (host := "") (Or.inl (hwi hw 237 rfl)) Via.refl e418 (Sta.ext O.2 hla) (g := (mkF m 458 #[u0, u1, u2, u3, u4, u5, u6, u7, u8, u9, vR one, vR two, vR got, u13, vI x14, vI (hV S1), vI (hV S2), .unset] [])) rfl (hb hby at_458)
          refine ⟨_, _, #[u0, u1, u2, u3, u4, u5, u6, u7, u8, u9, vR one, vR two, vR got, u13, vI x14, vI (hV S1), vI (hV S2), vR la], X419, e419, N418, fun target kt => pq416 _ ?_⟩
          refine zl X0 hx (hb hby at_426) rfl ?_
          refine zJ X0 hx (hb hby at_428) ((if0 _ _).trans (feq (show ¬ (hV S1 = 0) by unfold hV; rw [if_pos hA]; decide)).1) ?_
          refine zl X0 hx (hb hby at_431) rfl ?_
          refine zJ X0 hx (hb hby at_433) ((if0 _ _).trans (feq (show ¬ (hV S2 = 0) by unfold hV; rw [if_pos hB]; decide)).1) ?_
          refine XS.aload X0.here hx rfl (hb hby at_436) rfl rfl ?_
          refine st417 _ ?_
          refine zI X417 hx 450 (hb hby at_441) ((if0 _ _).trans (teq hE1).1) rfl ?_
          refine XS.aload X417.here hx rfl (hb hby at_450) rfl rfl ?_
          refine st418 _ ?_
          refine zJ X418 hx (hb hby at_455) ((if0 _ _).trans (feq hE2).1) ?_
          refine st419 _ ?_
          refine zG X419 hx 467 (hb hby at_461) rfl ?_
          refine XS.astore X419.here hx rfl (hb hby at_467) rfl rfl (l' := #[u0, u1, u2, u3, u4, u5, u6, u7, u8, u9, vR one, vR two, vR got, u13, vI x14, vI (hV S1), vI (hV S2), vR la]) rfl ?_
          refine zG X419 hx 518 (hb hby at_469) rfl ?_
          refine XS.aload X419.here hx rfl (hb hby at_518) rfl rfl ?_
          refine XS.aload X419.here hx rfl (hb hby at_520) rfl rfl ?_
          refine Jvm.RoadKit.acmp (g := (mkF m 522 #[u0, u1, u2, u3, u4, u5, u6, u7, u8, u9, vR one, vR two, vR got, u13, vI x14, vI (hV S1), vI (hV S2), vR la] [(.ref la), (.ref got)])) X419 hx rfl rfl rfl (pc0 := 522) (pc' := 525) (same := true) rfl (hb hby at_522) rfl (decide_eq_true (congrArg Value.ref hg)) (by decide) (by decide) ?_
          refine zC X419 hx (hb hby at_525) ?_
          refine zG X419 hx 530 (hb hby at_526) rfl ?_
          exact kt
      · have hg : got = bf := by rw [hgot]; unfold wantP; rw [if_pos hA, if_pos hB, if_neg hE1]
        obtain ⟨T417, L417, X417, e417, N417, st417⟩ := zT X0 hx hZ hown e0 N0 (hwi hw 198 rfl) (hwi hw 199 rfl) (hwi hw 3 rfl) (hwi hw 200 rfl) (rmEN l Z a0 hw [] one S1 h0 n0 Z0 F1) 438 #[u0, u1, u2, u3, u4, u5, u6, u7, u8, u9, vR one, vR two, vR got, u13, vI x14, vI (hV S1), vI (hV S2), .unset] [(.ref one)] hml pd_28 (hb hby at_438) 0 (hr := by dsimp only [room_1]; omega)
        obtain ⟨T418, X418, e418, st418⟩ := getS2 X417 hx hZ hown (host := "") (Or.inl (hwi hw 201 rfl)) Via.refl e417 (Sta.ext O.2 hbf) (g := (mkF m 444 #[u0, u1, u2, u3, u4, u5, u6, u7, u8, u9, vR one, vR two, vR got, u13, vI x14, vI (hV S1), vI (hV S2), .unset] [])) rfl (hb hby at_444)
        refine ⟨_, _, #[u0, u1, u2, u3, u4, u5, u6, u7, u8, u9, vR one, vR two, vR got, u13, vI x14, vI (hV S1), vI (hV S2), vR bf], X418, e418, N417, fun target kt => pq416 _ ?_⟩
        refine zl X0 hx (hb hby at_426) rfl ?_
        refine zJ X0 hx (hb hby at_428) ((if0 _ _).trans (feq (show ¬ (hV S1 = 0) by unfold hV; rw [if_pos hA]; decide)).1) ?_
        refine zl X0 hx (hb hby at_431) rfl ?_
        refine zJ X0 hx (hb hby at_433) ((if0 _ _).trans (feq (show ¬ (hV S2 = 0) by unfold hV; rw [if_pos hB]; decide)).1) ?_
        refine XS.aload X0.here hx rfl (hb hby at_436) rfl rfl ?_
        refine st417 _ ?_
        refine zJ X417 hx (hb hby at_441) ((if0 _ _).trans (feq hE1).1) ?_
        refine st418 _ ?_
        refine zG X418 hx 467 (hb hby at_447) rfl ?_
        refine XS.astore X418.here hx rfl (hb hby at_467) rfl rfl (l' := #[u0, u1, u2, u3, u4, u5, u6, u7, u8, u9, vR one, vR two, vR got, u13, vI x14, vI (hV S1), vI (hV S2), vR bf]) rfl ?_
        refine zG X418 hx 518 (hb hby at_469) rfl ?_
        refine XS.aload X418.here hx rfl (hb hby at_518) rfl rfl ?_
        refine XS.aload X418.here hx rfl (hb hby at_520) rfl rfl ?_
        refine Jvm.RoadKit.acmp (g := (mkF m 522 #[u0, u1, u2, u3, u4, u5, u6, u7, u8, u9, vR one, vR two, vR got, u13, vI x14, vI (hV S1), vI (hV S2), vR bf] [(.ref bf), (.ref got)])) X418 hx rfl rfl rfl (pc0 := 522) (pc' := 525) (same := true) rfl (hb hby at_522) rfl (decide_eq_true (congrArg Value.ref hg)) (by decide) (by decide) ?_
        refine zC X418 hx (hb hby at_525) ?_
        refine zG X418 hx 530 (hb hby at_526) rfl ?_
        exact kt
    · by_cases hE1 : (enV S1) = 0
      · have hg : got = no := by rw [hgot]; unfold wantP; rw [if_pos hA, if_neg hB, if_pos hE1]
        obtain ⟨T417, L417, X417, e417, N417, st417⟩ := zT X0 hx hZ hown e0 N0 (hwi hw 198 rfl) (hwi hw 199 rfl) (hwi hw 3 rfl) (hwi hw 200 rfl) (rmEN l Z a0 hw [] one S1 h0 n0 Z0 F1) 479 #[u0, u1, u2, u3, u4, u5, u6, u7, u8, u9, vR one, vR two, vR got, u13, vI x14, vI (hV S1), vI (hV S2), .unset] [(.ref one)] hml pd_28 (hb hby at_479) 0 (hr := by dsimp only [room_1]; omega)
        obtain ⟨T418, X418, e418, st418⟩ := getS2 X417 hx hZ hown (host := "") (Or.inl (hwi hw 217 rfl)) Via.refl e417 (Sta.ext O.2 hno) (g := (mkF m 491 #[u0, u1, u2, u3, u4, u5, u6, u7, u8, u9, vR one, vR two, vR got, u13, vI x14, vI (hV S1), vI (hV S2), .unset] [])) rfl (hb hby at_491)
        refine ⟨_, _, #[u0, u1, u2, u3, u4, u5, u6, u7, u8, u9, vR one, vR two, vR got, u13, vI x14, vI (hV S1), vI (hV S2), vR no], X418, e418, N417, fun target kt => pq416 _ ?_⟩
        refine zl X0 hx (hb hby at_426) rfl ?_
        refine zJ X0 hx (hb hby at_428) ((if0 _ _).trans (feq (show ¬ (hV S1 = 0) by unfold hV; rw [if_pos hA]; decide)).1) ?_
        refine zl X0 hx (hb hby at_431) rfl ?_
        refine zI X0 hx 472 (hb hby at_433) ((if0 _ _).trans (teq (show hV S2 = 0 from if_neg hB)).1) rfl ?_
        refine zl X0 hx (hb hby at_472) rfl ?_
        refine zJ X0 hx (hb hby at_474) ((if0 _ _).trans (feq (show ¬ (hV S1 = 0) by unfold hV; rw [if_pos hA]; decide)).1) ?_
        refine XS.aload X0.here hx rfl (hb hby at_477) rfl rfl ?_
        refine st417 _ ?_
        refine zI X417 hx 491 (hb hby at_482) ((if0 _ _).trans (teq hE1).1) rfl ?_
        refine st418 _ ?_
        refine XS.astore X418.here hx rfl (hb hby at_494) rfl rfl (l' := #[u0, u1, u2, u3, u4, u5, u6, u7, u8, u9, vR one, vR two, vR got, u13, vI x14, vI (hV S1), vI (hV S2), vR no]) rfl ?_
        refine zG X418 hx 518 (hb hby at_496) rfl ?_
        refine XS.aload X418.here hx rfl (hb hby at_518) rfl rfl ?_
        refine XS.aload X418.here hx rfl (hb hby at_520) rfl rfl ?_
        refine Jvm.RoadKit.acmp (g := (mkF m 522 #[u0, u1, u2, u3, u4, u5, u6, u7, u8, u9, vR one, vR two, vR got, u13, vI x14, vI (hV S1), vI (hV S2), vR no] [(.ref no), (.ref got)])) X418 hx rfl rfl rfl (pc0 := 522) (pc' := 525) (same := true) rfl (hb hby at_522) rfl (decide_eq_true (congrArg Value.ref hg)) (by decide) (by decide) ?_
        refine zC X418 hx (hb hby at_525) ?_
        refine zG X418 hx 530 (hb hby at_526) rfl ?_
        exact kt
      · have hg : got = la := by rw [hgot]; unfold wantP; rw [if_pos hA, if_neg hB, if_neg hE1]
        obtain ⟨T417, L417, X417, e417, N417, st417⟩ := zT X0 hx hZ hown e0 N0 (hwi hw 198 rfl) (hwi hw 199 rfl) (hwi hw 3 rfl) (hwi hw 200 rfl) (rmEN l Z a0 hw [] one S1 h0 n0 Z0 F1) 479 #[u0, u1, u2, u3, u4, u5, u6, u7, u8, u9, vR one, vR two, vR got, u13, vI x14, vI (hV S1), vI (hV S2), .unset] [(.ref one)] hml pd_28 (hb hby at_479) 0 (hr := by dsimp only [room_1]; omega)
        obtain ⟨T418, X418, e418, st418⟩ := getS2 X417 hx hZ hown (host := "") (Or.inl (hwi hw 237 rfl)) Via.refl e417 (Sta.ext O.2 hla) (g := (mkF m 485 #[u0, u1, u2, u3, u4, u5, u6, u7, u8, u9, vR one, vR two, vR got, u13, vI x14, vI (hV S1), vI (hV S2), .unset] [])) rfl (hb hby at_485)
        refine ⟨_, _, #[u0, u1, u2, u3, u4, u5, u6, u7, u8, u9, vR one, vR two, vR got, u13, vI x14, vI (hV S1), vI (hV S2), vR la], X418, e418, N417, fun target kt => pq416 _ ?_⟩
        refine zl X0 hx (hb hby at_426) rfl ?_
        refine zJ X0 hx (hb hby at_428) ((if0 _ _).trans (feq (show ¬ (hV S1 = 0) by unfold hV; rw [if_pos hA]; decide)).1) ?_
        refine zl X0 hx (hb hby at_431) rfl ?_
        refine zI X0 hx 472 (hb hby at_433) ((if0 _ _).trans (teq (show hV S2 = 0 from if_neg hB)).1) rfl ?_
        refine zl X0 hx (hb hby at_472) rfl ?_
        refine zJ X0 hx (hb hby at_474) ((if0 _ _).trans (feq (show ¬ (hV S1 = 0) by unfold hV; rw [if_pos hA]; decide)).1) ?_
        refine XS.aload X0.here hx rfl (hb hby at_477) rfl rfl ?_
        refine st417 _ ?_
        refine zJ X417 hx (hb hby at_482) ((if0 _ _).trans (feq hE1).1) ?_
        refine st418 _ ?_
        refine zG X418 hx 494 (hb hby at_488) rfl ?_
        refine XS.astore X418.here hx rfl (hb hby at_494) rfl rfl (l' := #[u0, u1, u2, u3, u4, u5, u6, u7, u8, u9, vR one, vR two, vR got, u13, vI x14, vI (hV S1), vI (hV S2), vR la]) rfl ?_
        refine zG X418 hx 518 (hb hby at_496) rfl ?_
        refine XS.aload X418.here hx rfl (hb hby at_518) rfl rfl ?_
        refine XS.aload X418.here hx rfl (hb hby at_520) rfl rfl ?_
        refine Jvm.RoadKit.acmp (g := (mkF m 522 #[u0, u1, u2, u3, u4, u5, u6, u7, u8, u9, vR one, vR two, vR got, u13, vI x14, vI (hV S1), vI (hV S2), vR la] [(.ref la), (.ref got)])) X418 hx rfl rfl rfl (pc0 := 522) (pc' := 525) (same := true) rfl (hb hby at_522) rfl (decide_eq_true (congrArg Value.ref hg)) (by decide) (by decide) ?_
        refine zC X418 hx (hb hby at_525) ?_
        refine zG X418 hx 530 (hb hby at_526) rfl ?_
        exact kt
  · by_cases hE2 : (enV S2) = 0
    · have hg : got = no := by rw [hgot]; unfold wantP; rw [if_neg hA, if_pos hE2]
      obtain ⟨T417, L417, X417, e417, N417, st417⟩ := zT X0 hx hZ hown e0 N0 (hwi hw 198 rfl) (hwi hw 199 rfl) (hwi hw 3 rfl) (hwi hw 200 rfl) (rmEN l Z a0 hw [] two S2 h0 n0 Z0 F2) 501 #[u0, u1, u2, u3, u4, u5, u6, u7, u8, u9, vR one, vR two, vR got, u13, vI x14, vI (hV S1), vI (hV S2), .unset] [(.ref two)] hml pd_28 (hb hby at_501) 0 (hr := by dsimp only [room_1]; omega)
      obtain ⟨T418, X418, e418, st418⟩ := getS2 X417 hx hZ hown (host := "") (Or.inl (hwi hw 217 rfl)) Via.refl e417 (Sta.ext O.2 hno) (g := (mkF m 513 #[u0, u1, u2, u3, u4, u5, u6, u7, u8, u9, vR one, vR two, vR got, u13, vI x14, vI (hV S1), vI (hV S2), .unset] [])) rfl (hb hby at_513)
      refine ⟨_, _, #[u0, u1, u2, u3, u4, u5, u6, u7, u8, u9, vR one, vR two, vR got, u13, vI x14, vI (hV S1), vI (hV S2), vR no], X418, e418, N417, fun target kt => pq416 _ ?_⟩
      refine zl X0 hx (hb hby at_426) rfl ?_
      refine zI X0 hx 472 (hb hby at_428) ((if0 _ _).trans (teq (show hV S1 = 0 from if_neg hA)).1) rfl ?_
      refine zl X0 hx (hb hby at_472) rfl ?_
      refine zI X0 hx 499 (hb hby at_474) ((if0 _ _).trans (teq (show hV S1 = 0 from if_neg hA)).1) rfl ?_
      refine XS.aload X0.here hx rfl (hb hby at_499) rfl rfl ?_
      refine st417 _ ?_
      refine zI X417 hx 513 (hb hby at_504) ((if0 _ _).trans (teq hE2).1) rfl ?_
      refine st418 _ ?_
      refine XS.astore X418.here hx rfl (hb hby at_516) rfl rfl (l' := #[u0, u1, u2, u3, u4, u5, u6, u7, u8, u9, vR one, vR two, vR got, u13, vI x14, vI (hV S1), vI (hV S2), vR no]) rfl ?_
      refine XS.aload X418.here hx rfl (hb hby at_518) rfl rfl ?_
      refine XS.aload X418.here hx rfl (hb hby at_520) rfl rfl ?_
      refine Jvm.RoadKit.acmp (g := (mkF m 522 #[u0, u1, u2, u3, u4, u5, u6, u7, u8, u9, vR one, vR two, vR got, u13, vI x14, vI (hV S1), vI (hV S2), vR no] [(.ref no), (.ref got)])) X418 hx rfl rfl rfl (pc0 := 522) (pc' := 525) (same := true) rfl (hb hby at_522) rfl (decide_eq_true (congrArg Value.ref hg)) (by decide) (by decide) ?_
      refine zC X418 hx (hb hby at_525) ?_
      refine zG X418 hx 530 (hb hby at_526) rfl ?_
      exact kt
    · have hg : got = la := by rw [hgot]; unfold wantP; rw [if_neg hA, if_neg hE2]
      obtain ⟨T417, L417, X417, e417, N417, st417⟩ := zT X0 hx hZ hown e0 N0 (hwi hw 198 rfl) (hwi hw 199 rfl) (hwi hw 3 rfl) (hwi hw 200 rfl) (rmEN l Z a0 hw [] two S2 h0 n0 Z0 F2) 501 #[u0, u1, u2, u3, u4, u5, u6, u7, u8, u9, vR one, vR two, vR got, u13, vI x14, vI (hV S1), vI (hV S2), .unset] [(.ref two)] hml pd_28 (hb hby at_501) 0 (hr := by dsimp only [room_1]; omega)
      obtain ⟨T418, X418, e418, st418⟩ := getS2 X417 hx hZ hown (host := "") (Or.inl (hwi hw 237 rfl)) Via.refl e417 (Sta.ext O.2 hla) (g := (mkF m 507 #[u0, u1, u2, u3, u4, u5, u6, u7, u8, u9, vR one, vR two, vR got, u13, vI x14, vI (hV S1), vI (hV S2), .unset] [])) rfl (hb hby at_507)
      refine ⟨_, _, #[u0, u1, u2, u3, u4, u5, u6, u7, u8, u9, vR one, vR two, vR got, u13, vI x14, vI (hV S1), vI (hV S2), vR la], X418, e418, N417, fun target kt => pq416 _ ?_⟩
      refine zl X0 hx (hb hby at_426) rfl ?_
      refine zI X0 hx 472 (hb hby at_428) ((if0 _ _).trans (teq (show hV S1 = 0 from if_neg hA)).1) rfl ?_
      refine zl X0 hx (hb hby at_472) rfl ?_
      refine zI X0 hx 499 (hb hby at_474) ((if0 _ _).trans (teq (show hV S1 = 0 from if_neg hA)).1) rfl ?_
      refine XS.aload X0.here hx rfl (hb hby at_499) rfl rfl ?_
      refine st417 _ ?_
      refine zJ X417 hx (hb hby at_504) ((if0 _ _).trans (feq hE2).1) ?_
      refine st418 _ ?_
      refine zG X418 hx 516 (hb hby at_510) rfl ?_
      refine XS.astore X418.here hx rfl (hb hby at_516) rfl rfl (l' := #[u0, u1, u2, u3, u4, u5, u6, u7, u8, u9, vR one, vR two, vR got, u13, vI x14, vI (hV S1), vI (hV S2), vR la]) rfl ?_
      refine XS.aload X418.here hx rfl (hb hby at_518) rfl rfl ?_
      refine XS.aload X418.here hx rfl (hb hby at_520) rfl rfl ?_
      refine Jvm.RoadKit.acmp (g := (mkF m 522 #[u0, u1, u2, u3, u4, u5, u6, u7, u8, u9, vR one, vR two, vR got, u13, vI x14, vI (hV S1), vI (hV S2), vR la] [(.ref la), (.ref got)])) X418 hx rfl rfl rfl (pc0 := 522) (pc' := 525) (same := true) rfl (hb hby at_522) rfl (decide_eq_true (congrArg Value.ref hg)) (by decide) (by decide) ?_
      refine zC X418 hx (hb hby at_525) ?_
      refine zG X418 hx 530 (hb hby at_526) rfl ?_
      exact kt
def Q0 (h0 : Heap) (n0 : Nat) (v : Option Value) (h : Heap) (L : List Loc) : Prop := v = some (.int 1) ∧ Fr n0 L
theorem rm0 (hw : HW Z a0) (ws : List Jvm.Cond) (p1 : Int32) (p2 : Int32) (p3 : Int32) (p4 : Int32) (p5 : Int32) (p6 : Int32) (wv xv ov bf la no : Addr) (h0 : Heap) (n0 : Nat) (Z0 : n0 ≤ h0.size) (O : Old Z n0 h0) (SK : StrSta Z) (hEL : EW Z a0 EL1) (hWD : Sta Z Z.heap "com/example/killdeer/killdeer/EndingStatements$Token" "WORD" "Lcom/example/killdeer/killdeer/EndingStatements$Token;" (.ref wv)) (YW : Exa Z Z.heap wv "com/example/killdeer/killdeer/EndingStatements$Token") (hXD : Sta Z Z.heap "com/example/killdeer/killdeer/EndingStatements$Token" "STRING" "Lcom/example/killdeer/killdeer/EndingStatements$Token;" (.ref xv)) (YX : Exa Z Z.heap xv "com/example/killdeer/killdeer/EndingStatements$Token") (hPD : Sta Z Z.heap "com/example/killdeer/killdeer/EndingStatements$Token" "OTHER" "Lcom/example/killdeer/killdeer/EndingStatements$Token;" (.ref ov)) (YP : Exa Z Z.heap ov "com/example/killdeer/killdeer/EndingStatements$Token") (hxw : ¬ (xv = wv)) (how : ¬ (ov = wv)) (hox : ¬ (ov = xv)) (hbf : Sta Z Z.heap "com/example/killdeer/killdeer/EndingStatements$Place" "BEFORE_ANOTHER" "Lcom/example/killdeer/killdeer/EndingStatements$Place;" (.ref bf)) (hla : Sta Z Z.heap "com/example/killdeer/killdeer/EndingStatements$Place" "LAST" "Lcom/example/killdeer/killdeer/EndingStatements$Place;" (.ref la)) (hno : Sta Z Z.heap "com/example/killdeer/killdeer/EndingStatements$Place" "NONE" "Lcom/example/killdeer/killdeer/EndingStatements$Place;" (.ref no))  :
    MetFree l x (head1 (Jvm.Cond.code x code maxLocals ret :: ws) room_1) (fun aa_ U_ => aa_ = #[(.int p1), (.int p2), (.int p3), (.int p4), (.int p5), (.int p6)] ∧ Z.Warmed39 U_.vm ∧ U_.heap = h0 ∧ CHv Z EL1 U_.vm h0) (fun _ _ _ _ _ => True) (fun _ U_ o_ V_ => ∃ v_ L_, o_ = .returned v_ ∧ Q0  h0 n0 v_ V_.heap L_ ∧ ReturnedEndW U_ o_ V_ L_ room_1.cells room_1.slots) := by
  refine MetFree.of_bodySF (plainFor_of_name pn_0) hisR ?_
  intro p e s m args below meth c s₁ Bd hml0 hP hK
  obtain ⟨rfl, hZ, hh, CH0⟩ := hP
  have hx := Bd.exec
  have hby := Bd.bytes
  have hml : c.maxLocals = 18 := hml0
  have hown : s.vm.findClass "com/example/killdeer/killdeer/EndingStatementsOfPinLaw" = some m.cls := findClass_of_methodNamed Bd.named
  have X0 : Stand p l e room_1 s m #[(.int p1), (.int p2), (.int p3), (.int p4), (.int p5), (.int p6)] below meth c s₁ [] 0 0 := Stand.of_body Bd
  have e0 : s₁.heap = h0 := by rw [← hh, Bd.state]; rfl
  have N0 := Fr.nil n0
  have pre0 : ∀ zz, Steps p.tables e below (s₁.setTop (mkF m 0 #[vI p1, vI p2, vI p3, vI p4, vI p5, vI p6, .unset, .unset, .unset, .unset, .unset, .unset, .unset, .unset, .unset, .unset, .unset, .unset] [])) zz → Steps p.tables e below (s₁.setTop (entryFrame m #[(.int p1), (.int p2), (.int p3), (.int p4), (.int p5), (.int p6)] maxLocals)) zz := fun zz kz_ => castTop (ef_0 m p1 p2 p3 p4 p5 p6) kz_
  have hwS := hwSt hw
  obtain ⟨T419, h419, X419, e419, E419, A419, st419⟩ := nwA X0 hx hZ (hwi hw 0 rfl) e0 (g := (mkF m 2 #[vI p1, vI p2, vI p3, vI p4, vI p5, vI p6, .unset, .unset, .unset, .unset, .unset, .unset, .unset, .unset, .unset, .unset, .unset, .unset] [(.int 56)])) rfl (hb hby at_2) (n := 56) rfl (cap := 56) (by decide) (by decide) (by decide) (by decide)
  obtain ⟨b419, q419⟩ : ∃ z, z = h0.size := ⟨_, rfl⟩
  rw [← q419] at A419 st419
  have V419 : AF Z h419 b419 .char 56 (fun _ => (.int 0)) := A419
  have g_b419 : n0 ≤ b419 := Nat.le_trans Z0 (Nat.le_of_eq q419.symm)
  have sz_b419 : h0.size ≤ b419 := Nat.le_trans (Keep.refl h0 []).1 (Nat.le_of_eq q419.symm)
  have K419 := (Keep.refl h0 []).ext E419
  have Z419 := Nat.le_trans Z0 E419.1
  have O419 := O.ext E419
  have C419 : AF Z h419 b419 .char 56 (Ca (fun _ => 0)) := V419
  have CR419 := (CHr.refl CH0).trans (CHr.ext E419 (CHr.refl CH0).1)
  obtain ⟨_, _, ⟨T420, L420, k420, n420⟩, -, X420, hS2420, hg420, ⟨Lc420, hQ420, l420, y420, z420, C420⟩, st420⟩ := callSS X419 hx (y := (⟨"com/example/killdeer/killdeer/EndingStatementsOfPinLaw", "put", "([CII)V"⟩ : MethodName)) hown (mvT hZ (hwi hw 1 rfl)) (mvT hZ (hwi hw 2 rfl)) (mvT hZ (hwi hw 3 rfl)) (mvT hZ (hwi hw 4 rfl)) (by decide) (backOfSH (s := s) (vm0 := s.vm) (EL := EL1) (W := 0) (rmPU l Z a0 hw [] b419 0 p1 _ h419 n0 Z419 (by decide) O419 SK hEL g_b419 C419) hZ (hwi hw 4 rfl) (hwi hw 3 rfl) (by decide) (by decide) hEL CR419.1) (g := (mkF m 10 #[vI p1, vI p2, vI p3, vI p4, vI p5, vI p6, vR b419, .unset, .unset, .unset, .unset, .unset, .unset, .unset, .unset, .unset, .unset, .unset] [(.int p1), (.int 0), (.ref b419)])) rfl (by rw [hml]; rfl) (argsL := [(.ref b419), (.int 0), (.int p1)]) (rest := []) (lenOf pd_0 rfl) rfl (by show 2 * 0 + _ ≤ _; exact Nat.le_of_eq rfl) (hb hby at_10) (fun _ _ => ⟨rfl, e419, (by decide : 1 + 2 ≤ _), (by decide : 56 + 48 ≤ _)⟩)
  dsimp only [Pt.U, Pt.locs, Pt.cells, Pt.slots] at X420 l420 y420 z420 st420 hQ420 hS2420 hg420
  obtain rfl : k420 = 3 := y420; obtain rfl : n420 = 104 := z420
  obtain ⟨rfl, N420q, K420, A420⟩ := hQ420
  have N420 : Fr n0 L420 := by rw [l420]; exact Fr.app N0 N420q
  dsimp only [Pt.U, Pt.locs, Pt.cells, Pt.slots] at C420
  have CR420 := CR419.trans C420
  have hS420 := foldS ((State.WarmedH.refl s).since 0) (by rw [e419]; exact (Nat.zero_le _)) hS2420 hg420
  have hZ420 : Z.Warmed39 (s.setVm T420.vm).vm := State.Warmed39.trans hZ hS2420.1
  have hown420 := ownS (s := s) hS2420.1 hown
  have KK420 := K419.trans K420 (fun x r => by cases List.mem_singleton.mp r; exact (Or.inr sz_b419))
  have Z420 := Nat.le_trans Z419 K420.1
  have O420 := O419.keep K420 (all1 g_b419)
  obtain ⟨T421, L421, X421, e421, N421, st421⟩ := zT X420 hx hZ420 hown420 rfl N420 (hwi hw 54 rfl) (hwi hw 55 rfl) (hwi hw 3 rfl) (hwi hw 56 rfl) (rm_sc l Z a0 hw [] p6 T420.heap n0 Z420 ) 19 #[vI p1, vI p2, vI p3, vI p4, vI p5, vI p6, vR b419, .unset, .unset, .unset, .unset, .unset, .unset, .unset, .unset, .unset, .unset, .unset] [(.int p6), (.int 11), (.ref b419)] hml pd_5 (hb hby at_19) 2
  obtain ⟨T422, h422, X422, e422, W422, st422⟩ := stCh X421 hx hZ420 e421 A420 (i := 11) (by decide) (by decide) (x := (f_sc p6)) (g := (mkF m 22 #[vI p1, vI p2, vI p3, vI p4, vI p5, vI p6, vR b419, .unset, .unset, .unset, .unset, .unset, .unset, .unset, .unset, .unset, .unset, .unset] [(.int (f_sc p6)), (.int 11), (.ref b419)])) rfl rfl (hb hby at_22)
  have A422 := A420.wr W422
  have N422 := Fr.snoc X422 N421 g_b419
  have K422 := KK420.wr W422 (Or.inr sz_b419)
  have Z422 := Nat.le_trans Z420 (Keep.of_wr W422).1
  have O422 := O420.wr W422 g_b419
  have hk422 := Nat.le_trans (Nat.le_refl _) (Keep.of_wr W422).1
  have B422 := A422.congr (caU (isCh_of (sc_ok _).2))
  have CR422 := CR420.trans (CHr.keep (Keep.of_wr W422) (safe1 (AF.safe hZ420.alike A420 (by decide))) CR420.1)
  obtain ⟨_, _, ⟨T423, L423, k423, n423⟩, -, X423, hS2423, hg423, ⟨Lc423, hQ423, l423, y423, z423, C423⟩, st423⟩ := callSS X422 hx (y := (⟨"com/example/killdeer/killdeer/EndingStatementsOfPinLaw", "put", "([CII)V"⟩ : MethodName)) hown420 (mvT hZ420 (hwi hw 1 rfl)) (mvT hZ420 (hwi hw 2 rfl)) (mvT hZ420 (hwi hw 3 rfl)) (mvT hZ420 (hwi hw 4 rfl)) (by decide) (backOfSH (s := s) (vm0 := T420.vm) (EL := EL1) (W := 0) (rmPU l Z a0 hw [] b419 12 p2 _ h422 n0 Z422 (by decide) O422 SK hEL g_b419 B422) hZ420 (hwi hw 4 rfl) (hwi hw 3 rfl) (by decide) (by decide) hEL CR422.1) (g := (mkF m 28 #[vI p1, vI p2, vI p3, vI p4, vI p5, vI p6, vR b419, .unset, .unset, .unset, .unset, .unset, .unset, .unset, .unset, .unset, .unset, .unset] [(.int p2), (.int 12), (.ref b419)])) rfl (by rw [hml]; rfl) (argsL := [(.ref b419), (.int 12), (.int p2)]) (rest := []) (lenOf pd_0 rfl) rfl (by show 2 * 0 + _ ≤ _; exact Nat.le_of_eq rfl) (hb hby at_28) (fun _ _ => ⟨rfl, e422, (by decide : 3 + 2 ≤ _), (by decide : 104 + 48 ≤ _)⟩)
  dsimp only [Pt.U, Pt.locs, Pt.cells, Pt.slots] at X423 l423 y423 z423 st423 hQ423 hS2423 hg423
  obtain rfl : k423 = 5 := y423; obtain rfl : n423 = 152 := z423
  obtain ⟨rfl, N423q, K423, A423⟩ := hQ423
  have N423 : Fr n0 L423 := by rw [l423]; exact Fr.app N422 N423q
  dsimp only [Pt.U, Pt.locs, Pt.cells, Pt.slots] at C423
  have CR423 := CR422.trans C423
  have hS423 := foldS hS420 (by rw [e422]; exact hk422) hS2423 hg423
  have hZ423 : Z.Warmed39 (s.setVm T423.vm).vm := State.Warmed39.trans hZ420 hS2423.1
  have hown423 := ownS (s := s) hS2423.1 hown420
  have KK423 := K422.trans K423 (fun x r => by cases List.mem_singleton.mp r; exact (Or.inr sz_b419))
  have Z423 := Nat.le_trans Z422 K423.1
  have O423 := O422.keep K423 (all1 g_b419)
  obtain ⟨T424, L424, X424, e424, N424, st424⟩ := zT X423 hx hZ423 hown423 rfl N423 (hwi hw 54 rfl) (hwi hw 55 rfl) (hwi hw 3 rfl) (hwi hw 56 rfl) (rm_sc l Z a0 hw [] ((p6.toUInt32 >>> ((3 : Int32) &&& 31).toUInt32).toInt32) T423.heap n0 Z423 ) 39 #[vI p1, vI p2, vI p3, vI p4, vI p5, vI p6, vR b419, .unset, .unset, .unset, .unset, .unset, .unset, .unset, .unset, .unset, .unset, .unset] [(.int ((p6.toUInt32 >>> ((3 : Int32) &&& 31).toUInt32).toInt32)), (.int 23), (.ref b419)] hml pd_5 (hb hby at_39) 2
  obtain ⟨T425, h425, X425, e425, W425, st425⟩ := stCh X424 hx hZ423 e424 A423 (i := 23) (by decide) (by decide) (x := (f_sc ((p6.toUInt32 >>> ((3 : Int32) &&& 31).toUInt32).toInt32))) (g := (mkF m 42 #[vI p1, vI p2, vI p3, vI p4, vI p5, vI p6, vR b419, .unset, .unset, .unset, .unset, .unset, .unset, .unset, .unset, .unset, .unset, .unset] [(.int (f_sc ((p6.toUInt32 >>> ((3 : Int32) &&& 31).toUInt32).toInt32))), (.int 23), (.ref b419)])) rfl rfl (hb hby at_42)
  have A425 := A423.wr W425
  have N425 := Fr.snoc X425 N424 g_b419
  have K425 := KK423.wr W425 (Or.inr sz_b419)
  have Z425 := Nat.le_trans Z423 (Keep.of_wr W425).1
  have O425 := O423.wr W425 g_b419
  have hk425 := Nat.le_trans (Nat.le_refl _) (Keep.of_wr W425).1
  have B425 := A425.congr (caU (isCh_of (sc_ok _).2))
  have CR425 := CR423.trans (CHr.keep (Keep.of_wr W425) (safe1 (AF.safe hZ423.alike A423 (by decide))) CR423.1)
  obtain ⟨_, _, ⟨T426, L426, k426, n426⟩, -, X426, hS2426, hg426, ⟨Lc426, hQ426, l426, y426, z426, C426⟩, st426⟩ := callSS X425 hx (y := (⟨"com/example/killdeer/killdeer/EndingStatementsOfPinLaw", "put", "([CII)V"⟩ : MethodName)) hown423 (mvT hZ423 (hwi hw 1 rfl)) (mvT hZ423 (hwi hw 2 rfl)) (mvT hZ423 (hwi hw 3 rfl)) (mvT hZ423 (hwi hw 4 rfl)) (by decide) (backOfSH (s := s) (vm0 := T423.vm) (EL := EL1) (W := 0) (rmPU l Z a0 hw [] b419 24 p3 _ h425 n0 Z425 (by decide) O425 SK hEL g_b419 B425) hZ423 (hwi hw 4 rfl) (hwi hw 3 rfl) (by decide) (by decide) hEL CR425.1) (g := (mkF m 48 #[vI p1, vI p2, vI p3, vI p4, vI p5, vI p6, vR b419, .unset, .unset, .unset, .unset, .unset, .unset, .unset, .unset, .unset, .unset, .unset] [(.int p3), (.int 24), (.ref b419)])) rfl (by rw [hml]; rfl) (argsL := [(.ref b419), (.int 24), (.int p3)]) (rest := []) (lenOf pd_0 rfl) rfl (by show 2 * 0 + _ ≤ _; exact Nat.le_of_eq rfl) (hb hby at_48) (fun _ _ => ⟨rfl, e425, (by decide : 5 + 2 ≤ _), (by decide : 152 + 48 ≤ _)⟩)
  dsimp only [Pt.U, Pt.locs, Pt.cells, Pt.slots] at X426 l426 y426 z426 st426 hQ426 hS2426 hg426
  obtain rfl : k426 = 7 := y426; obtain rfl : n426 = 200 := z426
  obtain ⟨rfl, N426q, K426, A426⟩ := hQ426
  have N426 : Fr n0 L426 := by rw [l426]; exact Fr.app N425 N426q
  dsimp only [Pt.U, Pt.locs, Pt.cells, Pt.slots] at C426
  have CR426 := CR425.trans C426
  have hS426 := foldS hS423 (by rw [e425]; exact hk425) hS2426 hg426
  have hZ426 : Z.Warmed39 (s.setVm T426.vm).vm := State.Warmed39.trans hZ423 hS2426.1
  have hown426 := ownS (s := s) hS2426.1 hown423
  have KK426 := K425.trans K426 (fun x r => by cases List.mem_singleton.mp r; exact (Or.inr sz_b419))
  have Z426 := Nat.le_trans Z425 K426.1
  have O426 := O425.keep K426 (all1 g_b419)
  obtain ⟨T427, L427, X427, e427, N427, st427⟩ := zT X426 hx hZ426 hown426 rfl N426 (hwi hw 54 rfl) (hwi hw 55 rfl) (hwi hw 3 rfl) (hwi hw 56 rfl) (rm_sc l Z a0 hw [] ((p6.toUInt32 >>> ((6 : Int32) &&& 31).toUInt32).toInt32) T426.heap n0 Z426 ) 60 #[vI p1, vI p2, vI p3, vI p4, vI p5, vI p6, vR b419, .unset, .unset, .unset, .unset, .unset, .unset, .unset, .unset, .unset, .unset, .unset] [(.int ((p6.toUInt32 >>> ((6 : Int32) &&& 31).toUInt32).toInt32)), (.int 35), (.ref b419)] hml pd_5 (hb hby at_60) 2
  obtain ⟨T428, h428, X428, e428, W428, st428⟩ := stCh X427 hx hZ426 e427 A426 (i := 35) (by decide) (by decide) (x := (f_sc ((p6.toUInt32 >>> ((6 : Int32) &&& 31).toUInt32).toInt32))) (g := (mkF m 63 #[vI p1, vI p2, vI p3, vI p4, vI p5, vI p6, vR b419, .unset, .unset, .unset, .unset, .unset, .unset, .unset, .unset, .unset, .unset, .unset] [(.int (f_sc ((p6.toUInt32 >>> ((6 : Int32) &&& 31).toUInt32).toInt32))), (.int 35), (.ref b419)])) rfl rfl (hb hby at_63)
  have A428 := A426.wr W428
  have N428 := Fr.snoc X428 N427 g_b419
  have K428 := KK426.wr W428 (Or.inr sz_b419)
  have Z428 := Nat.le_trans Z426 (Keep.of_wr W428).1
  have O428 := O426.wr W428 g_b419
  have hk428 := Nat.le_trans (Nat.le_refl _) (Keep.of_wr W428).1
  have B428 := A428.congr (caU (isCh_of (sc_ok _).2))
  have CR428 := CR426.trans (CHr.keep (Keep.of_wr W428) (safe1 (AF.safe hZ426.alike A426 (by decide))) CR426.1)
  obtain ⟨_, _, ⟨T429, L429, k429, n429⟩, -, X429, hS2429, hg429, ⟨Lc429, hQ429, l429, y429, z429, C429⟩, st429⟩ := callSS X428 hx (y := (⟨"com/example/killdeer/killdeer/EndingStatementsOfPinLaw", "sepText", "(I)Ljava/lang/String;"⟩ : MethodName)) hown426 (mvT hZ426 (hwi hw 59 rfl)) (mvT hZ426 (hwi hw 60 rfl)) (mvT hZ426 (hwi hw 3 rfl)) (mvT hZ426 (hwi hw 61 rfl)) (by decide) (backOfSH (s := s) (vm0 := T426.vm) (EL := EL1) (W := 0) (rmSP l Z a0 hw [] (k8 p5) h428 n0 Z428 (k8_lt p5) hEL) hZ426 (hwi hw 61 rfl) (hwi hw 3 rfl) (by decide) (by decide) hEL CR428.1) (g := (mkF m 73 #[vI p1, vI p2, vI p3, vI p4, vI p5, vI p6, vR b419, vI (iN (k8 p5)), .unset, .unset, .unset, .unset, .unset, .unset, .unset, .unset, .unset, .unset] [(.int (iN (k8 p5)))])) rfl (by rw [hml]; rfl) (argsL := [(.int (iN (k8 p5)))]) (rest := []) (lenOf pd_1 rfl) rfl (by show 2 * 0 + _ ≤ _; exact Nat.le_of_eq rfl) (hb hby at_73) (fun _ _ => ⟨rfl, e428, (by decide : 7 + 2 ≤ _), (by decide : 200 + 32 ≤ _)⟩)
  dsimp only [Pt.U, Pt.locs, Pt.cells, Pt.slots] at X429 l429 y429 z429 st429 hQ429 hS2429 hg429
  obtain rfl : k429 = 9 := y429; obtain rfl : n429 = 232 := z429
  obtain ⟨o429, rfl, N429q, K429, S429⟩ := hQ429
  have N429 : Fr n0 L429 := by rw [l429]; exact Fr.app N428 N429q
  dsimp only [Pt.U, Pt.locs, Pt.cells, Pt.slots] at C429
  have CR429 := CR428.trans C429
  have hS429 := foldS hS426 (by rw [e428]; exact hk428) hS2429 hg429
  have hZ429 : Z.Warmed39 (s.setVm T429.vm).vm := State.Warmed39.trans hZ426 hS2429.1
  have hown429 := ownS (s := s) hS2429.1 hown426
  have B428_e429 := B428.keep K429 List.not_mem_nil
  have KK429 := K428.trans K429 (fun x r => absurd r List.not_mem_nil)
  have Z429 := Nat.le_trans Z428 K429.1
  have O429 := O428.keep K429 all0'
  obtain ⟨T430, L430, X430, e430, N430, st430⟩ := vCA X429 hx hZ429 hown429 rfl N429 hw (hwi hw 32 rfl) Z429 (by rw [(sl_ok _ (k8_lt p5)).1]; decide) 0 (0 : Int32) (by rw [(sl_ok _ (k8_lt p5)).1]; decide) O429 SK S429 (glB (sl_ok _ (k8_lt p5)).2 _) 85 #[vI p1, vI p2, vI p3, vI p4, vI p5, vI p6, vR b419, vI (iN (k8 p5)), vR o429, .unset, .unset, .unset, .unset, .unset, .unset, .unset, .unset, .unset] [(.int 36), (.ref b419)] hml (hb hby at_85) 2
  obtain ⟨T431, h431, X431, e431, W431, st431⟩ := stCh X430 hx hZ429 e430 B428_e429 (i := 36) (by decide) (by decide) (x := (gl (sl (k8 p5)) 0)) (g := (mkF m 88 #[vI p1, vI p2, vI p3, vI p4, vI p5, vI p6, vR b419, vI (iN (k8 p5)), vR o429, .unset, .unset, .unset, .unset, .unset, .unset, .unset, .unset, .unset] [(.int (gl (sl (k8 p5)) 0)), (.int 36), (.ref b419)])) rfl rfl (hb hby at_88)
  have A431 := B428_e429.wr W431
  have N431 := Fr.snoc X431 N430 g_b419
  have K431 := KK429.wr W431 (Or.inr sz_b419)
  have Z431 := Nat.le_trans Z429 (Keep.of_wr W431).1
  have O431 := O429.wr W431 g_b419
  have hk431 := Nat.le_trans (Nat.le_refl _) (Keep.of_wr W431).1
  have B431 := A431.congr (caU (isCh_of (glB (sl_ok _ (k8_lt p5)).2 _)))
  have SS431 := S429.keep1 (Keep.of_wr W431) B428_e429 (hwi hw 10 rfl)
  have CR431 := CR429.trans (CHr.keep (Keep.of_wr W431) (safe1 (AF.safe hZ429.alike B428_e429 (by decide))) CR429.1)
  obtain ⟨T432, L432, X432, e432, N432, st432⟩ := vCA X431 hx hZ429 hown429 e431 N431 hw (hwi hw 32 rfl) Z431 (by rw [(sl_ok _ (k8_lt p5)).1]; decide) 1 (1 : Int32) (by rw [(sl_ok _ (k8_lt p5)).1]; decide) O431 SK SS431 (glB (sl_ok _ (k8_lt p5)).2 _) 96 #[vI p1, vI p2, vI p3, vI p4, vI p5, vI p6, vR b419, vI (iN (k8 p5)), vR o429, .unset, .unset, .unset, .unset, .unset, .unset, .unset, .unset, .unset] [(.int 37), (.ref b419)] hml (hb hby at_96) 2
  obtain ⟨T433, h433, X433, e433, W433, st433⟩ := stCh X432 hx hZ429 e432 B431 (i := 37) (by decide) (by decide) (x := (gl (sl (k8 p5)) 1)) (g := (mkF m 99 #[vI p1, vI p2, vI p3, vI p4, vI p5, vI p6, vR b419, vI (iN (k8 p5)), vR o429, .unset, .unset, .unset, .unset, .unset, .unset, .unset, .unset, .unset] [(.int (gl (sl (k8 p5)) 1)), (.int 37), (.ref b419)])) rfl rfl (hb hby at_99)
  have A433 := B431.wr W433
  have N433 := Fr.snoc X433 N432 g_b419
  have K433 := K431.wr W433 (Or.inr sz_b419)
  have Z433 := Nat.le_trans Z431 (Keep.of_wr W433).1
  have O433 := O431.wr W433 g_b419
  have hk433 := Nat.le_trans hk431 (Keep.of_wr W433).1
  have B433 := A433.congr (caU (isCh_of (glB (sl_ok _ (k8_lt p5)).2 _)))
  have SS433 := SS431.keep1 (Keep.of_wr W433) B431 (hwi hw 10 rfl)
  have CR433 := CR431.trans (CHr.keep (Keep.of_wr W433) (safe1 (AF.safe hZ429.alike B431 (by decide))) CR431.1)
  obtain ⟨T434, L434, X434, e434, N434, st434⟩ := vCA X433 hx hZ429 hown429 e433 N433 hw (hwi hw 32 rfl) Z433 (by rw [(sl_ok _ (k8_lt p5)).1]; decide) 2 (2 : Int32) (by rw [(sl_ok _ (k8_lt p5)).1]; decide) O433 SK SS433 (glB (sl_ok _ (k8_lt p5)).2 _) 107 #[vI p1, vI p2, vI p3, vI p4, vI p5, vI p6, vR b419, vI (iN (k8 p5)), vR o429, .unset, .unset, .unset, .unset, .unset, .unset, .unset, .unset, .unset] [(.int 38), (.ref b419)] hml (hb hby at_107) 2
  obtain ⟨T435, h435, X435, e435, W435, st435⟩ := stCh X434 hx hZ429 e434 B433 (i := 38) (by decide) (by decide) (x := (gl (sl (k8 p5)) 2)) (g := (mkF m 110 #[vI p1, vI p2, vI p3, vI p4, vI p5, vI p6, vR b419, vI (iN (k8 p5)), vR o429, .unset, .unset, .unset, .unset, .unset, .unset, .unset, .unset, .unset] [(.int (gl (sl (k8 p5)) 2)), (.int 38), (.ref b419)])) rfl rfl (hb hby at_110)
  have A435 := B433.wr W435
  have N435 := Fr.snoc X435 N434 g_b419
  have K435 := K433.wr W435 (Or.inr sz_b419)
  have Z435 := Nat.le_trans Z433 (Keep.of_wr W435).1
  have O435 := O433.wr W435 g_b419
  have hk435 := Nat.le_trans hk433 (Keep.of_wr W435).1
  have B435 := A435.congr (caU (isCh_of (glB (sl_ok _ (k8_lt p5)).2 _)))
  have SS435 := SS433.keep1 (Keep.of_wr W435) B433 (hwi hw 10 rfl)
  have CR435 := CR433.trans (CHr.keep (Keep.of_wr W435) (safe1 (AF.safe hZ429.alike B433 (by decide))) CR433.1)
  obtain ⟨T436, L436, X436, e436, N436, st436⟩ := vCA X435 hx hZ429 hown429 e435 N435 hw (hwi hw 32 rfl) Z435 (by rw [(sl_ok _ (k8_lt p5)).1]; decide) 3 (3 : Int32) (by rw [(sl_ok _ (k8_lt p5)).1]; decide) O435 SK SS435 (glB (sl_ok _ (k8_lt p5)).2 _) 118 #[vI p1, vI p2, vI p3, vI p4, vI p5, vI p6, vR b419, vI (iN (k8 p5)), vR o429, .unset, .unset, .unset, .unset, .unset, .unset, .unset, .unset, .unset] [(.int 39), (.ref b419)] hml (hb hby at_118) 2
  obtain ⟨T437, h437, X437, e437, W437, st437⟩ := stCh X436 hx hZ429 e436 B435 (i := 39) (by decide) (by decide) (x := (gl (sl (k8 p5)) 3)) (g := (mkF m 121 #[vI p1, vI p2, vI p3, vI p4, vI p5, vI p6, vR b419, vI (iN (k8 p5)), vR o429, .unset, .unset, .unset, .unset, .unset, .unset, .unset, .unset, .unset] [(.int (gl (sl (k8 p5)) 3)), (.int 39), (.ref b419)])) rfl rfl (hb hby at_121)
  have A437 := B435.wr W437
  have N437 := Fr.snoc X437 N436 g_b419
  have K437 := K435.wr W437 (Or.inr sz_b419)
  have Z437 := Nat.le_trans Z435 (Keep.of_wr W437).1
  have O437 := O435.wr W437 g_b419
  have hk437 := Nat.le_trans hk435 (Keep.of_wr W437).1
  have B437 := A437.congr (caU (isCh_of (glB (sl_ok _ (k8_lt p5)).2 _)))
  have SS437 := SS435.keep1 (Keep.of_wr W437) B435 (hwi hw 10 rfl)
  have CR437 := CR435.trans (CHr.keep (Keep.of_wr W437) (safe1 (AF.safe hZ429.alike B435 (by decide))) CR435.1)
  obtain ⟨T438, L438, X438, e438, N438, st438⟩ := vCA X437 hx hZ429 hown429 e437 N437 hw (hwi hw 32 rfl) Z437 (by rw [(sl_ok _ (k8_lt p5)).1]; decide) 4 (4 : Int32) (by rw [(sl_ok _ (k8_lt p5)).1]; decide) O437 SK SS437 (glB (sl_ok _ (k8_lt p5)).2 _) 129 #[vI p1, vI p2, vI p3, vI p4, vI p5, vI p6, vR b419, vI (iN (k8 p5)), vR o429, .unset, .unset, .unset, .unset, .unset, .unset, .unset, .unset, .unset] [(.int 40), (.ref b419)] hml (hb hby at_129) 2
  obtain ⟨T439, h439, X439, e439, W439, st439⟩ := stCh X438 hx hZ429 e438 B437 (i := 40) (by decide) (by decide) (x := (gl (sl (k8 p5)) 4)) (g := (mkF m 132 #[vI p1, vI p2, vI p3, vI p4, vI p5, vI p6, vR b419, vI (iN (k8 p5)), vR o429, .unset, .unset, .unset, .unset, .unset, .unset, .unset, .unset, .unset] [(.int (gl (sl (k8 p5)) 4)), (.int 40), (.ref b419)])) rfl rfl (hb hby at_132)
  have A439 := B437.wr W439
  have N439 := Fr.snoc X439 N438 g_b419
  have K439 := K437.wr W439 (Or.inr sz_b419)
  have Z439 := Nat.le_trans Z437 (Keep.of_wr W439).1
  have O439 := O437.wr W439 g_b419
  have hk439 := Nat.le_trans hk437 (Keep.of_wr W439).1
  have B439 := A439.congr (caU (isCh_of (glB (sl_ok _ (k8_lt p5)).2 _)))
  have SS439 := SS437.keep1 (Keep.of_wr W439) B437 (hwi hw 10 rfl)
  have CR439 := CR437.trans (CHr.keep (Keep.of_wr W439) (safe1 (AF.safe hZ429.alike B437 (by decide))) CR437.1)
  obtain ⟨T440, L440, X440, e440, N440, st440⟩ := vCA X439 hx hZ429 hown429 e439 N439 hw (hwi hw 32 rfl) Z439 (by rw [(sl_ok _ (k8_lt p5)).1]; decide) 5 (5 : Int32) (by rw [(sl_ok _ (k8_lt p5)).1]; decide) O439 SK SS439 (glB (sl_ok _ (k8_lt p5)).2 _) 140 #[vI p1, vI p2, vI p3, vI p4, vI p5, vI p6, vR b419, vI (iN (k8 p5)), vR o429, .unset, .unset, .unset, .unset, .unset, .unset, .unset, .unset, .unset] [(.int 41), (.ref b419)] hml (hb hby at_140) 2
  obtain ⟨T441, h441, X441, e441, W441, st441⟩ := stCh X440 hx hZ429 e440 B439 (i := 41) (by decide) (by decide) (x := (gl (sl (k8 p5)) 5)) (g := (mkF m 143 #[vI p1, vI p2, vI p3, vI p4, vI p5, vI p6, vR b419, vI (iN (k8 p5)), vR o429, .unset, .unset, .unset, .unset, .unset, .unset, .unset, .unset, .unset] [(.int (gl (sl (k8 p5)) 5)), (.int 41), (.ref b419)])) rfl rfl (hb hby at_143)
  have A441 := B439.wr W441
  have N441 := Fr.snoc X441 N440 g_b419
  have K441 := K439.wr W441 (Or.inr sz_b419)
  have Z441 := Nat.le_trans Z439 (Keep.of_wr W441).1
  have O441 := O439.wr W441 g_b419
  have hk441 := Nat.le_trans hk439 (Keep.of_wr W441).1
  have B441 := A441.congr (caU (isCh_of (glB (sl_ok _ (k8_lt p5)).2 _)))
  have SS441 := SS439.keep1 (Keep.of_wr W441) B439 (hwi hw 10 rfl)
  have CR441 := CR439.trans (CHr.keep (Keep.of_wr W441) (safe1 (AF.safe hZ429.alike B439 (by decide))) CR439.1)
  obtain ⟨T442, L442, X442, e442, N442, st442⟩ := vCA X441 hx hZ429 hown429 e441 N441 hw (hwi hw 32 rfl) Z441 (by rw [(sl_ok _ (k8_lt p5)).1]; decide) 6 (6 : Int32) (by rw [(sl_ok _ (k8_lt p5)).1]; decide) O441 SK SS441 (glB (sl_ok _ (k8_lt p5)).2 _) 152 #[vI p1, vI p2, vI p3, vI p4, vI p5, vI p6, vR b419, vI (iN (k8 p5)), vR o429, .unset, .unset, .unset, .unset, .unset, .unset, .unset, .unset, .unset] [(.int 42), (.ref b419)] hml (hb hby at_152) 2
  obtain ⟨T443, h443, X443, e443, W443, st443⟩ := stCh X442 hx hZ429 e442 B441 (i := 42) (by decide) (by decide) (x := (gl (sl (k8 p5)) 6)) (g := (mkF m 155 #[vI p1, vI p2, vI p3, vI p4, vI p5, vI p6, vR b419, vI (iN (k8 p5)), vR o429, .unset, .unset, .unset, .unset, .unset, .unset, .unset, .unset, .unset] [(.int (gl (sl (k8 p5)) 6)), (.int 42), (.ref b419)])) rfl rfl (hb hby at_155)
  have A443 := B441.wr W443
  have N443 := Fr.snoc X443 N442 g_b419
  have K443 := K441.wr W443 (Or.inr sz_b419)
  have Z443 := Nat.le_trans Z441 (Keep.of_wr W443).1
  have O443 := O441.wr W443 g_b419
  have hk443 := Nat.le_trans hk441 (Keep.of_wr W443).1
  have B443 := A443.congr (caU (isCh_of (glB (sl_ok _ (k8_lt p5)).2 _)))
  have SS443 := SS441.keep1 (Keep.of_wr W443) B441 (hwi hw 10 rfl)
  have CR443 := CR441.trans (CHr.keep (Keep.of_wr W443) (safe1 (AF.safe hZ429.alike B441 (by decide))) CR441.1)
  obtain ⟨T444, L444, X444, e444, N444, st444⟩ := zT X443 hx hZ429 hown429 e443 N443 (hwi hw 54 rfl) (hwi hw 55 rfl) (hwi hw 3 rfl) (hwi hw 56 rfl) (rm_sc l Z a0 hw [] ((p6.toUInt32 >>> ((9 : Int32) &&& 31).toUInt32).toInt32) h443 n0 Z443 ) 165 #[vI p1, vI p2, vI p3, vI p4, vI p5, vI p6, vR b419, vI (iN (k8 p5)), vR o429, .unset, .unset, .unset, .unset, .unset, .unset, .unset, .unset, .unset] [(.int ((p6.toUInt32 >>> ((9 : Int32) &&& 31).toUInt32).toInt32)), (.int 43), (.ref b419)] hml pd_5 (hb hby at_165) 2
  obtain ⟨T445, h445, X445, e445, W445, st445⟩ := stCh X444 hx hZ429 e444 B443 (i := 43) (by decide) (by decide) (x := (f_sc ((p6.toUInt32 >>> ((9 : Int32) &&& 31).toUInt32).toInt32))) (g := (mkF m 168 #[vI p1, vI p2, vI p3, vI p4, vI p5, vI p6, vR b419, vI (iN (k8 p5)), vR o429, .unset, .unset, .unset, .unset, .unset, .unset, .unset, .unset, .unset] [(.int (f_sc ((p6.toUInt32 >>> ((9 : Int32) &&& 31).toUInt32).toInt32))), (.int 43), (.ref b419)])) rfl rfl (hb hby at_168)
  have A445 := B443.wr W445
  have N445 := Fr.snoc X445 N444 g_b419
  have K445 := K443.wr W445 (Or.inr sz_b419)
  have Z445 := Nat.le_trans Z443 (Keep.of_wr W445).1
  have O445 := O443.wr W445 g_b419
  have hk445 := Nat.le_trans hk443 (Keep.of_wr W445).1
  have B445 := A445.congr (caU (isCh_of (sc_ok _).2))
  have SS445 := SS443.keep1 (Keep.of_wr W445) B443 (hwi hw 10 rfl)
  have CR445 := CR443.trans (CHr.keep (Keep.of_wr W445) (safe1 (AF.safe hZ429.alike B443 (by decide))) CR443.1)
  obtain ⟨_, _, ⟨T446, L446, k446, n446⟩, -, X446, hS2446, hg446, ⟨Lc446, hQ446, l446, y446, z446, C446⟩, st446⟩ := callSS X445 hx (y := (⟨"com/example/killdeer/killdeer/EndingStatementsOfPinLaw", "put", "([CII)V"⟩ : MethodName)) hown429 (mvT hZ429 (hwi hw 1 rfl)) (mvT hZ429 (hwi hw 2 rfl)) (mvT hZ429 (hwi hw 3 rfl)) (mvT hZ429 (hwi hw 4 rfl)) (by decide) (backOfSH (s := s) (vm0 := T429.vm) (EL := EL1) (W := 0) (rmPU l Z a0 hw [] b419 44 p4 _ h445 n0 Z445 (by decide) O445 SK hEL g_b419 B445) hZ429 (hwi hw 4 rfl) (hwi hw 3 rfl) (by decide) (by decide) hEL CR445.1) (g := (mkF m 174 #[vI p1, vI p2, vI p3, vI p4, vI p5, vI p6, vR b419, vI (iN (k8 p5)), vR o429, .unset, .unset, .unset, .unset, .unset, .unset, .unset, .unset, .unset] [(.int p4), (.int 44), (.ref b419)])) rfl (by rw [hml]; rfl) (argsL := [(.ref b419), (.int 44), (.int p4)]) (rest := []) (lenOf pd_0 rfl) rfl (by show 2 * 0 + _ ≤ _; exact Nat.le_of_eq rfl) (hb hby at_174) (fun _ _ => ⟨rfl, e445, (by decide : 9 + 2 ≤ _), (by decide : 232 + 48 ≤ _)⟩)
  dsimp only [Pt.U, Pt.locs, Pt.cells, Pt.slots] at X446 l446 y446 z446 st446 hQ446 hS2446 hg446
  obtain rfl : k446 = 11 := y446; obtain rfl : n446 = 280 := z446
  obtain ⟨rfl, N446q, K446, A446⟩ := hQ446
  have N446 : Fr n0 L446 := by rw [l446]; exact Fr.app N445 N446q
  dsimp only [Pt.U, Pt.locs, Pt.cells, Pt.slots] at C446
  have CR446 := CR445.trans C446
  have hS446 := foldS hS429 (by rw [e445]; exact hk445) hS2446 hg446
  have hZ446 : Z.Warmed39 (s.setVm T446.vm).vm := State.Warmed39.trans hZ429 hS2446.1
  have hown446 := ownS (s := s) hS2446.1 hown429
  have KK446 := K445.trans K446 (fun x r => by cases List.mem_singleton.mp r; exact (Or.inr sz_b419))
  have Z446 := Nat.le_trans Z445 K446.1
  have O446 := O445.keep K446 (all1 g_b419)
  have dm447 : ∀ zz, Steps p.tables e below (T446.setTop (mkF m 196 #[vI p1, vI p2, vI p3, vI p4, vI p5, vI p6, vR b419, vI (iN (k8 p5)), vR o429, .unset, .unset, .unset, .unset, .unset, .unset, .unset, .unset, .unset] [(.int (lcV p5)), (.int 55), (.ref b419)])) zz → Steps p.tables e below (T446.setTop (mkF m 186 #[vI p1, vI p2, vI p3, vI p4, vI p5, vI p6, vR b419, vI (iN (k8 p5)), vR o429, .unset, .unset, .unset, .unset, .unset, .unset, .unset, .unset, .unset] [(.int (p5 &&& (8 : Int32))), (.int 55), (.ref b419)])) zz := by
    intro zz kz
    by_cases h8 : p5 &&& (8 : Int32) = 0
    · rw [show (lcV p5) = (32 : Int32) from if_pos h8] at kz
      refine zI X446 hx 194 (hb hby at_186) ((if0 _ _).trans (teq h8).1) rfl ?_
      refine zB X446 hx (hb hby at_194) ?_
      exact kz
    · rw [show (lcV p5) = (59 : Int32) from if_neg h8] at kz
      refine zJ X446 hx (hb hby at_186) ((if0 _ _).trans (feq h8).1) ?_
      refine zB X446 hx (hb hby at_189) ?_
      refine zG X446 hx 196 (hb hby at_191) rfl ?_
      exact kz
  obtain ⟨T448, h448, X448, e448, W448, st448⟩ := stCh X446 hx hZ446 rfl A446 (i := 55) (by decide) (by decide) (x := (lcV p5)) (g := (mkF m 196 #[vI p1, vI p2, vI p3, vI p4, vI p5, vI p6, vR b419, vI (iN (k8 p5)), vR o429, .unset, .unset, .unset, .unset, .unset, .unset, .unset, .unset, .unset] [(.int (lcV p5)), (.int 55), (.ref b419)])) rfl rfl (hb hby at_196)
  have A448 := A446.wr W448
  have N448 := Fr.snoc X448 N446 g_b419
  have K448 := KK446.wr W448 (Or.inr sz_b419)
  have Z448 := Nat.le_trans Z446 (Keep.of_wr W448).1
  have O448 := O446.wr W448 g_b419
  have hk448 := Nat.le_trans (Nat.le_refl _) (Keep.of_wr W448).1
  have B448 := A448.congr (caU (isCh_of (lc_B _)))
  have CR448 := CR446.trans (CHr.keep (Keep.of_wr W448) (safe1 (AF.safe hZ446.alike A446 (by decide))) CR446.1)
  have dm449 : ∀ zz, Steps p.tables e below (T448.setTop (mkF m 210 #[vI p1, vI p2, vI p3, vI p4, vI p5, vI p6, vR b419, vI (iN (k8 p5)), vR o429, .unset, .unset, .unset, .unset, .unset, .unset, .unset, .unset, .unset] [(.int (scV p5))])) zz → Steps p.tables e below (T448.setTop (mkF m 202 #[vI p1, vI p2, vI p3, vI p4, vI p5, vI p6, vR b419, vI (iN (k8 p5)), vR o429, .unset, .unset, .unset, .unset, .unset, .unset, .unset, .unset, .unset] [(.int (p5 &&& (16 : Int32)))])) zz := by
    intro zz kz
    by_cases h16 : p5 &&& (16 : Int32) = 0
    · rw [show (scV p5) = (0 : Int32) from if_pos h16] at kz
      refine zI X448 hx 209 (hb hby at_202) ((if0 _ _).trans (teq h16).1) rfl ?_
      refine zC X448 hx (hb hby at_209) ?_
      exact kz
    · rw [show (scV p5) = (1 : Int32) from if_neg h16] at kz
      refine zJ X448 hx (hb hby at_202) ((if0 _ _).trans (feq h16).1) ?_
      refine zC X448 hx (hb hby at_205) ?_
      refine zG X448 hx 210 (hb hby at_206) rfl ?_
      exact kz
  obtain ⟨T450, h450, X450, e450, E450, A450, st450⟩ := nwA X448 hx hZ446 (hwi hw 64 rfl) e448 (g := (mkF m 213 #[vI p1, vI p2, vI p3, vI p4, vI p5, vI p6, vR b419, vI (iN (k8 p5)), vR o429, vI (scV p5), .unset, .unset, .unset, .unset, .unset, .unset, .unset, .unset] [(.int 4)])) rfl (hb hby at_213) (n := 4) rfl (cap := 4) (by decide) (by decide) (by decide) (by decide)
  obtain ⟨b450, q450⟩ : ∃ z, z = h448.size := ⟨_, rfl⟩
  rw [← q450] at A450 st450
  have V450 : AF Z h450 b450 .int 4 (fun _ => (.int 0)) := A450
  have g_b450 : n0 ≤ b450 := Nat.le_trans Z448 (Nat.le_of_eq q450.symm)
  have sz_b450 : h0.size ≤ b450 := Nat.le_trans K448.1 (Nat.le_of_eq q450.symm)
  have K450 := K448.ext E450
  have Z450 := Nat.le_trans Z448 E450.1
  have ne_b419_b450 : b419 ≠ b450 := Nat.ne_of_lt (Nat.lt_of_lt_of_le B448.lt (Nat.le_of_eq q450.symm))
  have B448_e450 := B448.ext E450
  have O450 := O448.ext E450
  have hk450 := Nat.le_trans hk448 E450.1
  have CR450 := CR448.trans (CHr.ext E450 CR448.1)
  obtain ⟨T451, h451, X451, e451, W451, st451⟩ := stIn X450 hx hZ446 e450 V450 (i := 0) (by decide) (by decide) (g := (mkF m 218 #[vI p1, vI p2, vI p3, vI p4, vI p5, vI p6, vR b419, vI (iN (k8 p5)), vR o429, vI (scV p5), .unset, .unset, .unset, .unset, .unset, .unset, .unset, .unset] [(.int 0), (.int 0), (.ref b450), (.ref b450)])) rfl rfl (hb hby at_218)
  have A451 := V450.wr W451
  have B448_e451 := B448_e450.other W451 ne_b419_b450
  have N451 := Fr.snoc X451 N448 g_b450
  have K451 := K450.wr W451 (Or.inr sz_b450)
  have Z451 := Nat.le_trans Z450 (Keep.of_wr W451).1
  have hk451 := Nat.le_trans hk450 (Keep.of_wr W451).1
  have O451 := O450.wr W451 g_b450
  have CR451 := CR450.trans (CHr.keep (Keep.of_wr W451) (safe1 (AF.safe hZ446.alike V450 (by decide))) CR450.1)
  obtain ⟨T452, h452, X452, e452, W452, st452⟩ := stIn X451 hx hZ446 e451 A451 (i := 1) (by decide) (by decide) (g := (mkF m 222 #[vI p1, vI p2, vI p3, vI p4, vI p5, vI p6, vR b419, vI (iN (k8 p5)), vR o429, vI (scV p5), .unset, .unset, .unset, .unset, .unset, .unset, .unset, .unset] [(.int (-1)), (.int 1), (.ref b450), (.ref b450)])) rfl rfl (hb hby at_222)
  have A452 := A451.wr W452
  have B448_e452 := B448_e451.other W452 ne_b419_b450
  have N452 := Fr.snoc X452 N451 g_b450
  have K452 := K451.wr W452 (Or.inr sz_b450)
  have Z452 := Nat.le_trans Z451 (Keep.of_wr W452).1
  have hk452 := Nat.le_trans hk451 (Keep.of_wr W452).1
  have O452 := O451.wr W452 g_b450
  have CR452 := CR451.trans (CHr.keep (Keep.of_wr W452) (safe1 (AF.safe hZ446.alike A451 (by decide))) CR451.1)
  obtain ⟨T453, h453, X453, e453, W453, st453⟩ := stIn X452 hx hZ446 e452 A452 (i := 2) (by decide) (by decide) (g := (mkF m 226 #[vI p1, vI p2, vI p3, vI p4, vI p5, vI p6, vR b419, vI (iN (k8 p5)), vR o429, vI (scV p5), .unset, .unset, .unset, .unset, .unset, .unset, .unset, .unset] [(.int (-1)), (.int 2), (.ref b450), (.ref b450)])) rfl rfl (hb hby at_226)
  have A453 := A452.wr W453
  have B448_e453 := B448_e452.other W453 ne_b419_b450
  have N453 := Fr.snoc X453 N452 g_b450
  have K453 := K452.wr W453 (Or.inr sz_b450)
  have Z453 := Nat.le_trans Z452 (Keep.of_wr W453).1
  have hk453 := Nat.le_trans hk452 (Keep.of_wr W453).1
  have O453 := O452.wr W453 g_b450
  have CR453 := CR452.trans (CHr.keep (Keep.of_wr W453) (safe1 (AF.safe hZ446.alike A452 (by decide))) CR452.1)
  obtain ⟨T454, h454, X454, e454, W454, st454⟩ := stIn X453 hx hZ446 e453 A453 (i := 3) (by decide) (by decide) (g := (mkF m 230 #[vI p1, vI p2, vI p3, vI p4, vI p5, vI p6, vR b419, vI (iN (k8 p5)), vR o429, vI (scV p5), .unset, .unset, .unset, .unset, .unset, .unset, .unset, .unset] [(.int (-1)), (.int 3), (.ref b450), (.ref b450)])) rfl rfl (hb hby at_230)
  have A454 := A453.wr W454
  have B448_e454 := B448_e453.other W454 ne_b419_b450
  have N454 := Fr.snoc X454 N453 g_b450
  have K454 := K453.wr W454 (Or.inr sz_b450)
  have Z454 := Nat.le_trans Z453 (Keep.of_wr W454).1
  have hk454 := Nat.le_trans hk453 (Keep.of_wr W454).1
  have O454 := O453.wr W454 g_b450
  have CR454 := CR453.trans (CHr.keep (Keep.of_wr W454) (safe1 (AF.safe hZ446.alike A453 (by decide))) CR453.1)
  have BF454 := A454.congr bf00
  obtain ⟨T455, h455, X455, e455, E455, A455, st455⟩ := nwA X454 hx hZ446 (hwi hw 64 rfl) e454 (g := (mkF m 234 #[vI p1, vI p2, vI p3, vI p4, vI p5, vI p6, vR b419, vI (iN (k8 p5)), vR o429, vI (scV p5), vR b450, .unset, .unset, .unset, .unset, .unset, .unset, .unset] [(.int 4)])) rfl (hb hby at_234) (n := 4) rfl (cap := 4) (by decide) (by decide) (by decide) (by decide)
  obtain ⟨b455, q455⟩ : ∃ z, z = h454.size := ⟨_, rfl⟩
  rw [← q455] at A455 st455
  have V455 : AF Z h455 b455 .int 4 (fun _ => (.int 0)) := A455
  have g_b455 : n0 ≤ b455 := Nat.le_trans Z454 (Nat.le_of_eq q455.symm)
  have sz_b455 : h0.size ≤ b455 := Nat.le_trans K454.1 (Nat.le_of_eq q455.symm)
  have K455 := K454.ext E455
  have Z455 := Nat.le_trans Z454 E455.1
  have ne_b419_b455 : b419 ≠ b455 := Nat.ne_of_lt (Nat.lt_of_lt_of_le B448_e454.lt (Nat.le_of_eq q455.symm))
  have ne_b450_b455 : b450 ≠ b455 := Nat.ne_of_lt (Nat.lt_of_lt_of_le BF454.lt (Nat.le_of_eq q455.symm))
  have B448_e455 := B448_e454.ext E455
  have BF454_e455 := BF454.ext E455
  have O455 := O454.ext E455
  have hk455 := Nat.le_trans hk454 E455.1
  have CR455 := CR454.trans (CHr.ext E455 CR454.1)
  obtain ⟨T456, h456, X456, e456, W456, st456⟩ := stIn X455 hx hZ446 e455 V455 (i := 0) (by decide) (by decide) (g := (mkF m 239 #[vI p1, vI p2, vI p3, vI p4, vI p5, vI p6, vR b419, vI (iN (k8 p5)), vR o429, vI (scV p5), vR b450, .unset, .unset, .unset, .unset, .unset, .unset, .unset] [(.int 0), (.int 0), (.ref b455), (.ref b455)])) rfl rfl (hb hby at_239)
  have A456 := V455.wr W456
  have B448_e456 := B448_e455.other W456 ne_b419_b455
  have BF454_e456 := BF454_e455.other W456 ne_b450_b455
  have N456 := Fr.snoc X456 N454 g_b455
  have K456 := K455.wr W456 (Or.inr sz_b455)
  have Z456 := Nat.le_trans Z455 (Keep.of_wr W456).1
  have hk456 := Nat.le_trans hk455 (Keep.of_wr W456).1
  have O456 := O455.wr W456 g_b455
  have CR456 := CR455.trans (CHr.keep (Keep.of_wr W456) (safe1 (AF.safe hZ446.alike V455 (by decide))) CR455.1)
  obtain ⟨T457, h457, X457, e457, W457, st457⟩ := stIn X456 hx hZ446 e456 A456 (i := 1) (by decide) (by decide) (g := (mkF m 243 #[vI p1, vI p2, vI p3, vI p4, vI p5, vI p6, vR b419, vI (iN (k8 p5)), vR o429, vI (scV p5), vR b450, .unset, .unset, .unset, .unset, .unset, .unset, .unset] [(.int (-1)), (.int 1), (.ref b455), (.ref b455)])) rfl rfl (hb hby at_243)
  have A457 := A456.wr W457
  have B448_e457 := B448_e456.other W457 ne_b419_b455
  have BF454_e457 := BF454_e456.other W457 ne_b450_b455
  have N457 := Fr.snoc X457 N456 g_b455
  have K457 := K456.wr W457 (Or.inr sz_b455)
  have Z457 := Nat.le_trans Z456 (Keep.of_wr W457).1
  have hk457 := Nat.le_trans hk456 (Keep.of_wr W457).1
  have O457 := O456.wr W457 g_b455
  have CR457 := CR456.trans (CHr.keep (Keep.of_wr W457) (safe1 (AF.safe hZ446.alike A456 (by decide))) CR456.1)
  obtain ⟨T458, h458, X458, e458, W458, st458⟩ := stIn X457 hx hZ446 e457 A457 (i := 2) (by decide) (by decide) (g := (mkF m 247 #[vI p1, vI p2, vI p3, vI p4, vI p5, vI p6, vR b419, vI (iN (k8 p5)), vR o429, vI (scV p5), vR b450, .unset, .unset, .unset, .unset, .unset, .unset, .unset] [(.int (-1)), (.int 2), (.ref b455), (.ref b455)])) rfl rfl (hb hby at_247)
  have A458 := A457.wr W458
  have B448_e458 := B448_e457.other W458 ne_b419_b455
  have BF454_e458 := BF454_e457.other W458 ne_b450_b455
  have N458 := Fr.snoc X458 N457 g_b455
  have K458 := K457.wr W458 (Or.inr sz_b455)
  have Z458 := Nat.le_trans Z457 (Keep.of_wr W458).1
  have hk458 := Nat.le_trans hk457 (Keep.of_wr W458).1
  have O458 := O457.wr W458 g_b455
  have CR458 := CR457.trans (CHr.keep (Keep.of_wr W458) (safe1 (AF.safe hZ446.alike A457 (by decide))) CR457.1)
  obtain ⟨T459, h459, X459, e459, W459, st459⟩ := stIn X458 hx hZ446 e458 A458 (i := 3) (by decide) (by decide) (g := (mkF m 251 #[vI p1, vI p2, vI p3, vI p4, vI p5, vI p6, vR b419, vI (iN (k8 p5)), vR o429, vI (scV p5), vR b450, .unset, .unset, .unset, .unset, .unset, .unset, .unset] [(.int (-1)), (.int 3), (.ref b455), (.ref b455)])) rfl rfl (hb hby at_251)
  have A459 := A458.wr W459
  have B448_e459 := B448_e458.other W459 ne_b419_b455
  have BF454_e459 := BF454_e458.other W459 ne_b450_b455
  have N459 := Fr.snoc X459 N458 g_b455
  have K459 := K458.wr W459 (Or.inr sz_b455)
  have Z459 := Nat.le_trans Z458 (Keep.of_wr W459).1
  have hk459 := Nat.le_trans hk458 (Keep.of_wr W459).1
  have O459 := O458.wr W459 g_b455
  have CR459 := CR458.trans (CHr.keep (Keep.of_wr W459) (safe1 (AF.safe hZ446.alike A458 (by decide))) CR458.1)
  have BF459 := A459.congr bf00
  obtain ⟨T460, h460, X460, e460, E460, A460, D460, -, st460⟩ := newO X459 hx hZ446 hown446 (hwi hw 65 rfl) (hwi hw 10 rfl) (hwi hw 9 rfl) e459 (g := (mkF m 254 #[vI p1, vI p2, vI p3, vI p4, vI p5, vI p6, vR b419, vI (iN (k8 p5)), vR o429, vI (scV p5), vR b450, vR b455, .unset, .unset, .unset, .unset, .unset, .unset] [])) rfl (hb hby at_254) (by decide) (by decide)
  obtain ⟨b460, g460⟩ : ∃ z, z = h459.size := ⟨_, rfl⟩
  rw [← g460] at A460 D460 st460
  have ne_b455_b460 : b455 ≠ b460 := Nat.ne_of_lt (Nat.lt_of_lt_of_le BF459.lt (Nat.le_of_eq g460.symm))
  have ne_b450_b460 : b450 ≠ b460 := Nat.ne_of_lt (Nat.lt_of_lt_of_le BF454_e459.lt (Nat.le_of_eq g460.symm))
  have ne_b419_b460 : b419 ≠ b460 := Nat.ne_of_lt (Nat.lt_of_lt_of_le B448_e459.lt (Nat.le_of_eq g460.symm))
  have B448_e460 := B448_e459.ext E460
  have BF454_e460 := BF454_e459.ext E460
  have BF459_e460 := BF459.ext E460
  have E_b460 := A460
  have g_b460 : n0 ≤ b460 := Nat.le_trans Z459 (Nat.le_of_eq g460.symm)
  have sz_b460 : h0.size ≤ b460 := Nat.le_trans K459.1 (Nat.le_of_eq g460.symm)
  have K460 := K459.ext E460
  have Z460 := Nat.le_trans Z459 E460.1
  have F_value_b460 : Fld Z h460 b460 "java/lang/String" "value" "[B" .null := D460 (Or.inr (hwi hw 12 rfl)) (ty := (.array .byte)) (by decide)
  have F_coder_b460 : Fld Z h460 b460 "java/lang/String" "coder" "B" (.int 0) := D460 (Or.inr (hwi hw 13 rfl)) (ty := .byte) (by decide)
  have hk460 := Nat.le_trans hk459 E460.1
  have O460 := O459.ext E460
  have CR460 := CR459.trans (CHr.ext E460 CR459.1)
  have hgB : allB (TXT p1 p2 p3 p4 (k8 p5) (f_sc p6) (f_sc ((p6.toUInt32 >>> ((3 : Int32) &&& 31).toUInt32).toInt32)) (f_sc ((p6.toUInt32 >>> ((6 : Int32) &&& 31).toUInt32).toInt32)) (f_sc ((p6.toUInt32 >>> ((9 : Int32) &&& 31).toUInt32).toInt32)) (lcV p5)) := txB (k8_lt p5) (sc_ok _).2 (sc_ok _).2 (sc_ok _).2 (sc_ok _).2 (lc_B _)
  obtain ⟨_, _, ⟨T461, L461, k461, n461⟩, -, X461, ⟨Lc461, hQ461, l461, y461, z461⟩, st461⟩ := X460.specialBack hx (y := (⟨"java/lang/String", "<init>", "([C)V"⟩ : MethodName)) rfl hown446 (mvT hZ446 (hwi hw 66 rfl)) (mvT hZ446 (hwi hw 67 rfl)) (mvT hZ446 (hwi hw 68 rfl)) (by decide) (backOf (W := 1) (rmI1 l Z a0 hw [] b460 b419 56 (TXT p1 p2 p3 p4 (k8 p5) (f_sc p6) (f_sc ((p6.toUInt32 >>> ((3 : Int32) &&& 31).toUInt32).toInt32)) (f_sc ((p6.toUInt32 >>> ((6 : Int32) &&& 31).toUInt32).toInt32)) (f_sc ((p6.toUInt32 >>> ((9 : Int32) &&& 31).toUInt32).toInt32)) (lcV p5)) h460 n0 Z460 (by decide) (by decide) O460 SK B448_e460 (fun j _ => isCh_of (hgB j)) E_b460 F_value_b460 F_coder_b460 g_b460 ne_b419_b460 (fun j _ => notBig (hgB j))) hZ446 (hwi hw 68 rfl) (hwi hw 9 rfl) (by decide) (by decide)) (g := (mkF m 260 #[vI p1, vI p2, vI p3, vI p4, vI p5, vI p6, vR b419, vI (iN (k8 p5)), vR o429, vI (scV p5), vR b450, vR b455, .unset, .unset, .unset, .unset, .unset, .unset] [(.ref b419), (.ref b460), (.ref b460)])) rfl (by rw [hml]; rfl) (Steps.refl _) (a := b460) (argsL := [(.ref b419)]) (rest := [(.ref b460)]) (lenOf pd_10 rfl) rfl (by show 2 * 0 + _ ≤ _; exact Nat.le_of_eq rfl) (hb hby at_260) (fun _ _ => ⟨rfl, e460, (by decide : 14 + 2 ≤ _), (by decide : 292 + 168 ≤ _)⟩)
  dsimp only [Pt.U, Pt.locs, Pt.cells, Pt.slots] at X461 l461 y461 z461 st461 hQ461
  obtain rfl : k461 = 16 := y461; obtain rfl : n461 = 460 := z461
  obtain ⟨rfl, N461q, K461, S461⟩ := hQ461
  have N461 : Fr n0 L461 := by rw [l461]; exact Fr.app N459 N461q
  have BF454_e461 := BF454_e460.keep K461 (notin1 ne_b450_b460)
  have BF459_e461 := BF459_e460.keep K461 (notin1 ne_b455_b460)
  have KK461 := K460.trans K461 (fun x r => by cases List.mem_singleton.mp r; exact (Or.inr sz_b460))
  have Z461 := Nat.le_trans Z460 K461.1
  have O461 := O460.keep K461 (all1 g_b460)
  have hk461 := Nat.le_trans hk460 K461.1
  have CR461 := CR460.trans (CHr.keep K461 (safe1 (safeNull hZ446.alike E_b460 F_value_b460)) CR460.1)
  obtain ⟨_, _, ⟨T462, L462, k462, n462⟩, -, X462, hS2462, hg462, ⟨Lc462, hQ462, l462, y462, z462, C462⟩, st462⟩ := callSS X461 hx (y := (⟨"com/example/killdeer/killdeer/EndingStatements", "of", "(Ljava/lang/String;Z)Lcom/example/killdeer/killdeer/EndingStatements$Place;"⟩ : MethodName)) hown446 (mvT hZ446 (hwi hw 86 rfl)) (mvT hZ446 (hwi hw 87 rfl)) (mvT hZ446 (hwi hw 88 rfl)) (mvT hZ446 (hwi hw 89 rfl)) (by decide) (backOfSH (s := s) (vm0 := T446.vm) (EL := EL1) (W := 0) (rmOF l Z a0 hw [] b460 wv xv ov bf la no (scV p5) (TXT p1 p2 p3 p4 (k8 p5) (f_sc p6) (f_sc ((p6.toUInt32 >>> ((3 : Int32) &&& 31).toUInt32).toInt32)) (f_sc ((p6.toUInt32 >>> ((6 : Int32) &&& 31).toUInt32).toInt32)) (f_sc ((p6.toUInt32 >>> ((9 : Int32) &&& 31).toUInt32).toInt32)) (lcV p5)) p1 p2 p3 p4 (k8 p5) T461.heap n0 Z461 O461 SK hEL hgB hWD YW hXD YX hPD YP hxw how hox hbf hla hno (k8_lt p5) (txOk (sc_ok _).1 (sc_ok _).1 (sc_ok _).1 (sc_ok _).1 (lc_or _)) (sc_01 _) S461) hZ446 (hwi hw 89 rfl) (hwi hw 88 rfl) (by decide) (by decide) hEL CR461.1) (g := (mkF m 265 #[vI p1, vI p2, vI p3, vI p4, vI p5, vI p6, vR b419, vI (iN (k8 p5)), vR o429, vI (scV p5), vR b450, vR b455, .unset, .unset, .unset, .unset, .unset, .unset] [(.int (scV p5)), (.ref b460)])) rfl (by rw [hml]; rfl) (argsL := [(.ref b460), (.int (scV p5))]) (rest := []) (lenOf pd_16 rfl) rfl (by show 2 * 0 + _ ≤ _; exact Nat.le_of_eq rfl) (hb hby at_265) (fun _ _ => ⟨rfl, rfl, (by decide : 16 + 84 ≤ _), (by decide : 460 + 4040 ≤ _)⟩)
  dsimp only [Pt.U, Pt.locs, Pt.cells, Pt.slots] at X462 l462 y462 z462 st462 hQ462 hS2462 hg462
  obtain rfl : k462 = 100 := y462; obtain rfl : n462 = 4500 := z462
  obtain ⟨rfl, N462q, K462⟩ := hQ462
  have N462 : Fr n0 L462 := by rw [l462]; exact Fr.app N461 N462q
  dsimp only [Pt.U, Pt.locs, Pt.cells, Pt.slots] at C462
  have CR462 := CR461.trans C462
  have hS462 := foldS hS446 (by exact hk461) hS2462 hg462
  have hZ462 : Z.Warmed39 (s.setVm T462.vm).vm := State.Warmed39.trans hZ446 hS2462.1
  have hown462 := ownS (s := s) hS2462.1 hown446
  have BF454_e462 := BF454_e461.keep K462 List.not_mem_nil
  have BF459_e462 := BF459_e461.keep K462 List.not_mem_nil
  have KK462 := KK461.trans K462 (fun x r => absurd r List.not_mem_nil)
  have Z462 := Nat.le_trans Z461 K462.1
  have O462 := O461.keep K462 all0'
  have hkO := Nat.le_refl T462.heap.size
  have dm463 : ∀ zz, Steps p.tables e below (T462.setTop (mkF m 291 #[vI p1, vI p2, vI p3, vI p4, vI p5, vI p6, vR b419, vI (iN (k8 p5)), vR o429, vI (scV p5), vR b450, vR b455, vR (plc bf la no (LEo p1 p2 p3 p4 (k8 p5) (scV p5)) (EBo p1 p2 p3 p4 (k8 p5) (scV p5))), .unset, .unset, .unset, .unset, .unset] [(.int (ptV (k8 p5) (scV p5)))])) zz → Steps p.tables e below (T462.setTop (mkF m 272 #[vI p1, vI p2, vI p3, vI p4, vI p5, vI p6, vR b419, vI (iN (k8 p5)), vR o429, vI (scV p5), vR b450, vR b455, vR (plc bf la no (LEo p1 p2 p3 p4 (k8 p5) (scV p5)) (EBo p1 p2 p3 p4 (k8 p5) (scV p5))), .unset, .unset, .unset, .unset, .unset] [(.int (iN (k8 p5)))])) zz := by
    intro zz kz
    by_cases h0 : (k8 p5) = 0
    · rw [show (ptV (k8 p5) (scV p5)) = (1 : Int32) from (by unfold ptV prt; simp [h0])] at kz
      refine zI X462 hx 286 (hb hby at_272) ((if0 _ _).trans (teq (congrArg Int32.ofNat h0)).1) rfl ?_
      refine zC X462 hx (hb hby at_286) ?_
      refine zG X462 hx 291 (hb hby at_287) rfl ?_
      exact kz
    · by_cases h4 : (k8 p5) = 4
      · by_cases hz : (scV p5) = 0
        · rw [show (ptV (k8 p5) (scV p5)) = (0 : Int32) from (by unfold ptV prt; simp [h0, h4, hz])] at kz
          refine zJ X462 hx (hb hby at_272) ((if0 _ _).trans (feq (neN (m := 0) h0 (by have := k8_lt p5; omega) (by decide))).1) ?_
          refine zl X462 hx (hb hby at_275) rfl ?_
          refine zC X462 hx (hb hby at_277) ?_
          refine zN X462 hx (hb hby at_278) (teq (congrArg Int32.ofNat h4)).2 ?_
          refine zl X462 hx (hb hby at_281) rfl ?_
          refine zI X462 hx 290 (hb hby at_283) ((if0 _ _).trans (teq hz).1) rfl ?_
          refine zC X462 hx (hb hby at_290) ?_
          exact kz
        · rw [show (ptV (k8 p5) (scV p5)) = (1 : Int32) from (by unfold ptV prt; simp [h0, h4, hz])] at kz
          refine zJ X462 hx (hb hby at_272) ((if0 _ _).trans (feq (neN (m := 0) h0 (by have := k8_lt p5; omega) (by decide))).1) ?_
          refine zl X462 hx (hb hby at_275) rfl ?_
          refine zC X462 hx (hb hby at_277) ?_
          refine zN X462 hx (hb hby at_278) (teq (congrArg Int32.ofNat h4)).2 ?_
          refine zl X462 hx (hb hby at_281) rfl ?_
          refine zJ X462 hx (hb hby at_283) ((if0 _ _).trans (feq hz).1) ?_
          refine zC X462 hx (hb hby at_286) ?_
          refine zG X462 hx 291 (hb hby at_287) rfl ?_
          exact kz
      · rw [show (ptV (k8 p5) (scV p5)) = (0 : Int32) from (by unfold ptV prt; simp [h0, h4])] at kz
        refine zJ X462 hx (hb hby at_272) ((if0 _ _).trans (feq (neN (m := 0) h0 (by have := k8_lt p5; omega) (by decide))).1) ?_
        refine zl X462 hx (hb hby at_275) rfl ?_
        refine zC X462 hx (hb hby at_277) ?_
        refine zM X462 hx 290 (hb hby at_278) (feq (neN (m := 4) h4 (by have := k8_lt p5; omega) (by decide))).2 rfl ?_
        refine zC X462 hx (hb hby at_290) ?_
        exact kz
  obtain ⟨T464, L464, X464, e464, N464, st464⟩ := zT X462 hx hZ462 hown462 rfl N462 (hwi hw 192 rfl) (hwi hw 193 rfl) (hwi hw 3 rfl) (hwi hw 194 rfl) (rm_co l Z a0 hw [] p1 T462.heap n0 Z462 ) 296 #[vI p1, vI p2, vI p3, vI p4, vI p5, vI p6, vR b419, vI (iN (k8 p5)), vR o429, vI (scV p5), vR b450, vR b455, vR (plc bf la no (LEo p1 p2 p3 p4 (k8 p5) (scV p5)) (EBo p1 p2 p3 p4 (k8 p5) (scV p5))), vI (ptV (k8 p5) (scV p5)), .unset, .unset, .unset, .unset] [(.int p1), (.ref b450)] hml pd_26 (hb hby at_296) 1
  obtain ⟨_, _, ⟨T465, L465, k465, n465⟩, -, X465, ⟨Lc465, hQ465, l465, y465, z465⟩, st465⟩ := Jvm.LawKit.callS X464 hx (y := (⟨"com/example/killdeer/killdeer/EndingStatementsOfPinLaw", "push", "([II)V"⟩ : MethodName)) hown462 (mvT hZ462 (hwi hw 195 rfl)) (mvT hZ462 (hwi hw 196 rfl)) (mvT hZ462 (hwi hw 3 rfl)) (mvT hZ462 (hwi hw 197 rfl)) (by decide) (backOf (W := 0) (rmPS l Z a0 hw [] b450 _ (cdK (k16 p1)) T462.heap n0 Z462 (Nat.lt_of_le_of_lt (Nat.le_refl 0 : S00.1 ≤ 0) (by decide)) g_b450 BF454_e462) hZ462 (hwi hw 197 rfl) (hwi hw 3 rfl) (by decide) (by decide)) (g := (mkF m 299 #[vI p1, vI p2, vI p3, vI p4, vI p5, vI p6, vR b419, vI (iN (k8 p5)), vR o429, vI (scV p5), vR b450, vR b455, vR (plc bf la no (LEo p1 p2 p3 p4 (k8 p5) (scV p5)) (EBo p1 p2 p3 p4 (k8 p5) (scV p5))), vI (ptV (k8 p5) (scV p5)), .unset, .unset, .unset, .unset] [(.int (cdK (k16 p1))), (.ref b450)])) rfl (by rw [hml]; rfl) (argsL := [(.ref b450), (.int (cdK (k16 p1)))]) (rest := []) (lenOf pd_27 rfl) rfl (by show 2 * 0 + _ ≤ _; exact Nat.le_of_eq rfl) (hb hby at_299) (fun _ _ => ⟨rfl, e464, (by decide : 100 + 0 ≤ _), (by decide : 4500 + 0 ≤ _)⟩)
  dsimp only [Pt.U, Pt.locs, Pt.cells, Pt.slots] at X465 l465 y465 z465 st465 hQ465
  obtain rfl : k465 = 100 := y465; obtain rfl : n465 = 4500 := z465
  obtain ⟨rfl, N465q, K465, A465⟩ := hQ465
  have N465 : Fr n0 L465 := by rw [l465]; exact Fr.app N464 N465q
  have BF459_e465 := BF459_e462.keep K465 (notin1 (Ne.symm ne_b450_b455))
  have KK465 := KK462.trans K465 (fun x r => by cases List.mem_singleton.mp r; exact (Or.inr sz_b450))
  have Z465 := Nat.le_trans Z462 K465.1
  have O465 := O462.keep K465 (all1 g_b450)
  have hk465 := Nat.le_trans hkO K465.1
  have hb465 : (psh S00 (cdK (k16 p1))).1 ≤ 1 := pshB (Nat.le_refl 0 : S00.1 ≤ 0)
  have CR465 := CR462.trans (CHr.keep K465 (safe1 (AF.safe hZ462.alike BF454_e462 (by decide))) CR462.1)
  obtain ⟨T466, L466, X466, e466, N466, st466⟩ := zT X465 hx hZ462 hown462 rfl N465 (hwi hw 192 rfl) (hwi hw 193 rfl) (hwi hw 3 rfl) (hwi hw 194 rfl) (rm_co l Z a0 hw [] p2 T465.heap n0 Z465 ) 305 #[vI p1, vI p2, vI p3, vI p4, vI p5, vI p6, vR b419, vI (iN (k8 p5)), vR o429, vI (scV p5), vR b450, vR b455, vR (plc bf la no (LEo p1 p2 p3 p4 (k8 p5) (scV p5)) (EBo p1 p2 p3 p4 (k8 p5) (scV p5))), vI (ptV (k8 p5) (scV p5)), .unset, .unset, .unset, .unset] [(.int p2), (.ref b450)] hml pd_26 (hb hby at_305) 1
  obtain ⟨_, _, ⟨T467, L467, k467, n467⟩, -, X467, ⟨Lc467, hQ467, l467, y467, z467⟩, st467⟩ := Jvm.LawKit.callS X466 hx (y := (⟨"com/example/killdeer/killdeer/EndingStatementsOfPinLaw", "push", "([II)V"⟩ : MethodName)) hown462 (mvT hZ462 (hwi hw 195 rfl)) (mvT hZ462 (hwi hw 196 rfl)) (mvT hZ462 (hwi hw 3 rfl)) (mvT hZ462 (hwi hw 197 rfl)) (by decide) (backOf (W := 0) (rmPS l Z a0 hw [] b450 _ (cdK (k16 p2)) T465.heap n0 Z465 (Nat.lt_of_le_of_lt hb465 (by decide)) g_b450 A465) hZ462 (hwi hw 197 rfl) (hwi hw 3 rfl) (by decide) (by decide)) (g := (mkF m 308 #[vI p1, vI p2, vI p3, vI p4, vI p5, vI p6, vR b419, vI (iN (k8 p5)), vR o429, vI (scV p5), vR b450, vR b455, vR (plc bf la no (LEo p1 p2 p3 p4 (k8 p5) (scV p5)) (EBo p1 p2 p3 p4 (k8 p5) (scV p5))), vI (ptV (k8 p5) (scV p5)), .unset, .unset, .unset, .unset] [(.int (cdK (k16 p2))), (.ref b450)])) rfl (by rw [hml]; rfl) (argsL := [(.ref b450), (.int (cdK (k16 p2)))]) (rest := []) (lenOf pd_27 rfl) rfl (by show 2 * 0 + _ ≤ _; exact Nat.le_of_eq rfl) (hb hby at_308) (fun _ _ => ⟨rfl, e466, (by decide : 100 + 0 ≤ _), (by decide : 4500 + 0 ≤ _)⟩)
  dsimp only [Pt.U, Pt.locs, Pt.cells, Pt.slots] at X467 l467 y467 z467 st467 hQ467
  obtain rfl : k467 = 100 := y467; obtain rfl : n467 = 4500 := z467
  obtain ⟨rfl, N467q, K467, A467⟩ := hQ467
  have N467 : Fr n0 L467 := by rw [l467]; exact Fr.app N466 N467q
  have BF459_e467 := BF459_e465.keep K467 (notin1 (Ne.symm ne_b450_b455))
  have KK467 := KK465.trans K467 (fun x r => by cases List.mem_singleton.mp r; exact (Or.inr sz_b450))
  have Z467 := Nat.le_trans Z465 K467.1
  have O467 := O465.keep K467 (all1 g_b450)
  have hk467 := Nat.le_trans hk465 K467.1
  have hb467 : (psh (psh S00 (cdK (k16 p1))) (cdK (k16 p2))).1 ≤ 2 := pshB hb465
  have CR467 := CR465.trans (CHr.keep K467 (safe1 (AF.safe hZ462.alike A465 (by decide))) CR465.1)
  obtain ⟨T468, L468, X468, e468, N468, st468⟩ := zT X467 hx hZ462 hown462 rfl N467 (hwi hw 192 rfl) (hwi hw 193 rfl) (hwi hw 3 rfl) (hwi hw 194 rfl) (rm_co l Z a0 hw [] p3 T467.heap n0 Z467 ) 314 #[vI p1, vI p2, vI p3, vI p4, vI p5, vI p6, vR b419, vI (iN (k8 p5)), vR o429, vI (scV p5), vR b450, vR b455, vR (plc bf la no (LEo p1 p2 p3 p4 (k8 p5) (scV p5)) (EBo p1 p2 p3 p4 (k8 p5) (scV p5))), vI (ptV (k8 p5) (scV p5)), .unset, .unset, .unset, .unset] [(.int p3), (.ref b450)] hml pd_26 (hb hby at_314) 1
  obtain ⟨_, _, ⟨T469, L469, k469, n469⟩, -, X469, ⟨Lc469, hQ469, l469, y469, z469⟩, st469⟩ := Jvm.LawKit.callS X468 hx (y := (⟨"com/example/killdeer/killdeer/EndingStatementsOfPinLaw", "push", "([II)V"⟩ : MethodName)) hown462 (mvT hZ462 (hwi hw 195 rfl)) (mvT hZ462 (hwi hw 196 rfl)) (mvT hZ462 (hwi hw 3 rfl)) (mvT hZ462 (hwi hw 197 rfl)) (by decide) (backOf (W := 0) (rmPS l Z a0 hw [] b450 _ (cdK (k16 p3)) T467.heap n0 Z467 (Nat.lt_of_le_of_lt hb467 (by decide)) g_b450 A467) hZ462 (hwi hw 197 rfl) (hwi hw 3 rfl) (by decide) (by decide)) (g := (mkF m 317 #[vI p1, vI p2, vI p3, vI p4, vI p5, vI p6, vR b419, vI (iN (k8 p5)), vR o429, vI (scV p5), vR b450, vR b455, vR (plc bf la no (LEo p1 p2 p3 p4 (k8 p5) (scV p5)) (EBo p1 p2 p3 p4 (k8 p5) (scV p5))), vI (ptV (k8 p5) (scV p5)), .unset, .unset, .unset, .unset] [(.int (cdK (k16 p3))), (.ref b450)])) rfl (by rw [hml]; rfl) (argsL := [(.ref b450), (.int (cdK (k16 p3)))]) (rest := []) (lenOf pd_27 rfl) rfl (by show 2 * 0 + _ ≤ _; exact Nat.le_of_eq rfl) (hb hby at_317) (fun _ _ => ⟨rfl, e468, (by decide : 100 + 0 ≤ _), (by decide : 4500 + 0 ≤ _)⟩)
  dsimp only [Pt.U, Pt.locs, Pt.cells, Pt.slots] at X469 l469 y469 z469 st469 hQ469
  obtain rfl : k469 = 100 := y469; obtain rfl : n469 = 4500 := z469
  obtain ⟨rfl, N469q, K469, A469⟩ := hQ469
  have N469 : Fr n0 L469 := by rw [l469]; exact Fr.app N468 N469q
  have BF459_e469 := BF459_e467.keep K469 (notin1 (Ne.symm ne_b450_b455))
  have KK469 := KK467.trans K469 (fun x r => by cases List.mem_singleton.mp r; exact (Or.inr sz_b450))
  have Z469 := Nat.le_trans Z467 K469.1
  have O469 := O467.keep K469 (all1 g_b450)
  have hk469 := Nat.le_trans hk467 K469.1
  have hb469 : (psh (psh (psh S00 (cdK (k16 p1))) (cdK (k16 p2))) (cdK (k16 p3))).1 ≤ 3 := pshB hb467
  have CR469 := CR467.trans (CHr.keep K469 (safe1 (AF.safe hZ462.alike A467 (by decide))) CR467.1)
  have dm470 : ∀ zz, Steps p.tables e below (T469.setTop (mkF m 343 #[vI p1, vI p2, vI p3, vI p4, vI p5, vI p6, vR b419, vI (iN (k8 p5)), vR o429, vI (scV p5), vR b450, vR b455, vR (plc bf la no (LEo p1 p2 p3 p4 (k8 p5) (scV p5)) (EBo p1 p2 p3 p4 (k8 p5) (scV p5))), vI (ptV (k8 p5) (scV p5)), .unset, .unset, .unset, .unset] [(.int (midK (k8 p5)))])) zz → Steps p.tables e below (T469.setTop (mkF m 323 #[vI p1, vI p2, vI p3, vI p4, vI p5, vI p6, vR b419, vI (iN (k8 p5)), vR o429, vI (scV p5), vR b450, vR b455, vR (plc bf la no (LEo p1 p2 p3 p4 (k8 p5) (scV p5)) (EBo p1 p2 p3 p4 (k8 p5) (scV p5))), vI (ptV (k8 p5) (scV p5)), .unset, .unset, .unset, .unset] [(.int 5), (.int (iN (k8 p5)))])) zz := by
    intro zz kz
    by_cases h5 : (k8 p5) = 5
    · rw [show (midK (k8 p5)) = (101 : Int32) from (by unfold midK; rw [if_pos h5])] at kz
      refine zN X469 hx (hb hby at_323) (teq (congrArg Int32.ofNat h5)).2 ?_
      refine zB X469 hx (hb hby at_326) ?_
      refine zG X469 hx 343 (hb hby at_328) rfl ?_
      exact kz
    · by_cases h3 : (k8 p5) ≤ 3
      · rw [show (midK (k8 p5)) = (-1 : Int32) from (by unfold midK; rw [if_neg h5, if_pos h3])] at kz
        refine zM X469 hx 331 (hb hby at_323) (feq (neN (m := 5) h5 (by have := k8_lt p5; omega) (by decide))).2 rfl ?_
        refine zl X469 hx (hb hby at_331) rfl ?_
        refine zC X469 hx (hb hby at_333) ?_
        refine zN X469 hx (hb hby at_334) (flt (fun q => absurd ((ltN (i := 3) (by decide) (by have := k8_lt p5; omega)).mp q) (by omega))).2.2.1 ?_
        refine zC X469 hx (hb hby at_337) ?_
        refine zG X469 hx 343 (hb hby at_338) rfl ?_
        exact kz
      · rw [show (midK (k8 p5)) = (100 : Int32) from (by unfold midK; rw [if_neg h5, if_neg h3])] at kz
        refine zM X469 hx 331 (hb hby at_323) (feq (neN (m := 5) h5 (by have := k8_lt p5; omega) (by decide))).2 rfl ?_
        refine zl X469 hx (hb hby at_331) rfl ?_
        refine zC X469 hx (hb hby at_333) ?_
        refine zM X469 hx 341 (hb hby at_334) (tlt ((ltN (i := 3) (by decide) (by have := k8_lt p5; omega)).mpr (by omega))).2.2.1 rfl ?_
        refine zB X469 hx (hb hby at_341) ?_
        exact kz
  obtain ⟨_, _, ⟨T471, L471, k471, n471⟩, -, X471, ⟨Lc471, hQ471, l471, y471, z471⟩, st471⟩ := Jvm.LawKit.callS X469 hx (y := (⟨"com/example/killdeer/killdeer/EndingStatementsOfPinLaw", "push", "([II)V"⟩ : MethodName)) hown462 (mvT hZ462 (hwi hw 195 rfl)) (mvT hZ462 (hwi hw 196 rfl)) (mvT hZ462 (hwi hw 3 rfl)) (mvT hZ462 (hwi hw 197 rfl)) (by decide) (backOf (W := 0) (rmPS l Z a0 hw [] b450 _ (midK (k8 p5)) T469.heap n0 Z469 (Nat.lt_of_le_of_lt hb469 (by decide)) g_b450 A469) hZ462 (hwi hw 197 rfl) (hwi hw 3 rfl) (by decide) (by decide)) (g := (mkF m 349 #[vI p1, vI p2, vI p3, vI p4, vI p5, vI p6, vR b419, vI (iN (k8 p5)), vR o429, vI (scV p5), vR b450, vR b455, vR (plc bf la no (LEo p1 p2 p3 p4 (k8 p5) (scV p5)) (EBo p1 p2 p3 p4 (k8 p5) (scV p5))), vI (ptV (k8 p5) (scV p5)), vI (midK (k8 p5)), .unset, .unset, .unset] [(.int (midK (k8 p5))), (.ref b450)])) rfl (by rw [hml]; rfl) (argsL := [(.ref b450), (.int (midK (k8 p5)))]) (rest := []) (lenOf pd_27 rfl) rfl (by show 2 * 0 + _ ≤ _; exact Nat.le_of_eq rfl) (hb hby at_349) (fun _ _ => ⟨rfl, rfl, (by decide : 100 + 0 ≤ _), (by decide : 4500 + 0 ≤ _)⟩)
  dsimp only [Pt.U, Pt.locs, Pt.cells, Pt.slots] at X471 l471 y471 z471 st471 hQ471
  obtain rfl : k471 = 100 := y471; obtain rfl : n471 = 4500 := z471
  obtain ⟨rfl, N471q, K471, A471⟩ := hQ471
  have N471 : Fr n0 L471 := by rw [l471]; exact Fr.app N469 N471q
  have BF459_e471 := BF459_e469.keep K471 (notin1 (Ne.symm ne_b450_b455))
  have KK471 := KK469.trans K471 (fun x r => by cases List.mem_singleton.mp r; exact (Or.inr sz_b450))
  have Z471 := Nat.le_trans Z469 K471.1
  have O471 := O469.keep K471 (all1 g_b450)
  have hk471 := Nat.le_trans hk469 K471.1
  have hb471 : (psh (psh (psh (psh S00 (cdK (k16 p1))) (cdK (k16 p2))) (cdK (k16 p3))) (midK (k8 p5))).1 ≤ 4 := pshB hb469
  have CR471 := CR469.trans (CHr.keep K471 (safe1 (AF.safe hZ462.alike A469 (by decide))) CR469.1)
  have pq472 : ∀ zz, Steps p.tables e below (T471.setTop (mkF m 352 #[vI p1, vI p2, vI p3, vI p4, vI p5, vI p6, vR b419, vI (iN (k8 p5)), vR o429, vI (scV p5), vR b450, vR b455, vR (plc bf la no (LEo p1 p2 p3 p4 (k8 p5) (scV p5)) (EBo p1 p2 p3 p4 (k8 p5) (scV p5))), vI (ptV (k8 p5) (scV p5)), vI (midK (k8 p5)), .unset, .unset, .unset] [])) zz → Steps p.tables e below (s₁.setTop (entryFrame m #[(.int p1), (.int p2), (.int p3), (.int p4), (.int p5), (.int p6)] maxLocals)) zz := by
    intro zz kz_
    refine pre0 zz ?_
    refine zB X0 hx (hb hby at_0) ?_
    refine st419 _ ?_
    refine XS.astore X419.here hx rfl (hb hby at_4) rfl rfl (l' := #[vI p1, vI p2, vI p3, vI p4, vI p5, vI p6, vR b419, .unset, .unset, .unset, .unset, .unset, .unset, .unset, .unset, .unset, .unset, .unset]) rfl ?_
    refine XS.aload X419.here hx rfl (hb hby at_6) rfl rfl ?_
    refine zC X419 hx (hb hby at_8) ?_
    refine zL X419 hx (hb hby at_9) rfl ?_
    refine st420.trans ?_
    refine XS.aload X420.here hx rfl (hb hby at_13) rfl rfl ?_
    refine zB X420 hx (hb hby at_15) ?_
    refine zl X420 hx (hb hby at_17) rfl ?_
    refine st421 _ ?_
    refine st422 _ ?_
    refine XS.aload X422.here hx rfl (hb hby at_23) rfl rfl ?_
    refine zB X422 hx (hb hby at_25) ?_
    refine zL X422 hx (hb hby at_27) rfl ?_
    refine st423.trans ?_
    refine XS.aload X423.here hx rfl (hb hby at_31) rfl rfl ?_
    refine zB X423 hx (hb hby at_33) ?_
    refine zl X423 hx (hb hby at_35) rfl ?_
    refine zC X423 hx (hb hby at_37) ?_
    refine XS.iushr X423.here hx rfl (hb hby at_38) rfl ?_
    refine st424 _ ?_
    refine st425 _ ?_
    refine XS.aload X425.here hx rfl (hb hby at_43) rfl rfl ?_
    refine zB X425 hx (hb hby at_45) ?_
    refine zL X425 hx (hb hby at_47) rfl ?_
    refine st426.trans ?_
    refine XS.aload X426.here hx rfl (hb hby at_51) rfl rfl ?_
    refine zB X426 hx (hb hby at_53) ?_
    refine zl X426 hx (hb hby at_55) rfl ?_
    refine zB X426 hx (hb hby at_57) ?_
    refine XS.iushr X426.here hx rfl (hb hby at_59) rfl ?_
    refine st427 _ ?_
    refine st428 _ ?_
    refine zl X428 hx (hb hby at_64) rfl ?_
    refine zB X428 hx (hb hby at_66) ?_
    refine XS.iand X428.here hx rfl (hb hby at_68) rfl ?_
    show Steps p.tables e below (T428.setTop (mkF m 69 #[vI p1, vI p2, vI p3, vI p4, vI p5, vI p6, vR b419, .unset, .unset, .unset, .unset, .unset, .unset, .unset, .unset, .unset, .unset, .unset] [(.int (p5 &&& (7 : Int32)))])) _
    rw [show (p5 &&& (7 : Int32)) = (iN (k8 p5)) from k8_eq p5]
    refine zs X428 hx (hb hby at_69) rfl ?_
    refine zl X428 hx (hb hby at_71) rfl ?_
    refine st429.trans ?_
    refine XS.astore X429.here hx rfl (hb hby at_76) rfl rfl (l' := #[vI p1, vI p2, vI p3, vI p4, vI p5, vI p6, vR b419, vI (iN (k8 p5)), vR o429, .unset, .unset, .unset, .unset, .unset, .unset, .unset, .unset, .unset]) rfl ?_
    refine XS.aload X429.here hx rfl (hb hby at_78) rfl rfl ?_
    refine zB X429 hx (hb hby at_80) ?_
    refine XS.aload X429.here hx rfl (hb hby at_82) rfl rfl ?_
    refine zC X429 hx (hb hby at_84) ?_
    refine st430 _ ?_
    refine st431 _ ?_
    refine XS.aload X431.here hx rfl (hb hby at_89) rfl rfl ?_
    refine zB X431 hx (hb hby at_91) ?_
    refine XS.aload X431.here hx rfl (hb hby at_93) rfl rfl ?_
    refine zC X431 hx (hb hby at_95) ?_
    refine st432 _ ?_
    refine st433 _ ?_
    refine XS.aload X433.here hx rfl (hb hby at_100) rfl rfl ?_
    refine zB X433 hx (hb hby at_102) ?_
    refine XS.aload X433.here hx rfl (hb hby at_104) rfl rfl ?_
    refine zC X433 hx (hb hby at_106) ?_
    refine st434 _ ?_
    refine st435 _ ?_
    refine XS.aload X435.here hx rfl (hb hby at_111) rfl rfl ?_
    refine zB X435 hx (hb hby at_113) ?_
    refine XS.aload X435.here hx rfl (hb hby at_115) rfl rfl ?_
    refine zC X435 hx (hb hby at_117) ?_
    refine st436 _ ?_
    refine st437 _ ?_
    refine XS.aload X437.here hx rfl (hb hby at_122) rfl rfl ?_
    refine zB X437 hx (hb hby at_124) ?_
    refine XS.aload X437.here hx rfl (hb hby at_126) rfl rfl ?_
    refine zC X437 hx (hb hby at_128) ?_
    refine st438 _ ?_
    refine st439 _ ?_
    refine XS.aload X439.here hx rfl (hb hby at_133) rfl rfl ?_
    refine zB X439 hx (hb hby at_135) ?_
    refine XS.aload X439.here hx rfl (hb hby at_137) rfl rfl ?_
    refine zC X439 hx (hb hby at_139) ?_
    refine st440 _ ?_
    refine st441 _ ?_
    refine XS.aload X441.here hx rfl (hb hby at_144) rfl rfl ?_
    refine zB X441 hx (hb hby at_146) ?_
    refine XS.aload X441.here hx rfl (hb hby at_148) rfl rfl ?_
    refine zB X441 hx (hb hby at_150) ?_
    refine st442 _ ?_
    refine st443 _ ?_
    refine XS.aload X443.here hx rfl (hb hby at_156) rfl rfl ?_
    refine zB X443 hx (hb hby at_158) ?_
    refine zl X443 hx (hb hby at_160) rfl ?_
    refine zB X443 hx (hb hby at_162) ?_
    refine XS.iushr X443.here hx rfl (hb hby at_164) rfl ?_
    refine st444 _ ?_
    refine st445 _ ?_
    refine XS.aload X445.here hx rfl (hb hby at_169) rfl rfl ?_
    refine zB X445 hx (hb hby at_171) ?_
    refine zL X445 hx (hb hby at_173) rfl ?_
    refine st446.trans ?_
    refine XS.aload X446.here hx rfl (hb hby at_177) rfl rfl ?_
    refine zB X446 hx (hb hby at_179) ?_
    refine zl X446 hx (hb hby at_181) rfl ?_
    show Steps p.tables e below (T446.setTop (mkF m 183 #[vI p1, vI p2, vI p3, vI p4, vI p5, vI p6, vR b419, vI (iN (k8 p5)), vR o429, .unset, .unset, .unset, .unset, .unset, .unset, .unset, .unset, .unset] [(.int p5), (.int 55), (.ref b419)])) _
    refine zB X446 hx (hb hby at_183) ?_
    refine XS.iand X446.here hx rfl (hb hby at_185) rfl ?_
    refine dm447 _ ?_
    refine st448 _ ?_
    refine zl X448 hx (hb hby at_197) rfl ?_
    refine zB X448 hx (hb hby at_199) ?_
    refine XS.iand X448.here hx rfl (hb hby at_201) rfl ?_
    refine dm449 _ ?_
    refine zs X448 hx (hb hby at_210) rfl ?_
    refine zC X448 hx (hb hby at_212) ?_
    refine st450 _ ?_
    refine zD X450 hx (hb hby at_215) ?_
    refine zC X450 hx (hb hby at_216) ?_
    refine zC X450 hx (hb hby at_217) ?_
    refine st451 _ ?_
    refine zD X451 hx (hb hby at_219) ?_
    refine zC X451 hx (hb hby at_220) ?_
    refine zC X451 hx (hb hby at_221) ?_
    refine st452 _ ?_
    refine zD X452 hx (hb hby at_223) ?_
    refine zC X452 hx (hb hby at_224) ?_
    refine zC X452 hx (hb hby at_225) ?_
    refine st453 _ ?_
    refine zD X453 hx (hb hby at_227) ?_
    refine zC X453 hx (hb hby at_228) ?_
    refine zC X453 hx (hb hby at_229) ?_
    refine st454 _ ?_
    refine XS.astore X454.here hx rfl (hb hby at_231) rfl rfl (l' := #[vI p1, vI p2, vI p3, vI p4, vI p5, vI p6, vR b419, vI (iN (k8 p5)), vR o429, vI (scV p5), vR b450, .unset, .unset, .unset, .unset, .unset, .unset, .unset]) rfl ?_
    refine zC X454 hx (hb hby at_233) ?_
    refine st455 _ ?_
    refine zD X455 hx (hb hby at_236) ?_
    refine zC X455 hx (hb hby at_237) ?_
    refine zC X455 hx (hb hby at_238) ?_
    refine st456 _ ?_
    refine zD X456 hx (hb hby at_240) ?_
    refine zC X456 hx (hb hby at_241) ?_
    refine zC X456 hx (hb hby at_242) ?_
    refine st457 _ ?_
    refine zD X457 hx (hb hby at_244) ?_
    refine zC X457 hx (hb hby at_245) ?_
    refine zC X457 hx (hb hby at_246) ?_
    refine st458 _ ?_
    refine zD X458 hx (hb hby at_248) ?_
    refine zC X458 hx (hb hby at_249) ?_
    refine zC X458 hx (hb hby at_250) ?_
    refine st459 _ ?_
    refine XS.astore X459.here hx rfl (hb hby at_252) rfl rfl (l' := #[vI p1, vI p2, vI p3, vI p4, vI p5, vI p6, vR b419, vI (iN (k8 p5)), vR o429, vI (scV p5), vR b450, vR b455, .unset, .unset, .unset, .unset, .unset, .unset]) rfl ?_
    refine st460 _ ?_
    refine zD X460 hx (hb hby at_257) ?_
    refine XS.aload X460.here hx rfl (hb hby at_258) rfl rfl ?_
    refine st461.trans ?_
    refine zl X461 hx (hb hby at_263) rfl ?_
    refine st462.trans ?_
    refine XS.astore X462.here hx rfl (hb hby at_268) rfl rfl (l' := #[vI p1, vI p2, vI p3, vI p4, vI p5, vI p6, vR b419, vI (iN (k8 p5)), vR o429, vI (scV p5), vR b450, vR b455, vR (plc bf la no (LEo p1 p2 p3 p4 (k8 p5) (scV p5)) (EBo p1 p2 p3 p4 (k8 p5) (scV p5))), .unset, .unset, .unset, .unset, .unset]) rfl ?_
    refine zl X462 hx (hb hby at_270) rfl ?_
    refine dm463 _ ?_
    refine zs X462 hx (hb hby at_291) rfl ?_
    refine XS.aload X462.here hx rfl (hb hby at_293) rfl rfl ?_
    refine zL X462 hx (hb hby at_295) rfl ?_
    refine st464 _ ?_
    show Steps p.tables e below (T464.setTop (mkF m 299 #[vI p1, vI p2, vI p3, vI p4, vI p5, vI p6, vR b419, vI (iN (k8 p5)), vR o429, vI (scV p5), vR b450, vR b455, vR (plc bf la no (LEo p1 p2 p3 p4 (k8 p5) (scV p5)) (EBo p1 p2 p3 p4 (k8 p5) (scV p5))), vI (ptV (k8 p5) (scV p5)), .unset, .unset, .unset, .unset] [(.int (f_co p1)), (.ref b450)])) _
    rw [show (f_co p1) = (cdK (k16 p1)) from co_eq _]
    refine st465 _ ?_
    refine XS.aload X465.here hx rfl (hb hby at_302) rfl rfl ?_
    refine zL X465 hx (hb hby at_304) rfl ?_
    refine st466 _ ?_
    show Steps p.tables e below (T466.setTop (mkF m 308 #[vI p1, vI p2, vI p3, vI p4, vI p5, vI p6, vR b419, vI (iN (k8 p5)), vR o429, vI (scV p5), vR b450, vR b455, vR (plc bf la no (LEo p1 p2 p3 p4 (k8 p5) (scV p5)) (EBo p1 p2 p3 p4 (k8 p5) (scV p5))), vI (ptV (k8 p5) (scV p5)), .unset, .unset, .unset, .unset] [(.int (f_co p2)), (.ref b450)])) _
    rw [show (f_co p2) = (cdK (k16 p2)) from co_eq _]
    refine st467 _ ?_
    refine XS.aload X467.here hx rfl (hb hby at_311) rfl rfl ?_
    refine zL X467 hx (hb hby at_313) rfl ?_
    refine st468 _ ?_
    show Steps p.tables e below (T468.setTop (mkF m 317 #[vI p1, vI p2, vI p3, vI p4, vI p5, vI p6, vR b419, vI (iN (k8 p5)), vR o429, vI (scV p5), vR b450, vR b455, vR (plc bf la no (LEo p1 p2 p3 p4 (k8 p5) (scV p5)) (EBo p1 p2 p3 p4 (k8 p5) (scV p5))), vI (ptV (k8 p5) (scV p5)), .unset, .unset, .unset, .unset] [(.int (f_co p3)), (.ref b450)])) _
    rw [show (f_co p3) = (cdK (k16 p3)) from co_eq _]
    refine st469 _ ?_
    refine zl X469 hx (hb hby at_320) rfl ?_
    refine zC X469 hx (hb hby at_322) ?_
    refine dm470 _ ?_
    refine zs X469 hx (hb hby at_343) rfl ?_
    refine XS.aload X469.here hx rfl (hb hby at_345) rfl rfl ?_
    refine zl X469 hx (hb hby at_347) rfl ?_
    refine st471 _ ?_
    exact kz_
  by_cases hp : prt (k8 p5) (scV p5) = true
  · by_cases h4 : (k8 p5) = 4
    · obtain ⟨_, _, ⟨T473, L473, k473, n473⟩, -, X473, ⟨Lc473, hQ473, l473, y473, z473⟩, st473⟩ := Jvm.LawKit.callS X471 hx (y := (⟨"com/example/killdeer/killdeer/EndingStatementsOfPinLaw", "push", "([II)V"⟩ : MethodName)) hown462 (mvT hZ462 (hwi hw 195 rfl)) (mvT hZ462 (hwi hw 196 rfl)) (mvT hZ462 (hwi hw 3 rfl)) (mvT hZ462 (hwi hw 197 rfl)) (by decide) (backOf (W := 0) (rmPS l Z a0 hw [] b455 _ (101 : Int32) T471.heap n0 Z471 (Nat.lt_of_le_of_lt (Nat.le_refl 0 : S00.1 ≤ 0) (by decide)) g_b455 BF459_e471) hZ462 (hwi hw 197 rfl) (hwi hw 3 rfl) (by decide) (by decide)) (g := (mkF m 367 #[vI p1, vI p2, vI p3, vI p4, vI p5, vI p6, vR b419, vI (iN (k8 p5)), vR o429, vI (scV p5), vR b450, vR b455, vR (plc bf la no (LEo p1 p2 p3 p4 (k8 p5) (scV p5)) (EBo p1 p2 p3 p4 (k8 p5) (scV p5))), vI (ptV (k8 p5) (scV p5)), vI (midK (k8 p5)), .unset, .unset, .unset] [(.int 101), (.ref b455)])) rfl (by rw [hml]; rfl) (argsL := [(.ref b455), (.int 101)]) (rest := []) (lenOf pd_27 rfl) rfl (by show 2 * 0 + _ ≤ _; exact Nat.le_of_eq rfl) (hb hby at_367) (fun _ _ => ⟨rfl, rfl, (by decide : 100 + 0 ≤ _), (by decide : 4500 + 0 ≤ _)⟩)
      dsimp only [Pt.U, Pt.locs, Pt.cells, Pt.slots] at X473 l473 y473 z473 st473 hQ473
      obtain rfl : k473 = 100 := y473; obtain rfl : n473 = 4500 := z473
      obtain ⟨rfl, N473q, K473, A473⟩ := hQ473
      have N473 : Fr n0 L473 := by rw [l473]; exact Fr.app N471 N473q
      have A471_e473 := A471.keep K473 (notin1 ne_b450_b455)
      have KK473 := KK471.trans K473 (fun x r => by cases List.mem_singleton.mp r; exact (Or.inr sz_b455))
      have Z473 := Nat.le_trans Z471 K473.1
      have O473 := O471.keep K473 (all1 g_b455)
      have hk473 := Nat.le_trans hk471 K473.1
      have hb473 : (psh S00 (101 : Int32)).1 ≤ 1 := pshB (Nat.le_refl 0 : S00.1 ≤ 0)
      have CR473 := CR471.trans (CHr.keep K473 (safe1 (AF.safe hZ462.alike BF459_e471 (by decide))) CR471.1)
      obtain ⟨_, _, ⟨T474, L474, k474, n474⟩, -, X474, ⟨Lc474, hQ474, l474, y474, z474⟩, st474⟩ := Jvm.LawKit.callS X473 hx (y := (⟨"com/example/killdeer/killdeer/EndingStatementsOfPinLaw", "push", "([II)V"⟩ : MethodName)) hown462 (mvT hZ462 (hwi hw 195 rfl)) (mvT hZ462 (hwi hw 196 rfl)) (mvT hZ462 (hwi hw 3 rfl)) (mvT hZ462 (hwi hw 197 rfl)) (by decide) (backOf (W := 0) (rmPS l Z a0 hw [] b455 _ (100 : Int32) T473.heap n0 Z473 (Nat.lt_of_le_of_lt hb473 (by decide)) g_b455 A473) hZ462 (hwi hw 197 rfl) (hwi hw 3 rfl) (by decide) (by decide)) (g := (mkF m 374 #[vI p1, vI p2, vI p3, vI p4, vI p5, vI p6, vR b419, vI (iN (k8 p5)), vR o429, vI (scV p5), vR b450, vR b455, vR (plc bf la no (LEo p1 p2 p3 p4 (k8 p5) (scV p5)) (EBo p1 p2 p3 p4 (k8 p5) (scV p5))), vI (ptV (k8 p5) (scV p5)), vI (midK (k8 p5)), .unset, .unset, .unset] [(.int 100), (.ref b455)])) rfl (by rw [hml]; rfl) (argsL := [(.ref b455), (.int 100)]) (rest := []) (lenOf pd_27 rfl) rfl (by show 2 * 0 + _ ≤ _; exact Nat.le_of_eq rfl) (hb hby at_374) (fun _ _ => ⟨rfl, rfl, (by decide : 100 + 0 ≤ _), (by decide : 4500 + 0 ≤ _)⟩)
      dsimp only [Pt.U, Pt.locs, Pt.cells, Pt.slots] at X474 l474 y474 z474 st474 hQ474
      obtain rfl : k474 = 100 := y474; obtain rfl : n474 = 4500 := z474
      obtain ⟨rfl, N474q, K474, A474⟩ := hQ474
      have N474 : Fr n0 L474 := by rw [l474]; exact Fr.app N473 N474q
      have A471_e474 := A471_e473.keep K474 (notin1 ne_b450_b455)
      have KK474 := KK473.trans K474 (fun x r => by cases List.mem_singleton.mp r; exact (Or.inr sz_b455))
      have Z474 := Nat.le_trans Z473 K474.1
      have O474 := O473.keep K474 (all1 g_b455)
      have hk474 := Nat.le_trans hk473 K474.1
      have hb474 : (psh (psh S00 (101 : Int32)) (100 : Int32)).1 ≤ 2 := pshB hb473
      have CR474 := CR473.trans (CHr.keep K474 (safe1 (AF.safe hZ462.alike A473 (by decide))) CR473.1)
      obtain ⟨T475, L475, X475, e475, N475, st475⟩ := zT X474 hx hZ462 hown462 rfl N474 (hwi hw 192 rfl) (hwi hw 193 rfl) (hwi hw 3 rfl) (hwi hw 194 rfl) (rm_co l Z a0 hw [] p4 T474.heap n0 Z474 ) 380 #[vI p1, vI p2, vI p3, vI p4, vI p5, vI p6, vR b419, vI (iN (k8 p5)), vR o429, vI (scV p5), vR b450, vR b455, vR (plc bf la no (LEo p1 p2 p3 p4 (k8 p5) (scV p5)) (EBo p1 p2 p3 p4 (k8 p5) (scV p5))), vI (ptV (k8 p5) (scV p5)), vI (midK (k8 p5)), .unset, .unset, .unset] [(.int p4), (.ref b455)] hml pd_26 (hb hby at_380) 1
      obtain ⟨_, _, ⟨T476, L476, k476, n476⟩, -, X476, ⟨Lc476, hQ476, l476, y476, z476⟩, st476⟩ := Jvm.LawKit.callS X475 hx (y := (⟨"com/example/killdeer/killdeer/EndingStatementsOfPinLaw", "push", "([II)V"⟩ : MethodName)) hown462 (mvT hZ462 (hwi hw 195 rfl)) (mvT hZ462 (hwi hw 196 rfl)) (mvT hZ462 (hwi hw 3 rfl)) (mvT hZ462 (hwi hw 197 rfl)) (by decide) (backOf (W := 0) (rmPS l Z a0 hw [] b455 _ (cdK (k16 p4)) T474.heap n0 Z474 (Nat.lt_of_le_of_lt hb474 (by decide)) g_b455 A474) hZ462 (hwi hw 197 rfl) (hwi hw 3 rfl) (by decide) (by decide)) (g := (mkF m 383 #[vI p1, vI p2, vI p3, vI p4, vI p5, vI p6, vR b419, vI (iN (k8 p5)), vR o429, vI (scV p5), vR b450, vR b455, vR (plc bf la no (LEo p1 p2 p3 p4 (k8 p5) (scV p5)) (EBo p1 p2 p3 p4 (k8 p5) (scV p5))), vI (ptV (k8 p5) (scV p5)), vI (midK (k8 p5)), .unset, .unset, .unset] [(.int (cdK (k16 p4))), (.ref b455)])) rfl (by rw [hml]; rfl) (argsL := [(.ref b455), (.int (cdK (k16 p4)))]) (rest := []) (lenOf pd_27 rfl) rfl (by show 2 * 0 + _ ≤ _; exact Nat.le_of_eq rfl) (hb hby at_383) (fun _ _ => ⟨rfl, e475, (by decide : 100 + 0 ≤ _), (by decide : 4500 + 0 ≤ _)⟩)
      dsimp only [Pt.U, Pt.locs, Pt.cells, Pt.slots] at X476 l476 y476 z476 st476 hQ476
      obtain rfl : k476 = 100 := y476; obtain rfl : n476 = 4500 := z476
      obtain ⟨rfl, N476q, K476, A476⟩ := hQ476
      have N476 : Fr n0 L476 := by rw [l476]; exact Fr.app N475 N476q
      have A471_e476 := A471_e474.keep K476 (notin1 ne_b450_b455)
      have KK476 := KK474.trans K476 (fun x r => by cases List.mem_singleton.mp r; exact (Or.inr sz_b455))
      have Z476 := Nat.le_trans Z474 K476.1
      have O476 := O474.keep K476 (all1 g_b455)
      have hk476 := Nat.le_trans hk474 K476.1
      have hb476 : (psh (psh (psh S00 (101 : Int32)) (100 : Int32)) (cdK (k16 p4))).1 ≤ 3 := pshB hb474
      have CR476 := CR474.trans (CHr.keep K476 (safe1 (AF.safe hZ462.alike A474 (by decide))) CR474.1)
      have sO : stO p1 p2 p3 p4 (k8 p5) (scV p5) = (psh (psh (psh (psh S00 (cdK (k16 p1))) (cdK (k16 p2))) (cdK (k16 p3))) (midK (k8 p5))) := by unfold stO; rw [if_pos hp]; rfl
      have sT : stT p4 (k8 p5) (scV p5) = (psh (psh (psh S00 (101 : Int32)) (100 : Int32)) (cdK (k16 p4))) := by unfold stT two0; rw [if_pos hp, if_pos h4]
      have hgot : (plc bf la no (LEo p1 p2 p3 p4 (k8 p5) (scV p5)) (EBo p1 p2 p3 p4 (k8 p5) (scV p5))) = wantP bf la no (psh (psh (psh (psh S00 (cdK (k16 p1))) (cdK (k16 p2))) (cdK (k16 p3))) (midK (k8 p5))) (psh (psh (psh S00 (101 : Int32)) (100 : Int32)) (cdK (k16 p4))) := by rw [← sO, ← sT]; exact plc_want stT0
      obtain ⟨T477, L477, F477, X477, e477, N477, st477⟩ := lw398 _ _ _ _ _ _ _ _ _ _ _ _ b450 b455 _ bf la no _ _ X476 hx hZ462 hw hby hml hown462 rfl N476 Z476 O476 hbf hla hno A471_e476 A476 (Nat.lt_of_le_of_lt hb471 (by decide)) (Nat.lt_of_le_of_lt hb476 (by decide)) hgot (by decide) (by decide)
      obtain ⟨fs, hr, hrun, hended, -, hWW, hBB, hSS⟩ := Stand.leaveW (s := s) (vm₁ := T462.vm) X477 hS462 (by rw [e477]; exact hk476) (v := some (.int 1)) (fun h => by rw [Bd.returns] at h; cases h)
      refine ⟨_, _, pq472 _ ?_, hrun, hended, _, _, rfl, ?_, ⟨_, rfl⟩, hWW, hBB, hSS.mono (by decide) (by decide)⟩
      · show Steps p.tables e below (T471.setTop (mkF m 352 #[vI p1, vI p2, vI p3, vI p4, vI p5, vI p6, vR b419, vI (iN (k8 p5)), vR o429, vI (scV p5), vR b450, vR b455, vR (plc bf la no (LEo p1 p2 p3 p4 (k8 p5) (scV p5)) (EBo p1 p2 p3 p4 (k8 p5) (scV p5))), vI (ptV (k8 p5) (scV p5)), vI (midK (k8 p5)), .unset, .unset, .unset] [])) _
        refine zl X471 hx (hb hby at_352) rfl ?_
        refine zJ X471 hx (hb hby at_354) ((if0 _ _).trans (feq (by unfold ptV; rw [if_pos hp]; decide)).1) ?_
        refine zl X471 hx (hb hby at_357) rfl ?_
        refine zC X471 hx (hb hby at_359) ?_
        refine zN X471 hx (hb hby at_360) (teq (congrArg Int32.ofNat h4)).2 ?_
        refine XS.aload X471.here hx rfl (hb hby at_363) rfl rfl ?_
        refine zB X471 hx (hb hby at_365) ?_
        refine st473 _ ?_
        refine XS.aload X473.here hx rfl (hb hby at_370) rfl rfl ?_
        refine zB X473 hx (hb hby at_372) ?_
        refine st474 _ ?_
        refine XS.aload X474.here hx rfl (hb hby at_377) rfl rfl ?_
        refine zL X474 hx (hb hby at_379) rfl ?_
        refine st475 _ ?_
        show Steps p.tables e below (T475.setTop (mkF m 383 #[vI p1, vI p2, vI p3, vI p4, vI p5, vI p6, vR b419, vI (iN (k8 p5)), vR o429, vI (scV p5), vR b450, vR b455, vR (plc bf la no (LEo p1 p2 p3 p4 (k8 p5) (scV p5)) (EBo p1 p2 p3 p4 (k8 p5) (scV p5))), vI (ptV (k8 p5) (scV p5)), vI (midK (k8 p5)), .unset, .unset, .unset] [(.int (f_co p4)), (.ref b455)])) _
        rw [show (f_co p4) = (cdK (k16 p4)) from co_eq _]
        refine st476 _ ?_
        refine zG X476 hx 398 (hb hby at_386) rfl ?_
        refine st477 _ ?_
        exact retN X477 hx (t := .boolean) Bd.returns (by simp) (hb hby at_530) hr
      · show Q0  h0 n0 _ T477.heap _
        exact ⟨rfl, N477⟩
    · obtain ⟨_, _, ⟨T473, L473, k473, n473⟩, -, X473, ⟨Lc473, hQ473, l473, y473, z473⟩, st473⟩ := Jvm.LawKit.callS X471 hx hown462 (mvT hZ462 (hwi hw 192 rfl)) (mvT hZ462 (hwi hw 193 rfl)) (mvT hZ462 (hwi hw 3 rfl)) (mvT hZ462 (hwi hw 194 rfl)) (by decide) (backOf (W := 1) (rm_co l Z a0 hw [] p4 T471.heap n0 Z471 ) hZ462 (hwi hw 194 rfl) (hwi hw 3 rfl) (by decide) (by decide)) (g := (mkF m 380 #[vI p1, vI p2, vI p3, vI p4, vI p5, vI p6, vR b419, vI (iN (k8 p5)), vR o429, vI (scV p5), vR b450, vR b455, vR (plc bf la no (LEo p1 p2 p3 p4 (k8 p5) (scV p5)) (EBo p1 p2 p3 p4 (k8 p5) (scV p5))), vI (ptV (k8 p5) (scV p5)), vI (midK (k8 p5)), .unset, .unset, .unset] [(.int p4), (.ref b455)])) rfl (by rw [hml]; rfl) (argsL := [(.int p4)]) (rest := [(.ref b455)]) (lenOf pd_26 rfl) rfl (by show 2 * 0 + _ ≤ _; exact Nat.le_of_eq rfl) (hb hby at_380) (fun _ _ => ⟨rfl, rfl, (by decide : 100 + 0 ≤ _), (by decide : 4500 + 0 ≤ _)⟩)
      dsimp only [Pt.U, Pt.locs, Pt.cells, Pt.slots] at X473 l473 y473 z473 st473 hQ473
      obtain rfl : k473 = 100 := y473; obtain rfl : n473 = 4500 := z473
      obtain ⟨rfl, N473q, e473⟩ := hQ473
      have N473 : Fr n0 L473 := by rw [l473]; exact Fr.app N471 N473q
      obtain ⟨_, _, ⟨T474, L474, k474, n474⟩, -, X474, ⟨Lc474, hQ474, l474, y474, z474⟩, st474⟩ := Jvm.LawKit.callS X473 hx (y := (⟨"com/example/killdeer/killdeer/EndingStatementsOfPinLaw", "push", "([II)V"⟩ : MethodName)) hown462 (mvT hZ462 (hwi hw 195 rfl)) (mvT hZ462 (hwi hw 196 rfl)) (mvT hZ462 (hwi hw 3 rfl)) (mvT hZ462 (hwi hw 197 rfl)) (by decide) (backOf (W := 0) (rmPS l Z a0 hw [] b455 _ (cdK (k16 p4)) T471.heap n0 Z471 (Nat.lt_of_le_of_lt (Nat.le_refl 0 : S00.1 ≤ 0) (by decide)) g_b455 BF459_e471) hZ462 (hwi hw 197 rfl) (hwi hw 3 rfl) (by decide) (by decide)) (g := (mkF m 383 #[vI p1, vI p2, vI p3, vI p4, vI p5, vI p6, vR b419, vI (iN (k8 p5)), vR o429, vI (scV p5), vR b450, vR b455, vR (plc bf la no (LEo p1 p2 p3 p4 (k8 p5) (scV p5)) (EBo p1 p2 p3 p4 (k8 p5) (scV p5))), vI (ptV (k8 p5) (scV p5)), vI (midK (k8 p5)), .unset, .unset, .unset] [(.int (cdK (k16 p4))), (.ref b455)])) rfl (by rw [hml]; rfl) (argsL := [(.ref b455), (.int (cdK (k16 p4)))]) (rest := []) (lenOf pd_27 rfl) rfl (by show 2 * 0 + _ ≤ _; exact Nat.le_of_eq rfl) (hb hby at_383) (fun _ _ => ⟨rfl, e473, (by decide : 100 + 0 ≤ _), (by decide : 4500 + 0 ≤ _)⟩)
      dsimp only [Pt.U, Pt.locs, Pt.cells, Pt.slots] at X474 l474 y474 z474 st474 hQ474
      obtain rfl : k474 = 100 := y474; obtain rfl : n474 = 4500 := z474
      obtain ⟨rfl, N474q, K474, A474⟩ := hQ474
      have N474 : Fr n0 L474 := by rw [l474]; exact Fr.app N473 N474q
      have A471_e474 := A471.keep K474 (notin1 ne_b450_b455)
      have KK474 := KK471.trans K474 (fun x r => by cases List.mem_singleton.mp r; exact (Or.inr sz_b455))
      have Z474 := Nat.le_trans Z471 K474.1
      have O474 := O471.keep K474 (all1 g_b455)
      have hk474 := Nat.le_trans hk471 K474.1
      have hb474 : (psh S00 (cdK (k16 p4))).1 ≤ 1 := pshB (Nat.le_refl 0 : S00.1 ≤ 0)
      have CR474 := CR471.trans (CHr.keep K474 (safe1 (AF.safe hZ462.alike BF459_e471 (by decide))) CR471.1)
      have sO : stO p1 p2 p3 p4 (k8 p5) (scV p5) = (psh (psh (psh (psh S00 (cdK (k16 p1))) (cdK (k16 p2))) (cdK (k16 p3))) (midK (k8 p5))) := by unfold stO; rw [if_pos hp]; rfl
      have sT : stT p4 (k8 p5) (scV p5) = (psh S00 (cdK (k16 p4))) := by unfold stT two0; rw [if_pos hp, if_neg h4]
      have hgot : (plc bf la no (LEo p1 p2 p3 p4 (k8 p5) (scV p5)) (EBo p1 p2 p3 p4 (k8 p5) (scV p5))) = wantP bf la no (psh (psh (psh (psh S00 (cdK (k16 p1))) (cdK (k16 p2))) (cdK (k16 p3))) (midK (k8 p5))) (psh S00 (cdK (k16 p4))) := by rw [← sO, ← sT]; exact plc_want stT0
      obtain ⟨T475, L475, F475, X475, e475, N475, st475⟩ := lw398 _ _ _ _ _ _ _ _ _ _ _ _ b450 b455 _ bf la no _ _ X474 hx hZ462 hw hby hml hown462 rfl N474 Z474 O474 hbf hla hno A471_e474 A474 (Nat.lt_of_le_of_lt hb471 (by decide)) (Nat.lt_of_le_of_lt hb474 (by decide)) hgot (by decide) (by decide)
      obtain ⟨fs, hr, hrun, hended, -, hWW, hBB, hSS⟩ := Stand.leaveW (s := s) (vm₁ := T462.vm) X475 hS462 (by rw [e475]; exact hk474) (v := some (.int 1)) (fun h => by rw [Bd.returns] at h; cases h)
      refine ⟨_, _, pq472 _ ?_, hrun, hended, _, _, rfl, ?_, ⟨_, rfl⟩, hWW, hBB, hSS.mono (by decide) (by decide)⟩
      · show Steps p.tables e below (T471.setTop (mkF m 352 #[vI p1, vI p2, vI p3, vI p4, vI p5, vI p6, vR b419, vI (iN (k8 p5)), vR o429, vI (scV p5), vR b450, vR b455, vR (plc bf la no (LEo p1 p2 p3 p4 (k8 p5) (scV p5)) (EBo p1 p2 p3 p4 (k8 p5) (scV p5))), vI (ptV (k8 p5) (scV p5)), vI (midK (k8 p5)), .unset, .unset, .unset] [])) _
        refine zl X471 hx (hb hby at_352) rfl ?_
        refine zJ X471 hx (hb hby at_354) ((if0 _ _).trans (feq (by unfold ptV; rw [if_pos hp]; decide)).1) ?_
        refine zl X471 hx (hb hby at_357) rfl ?_
        refine zC X471 hx (hb hby at_359) ?_
        refine zM X471 hx 377 (hb hby at_360) (feq (neN (m := 4) h4 (by have := k8_lt p5; omega) (by decide))).2 rfl ?_
        refine XS.aload X471.here hx rfl (hb hby at_377) rfl rfl ?_
        refine zL X471 hx (hb hby at_379) rfl ?_
        refine st473 _ ?_
        show Steps p.tables e below (T473.setTop (mkF m 383 #[vI p1, vI p2, vI p3, vI p4, vI p5, vI p6, vR b419, vI (iN (k8 p5)), vR o429, vI (scV p5), vR b450, vR b455, vR (plc bf la no (LEo p1 p2 p3 p4 (k8 p5) (scV p5)) (EBo p1 p2 p3 p4 (k8 p5) (scV p5))), vI (ptV (k8 p5) (scV p5)), vI (midK (k8 p5)), .unset, .unset, .unset] [(.int (f_co p4)), (.ref b455)])) _
        rw [show (f_co p4) = (cdK (k16 p4)) from co_eq _]
        refine st474 _ ?_
        refine zG X474 hx 398 (hb hby at_386) rfl ?_
        refine st475 _ ?_
        exact retN X475 hx (t := .boolean) Bd.returns (by simp) (hb hby at_530) hr
      · show Q0  h0 n0 _ T475.heap _
        exact ⟨rfl, N475⟩
  · obtain ⟨_, _, ⟨T473, L473, k473, n473⟩, -, X473, ⟨Lc473, hQ473, l473, y473, z473⟩, st473⟩ := Jvm.LawKit.callS X471 hx hown462 (mvT hZ462 (hwi hw 192 rfl)) (mvT hZ462 (hwi hw 193 rfl)) (mvT hZ462 (hwi hw 3 rfl)) (mvT hZ462 (hwi hw 194 rfl)) (by decide) (backOf (W := 1) (rm_co l Z a0 hw [] p4 T471.heap n0 Z471 ) hZ462 (hwi hw 194 rfl) (hwi hw 3 rfl) (by decide) (by decide)) (g := (mkF m 392 #[vI p1, vI p2, vI p3, vI p4, vI p5, vI p6, vR b419, vI (iN (k8 p5)), vR o429, vI (scV p5), vR b450, vR b455, vR (plc bf la no (LEo p1 p2 p3 p4 (k8 p5) (scV p5)) (EBo p1 p2 p3 p4 (k8 p5) (scV p5))), vI (ptV (k8 p5) (scV p5)), vI (midK (k8 p5)), .unset, .unset, .unset] [(.int p4), (.ref b450)])) rfl (by rw [hml]; rfl) (argsL := [(.int p4)]) (rest := [(.ref b450)]) (lenOf pd_26 rfl) rfl (by show 2 * 0 + _ ≤ _; exact Nat.le_of_eq rfl) (hb hby at_392) (fun _ _ => ⟨rfl, rfl, (by decide : 100 + 0 ≤ _), (by decide : 4500 + 0 ≤ _)⟩)
    dsimp only [Pt.U, Pt.locs, Pt.cells, Pt.slots] at X473 l473 y473 z473 st473 hQ473
    obtain rfl : k473 = 100 := y473; obtain rfl : n473 = 4500 := z473
    obtain ⟨rfl, N473q, e473⟩ := hQ473
    have N473 : Fr n0 L473 := by rw [l473]; exact Fr.app N471 N473q
    obtain ⟨_, _, ⟨T474, L474, k474, n474⟩, -, X474, ⟨Lc474, hQ474, l474, y474, z474⟩, st474⟩ := Jvm.LawKit.callS X473 hx (y := (⟨"com/example/killdeer/killdeer/EndingStatementsOfPinLaw", "push", "([II)V"⟩ : MethodName)) hown462 (mvT hZ462 (hwi hw 195 rfl)) (mvT hZ462 (hwi hw 196 rfl)) (mvT hZ462 (hwi hw 3 rfl)) (mvT hZ462 (hwi hw 197 rfl)) (by decide) (backOf (W := 0) (rmPS l Z a0 hw [] b450 _ (cdK (k16 p4)) T471.heap n0 Z471 (Nat.lt_of_le_of_lt hb471 (by decide)) g_b450 A471) hZ462 (hwi hw 197 rfl) (hwi hw 3 rfl) (by decide) (by decide)) (g := (mkF m 395 #[vI p1, vI p2, vI p3, vI p4, vI p5, vI p6, vR b419, vI (iN (k8 p5)), vR o429, vI (scV p5), vR b450, vR b455, vR (plc bf la no (LEo p1 p2 p3 p4 (k8 p5) (scV p5)) (EBo p1 p2 p3 p4 (k8 p5) (scV p5))), vI (ptV (k8 p5) (scV p5)), vI (midK (k8 p5)), .unset, .unset, .unset] [(.int (cdK (k16 p4))), (.ref b450)])) rfl (by rw [hml]; rfl) (argsL := [(.ref b450), (.int (cdK (k16 p4)))]) (rest := []) (lenOf pd_27 rfl) rfl (by show 2 * 0 + _ ≤ _; exact Nat.le_of_eq rfl) (hb hby at_395) (fun _ _ => ⟨rfl, e473, (by decide : 100 + 0 ≤ _), (by decide : 4500 + 0 ≤ _)⟩)
    dsimp only [Pt.U, Pt.locs, Pt.cells, Pt.slots] at X474 l474 y474 z474 st474 hQ474
    obtain rfl : k474 = 100 := y474; obtain rfl : n474 = 4500 := z474
    obtain ⟨rfl, N474q, K474, A474⟩ := hQ474
    have N474 : Fr n0 L474 := by rw [l474]; exact Fr.app N473 N474q
    have BF459_e474 := BF459_e471.keep K474 (notin1 (Ne.symm ne_b450_b455))
    have KK474 := KK471.trans K474 (fun x r => by cases List.mem_singleton.mp r; exact (Or.inr sz_b450))
    have Z474 := Nat.le_trans Z471 K474.1
    have O474 := O471.keep K474 (all1 g_b450)
    have hk474 := Nat.le_trans hk471 K474.1
    have hb474 : (psh (psh (psh (psh (psh S00 (cdK (k16 p1))) (cdK (k16 p2))) (cdK (k16 p3))) (midK (k8 p5))) (cdK (k16 p4))).1 ≤ 5 := pshB hb471
    have CR474 := CR471.trans (CHr.keep K474 (safe1 (AF.safe hZ462.alike A471 (by decide))) CR471.1)
    have sO : stO p1 p2 p3 p4 (k8 p5) (scV p5) = (psh (psh (psh (psh (psh S00 (cdK (k16 p1))) (cdK (k16 p2))) (cdK (k16 p3))) (midK (k8 p5))) (cdK (k16 p4))) := by unfold stO; rw [if_neg hp]; rfl
    have sT : stT p4 (k8 p5) (scV p5) = S00 := by unfold stT; rw [if_neg hp]
    have hgot : (plc bf la no (LEo p1 p2 p3 p4 (k8 p5) (scV p5)) (EBo p1 p2 p3 p4 (k8 p5) (scV p5))) = wantP bf la no (psh (psh (psh (psh (psh S00 (cdK (k16 p1))) (cdK (k16 p2))) (cdK (k16 p3))) (midK (k8 p5))) (cdK (k16 p4))) S00 := by rw [← sO, ← sT]; exact plc_want stT0
    obtain ⟨T475, L475, F475, X475, e475, N475, st475⟩ := lw398 _ _ _ _ _ _ _ _ _ _ _ _ b450 b455 _ bf la no _ _ X474 hx hZ462 hw hby hml hown462 rfl N474 Z474 O474 hbf hla hno A474 BF459_e474 (Nat.lt_of_le_of_lt hb474 (by decide)) (Nat.lt_of_le_of_lt (Nat.le_refl 0 : S00.1 ≤ 0) (by decide)) hgot (by decide) (by decide)
    obtain ⟨fs, hr, hrun, hended, -, hWW, hBB, hSS⟩ := Stand.leaveW (s := s) (vm₁ := T462.vm) X475 hS462 (by rw [e475]; exact hk474) (v := some (.int 1)) (fun h => by rw [Bd.returns] at h; cases h)
    refine ⟨_, _, pq472 _ ?_, hrun, hended, _, _, rfl, ?_, ⟨_, rfl⟩, hWW, hBB, hSS.mono (by decide) (by decide)⟩
    · show Steps p.tables e below (T471.setTop (mkF m 352 #[vI p1, vI p2, vI p3, vI p4, vI p5, vI p6, vR b419, vI (iN (k8 p5)), vR o429, vI (scV p5), vR b450, vR b455, vR (plc bf la no (LEo p1 p2 p3 p4 (k8 p5) (scV p5)) (EBo p1 p2 p3 p4 (k8 p5) (scV p5))), vI (ptV (k8 p5) (scV p5)), vI (midK (k8 p5)), .unset, .unset, .unset] [])) _
      refine zl X471 hx (hb hby at_352) rfl ?_
      refine zI X471 hx 389 (hb hby at_354) ((if0 _ _).trans (teq (by unfold ptV; rw [if_neg hp])).1) rfl ?_
      refine XS.aload X471.here hx rfl (hb hby at_389) rfl rfl ?_
      refine zL X471 hx (hb hby at_391) rfl ?_
      refine st473 _ ?_
      show Steps p.tables e below (T473.setTop (mkF m 395 #[vI p1, vI p2, vI p3, vI p4, vI p5, vI p6, vR b419, vI (iN (k8 p5)), vR o429, vI (scV p5), vR b450, vR b455, vR (plc bf la no (LEo p1 p2 p3 p4 (k8 p5) (scV p5)) (EBo p1 p2 p3 p4 (k8 p5) (scV p5))), vI (ptV (k8 p5) (scV p5)), vI (midK (k8 p5)), .unset, .unset, .unset] [(.int (f_co p4)), (.ref b450)])) _
      rw [show (f_co p4) = (cdK (k16 p4)) from co_eq _]
      refine st474 _ ?_
      refine st475 _ ?_
      exact retN X475 hx (t := .boolean) Bd.returns (by simp) (hb hby at_530) hr
    · show Q0  h0 n0 _ T475.heap _
      exact ⟨rfl, N475⟩
theorem eqI_v {args : Array Value} {first s : State} {o : Option Outcome} {idx : List Nat} {t : Term} {k : Int32} (h : (Cond.eq t (.int k)).value args first o s idx = some true) : t.eval args first o idx s = some (.int k) := by
  simp only [Cond.value, Term.eval] at h
  cases ht : t.eval args first o idx s with
  | none => simp [ht] at h
  | some x => cases x <;> simp [ht] at h ⊢; exact h
theorem comes_1 {Post : Tables → Env → Array Value → State → Outcome → State → Prop} (hpost : ∀ tb e args s v u, (limb_1_1.after args s (.returned v) u = true ∧ limb_1_2.after args s (.returned v) u = true ∧ True) → FramedW s (.returned v) u (Jvm.fieldLocs frame_1_writes args s ++ Jvm.arrayLocs frame_1_arrays args s ++ Jvm.staticLocs frame_1_statics s) 104 38400 → Post tb e args s (.returned v) u) :
    ArmFor flags0 classFile x code maxLocals ret World_1 tables_1 room_1 Calls_1 rest_1 Pre_1 Post := by
  intro l hfl _ _ p e ha hc hk s m args below hf hA hF happ hP
  obtain ⟨hcalls, hrest, hpre⟩ := hP
  obtain ⟨-, -, -, hnamed, -, -, -, hat⟩ := (Spec.applies_iff hf).mp happ
  obtain ⟨hg, hn⟩ := and_e (Cond.before_iff.mp (show (Jvm.Cond.and given_1 narrow_1).before args s = true from hpre))
  obtain ⟨hcount, hg0⟩ := and_e hg
  obtain ⟨ha0, hg1⟩ := and_e hg0
  obtain ⟨ha1, hg2⟩ := and_e hg1
  obtain ⟨ha2, hg3⟩ := and_e hg2
  obtain ⟨ha3, hg4⟩ := and_e hg3
  obtain ⟨ha4, hg5⟩ := and_e hg4
  have ha5 := hg5
  obtain ⟨w0, w1, w2, w3, w4, w5, rfl⟩ : ∃ w0 w1 w2 w3 w4 w5 : Value, args = #[w0, w1, w2, w3, w4, w5] := by
    have hs : args.size = 6 := by simpa [Cond.value, given_1] using hcount
    obtain ⟨L⟩ := args
    match L, hs with
    | [w0, w1, w2, w3, w4, w5], _ => exact ⟨w0, w1, w2, w3, w4, w5, rfl⟩
  have hw := fun d (hd : d ∈ tables_1) => atoms_spec (ws := Jvm.Cond.code x code maxLocals ret :: tables_1) hat d (List.mem_cons_of_mem _ hd)
  have hfit : Fit s := fun {y c} hc i hi => by
    obtain ⟨ha, rfl⟩ := Array.getElem?_eq_some_iff.mp hc
    have q := List.all_eq_true.mp ((Array.all_eq_true_iff_forall_mem.mp hF) _ (Array.getElem_mem ha)) i (List.mem_range.mpr hi)
    simpa [Array.getElem?_eq_getElem hi] using q
  obtain ⟨hsets, hown0⟩ := atoms_of _ (rest_1_c_eq ▸ (show rest_1_c.before _ s = true from hrest))
  obtain ⟨i0, ei0⟩ := is_v ha0
  obtain rfl : w0 = (.int i0) := Option.some.inj ei0
  obtain ⟨i1, ei1⟩ := is_v ha1
  obtain rfl : w1 = (.int i1) := Option.some.inj ei1
  obtain ⟨i2, ei2⟩ := is_v ha2
  obtain rfl : w2 = (.int i2) := Option.some.inj ei2
  obtain ⟨i3, ei3⟩ := is_v ha3
  obtain rfl : w3 = (.int i3) := Option.some.inj ei3
  obtain ⟨i4, ei4⟩ := is_v ha4
  obtain rfl : w4 = (.int i4) := Option.some.inj ei4
  obtain ⟨i5, ei5⟩ := is_v ha5
  obtain rfl : w5 = (.int i5) := Option.some.inj ei5
  obtain ⟨x0, r0⟩ := and_e hn
  obtain ⟨x1, r1⟩ := and_e r0
  obtain ⟨x2, r2⟩ := and_e r1
  obtain ⟨x3, r3⟩ := and_e r2
  obtain ⟨x4, r4⟩ := and_e r3
  obtain ⟨x5, r5⟩ := and_e r4
  obtain ⟨x6, r6⟩ := and_e r5
  obtain ⟨x7, r7⟩ := and_e r6
  have x8 := r7
  obtain ⟨wv, ev_wv⟩ := exa_v x0
  have st_wv := Sta.start ev_wv (Or.inr ⟨(hwi hw 148 rfl), (hwi hw 149 rfl)⟩)
  have Y_wv := Exa.start ev_wv x0
  have od_wv := (fld_at ev_wv).symm.trans (eqI_v x4)
  obtain ⟨bf, ev_bf⟩ := exa_v x1
  have st_bf := Sta.start ev_bf (Or.inr ⟨(hwi hw 190 rfl), (hwi hw 191 rfl)⟩)
  obtain ⟨ov, ev_ov⟩ := exa_v x2
  have st_ov := Sta.start ev_ov (Or.inr ⟨(hwi hw 148 rfl), (hwi hw 210 rfl)⟩)
  have Y_ov := Exa.start ev_ov x2
  have od_ov := (fld_at ev_ov).symm.trans (eqI_v x3)
  obtain ⟨no, ev_no⟩ := exa_v x5
  have st_no := Sta.start ev_no (Or.inr ⟨(hwi hw 190 rfl), (hwi hw 216 rfl)⟩)
  obtain ⟨xv, ev_xv⟩ := exa_v x6
  have st_xv := Sta.start ev_xv (Or.inr ⟨(hwi hw 148 rfl), (hwi hw 227 rfl)⟩)
  have Y_xv := Exa.start ev_xv x6
  have od_xv := (fld_at ev_xv).symm.trans (eqI_v x7)
  obtain ⟨la, ev_la⟩ := exa_v x8
  have st_la := Sta.start ev_la (Or.inr ⟨(hwi hw 190 rfl), (hwi hw 236 rfl)⟩)
  have hxw : ¬ (xv = wv) := fun q => by rw [q] at od_xv; exact absurd (od_xv.symm.trans od_wv) (by simp)
  have how : ¬ (ov = wv) := fun q => by rw [q] at od_ov; exact absurd (od_ov.symm.trans od_wv) (by simp)
  have hox : ¬ (ov = xv) := fun q => by rw [q] at od_ov; exact absurd (od_ov.symm.trans od_xv) (by simp)
  have n3 := not_v (Cond.before_iff.mp (hsets _ (List.mem_of_getElem? (i := 2) rfl)))
  obtain ⟨i7, e6⟩ := is_v (Cond.before_iff.mp (hsets _ (List.mem_of_getElem? (i := 1) rfl)))
  have S8 : Sta s s.heap "java/lang/String" "COMPACT_STRINGS" "Z" (.int i7) := Sta.start e6 (Or.inl (hsets _ (List.mem_of_getElem? (i := 0) rfl)))
  obtain ⟨v9, e10, r11⟩ := isR_v (Cond.before_iff.mp (hsets _ (List.mem_of_getElem? (i := 8) rfl)))
  have S12 : Sta s s.heap "jdk/internal/util/Preconditions" "SIOOBE_FORMATTER" "Ljava/util/function/BiFunction;" v9 := Sta.start e10 (Or.inl (hsets _ (List.mem_of_getElem? (i := 7) rfl)))
  have c13 : ¬ (i7 = (0 : Int32)) := gotF (Cond.eq_ints e6 (Term.int_eval (0))) n3
  have SK : StrSta s := ⟨⟨i7, c13, S8⟩, by cases v9 <;> first | exact Or.inl S12 | exact Or.inr ⟨_, S12⟩ | (simp [Value.isRef] at r11)⟩
  have hcw : Jvm.Lit.compactW.before #[] s = true := hsets _ (List.mem_of_getElem? (i := 2) rfl)
  have hEL : EW s #[] EL1 := (EW.cons (hwi hw 119 rfl) (by decide) (EW.cons (hwi hw 130 rfl) (by decide) (EW.cons (hwi hw 188 rfl) (by decide) (EW.cons (hwi hw 161 rfl) (by decide) (EW.cons (hwi hw 176 rfl) (by decide) (EW.cons (hwi hw 185 rfl) (by decide) (EW.cons (hwi hw 211 rfl) (by decide) (EW.cons (hwi hw 212 rfl) (by decide) (EW.cons (hwi hw 304 rfl) (by decide) (EW.cons (hwi hw 305 rfl) (by decide) (EW.cons (hwi hw 214 rfl) (by decide) (EW.cons (hwi hw 213 rfl) (by decide) (EW.cons (hwi hw 317 rfl) (by decide) (EW.cons (hwi hw 8 rfl) (by decide) (EW.cons (hwi hw 63 rfl) (by decide) (EW.cons (hwi hw 58 rfl) (by decide) (EW.cons (hwi hw 57 rfl) (by decide) (EW.cons (hwi hw 202 rfl) (by decide) (EW.cons (hwi hw 239 rfl) (by decide) (EW.cons (hwi hw 302 rfl) (by decide) (EW.cons (hwi hw 205 rfl) (by decide) (EW.cons (hwi hw 230 rfl) (by decide) (EW.cons (hwi hw 220 rfl) (by decide) (EW.cons (hwi hw 203 rfl) (by decide) (EW.cons (hwi hw 219 rfl) (by decide) (EW.cons (hwi hw 228 rfl) (by decide) (EW.cons (hwi hw 218 rfl) (by decide) (EW.cons (hwi hw 303 rfl) (by decide) (EW.cons (hwi hw 204 rfl) (by decide) (EW.cons (hwi hw 62 rfl) (by decide) (EW.cons (hwi hw 311 rfl) (by decide) (EW.cons (hwi hw 312 rfl) (by decide) (EW.cons (hwi hw 306 rfl) (by decide) (EW.cons (hwi hw 238 rfl) (by decide) (EW.cons (hwi hw 221 rfl) (by decide) (EW.cons (hwi hw 240 rfl) (by decide) (EW.cons (hwi hw 229 rfl) (by decide) EW.nil)))))))))))))))))))))))))))))))))))))
  have CH0 : CHv s EL1 s.vm s.heap := CHv.start hEL (fun p hp => hcalls.1 p hp) hcw (hwi hw 11 rfl) (hwi hw 10 rfl)
  obtain ⟨n, o, h1, h2, h3, _, L, rfl, ⟨rfl, N⟩, hq⟩ := rm0 l s _ hw tables_1 i0 i1 i2 i3 i4 i5 wv xv ov bf la no s.heap s.heap.size (Nat.le_refl _) (Old.start s) SK hEL st_wv Y_wv st_xv Y_xv st_ov Y_ov hxw how hox st_bf st_la st_no p e ha hc hk s m _ below hf ((Spec.applies_iff_loose hf).mp happ).1 ⟨rfl, State.Warmed39.refl s, rfl, CH0⟩ trivial
  refine ⟨n, _, h1, h2, h3, hpost _ _ _ _ _ _ ⟨Cond.after_iff.mpr rfl, Cond.after_iff.mpr (eq_i res_at (Term.int_eval (1)) rfl), trivial⟩ ⟨hq.1, hq.2.1, hq.2.2.1, (hq.2.2.2.sift fun y hy => Or.inr (N y hy)).mono (by decide) (by decide)⟩⟩
theorem main_1_1 : Claimed_1_1 := comes_1 fun _ _ _ _ _ _ h hF => ⟨h.1, hF⟩
theorem main_1_2 : Claimed_1_2 := comes_1 fun _ _ _ _ _ _ h hF => ⟨h.2.1, hF⟩
end Jvm.Pilot.@@N@@
namespace Jvm.Pilot.@@N@@
open Jvm Jvm.ClassFile Sem Op Lib Jvm.Free Jvm.Stand Jvm.Pilot.@@N@@.Jvm.D
/-! MADE BY PROGRAM (witnessworld.py) out of the Statement's table words and the real class files: 27 classes; the members and pool entries that the words name. The judged class is class 1, her method 1. -/
namespace start1
open Jvm.ClassFile
def u (s : String) : CpInfo := .utf8 (stringToUtf16 s)
/-- a pool by its gaps: so many unusable entries, then the entry; so many at the end -/
def gap : Nat → List CpInfo → List CpInfo
  | 0, r => r
  | n + 1, r => .unusable :: gap n r
def poolList (es : List (Nat × CpInfo)) (last : Nat) : List CpInfo := es.foldr (fun e r => gap e.1 (e.2 :: r)) (gap last [])
def pool (es : List (Nat × CpInfo)) (last : Nat) : Array CpInfo := ⟨poolList es last⟩
def fileOf (pool : Array CpInfo) (this : Nat) (attrs : Array Attribute := #[]) (ms : Array MethodInfo := #[]) (fl : Nat := 33) (sup : Nat := 0) (ifs : Array Nat := #[]) (fds : Array FieldInfo := #[]) : ClassFile where
  minorVersion := 0
  majorVersion := 65
  constantPool := pool
  accessFlags := fl
  thisClass := this
  superClass := sup
  interfaces := ifs
  fields := fds
  methods := ms
  attributes := attrs
def mI (a n d : Nat) : MethodInfo := { accessFlags := a, nameIndex := n, descriptorIndex := d, attributes := #[] }
def fI (a n d : Nat) : FieldInfo := { accessFlags := a, nameIndex := n, descriptorIndex := d, attributes := #[] }
def mC (s l : Nat) (c : ByteArray) : Code := { maxStack := s, maxLocals := l, code := c, exceptionTable := #[], attributes := #[] }
def mM (n d : String) (p : List FieldType) (r : Option FieldType) (a : Nat) (c : Option Code) : Method := { name := n, desc := d, sig := { parameters := p, returnType := r }, accessFlags := a, code := c }
def plain (name : String) (sup : Option ClassId) : Class where
  name := name
  kind := .ordinary
  loader := none
  accessFlags := 33
  super := sup
  interfaces := #[]
  cf := none
  fields := #[]
  methods := #[]
  instanceTypes := #[]
  staticTypes := #[]
  resolved := #[]
  callSites := []
  init := .initialized
  statics := none
  mirror := none

def pool0 : Array CpInfo := pool [(5, u "<init>"), (0, u "()V"), (1, .class_ 10), (1, u "java/lang/Object")] 113

def k0c0 : Code := mC 0 1 object_method_1_code
def k0m0 : Method := mM "<init>" "()V" [] none 1 (some k0c0)
/-- java/lang/Object -/
def k0 : Class := { plain "java/lang/Object" none with
  accessFlags := 33
  interfaces := #[]
  cf := some (fileOf pool0 8 #[] #[mI 1 5 6] 33 0 #[] #[])
  fields := #[]
  methods := #[k0m0]
  instanceTypes := #[]
  staticTypes := #[]
  resolved := Array.replicate 124 none
  statics := none }

def pool1 : Array CpInfo := pool [(2, .class_ 4), (1, u "java/lang/Object"), (0, u "<init>"), (0, u "()V"), (0, .methodref 8 9), (0, .class_ 10), (0, .nameAndType 11 12), (0, u "com/example/killdeer/killdeer/EndingStatementsOfPinLaw"), (0, u "put"), (0, u "([CII)V"), (0, .methodref 8 14), (0, .nameAndType 15 16), (0, u "space"), (0, u "(I)C"), (0, .methodref 8 18), (0, .nameAndType 19 20), (0, u "sepText"), (0, u "(I)Ljava/lang/String;"), (0, .methodref 22 23), (0, .class_ 24), (0, .nameAndType 25 16), (0, u "java/lang/String"), (0, u "charAt"), (0, .methodref 22 27), (0, .nameAndType 5 28), (0, u "([C)V"), (0, .methodref 30 31), (0, .class_ 32), (0, .nameAndType 33 34), (0, u "com/example/killdeer/killdeer/EndingStatements"), (0, u "of"), (0, u "(Ljava/lang/String;Z)Lcom/example/killdeer/killdeer/EndingStatements$Place;"), (0, .methodref 8 36), (0, .nameAndType 37 38), (0, u "code"), (0, u "(I)I"), (0, .methodref 8 40), (0, .nameAndType 41 42), (0, u "push"), (0, u "([II)V"), (0, .methodref 8 44), (0, .nameAndType 45 46), (0, u "ends"), (0, u "([I)Z"), (0, .fieldref 48 49), (0, .class_ 50), (0, .nameAndType 51 52), (0, u "com/example/killdeer/killdeer/EndingStatements$Place"), (0, u "BEFORE_ANOTHER"), (0, u "Lcom/example/killdeer/killdeer/EndingStatements$Place;"), (0, .fieldref 48 54), (0, .nameAndType 55 52), (0, u "LAST"), (0, .fieldref 48 57), (0, .nameAndType 58 52), (0, u "NONE"), (0, .string 60), (0, u "commit"), (0, .string 62), (0, u "end"), (0, .string 64), (0, u "abort"), (0, .string 66), (0, u "rollback"), (0, .string 68), (0, u "prepare"), (0, .string 70), (0, u "prepared"), (0, .string 72), (0, u "to"), (0, .string 74), (0, u "work"), (0, .string 76), (0, u "transaction"), (0, .string 78), (0, u "'id'"), (0, .string 80), (0, u ""), (0, .string 82), (0, u "select"), (0, .string 84), (0, u "commits"), (0, .string 86), (0, u "rollbac"), (0, .string 88), (0, u "e'x'"), (0, .string 90), (0, u "42"), (0, .string 92), (0, u ";      "), (0, .string 94), (0, u "       "), (0, .string 96), (0, u "/*;*/  "), (0, .string 98), (0, u "--;\n   "), (0, .string 100), (0, u "'\\';\\''"), (0, .string 102), (0, u "\";\"    "), (0, .string 104), (0, u "$$;$$  "), (0, .string 106), (0, u "E'\\';' "), (0, .methodref 22 108), (0, .nameAndType 109 110), (0, u "length"), (0, u "()I"), (0, .methodref 8 112), (0, .nameAndType 113 20), (0, u "word"), (0, .methodref 8 115), (0, .nameAndType 116 117), (0, u "ch"), (0, u "(Ljava/lang/String;II)C"), (2, u "law"), (0, u "(IIIIII)Z")] 9

def k1m0 : Method := mM "<init>" "()V" [] none 1 none
def k1c1 : Code := mC 4 18 code
def k1m1 : Method := mM "law" "(IIIIII)Z" [.int, .int, .int, .int, .int, .int] (some .boolean) 9 (some k1c1)
def k1c2 : Code := mC 4 2 method_3_code
def k1m2 : Method := mM "push" "([II)V" [(.array .int), .int] none 10 (some k1c2)
def k1c3 : Code := mC 2 5 method_4_code
def k1m3 : Method := mM "ends" "([I)Z" [(.array .int)] (some .boolean) 10 (some k1c3)
def k1c4 : Code := mC 2 2 method_5_code
def k1m4 : Method := mM "code" "(I)I" [.int] (some .int) 10 (some k1c4)
def k1c5 : Code := mC 2 1 method_6_code
def k1m5 : Method := mM "word" "(I)Ljava/lang/String;" [.int] (some (.object "java/lang/String")) 10 (some k1c5)
def k1c6 : Code := mC 2 1 method_7_code
def k1m6 : Method := mM "sepText" "(I)Ljava/lang/String;" [.int] (some (.object "java/lang/String")) 10 (some k1c6)
def k1c7 : Code := mC 2 2 method_8_code
def k1m7 : Method := mM "space" "(I)C" [.int] (some .char) 10 (some k1c7)
def k1c8 : Code := mC 2 4 method_9_code
def k1m8 : Method := mM "ch" "(Ljava/lang/String;II)C" [(.object "java/lang/String"), .int, .int] (some .char) 10 (some k1c8)
def k1c9 : Code := mC 5 5 method_10_code
def k1m9 : Method := mM "put" "([CII)V" [(.array .char), .int, .int] none 10 (some k1c9)
/-- com/example/killdeer/killdeer/EndingStatementsOfPinLaw -/
def k1 : Class := { plain "com/example/killdeer/killdeer/EndingStatementsOfPinLaw" (some 0) with
  accessFlags := 49
  interfaces := #[]
  cf := some (fileOf pool1 8 #[] #[mI 1 5 6, mI 9 120 121, mI 10 41 42, mI 10 45 46, mI 10 37 38, mI 10 113 20, mI 10 19 20, mI 10 15 16, mI 10 116 117, mI 10 11 12] 49 2 #[] #[])
  fields := #[]
  methods := #[k1m0, k1m1, k1m2, k1m3, k1m4, k1m5, k1m6, k1m7, k1m8, k1m9]
  instanceTypes := #[]
  staticTypes := #[]
  resolved := Array.replicate 131 none
  statics := none }

def pool2 : Array CpInfo := pool [(1, .class_ 2), (0, u "java/io/Serializable"), (0, .class_ 4), (0, u "java/lang/Object")] 2

/-- java/io/Serializable -/
def k2 : Class := { plain "java/io/Serializable" (some 0) with
  accessFlags := 1537
  interfaces := #[]
  cf := some (fileOf pool2 1 #[] #[] 1537 3 #[] #[])
  fields := #[]
  methods := #[]
  instanceTypes := #[]
  staticTypes := #[]
  resolved := Array.replicate 7 none
  statics := none }

def pool3 : Array CpInfo := pool [(1, .class_ 2), (0, u "java/lang/Comparable"), (0, .class_ 4), (0, u "java/lang/Object")] 7

/-- java/lang/Comparable -/
def k3 : Class := { plain "java/lang/Comparable" (some 0) with
  accessFlags := 1537
  interfaces := #[]
  cf := some (fileOf pool3 1 #[] #[] 1537 3 #[] #[])
  fields := #[]
  methods := #[]
  instanceTypes := #[]
  staticTypes := #[]
  resolved := Array.replicate 12 none
  statics := none }

def pool4 : Array CpInfo := pool [(2, .class_ 4), (1, u "java/lang/CharSequence"), (42, .class_ 48), (0, u "java/lang/CharSequence$1CodePointIterator"), (10, .class_ 60), (0, u "java/lang/CharSequence$1CharIterator"), (5, .class_ 67), (0, u "java/lang/Object")] 63

/-- java/lang/CharSequence -/
def k4 : Class := { plain "java/lang/CharSequence" (some 0) with
  accessFlags := 1537
  interfaces := #[]
  cf := some (fileOf pool4 2 #[.nestMembers #[47, 59]] #[] 1537 66 #[] #[])
  fields := #[]
  methods := #[]
  instanceTypes := #[]
  staticTypes := #[]
  resolved := Array.replicate 131 none
  statics := none }

def pool5 : Array CpInfo := pool [(1, .class_ 2), (0, u "java/lang/constant/Constable"), (0, .class_ 4), (0, u "java/lang/Object")] 6

/-- java/lang/constant/Constable -/
def k5 : Class := { plain "java/lang/constant/Constable" (some 0) with
  accessFlags := 1537
  interfaces := #[]
  cf := some (fileOf pool5 1 #[] #[] 1537 3 #[] #[])
  fields := #[]
  methods := #[]
  instanceTypes := #[]
  staticTypes := #[]
  resolved := Array.replicate 11 none
  statics := none }

def pool6 : Array CpInfo := pool [(1, .class_ 2), (0, u "java/lang/constant/ConstantDesc"), (0, .class_ 4), (0, u "java/lang/Object")] 32

/-- java/lang/constant/ConstantDesc -/
def k6 : Class := { plain "java/lang/constant/ConstantDesc" (some 0) with
  accessFlags := 1537
  interfaces := #[]
  cf := some (fileOf pool6 1 #[] #[] 1537 3 #[] #[])
  fields := #[]
  methods := #[]
  instanceTypes := #[]
  staticTypes := #[]
  resolved := Array.replicate 37 none
  statics := none }

def pool7 : Array CpInfo := pool [(1, .methodref 2 3), (0, .class_ 4), (0, .nameAndType 5 6), (0, u "java/lang/Object"), (0, u "<init>"), (0, u "()V"), (2, .fieldref 10 11), (0, .class_ 12), (0, .nameAndType 13 14), (0, u "java/lang/String"), (0, u "value"), (0, u "[B"), (0, .fieldref 10 16), (0, .nameAndType 17 18), (0, u "coder"), (0, u "B"), (2, u "hash"), (0, u "I"), (2, u "hashIsZero"), (0, u "Z"), (0, .methodref 10 28), (0, .nameAndType 5 29), (0, u "([CIILjava/lang/Void;)V"), (8, .fieldref 10 39), (0, .nameAndType 40 26), (0, u "COMPACT_STRINGS"), (1, .class_ 44), (1, u "java/lang/StringUTF16"), (0, u "compress"), (1, .methodref 42 48), (0, .nameAndType 49 50), (0, u "coderFromArrayLen"), (0, u "([BI)B"), (56, .class_ 109), (1, u "java/lang/StringLatin1"), (32, u "()Z"), (34, .methodref 42 178), (0, .nameAndType 45 179), (0, u "([CII)[B"), (31, u "([BB)V"), (122, u "()I"), (0, .methodref 10 336), (0, .nameAndType 17 337), (0, u "()B"), (25, u "([BI)C"), (12, u "([BI[BII)I"), (14, u "(II)V"), (35, u "(I)C"), (64, .methodref 10 493), (0, .nameAndType 494 142), (0, u "isLatin1"), (0, .methodref 107 496), (0, .nameAndType 497 363), (0, u "charAt"), (3, u "checkIndex"), (3, .methodref 10 506), (0, .nameAndType 507 334), (0, u "length"), (5, u "checkFromToIndex"), (7, .methodref 10 522), (0, .nameAndType 523 524), (0, u "checkBoundsBeginEnd"), (0, u "(III)V"), (34, .class_ 561), (1, u "jdk/internal/util/ArraysSupport"), (0, u "mismatch"), (12, .class_ 576), (0, u "java/lang/CharSequence"), (22, u "CASE_INSENSITIVE_ORDER"), (0, u "Ljava/util/Comparator;"), (6, .methodref 559 608), (0, .nameAndType 562 376), (17, u "startsWith"), (0, u "(Ljava/lang/String;I)Z"), (7, u "indexOf"), (17, .methodref 10 654), (0, .nameAndType 635 655), (0, u "([BBILjava/lang/String;I)I"), (3, .methodref 660 661), (0, .class_ 662), (0, .nameAndType 663 664), (0, u "java/lang/Math"), (0, u "clamp"), (0, u "(JII)I"), (0, .methodref 107 666), (0, .nameAndType 635 376), (5, u "(Ljava/lang/String;I)I"), (10, u "substring"), (0, u "(II)Ljava/lang/String;"), (0, .methodref 107 686), (0, .nameAndType 687 688), (0, u "newString"), (0, u "([BII)Ljava/lang/String;"), (321, u "([C)V"), (42, .fieldref 1054 1055), (0, .class_ 1056), (0, .nameAndType 1057 1058), (0, u "jdk/internal/util/Preconditions"), (0, u "SIOOBE_FORMATTER"), (0, u "Ljava/util/function/BiFunction;"), (0, .methodref 1054 1060), (0, .nameAndType 501 1061), (0, u "(IILjava/util/function/BiFunction;)I"), (0, .methodref 1054 1063), (0, .nameAndType 513 1064), (0, u "(IIILjava/util/function/BiFunction;)I"), (36, u "serialPersistentFields"), (0, u "[Ljava/io/ObjectStreamField;"), (0, .class_ 1104), (0, u "java/lang/String$CaseInsensitiveComparator"), (1, .class_ 1107), (0, u "java/io/Serializable"), (0, .class_ 1109), (0, u "java/lang/Comparable"), (0, .class_ 1111), (0, u "java/lang/constant/Constable"), (0, .class_ 1113), (0, u "java/lang/constant/ConstantDesc"), (2, u "serialVersionUID"), (0, u "J"), (3, u "REPL"), (0, u "C"), (2, u "LATIN1"), (1, u "UTF16")] 323

def k7m0 : Method := mM "<init>" "()V" [] none 1 none
def k7c1 : Code := mC 5 2 jdk_42_method_3_code
def k7m1 : Method := mM "<init>" "([C)V" [(.array .char)] none 1 (some k7c1)
def k7c2 : Code := mC 2 1 jdk_42_method_54_code
def k7m2 : Method := mM "length" "()I" [] (some .int) 1 (some k7c2)
def k7c3 : Code := mC 2 2 jdk_42_method_56_code
def k7m3 : Method := mM "charAt" "(I)C" [.int] (some .char) 1 (some k7c3)
def k7c4 : Code := mC 5 8 jdk_42_method_75_code
def k7m4 : Method := mM "startsWith" "(Ljava/lang/String;I)Z" [(.object "java/lang/String"), .int] (some .boolean) 1 (some k7c4)
def k7c5 : Code := mC 5 3 jdk_42_method_85_code
def k7m5 : Method := mM "indexOf" "(Ljava/lang/String;I)I" [(.object "java/lang/String"), .int] (some .int) 1 (some k7c5)
def k7c6 : Code := mC 5 8 jdk_42_method_87_code
def k7m6 : Method := mM "indexOf" "([BBILjava/lang/String;I)I" [(.array .byte), .byte, .int, (.object "java/lang/String"), .int] (some .int) 8 (some k7c6)
def k7c7 : Code := mC 3 5 jdk_42_method_92_code
def k7m7 : Method := mM "substring" "(II)Ljava/lang/String;" [.int, .int] (some (.object "java/lang/String")) 1 (some k7c7)
def k7c8 : Code := mC 4 6 jdk_42_method_149_code
def k7m8 : Method := mM "<init>" "([CIILjava/lang/Void;)V" [(.array .char), .int, .int, (.object "java/lang/Void")] none 2 (some k7c8)
def k7c9 : Code := mC 2 3 jdk_42_method_151_code
def k7m9 : Method := mM "<init>" "([BB)V" [(.array .byte), .byte] none 0 (some k7c9)
def k7c10 : Code := mC 1 1 jdk_42_method_152_code
def k7m10 : Method := mM "coder" "()B" [] (some .byte) 0 (some k7c10)
def k7c11 : Code := mC 1 1 jdk_42_method_154_code
def k7m11 : Method := mM "isLatin1" "()Z" [] (some .boolean) 0 (some k7c11)
def k7c12 : Code := mC 3 2 jdk_42_method_155_code
def k7m12 : Method := mM "checkIndex" "(II)V" [.int, .int] none 8 (some k7c12)
def k7c13 : Code := mC 4 3 jdk_42_method_158_code
def k7m13 : Method := mM "checkBoundsBeginEnd" "(III)V" [.int, .int, .int] none 8 (some k7c13)
/-- java/lang/String -/
def k7 : Class := { plain "java/lang/String" (some 0) with
  accessFlags := 49
  interfaces := #[2, 3, 4, 5, 6]
  cf := some (fileOf pool7 10 #[.nestMembers #[1103]] #[mI 1 5 6, mI 1 5 1010, mI 1 507 334, mI 1 497 427, mI 1 626 627, mI 1 635 672, mI 8 635 655, mI 1 683 684, mI 2 5 29, mI 0 5 211, mI 0 17 337, mI 0 494 142, mI 8 501 391, mI 8 523 524] 49 2 #[1106, 1108, 575, 1110, 1112] #[fI 18 13 14, fI 18 17 18, fI 2 21 22, fI 2 25 26, fI 26 1116 1117, fI 24 40 26, fI 26 1101 1102, fI 26 1121 1122, fI 25 599 600, fI 24 1125 18, fI 24 1127 18])
  fields := #[{ name := "value", type := (.array .byte), accessFlags := 18, slot := 0, constantValue := 0 }, { name := "coder", type := .byte, accessFlags := 18, slot := 1, constantValue := 0 }, { name := "hash", type := .int, accessFlags := 2, slot := 2, constantValue := 0 }, { name := "hashIsZero", type := .boolean, accessFlags := 2, slot := 3, constantValue := 0 }, { name := "serialVersionUID", type := .long, accessFlags := 26, slot := 0, constantValue := 0 }, { name := "COMPACT_STRINGS", type := .boolean, accessFlags := 24, slot := 1, constantValue := 0 }, { name := "serialPersistentFields", type := (.array (.object "java/io/ObjectStreamField")), accessFlags := 26, slot := 2, constantValue := 0 }, { name := "REPL", type := .char, accessFlags := 26, slot := 3, constantValue := 0 }, { name := "CASE_INSENSITIVE_ORDER", type := (.object "java/util/Comparator"), accessFlags := 25, slot := 4, constantValue := 0 }, { name := "LATIN1", type := .byte, accessFlags := 24, slot := 5, constantValue := 0 }, { name := "UTF16", type := .byte, accessFlags := 24, slot := 6, constantValue := 0 }]
  methods := #[k7m0, k7m1, k7m2, k7m3, k7m4, k7m5, k7m6, k7m7, k7m8, k7m9, k7m10, k7m11, k7m12, k7m13]
  instanceTypes := #[(.array .byte), .byte, .int, .boolean]
  staticTypes := #[.long, .boolean, (.array (.object "java/io/ObjectStreamField")), .char, (.object "java/util/Comparator"), .byte, .byte]
  resolved := Array.replicate 1451 none
  statics := some 0 }

def pool8 : Array CpInfo := pool [(1, .class_ 2), (0, u "java/lang/String"), (1, .class_ 6), (1, u "java/lang/Object"), (0, u "<init>"), (0, u "()V"), (0, .methodref 1 10), (0, .nameAndType 11 12), (0, u "checkIndex"), (0, u "(II)V"), (1, .class_ 16), (1, u "java/lang/StringLatin1"), (36, u "([BI)C"), (47, u "indexOf"), (0, u "([BI[BII)I"), (9, .methodref 1 113), (0, .nameAndType 7 114), (0, u "([BB)V"), (6, u "$assertionsDisabled"), (0, u "Z"), (8, .class_ 133), (1, u "java/util/Arrays"), (62, u "newString"), (0, u "([BII)Ljava/lang/String;"), (23, .class_ 223), (1, u "java/lang/StringLatin1$LinesSpliterator"), (8, .methodref 131 233), (0, .nameAndType 234 235), (0, u "copyOfRange"), (0, u "([BII)[B"), (16, u "charAt"), (137, .class_ 391), (0, u "java/lang/StringLatin1$CharsSpliterator")] 3

def k8m0 : Method := mM "<init>" "()V" [] none 0 none
def k8c1 : Code := mC 2 2 jdk_43_method_2_code
def k8m1 : Method := mM "charAt" "([BI)C" [(.array .byte), .int] (some .char) 9 (some k8c1)
def k8c2 : Code := mC 3 11 jdk_43_method_25_code
def k8m2 : Method := mM "indexOf" "([BI[BII)I" [(.array .byte), .int, (.array .byte), .int, .int] (some .int) 9 (some k8c2)
def k8c3 : Code := mC 6 3 jdk_43_method_47_code
def k8m3 : Method := mM "newString" "([BII)Ljava/lang/String;" [(.array .byte), .int, .int] (some (.object "java/lang/String")) 9 (some k8c3)
/-- java/lang/StringLatin1 -/
def k8 : Class := { plain "java/lang/StringLatin1" (some 0) with
  accessFlags := 48
  interfaces := #[]
  cf := some (fileOf pool8 14 #[.nestMembers #[390, 221]] #[mI 0 7 8, mI 9 252 53, mI 9 101 102, mI 9 196 197] 48 4 #[] #[fI 4120 121 122])
  fields := #[{ name := "$assertionsDisabled", type := .boolean, accessFlags := 4120, slot := 0, constantValue := 0 }]
  methods := #[k8m0, k8m1, k8m2, k8m3]
  instanceTypes := #[]
  staticTypes := #[.boolean]
  resolved := Array.replicate 395 none
  statics := none }

def pool9 : Array CpInfo := pool [(2, .class_ 4), (1, u "java/lang/Object"), (0, u "<init>"), (0, u "()V"), (17, .class_ 26), (1, u "jdk/internal/util/Preconditions"), (6, u "checkIndex"), (13, u "checkFromToIndex"), (7, .class_ 56), (0, u "jdk/internal/util/Preconditions$4"), (57, .class_ 115), (0, u "jdk/internal/util/Preconditions$1"), (7, u "SIOOBE_FORMATTER"), (0, u "Ljava/util/function/BiFunction;"), (0, .class_ 126), (0, u "jdk/internal/util/Preconditions$2"), (3, u "AIOOBE_FORMATTER"), (0, .class_ 132), (0, u "jdk/internal/util/Preconditions$3"), (3, u "IOOBE_FORMATTER"), (41, u "(IILjava/util/function/BiFunction;)I"), (4, u "(IIILjava/util/function/BiFunction;)I")] 10

def k9m0 : Method := mM "<init>" "()V" [] none 1 none
def k9c1 : Code := mC 3 3 jdk_41_method_11_code
def k9m1 : Method := mM "checkIndex" "(IILjava/util/function/BiFunction;)I" [.int, .int, (.object "java/util/function/BiFunction")] (some .int) 9 (some k9c1)
def k9c2 : Code := mC 4 4 jdk_41_method_12_code
def k9m2 : Method := mM "checkFromToIndex" "(IIILjava/util/function/BiFunction;)I" [.int, .int, .int, (.object "java/util/function/BiFunction")] (some .int) 9 (some k9c2)
/-- jdk/internal/util/Preconditions -/
def k9 : Class := { plain "jdk/internal/util/Preconditions" (some 0) with
  accessFlags := 33
  interfaces := #[]
  cf := some (fileOf pool9 24 #[.nestMembers #[55, 131, 125, 114]] #[mI 1 5 6, mI 9 33 178, mI 9 47 183] 33 2 #[] #[fI 25 123 124, fI 25 130 124, fI 25 136 124])
  fields := #[{ name := "SIOOBE_FORMATTER", type := (.object "java/util/function/BiFunction"), accessFlags := 25, slot := 0, constantValue := 0 }, { name := "AIOOBE_FORMATTER", type := (.object "java/util/function/BiFunction"), accessFlags := 25, slot := 1, constantValue := 0 }, { name := "IOOBE_FORMATTER", type := (.object "java/util/function/BiFunction"), accessFlags := 25, slot := 2, constantValue := 0 }]
  methods := #[k9m0, k9m1, k9m2]
  instanceTypes := #[]
  staticTypes := #[(.object "java/util/function/BiFunction"), (.object "java/util/function/BiFunction"), (.object "java/util/function/BiFunction")]
  resolved := Array.replicate 194 none
  statics := some 1 }

def pool10 : Array CpInfo := pool [(6, .class_ 8), (1, u "java/lang/Object"), (0, u "<init>"), (0, u "()V"), (1, .class_ 14), (1, u "java/lang/StringUTF16"), (31, u "$assertionsDisabled"), (0, u "Z"), (13, u "HI_BYTE_SHIFT"), (0, u "I"), (2, u "LO_BYTE_SHIFT"), (49, .methodref 12 116), (0, .nameAndType 117 118), (0, u "compress"), (0, u "([CI[BII)I"), (3, u "([CII)[B"), (138, u "coderFromArrayLen"), (0, u "([BI)B"), (106, .class_ 371), (1, u "java/lang/StringUTF16$LinesSpliterator"), (58, u "MAX_LENGTH"), (196, .class_ 628), (0, u "java/lang/StringUTF16$CodePointsSpliterator"), (0, .class_ 630), (0, u "java/lang/StringUTF16$CharsSpliterator")] 4

def k10m0 : Method := mM "<init>" "()V" [] none 0 none
def k10c1 : Code := mC 2 2 jdk_52_method_15_code
def k10m1 : Method := mM "coderFromArrayLen" "([BI)B" [(.array .byte), .int] (some .byte) 8 (some k10c1)
def k10c2 : Code := mC 5 6 jdk_52_method_16_code
def k10m2 : Method := mM "compress" "([CII)[B" [(.array .char), .int, .int] (some (.array .byte)) 9 (some k10c2)
def k10c3 : Code := mC 3 7 jdk_52_method_21_code
def k10m3 : Method := mM "compress" "([CI[BII)I" [(.array .char), .int, (.array .byte), .int, .int] (some .int) 9 (some k10c3)
/-- java/lang/StringUTF16 -/
def k10 : Class := { plain "java/lang/StringUTF16" (some 0) with
  accessFlags := 48
  interfaces := #[]
  cf := some (fileOf pool10 12 #[.nestMembers #[627, 629, 369]] #[mI 0 9 10, mI 8 261 262, mI 9 117 122, mI 9 117 118] 48 6 #[] #[fI 26 61 62, fI 26 65 62, fI 24 430 62, fI 4120 46 47])
  fields := #[{ name := "HI_BYTE_SHIFT", type := .int, accessFlags := 26, slot := 0, constantValue := 0 }, { name := "LO_BYTE_SHIFT", type := .int, accessFlags := 26, slot := 1, constantValue := 0 }, { name := "MAX_LENGTH", type := .int, accessFlags := 24, slot := 2, constantValue := 0 }, { name := "$assertionsDisabled", type := .boolean, accessFlags := 4120, slot := 3, constantValue := 0 }]
  methods := #[k10m0, k10m1, k10m2, k10m3]
  instanceTypes := #[]
  staticTypes := #[.int, .int, .int, .boolean]
  resolved := Array.replicate 635 none
  statics := none }

def pool11 : Array CpInfo := pool [(1, .methodref 2 3), (0, .class_ 4), (0, .nameAndType 5 6), (0, u "java/lang/Object"), (0, u "<init>"), (0, u "()V"), (0, .class_ 8), (0, u "com/example/killdeer/killdeer/EndingStatements"), (0, .class_ 10), (0, u "com/example/killdeer/killdeer/EndingStatements$Token"), (0, .fieldref 7 12), (0, .nameAndType 13 14), (0, u "kinds"), (0, u "[Lcom/example/killdeer/killdeer/EndingStatements$Token;"), (0, .fieldref 7 16), (0, .nameAndType 17 18), (0, u "starts"), (0, u "[I"), (0, .fieldref 7 20), (0, .nameAndType 21 18), (0, u "ends"), (0, .fieldref 7 23), (0, .nameAndType 24 25), (0, u "text"), (0, u "Ljava/lang/String;"), (0, .fieldref 7 27), (0, .nameAndType 28 29), (0, u "standardConformingStrings"), (0, u "Z"), (0, .methodref 7 31), (0, .nameAndType 5 32), (0, u "(Ljava/lang/String;Z)V"), (0, .methodref 7 34), (0, .nameAndType 35 6), (0, u "read"), (0, .fieldref 7 37), (0, .nameAndType 38 29), (0, u "endsBeforeAnother"), (0, .fieldref 40 41), (0, .class_ 42), (0, .nameAndType 43 44), (0, u "com/example/killdeer/killdeer/EndingStatements$Place"), (0, u "BEFORE_ANOTHER"), (0, u "Lcom/example/killdeer/killdeer/EndingStatements$Place;"), (0, .fieldref 7 46), (0, .nameAndType 47 29), (0, u "lastEnds"), (0, .fieldref 40 49), (0, .nameAndType 50 44), (0, u "LAST"), (0, .fieldref 40 52), (0, .nameAndType 53 44), (0, u "NONE"), (0, .fieldref 7 55), (0, .nameAndType 56 57), (0, u "at"), (0, u "I"), (0, .methodref 59 60), (0, .class_ 61), (0, .nameAndType 62 63), (0, u "java/lang/String"), (0, u "length"), (0, u "()I"), (0, .methodref 59 65), (0, .nameAndType 66 67), (0, u "charAt"), (0, u "(I)C"), (0, .fieldref 7 69), (0, .nameAndType 70 57), (0, u "bodyDepth"), (0, .methodref 7 72), (0, .nameAndType 73 6), (0, u "endStatement"), (0, .methodref 7 75), (0, .nameAndType 76 77), (0, u "isSpace"), (0, u "(C)Z"), (0, .string 79), (0, u "--"), (0, .methodref 59 81), (0, .nameAndType 82 83), (0, u "startsWith"), (0, u "(Ljava/lang/String;I)Z"), (0, .methodref 7 85), (0, .nameAndType 86 63), (0, u "endOfLineComment"), (0, .string 88), (0, u "/*"), (0, .methodref 7 90), (0, .nameAndType 91 63), (0, u "endOfBlockComment"), (0, .methodref 7 93), (0, .nameAndType 94 95), (0, u "endOfQuoted"), (0, u "(IZ)I"), (0, .fieldref 9 97), (0, .nameAndType 98 99), (0, u "STRING"), (0, u "Lcom/example/killdeer/killdeer/EndingStatements$Token;"), (0, .fieldref 9 101), (0, .nameAndType 102 99), (0, u "OTHER"), (0, .methodref 7 104), (0, .nameAndType 105 106), (0, u "token"), (0, u "(Lcom/example/killdeer/killdeer/EndingStatements$Token;I)V"), (0, .methodref 7 108), (0, .nameAndType 109 63), (0, u "dollarDelimiterLength"), (0, .methodref 7 111), (0, .nameAndType 112 63), (0, u "endOfDollarQuoted"), (0, .methodref 7 114), (0, .nameAndType 115 77), (0, u "isIdentifierStart"), (0, .methodref 7 117), (0, .nameAndType 118 6), (0, u "readWord"), (0, .methodref 7 120), (0, .nameAndType 121 77), (0, u "isDigit"), (0, .methodref 7 123), (0, .nameAndType 124 77), (0, u "isNumberPart"), (0, .methodref 7 126), (0, .nameAndType 127 77), (0, u "isIdentifierPart"), (0, .methodref 7 129), (0, .nameAndType 130 131), (0, u "lowerCase"), (0, u "(C)C"), (0, .methodref 7 65), (0, .fieldref 9 134), (0, .nameAndType 135 99), (0, u "WORD"), (0, .fieldref 7 137), (0, .nameAndType 138 57), (0, u "tokens"), (2, .methodref 7 142), (0, .nameAndType 143 144), (0, u "isKeyword"), (0, u "(IILjava/lang/String;)Z"), (0, .string 146), (0, u "end"), (0, .fieldref 7 148), (0, .nameAndType 149 29), (0, u "afterBegin"), (2, .methodref 7 153), (0, .nameAndType 154 155), (0, u "isWord"), (0, u "(ILjava/lang/String;)Z"), (2, .string 159), (0, u "begin"), (0, .methodref 7 161), (0, .nameAndType 162 163), (0, u "endsTransaction"), (0, u "()Z"), (0, .string 165), (0, u "commit"), (0, .string 167), (0, u "prepared"), (0, .string 169), (0, u "abort"), (0, .string 171), (0, u "rollback"), (0, .string 173), (0, u "to"), (0, .string 175), (0, u "work"), (0, .string 177), (0, u "transaction"), (0, .string 179), (0, u "prepare"), (0, .methodref 181 182), (0, .class_ 183), (0, .nameAndType 184 185), (0, u "java/lang/Math"), (0, u "min"), (0, u "(II)I"), (0, .methodref 59 187), (0, .nameAndType 188 189), (0, u "substring"), (0, u "(II)Ljava/lang/String;"), (0, .methodref 59 191), (0, .nameAndType 192 193), (0, u "indexOf"), (0, u "(Ljava/lang/String;I)I"), (0, .string 195), (0, u "*/"), (0, u "TELLING_TOKENS"), (4, u "of"), (0, u "(Ljava/lang/String;Z)Lcom/example/killdeer/killdeer/EndingStatements$Place;")] 7

def k11c0 : Code := mC 2 3 prog_11_method_1_code
def k11m0 : Method := mM "<init>" "(Ljava/lang/String;Z)V" [(.object "java/lang/String"), .boolean] none 2 (some k11c0)
def k11c1 : Code := mC 4 4 prog_11_method_2_code
def k11m1 : Method := mM "of" "(Ljava/lang/String;Z)Lcom/example/killdeer/killdeer/EndingStatements$Place;" [(.object "java/lang/String"), .boolean] (some (.object "com/example/killdeer/killdeer/EndingStatements$Place")) 8 (some k11c1)
def k11c2 : Code := mC 4 4 prog_11_method_3_code
def k11m2 : Method := mM "read" "()V" [] none 2 (some k11c2)
def k11c3 : Code := mC 4 5 prog_11_method_4_code
def k11m3 : Method := mM "readWord" "()V" [] none 2 (some k11c3)
def k11c4 : Code := mC 5 4 prog_11_method_5_code
def k11m4 : Method := mM "token" "(Lcom/example/killdeer/killdeer/EndingStatements$Token;I)V" [(.object "com/example/killdeer/killdeer/EndingStatements$Token"), .int] none 2 (some k11c4)
def k11c5 : Code := mC 2 1 prog_11_method_6_code
def k11m5 : Method := mM "endStatement" "()V" [] none 2 (some k11c5)
def k11c6 : Code := mC 3 3 prog_11_method_7_code
def k11m6 : Method := mM "endsTransaction" "()Z" [] (some .boolean) 2 (some k11c6)
def k11c7 : Code := mC 4 3 prog_11_method_8_code
def k11m7 : Method := mM "isWord" "(ILjava/lang/String;)Z" [.int, (.object "java/lang/String")] (some .boolean) 2 (some k11c7)
def k11c8 : Code := mC 3 5 prog_11_method_9_code
def k11m8 : Method := mM "isKeyword" "(IILjava/lang/String;)Z" [.int, .int, (.object "java/lang/String")] (some .boolean) 2 (some k11c8)
def k11c9 : Code := mC 2 6 prog_11_method_10_code
def k11m9 : Method := mM "endOfQuoted" "(IZ)I" [.int, .boolean] (some .int) 2 (some k11c9)
def k11c10 : Code := mC 3 2 prog_11_method_11_code
def k11m10 : Method := mM "dollarDelimiterLength" "()I" [] (some .int) 2 (some k11c10)
def k11c11 : Code := mC 5 3 prog_11_method_12_code
def k11m11 : Method := mM "endOfDollarQuoted" "()I" [] (some .int) 2 (some k11c11)
def k11c12 : Code := mC 2 2 prog_11_method_13_code
def k11m12 : Method := mM "endOfLineComment" "()I" [] (some .int) 2 (some k11c12)
def k11c13 : Code := mC 3 3 prog_11_method_14_code
def k11m13 : Method := mM "endOfBlockComment" "()I" [] (some .int) 2 (some k11c13)
def k11c14 : Code := mC 2 2 prog_11_method_15_code
def k11m14 : Method := mM "charAt" "(I)C" [.int] (some .char) 2 (some k11c14)
def k11c15 : Code := mC 2 1 prog_11_method_16_code
def k11m15 : Method := mM "isSpace" "(C)Z" [.char] (some .boolean) 10 (some k11c15)
def k11c16 : Code := mC 2 1 prog_11_method_17_code
def k11m16 : Method := mM "isIdentifierStart" "(C)Z" [.char] (some .boolean) 10 (some k11c16)
def k11c17 : Code := mC 2 1 prog_11_method_18_code
def k11m17 : Method := mM "isIdentifierPart" "(C)Z" [.char] (some .boolean) 10 (some k11c17)
def k11c18 : Code := mC 2 1 prog_11_method_19_code
def k11m18 : Method := mM "isNumberPart" "(C)Z" [.char] (some .boolean) 10 (some k11c18)
def k11c19 : Code := mC 2 1 prog_11_method_20_code
def k11m19 : Method := mM "isDigit" "(C)Z" [.char] (some .boolean) 10 (some k11c19)
def k11c20 : Code := mC 2 1 prog_11_method_21_code
def k11m20 : Method := mM "lowerCase" "(C)C" [.char] (some .char) 10 (some k11c20)
/-- com/example/killdeer/killdeer/EndingStatements -/
def k11 : Class := { plain "com/example/killdeer/killdeer/EndingStatements" (some 0) with
  accessFlags := 32
  interfaces := #[]
  cf := some (fileOf pool11 7 #[.nestMembers #[9, 40]] #[mI 2 5 32, mI 8 201 202, mI 2 35 6, mI 2 118 6, mI 2 105 106, mI 2 73 6, mI 2 162 163, mI 2 154 155, mI 2 143 144, mI 2 94 95, mI 2 109 63, mI 2 112 63, mI 2 86 63, mI 2 91 63, mI 2 66 67, mI 10 76 77, mI 10 115 77, mI 10 127 77, mI 10 124 77, mI 10 121 77, mI 10 130 131] 32 2 #[] #[fI 26 196 57, fI 18 24 25, fI 18 28 29, fI 2 56 57, fI 18 13 14, fI 18 17 18, fI 18 21 18, fI 2 138 57, fI 2 149 29, fI 2 70 57, fI 2 47 29, fI 2 38 29])
  fields := #[{ name := "TELLING_TOKENS", type := .int, accessFlags := 26, slot := 0, constantValue := 0 }, { name := "text", type := (.object "java/lang/String"), accessFlags := 18, slot := 0, constantValue := 0 }, { name := "standardConformingStrings", type := .boolean, accessFlags := 18, slot := 1, constantValue := 0 }, { name := "at", type := .int, accessFlags := 2, slot := 2, constantValue := 0 }, { name := "kinds", type := (.array (.object "com/example/killdeer/killdeer/EndingStatements$Token")), accessFlags := 18, slot := 3, constantValue := 0 }, { name := "starts", type := (.array .int), accessFlags := 18, slot := 4, constantValue := 0 }, { name := "ends", type := (.array .int), accessFlags := 18, slot := 5, constantValue := 0 }, { name := "tokens", type := .int, accessFlags := 2, slot := 6, constantValue := 0 }, { name := "afterBegin", type := .boolean, accessFlags := 2, slot := 7, constantValue := 0 }, { name := "bodyDepth", type := .int, accessFlags := 2, slot := 8, constantValue := 0 }, { name := "lastEnds", type := .boolean, accessFlags := 2, slot := 9, constantValue := 0 }, { name := "endsBeforeAnother", type := .boolean, accessFlags := 2, slot := 10, constantValue := 0 }]
  methods := #[k11m0, k11m1, k11m2, k11m3, k11m4, k11m5, k11m6, k11m7, k11m8, k11m9, k11m10, k11m11, k11m12, k11m13, k11m14, k11m15, k11m16, k11m17, k11m18, k11m19, k11m20]
  instanceTypes := #[(.object "java/lang/String"), .boolean, .int, (.array (.object "com/example/killdeer/killdeer/EndingStatements$Token")), (.array .int), (.array .int), .int, .boolean, .int, .boolean, .boolean]
  staticTypes := #[.int]
  resolved := Array.replicate 210 none
  statics := none }

def pool12 : Array CpInfo := pool [(2, .class_ 4), (1, u "java/lang/Enum"), (0, u "name"), (0, u "Ljava/lang/String;"), (2, u "ordinal"), (0, u "I"), (1, .class_ 14), (1, u "java/lang/Object"), (4, u "hash"), (86, .class_ 108), (1, u "java/lang/Enum$EnumDesc"), (2, .class_ 112), (0, u "java/lang/constant/Constable"), (0, .class_ 114), (0, u "java/lang/Comparable"), (0, .class_ 116), (0, u "java/io/Serializable")] 87

/-- java/lang/Enum -/
def k12 : Class := { plain "java/lang/Enum" (some 0) with
  accessFlags := 1057
  interfaces := #[5, 3, 2]
  cf := some (fileOf pool12 2 #[.nestMembers #[106]] #[] 1057 12 #[111, 113, 115] #[fI 18 5 6, fI 18 9 10, fI 2 19 10])
  fields := #[{ name := "name", type := (.object "java/lang/String"), accessFlags := 18, slot := 0, constantValue := 0 }, { name := "ordinal", type := .int, accessFlags := 18, slot := 1, constantValue := 0 }, { name := "hash", type := .int, accessFlags := 2, slot := 2, constantValue := 0 }]
  methods := #[]
  instanceTypes := #[(.object "java/lang/String"), .int, .int]
  staticTypes := #[]
  resolved := Array.replicate 204 none
  statics := none }

def pool13 : Array CpInfo := pool [(1, .class_ 2), (0, u "com/example/killdeer/killdeer/EndingStatements$Token"), (2, u "WORD"), (0, u "Lcom/example/killdeer/killdeer/EndingStatements$Token;"), (2, u "STRING"), (2, u "OTHER"), (2, u "$VALUES"), (0, u "[Lcom/example/killdeer/killdeer/EndingStatements$Token;"), (6, .class_ 25), (1, u "java/lang/Enum"), (26, .class_ 53), (0, u "com/example/killdeer/killdeer/EndingStatements")] 2

/-- com/example/killdeer/killdeer/EndingStatements$Token -/
def k13 : Class := { plain "com/example/killdeer/killdeer/EndingStatements$Token" (some 12) with
  accessFlags := 16432
  interfaces := #[]
  cf := some (fileOf pool13 1 #[.nestHost 52] #[] 16432 23 #[] #[fI 16409 5 6, fI 16409 9 6, fI 16409 12 6, fI 4122 15 16])
  fields := #[{ name := "WORD", type := (.object "com/example/killdeer/killdeer/EndingStatements$Token"), accessFlags := 16409, slot := 0, constantValue := 0 }, { name := "STRING", type := (.object "com/example/killdeer/killdeer/EndingStatements$Token"), accessFlags := 16409, slot := 1, constantValue := 0 }, { name := "OTHER", type := (.object "com/example/killdeer/killdeer/EndingStatements$Token"), accessFlags := 16409, slot := 2, constantValue := 0 }, { name := "$VALUES", type := (.array (.object "com/example/killdeer/killdeer/EndingStatements$Token")), accessFlags := 4122, slot := 3, constantValue := 0 }]
  methods := #[]
  instanceTypes := #[(.object "java/lang/String"), .int, .int]
  staticTypes := #[(.object "com/example/killdeer/killdeer/EndingStatements$Token"), (.object "com/example/killdeer/killdeer/EndingStatements$Token"), (.object "com/example/killdeer/killdeer/EndingStatements$Token"), (.array (.object "com/example/killdeer/killdeer/EndingStatements$Token"))]
  resolved := Array.replicate 56 none
  statics := some 2 }

def pool14 : Array CpInfo := pool [(9, u "<init>"), (6, .class_ 18), (1, u "java/lang/Object"), (0, u "()V"), (1, .class_ 23), (1, u "jdk/internal/util/ArraysSupport"), (0, u "LOG2_ARRAY_LONG_INDEX_SCALE"), (0, u "I"), (2, u "U"), (0, u "Ljdk/internal/misc/Unsafe;"), (8, u "BIG_ENDIAN"), (0, u "Z"), (8, u "LOG2_BYTE_BIT_SIZE"), (4, u "LOG2_ARRAY_INT_INDEX_SCALE"), (54, u "JLA"), (0, u "Ljdk/internal/access/JavaLangAccess;"), (11, u "LOG2_ARRAY_BOOLEAN_INDEX_SCALE"), (9, u "LOG2_ARRAY_BYTE_INDEX_SCALE"), (5, u "LOG2_ARRAY_CHAR_INDEX_SCALE"), (5, u "LOG2_ARRAY_SHORT_INDEX_SCALE"), (5, u "mismatch"), (12, u "LOG2_ARRAY_FLOAT_INDEX_SCALE"), (24, u "LOG2_ARRAY_DOUBLE_INDEX_SCALE"), (89, u "T_BOOLEAN"), (2, u "T_CHAR"), (1, u "T_FLOAT"), (1, u "T_DOUBLE"), (1, u "T_BYTE"), (1, u "T_SHORT"), (1, u "T_INT"), (1, u "T_LONG"), (1, u "SOFT_MAX_ARRAY_LENGTH"), (42, u "([BI[BII)I")] 40

def k14m0 : Method := mM "<init>" "()V" [] none 2 none
def k14c1 : Code := mC 8 8 jdk_48_method_14_code
def k14m1 : Method := mM "mismatch" "([BI[BII)I" [(.array .byte), .int, (.array .byte), .int, .int] (some .int) 9 (some k14c1)
/-- jdk/internal/util/ArraysSupport -/
def k14 : Class := { plain "jdk/internal/util/ArraysSupport" (some 0) with
  accessFlags := 33
  interfaces := #[]
  cf := some (fileOf pool14 21 #[] #[mI 2 9 19, mI 9 149 337] 33 16 #[] #[fI 24 28 29, fI 26 38 39, fI 25 121 25, fI 25 131 25, fI 25 137 25, fI 25 143 25, fI 25 53 25, fI 25 24 25, fI 25 162 25, fI 25 187 25, fI 26 48 25, fI 25 277 25, fI 25 280 25, fI 25 282 25, fI 25 284 25, fI 25 286 25, fI 25 288 25, fI 25 290 25, fI 25 292 25, fI 26 108 109, fI 25 294 25])
  fields := #[{ name := "U", type := (.object "jdk/internal/misc/Unsafe"), accessFlags := 24, slot := 0, constantValue := 0 }, { name := "BIG_ENDIAN", type := .boolean, accessFlags := 26, slot := 1, constantValue := 0 }, { name := "LOG2_ARRAY_BOOLEAN_INDEX_SCALE", type := .int, accessFlags := 25, slot := 2, constantValue := 0 }, { name := "LOG2_ARRAY_BYTE_INDEX_SCALE", type := .int, accessFlags := 25, slot := 3, constantValue := 0 }, { name := "LOG2_ARRAY_CHAR_INDEX_SCALE", type := .int, accessFlags := 25, slot := 4, constantValue := 0 }, { name := "LOG2_ARRAY_SHORT_INDEX_SCALE", type := .int, accessFlags := 25, slot := 5, constantValue := 0 }, { name := "LOG2_ARRAY_INT_INDEX_SCALE", type := .int, accessFlags := 25, slot := 6, constantValue := 0 }, { name := "LOG2_ARRAY_LONG_INDEX_SCALE", type := .int, accessFlags := 25, slot := 7, constantValue := 0 }, { name := "LOG2_ARRAY_FLOAT_INDEX_SCALE", type := .int, accessFlags := 25, slot := 8, constantValue := 0 }, { name := "LOG2_ARRAY_DOUBLE_INDEX_SCALE", type := .int, accessFlags := 25, slot := 9, constantValue := 0 }, { name := "LOG2_BYTE_BIT_SIZE", type := .int, accessFlags := 26, slot := 10, constantValue := 0 }, { name := "T_BOOLEAN", type := .int, accessFlags := 25, slot := 11, constantValue := 0 }, { name := "T_CHAR", type := .int, accessFlags := 25, slot := 12, constantValue := 0 }, { name := "T_FLOAT", type := .int, accessFlags := 25, slot := 13, constantValue := 0 }, { name := "T_DOUBLE", type := .int, accessFlags := 25, slot := 14, constantValue := 0 }, { name := "T_BYTE", type := .int, accessFlags := 25, slot := 15, constantValue := 0 }, { name := "T_SHORT", type := .int, accessFlags := 25, slot := 16, constantValue := 0 }, { name := "T_INT", type := .int, accessFlags := 25, slot := 17, constantValue := 0 }, { name := "T_LONG", type := .int, accessFlags := 25, slot := 18, constantValue := 0 }, { name := "JLA", type := (.object "jdk/internal/access/JavaLangAccess"), accessFlags := 26, slot := 19, constantValue := 0 }, { name := "SOFT_MAX_ARRAY_LENGTH", type := .int, accessFlags := 25, slot := 20, constantValue := 0 }]
  methods := #[k14m0, k14m1]
  instanceTypes := #[]
  staticTypes := #[(.object "jdk/internal/misc/Unsafe"), .boolean, .int, .int, .int, .int, .int, .int, .int, .int, .int, .int, .int, .int, .int, .int, .int, .int, .int, (.object "jdk/internal/access/JavaLangAccess"), .int]
  resolved := Array.replicate 378 none
  statics := none }

def pool15 : Array CpInfo := pool [(1, .class_ 2), (0, u "java/lang/Math"), (1, .class_ 6), (1, u "java/lang/Object"), (0, u "<init>"), (0, u "()V"), (89, .class_ 100), (1, u "java/lang/Math$RandomNumberGeneratorHolder"), (20, u "(JJ)J"), (50, u "negativeZeroFloatBits"), (0, u "J"), (2, u "negativeZeroDoubleBits"), (19, .methodref 1 197), (0, .nameAndType 198 121), (0, u "max"), (0, .methodref 1 200), (0, .nameAndType 201 121), (0, u "min"), (43, u "$assertionsDisabled"), (0, u "Z"), (88, u "(II)I"), (2, u "twoToTheDoubleScaleDown"), (0, u "D"), (4, u "twoToTheDoubleScaleUp"), (9, u "E"), (3, u "PI"), (2, u "TAU"), (2, u "DEGREES_TO_RADIANS"), (0, u "RADIANS_TO_DEGREES"), (56, u "clamp"), (0, u "(JII)I")] 36

def k15m0 : Method := mM "<init>" "()V" [] none 2 none
def k15c1 : Code := mC 4 4 jdk_29_method_66_code
def k15m1 : Method := mM "max" "(JJ)J" [.long, .long] (some .long) 9 (some k15c1)
def k15c2 : Code := mC 2 2 jdk_29_method_69_code
def k15m2 : Method := mM "min" "(II)I" [.int, .int] (some .int) 9 (some k15c2)
def k15c3 : Code := mC 4 4 jdk_29_method_70_code
def k15m3 : Method := mM "min" "(JJ)J" [.long, .long] (some .long) 9 (some k15c3)
def k15c4 : Code := mC 6 4 jdk_29_method_73_code
def k15m4 : Method := mM "clamp" "(JII)I" [.long, .int, .int] (some .int) 9 (some k15c4)
/-- java/lang/Math -/
def k15 : Class := { plain "java/lang/Math" (some 0) with
  accessFlags := 49
  interfaces := #[]
  cf := some (fileOf pool15 1 #[.nestMembers #[98]] #[mI 2 7 8, mI 9 198 121, mI 9 201 335, mI 9 201 121, mI 9 422 423] 49 4 #[] #[fI 25 354 339, fI 25 358 339, fI 25 361 339, fI 26 364 339, fI 26 365 339, fI 26 172 173, fI 26 176 173, fI 8 344 339, fI 8 338 339, fI 4120 245 246])
  fields := #[{ name := "E", type := .double, accessFlags := 25, slot := 0, constantValue := 0 }, { name := "PI", type := .double, accessFlags := 25, slot := 1, constantValue := 0 }, { name := "TAU", type := .double, accessFlags := 25, slot := 2, constantValue := 0 }, { name := "DEGREES_TO_RADIANS", type := .double, accessFlags := 26, slot := 3, constantValue := 0 }, { name := "RADIANS_TO_DEGREES", type := .double, accessFlags := 26, slot := 4, constantValue := 0 }, { name := "negativeZeroFloatBits", type := .long, accessFlags := 26, slot := 5, constantValue := 0 }, { name := "negativeZeroDoubleBits", type := .long, accessFlags := 26, slot := 6, constantValue := 0 }, { name := "twoToTheDoubleScaleUp", type := .double, accessFlags := 8, slot := 7, constantValue := 0 }, { name := "twoToTheDoubleScaleDown", type := .double, accessFlags := 8, slot := 8, constantValue := 0 }, { name := "$assertionsDisabled", type := .boolean, accessFlags := 4120, slot := 9, constantValue := 0 }]
  methods := #[k15m0, k15m1, k15m2, k15m3, k15m4]
  instanceTypes := #[]
  staticTypes := #[.double, .double, .double, .double, .double, .long, .long, .double, .double, .boolean]
  resolved := Array.replicate 460 none
  statics := none }

def pool16 : Array CpInfo := pool [(1, .class_ 2), (0, u "com/example/killdeer/killdeer/EndingStatements$Place"), (2, u "NONE"), (0, u "Lcom/example/killdeer/killdeer/EndingStatements$Place;"), (2, u "LAST"), (2, u "BEFORE_ANOTHER"), (2, u "$VALUES"), (0, u "[Lcom/example/killdeer/killdeer/EndingStatements$Place;"), (6, .class_ 25), (1, u "java/lang/Enum"), (26, .class_ 53), (0, u "com/example/killdeer/killdeer/EndingStatements")] 2

/-- com/example/killdeer/killdeer/EndingStatements$Place -/
def k16 : Class := { plain "com/example/killdeer/killdeer/EndingStatements$Place" (some 12) with
  accessFlags := 16432
  interfaces := #[]
  cf := some (fileOf pool16 1 #[.nestHost 52] #[] 16432 23 #[] #[fI 16409 5 6, fI 16409 9 6, fI 16409 12 6, fI 4122 15 16])
  fields := #[{ name := "NONE", type := (.object "com/example/killdeer/killdeer/EndingStatements$Place"), accessFlags := 16409, slot := 0, constantValue := 0 }, { name := "LAST", type := (.object "com/example/killdeer/killdeer/EndingStatements$Place"), accessFlags := 16409, slot := 1, constantValue := 0 }, { name := "BEFORE_ANOTHER", type := (.object "com/example/killdeer/killdeer/EndingStatements$Place"), accessFlags := 16409, slot := 2, constantValue := 0 }, { name := "$VALUES", type := (.array (.object "com/example/killdeer/killdeer/EndingStatements$Place")), accessFlags := 4122, slot := 3, constantValue := 0 }]
  methods := #[]
  instanceTypes := #[(.object "java/lang/String"), .int, .int]
  staticTypes := #[(.object "com/example/killdeer/killdeer/EndingStatements$Place"), (.object "com/example/killdeer/killdeer/EndingStatements$Place"), (.object "com/example/killdeer/killdeer/EndingStatements$Place"), (.array (.object "com/example/killdeer/killdeer/EndingStatements$Place"))]
  resolved := Array.replicate 56 none
  statics := some 3 }

def pool17 : Array CpInfo := pool [(2, .class_ 4), (1, u "java/lang/Object"), (0, u "<init>"), (0, u "()V"), (7, .class_ 16), (1, u "java/util/Arrays"), (57, .class_ 76), (1, u "java/util/Arrays$NaturalOrder"), (36, .class_ 115), (1, u "java/util/Arrays$LegacyMergeSort"), (1, u "Z"), (21, u "copyOfRange"), (10, .methodref 151 152), (0, .class_ 153), (0, .nameAndType 154 155), (0, u "java/lang/System"), (0, u "arraycopy"), (0, u "(Ljava/lang/Object;ILjava/lang/Object;II)V"), (148, .methodref 305 306), (0, .class_ 307), (0, .nameAndType 308 309), (0, u "java/lang/Math"), (0, u "min"), (0, u "(II)I"), (29, .methodref 14 340), (0, .nameAndType 341 342), (0, u "copyOfRangeByte"), (0, u "([BII)[B"), (0, .methodref 14 344), (0, .nameAndType 345 346), (0, u "checkLength"), (0, u "(II)V"), (28, .class_ 376), (0, u "java/util/Arrays$ArrayList"), (68, u "$assertionsDisabled"), (269, u "MIN_ARRAY_SORT_GRAN"), (0, u "I"), (2, u "INSERTIONSORT_THRESHOLD"), (255, .class_ 976), (0, u "java/util/Arrays$ArrayItr")] 52

def k17m0 : Method := mM "<init>" "()V" [] none 2 none
def k17c1 : Code := mC 4 2 jdk_65_method_131_code
def k17m1 : Method := mM "checkLength" "(II)V" [.int, .int] none 10 (some k17c1)
def k17c2 : Code := mC 3 3 jdk_65_method_132_code
def k17m2 : Method := mM "copyOfRange" "([BII)[B" [(.array .byte), .int, .int] (some (.array .byte)) 9 (some k17c2)
def k17c3 : Code := mC 6 5 jdk_65_method_133_code
def k17m3 : Method := mM "copyOfRangeByte" "([BII)[B" [(.array .byte), .int, .int] (some (.array .byte)) 10 (some k17c3)
/-- java/util/Arrays -/
def k17 : Class := { plain "java/util/Arrays" (some 0) with
  accessFlags := 49
  interfaces := #[]
  cf := some (fileOf pool17 14 #[.nestMembers #[975, 375, 113, 74]] #[mI 2 5 6, mI 10 345 346, mI 9 139 342, mI 10 341 342] 49 2 #[] #[fI 26 715 716, fI 26 719 716, fI 4120 445 117])
  fields := #[{ name := "MIN_ARRAY_SORT_GRAN", type := .int, accessFlags := 26, slot := 0, constantValue := 0 }, { name := "INSERTIONSORT_THRESHOLD", type := .int, accessFlags := 26, slot := 1, constantValue := 0 }, { name := "$assertionsDisabled", type := .boolean, accessFlags := 4120, slot := 2, constantValue := 0 }]
  methods := #[k17m0, k17m1, k17m2, k17m3]
  instanceTypes := #[]
  staticTypes := #[.int, .int, .boolean]
  resolved := Array.replicate 1029 none
  statics := none }

def pool18 : Array CpInfo := pool [(2, .class_ 4), (1, u "java/lang/Object"), (0, u "<init>"), (0, u "()V"), (1, .class_ 10), (1, u "java/lang/System"), (0, u "allowSecurityManager"), (0, u "I"), (16, u "cons"), (0, u "Ljava/io/Console;"), (77, .class_ 110), (1, u "java/lang/System$CallersHolder"), (43, u "initialErrStream"), (0, u "Ljava/io/PrintStream;"), (19, u "security"), (0, u "Ljava/lang/SecurityManager;"), (31, .class_ 209), (0, u "java/lang/System$1"), (7, u "props"), (0, u "Ljava/util/Properties;"), (2, u "lineSeparator"), (0, u "Ljava/lang/String;"), (96, .class_ 321), (1, u "java/lang/System$LoggerFinder"), (5, .class_ 328), (0, u "java/lang/System$Logger"), (67, u "err"), (2, u "out"), (91, u "notSupportedJnuEncoding"), (15, u "in"), (17, u "initialIn"), (0, u "Ljava/io/InputStream;"), (35, u "bootLayer"), (0, u "Ljava/lang/ModuleLayer;"), (99, .class_ 664), (0, u "java/lang/System$2"), (9, u "NEVER"), (2, u "MAYBE"), (49, u "arraycopy"), (0, u "(Ljava/lang/Object;ILjava/lang/Object;II)V"), (72, .class_ 802), (0, u "java/lang/System$Logger$Level")] 31

def k18m0 : Method := mM "<init>" "()V" [] none 2 none
def k18m1 : Method := mM "arraycopy" "(Ljava/lang/Object;ILjava/lang/Object;II)V" [(.object "java/lang/Object"), .int, (.object "java/lang/Object"), .int, .int] none 265 none
/-- java/lang/System -/
def k18 : Class := { plain "java/lang/System" (some 0) with
  accessFlags := 49
  interfaces := #[]
  cf := some (fileOf pool18 8 #[.nestMembers #[319, 327, 801, 108, 663, 208]] #[mI 2 5 6, mI 265 727 728] 49 2 #[] #[fI 25 507 526, fI 25 399 155, fI 25 396 155, fI 10 525 526, fI 26 674 12, fI 26 677 12, fI 10 11 12, fI 74 175 176, fI 10 491 222, fI 74 29 30, fI 74 154 155, fI 10 217 218, fI 10 221 222, fI 8 562 563])
  fields := #[{ name := "in", type := (.object "java/io/InputStream"), accessFlags := 25, slot := 0, constantValue := 0 }, { name := "out", type := (.object "java/io/PrintStream"), accessFlags := 25, slot := 1, constantValue := 0 }, { name := "err", type := (.object "java/io/PrintStream"), accessFlags := 25, slot := 2, constantValue := 0 }, { name := "initialIn", type := (.object "java/io/InputStream"), accessFlags := 10, slot := 3, constantValue := 0 }, { name := "NEVER", type := .int, accessFlags := 26, slot := 4, constantValue := 0 }, { name := "MAYBE", type := .int, accessFlags := 26, slot := 5, constantValue := 0 }, { name := "allowSecurityManager", type := .int, accessFlags := 10, slot := 6, constantValue := 0 }, { name := "security", type := (.object "java/lang/SecurityManager"), accessFlags := 74, slot := 7, constantValue := 0 }, { name := "notSupportedJnuEncoding", type := (.object "java/lang/String"), accessFlags := 10, slot := 8, constantValue := 0 }, { name := "cons", type := (.object "java/io/Console"), accessFlags := 74, slot := 9, constantValue := 0 }, { name := "initialErrStream", type := (.object "java/io/PrintStream"), accessFlags := 74, slot := 10, constantValue := 0 }, { name := "props", type := (.object "java/util/Properties"), accessFlags := 10, slot := 11, constantValue := 0 }, { name := "lineSeparator", type := (.object "java/lang/String"), accessFlags := 10, slot := 12, constantValue := 0 }, { name := "bootLayer", type := (.object "java/lang/ModuleLayer"), accessFlags := 8, slot := 13, constantValue := 0 }]
  methods := #[k18m0, k18m1]
  instanceTypes := #[]
  staticTypes := #[(.object "java/io/InputStream"), (.object "java/io/PrintStream"), (.object "java/io/PrintStream"), (.object "java/io/InputStream"), .int, .int, .int, (.object "java/lang/SecurityManager"), (.object "java/lang/String"), (.object "java/io/Console"), (.object "java/io/PrintStream"), (.object "java/util/Properties"), (.object "java/lang/String"), (.object "java/lang/ModuleLayer")]
  resolved := Array.replicate 834 none
  statics := none }

def pool19 : Array CpInfo := pool [(1, u "java/lang/Cloneable"), (0, .class_ 1), (0, u "java/lang/Object"), (0, .class_ 3)] 3

/-- java/lang/Cloneable -/
def k19 : Class := { plain "java/lang/Cloneable" (some 0) with
  accessFlags := 1537
  interfaces := #[]
  cf := some (fileOf pool19 2 #[] #[] 1537 4 #[] #[])
  fields := #[]
  methods := #[]
  instanceTypes := #[]
  staticTypes := #[]
  resolved := Array.replicate 8 none
  statics := none }

/-- the primitive byte -/
def k20 : Class := { plain "byte" none with kind := .primitive 'B', accessFlags := 0x411 }
/-- [B -/
def k21 : Class := { plain "[B" (some 0) with kind := .array 20 .byte, interfaces := #[19, 2], accessFlags := 1041 }

/-- the primitive char -/
def k22 : Class := { plain "char" none with kind := .primitive 'C', accessFlags := 0x411 }
/-- [C -/
def k23 : Class := { plain "[C" (some 0) with kind := .array 22 .char, interfaces := #[19, 2], accessFlags := 1041 }

/-- the primitive int -/
def k24 : Class := { plain "int" none with kind := .primitive 'I', accessFlags := 0x411 }
/-- [I -/
def k25 : Class := { plain "[I" (some 0) with kind := .array 24 .int, interfaces := #[19, 2], accessFlags := 1041 }

/-- [Lcom/example/killdeer/killdeer/EndingStatements$Token; -/
def k26 : Class := { plain "[Lcom/example/killdeer/killdeer/EndingStatements$Token;" (some 0) with kind := .array 13 (.object "com/example/killdeer/killdeer/EndingStatements$Token"), interfaces := #[19, 2], accessFlags := 1041 }

def heap : Heap := #[{ cls := 7, slots := #[.long 0, .int 1, .null, .int 0, .null, .int 0, .int 0], vm := .statics 7 },
  { cls := 9, slots := #[.null, .null, .null], vm := .statics 9 },
  { cls := 13, slots := #[.ref 4, .ref 5, .ref 6, .null], vm := .statics 13 },
  { cls := 16, slots := #[.ref 7, .ref 8, .ref 9, .null], vm := .statics 16 },
  { cls := 13, slots := #[.null, .int 0, .int 0], vm := .none },
  { cls := 13, slots := #[.null, .int 1, .int 0], vm := .none },
  { cls := 13, slots := #[.null, .int 2, .int 0], vm := .none },
  { cls := 16, slots := #[.null, .int 0, .int 0], vm := .none },
  { cls := 16, slots := #[.null, .int 1, .int 0], vm := .none },
  { cls := 16, slots := #[.null, .int 2, .int 0], vm := .none }]
def classes : Array Class := #[k0, k1, k2, k3, k4, k5, k6, k7, k8, k9, k10, k11, k12, k13, k14, k15, k16, k17, k18, k19, k20, k21, k22, k23, k24, k25, k26]
def interned : List (Array UInt16 × Addr) := []
def slotsUsed : Nat := 36
def theMethod : MethodId := ⟨1, 1⟩
def args0 : Array Value := #[.int 0, .int 0, .int 0, .int 0, .int 0, .int 0]
def aboutOver (below : List Frame) : State where
  vm := { classes := classes, interned := interned.toArray }
  heap := heap
  slotsUsed := slotsUsed
  threads := #[{ frames := .invoking theMethod args0 :: below }]
def below0 : List Frame := [.native { method := ⟨0, 0⟩, args := #[] }]
def about1 : State := aboutOver below0
def p0 : Program := .bare "" "" ""
def e0 : Env := launch0.env 0 0 0
theorem w_frames : about1.frames = Frame.invoking theMethod args0 :: below0 := rfl
set_option maxRecDepth 65536 in
theorem w_args : argsFit about1.vm theMethod args0 = true := by decide +kernel
set_option maxRecDepth 65536 in
theorem w_heap : heapFits about1 = true := by decide +kernel
set_option maxRecDepth 65536 in
theorem w_runnable : about1.curStatus? = some .runnable := by decide +kernel
set_option maxRecDepth 65536 in
theorem w_alone : about1.alone = true := by decide +kernel
set_option maxRecDepth 65536 in
theorem w_named : about1.methodNamed? x = some theMethod := by decide +kernel
set_option maxRecDepth 65536 in
theorem w_hears : about1.hears theMethod below0 = true := by decide +kernel
set_option maxRecDepth 65536 in
theorem w_ripe : about1.ripe theMethod args0 below0 = true := by decide +kernel
theorem w_running : about1.status = .running := rfl
set_option maxRecDepth 65536 in
theorem w_room : about1.hasRoom e0.platform room_1 = true :=
  launch0.hasRoom_least _ room_1 (by decide +kernel) (by decide +kernel) (by decide +kernel) (by decide +kernel) (by decide +kernel) (by decide +kernel)
theorem allAtoms_all (ts : List Jvm.Cond) (a : Array Jvm.Value) (st : Jvm.State) : (allAtoms ts).before a st = ts.all (fun c => c.before a st) := by
  induction ts with
  | nil => rfl
  | cons c t ih =>
    show (Jvm.Cond.and c (allAtoms t)).before a st = _
    rw [Jvm.Cond.before_and, ih, List.all_cons]
def words1 : List Jvm.Cond := Jvm.Cond.code x code maxLocals ret :: tables_1
/-- a 'code' word, met by the world's own term for the bytes: nothing is compared byte by byte -/
theorem code_word {y : MethodName} {bytes : ByteArray} {mx : Nat} {rt : Option FieldType} {a : Array Value} {s : State} {m : MethodId} {meth : Method} {c : Code} (h1 : s.methodNamed? y = some m) (h2 : s.vm.method? m = some meth) (h3 : meth.code = some c) (h4 : c.code = bytes)
    (h5 : (c.maxLocals == mx && c.exceptionTable.isEmpty && decide (c.maxStack ≤ mostOperands) && decide (meth.sig.returnType = rt) && !meth.locks && decide (parseMethodDescriptor y.desc = some meth.sig)) = true) : (Jvm.Cond.code y bytes mx rt).before a s = true := by
  simp only [Bool.and_eq_true, beq_iff_eq, Bool.not_eq_true', decide_eq_true_eq] at h5
  obtain ⟨⟨⟨⟨⟨g1, g2⟩, g3⟩, g4⟩, g5⟩, g6⟩ := h5
  simp [Cond.before, Cond.holds, Cond.value, h1, h2, h3, h4, g1, g2, g3, g4, g5, g6]
def isCode : Jvm.Cond → Bool
  | .code _ _ _ _ => true
  | _ => false
theorem all_split {L : List Jvm.Cond} {P : Jvm.Cond → Bool} (h1 : L.all (fun c => isCode c || P c) = true) (h2 : ∀ c ∈ L.filter isCode, P c = true) : L.all P = true := by
  refine List.all_eq_true.mpr fun c hc => ?_
  have h := List.all_eq_true.mp h1 c hc
  rcases Bool.eq_false_or_eq_true (isCode c) with hi | hi
  · exact h2 c (List.mem_filter.mpr ⟨hc, hi⟩)
  · simpa [hi] using h
def codes1 : List Jvm.Cond := [Jvm.Cond.code x code maxLocals ret, Jvm.Cond.code ({ cls := "com/example/killdeer/killdeer/EndingStatementsOfPinLaw", name := "put", desc := "([CII)V" } : Jvm.MethodName) method_10_code (5 : Nat) (Option.none : Option Jvm.ClassFile.FieldType), Jvm.Cond.code ({ cls := "com/example/killdeer/killdeer/EndingStatementsOfPinLaw", name := "word", desc := "(I)Ljava/lang/String;" } : Jvm.MethodName) method_6_code (1 : Nat) (Option.some (FieldType.object "java/lang/String")), Jvm.Cond.code ({ cls := "com/example/killdeer/killdeer/EndingStatementsOfPinLaw", name := "ch", desc := "(Ljava/lang/String;II)C" } : Jvm.MethodName) method_9_code (4 : Nat) (Option.some FieldType.char), Jvm.Cond.code ({ cls := "java/lang/String", name := "length", desc := "()I" } : Jvm.MethodName) jdk_42_method_54_code (1 : Nat) (Option.some FieldType.int), Jvm.Cond.code ({ cls := "java/lang/String", name := "coder", desc := "()B" } : Jvm.MethodName) jdk_42_method_152_code (1 : Nat) (Option.some FieldType.byte), Jvm.Cond.code ({ cls := "java/lang/String", name := "charAt", desc := "(I)C" } : Jvm.MethodName) jdk_42_method_56_code (2 : Nat) (Option.some FieldType.char), Jvm.Cond.code ({ cls := "java/lang/String", name := "isLatin1", desc := "()Z" } : Jvm.MethodName) jdk_42_method_154_code (1 : Nat) (Option.some FieldType.boolean), Jvm.Cond.code ({ cls := "java/lang/StringLatin1", name := "charAt", desc := "([BI)C" } : Jvm.MethodName) jdk_43_method_2_code (2 : Nat) (Option.some FieldType.char), Jvm.Cond.code ({ cls := "java/lang/String", name := "checkIndex", desc := "(II)V" } : Jvm.MethodName) jdk_42_method_155_code (2 : Nat) (Option.none : Option Jvm.ClassFile.FieldType), Jvm.Cond.code ({ cls := "jdk/internal/util/Preconditions", name := "checkIndex", desc := "(IILjava/util/function/BiFunction;)I" } : Jvm.MethodName) jdk_41_method_11_code (3 : Nat) (Option.some FieldType.int), Jvm.Cond.code ({ cls := "com/example/killdeer/killdeer/EndingStatementsOfPinLaw", name := "space", desc := "(I)C" } : Jvm.MethodName) method_8_code (2 : Nat) (Option.some FieldType.char), Jvm.Cond.code ({ cls := "com/example/killdeer/killdeer/EndingStatementsOfPinLaw", name := "sepText", desc := "(I)Ljava/lang/String;" } : Jvm.MethodName) method_7_code (1 : Nat) (Option.some (FieldType.object "java/lang/String")), Jvm.Cond.code ({ cls := "java/lang/String", name := "<init>", desc := "([C)V" } : Jvm.MethodName) jdk_42_method_3_code (2 : Nat) (Option.none : Option Jvm.ClassFile.FieldType), Jvm.Cond.code ({ cls := "java/lang/String", name := "<init>", desc := "([CIILjava/lang/Void;)V" } : Jvm.MethodName) jdk_42_method_149_code (6 : Nat) (Option.none : Option Jvm.ClassFile.FieldType), Jvm.Cond.code ({ cls := "java/lang/Object", name := "<init>", desc := "()V" } : Jvm.MethodName) object_method_1_code (1 : Nat) (Option.none : Option Jvm.ClassFile.FieldType), Jvm.Cond.code ({ cls := "java/lang/StringUTF16", name := "compress", desc := "([CII)[B" } : Jvm.MethodName) jdk_52_method_16_code (6 : Nat) (Option.some (FieldType.array FieldType.byte)), Jvm.Cond.code ({ cls := "java/lang/StringUTF16", name := "compress", desc := "([CI[BII)I" } : Jvm.MethodName) jdk_52_method_21_code (7 : Nat) (Option.some FieldType.int), Jvm.Cond.code ({ cls := "java/lang/StringUTF16", name := "coderFromArrayLen", desc := "([BI)B" } : Jvm.MethodName) jdk_52_method_15_code (2 : Nat) (Option.some FieldType.byte), Jvm.Cond.code ({ cls := "com/example/killdeer/killdeer/EndingStatements", name := "of", desc := "(Ljava/lang/String;Z)Lcom/example/killdeer/killdeer/EndingStatements$Place;" } : Jvm.MethodName) prog_11_method_2_code (4 : Nat) (Option.some (FieldType.object "com/example/killdeer/killdeer/EndingStatements$Place")), Jvm.Cond.code ({ cls := "com/example/killdeer/killdeer/EndingStatements", name := "<init>", desc := "(Ljava/lang/String;Z)V" } : Jvm.MethodName) prog_11_method_1_code (3 : Nat) (Option.none : Option Jvm.ClassFile.FieldType), Jvm.Cond.code ({ cls := "com/example/killdeer/killdeer/EndingStatements", name := "read", desc := "()V" } : Jvm.MethodName) prog_11_method_3_code (4 : Nat) (Option.none : Option Jvm.ClassFile.FieldType), Jvm.Cond.code ({ cls := "com/example/killdeer/killdeer/EndingStatements", name := "isSpace", desc := "(C)Z" } : Jvm.MethodName) prog_11_method_16_code (1 : Nat) (Option.some FieldType.boolean), Jvm.Cond.code ({ cls := "java/lang/String", name := "startsWith", desc := "(Ljava/lang/String;I)Z" } : Jvm.MethodName) jdk_42_method_75_code (8 : Nat) (Option.some FieldType.boolean), Jvm.Cond.code ({ cls := "jdk/internal/util/ArraysSupport", name := "mismatch", desc := "([BI[BII)I" } : Jvm.MethodName) jdk_48_method_14_code (8 : Nat) (Option.some FieldType.int), Jvm.Cond.code ({ cls := "com/example/killdeer/killdeer/EndingStatements", name := "isIdentifierStart", desc := "(C)Z" } : Jvm.MethodName) prog_11_method_17_code (1 : Nat) (Option.some FieldType.boolean), Jvm.Cond.code ({ cls := "com/example/killdeer/killdeer/EndingStatements", name := "readWord", desc := "()V" } : Jvm.MethodName) prog_11_method_4_code (5 : Nat) (Option.none : Option Jvm.ClassFile.FieldType), Jvm.Cond.code ({ cls := "com/example/killdeer/killdeer/EndingStatements", name := "isIdentifierPart", desc := "(C)Z" } : Jvm.MethodName) prog_11_method_18_code (1 : Nat) (Option.some FieldType.boolean), Jvm.Cond.code ({ cls := "com/example/killdeer/killdeer/EndingStatements", name := "isDigit", desc := "(C)Z" } : Jvm.MethodName) prog_11_method_20_code (1 : Nat) (Option.some FieldType.boolean), Jvm.Cond.code ({ cls := "com/example/killdeer/killdeer/EndingStatements", name := "lowerCase", desc := "(C)C" } : Jvm.MethodName) prog_11_method_21_code (1 : Nat) (Option.some FieldType.char), Jvm.Cond.code ({ cls := "com/example/killdeer/killdeer/EndingStatements", name := "token", desc := "(Lcom/example/killdeer/killdeer/EndingStatements$Token;I)V" } : Jvm.MethodName) prog_11_method_5_code (4 : Nat) (Option.none : Option Jvm.ClassFile.FieldType), Jvm.Cond.code ({ cls := "com/example/killdeer/killdeer/EndingStatements", name := "isKeyword", desc := "(IILjava/lang/String;)Z" } : Jvm.MethodName) prog_11_method_9_code (5 : Nat) (Option.some FieldType.boolean), Jvm.Cond.code ({ cls := "com/example/killdeer/killdeer/EndingStatements", name := "endStatement", desc := "()V" } : Jvm.MethodName) prog_11_method_6_code (1 : Nat) (Option.none : Option Jvm.ClassFile.FieldType), Jvm.Cond.code ({ cls := "com/example/killdeer/killdeer/EndingStatements", name := "endsTransaction", desc := "()Z" } : Jvm.MethodName) prog_11_method_7_code (3 : Nat) (Option.some FieldType.boolean), Jvm.Cond.code ({ cls := "com/example/killdeer/killdeer/EndingStatements", name := "isWord", desc := "(ILjava/lang/String;)Z" } : Jvm.MethodName) prog_11_method_8_code (3 : Nat) (Option.some FieldType.boolean), Jvm.Cond.code ({ cls := "java/lang/Math", name := "min", desc := "(II)I" } : Jvm.MethodName) jdk_29_method_69_code (2 : Nat) (Option.some FieldType.int), Jvm.Cond.code ({ cls := "com/example/killdeer/killdeer/EndingStatementsOfPinLaw", name := "code", desc := "(I)I" } : Jvm.MethodName) method_5_code (2 : Nat) (Option.some FieldType.int), Jvm.Cond.code ({ cls := "com/example/killdeer/killdeer/EndingStatementsOfPinLaw", name := "push", desc := "([II)V" } : Jvm.MethodName) method_3_code (2 : Nat) (Option.none : Option Jvm.ClassFile.FieldType), Jvm.Cond.code ({ cls := "com/example/killdeer/killdeer/EndingStatementsOfPinLaw", name := "ends", desc := "([I)Z" } : Jvm.MethodName) method_4_code (5 : Nat) (Option.some FieldType.boolean), Jvm.Cond.code ({ cls := "com/example/killdeer/killdeer/EndingStatements", name := "isNumberPart", desc := "(C)Z" } : Jvm.MethodName) prog_11_method_19_code (1 : Nat) (Option.some FieldType.boolean), Jvm.Cond.code ({ cls := "com/example/killdeer/killdeer/EndingStatements", name := "endOfQuoted", desc := "(IZ)I" } : Jvm.MethodName) prog_11_method_10_code (6 : Nat) (Option.some FieldType.int), Jvm.Cond.code ({ cls := "com/example/killdeer/killdeer/EndingStatements", name := "charAt", desc := "(I)C" } : Jvm.MethodName) prog_11_method_15_code (2 : Nat) (Option.some FieldType.char), Jvm.Cond.code ({ cls := "com/example/killdeer/killdeer/EndingStatements", name := "dollarDelimiterLength", desc := "()I" } : Jvm.MethodName) prog_11_method_11_code (2 : Nat) (Option.some FieldType.int), Jvm.Cond.code ({ cls := "com/example/killdeer/killdeer/EndingStatements", name := "endOfDollarQuoted", desc := "()I" } : Jvm.MethodName) prog_11_method_12_code (3 : Nat) (Option.some FieldType.int), Jvm.Cond.code ({ cls := "java/lang/String", name := "substring", desc := "(II)Ljava/lang/String;" } : Jvm.MethodName) jdk_42_method_92_code (5 : Nat) (Option.some (FieldType.object "java/lang/String")), Jvm.Cond.code ({ cls := "java/lang/String", name := "checkBoundsBeginEnd", desc := "(III)V" } : Jvm.MethodName) jdk_42_method_158_code (3 : Nat) (Option.none : Option Jvm.ClassFile.FieldType), Jvm.Cond.code ({ cls := "jdk/internal/util/Preconditions", name := "checkFromToIndex", desc := "(IIILjava/util/function/BiFunction;)I" } : Jvm.MethodName) jdk_41_method_12_code (4 : Nat) (Option.some FieldType.int), Jvm.Cond.code ({ cls := "java/lang/StringLatin1", name := "newString", desc := "([BII)Ljava/lang/String;" } : Jvm.MethodName) jdk_43_method_47_code (3 : Nat) (Option.some (FieldType.object "java/lang/String")), Jvm.Cond.code ({ cls := "java/util/Arrays", name := "copyOfRange", desc := "([BII)[B" } : Jvm.MethodName) jdk_65_method_132_code (3 : Nat) (Option.some (FieldType.array FieldType.byte)), Jvm.Cond.code ({ cls := "java/util/Arrays", name := "copyOfRangeByte", desc := "([BII)[B" } : Jvm.MethodName) jdk_65_method_133_code (5 : Nat) (Option.some (FieldType.array FieldType.byte)), Jvm.Cond.code ({ cls := "java/util/Arrays", name := "checkLength", desc := "(II)V" } : Jvm.MethodName) jdk_65_method_131_code (2 : Nat) (Option.none : Option Jvm.ClassFile.FieldType), Jvm.Cond.code ({ cls := "java/lang/String", name := "<init>", desc := "([BB)V" } : Jvm.MethodName) jdk_42_method_151_code (3 : Nat) (Option.none : Option Jvm.ClassFile.FieldType), Jvm.Cond.code ({ cls := "java/lang/String", name := "indexOf", desc := "(Ljava/lang/String;I)I" } : Jvm.MethodName) jdk_42_method_85_code (3 : Nat) (Option.some FieldType.int), Jvm.Cond.code ({ cls := "java/lang/String", name := "indexOf", desc := "([BBILjava/lang/String;I)I" } : Jvm.MethodName) jdk_42_method_87_code (8 : Nat) (Option.some FieldType.int), Jvm.Cond.code ({ cls := "java/lang/Math", name := "clamp", desc := "(JII)I" } : Jvm.MethodName) jdk_29_method_73_code (4 : Nat) (Option.some FieldType.int), Jvm.Cond.code ({ cls := "java/lang/Math", name := "max", desc := "(JJ)J" } : Jvm.MethodName) jdk_29_method_66_code (4 : Nat) (Option.some FieldType.long), Jvm.Cond.code ({ cls := "java/lang/Math", name := "min", desc := "(JJ)J" } : Jvm.MethodName) jdk_29_method_70_code (4 : Nat) (Option.some FieldType.long), Jvm.Cond.code ({ cls := "java/lang/StringLatin1", name := "indexOf", desc := "([BI[BII)I" } : Jvm.MethodName) jdk_43_method_25_code (11 : Nat) (Option.some FieldType.int), Jvm.Cond.code ({ cls := "com/example/killdeer/killdeer/EndingStatements", name := "endOfLineComment", desc := "()I" } : Jvm.MethodName) prog_11_method_13_code (2 : Nat) (Option.some FieldType.int), Jvm.Cond.code ({ cls := "com/example/killdeer/killdeer/EndingStatements", name := "endOfBlockComment", desc := "()I" } : Jvm.MethodName) prog_11_method_14_code (3 : Nat) (Option.some FieldType.int)]
set_option maxRecDepth 65536 in
theorem w_c0 : (codes1.getD 0 .tt).before args0 about1 = true := code_word (m := ⟨1, 1⟩) (meth := k1m1) (c := k1c1) (by decide +kernel) rfl rfl rfl (by decide +kernel)
set_option maxRecDepth 65536 in
theorem w_c1 : (codes1.getD 1 .tt).before args0 about1 = true := code_word (m := ⟨1, 9⟩) (meth := k1m9) (c := k1c9) (by decide +kernel) rfl rfl rfl (by decide +kernel)
set_option maxRecDepth 65536 in
theorem w_c2 : (codes1.getD 2 .tt).before args0 about1 = true := code_word (m := ⟨1, 5⟩) (meth := k1m5) (c := k1c5) (by decide +kernel) rfl rfl rfl (by decide +kernel)
set_option maxRecDepth 65536 in
theorem w_c3 : (codes1.getD 3 .tt).before args0 about1 = true := code_word (m := ⟨1, 8⟩) (meth := k1m8) (c := k1c8) (by decide +kernel) rfl rfl rfl (by decide +kernel)
set_option maxRecDepth 65536 in
theorem w_c4 : (codes1.getD 4 .tt).before args0 about1 = true := code_word (m := ⟨7, 2⟩) (meth := k7m2) (c := k7c2) (by decide +kernel) rfl rfl rfl (by decide +kernel)
set_option maxRecDepth 65536 in
theorem w_c5 : (codes1.getD 5 .tt).before args0 about1 = true := code_word (m := ⟨7, 10⟩) (meth := k7m10) (c := k7c10) (by decide +kernel) rfl rfl rfl (by decide +kernel)
set_option maxRecDepth 65536 in
theorem w_c6 : (codes1.getD 6 .tt).before args0 about1 = true := code_word (m := ⟨7, 3⟩) (meth := k7m3) (c := k7c3) (by decide +kernel) rfl rfl rfl (by decide +kernel)
set_option maxRecDepth 65536 in
theorem w_c7 : (codes1.getD 7 .tt).before args0 about1 = true := code_word (m := ⟨7, 11⟩) (meth := k7m11) (c := k7c11) (by decide +kernel) rfl rfl rfl (by decide +kernel)
set_option maxRecDepth 65536 in
theorem w_c8 : (codes1.getD 8 .tt).before args0 about1 = true := code_word (m := ⟨8, 1⟩) (meth := k8m1) (c := k8c1) (by decide +kernel) rfl rfl rfl (by decide +kernel)
set_option maxRecDepth 65536 in
theorem w_c9 : (codes1.getD 9 .tt).before args0 about1 = true := code_word (m := ⟨7, 12⟩) (meth := k7m12) (c := k7c12) (by decide +kernel) rfl rfl rfl (by decide +kernel)
set_option maxRecDepth 65536 in
theorem w_c10 : (codes1.getD 10 .tt).before args0 about1 = true := code_word (m := ⟨9, 1⟩) (meth := k9m1) (c := k9c1) (by decide +kernel) rfl rfl rfl (by decide +kernel)
set_option maxRecDepth 65536 in
theorem w_c11 : (codes1.getD 11 .tt).before args0 about1 = true := code_word (m := ⟨1, 7⟩) (meth := k1m7) (c := k1c7) (by decide +kernel) rfl rfl rfl (by decide +kernel)
set_option maxRecDepth 65536 in
theorem w_c12 : (codes1.getD 12 .tt).before args0 about1 = true := code_word (m := ⟨1, 6⟩) (meth := k1m6) (c := k1c6) (by decide +kernel) rfl rfl rfl (by decide +kernel)
set_option maxRecDepth 65536 in
theorem w_c13 : (codes1.getD 13 .tt).before args0 about1 = true := code_word (m := ⟨7, 1⟩) (meth := k7m1) (c := k7c1) (by decide +kernel) rfl rfl rfl (by decide +kernel)
set_option maxRecDepth 65536 in
theorem w_c14 : (codes1.getD 14 .tt).before args0 about1 = true := code_word (m := ⟨7, 8⟩) (meth := k7m8) (c := k7c8) (by decide +kernel) rfl rfl rfl (by decide +kernel)
set_option maxRecDepth 65536 in
theorem w_c15 : (codes1.getD 15 .tt).before args0 about1 = true := code_word (m := ⟨0, 0⟩) (meth := k0m0) (c := k0c0) (by decide +kernel) rfl rfl rfl (by decide +kernel)
set_option maxRecDepth 65536 in
theorem w_c16 : (codes1.getD 16 .tt).before args0 about1 = true := code_word (m := ⟨10, 2⟩) (meth := k10m2) (c := k10c2) (by decide +kernel) rfl rfl rfl (by decide +kernel)
set_option maxRecDepth 65536 in
theorem w_c17 : (codes1.getD 17 .tt).before args0 about1 = true := code_word (m := ⟨10, 3⟩) (meth := k10m3) (c := k10c3) (by decide +kernel) rfl rfl rfl (by decide +kernel)
set_option maxRecDepth 65536 in
theorem w_c18 : (codes1.getD 18 .tt).before args0 about1 = true := code_word (m := ⟨10, 1⟩) (meth := k10m1) (c := k10c1) (by decide +kernel) rfl rfl rfl (by decide +kernel)
set_option maxRecDepth 65536 in
theorem w_c19 : (codes1.getD 19 .tt).before args0 about1 = true := code_word (m := ⟨11, 1⟩) (meth := k11m1) (c := k11c1) (by decide +kernel) rfl rfl rfl (by decide +kernel)
set_option maxRecDepth 65536 in
theorem w_c20 : (codes1.getD 20 .tt).before args0 about1 = true := code_word (m := ⟨11, 0⟩) (meth := k11m0) (c := k11c0) (by decide +kernel) rfl rfl rfl (by decide +kernel)
set_option maxRecDepth 65536 in
theorem w_c21 : (codes1.getD 21 .tt).before args0 about1 = true := code_word (m := ⟨11, 2⟩) (meth := k11m2) (c := k11c2) (by decide +kernel) rfl rfl rfl (by decide +kernel)
set_option maxRecDepth 65536 in
theorem w_c22 : (codes1.getD 22 .tt).before args0 about1 = true := code_word (m := ⟨11, 15⟩) (meth := k11m15) (c := k11c15) (by decide +kernel) rfl rfl rfl (by decide +kernel)
set_option maxRecDepth 65536 in
theorem w_c23 : (codes1.getD 23 .tt).before args0 about1 = true := code_word (m := ⟨7, 4⟩) (meth := k7m4) (c := k7c4) (by decide +kernel) rfl rfl rfl (by decide +kernel)
set_option maxRecDepth 65536 in
theorem w_c24 : (codes1.getD 24 .tt).before args0 about1 = true := code_word (m := ⟨14, 1⟩) (meth := k14m1) (c := k14c1) (by decide +kernel) rfl rfl rfl (by decide +kernel)
set_option maxRecDepth 65536 in
theorem w_c25 : (codes1.getD 25 .tt).before args0 about1 = true := code_word (m := ⟨11, 16⟩) (meth := k11m16) (c := k11c16) (by decide +kernel) rfl rfl rfl (by decide +kernel)
set_option maxRecDepth 65536 in
theorem w_c26 : (codes1.getD 26 .tt).before args0 about1 = true := code_word (m := ⟨11, 3⟩) (meth := k11m3) (c := k11c3) (by decide +kernel) rfl rfl rfl (by decide +kernel)
set_option maxRecDepth 65536 in
theorem w_c27 : (codes1.getD 27 .tt).before args0 about1 = true := code_word (m := ⟨11, 17⟩) (meth := k11m17) (c := k11c17) (by decide +kernel) rfl rfl rfl (by decide +kernel)
set_option maxRecDepth 65536 in
theorem w_c28 : (codes1.getD 28 .tt).before args0 about1 = true := code_word (m := ⟨11, 19⟩) (meth := k11m19) (c := k11c19) (by decide +kernel) rfl rfl rfl (by decide +kernel)
set_option maxRecDepth 65536 in
theorem w_c29 : (codes1.getD 29 .tt).before args0 about1 = true := code_word (m := ⟨11, 20⟩) (meth := k11m20) (c := k11c20) (by decide +kernel) rfl rfl rfl (by decide +kernel)
set_option maxRecDepth 65536 in
theorem w_c30 : (codes1.getD 30 .tt).before args0 about1 = true := code_word (m := ⟨11, 4⟩) (meth := k11m4) (c := k11c4) (by decide +kernel) rfl rfl rfl (by decide +kernel)
set_option maxRecDepth 65536 in
theorem w_c31 : (codes1.getD 31 .tt).before args0 about1 = true := code_word (m := ⟨11, 8⟩) (meth := k11m8) (c := k11c8) (by decide +kernel) rfl rfl rfl (by decide +kernel)
set_option maxRecDepth 65536 in
theorem w_c32 : (codes1.getD 32 .tt).before args0 about1 = true := code_word (m := ⟨11, 5⟩) (meth := k11m5) (c := k11c5) (by decide +kernel) rfl rfl rfl (by decide +kernel)
set_option maxRecDepth 65536 in
theorem w_c33 : (codes1.getD 33 .tt).before args0 about1 = true := code_word (m := ⟨11, 6⟩) (meth := k11m6) (c := k11c6) (by decide +kernel) rfl rfl rfl (by decide +kernel)
set_option maxRecDepth 65536 in
theorem w_c34 : (codes1.getD 34 .tt).before args0 about1 = true := code_word (m := ⟨11, 7⟩) (meth := k11m7) (c := k11c7) (by decide +kernel) rfl rfl rfl (by decide +kernel)
set_option maxRecDepth 65536 in
theorem w_c35 : (codes1.getD 35 .tt).before args0 about1 = true := code_word (m := ⟨15, 2⟩) (meth := k15m2) (c := k15c2) (by decide +kernel) rfl rfl rfl (by decide +kernel)
set_option maxRecDepth 65536 in
theorem w_c36 : (codes1.getD 36 .tt).before args0 about1 = true := code_word (m := ⟨1, 4⟩) (meth := k1m4) (c := k1c4) (by decide +kernel) rfl rfl rfl (by decide +kernel)
set_option maxRecDepth 65536 in
theorem w_c37 : (codes1.getD 37 .tt).before args0 about1 = true := code_word (m := ⟨1, 2⟩) (meth := k1m2) (c := k1c2) (by decide +kernel) rfl rfl rfl (by decide +kernel)
set_option maxRecDepth 65536 in
theorem w_c38 : (codes1.getD 38 .tt).before args0 about1 = true := code_word (m := ⟨1, 3⟩) (meth := k1m3) (c := k1c3) (by decide +kernel) rfl rfl rfl (by decide +kernel)
set_option maxRecDepth 65536 in
theorem w_c39 : (codes1.getD 39 .tt).before args0 about1 = true := code_word (m := ⟨11, 18⟩) (meth := k11m18) (c := k11c18) (by decide +kernel) rfl rfl rfl (by decide +kernel)
set_option maxRecDepth 65536 in
theorem w_c40 : (codes1.getD 40 .tt).before args0 about1 = true := code_word (m := ⟨11, 9⟩) (meth := k11m9) (c := k11c9) (by decide +kernel) rfl rfl rfl (by decide +kernel)
set_option maxRecDepth 65536 in
theorem w_c41 : (codes1.getD 41 .tt).before args0 about1 = true := code_word (m := ⟨11, 14⟩) (meth := k11m14) (c := k11c14) (by decide +kernel) rfl rfl rfl (by decide +kernel)
set_option maxRecDepth 65536 in
theorem w_c42 : (codes1.getD 42 .tt).before args0 about1 = true := code_word (m := ⟨11, 10⟩) (meth := k11m10) (c := k11c10) (by decide +kernel) rfl rfl rfl (by decide +kernel)
set_option maxRecDepth 65536 in
theorem w_c43 : (codes1.getD 43 .tt).before args0 about1 = true := code_word (m := ⟨11, 11⟩) (meth := k11m11) (c := k11c11) (by decide +kernel) rfl rfl rfl (by decide +kernel)
set_option maxRecDepth 65536 in
theorem w_c44 : (codes1.getD 44 .tt).before args0 about1 = true := code_word (m := ⟨7, 7⟩) (meth := k7m7) (c := k7c7) (by decide +kernel) rfl rfl rfl (by decide +kernel)
set_option maxRecDepth 65536 in
theorem w_c45 : (codes1.getD 45 .tt).before args0 about1 = true := code_word (m := ⟨7, 13⟩) (meth := k7m13) (c := k7c13) (by decide +kernel) rfl rfl rfl (by decide +kernel)
set_option maxRecDepth 65536 in
theorem w_c46 : (codes1.getD 46 .tt).before args0 about1 = true := code_word (m := ⟨9, 2⟩) (meth := k9m2) (c := k9c2) (by decide +kernel) rfl rfl rfl (by decide +kernel)
set_option maxRecDepth 65536 in
theorem w_c47 : (codes1.getD 47 .tt).before args0 about1 = true := code_word (m := ⟨8, 3⟩) (meth := k8m3) (c := k8c3) (by decide +kernel) rfl rfl rfl (by decide +kernel)
set_option maxRecDepth 65536 in
theorem w_c48 : (codes1.getD 48 .tt).before args0 about1 = true := code_word (m := ⟨17, 2⟩) (meth := k17m2) (c := k17c2) (by decide +kernel) rfl rfl rfl (by decide +kernel)
set_option maxRecDepth 65536 in
theorem w_c49 : (codes1.getD 49 .tt).before args0 about1 = true := code_word (m := ⟨17, 3⟩) (meth := k17m3) (c := k17c3) (by decide +kernel) rfl rfl rfl (by decide +kernel)
set_option maxRecDepth 65536 in
theorem w_c50 : (codes1.getD 50 .tt).before args0 about1 = true := code_word (m := ⟨17, 1⟩) (meth := k17m1) (c := k17c1) (by decide +kernel) rfl rfl rfl (by decide +kernel)
set_option maxRecDepth 65536 in
theorem w_c51 : (codes1.getD 51 .tt).before args0 about1 = true := code_word (m := ⟨7, 9⟩) (meth := k7m9) (c := k7c9) (by decide +kernel) rfl rfl rfl (by decide +kernel)
set_option maxRecDepth 65536 in
theorem w_c52 : (codes1.getD 52 .tt).before args0 about1 = true := code_word (m := ⟨7, 5⟩) (meth := k7m5) (c := k7c5) (by decide +kernel) rfl rfl rfl (by decide +kernel)
set_option maxRecDepth 65536 in
theorem w_c53 : (codes1.getD 53 .tt).before args0 about1 = true := code_word (m := ⟨7, 6⟩) (meth := k7m6) (c := k7c6) (by decide +kernel) rfl rfl rfl (by decide +kernel)
set_option maxRecDepth 65536 in
theorem w_c54 : (codes1.getD 54 .tt).before args0 about1 = true := code_word (m := ⟨15, 4⟩) (meth := k15m4) (c := k15c4) (by decide +kernel) rfl rfl rfl (by decide +kernel)
set_option maxRecDepth 65536 in
theorem w_c55 : (codes1.getD 55 .tt).before args0 about1 = true := code_word (m := ⟨15, 1⟩) (meth := k15m1) (c := k15c1) (by decide +kernel) rfl rfl rfl (by decide +kernel)
set_option maxRecDepth 65536 in
theorem w_c56 : (codes1.getD 56 .tt).before args0 about1 = true := code_word (m := ⟨15, 3⟩) (meth := k15m3) (c := k15c3) (by decide +kernel) rfl rfl rfl (by decide +kernel)
set_option maxRecDepth 65536 in
theorem w_c57 : (codes1.getD 57 .tt).before args0 about1 = true := code_word (m := ⟨8, 2⟩) (meth := k8m2) (c := k8c2) (by decide +kernel) rfl rfl rfl (by decide +kernel)
set_option maxRecDepth 65536 in
theorem w_c58 : (codes1.getD 58 .tt).before args0 about1 = true := code_word (m := ⟨11, 12⟩) (meth := k11m12) (c := k11c12) (by decide +kernel) rfl rfl rfl (by decide +kernel)
set_option maxRecDepth 65536 in
theorem w_c59 : (codes1.getD 59 .tt).before args0 about1 = true := code_word (m := ⟨11, 13⟩) (meth := k11m13) (c := k11c13) (by decide +kernel) rfl rfl rfl (by decide +kernel)
set_option maxRecDepth 65536 in
theorem codes_eq : words1.filter isCode = codes1 := rfl
theorem w_codes : ∀ c ∈ words1.filter isCode, c.before args0 about1 = true := by
  rw [codes_eq]
  intro c hc
  simp only [codes1, List.mem_cons, List.not_mem_nil, or_false] at hc
  rcases hc with rfl | rfl | rfl | rfl | rfl | rfl | rfl | rfl | rfl | rfl | rfl | rfl | rfl | rfl | rfl | rfl | rfl | rfl | rfl | rfl | rfl | rfl | rfl | rfl | rfl | rfl | rfl | rfl | rfl | rfl | rfl | rfl | rfl | rfl | rfl | rfl | rfl | rfl | rfl | rfl | rfl | rfl | rfl | rfl | rfl | rfl | rfl | rfl | rfl | rfl | rfl | rfl | rfl | rfl | rfl | rfl | rfl | rfl | rfl | rfl
  · exact w_c0
  · exact w_c1
  · exact w_c2
  · exact w_c3
  · exact w_c4
  · exact w_c5
  · exact w_c6
  · exact w_c7
  · exact w_c8
  · exact w_c9
  · exact w_c10
  · exact w_c11
  · exact w_c12
  · exact w_c13
  · exact w_c14
  · exact w_c15
  · exact w_c16
  · exact w_c17
  · exact w_c18
  · exact w_c19
  · exact w_c20
  · exact w_c21
  · exact w_c22
  · exact w_c23
  · exact w_c24
  · exact w_c25
  · exact w_c26
  · exact w_c27
  · exact w_c28
  · exact w_c29
  · exact w_c30
  · exact w_c31
  · exact w_c32
  · exact w_c33
  · exact w_c34
  · exact w_c35
  · exact w_c36
  · exact w_c37
  · exact w_c38
  · exact w_c39
  · exact w_c40
  · exact w_c41
  · exact w_c42
  · exact w_c43
  · exact w_c44
  · exact w_c45
  · exact w_c46
  · exact w_c47
  · exact w_c48
  · exact w_c49
  · exact w_c50
  · exact w_c51
  · exact w_c52
  · exact w_c53
  · exact w_c54
  · exact w_c55
  · exact w_c56
  · exact w_c57
  · exact w_c58
  · exact w_c59
set_option maxRecDepth 65536 in
theorem w_t1 : (words1.take 24).all (fun c => isCode c || c.before args0 about1) = true := by decide +kernel
set_option maxRecDepth 65536 in
theorem w_t2 : ((words1.drop 24).take 24).all (fun c => isCode c || c.before args0 about1) = true := by decide +kernel
set_option maxRecDepth 65536 in
theorem w_t3 : (((words1.drop 24).drop 24).take 24).all (fun c => isCode c || c.before args0 about1) = true := by decide +kernel
set_option maxRecDepth 65536 in
theorem w_t4 : ((((words1.drop 24).drop 24).drop 24).take 24).all (fun c => isCode c || c.before args0 about1) = true := by decide +kernel
set_option maxRecDepth 65536 in
theorem w_t5 : (((((words1.drop 24).drop 24).drop 24).drop 24).take 24).all (fun c => isCode c || c.before args0 about1) = true := by decide +kernel
set_option maxRecDepth 65536 in
theorem w_t6 : ((((((words1.drop 24).drop 24).drop 24).drop 24).drop 24).take 24).all (fun c => isCode c || c.before args0 about1) = true := by decide +kernel
set_option maxRecDepth 65536 in
theorem w_t7 : (((((((words1.drop 24).drop 24).drop 24).drop 24).drop 24).drop 24).take 24).all (fun c => isCode c || c.before args0 about1) = true := by decide +kernel
set_option maxRecDepth 65536 in
theorem w_t8 : ((((((((words1.drop 24).drop 24).drop 24).drop 24).drop 24).drop 24).drop 24).take 24).all (fun c => isCode c || c.before args0 about1) = true := by decide +kernel
set_option maxRecDepth 65536 in
theorem w_t9 : (((((((((words1.drop 24).drop 24).drop 24).drop 24).drop 24).drop 24).drop 24).drop 24).take 24).all (fun c => isCode c || c.before args0 about1) = true := by decide +kernel
set_option maxRecDepth 65536 in
theorem w_t10 : ((((((((((words1.drop 24).drop 24).drop 24).drop 24).drop 24).drop 24).drop 24).drop 24).drop 24).take 24).all (fun c => isCode c || c.before args0 about1) = true := by decide +kernel
set_option maxRecDepth 65536 in
theorem w_t11 : (((((((((((words1.drop 24).drop 24).drop 24).drop 24).drop 24).drop 24).drop 24).drop 24).drop 24).drop 24).take 24).all (fun c => isCode c || c.before args0 about1) = true := by decide +kernel
set_option maxRecDepth 65536 in
theorem w_t12 : ((((((((((((words1.drop 24).drop 24).drop 24).drop 24).drop 24).drop 24).drop 24).drop 24).drop 24).drop 24).drop 24).take 24).all (fun c => isCode c || c.before args0 about1) = true := by decide +kernel
set_option maxRecDepth 65536 in
theorem w_t13 : (((((((((((((words1.drop 24).drop 24).drop 24).drop 24).drop 24).drop 24).drop 24).drop 24).drop 24).drop 24).drop 24).drop 24).take 24).all (fun c => isCode c || c.before args0 about1) = true := by decide +kernel
set_option maxRecDepth 65536 in
theorem w_t14 : (((((((((((((words1.drop 24).drop 24).drop 24).drop 24).drop 24).drop 24).drop 24).drop 24).drop 24).drop 24).drop 24).drop 24).drop 24).all (fun c => isCode c || c.before args0 about1) = true := by decide +kernel
theorem w_tables : (allAtoms (Jvm.Cond.code x code maxLocals ret :: tables_1)).before args0 about1 = true := by
  rw [allAtoms_all]
  show words1.all (fun c => c.before args0 about1) = true
  refine all_split ?_ w_codes
  rw [← List.take_append_drop 24 words1, List.all_append, w_t1, ← List.take_append_drop 24 (words1.drop 24), List.all_append, w_t2, ← List.take_append_drop 24 ((words1.drop 24).drop 24), List.all_append, w_t3, ← List.take_append_drop 24 (((words1.drop 24).drop 24).drop 24), List.all_append, w_t4, ← List.take_append_drop 24 ((((words1.drop 24).drop 24).drop 24).drop 24), List.all_append, w_t5, ← List.take_append_drop 24 (((((words1.drop 24).drop 24).drop 24).drop 24).drop 24), List.all_append, w_t6, ← List.take_append_drop 24 ((((((words1.drop 24).drop 24).drop 24).drop 24).drop 24).drop 24), List.all_append, w_t7, ← List.take_append_drop 24 (((((((words1.drop 24).drop 24).drop 24).drop 24).drop 24).drop 24).drop 24), List.all_append, w_t8, ← List.take_append_drop 24 ((((((((words1.drop 24).drop 24).drop 24).drop 24).drop 24).drop 24).drop 24).drop 24), List.all_append, w_t9, ← List.take_append_drop 24 (((((((((words1.drop 24).drop 24).drop 24).drop 24).drop 24).drop 24).drop 24).drop 24).drop 24), List.all_append, w_t10, ← List.take_append_drop 24 ((((((((((words1.drop 24).drop 24).drop 24).drop 24).drop 24).drop 24).drop 24).drop 24).drop 24).drop 24), List.all_append, w_t11, ← List.take_append_drop 24 (((((((((((words1.drop 24).drop 24).drop 24).drop 24).drop 24).drop 24).drop 24).drop 24).drop 24).drop 24).drop 24), List.all_append, w_t12, ← List.take_append_drop 24 ((((((((((((words1.drop 24).drop 24).drop 24).drop 24).drop 24).drop 24).drop 24).drop 24).drop 24).drop 24).drop 24).drop 24), List.all_append, w_t13, w_t14]
  rfl
set_option maxRecDepth 65536 in
theorem w_rest : rest_1_c.before args0 about1 = true := by decide +kernel
set_option maxRecDepth 65536 in
theorem w_case : (Jvm.Cond.and given_1 narrow_1).before args0 about1 = true := by decide +kernel
set_option maxRecDepth 65536 in
theorem w_consts : constsHeld consts_1 about1 := Jvm.Lit.constsHeldB_iff.mp (by decide +kernel)
theorem w_applies : (headSpec (Jvm.Cond.code x code maxLocals ret :: tables_1) room_1).applies x e0.platform about1 = true :=
  (Spec.applies_iff w_frames).mpr ⟨w_running, w_runnable, w_alone, w_named, w_hears, w_ripe, w_room, w_tables⟩
theorem atStart : AtStart classFile x code maxLocals ret World_1 tables_1 room_1 Calls_1 rest_1 Pre_1 launch0 p0 e0 about1 theMethod args0 below0 :=
  ⟨lists_1, trivial, launch0.admits_env _ _ _, launch0.least_env, fairChoices_fair.cas, fairChoices_fair.clock, w_frames, w_args, w_heap, w_applies, ⟨w_consts, trivial⟩, w_rest, w_case⟩
end start1
theorem witness_1 : WitnessClaimed_1 := ⟨start1.p0, start1.e0, start1.about1, start1.theMethod, start1.args0, start1.below0, start1.atStart⟩
end Jvm.Pilot.@@N@@
