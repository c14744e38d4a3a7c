import JvmDerived
import JvmDerived.Pilot.@@N@@Statement
import JvmDerived.Pilot.@@N@@Code
set_option linter.unusedVariables false
set_option linter.unusedSimpArgs false
namespace Jvm.Pilot.@@N@@
open Jvm Jvm.ClassFile Sem Op Lib Jvm.Free Jvm.Stand Jvm.LawKit Jvm.RoadKit Bundle Jvm.Pilot.@@N@@.Jvm.D
section OwnHead
variable {p : Program} {l : Launch} {e : Env} {R : Room} {s : State} {m : MethodId} {args : Array Value} {below : List Frame} {meth : Method} {c : Code} {T T' : State} {Z : State} {own : String} {h h' : Heap} {n0 k n C S : Nat} {a0 : Array Value} {P : Option Value → Heap → Prop} {g g' : JFrame} {pc : Nat} {Ls : Array Slot} {st rest : List Value} {vm0 : Vm} {locs : List Loc}
theorem nfOf {args : Array Value} {s : State} {D : String} {x' z' y : MethodName} (h : (Cond.selects D x' z').before args s = true) (hc : z'.cls = y.cls) : NotFace s y := fun r0 h0 => by
  obtain ⟨c2, r2, m2, q1, q2, q3, q4, kP, hkP, hkPi⟩ := Cond.selects_spec h
  have e1 := findClass_of_methodNamed q3
  have e2 := findClass_of_methodNamed h0
  rw [hc] at e1
  have e3 : m2.cls = r0.cls := Option.some.inj (e1.symm.trans e2)
  exact ⟨kP, e3 ▸ hkP, hkPi⟩
/-- the tables over which the walk stands, and how it ends: narrow (nothing interned) -/
def Bk (s : State) (vm : Vm) (n : Nat) : Prop := vm = s.vm
theorem Bk.mono {vm : Vm} {n n' : Nat} (h : Bk s vm n) (_ : n ≤ n') : Bk s vm n' := h
theorem Bk.start : Bk s s.vm n := rfl
abbrev EndF (s : State) (o : Outcome) (t : State) (L : List Loc) (k n : Nat) : Prop := FrameEnd s o t L k n
theorem EndF.mono {o : Outcome} {t : State} {L : List Loc} {k' n' : Nat} (h : EndF s o t L k n) (hk : k ≤ k') (hn : n ≤ n') : EndF s o t L k' n' := ⟨h.1, h.2.1, h.2.2.mono hk hn⟩
theorem Bk.leave (X : Stand p l e R (s.setVm vm0) m args below meth c T locs k n) (hB : Bk s vm0 T.heap.size) {v : Option Value} (hv : meth.sig.returnType = none → v = none) (hlk : meth.locks = false) :
    ∃ fs, (∀ (f : JFrame) (acts : List Action), f.method = m → f.locked = none → f.entered = [] → (doReturn e (T.setTop f) acts v).1 = T.setFrames fs) ∧ (T.setFrames fs).status = .running ∧ Ended (T.setFrames fs) below (.returned v) ∧ EndF s (.returned v) (T.setFrames fs) locs k n := by
  cases hB
  have X : Stand p l e R s m args below meth c T locs k n := X
  obtain ⟨fs, hr, hrun, hended, hW, hsame⟩ := X.leave hv hlk
  exact ⟨fs, hr, hrun, hended, ⟨_, rfl⟩, hW, hsame⟩
/-- a body's contract -/
def Met (l : Launch) (Z : State) (n0 : Nat) (y : MethodName) (bytes : ByteArray) (maxL : Nat) (ret : Option FieldType) (rm : Room) (as' : Array Value) (h0 : Heap) (Q : Option Value → Heap → Prop) : Prop :=
  MetFree l y (head1 [Cond.code y bytes maxL ret] rm) (fun a U => a = as' ∧ Z.Warmed39 U.vm ∧ U.heap = h0) (fun _ _ _ _ _ => True) (fun _ U o U' => ∃ v L, o = .returned v ∧ (Fr n0 L ∧ Q v U'.heap) ∧ EndF U o U' L rm.cells rm.slots)
theorem Bk.callS (X : Stand p l e R (s.setVm vm0) m args below meth c T locs k n) (hx : p.tables.exec = Jvm.exec) (hB : Bk s vm0 T.heap.size) (hZ : Z.Warmed39 vm0) (hown : vm0.findClass own = some m.cls) {index : Nat} {y : MethodName} {bytes : ByteArray} {maxL : Nat} {ret : Option FieldType} {rm : Room} {argsL : List Value} {Q : Option Value → Heap → Prop} {ps : List FieldType} {r : Option FieldType} (w1 : (Cond.methodLink own index y).before a0 Z = true) (w2 : (Cond.static y).before a0 Z = true) (wz : (Cond.initialized y.cls).before a0 Z = true) (wc : (Cond.code y bytes maxL ret).before a0 Z = true) (hy : y.cls ≠ "java/lang/invoke/MethodHandle" ∧ y.cls ≠ "java/lang/invoke/VarHandle")
    (hpd : parseMethodDescriptor y.desc = some ⟨ps, r⟩) (hlen : argsL.length = ps.length) (M : Met l Z n0 y bytes maxL ret rm argsL.toArray T.heap Q) (hsz : Ls.size = c.maxLocals) (hstk : st = argsL.reverse ++ rest) (hf : rm.frames + 1 ≤ R.frames) (hl : (rest.map fun v => v.category).sum + (maxL + 11) + rm.locals ≤ R.locals) (hd : decode c.code pc = .ok (.invokestatic index, 3)) (hc : k + rm.cells ≤ R.cells) (hs : n + rm.slots ≤ R.slots) :
    ∃ (v : Option Value) (vm1 : Vm) (T1 : State) (L2 : List Loc), Stand p l e R (s.setVm vm1) m args below meth c T1 (locs ++ L2) (k + rm.cells) (n + rm.slots) ∧ Bk s vm1 T1.heap.size ∧ Z.Warmed39 vm1 ∧ vm1.findClass own = some m.cls ∧ Fr n0 L2 ∧ Q v T1.heap ∧ ∀ t, Steps p.tables e below (T1.setTop (mkF m (pc + 3) Ls (v.toList ++ rest))) t → Steps p.tables e below (T.setTop (mkF m pc Ls st)) t := by
  cases hB
  have X : Stand p l e R s m args below meth c T locs k n := X
  have hZ' : Z.Warmed39 s.vm := hZ
  obtain ⟨v, vm1, ⟨T1, L1, k1, n1⟩, -, X1, ⟨L2, ⟨N2, hQ⟩, l1, y1, z1⟩, st1⟩ := Jvm.LawKit.callS X hx (y := y) hown (mvT (s := s) hZ w1) (mvT (s := s) hZ w2) (mvT (s := s) hZ wz) (mvT (s := s) hZ wc) hy (backOf (Q := fun v h' L => Fr n0 L ∧ Q v h') (W := (rest.map fun v => v.category).sum) M hZ' wc wz hf hl) (g := mkF m pc Ls st) rfl hsz (argsL := argsL) (rest := rest) (lenOf hpd hlen) hstk (by show 2 * 0 + _ ≤ _; omega) hd (fun _ _ => ⟨rfl, rfl, hc, hs⟩)
  dsimp only [Pt.U, Pt.locs, Pt.cells, Pt.slots] at X1 l1 y1 z1 st1 hQ
  subst l1 y1 z1
  exact ⟨v, s.vm, T1, L2, X1, rfl, hZ, hown, N2, hQ, st1⟩
theorem Bk.callSN (X : Stand p l e R (s.setVm vm0) m args below meth c T locs k n) (hx : p.tables.exec = Jvm.exec) (hB : Bk s vm0 T.heap.size) (hZ : Z.Warmed39 vm0) (hown : vm0.findClass own = some m.cls) {index : Nat} {y : MethodName} {bytes : ByteArray} {maxL : Nat} {ret : Option FieldType} {rm : Room} {argsL : List Value} {Q : Option Value → Heap → Prop} {ps : List FieldType} {r : Option FieldType} {host : String} (w1 : (Cond.methodLinkNest own index y host).before a0 Z = true) (w2 : (Cond.static y).before a0 Z = true) (wz : (Cond.initialized y.cls).before a0 Z = true) (wc : (Cond.code y bytes maxL ret).before a0 Z = true) (hy : y.cls ≠ "java/lang/invoke/MethodHandle" ∧ y.cls ≠ "java/lang/invoke/VarHandle")
    (hpd : parseMethodDescriptor y.desc = some ⟨ps, r⟩) (hlen : argsL.length = ps.length) (M : Met l Z n0 y bytes maxL ret rm argsL.toArray T.heap Q) (hsz : Ls.size = c.maxLocals) (hstk : st = argsL.reverse ++ rest) (hf : rm.frames + 1 ≤ R.frames) (hl : (rest.map fun v => v.category).sum + (maxL + 11) + rm.locals ≤ R.locals) (hd : decode c.code pc = .ok (.invokestatic index, 3)) (hc : k + rm.cells ≤ R.cells) (hs : n + rm.slots ≤ R.slots) :
    ∃ (v : Option Value) (vm1 : Vm) (T1 : State) (L2 : List Loc), Stand p l e R (s.setVm vm1) m args below meth c T1 (locs ++ L2) (k + rm.cells) (n + rm.slots) ∧ Bk s vm1 T1.heap.size ∧ Z.Warmed39 vm1 ∧ vm1.findClass own = some m.cls ∧ Fr n0 L2 ∧ Q v T1.heap ∧ ∀ t, Steps p.tables e below (T1.setTop (mkF m (pc + 3) Ls (v.toList ++ rest))) t → Steps p.tables e below (T.setTop (mkF m pc Ls st)) t := by
  cases hB
  have X : Stand p l e R s m args below meth c T locs k n := X
  have hZ' : Z.Warmed39 s.vm := hZ
  obtain ⟨v, vm1, ⟨T1, L1, k1, n1⟩, -, X1, ⟨L2, ⟨N2, hQ⟩, l1, y1, z1⟩, st1⟩ := Jvm.RoadKit.callSN X hx (y := y) (host := host) hown ((Cond.methodLinkNest_wide hZ w1 :)) (mvT (s := s) hZ w2) (mvT (s := s) hZ wz) (mvT (s := s) hZ wc) hy (backOf (Q := fun v h' L => Fr n0 L ∧ Q v h') (W := (rest.map fun v => v.category).sum) M hZ' wc wz hf hl) (g := mkF m pc Ls st) rfl hsz (argsL := argsL) (rest := rest) (lenOf hpd hlen) hstk (by show 2 * 0 + _ ≤ _; omega) hd (fun _ _ => ⟨rfl, rfl, hc, hs⟩)
  dsimp only [Pt.U, Pt.locs, Pt.cells, Pt.slots] at X1 l1 y1 z1 st1 hQ
  subst l1 y1 z1
  exact ⟨v, s.vm, T1, L2, X1, rfl, hZ, hown, N2, hQ, fun _ q => st1.trans q⟩
theorem Bk.callV (X : Stand p l e R (s.setVm vm0) m args below meth c T locs k n) (hx : p.tables.exec = Jvm.exec) (hB : Bk s vm0 T.heap.size) (hZ : Z.Warmed39 vm0) (hown : vm0.findClass own = some m.cls) {index : Nat} {y : MethodName} {bytes : ByteArray} {maxL : Nat} {ret : Option FieldType} {rm : Room} {argsL : List Value} {Q : Option Value → Heap → Prop} {ps : List FieldType} {r : Option FieldType} {z : MethodName} {K : String} {b : Addr} (E : Exa Z T.heap b K) (w1 : (Cond.methodLink own index y).before a0 Z = true) (w2 : (Cond.declares y).before a0 Z = true) (w3 : (Cond.selects K y z).before a0 Z = true) {D : String} {x' z' : MethodName} (w5 : (Cond.selects D x' z').before a0 Z = true) (h5 : z'.cls = y.cls) (w4 : (Cond.instanceMethod z).before a0 Z = true) (wz : (Cond.initialized z.cls).before a0 Z = true) (wc : (Cond.code z bytes maxL ret).before a0 Z = true) (hy : y.cls ≠ "java/lang/invoke/MethodHandle" ∧ y.cls ≠ "java/lang/invoke/VarHandle")
    (hpd : parseMethodDescriptor y.desc = some ⟨ps, r⟩) (hlen : argsL.length = ps.length) (M : Met l Z n0 z bytes maxL ret rm (.ref b :: argsL).toArray T.heap Q) (hsz : Ls.size = c.maxLocals) (hstk : st = argsL.reverse ++ .ref b :: rest) (hf : rm.frames + 1 ≤ R.frames) (hl : (rest.map fun v => v.category).sum + (maxL + 11) + rm.locals ≤ R.locals) (hd : decode c.code pc = .ok (.invokevirtual index, 3)) (hc : k + rm.cells ≤ R.cells) (hs : n + rm.slots ≤ R.slots) :
    ∃ (v : Option Value) (vm1 : Vm) (T1 : State) (L2 : List Loc), Stand p l e R (s.setVm vm1) m args below meth c T1 (locs ++ L2) (k + rm.cells) (n + rm.slots) ∧ Bk s vm1 T1.heap.size ∧ Z.Warmed39 vm1 ∧ vm1.findClass own = some m.cls ∧ Fr n0 L2 ∧ Q v T1.heap ∧ ∀ t, Steps p.tables e below (T1.setTop (mkF m (pc + 3) Ls (v.toList ++ rest))) t → Steps p.tables e below (T.setTop (mkF m pc Ls st)) t := by
  cases hB
  have X : Stand p l e R s m args below meth c T locs k n := X
  have hZ' : Z.Warmed39 s.vm := hZ
  obtain ⟨cq, kq, qa, qb, qc⟩ := isOf (s := s) hZ' rfl E
  obtain ⟨v, vm1, ⟨T1, L1, k1, n1⟩, -, X1, ⟨L2, ⟨N2, hQ⟩, l1, y1, z1⟩, st1⟩ := X.virtualBack hx (y := y) (z := z) hown (mvT (s := s) hZ w1) (mvT (s := s) hZ w2) (nfOf (args := #[]) (mvT (s := s) hZ w5) h5) (mvT (s := s) hZ w3) (mvT (s := s) hZ w4) hy (backOf (Q := fun v h' L => Fr n0 L ∧ Q v h') (W := (rest.map fun v => v.category).sum) M hZ' wc wz hf hl) qa qc (g := mkF m pc Ls st) rfl hsz (Steps.refl _) (argsL := argsL) (rest := rest) (lenOf hpd hlen) hstk (by show 2 * 0 + _ ≤ _; omega) hd (fun _ _ => ⟨rfl, rfl, hc, hs⟩)
  dsimp only [Pt.U, Pt.locs, Pt.cells, Pt.slots] at X1 l1 y1 z1 st1 hQ
  subst l1 y1 z1
  exact ⟨v, s.vm, T1, L2, X1, rfl, hZ, hown, N2, hQ, fun _ q => st1.trans q⟩
theorem Bk.callU (X : Stand p l e R (s.setVm vm0) m args below meth c T locs k n) (hx : p.tables.exec = Jvm.exec) (hB : Bk s vm0 T.heap.size) (hZ : Z.Warmed39 vm0) (hown : vm0.findClass own = some m.cls) {index : Nat} {y : MethodName} {bytes : ByteArray} {maxL : Nat} {ret : Option FieldType} {rm : Room} {argsL : List Value} {Q : Option Value → Heap → Prop} {ps : List FieldType} {r : Option FieldType} {z : MethodName} {owner K : String} {b : Addr} (E : Exa Z T.heap b K) (w1 : (Cond.methodLink own index y).before a0 Z = true) (wsm : (Cond.sameMethod y.cls owner y.name y.desc).before a0 Z = true) (w2 : (Cond.declares ⟨owner, y.name, y.desc⟩).before a0 Z = true) (ho : owner ≠ "java/lang/invoke/MethodHandle" ∧ owner ≠ "java/lang/invoke/VarHandle") (w3 : (Cond.selects K y z).before a0 Z = true) (w4 : (Cond.instanceMethod z).before a0 Z = true) (wz : (Cond.initialized z.cls).before a0 Z = true) (wc : (Cond.code z bytes maxL ret).before a0 Z = true)
    (hpd : parseMethodDescriptor y.desc = some ⟨ps, r⟩) (hlen : argsL.length = ps.length) (M : Met l Z n0 z bytes maxL ret rm (.ref b :: argsL).toArray T.heap Q) (hsz : Ls.size = c.maxLocals) (hstk : st = argsL.reverse ++ .ref b :: rest) (hf : rm.frames + 1 ≤ R.frames) (hl : (rest.map fun v => v.category).sum + (maxL + 11) + rm.locals ≤ R.locals) (hd : decode c.code pc = .ok (.invokevirtual index, 3)) (hc : k + rm.cells ≤ R.cells) (hs : n + rm.slots ≤ R.slots) :
    ∃ (v : Option Value) (vm1 : Vm) (T1 : State) (L2 : List Loc), Stand p l e R (s.setVm vm1) m args below meth c T1 (locs ++ L2) (k + rm.cells) (n + rm.slots) ∧ Bk s vm1 T1.heap.size ∧ Z.Warmed39 vm1 ∧ vm1.findClass own = some m.cls ∧ Fr n0 L2 ∧ Q v T1.heap ∧ ∀ t, Steps p.tables e below (T1.setTop (mkF m (pc + 3) Ls (v.toList ++ rest))) t → Steps p.tables e below (T.setTop (mkF m pc Ls st)) t := by
  cases hB
  have X : Stand p l e R s m args below meth c T locs k n := X
  have hZ' : Z.Warmed39 s.vm := hZ
  obtain ⟨cq, kq, qa, qb, qc⟩ := isOf (s := s) hZ' rfl E
  obtain ⟨v, vm1, ⟨T1, L1, k1, n1⟩, -, X1, ⟨L2, ⟨N2, hQ⟩, l1, y1, z1⟩, st1⟩ := X.virtualBackUp hx (x := y) (y := z) hown (mvT (s := s) hZ w1) (mvT (s := s) hZ wsm) (mvT (s := s) hZ w2) ho (mvT (s := s) hZ w3) (mvT (s := s) hZ w4) (backOf (Q := fun v h' L => Fr n0 L ∧ Q v h') (W := (rest.map fun v => v.category).sum) M hZ' wc wz hf hl) qa qc (g := mkF m pc Ls st) rfl hsz (Steps.refl _) (argsL := argsL) (rest := rest) (lenOf hpd hlen) hstk (by show 2 * 0 + _ ≤ _; omega) hd (fun _ _ => ⟨rfl, rfl, hc, hs⟩)
  dsimp only [Pt.U, Pt.locs, Pt.cells, Pt.slots] at X1 l1 y1 z1 st1 hQ
  subst l1 y1 z1
  exact ⟨v, s.vm, T1, L2, X1, rfl, hZ, hown, N2, hQ, fun _ q => st1.trans q⟩
theorem Bk.callN (X : Stand p l e R (s.setVm vm0) m args below meth c T locs k n) (hx : p.tables.exec = Jvm.exec) (hB : Bk s vm0 T.heap.size) (hZ : Z.Warmed39 vm0) (hown : vm0.findClass own = some m.cls) {index : Nat} {y : MethodName} {bytes : ByteArray} {maxL : Nat} {rm : Room} {argsL : List Value} {Q : Option Value → Heap → Prop} {ps : List FieldType} {r : Option FieldType} {b : Addr} (hin : y.name = "<init>") (w1 : (Cond.methodLink own index y).before a0 Z = true) (w4 : (Cond.instanceMethod y).before a0 Z = true) (wz : (Cond.initialized y.cls).before a0 Z = true) (wc : (Cond.code y bytes maxL none).before a0 Z = true) (hy : y.cls ≠ "java/lang/invoke/MethodHandle" ∧ y.cls ≠ "java/lang/invoke/VarHandle")
    (hpd : parseMethodDescriptor y.desc = some ⟨ps, r⟩) (hlen : argsL.length = ps.length) (M : Met l Z n0 y bytes maxL none rm (.ref b :: argsL).toArray T.heap Q) (hsz : Ls.size = c.maxLocals) (hstk : st = argsL.reverse ++ .ref b :: rest) (hf : rm.frames + 1 ≤ R.frames) (hl : (rest.map fun v => v.category).sum + (maxL + 11) + rm.locals ≤ R.locals) (hd : decode c.code pc = .ok (.invokespecial index, 3)) (hc : k + rm.cells ≤ R.cells) (hs : n + rm.slots ≤ R.slots) :
    ∃ (v : Option Value) (vm1 : Vm) (T1 : State) (L2 : List Loc), Stand p l e R (s.setVm vm1) m args below meth c T1 (locs ++ L2) (k + rm.cells) (n + rm.slots) ∧ Bk s vm1 T1.heap.size ∧ Z.Warmed39 vm1 ∧ vm1.findClass own = some m.cls ∧ Fr n0 L2 ∧ Q v T1.heap ∧ ∀ t, Steps p.tables e below (T1.setTop (mkF m (pc + 3) Ls (v.toList ++ rest))) t → Steps p.tables e below (T.setTop (mkF m pc Ls st)) t := by
  cases hB
  have X : Stand p l e R s m args below meth c T locs k n := X
  have hZ' : Z.Warmed39 s.vm := hZ
  obtain ⟨v, vm1, ⟨T1, L1, k1, n1⟩, -, X1, ⟨L2, ⟨N2, hQ⟩, l1, y1, z1⟩, st1⟩ := X.specialBack hx (y := y) hin hown (mvT (s := s) hZ w1) (mvT (s := s) hZ w4) (mvT (s := s) hZ wc) hy (backOf (Q := fun v h' L => Fr n0 L ∧ Q v h') (W := (rest.map fun v => v.category).sum) M hZ' wc wz hf hl) (g := mkF m pc Ls st) rfl hsz (Steps.refl _) (a := b) (argsL := argsL) (rest := rest) (lenOf hpd hlen) hstk (by show 2 * 0 + _ ≤ _; omega) hd (fun _ _ => ⟨rfl, rfl, hc, hs⟩)
  dsimp only [Pt.U, Pt.locs, Pt.cells, Pt.slots] at X1 l1 y1 z1 st1 hQ
  subst l1 y1 z1
  exact ⟨v, s.vm, T1, L2, X1, rfl, hZ, hown, N2, hQ, fun _ q => st1.trans q⟩
end OwnHead
/-! own layer: a walk in continuation form over the library's laws -/
section OwnKit
variable {p : Program} {l : Launch} {e : Env} {R : Room} {s : State} {m : MethodId} {args : Array Value} {below : List Frame} {meth : Method} {c : Code} {T T' : State} {Z : State} {own : String} {h h' : Heap} {n0 k n C S : Nat} {a0 : Array Value} {P : Option Value → Heap → Prop} {g g' : JFrame} {pc : Nat} {Ls : Array Slot} {st rest : List Value}
/-- where the walk stands: nothing but new cells written, n0 the first new address -/
def Std (p : Program) (l : Launch) (e : Env) (R : Room) (s : State) (m : MethodId) (args : Array Value) (below : List Frame) (meth : Method) (c : Code) (Z : State) (own : String) (n0 : Nat) (T : State) (h : Heap) (k n : Nat) : Prop :=
  ∃ vm0, (∃ locs, Stand p l e R (s.setVm vm0) m args below meth c T locs k n ∧ Fr n0 locs) ∧ T.heap = h ∧ p.tables.exec = Jvm.exec ∧ Z.Warmed39 vm0 ∧ vm0.findClass own = some m.cls ∧ Bk s vm0 h.size ∧ n0 ≤ s.heap.size ∧ meth.locks = false
/-- from here the method returns, and P holds of what it returns and of the heap -/
def Goes (p : Program) (e : Env) (below : List Frame) (s : State) (n0 C S : Nat) (P : Option Value → Heap → Prop) (T : State) (g : JFrame) : Prop :=
  ∃ (s₂ : State) (v : Option Value) (L : List Loc), Steps p.tables e below (T.setTop g) s₂ ∧ s₂.status = .running ∧ Ended s₂ below (.returned v) ∧ (Fr n0 L ∧ P v s₂.heap) ∧ EndF s (.returned v) s₂ L C S
theorem Std.here (X : Std p l e R s m args below meth c Z own n0 T h k n) : At T m c below := by obtain ⟨vm0, ⟨L, X, -⟩, -⟩ := X; exact X.here
theorem Std.hx (X : Std p l e R s m args below meth c Z own n0 T h k n) : p.tables.exec = Jvm.exec := by obtain ⟨vm0, -, -, h, -⟩ := X; exact h
theorem Std.n0le (X : Std p l e R s m args below meth c Z own n0 T h k n) : n0 ≤ h.size := by
  obtain ⟨vm0, ⟨L, X, -⟩, rfl, -, -, -, -, q, -⟩ := X
  exact Nat.le_trans q X.same.2.1
theorem Goes.by (st : ∀ t, Steps p.tables e below (T'.setTop g') t → Steps p.tables e below (T.setTop g) t) (G : Goes p e below s n0 C S P T' g') : Goes p e below s n0 C S P T g := by
  obtain ⟨s₂, v, L, h1, r⟩ := G
  exact ⟨s₂, v, L, st _ h1, r⟩
theorem Goes.mono {P' : Option Value → Heap → Prop} (G : Goes p e below s n0 C S P T g) (q : ∀ v h, P v h → P' v h) : Goes p e below s n0 C S P' T g := by
  obtain ⟨s₂, v, L, h1, h2, h3, ⟨h4, h5⟩, h6⟩ := G
  exact ⟨s₂, v, L, h1, h2, h3, ⟨h4, q _ _ h5⟩, h6⟩
theorem Std.retOut (X : Std p l e R s m args below meth c Z own n0 T h k n) {w : Value} {t : FieldType} {i : Instr} (hret : meth.sig.returnType = some t) (hn : narrow t w = w)
    (hi : (i = .ireturn ∧ (t = .int ∨ t = .boolean ∨ t = .byte ∨ t = .char ∨ t = .short) ∧ ∃ z, w = .int z) ∨ (i = .lreturn ∧ t = .long ∧ ∃ z, w = .long z) ∨ (i = .dreturn ∧ t = .double ∧ ∃ z, w = .double z) ∨ (i = .freturn ∧ t = .float ∧ ∃ z, w = .float z) ∨ (i = .areturn ∧ t.isReference = true ∧ w.isRef = true))
    (hd : decode c.code pc = .ok (i, 1)) (hc : k ≤ C) (hs : n ≤ S) (hP : P (some w) h) : Goes p e below s n0 C S P T (mkF m pc Ls (w :: rest)) := by
  obtain ⟨vm0, ⟨L, X, N⟩, rfl, hx, -, -, hB, -, hlk⟩ := X
  obtain ⟨fs, hr, hrun, hended, hE⟩ := Bk.leave X hB (v := some w) (fun q => by rw [hret] at q; cases q) hlk
  exact ⟨_, _, L, Jvm.RoadKit.retOut X hx hret hn hi hd hr, hrun, hended, ⟨N, hP⟩, EndF.mono hE hc hs⟩
theorem Std.retI (X : Std p l e R s m args below meth c Z own n0 T h k n) {z : Int32} (hret : meth.sig.returnType = some .int) (hd : decode c.code pc = .ok (.ireturn, 1)) (hc : k ≤ C) (hs : n ≤ S) (hP : P (some (.int z)) h) : Goes p e below s n0 C S P T (mkF m pc Ls (.int z :: rest)) :=
  X.retOut hret rfl (Or.inl ⟨rfl, Or.inl rfl, z, rfl⟩) hd hc hs hP
theorem Std.retA (X : Std p l e R s m args below meth c Z own n0 T h k n) {w : Value} {t : FieldType} (hret : meth.sig.returnType = some t) (ht : t.isReference = true) (hw : w.isRef = true) (hd : decode c.code pc = .ok (.areturn, 1)) (hc : k ≤ C) (hs : n ≤ S) (hP : P (some w) h) : Goes p e below s n0 C S P T (mkF m pc Ls (w :: rest)) :=
  X.retOut hret (by rcases ref_cases hw with rfl | ⟨a, rfl⟩ <;> cases t <;> rfl) (Or.inr (Or.inr (Or.inr (Or.inr ⟨rfl, ht, hw⟩)))) hd hc hs hP
theorem Std.retJ (X : Std p l e R s m args below meth c Z own n0 T h k n) {z : Int64} (hret : meth.sig.returnType = some .long) (hd : decode c.code pc = .ok (.lreturn, 1)) (hc : k ≤ C) (hs : n ≤ S) (hP : P (some (.long z)) h) : Goes p e below s n0 C S P T (mkF m pc Ls (.long z :: rest)) :=
  X.retOut hret rfl (Or.inr (Or.inl ⟨rfl, rfl, z, rfl⟩)) hd hc hs hP
theorem Std.retN (X : Std p l e R s m args below meth c Z own n0 T h k n) {z : Int32} {t : FieldType} (hret : meth.sig.returnType = some t) (ht : t = .boolean ∨ t = .byte ∨ t = .char ∨ t = .short) (hd : decode c.code pc = .ok (.ireturn, 1)) (hc : k ≤ C) (hs : n ≤ S) (hP : P (some (.int (nar t z))) h) : Goes p e below s n0 C S P T (mkF m pc Ls (.int z :: rest)) := by
  obtain ⟨vm0, ⟨L, X, N⟩, rfl, hx, -, -, hB, -, hlk⟩ := X
  obtain ⟨fs, hr, hrun, hended, hE⟩ := Bk.leave X hB (v := some (.int (nar t z))) (fun q => by rw [hret] at q; cases q) hlk
  exact ⟨_, _, L, Jvm.RoadKit.retN X hx hret ht hd hr, hrun, hended, ⟨N, hP⟩, EndF.mono hE hc hs⟩
theorem Std.retZ (X : Std p l e R s m args below meth c Z own n0 T h k n) {z : Int32} (hret : meth.sig.returnType = some .boolean) (hd : decode c.code pc = .ok (.ireturn, 1)) (hc : k ≤ C) (hs : n ≤ S) (hP : P (some (.int (nar .boolean z))) h) : Goes p e below s n0 C S P T (mkF m pc Ls (.int z :: rest)) :=
  X.retN hret (Or.inl rfl) hd hc hs hP
theorem Std.retV (X : Std p l e R s m args below meth c Z own n0 T h k n) (hret : meth.sig.returnType = none) (hd : decode c.code pc = .ok (.return_, 1)) (hc : k ≤ C) (hs : n ≤ S) (hP : P none h) : Goes p e below s n0 C S P T (mkF m pc Ls []) := by
  obtain ⟨vm0, ⟨L, X, N⟩, rfl, hx, -, -, hB, -, hlk⟩ := X
  obtain ⟨fs, hr, hrun, hended, hE⟩ := Bk.leave X hB (v := none) (fun _ => rfl) hlk
  exact ⟨_, _, L, X.returnOut hx hret hd hr, hrun, hended, ⟨N, hP⟩, EndF.mono hE hc hs⟩
theorem Std.ldcI (X : Std p l e R s m args below meth c Z own n0 T h k n) {index : Nat} {v : Int32} (w : (Cond.constant own index v).before a0 Z = true) (hd : decode c.code pc = .ok (.ldc index, 2)) (G : Goes p e below s n0 C S P T (mkF m (pc + 2) Ls (.int v :: st))) : Goes p e below s n0 C S P T (mkF m pc Ls st) := by
  obtain ⟨vm0, ⟨L, X, N⟩, -, hx, hZ, hown, -⟩ := X
  exact Goes.by (fun _ q => X.ldcI hx hown (mvT (s := s.setVm vm0) hZ w) rfl hd q) G
theorem Std.ldcWI (X : Std p l e R s m args below meth c Z own n0 T h k n) {index : Nat} {v : Int32} (w : (Cond.constant own index v).before a0 Z = true) (hd : decode c.code pc = .ok (.ldc_w index, 3)) (G : Goes p e below s n0 C S P T (mkF m (pc + 3) Ls (.int v :: st))) : Goes p e below s n0 C S P T (mkF m pc Ls st) := by
  obtain ⟨vm0, ⟨L, X, N⟩, -, hx, hZ, hown, -⟩ := X
  exact Goes.by (fun _ q => X.ldcWI hx hown (mvT (s := s.setVm vm0) hZ w) rfl hd q) G
theorem Std.getS (X : Std p l e R s m args below meth c Z own n0 T h k n) {index : Nat} {R0 O nm d host : String} {v : Value} (w : (Cond.fieldLink own index R0 nm d).before a0 Z = true ∨ (Cond.fieldLinkNest own index R0 nm d host).before a0 Z = true) (via : Via Z R0 O nm d) (F : Sta Z h O nm d v) (hd : decode c.code pc = .ok (.getstatic index, 3))
    (G : ∀ T, Std p l e R s m args below meth c Z own n0 T h k n → Goes p e below s n0 C S P T (mkF m (pc + 3) Ls (v :: st))) : Goes p e below s n0 C S P T (mkF m pc Ls st) := by
  obtain ⟨vm0, ⟨L, X, N⟩, eT, hx, hZ, hown, r⟩ := X
  obtain ⟨T1, X1, e1, st1⟩ := Jvm.RoadKit.getS2 X hx hZ hown w via eT F (g := mkF m pc Ls st) rfl hd
  exact Goes.by st1 (G T1 ⟨vm0, ⟨L, X1, N⟩, e1, hx, hZ, hown, r⟩)
theorem Std.getF (X : Std p l e R s m args below meth c Z own n0 T h k n) {index : Nat} {R0 O nm d host : String} {a : Addr} {v : Value} (w : (Cond.fieldLink own index R0 nm d).before a0 Z = true ∨ (Cond.fieldLinkNest own index R0 nm d host).before a0 Z = true) (via : Via Z R0 O nm d) (F : Fld Z h a O nm d v) (hd : decode c.code pc = .ok (.getfield index, 3))
    (G : ∀ T, Std p l e R s m args below meth c Z own n0 T h k n → Goes p e below s n0 C S P T (mkF m (pc + 3) Ls (v :: rest))) : Goes p e below s n0 C S P T (mkF m pc Ls (.ref a :: rest)) := by
  obtain ⟨vm0, ⟨L, X, N⟩, eT, hx, hZ, hown, r⟩ := X
  obtain ⟨T1, X1, e1, st1⟩ := Jvm.RoadKit.getF X hx hZ hown w via eT F (g := mkF m pc Ls (.ref a :: rest)) rfl rfl hd
  exact Goes.by st1 (G T1 ⟨vm0, ⟨L, X1, N⟩, e1, hx, hZ, hown, r⟩)
theorem Std.putF (X : Std p l e R s m args below meth c Z own n0 T h k n) {index kk : Nat} {R0 O nm d host K : String} {ty : FieldType} {a : Addr} {v old : Value} (w : (Cond.fieldLink own index R0 nm d).before a0 Z = true ∨ (Cond.fieldLinkNest own index R0 nm d host).before a0 Z = true) (via : Via Z R0 O nm d) (F : Fld Z h a O nm d old) (E : Exa Z h a K)
    (L : (Cond.lays K O nm d).before a0 Z = true ∨ ((Cond.laysFinal K O nm d).before a0 Z = true ∧ own = O ∧ meth.name = "<init>")) (wi : (Cond.instantiable K kk).before a0 Z = true) (hty : parseFieldDescriptor d = some ty) (hn : narrow ty v = v) (hf : fits ty v = true) (ha : n0 ≤ a) (hd : decode c.code pc = .ok (.putfield index, 3))
    (G : ∀ T h', Std p l e R s m args below meth c Z own n0 T h' k n → Wr h h' a (Jvm.RoadKit.slotOf Z O nm d) v → Goes p e below s n0 C S P T (mkF m (pc + 3) Ls rest)) : Goes p e below s n0 C S P T (mkF m pc Ls (v :: .ref a :: rest)) := by
  obtain ⟨vm0, ⟨L0, X, N⟩, eT, hx, hZ, hown, hB, r⟩ := X
  obtain ⟨T1, h1, X1, e1, W1, st1⟩ := Jvm.RoadKit.putF X hx hZ hown w via eT F E L wi hty hn hf (g := mkF m pc Ls (v :: .ref a :: rest)) rfl rfl hd
  exact Goes.by st1 (G T1 h1 ⟨vm0, ⟨_, X1, Fr.snoc X1 N ha⟩, e1, hx, hZ, hown, hB.mono (Nat.le_of_eq W1.size.symm), r⟩ W1)
theorem Std.newO (X : Std p l e R s m args below meth c Z own n0 T h k n) {index j : Nat} {K : String} (w : (Cond.classLink own index K).before a0 Z = true) (wi : (Cond.instantiable K j).before a0 Z = true) (wz : (Cond.initialized K).before a0 Z = true) (hd : decode c.code pc = .ok (.new index, 3)) (hc : k + 1 ≤ R.cells) (hl : n + j ≤ R.slots)
    (G : ∀ T h' a, Std p l e R s m args below meth c Z own n0 T h' (k + 1) (n + j) → a = h.size → n0 ≤ a → Ext h h' → Exa Z h' a K → (∀ {O nm d : String} {ty : FieldType}, Laid Z a0 K O nm d → parseFieldDescriptor d = some ty → Fld Z h' a O nm d (defaultValue ty)) → Goes p e below s n0 C S P T (mkF m (pc + 3) Ls (.ref a :: st))) : Goes p e below s n0 C S P T (mkF m pc Ls st) := by
  have q := X.n0le
  obtain ⟨vm0, ⟨L0, X, N⟩, eT, hx, hZ, hown, hB, r⟩ := X
  obtain ⟨T1, h1, X1, e1, E1, A1, D1, -, st1⟩ := Jvm.RoadKit.newO X hx hZ hown w wi wz eT (g := mkF m pc Ls st) rfl hd hc hl
  exact Goes.by st1 (G T1 h1 h.size ⟨vm0, ⟨_, X1, N⟩, e1, hx, hZ, hown, hB.mono E1.1, r⟩ rfl q E1 A1 D1)
theorem Std.initO (X : Std p l e R s m args below meth c Z own n0 T h k n) {index : Nat} {a : Addr} (w1 : (Cond.methodLink own index Lib.objectInit).before a0 Z = true) (w2 : (Cond.instanceMethod Lib.objectInit).before a0 Z = true) (w3 : (Cond.code Lib.objectInit object_method_1_code 1 none).before a0 Z = true) (hsz : Ls.size = c.maxLocals) (hd : decode c.code pc = .ok (.invokespecial index, 3)) (hf : 1 ≤ R.frames) (hl : (rest.map fun v => v.category).sum + 12 ≤ R.locals)
    (G : ∀ T, Std p l e R s m args below meth c Z own n0 T h k n → Goes p e below s n0 C S P T (mkF m (pc + 3) Ls rest)) : Goes p e below s n0 C S P T (mkF m pc Ls (.ref a :: rest)) := by
  obtain ⟨vm0, ⟨L, X, N⟩, eT, hx, hZ, hown, r⟩ := X
  obtain ⟨T1, X1, e1, st1⟩ := Jvm.RoadKit.initO X hx hZ hown w1 w2 w3 eT (g := mkF m pc Ls (.ref a :: rest)) rfl hsz rfl hd hf (W := (rest.map fun v => v.category).sum) (by show 2 * 0 + _ ≤ _; omega) hl
  exact Goes.by st1 (G T1 ⟨vm0, ⟨L, X1, N⟩, e1, hx, hZ, hown, r⟩)
theorem Std.irem (X : Std p l e R s m args below meth c Z own n0 T h k n) {x y : Int32} (hd : decode c.code pc = .ok (.irem, 1)) (hy : y ≠ 0) (G : Goes p e below s n0 C S P T (mkF m (pc + 1) Ls (.int (x % y) :: rest))) : Goes p e below s n0 C S P T (mkF m pc Ls (.int y :: .int x :: rest)) := by
  obtain ⟨vm0, ⟨L, X, N⟩, eT, hx, r⟩ := X
  exact Goes.by (fun _ q => iremM X hx rfl hd rfl hy q) G
theorem Std.acmp (X : Std p l e R s m args below meth c Z own n0 T h k n) {cd : ACond} {x y : Value} (h1 : x.isRef = true) (h2 : y.isRef = true) {o : Int} {pc' : Nat} {same : Bool} (hd : decode c.code pc = .ok (.if_acmp cd o, 3)) (hq : decide (x = y) = same) (ho : 0 ≤ (pc : Int) + o) (hp : pc' = if acV cd same = true then ((pc : Int) + o).toNat else pc + 3) (G : Goes p e below s n0 C S P T (mkF m pc' Ls rest)) : Goes p e below s n0 C S P T (mkF m pc Ls (y :: x :: rest)) := by
  obtain ⟨vm0, ⟨L, X, N⟩, eT, hx, r⟩ := X
  exact Goes.by (fun _ q => Jvm.RoadKit.acmp X hx rfl h1 h2 rfl hd rfl hq ho hp q) G
theorem metW {ws : List Jvm.Cond} {y : MethodName} {bytes : ByteArray} {maxL : Nat} {ret : Option FieldType} {rm : Room} {as' : Array Value} {h0 : Heap} {Q : Option Value → Heap → Prop} (hpl : plainFor y = true) (hn0 : n0 ≤ h0.size)
    (body : ∀ p e s m below meth c s₁, Std p l e rm s m as' below meth c Z y.cls n0 s₁ h0 0 0 → c.code = bytes → c.maxLocals = maxL → meth.sig.returnType = ret → meth.name = y.name → Goes p e below s n0 rm.cells rm.slots Q s₁ (entryFrame m as' maxL)) :
    MetFree l y (head1 (Cond.code y bytes maxL ret :: ws) rm) (fun a U => a = as' ∧ Z.Warmed39 U.vm ∧ U.heap = h0) (fun _ _ _ _ _ => True) (fun _ U o U' => ∃ v L, o = .returned v ∧ (Fr n0 L ∧ Q v U'.heap) ∧ EndF U o U' L rm.cells rm.slots) := by
  refine MetFree.of_bodySF hpl hisR ?_
  intro p e s m args below meth c s₁ Bd hml hP hK
  obtain ⟨rfl, hZ, hh⟩ := hP
  have e0 : s₁.heap = h0 := by rw [← hh, Bd.state]; rfl
  obtain ⟨s₂, v, L, h1, h2, h3, h4, h5⟩ := body p e s m below meth c s₁ ⟨s.vm, ⟨[], Stand.of_body Bd, Fr.nil n0⟩, e0, Bd.exec, hZ, findClass_of_methodNamed Bd.named, Bk.start, by rw [hh]; exact hn0, Bd.notSynchronized⟩ Bd.bytes hml Bd.returns (name_of_methodNamed Bd.named Bd.method).1
  exact ⟨s₂, _, h1, h2, h3, v, L, rfl, h4, h5⟩
theorem Std.callS (X : Std p l e R s m args below meth c Z own n0 T h k n) {index : Nat} {y : MethodName} {bytes : ByteArray} {maxL : Nat} {ret : Option FieldType} {rm : Room} {argsL : List Value} {Q : Option Value → Heap → Prop} {ps : List FieldType} {r : Option FieldType} (w1 : (Cond.methodLink own index y).before a0 Z = true) (w2 : (Cond.static y).before a0 Z = true) (wz : (Cond.initialized y.cls).before a0 Z = true) (wc : (Cond.code y bytes maxL ret).before a0 Z = true) (hy : y.cls ≠ "java/lang/invoke/MethodHandle" ∧ y.cls ≠ "java/lang/invoke/VarHandle")
    (hpd : parseMethodDescriptor y.desc = some ⟨ps, r⟩) (hlen : argsL.length = ps.length) (M : Met l Z n0 y bytes maxL ret rm argsL.toArray h Q) (hsz : Ls.size = c.maxLocals) (hstk : st = argsL.reverse ++ rest) (hf : rm.frames + 1 ≤ R.frames) (hl : (rest.map fun v => v.category).sum + (maxL + 11) + rm.locals ≤ R.locals) (hd : decode c.code pc = .ok (.invokestatic index, 3)) (hc : k + rm.cells ≤ R.cells) (hs : n + rm.slots ≤ R.slots)
    (G : ∀ T h' v, Std p l e R s m args below meth c Z own n0 T h' (k + rm.cells) (n + rm.slots) → Q v h' → Goes p e below s n0 C S P T (mkF m (pc + 3) Ls (v.toList ++ rest))) : Goes p e below s n0 C S P T (mkF m pc Ls st) := by
  obtain ⟨vm0, ⟨L0, X, N⟩, eT, hx, hZ, hown, hB, r⟩ := X
  subst eT
  obtain ⟨v, vm1, T1, L2, X1, hB1, hZ1, hown1, N2, hQ, st1⟩ := Bk.callS X hx hB hZ hown w1 w2 wz wc hy hpd hlen M hsz hstk hf hl hd hc hs
  exact Goes.by st1 (G T1 _ v ⟨vm1, ⟨_, X1, Fr.app N N2⟩, rfl, hx, hZ1, hown1, hB1, r⟩ hQ)
theorem Std.callSN (X : Std p l e R s m args below meth c Z own n0 T h k n) {index : Nat} {y : MethodName} {bytes : ByteArray} {maxL : Nat} {ret : Option FieldType} {rm : Room} {argsL : List Value} {Q : Option Value → Heap → Prop} {ps : List FieldType} {r : Option FieldType} {host : String} (w1 : (Cond.methodLinkNest own index y host).before a0 Z = true) (w2 : (Cond.static y).before a0 Z = true) (wz : (Cond.initialized y.cls).before a0 Z = true) (wc : (Cond.code y bytes maxL ret).before a0 Z = true) (hy : y.cls ≠ "java/lang/invoke/MethodHandle" ∧ y.cls ≠ "java/lang/invoke/VarHandle")
    (hpd : parseMethodDescriptor y.desc = some ⟨ps, r⟩) (hlen : argsL.length = ps.length) (M : Met l Z n0 y bytes maxL ret rm argsL.toArray h Q) (hsz : Ls.size = c.maxLocals) (hstk : st = argsL.reverse ++ rest) (hf : rm.frames + 1 ≤ R.frames) (hl : (rest.map fun v => v.category).sum + (maxL + 11) + rm.locals ≤ R.locals) (hd : decode c.code pc = .ok (.invokestatic index, 3)) (hc : k + rm.cells ≤ R.cells) (hs : n + rm.slots ≤ R.slots)
    (G : ∀ T h' v, Std p l e R s m args below meth c Z own n0 T h' (k + rm.cells) (n + rm.slots) → Q v h' → Goes p e below s n0 C S P T (mkF m (pc + 3) Ls (v.toList ++ rest))) : Goes p e below s n0 C S P T (mkF m pc Ls st) := by
  obtain ⟨vm0, ⟨L0, X, N⟩, eT, hx, hZ, hown, hB, r⟩ := X
  subst eT
  obtain ⟨v, vm1, T1, L2, X1, hB1, hZ1, hown1, N2, hQ, st1⟩ := Bk.callSN X hx hB hZ hown w1 w2 wz wc hy hpd hlen M hsz hstk hf hl hd hc hs
  exact Goes.by st1 (G T1 _ v ⟨vm1, ⟨_, X1, Fr.app N N2⟩, rfl, hx, hZ1, hown1, hB1, r⟩ hQ)
theorem Std.callV (X : Std p l e R s m args below meth c Z own n0 T h k n) {index : Nat} {y : MethodName} {bytes : ByteArray} {maxL : Nat} {ret : Option FieldType} {rm : Room} {argsL : List Value} {Q : Option Value → Heap → Prop} {ps : List FieldType} {r : Option FieldType} {z : MethodName} {K : String} {b : Addr} (E : Exa Z h b K) (w1 : (Cond.methodLink own index y).before a0 Z = true) (w2 : (Cond.declares y).before a0 Z = true) (w3 : (Cond.selects K y z).before a0 Z = true) {D : String} {x' z' : MethodName} (w5 : (Cond.selects D x' z').before a0 Z = true) (h5 : z'.cls = y.cls) (w4 : (Cond.instanceMethod z).before a0 Z = true) (wz : (Cond.initialized z.cls).before a0 Z = true) (wc : (Cond.code z bytes maxL ret).before a0 Z = true) (hy : y.cls ≠ "java/lang/invoke/MethodHandle" ∧ y.cls ≠ "java/lang/invoke/VarHandle")
    (hpd : parseMethodDescriptor y.desc = some ⟨ps, r⟩) (hlen : argsL.length = ps.length) (M : Met l Z n0 z bytes maxL ret rm (.ref b :: argsL).toArray h Q) (hsz : Ls.size = c.maxLocals) (hstk : st = argsL.reverse ++ .ref b :: rest) (hf : rm.frames + 1 ≤ R.frames) (hl : (rest.map fun v => v.category).sum + (maxL + 11) + rm.locals ≤ R.locals) (hd : decode c.code pc = .ok (.invokevirtual index, 3)) (hc : k + rm.cells ≤ R.cells) (hs : n + rm.slots ≤ R.slots)
    (G : ∀ T h' v, Std p l e R s m args below meth c Z own n0 T h' (k + rm.cells) (n + rm.slots) → Q v h' → Goes p e below s n0 C S P T (mkF m (pc + 3) Ls (v.toList ++ rest))) : Goes p e below s n0 C S P T (mkF m pc Ls st) := by
  obtain ⟨vm0, ⟨L0, X, N⟩, eT, hx, hZ, hown, hB, r⟩ := X
  subst eT
  obtain ⟨v, vm1, T1, L2, X1, hB1, hZ1, hown1, N2, hQ, st1⟩ := Bk.callV X hx hB hZ hown E w1 w2 w3 w5 h5 w4 wz wc hy hpd hlen M hsz hstk hf hl hd hc hs
  exact Goes.by st1 (G T1 _ v ⟨vm1, ⟨_, X1, Fr.app N N2⟩, rfl, hx, hZ1, hown1, hB1, r⟩ hQ)
theorem Std.callU (X : Std p l e R s m args below meth c Z own n0 T h k n) {index : Nat} {y : MethodName} {bytes : ByteArray} {maxL : Nat} {ret : Option FieldType} {rm : Room} {argsL : List Value} {Q : Option Value → Heap → Prop} {ps : List FieldType} {r : Option FieldType} {z : MethodName} {owner K : String} {b : Addr} (E : Exa Z h b K) (w1 : (Cond.methodLink own index y).before a0 Z = true) (wsm : (Cond.sameMethod y.cls owner y.name y.desc).before a0 Z = true) (w2 : (Cond.declares ⟨owner, y.name, y.desc⟩).before a0 Z = true) (ho : owner ≠ "java/lang/invoke/MethodHandle" ∧ owner ≠ "java/lang/invoke/VarHandle") (w3 : (Cond.selects K y z).before a0 Z = true) (w4 : (Cond.instanceMethod z).before a0 Z = true) (wz : (Cond.initialized z.cls).before a0 Z = true) (wc : (Cond.code z bytes maxL ret).before a0 Z = true)
    (hpd : parseMethodDescriptor y.desc = some ⟨ps, r⟩) (hlen : argsL.length = ps.length) (M : Met l Z n0 z bytes maxL ret rm (.ref b :: argsL).toArray h Q) (hsz : Ls.size = c.maxLocals) (hstk : st = argsL.reverse ++ .ref b :: rest) (hf : rm.frames + 1 ≤ R.frames) (hl : (rest.map fun v => v.category).sum + (maxL + 11) + rm.locals ≤ R.locals) (hd : decode c.code pc = .ok (.invokevirtual index, 3)) (hc : k + rm.cells ≤ R.cells) (hs : n + rm.slots ≤ R.slots)
    (G : ∀ T h' v, Std p l e R s m args below meth c Z own n0 T h' (k + rm.cells) (n + rm.slots) → Q v h' → Goes p e below s n0 C S P T (mkF m (pc + 3) Ls (v.toList ++ rest))) : Goes p e below s n0 C S P T (mkF m pc Ls st) := by
  obtain ⟨vm0, ⟨L0, X, N⟩, eT, hx, hZ, hown, hB, r⟩ := X
  subst eT
  obtain ⟨v, vm1, T1, L2, X1, hB1, hZ1, hown1, N2, hQ, st1⟩ := Bk.callU X hx hB hZ hown E w1 wsm w2 ho w3 w4 wz wc hpd hlen M hsz hstk hf hl hd hc hs
  exact Goes.by st1 (G T1 _ v ⟨vm1, ⟨_, X1, Fr.app N N2⟩, rfl, hx, hZ1, hown1, hB1, r⟩ hQ)
theorem Std.callN (X : Std p l e R s m args below meth c Z own n0 T h k n) {index : Nat} {y : MethodName} {bytes : ByteArray} {maxL : Nat} {rm : Room} {argsL : List Value} {Q : Option Value → Heap → Prop} {ps : List FieldType} {r : Option FieldType} {b : Addr} (hin : y.name = "<init>") (w1 : (Cond.methodLink own index y).before a0 Z = true) (w4 : (Cond.instanceMethod y).before a0 Z = true) (wz : (Cond.initialized y.cls).before a0 Z = true) (wc : (Cond.code y bytes maxL none).before a0 Z = true) (hy : y.cls ≠ "java/lang/invoke/MethodHandle" ∧ y.cls ≠ "java/lang/invoke/VarHandle")
    (hpd : parseMethodDescriptor y.desc = some ⟨ps, r⟩) (hlen : argsL.length = ps.length) (M : Met l Z n0 y bytes maxL none rm (.ref b :: argsL).toArray h Q) (hsz : Ls.size = c.maxLocals) (hstk : st = argsL.reverse ++ .ref b :: rest) (hf : rm.frames + 1 ≤ R.frames) (hl : (rest.map fun v => v.category).sum + (maxL + 11) + rm.locals ≤ R.locals) (hd : decode c.code pc = .ok (.invokespecial index, 3)) (hc : k + rm.cells ≤ R.cells) (hs : n + rm.slots ≤ R.slots)
    (G : ∀ T h' v, Std p l e R s m args below meth c Z own n0 T h' (k + rm.cells) (n + rm.slots) → Q v h' → Goes p e below s n0 C S P T (mkF m (pc + 3) Ls (v.toList ++ rest))) : Goes p e below s n0 C S P T (mkF m pc Ls st) := by
  obtain ⟨vm0, ⟨L0, X, N⟩, eT, hx, hZ, hown, hB, r⟩ := X
  subst eT
  obtain ⟨v, vm1, T1, L2, X1, hB1, hZ1, hown1, N2, hQ, st1⟩ := Bk.callN X hx hB hZ hown hin w1 w4 wz wc hy hpd hlen M hsz hstk hf hl hd hc hs
  exact Goes.by st1 (G T1 _ v ⟨vm1, ⟨_, X1, Fr.app N N2⟩, rfl, hx, hZ1, hown1, hB1, r⟩ hQ)
theorem fldEq {args : Array Value} {s : State} {t : Term} {a : Addr} {C n d : String} {k : Int32} (ht : t.eval args s none [] s = some (.ref a)) (h : (Jvm.Cond.eq (.field t C n d) (.int k)).value args s none s [] = some true) : Fld s s.heap a C n d (.int k) := by
  obtain ⟨x, y, ex, ey, kx, ky⟩ := cmp_v (Or.inl h)
  have hy : y = .int k := Option.some.inj (ey.symm.trans (Term.int_eval k))
  subst hy
  obtain ⟨z, rfl⟩ : ∃ z, x = .int z := ky
  have q := gotT (Cond.eq_ints ex (Term.int_eval k)) h
  subst q
  exact Fld.start ((fld_at ht).symm.trans ex)
theorem fldEqS {args : Array Value} {s : State} {t u : Term} {a b : Addr} {C n d : String} (ht : t.eval args s none [] s = some (.ref a)) (hu : u.eval args s none [] s = some (.ref b)) (h : (Jvm.Cond.eq (.field t C n d) u).value args s none s [] = some true) : Fld s s.heap a C n d (.ref b) := by
  obtain ⟨x, y, ex, ey, kx, ky⟩ := cmp_v (Or.inl h)
  have hy : y = .ref b := Option.some.inj (ey.symm.trans hu)
  subst hy
  have hx : x.isRef = true := (show (Value.ref b).isRef = true ∧ x.isRef = true from ky).2
  have q := gotT (eq_R ex hu hx rfl) h
  subst q
  exact Fld.start ((fld_at ht).symm.trans ex)
theorem staEq {args : Array Value} {s : State} {C n d : String} {k : Int32} (h : (Jvm.Cond.eq (.static C n d) (.int k)).value args s none s [] = some true) (hi : (Jvm.Cond.initializedFor C n d).before args s = true ∨ ((Jvm.Cond.initialized C).before args s = true ∧ (Jvm.Cond.laysStatic C n d).before args s = true)) : Sta s s.heap C n d (.int k) := by
  obtain ⟨x, y, ex, ey, kx, ky⟩ := cmp_v (Or.inl h)
  have hy : y = .int k := Option.some.inj (ey.symm.trans (Term.int_eval k))
  subst hy
  obtain ⟨z, rfl⟩ : ∃ z, x = .int z := ky
  have q := gotT (Cond.eq_ints ex (Term.int_eval k)) h
  subst q
  exact Sta.start ex hi
/-- the law's masks -/
theorem maskR (x n : Int32) (N : Int) (hn : n.toInt = N) (hp : 0 < N) : 0 ≤ ((x &&& 2147483647) % n).toInt ∧ ((x &&& 2147483647) % n).toInt < N := by
  have h1 := (c_and x 2147483647 (by decide)).1
  have h2 := (c_irem (x &&& 2147483647) n N hn).1 h1
  rw [h2]
  exact ⟨Int.emod_nonneg _ (by omega), Int.emod_lt_of_pos _ hp⟩
theorem i32_eq {x y : Int32} (h : x.toInt = y.toInt) : x = y := Int32.toInt_inj.mp h
theorem Sta.keep' {C nm d : String} {v : Value} {ws : List Addr} (F : Sta Z h C nm d v) (K : Keep h h' ws) (q : ∀ x ∈ ws, ∃ D, Exa Z h x D) : Sta Z h' C nm d v := by
  obtain ⟨cf, i, k, f, st, cell, h1, h2, h3, h4, h5, h6, h7⟩ := F
  refine ⟨cf, i, k, f, st, cell, h1, h2, h3, h4, K.2.1 st cell h5 fun r => ?_, h6, h7⟩
  obtain ⟨D, c2, _, e1, -, -, e4, -⟩ := q st r
  cases h5.symm.trans e1
  rw [h6] at e4
  cases e4
theorem leB {a b : Nat} (h : Nat.ble a b = true) : a ≤ b := Nat.le_of_ble_eq_true h
theorem addI {x y : Int32} (h1 : -2147483648 ≤ x.toInt + y.toInt) (h2 : x.toInt + y.toInt < 2147483648) : (x + y).toInt = x.toInt + y.toInt := by
  have q1 := c_iadd x y
  have q2 := rng32 (x + y)
  omega
theorem subI {x y : Int32} (h1 : -2147483648 ≤ x.toInt - y.toInt) (h2 : x.toInt - y.toInt < 2147483648) : (x - y).toInt = x.toInt - y.toInt := by
  have q1 := c_isub x y
  have q2 := rng32 (x - y)
  omega
def cI (x : Int32) : Int32 := x
theorem ltI {x y : Int32} : x < y ↔ x.toInt < y.toInt := Int32.lt_iff_toInt_lt
theorem eqI {x y : Int32} : x = y ↔ x.toInt = y.toInt := Int32.toInt_inj.symm
end OwnKit
section OwnArr
variable {p : Program} {l : Launch} {e : Env} {R : Room} {s : State} {m : MethodId} {args : Array Value} {below : List Frame} {meth : Method} {c : Code} {T T' : State} {Z : State} {own : String} {h h' : Heap} {n0 k n C S : Nat} {a0 : Array Value} {P : Option Value → Heap → Prop} {g g' : JFrame} {pc : Nat} {Ls : Array Slot} {st rest : List Value}
/-- an array of N values -/
def PArr (Z : State) (h : Heap) (a : Addr) (ty : FieldType) (N : Nat) (f : Nat → Value) : Prop := ∃ c : Cell, Arr Z h a c ty ∧ c.slots.size = N ∧ N < 2 ^ 31 ∧ ∀ i, i < N → c.slots[i]? = some (f i)
variable {a b : Addr} {ty : FieldType} {N sl : Nat} {f : Nat → Value} {v : Value} {ws : List Addr}
theorem PArr.lt (F : PArr Z h a ty N f) : a < h.size := by obtain ⟨c, A, -⟩ := F; exact A.lt
theorem PArr.ext (F : PArr Z h a ty N f) (E : Ext h h') : PArr Z h' a ty N f := by obtain ⟨c, A, r⟩ := F; exact ⟨c, A.ext E, r⟩
theorem PArr.other (F : PArr Z h b ty N f) (W : Wr h h' a sl v) (q : b ≠ a) : PArr Z h' b ty N f := by obtain ⟨c, A, r⟩ := F; exact ⟨c, A.other W q, r⟩
theorem PArr.keep (F : PArr Z h a ty N f) (K : Keep h h' ws) (q : a ∉ ws) : PArr Z h' a ty N f := by obtain ⟨c, A, r⟩ := F; exact ⟨c, ⟨K.2.1 a c A.1 q, A.2⟩, r⟩
theorem PArr.congr {f' : Nat → Value} (F : PArr Z h a ty N f) (q : ∀ i, i < N → f i = f' i) : PArr Z h a ty N f' := by obtain ⟨c, A, r1, r2, r3⟩ := F; exact ⟨c, A, r1, r2, fun i hi => by rw [← q i hi]; exact r3 i hi⟩
theorem PArr.small (F : PArr Z h a ty N f) : N < 2 ^ 31 := by obtain ⟨c, A, r1, r2, r3⟩ := F; exact r2
theorem PArr.set (F : PArr Z h a ty N f) (W : Wr h h' a sl v) : PArr Z h' a ty N (fun i => if i = sl then v else f i) := by
  obtain ⟨c, A, r1, r2, r3⟩ := F
  obtain ⟨cell, q1, q2, q3, q4⟩ := id W
  cases q1.symm.trans A.1
  refine ⟨_, A.same W, by rw [sz_set]; exact r1, r2, fun i hi => ?_⟩
  show (c.slots.setIfInBounds sl v)[i]? = some (if i = sl then v else f i)
  by_cases e : i = sl
  · subst e
    rw [if_pos rfl]
    simp [q3]
  · rw [if_neg e, Array.getElem?_setIfInBounds_ne (Ne.symm e)]
    exact r3 i hi
theorem idxN {j : Int32} {i : Nat} (hj : j.toInt = i) : j.toNatClampNeg = i ∧ ¬ j < 0 := by
  constructor
  · show j.toInt.toNat = i
    omega
  · rw [Int32.lt_iff_toInt_lt]
    show ¬ j.toInt < 0
    omega
theorem idxI {c : Cell} {j : Int32} {i : Nat} (hs : c.slots.size = N) (hj : j.toInt = i) (hi : i < N) : ¬ (j < 0 ∨ c.slots.size ≤ j.toNatClampNeg) := by
  rw [(idxN hj).1, hs]
  rintro (q | q)
  · exact (idxN hj).2 q
  · omega
theorem Std.iaload (X : Std p l e R s m args below meth c Z own n0 T h k n) (F : PArr Z h a .int N f) {j : Int32} {i : Nat} (hj : j.toInt = i) (hi : i < N) (hd : decode c.code pc = .ok (.iaload, 1)) (G : Goes p e below s n0 C S P T (mkF m (pc + 1) Ls (f i :: rest))) : Goes p e below s n0 C S P T (mkF m pc Ls (.int j :: .ref a :: rest)) := by
  obtain ⟨vm0, ⟨L, X, -⟩, eT, hx, hZ, -⟩ := X
  obtain ⟨cl, A, r1, r2, r3⟩ := F
  exact Goes.by (fun t q => X.iaload hx (g := mkF m pc Ls (.int j :: .ref a :: rest)) (by rw [eT]; exact A.1) (State.isArrayOf_alike hZ.alike A.2.1) A.2.2 (idxI r1 hj hi) (v := f i) (by rw [(idxN hj).1]; exact r3 i hi) rfl rfl hd t q) G
theorem Std.laload (X : Std p l e R s m args below meth c Z own n0 T h k n) (F : PArr Z h a .long N f) {j : Int32} {i : Nat} (hj : j.toInt = i) (hi : i < N) (hd : decode c.code pc = .ok (.laload, 1)) (G : Goes p e below s n0 C S P T (mkF m (pc + 1) Ls (f i :: rest))) : Goes p e below s n0 C S P T (mkF m pc Ls (.int j :: .ref a :: rest)) := by
  obtain ⟨vm0, ⟨L, X, -⟩, eT, hx, hZ, -⟩ := X
  obtain ⟨cl, A, r1, r2, r3⟩ := F
  exact Goes.by (fun t q => X.laload hx (g := mkF m pc Ls (.int j :: .ref a :: rest)) (by rw [eT]; exact A.1) (State.isArrayOf_alike hZ.alike A.2.1) A.2.2 (idxI r1 hj hi) (v := f i) (by rw [(idxN hj).1]; exact r3 i hi) rfl rfl hd t q) G
theorem Std.baloadB (X : Std p l e R s m args below meth c Z own n0 T h k n) (F : PArr Z h a .byte N f) {j : Int32} {i : Nat} (hj : j.toInt = i) (hi : i < N) (hd : decode c.code pc = .ok (.baload, 1)) (G : Goes p e below s n0 C S P T (mkF m (pc + 1) Ls (f i :: rest))) : Goes p e below s n0 C S P T (mkF m pc Ls (.int j :: .ref a :: rest)) := by
  obtain ⟨vm0, ⟨L, X, -⟩, eT, hx, hZ, -⟩ := X
  obtain ⟨cl, A, r1, r2, r3⟩ := F
  exact Goes.by (fun t q => X.baloadBytes hx (g := mkF m pc Ls (.int j :: .ref a :: rest)) (by rw [eT]; exact A.1) (State.isArrayOf_alike hZ.alike A.2.1) A.2.2 (idxI r1 hj hi) (v := f i) (by rw [(idxN hj).1]; exact r3 i hi) rfl rfl hd t q) G
theorem Std.baloadZ (X : Std p l e R s m args below meth c Z own n0 T h k n) (F : PArr Z h a .boolean N f) {j : Int32} {i : Nat} (hj : j.toInt = i) (hi : i < N) (hd : decode c.code pc = .ok (.baload, 1)) (G : Goes p e below s n0 C S P T (mkF m (pc + 1) Ls (f i :: rest))) : Goes p e below s n0 C S P T (mkF m pc Ls (.int j :: .ref a :: rest)) := by
  obtain ⟨vm0, ⟨L, X, -⟩, eT, hx, hZ, -⟩ := X
  obtain ⟨cl, A, r1, r2, r3⟩ := F
  exact Goes.by (fun t q => X.baloadBooleans hx (g := mkF m pc Ls (.int j :: .ref a :: rest)) (by rw [eT]; exact A.1) (State.isArrayOf_alike hZ.alike A.2.1) A.2.2 (idxI r1 hj hi) (v := f i) (by rw [(idxN hj).1]; exact r3 i hi) rfl rfl hd t q) G
theorem Std.alen (X : Std p l e R s m args below meth c Z own n0 T h k n) (F : PArr Z h a ty N f) {z : Int32} (hz : z.toInt = N) (hd : decode c.code pc = .ok (.arraylength, 1)) (G : Goes p e below s n0 C S P T (mkF m (pc + 1) Ls (.int z :: rest))) : Goes p e below s n0 C S P T (mkF m pc Ls (.ref a :: rest)) := by
  obtain ⟨vm0, ⟨L, X, -⟩, eT, hx, hZ, -⟩ := X
  obtain ⟨cl, A, r1, r2, r3⟩ := F
  have q : cl.slots.size.toInt32 = z := Int32.toInt_inj.mp (by rw [r1, hz]; exact len_toInt r2)
  refine Goes.by (fun t q => X.arraylength hx (g := mkF m pc Ls (.ref a :: rest)) (by rw [eT]; exact A.1) (State.isArrayOf_alike hZ.alike A.2.1) rfl rfl hd t q) ?_
  rw [q]
  exact G
theorem Std.iastore (X : Std p l e R s m args below meth c Z own n0 T h k n) (F : PArr Z h a .int N f) {j x : Int32} {i : Nat} (hj : j.toInt = i) (hi : i < N) (ha : n0 ≤ a) (hd : decode c.code pc = .ok (.iastore, 1))
    (G : ∀ T h', Std p l e R s m args below meth c Z own n0 T h' k n → Wr h h' a i (.int x) → Goes p e below s n0 C S P T (mkF m (pc + 1) Ls rest)) : Goes p e below s n0 C S P T (mkF m pc Ls (.int x :: .int j :: .ref a :: rest)) := by
  obtain ⟨vm0, ⟨L, X, M⟩, eT, hx, hZ, hown, hB, r⟩ := X
  obtain ⟨cl, A, r1, r2, r3⟩ := F
  obtain ⟨T1, h1, X1, e1, W1, st1⟩ := stI X hx hZ eT A (x := x) (idxI r1 hj hi) (g := mkF m pc Ls (.int x :: .int j :: .ref a :: rest)) rfl rfl hd
  refine Goes.by st1 (G T1 h1 ⟨vm0, ⟨_, X1, Fr.snoc X1 M ha⟩, e1, hx, hZ, hown, hB.mono (Nat.le_of_eq W1.size.symm), r⟩ ?_)
  rw [← (idxN hj).1]
  exact W1
theorem Std.bastoreB (X : Std p l e R s m args below meth c Z own n0 T h k n) (F : PArr Z h a .byte N f) {j x : Int32} {i : Nat} (hj : j.toInt = i) (hi : i < N) (ha : n0 ≤ a) (hd : decode c.code pc = .ok (.bastore, 1))
    (G : ∀ T h', Std p l e R s m args below meth c Z own n0 T h' k n → Wr h h' a i (.int (nar .byte x)) → Goes p e below s n0 C S P T (mkF m (pc + 1) Ls rest)) : Goes p e below s n0 C S P T (mkF m pc Ls (.int x :: .int j :: .ref a :: rest)) := by
  obtain ⟨vm0, ⟨L, X, M⟩, eT, hx, hZ, hown, hB, r⟩ := X
  obtain ⟨cl, A, r1, r2, r3⟩ := F
  obtain ⟨T1, h1, X1, e1, W1, st1⟩ := stB X hx hZ eT A (x := x) (idxI r1 hj hi) (g := mkF m pc Ls (.int x :: .int j :: .ref a :: rest)) rfl rfl hd
  refine Goes.by st1 (G T1 h1 ⟨vm0, ⟨_, X1, Fr.snoc X1 M ha⟩, e1, hx, hZ, hown, hB.mono (Nat.le_of_eq W1.size.symm), r⟩ ?_)
  rw [← (idxN hj).1]
  exact W1
theorem Std.bastoreZ (X : Std p l e R s m args below meth c Z own n0 T h k n) (F : PArr Z h a .boolean N f) {j x : Int32} {i : Nat} (hj : j.toInt = i) (hi : i < N) (ha : n0 ≤ a) (hd : decode c.code pc = .ok (.bastore, 1))
    (G : ∀ T h', Std p l e R s m args below meth c Z own n0 T h' k n → Wr h h' a i (.int (nar .boolean x)) → Goes p e below s n0 C S P T (mkF m (pc + 1) Ls rest)) : Goes p e below s n0 C S P T (mkF m pc Ls (.int x :: .int j :: .ref a :: rest)) := by
  obtain ⟨vm0, ⟨L, X, M⟩, eT, hx, hZ, hown, hB, r⟩ := X
  obtain ⟨cl, A, r1, r2, r3⟩ := F
  obtain ⟨T1, h1, X1, e1, W1, st1⟩ := stZ X hx hZ eT A (x := x) (idxI r1 hj hi) (g := mkF m pc Ls (.int x :: .int j :: .ref a :: rest)) rfl rfl hd
  refine Goes.by st1 (G T1 h1 ⟨vm0, ⟨_, X1, Fr.snoc X1 M ha⟩, e1, hx, hZ, hown, hB.mono (Nat.le_of_eq W1.size.symm), r⟩ ?_)
  rw [← (idxN hj).1]
  exact W1
theorem Std.newA (X : Std p l e R s m args below meth c Z own n0 T h k n) {aty : ArrayType} {ad : String} (had : "[" ++ (newarray.typeOf aty).toString = ad) (w : (Cond.arrayClass (newarray.typeOf aty)).before a0 Z = true) (hd : decode c.code pc = .ok (.newarray aty, 2)) {z : Int32} (hz : z.toInt = N) {cap : Nat} (hcap : N ≤ cap) (hb : cap * 8 ≤ 536870912) (hc : k + 1 ≤ R.cells) (hl : n + cap ≤ R.slots)
    (G : ∀ T h' a, Std p l e R s m args below meth c Z own n0 T h' (k + 1) (n + cap) → a = h.size → n0 ≤ a → Ext h h' → Exa Z h' a ad → PArr Z h' a (newarray.typeOf aty) N (fun _ => defaultValue (newarray.typeOf aty)) → Goes p e below s n0 C S P T (mkF m (pc + 2) Ls (.ref a :: rest))) : Goes p e below s n0 C S P T (mkF m pc Ls (.int z :: rest)) := by
  have q := X.n0le
  obtain ⟨vm0, ⟨L0, X, M⟩, eT, hx, hZ, hown, hB, r⟩ := X
  obtain ⟨T1, h1, cA, X1, e1, E1, A1, B1, st1⟩ := newPE X hx hZ w eT (g := mkF m pc Ls (.int z :: rest)) rfl hd rfl (idxN hz).2 (cap := cap) (by rw [(idxN hz).1]; exact hcap) hb hc hl had
  have hN : N < 2 ^ 31 := by have := Int32.toInt_lt z; omega
  refine Goes.by st1 (G T1 h1 h.size ⟨vm0, ⟨_, X1, M⟩, e1, hx, hZ, hown, hB.mono E1.1, r⟩ rfl q E1 B1 ⟨_, A1, by rw [sz_new]; exact (idxN hz).1, hN, fun i hi => ?_⟩)
  show (Array.replicate z.toNatClampNeg _)[i]? = _
  rw [(idxN hz).1]
  simp [hi]
end OwnArr
section OwnMore
variable {p : Program} {l : Launch} {e : Env} {R : Room} {s : State} {m : MethodId} {args : Array Value} {below : List Frame} {meth : Method} {c : Code} {T T' : State} {Z : State} {own : String} {h h' : Heap} {n0 k n C S : Nat} {a0 : Array Value} {P : Option Value → Heap → Prop} {g g' : JFrame} {pc : Nat} {Ls : Array Slot} {st rest : List Value} {a b : Addr} {ty : FieldType} {N sl : Nat} {f : Nat → Value} {v : Value} {ws : List Addr}
theorem Std.castY (X : Std p l e R s m args below meth c Z own n0 T h k n) {index : Nat} {K : String} (w : (Cond.classLink own index K).before a0 Z = true) (F : Ins Z h a K true) (hd : decode c.code pc = .ok (.checkcast index, 3))
    (G : ∀ T, Std p l e R s m args below meth c Z own n0 T h k n → Goes p e below s n0 C S P T (mkF m (pc + 3) Ls (.ref a :: rest))) : Goes p e below s n0 C S P T (mkF m pc Ls (.ref a :: rest)) := by
  obtain ⟨vm0, ⟨L, X, M⟩, eT, hx, hZ, hown, hB, r⟩ := X
  obtain ⟨T1, X1, e1, st1⟩ := Jvm.RoadKit.castY X hx hZ hown w eT F (g := mkF m pc Ls (.ref a :: rest)) rfl rfl hd
  exact Goes.by st1 (G T1 ⟨vm0, ⟨L, X1, M⟩, e1, hx, hZ, hown, hB, r⟩)
theorem Std.instY (X : Std p l e R s m args below meth c Z own n0 T h k n) {index : Nat} {K : String} (w : (Cond.classLink own index K).before a0 Z = true) (F : Ins Z h a K true) (hd : decode c.code pc = .ok (.instanceof index, 3))
    (G : ∀ T, Std p l e R s m args below meth c Z own n0 T h k n → Goes p e below s n0 C S P T (mkF m (pc + 3) Ls (.int 1 :: rest))) : Goes p e below s n0 C S P T (mkF m pc Ls (.ref a :: rest)) := by
  obtain ⟨vm0, ⟨L, X, M⟩, eT, hx, hZ, hown, hB, r⟩ := X
  obtain ⟨T1, X1, e1, st1⟩ := Jvm.RoadKit.instY X hx hZ hown w eT F (g := mkF m pc Ls (.ref a :: rest)) rfl rfl hd
  exact Goes.by st1 (G T1 ⟨vm0, ⟨L, X1, M⟩, e1, hx, hZ, hown, hB, r⟩)
theorem Std.more (X : Std p l e R s m args below meth c Z own n0 T h k n) {k' n' : Nat} (hk : k ≤ k') (hn : n ≤ n') : Std p l e R s m args below meth c Z own n0 T h k' n' := by
  obtain ⟨vm0, ⟨L, X, M⟩, r⟩ := X
  exact ⟨vm0, ⟨L, X.more hk hn, M⟩, r⟩
theorem Std.clone (X : Std p l e R s m args below meth c Z own n0 T h k n) {ad : String} {index : Nat} (w1 : (Cond.methodLink own index ⟨ad, "clone", "()Ljava/lang/Object;"⟩).before a0 Z = true) (w2 : (Cond.sameMethod ad "java/lang/Object" "clone" "()Ljava/lang/Object;").before a0 Z = true) (w3 : (Cond.native ⟨"java/lang/Object", "clone", "()Ljava/lang/Object;"⟩).before a0 Z = true)
    (w4 : (Cond.instanceMethod ⟨"java/lang/Object", "clone", "()Ljava/lang/Object;"⟩).before a0 Z = true) (w5 : (Cond.selects ad ⟨ad, "clone", "()Ljava/lang/Object;"⟩ ⟨"java/lang/Object", "clone", "()Ljava/lang/Object;"⟩).before a0 Z = true) (w6 : (Cond.castable ad "java/lang/Cloneable").before a0 Z = true)
    (F : PArr Z h a ty N f) (hfit : ∀ i, i < N → fits ty (f i) = true) (E : Exa Z h a ad) (hsz : Ls.size = c.maxLocals) (hd : decode c.code pc = .ok (.invokevirtual index, 3)) (hf : 1 ≤ R.frames) (hl : (rest.map fun v => v.category).sum + 14 ≤ R.locals) {cap : Nat} (hcap : N ≤ cap) (hc : k + 1 ≤ R.cells) (hs : n + cap ≤ R.slots)
    (G : ∀ T h' b, Std p l e R s m args below meth c Z own n0 T h' (k + 1) (n + cap) → b = h.size → n0 ≤ b → Ext h h' → Exa Z h' b ad → PArr Z h' b ty N f → Goes p e below s n0 C S P T (mkF m (pc + 3) Ls (.ref b :: rest))) : Goes p e below s n0 C S P T (mkF m pc Ls (.ref a :: rest)) := by
  have q := X.n0le
  obtain ⟨vm0, ⟨L, X, M⟩, eT, hx, hZ, hown, hB, r⟩ := X
  obtain ⟨cl, A, r1, r2, r3⟩ := F
  have FC : FitC Z cl := fitC_of A fun i hi v hv => by rw [r1] at hi; rw [r3 i hi] at hv; cases hv; exact hfit i hi
  obtain ⟨T1, h1, X1, e1, E1, A1, B1, st1⟩ := cloneA X hx hZ hown w1 w2 w3 w4 w5 w6 eT A E FC (g := mkF m pc Ls (.ref a :: rest)) rfl hsz rfl hd hf (W := (rest.map fun v => v.category).sum) (cap := cap) (by show 2 * 0 + _ ≤ _; omega) hl (by rw [r1]; exact hcap) hc hs
  exact Goes.by st1 (G T1 h1 h.size ⟨vm0, ⟨_, X1, M⟩, e1, hx, hZ, hown, hB.mono E1.1, r⟩ rfl q E1 B1 ⟨cloneOf cl, A1, r1, r2, r3⟩)
theorem Std.grid (X : Std p l e R s m args below meth c Z own n0 T h k n) {K ad : String} {index : Nat} (hC : (FieldType.array ty).toString = K) (had : "[" ++ K = ad) (w1 : (Cond.classLink own index ad).before a0 Z = true) (w2 : (Cond.arrayOver (.array ty)).before a0 Z = true) (w3 : (Cond.arrayClass ty).before a0 Z = true) (hd : decode c.code pc = .ok (.multianewarray index 2, 4)) {z y : Int32} {Y : Nat} (hz : z.toInt = N) (hy : y.toInt = Y) {capN cap : Nat} (hcN : N ≤ capN) (hcap : Y ≤ cap) (hb : cap * 8 ≤ 536870912) (hb1 : capN ≤ 1000) (hdf : fits ty (defaultValue ty) = true) (hdd : (defaultValue ty).isDefault = true) (hc : k + (1 + capN) ≤ R.cells) (hl : n + (capN + capN * cap) ≤ R.slots)
    (G : ∀ T h' b, Std p l e R s m args below meth c Z own n0 T h' (k + (1 + capN)) (n + (capN + capN * cap)) → b = h.size → n0 ≤ b → Ext h h' → Exa Z h' b ad → Goes p e below s n0 C S P T (mkF m (pc + 4) Ls (.ref b :: rest))) : Goes p e below s n0 C S P T (mkF m pc Ls (.int y :: .int z :: rest)) := by
  have q := X.n0le
  have m1 : N * cap ≤ capN * cap := Nat.mul_le_mul_right _ hcN
  obtain ⟨vm0, ⟨L, X, M⟩, eT, hx, hZ, hown, hB, r⟩ := X
  obtain ⟨T1, h1, cA, comp, X1, e1, E1, A1, O1, B1, I1, st1⟩ := gridM X hx hZ hown hC had w1 w2 w3 eT (g := mkF m pc Ls (.int y :: .int z :: rest)) rfl hd rfl (idxN hz).2 (idxN hy).2 (N := N) (idxN hz).1 rfl (cap := cap) (by rw [(idxN hy).1]; exact hcap) hb (by omega) hdf hdd (by omega) (by omega)
  exact Goes.by st1 (G T1 h1 h.size ⟨vm0, ⟨_, X1.more (by omega) (by omega), M⟩, e1, hx, hZ, hown, hB.mono E1.1, r⟩ rfl q E1 B1)
end OwnMore
theorem pf_1 : plainFor (⟨"com/example/exdate/exdate/RowFieldsSplitPinLaw", "pick", "(JII)B"⟩ : MethodName) = true := by first | exact plainFor_of_name (by first | (simp [plainName, overriddenIn]; done) | decide +kernel) | decide +kernel
theorem d1_0 : decode method_2_code 0 = .ok (.iload_n 2, 1) := by decide +kernel
theorem d1_1 : decode method_2_code 1 = .ok (.iload_n 3, 1) := by decide +kernel
theorem d1_2 : decode method_2_code 2 = .ok (.ishr, 1) := by decide +kernel
theorem d1_3 : decode method_2_code 3 = .ok (.iconst 1, 1) := by decide +kernel
theorem d1_4 : decode method_2_code 4 = .ok (.iand, 1) := by decide +kernel
theorem d1_5 : decode method_2_code 5 = .ok (.ifCond .eq 6, 3) := by decide +kernel
theorem d1_11 : decode method_2_code 11 = .ok (.lload_n 0, 1) := by decide +kernel
theorem d1_12 : decode method_2_code 12 = .ok (.bipush 8, 2) := by decide +kernel
theorem d1_14 : decode method_2_code 14 = .ok (.iload_n 3, 1) := by decide +kernel
theorem d1_15 : decode method_2_code 15 = .ok (.imul, 1) := by decide +kernel
theorem d1_16 : decode method_2_code 16 = .ok (.lushr, 1) := by decide +kernel
theorem d1_17 : decode method_2_code 17 = .ok (.l2i, 1) := by decide +kernel
theorem d1_18 : decode method_2_code 18 = .ok (.i2b, 1) := by decide +kernel
theorem d1_19 : decode method_2_code 19 = .ok (.ireturn, 1) := by decide +kernel
theorem d1_8 : decode method_2_code 8 = .ok (.bipush 44, 2) := by decide +kernel
theorem d1_10 : decode method_2_code 10 = .ok (.ireturn, 1) := by decide +kernel
theorem pf_2 : plainFor (⟨"com/example/exdate/exdate/RowFields", "<init>", "()V"⟩ : MethodName) = true := by first | exact plainFor_of_name (by first | (simp [plainName, overriddenIn]; done) | decide +kernel) | decide +kernel
theorem d2_0 : decode prog_38_method_1_code 0 = .ok (.aload_n 0, 1) := by decide +kernel
theorem d2_1 : decode prog_38_method_1_code 1 = .ok (.invokespecial 1, 3) := by decide +kernel
theorem d2_4 : decode prog_38_method_1_code 4 = .ok (.aload_n 0, 1) := by decide +kernel
theorem d2_5 : decode prog_38_method_1_code 5 = .ok (.getstatic 7, 3) := by decide +kernel
theorem d2_8 : decode prog_38_method_1_code 8 = .ok (.iconst 1, 1) := by decide +kernel
theorem d2_9 : decode prog_38_method_1_code 9 = .ok (.iadd, 1) := by decide +kernel
theorem d2_10 : decode prog_38_method_1_code 10 = .ok (.newarray .int, 2) := by decide +kernel
theorem d2_12 : decode prog_38_method_1_code 12 = .ok (.putfield 13, 3) := by decide +kernel
theorem d2_15 : decode prog_38_method_1_code 15 = .ok (.return_, 1) := by decide +kernel
theorem pf_4 : plainFor (⟨"com/example/exdate/exdate/RowFields", "split", "([BII)I"⟩ : MethodName) = true := by first | exact plainFor_of_name (by first | (simp [plainName, overriddenIn]; done) | decide +kernel) | decide +kernel
theorem d4_0 : decode prog_38_method_2_code 0 = .ok (.aload_n 0, 1) := by decide +kernel
theorem d4_1 : decode prog_38_method_2_code 1 = .ok (.aload_n 1, 1) := by decide +kernel
theorem d4_2 : decode prog_38_method_2_code 2 = .ok (.putfield 17, 3) := by decide +kernel
theorem d4_5 : decode prog_38_method_2_code 5 = .ok (.aload_n 0, 1) := by decide +kernel
theorem d4_6 : decode prog_38_method_2_code 6 = .ok (.getfield 13, 3) := by decide +kernel
theorem d4_9 : decode prog_38_method_2_code 9 = .ok (.iconst 0, 1) := by decide +kernel
theorem d4_10 : decode prog_38_method_2_code 10 = .ok (.iload_n 2, 1) := by decide +kernel
theorem d4_11 : decode prog_38_method_2_code 11 = .ok (.iastore, 1) := by decide +kernel
theorem d4_12 : decode prog_38_method_2_code 12 = .ok (.iconst 1, 1) := by decide +kernel
theorem d4_13 : decode prog_38_method_2_code 13 = .ok (.istore 4, 2) := by decide +kernel
theorem d4_15 : decode prog_38_method_2_code 15 = .ok (.iload_n 2, 1) := by decide +kernel
theorem d4_16 : decode prog_38_method_2_code 16 = .ok (.istore 5, 2) := by decide +kernel
theorem d4_18 : decode prog_38_method_2_code 18 = .ok (.iload 5, 2) := by decide +kernel
theorem d4_20 : decode prog_38_method_2_code 20 = .ok (.iload_n 3, 1) := by decide +kernel
theorem d4_21 : decode prog_38_method_2_code 21 = .ok (.if_icmp .ge 40, 3) := by decide +kernel
theorem d4_61 : decode prog_38_method_2_code 61 = .ok (.iload 4, 2) := by decide +kernel
theorem d4_63 : decode prog_38_method_2_code 63 = .ok (.getstatic 7, 3) := by decide +kernel
theorem d4_66 : decode prog_38_method_2_code 66 = .ok (.if_icmp .gt 13, 3) := by decide +kernel
theorem d4_79 : decode prog_38_method_2_code 79 = .ok (.iload 4, 2) := by decide +kernel
theorem d4_81 : decode prog_38_method_2_code 81 = .ok (.ireturn, 1) := by decide +kernel
theorem d4_69 : decode prog_38_method_2_code 69 = .ok (.aload_n 0, 1) := by decide +kernel
theorem d4_70 : decode prog_38_method_2_code 70 = .ok (.getfield 13, 3) := by decide +kernel
theorem d4_73 : decode prog_38_method_2_code 73 = .ok (.iload 4, 2) := by decide +kernel
theorem d4_75 : decode prog_38_method_2_code 75 = .ok (.iload_n 3, 1) := by decide +kernel
theorem d4_76 : decode prog_38_method_2_code 76 = .ok (.iconst 1, 1) := by decide +kernel
theorem d4_77 : decode prog_38_method_2_code 77 = .ok (.iadd, 1) := by decide +kernel
theorem d4_78 : decode prog_38_method_2_code 78 = .ok (.iastore, 1) := by decide +kernel
theorem d4_24 : decode prog_38_method_2_code 24 = .ok (.aload_n 1, 1) := by decide +kernel
theorem d4_25 : decode prog_38_method_2_code 25 = .ok (.iload 5, 2) := by decide +kernel
theorem d4_27 : decode prog_38_method_2_code 27 = .ok (.baload, 1) := by decide +kernel
theorem d4_28 : decode prog_38_method_2_code 28 = .ok (.bipush 44, 2) := by decide +kernel
theorem d4_30 : decode prog_38_method_2_code 30 = .ok (.if_icmp .ne 25, 3) := by decide +kernel
theorem d4_33 : decode prog_38_method_2_code 33 = .ok (.iload 4, 2) := by decide +kernel
theorem d4_35 : decode prog_38_method_2_code 35 = .ok (.getstatic 7, 3) := by decide +kernel
theorem d4_38 : decode prog_38_method_2_code 38 = .ok (.if_icmp .ge 14, 3) := by decide +kernel
theorem d4_41 : decode prog_38_method_2_code 41 = .ok (.aload_n 0, 1) := by decide +kernel
theorem d4_42 : decode prog_38_method_2_code 42 = .ok (.getfield 13, 3) := by decide +kernel
theorem d4_45 : decode prog_38_method_2_code 45 = .ok (.iload 4, 2) := by decide +kernel
theorem d4_47 : decode prog_38_method_2_code 47 = .ok (.iload 5, 2) := by decide +kernel
theorem d4_49 : decode prog_38_method_2_code 49 = .ok (.iconst 1, 1) := by decide +kernel
theorem d4_50 : decode prog_38_method_2_code 50 = .ok (.iadd, 1) := by decide +kernel
theorem d4_51 : decode prog_38_method_2_code 51 = .ok (.iastore, 1) := by decide +kernel
theorem d4_52 : decode prog_38_method_2_code 52 = .ok (.iinc 4 1, 3) := by decide +kernel
theorem d4_55 : decode prog_38_method_2_code 55 = .ok (.iinc 5 1, 3) := by decide +kernel
theorem d4_58 : decode prog_38_method_2_code 58 = .ok (.goto (-40), 3) := by decide +kernel
theorem pf_5 : plainFor (⟨"com/example/exdate/exdate/RowFieldsSplitPinLaw", "hit", "([BIII)I"⟩ : MethodName) = true := by first | exact plainFor_of_name (by first | (simp [plainName, overriddenIn]; done) | decide +kernel) | decide +kernel
theorem d5_0 : decode method_3_code 0 = .ok (.iload_n 1, 1) := by decide +kernel
theorem d5_1 : decode method_3_code 1 = .ok (.iload_n 3, 1) := by decide +kernel
theorem d5_2 : decode method_3_code 2 = .ok (.if_icmp .gt 18, 3) := by decide +kernel
theorem d5_20 : decode method_3_code 20 = .ok (.iconst 0, 1) := by decide +kernel
theorem d5_21 : decode method_3_code 21 = .ok (.ireturn, 1) := by decide +kernel
theorem d5_5 : decode method_3_code 5 = .ok (.iload_n 3, 1) := by decide +kernel
theorem d5_6 : decode method_3_code 6 = .ok (.iload_n 2, 1) := by decide +kernel
theorem d5_7 : decode method_3_code 7 = .ok (.if_icmp .ge 13, 3) := by decide +kernel
theorem d5_10 : decode method_3_code 10 = .ok (.aload_n 0, 1) := by decide +kernel
theorem d5_11 : decode method_3_code 11 = .ok (.iload_n 3, 1) := by decide +kernel
theorem d5_12 : decode method_3_code 12 = .ok (.baload, 1) := by decide +kernel
theorem d5_13 : decode method_3_code 13 = .ok (.bipush 44, 2) := by decide +kernel
theorem d5_15 : decode method_3_code 15 = .ok (.if_icmp .ne 5, 3) := by decide +kernel
theorem d5_18 : decode method_3_code 18 = .ok (.iconst 1, 1) := by decide +kernel
theorem d5_19 : decode method_3_code 19 = .ok (.ireturn, 1) := by decide +kernel
theorem pf_12 : plainFor (⟨"com/example/exdate/exdate/RowFieldsSplitPinLaw", "kth", "([BIII)I"⟩ : MethodName) = true := by first | exact plainFor_of_name (by first | (simp [plainName, overriddenIn]; done) | decide +kernel) | decide +kernel
theorem d12_0 : decode method_4_code 0 = .ok (.iconst 0, 1) := by decide +kernel
theorem d12_1 : decode method_4_code 1 = .ok (.istore 4, 2) := by decide +kernel
theorem d12_3 : decode method_4_code 3 = .ok (.iload 4, 2) := by decide +kernel
theorem d12_5 : decode method_4_code 5 = .ok (.aload_n 0, 1) := by decide +kernel
theorem d12_6 : decode method_4_code 6 = .ok (.iload_n 1, 1) := by decide +kernel
theorem d12_7 : decode method_4_code 7 = .ok (.iload_n 2, 1) := by decide +kernel
theorem d12_8 : decode method_4_code 8 = .ok (.iconst 0, 1) := by decide +kernel
theorem pd_1647763415 : parseMethodDescriptor "([BIII)I" = some ⟨[(.array .byte), .int, .int, .int], some .int⟩ := by decide +kernel
theorem d12_9 : decode method_4_code 9 = .ok (.invokestatic 7, 3) := by decide +kernel
theorem d12_12 : decode method_4_code 12 = .ok (.iadd, 1) := by decide +kernel
theorem d12_13 : decode method_4_code 13 = .ok (.istore 4, 2) := by decide +kernel
theorem d12_15 : decode method_4_code 15 = .ok (.iload 4, 2) := by decide +kernel
theorem d12_17 : decode method_4_code 17 = .ok (.iload_n 3, 1) := by decide +kernel
theorem d12_18 : decode method_4_code 18 = .ok (.if_icmp .ne 5, 3) := by decide +kernel
theorem d12_21 : decode method_4_code 21 = .ok (.iconst 0, 1) := by decide +kernel
theorem d12_22 : decode method_4_code 22 = .ok (.ireturn, 1) := by decide +kernel
theorem d12_23 : decode method_4_code 23 = .ok (.iload 4, 2) := by decide +kernel
theorem d12_25 : decode method_4_code 25 = .ok (.aload_n 0, 1) := by decide +kernel
theorem d12_26 : decode method_4_code 26 = .ok (.iload_n 1, 1) := by decide +kernel
theorem d12_27 : decode method_4_code 27 = .ok (.iload_n 2, 1) := by decide +kernel
theorem d12_28 : decode method_4_code 28 = .ok (.iconst 1, 1) := by decide +kernel
theorem d12_29 : decode method_4_code 29 = .ok (.invokestatic 7, 3) := by decide +kernel
theorem d12_32 : decode method_4_code 32 = .ok (.iadd, 1) := by decide +kernel
theorem d12_33 : decode method_4_code 33 = .ok (.istore 4, 2) := by decide +kernel
theorem d12_35 : decode method_4_code 35 = .ok (.iload 4, 2) := by decide +kernel
theorem d12_37 : decode method_4_code 37 = .ok (.iload_n 3, 1) := by decide +kernel
theorem d12_38 : decode method_4_code 38 = .ok (.if_icmp .ne 5, 3) := by decide +kernel
theorem d12_41 : decode method_4_code 41 = .ok (.iconst 1, 1) := by decide +kernel
theorem d12_42 : decode method_4_code 42 = .ok (.ireturn, 1) := by decide +kernel
theorem d12_43 : decode method_4_code 43 = .ok (.iload 4, 2) := by decide +kernel
theorem d12_45 : decode method_4_code 45 = .ok (.aload_n 0, 1) := by decide +kernel
theorem d12_46 : decode method_4_code 46 = .ok (.iload_n 1, 1) := by decide +kernel
theorem d12_47 : decode method_4_code 47 = .ok (.iload_n 2, 1) := by decide +kernel
theorem d12_48 : decode method_4_code 48 = .ok (.iconst 2, 1) := by decide +kernel
theorem d12_49 : decode method_4_code 49 = .ok (.invokestatic 7, 3) := by decide +kernel
theorem d12_52 : decode method_4_code 52 = .ok (.iadd, 1) := by decide +kernel
theorem d12_53 : decode method_4_code 53 = .ok (.istore 4, 2) := by decide +kernel
theorem d12_55 : decode method_4_code 55 = .ok (.iload 4, 2) := by decide +kernel
theorem d12_57 : decode method_4_code 57 = .ok (.iload_n 3, 1) := by decide +kernel
theorem d12_58 : decode method_4_code 58 = .ok (.if_icmp .ne 5, 3) := by decide +kernel
theorem d12_61 : decode method_4_code 61 = .ok (.iconst 2, 1) := by decide +kernel
theorem d12_62 : decode method_4_code 62 = .ok (.ireturn, 1) := by decide +kernel
theorem d12_63 : decode method_4_code 63 = .ok (.iload 4, 2) := by decide +kernel
theorem d12_65 : decode method_4_code 65 = .ok (.aload_n 0, 1) := by decide +kernel
theorem d12_66 : decode method_4_code 66 = .ok (.iload_n 1, 1) := by decide +kernel
theorem d12_67 : decode method_4_code 67 = .ok (.iload_n 2, 1) := by decide +kernel
theorem d12_68 : decode method_4_code 68 = .ok (.iconst 3, 1) := by decide +kernel
theorem d12_69 : decode method_4_code 69 = .ok (.invokestatic 7, 3) := by decide +kernel
theorem d12_72 : decode method_4_code 72 = .ok (.iadd, 1) := by decide +kernel
theorem d12_73 : decode method_4_code 73 = .ok (.istore 4, 2) := by decide +kernel
theorem d12_75 : decode method_4_code 75 = .ok (.iload 4, 2) := by decide +kernel
theorem d12_77 : decode method_4_code 77 = .ok (.iload_n 3, 1) := by decide +kernel
theorem d12_78 : decode method_4_code 78 = .ok (.if_icmp .ne 5, 3) := by decide +kernel
theorem d12_81 : decode method_4_code 81 = .ok (.iconst 3, 1) := by decide +kernel
theorem d12_82 : decode method_4_code 82 = .ok (.ireturn, 1) := by decide +kernel
theorem d12_83 : decode method_4_code 83 = .ok (.iload 4, 2) := by decide +kernel
theorem d12_85 : decode method_4_code 85 = .ok (.aload_n 0, 1) := by decide +kernel
theorem d12_86 : decode method_4_code 86 = .ok (.iload_n 1, 1) := by decide +kernel
theorem d12_87 : decode method_4_code 87 = .ok (.iload_n 2, 1) := by decide +kernel
theorem d12_88 : decode method_4_code 88 = .ok (.iconst 4, 1) := by decide +kernel
theorem d12_89 : decode method_4_code 89 = .ok (.invokestatic 7, 3) := by decide +kernel
theorem d12_92 : decode method_4_code 92 = .ok (.iadd, 1) := by decide +kernel
theorem d12_93 : decode method_4_code 93 = .ok (.istore 4, 2) := by decide +kernel
theorem d12_95 : decode method_4_code 95 = .ok (.iload 4, 2) := by decide +kernel
theorem d12_97 : decode method_4_code 97 = .ok (.iload_n 3, 1) := by decide +kernel
theorem d12_98 : decode method_4_code 98 = .ok (.if_icmp .ne 5, 3) := by decide +kernel
theorem d12_101 : decode method_4_code 101 = .ok (.iconst 4, 1) := by decide +kernel
theorem d12_102 : decode method_4_code 102 = .ok (.ireturn, 1) := by decide +kernel
theorem d12_103 : decode method_4_code 103 = .ok (.iload 4, 2) := by decide +kernel
theorem d12_105 : decode method_4_code 105 = .ok (.aload_n 0, 1) := by decide +kernel
theorem d12_106 : decode method_4_code 106 = .ok (.iload_n 1, 1) := by decide +kernel
theorem d12_107 : decode method_4_code 107 = .ok (.iload_n 2, 1) := by decide +kernel
theorem d12_108 : decode method_4_code 108 = .ok (.iconst 5, 1) := by decide +kernel
theorem d12_109 : decode method_4_code 109 = .ok (.invokestatic 7, 3) := by decide +kernel
theorem d12_112 : decode method_4_code 112 = .ok (.iadd, 1) := by decide +kernel
theorem d12_113 : decode method_4_code 113 = .ok (.istore 4, 2) := by decide +kernel
theorem d12_115 : decode method_4_code 115 = .ok (.iload 4, 2) := by decide +kernel
theorem d12_117 : decode method_4_code 117 = .ok (.iload_n 3, 1) := by decide +kernel
theorem d12_118 : decode method_4_code 118 = .ok (.if_icmp .ne 5, 3) := by decide +kernel
theorem d12_121 : decode method_4_code 121 = .ok (.iconst 5, 1) := by decide +kernel
theorem d12_122 : decode method_4_code 122 = .ok (.ireturn, 1) := by decide +kernel
theorem d12_123 : decode method_4_code 123 = .ok (.iload 4, 2) := by decide +kernel
theorem d12_125 : decode method_4_code 125 = .ok (.aload_n 0, 1) := by decide +kernel
theorem d12_126 : decode method_4_code 126 = .ok (.iload_n 1, 1) := by decide +kernel
theorem d12_127 : decode method_4_code 127 = .ok (.iload_n 2, 1) := by decide +kernel
theorem d12_128 : decode method_4_code 128 = .ok (.bipush 6, 2) := by decide +kernel
theorem d12_130 : decode method_4_code 130 = .ok (.invokestatic 7, 3) := by decide +kernel
theorem d12_133 : decode method_4_code 133 = .ok (.iadd, 1) := by decide +kernel
theorem d12_134 : decode method_4_code 134 = .ok (.istore 4, 2) := by decide +kernel
theorem d12_136 : decode method_4_code 136 = .ok (.iload 4, 2) := by decide +kernel
theorem d12_138 : decode method_4_code 138 = .ok (.iload_n 3, 1) := by decide +kernel
theorem d12_139 : decode method_4_code 139 = .ok (.if_icmp .ne 6, 3) := by decide +kernel
theorem d12_142 : decode method_4_code 142 = .ok (.bipush 6, 2) := by decide +kernel
theorem d12_144 : decode method_4_code 144 = .ok (.ireturn, 1) := by decide +kernel
theorem d12_145 : decode method_4_code 145 = .ok (.iload 4, 2) := by decide +kernel
theorem d12_147 : decode method_4_code 147 = .ok (.aload_n 0, 1) := by decide +kernel
theorem d12_148 : decode method_4_code 148 = .ok (.iload_n 1, 1) := by decide +kernel
theorem d12_149 : decode method_4_code 149 = .ok (.iload_n 2, 1) := by decide +kernel
theorem d12_150 : decode method_4_code 150 = .ok (.bipush 7, 2) := by decide +kernel
theorem d12_152 : decode method_4_code 152 = .ok (.invokestatic 7, 3) := by decide +kernel
theorem d12_155 : decode method_4_code 155 = .ok (.iadd, 1) := by decide +kernel
theorem d12_156 : decode method_4_code 156 = .ok (.istore 4, 2) := by decide +kernel
theorem d12_158 : decode method_4_code 158 = .ok (.iload 4, 2) := by decide +kernel
theorem d12_160 : decode method_4_code 160 = .ok (.iload_n 3, 1) := by decide +kernel
theorem d12_161 : decode method_4_code 161 = .ok (.if_icmp .ne 6, 3) := by decide +kernel
theorem d12_164 : decode method_4_code 164 = .ok (.bipush 7, 2) := by decide +kernel
theorem d12_166 : decode method_4_code 166 = .ok (.ireturn, 1) := by decide +kernel
theorem d12_167 : decode method_4_code 167 = .ok (.bipush 7, 2) := by decide +kernel
theorem d12_169 : decode method_4_code 169 = .ok (.iload_n 3, 1) := by decide +kernel
theorem d12_170 : decode method_4_code 170 = .ok (.iadd, 1) := by decide +kernel
theorem d12_171 : decode method_4_code 171 = .ok (.iload 4, 2) := by decide +kernel
theorem d12_173 : decode method_4_code 173 = .ok (.isub, 1) := by decide +kernel
theorem d12_174 : decode method_4_code 174 = .ok (.istore 5, 2) := by decide +kernel
theorem d12_176 : decode method_4_code 176 = .ok (.iload 5, 2) := by decide +kernel
theorem d12_178 : decode method_4_code 178 = .ok (.iload_n 2, 1) := by decide +kernel
theorem d12_179 : decode method_4_code 179 = .ok (.if_icmp .ge 6, 3) := by decide +kernel
theorem d12_182 : decode method_4_code 182 = .ok (.iload 5, 2) := by decide +kernel
theorem d12_184 : decode method_4_code 184 = .ok (.ireturn, 1) := by decide +kernel
theorem d12_185 : decode method_4_code 185 = .ok (.iload_n 2, 1) := by decide +kernel
theorem d12_186 : decode method_4_code 186 = .ok (.ireturn, 1) := by decide +kernel
theorem pf_6 : plainFor (⟨"java/lang/Math", "max", "(II)I"⟩ : MethodName) = true := by first | exact plainFor_of_name (by first | (simp [plainName, overriddenIn]; done) | decide +kernel) | decide +kernel
theorem d6_0 : decode jdk_29_method_65_code 0 = .ok (.iload_n 0, 1) := by decide +kernel
theorem d6_1 : decode jdk_29_method_65_code 1 = .ok (.iload_n 1, 1) := by decide +kernel
theorem d6_2 : decode jdk_29_method_65_code 2 = .ok (.if_icmp .lt 7, 3) := by decide +kernel
theorem d6_9 : decode jdk_29_method_65_code 9 = .ok (.iload_n 1, 1) := by decide +kernel
theorem d6_10 : decode jdk_29_method_65_code 10 = .ok (.ireturn, 1) := by decide +kernel
theorem d6_5 : decode jdk_29_method_65_code 5 = .ok (.iload_n 0, 1) := by decide +kernel
theorem d6_6 : decode jdk_29_method_65_code 6 = .ok (.goto 4, 3) := by decide +kernel
theorem pf_7 : plainFor (⟨"com/example/exdate/exdate/RowFields", "bytes", "()[B"⟩ : MethodName) = true := by first | exact plainFor_of_name (by first | (simp [plainName, overriddenIn]; done) | decide +kernel) | decide +kernel
theorem d7_0 : decode prog_38_method_3_code 0 = .ok (.aload_n 0, 1) := by decide +kernel
theorem d7_1 : decode prog_38_method_3_code 1 = .ok (.getfield 17, 3) := by decide +kernel
theorem d7_4 : decode prog_38_method_3_code 4 = .ok (.areturn, 1) := by decide +kernel
theorem pf_10 : plainFor (⟨"java/lang/Enum", "ordinal", "()I"⟩ : MethodName) = true := by first | exact plainFor_of_name (by first | (simp [plainName, overriddenIn]; done) | decide +kernel) | decide +kernel
theorem d10_0 : decode jdk_37_method_2_code 0 = .ok (.aload_n 0, 1) := by decide +kernel
theorem d10_1 : decode jdk_37_method_2_code 1 = .ok (.getfield 7, 3) := by decide +kernel
theorem d10_4 : decode jdk_37_method_2_code 4 = .ok (.ireturn, 1) := by decide +kernel
theorem pf_9 : plainFor (⟨"com/example/exdate/exdate/PositionField", "index", "()I"⟩ : MethodName) = true := by first | exact plainFor_of_name (by first | (simp [plainName, overriddenIn]; done) | decide +kernel) | decide +kernel
theorem d9_0 : decode prog_27_method_6_code 0 = .ok (.aload_n 0, 1) := by decide +kernel
theorem pd_193421983 : parseMethodDescriptor "()I" = some ⟨[], some .int⟩ := by decide +kernel
theorem d9_1 : decode prog_27_method_6_code 1 = .ok (.invokevirtual 97, 3) := by decide +kernel
theorem d9_4 : decode prog_27_method_6_code 4 = .ok (.ireturn, 1) := by decide +kernel
theorem pf_8 : plainFor (⟨"com/example/exdate/exdate/RowFields", "start", "(Lcom/example/exdate/exdate/PositionField;)I"⟩ : MethodName) = true := by first | exact plainFor_of_name (by first | (simp [plainName, overriddenIn]; done) | decide +kernel) | decide +kernel
theorem d8_0 : decode prog_38_method_4_code 0 = .ok (.aload_n 0, 1) := by decide +kernel
theorem d8_1 : decode prog_38_method_4_code 1 = .ok (.getfield 13, 3) := by decide +kernel
theorem d8_4 : decode prog_38_method_4_code 4 = .ok (.aload_n 1, 1) := by decide +kernel
theorem d8_5 : decode prog_38_method_4_code 5 = .ok (.invokevirtual 21, 3) := by decide +kernel
theorem d8_8 : decode prog_38_method_4_code 8 = .ok (.iaload, 1) := by decide +kernel
theorem d8_9 : decode prog_38_method_4_code 9 = .ok (.ireturn, 1) := by decide +kernel
theorem pf_11 : plainFor (⟨"com/example/exdate/exdate/RowFields", "end", "(Lcom/example/exdate/exdate/PositionField;)I"⟩ : MethodName) = true := by first | exact plainFor_of_name (by first | (simp [plainName, overriddenIn]; done) | decide +kernel) | decide +kernel
theorem d11_0 : decode prog_38_method_5_code 0 = .ok (.aload_n 0, 1) := by decide +kernel
theorem d11_1 : decode prog_38_method_5_code 1 = .ok (.getfield 13, 3) := by decide +kernel
theorem d11_4 : decode prog_38_method_5_code 4 = .ok (.aload_n 1, 1) := by decide +kernel
theorem d11_5 : decode prog_38_method_5_code 5 = .ok (.invokevirtual 21, 3) := by decide +kernel
theorem d11_8 : decode prog_38_method_5_code 8 = .ok (.iconst 1, 1) := by decide +kernel
theorem d11_9 : decode prog_38_method_5_code 9 = .ok (.iadd, 1) := by decide +kernel
theorem d11_10 : decode prog_38_method_5_code 10 = .ok (.iaload, 1) := by decide +kernel
theorem d11_11 : decode prog_38_method_5_code 11 = .ok (.iconst 1, 1) := by decide +kernel
theorem d11_12 : decode prog_38_method_5_code 12 = .ok (.isub, 1) := by decide +kernel
theorem d11_13 : decode prog_38_method_5_code 13 = .ok (.ireturn, 1) := by decide +kernel
theorem pf_0 : plainFor (⟨"com/example/exdate/exdate/RowFieldsSplitPinLaw", "law", "(JIII)Z"⟩ : MethodName) = true := by first | exact plainFor_of_name (by first | (simp [plainName, overriddenIn]; done) | decide +kernel) | decide +kernel
theorem pd_1787934452 : parseMethodDescriptor "(JII)B" = some ⟨[.long, .int, .int], some .byte⟩ := by decide +kernel
theorem pd_193421996 : parseMethodDescriptor "()V" = some ⟨[], none⟩ := by decide +kernel
theorem pd_3824296398 : parseMethodDescriptor "([BII)I" = some ⟨[(.array .byte), .int, .int], some .int⟩ := by decide +kernel
theorem pd_184293393 : parseMethodDescriptor "(II)I" = some ⟨[.int, .int], some .int⟩ := by decide +kernel
theorem pd_2087958803 : parseMethodDescriptor "()[B" = some ⟨[], some (.array .byte)⟩ := by decide +kernel
theorem pd_2911223580 : parseMethodDescriptor "(Lcom/example/exdate/exdate/PositionField;)I" = some ⟨[(.object "com/example/exdate/exdate/PositionField")], some .int⟩ := by decide +kernel
def hitB (g : Nat → Int32) (s e i : Nat) : Bool := decide (s ≤ i ∧ i < e ∧ g i = 44)
def hitI (g : Nat → Int32) (s e i : Nat) : Int32 := if hitB g s e i = true then 1 else 0
def hitN (g : Nat → Int32) (s e i : Nat) : Nat := if hitB g s e i = true then 1 else 0
def nthH (g : Nat → Int32) (s e : Nat) : Nat → Nat → Nat → Nat
  | 0, _, _ => e
  | n + 1, i, k => if hitB g s e i = true then (if k = 1 then i else nthH g s e n (i + 1) (k - 1)) else nthH g s e n (i + 1) k
def cntH (g : Nat → Int32) (s e : Nat) : Nat → Nat → Nat
  | 0, _ => 0
  | n + 1, i => hitN g s e i + cntH g s e n (i + 1)
theorem hitI_toInt (g : Nat → Int32) (s e i : Nat) : (hitI g s e i).toInt = (hitN g s e i : Int) ∧ hitN g s e i ≤ 1 := by
  unfold hitI hitN
  cases hitB g s e i <;> decide
theorem hit_yes {g : Nat → Int32} {s e i : Nat} (h1 : s ≤ i) (h2 : i < e) (h3 : g i = 44) : hitB g s e i = true := decide_eq_true ⟨h1, h2, h3⟩
theorem hit_no {g : Nat → Int32} {s e i : Nat} (h : ¬ (s ≤ i ∧ i < e ∧ g i = 44)) : hitB g s e i = false := decide_eq_false h
theorem nth_skip {g : Nat → Int32} {s e n i k : Nat} (h : hitB g s e i = false) : nthH g s e (n + 1) i k = nthH g s e n (i + 1) k := by simp [nthH, h]
theorem nth_hit1 {g : Nat → Int32} {s e n i : Nat} (h : hitB g s e i = true) : nthH g s e (n + 1) i 1 = i := by simp [nthH, h]
theorem nth_hit {g : Nat → Int32} {s e n i k : Nat} (h : hitB g s e i = true) (hk : k ≠ 1) : nthH g s e (n + 1) i k = nthH g s e n (i + 1) (k - 1) := by simp [nthH, h, hk]
theorem nth_end {g : Nat → Int32} {s e : Nat} : ∀ {n i k : Nat}, e ≤ i → nthH g s e n i k = e
  | 0, _, _, _ => rfl
  | n + 1, i, k, h => by rw [nth_skip (hit_no (by omega))]; exact nth_end (by omega)
theorem cnt_end {g : Nat → Int32} {s e : Nat} : ∀ {n i : Nat}, e ≤ i → cntH g s e n i = 0
  | 0, _, _ => rfl
  | n + 1, i, h => by
    have q : hitN g s e i = 0 := by simp [hitN, hit_no (g := g) (s := s) (e := e) (i := i) (by omega)]
    show hitN g s e i + cntH g s e n (i + 1) = 0
    rw [q, cnt_end (by omega)]
theorem nth_pre {g : Nat → Int32} {s e : Nat} : ∀ {d n i k : Nat}, i + d ≤ s → nthH g s e (n + d) i k = nthH g s e n (i + d) k
  | 0, _, _, _, _ => rfl
  | d + 1, n, i, k, h => by
    rw [show n + (d + 1) = (n + d) + 1 by omega, nth_skip (hit_no (by omega)), nth_pre (by omega)]
    congr 1
    omega
theorem cnt_pre {g : Nat → Int32} {s e : Nat} : ∀ {d n i : Nat}, i + d ≤ s → cntH g s e (n + d) i = cntH g s e n (i + d)
  | 0, _, _, _ => rfl
  | d + 1, n, i, h => by
    have q : hitN g s e i = 0 := by simp [hitN, hit_no (g := g) (s := s) (e := e) (i := i) (by omega)]
    show hitN g s e i + cntH g s e (n + d) (i + 1) = _
    rw [q, cnt_pre (by omega), Nat.zero_add]
    congr 1
    omega
theorem nth_run {g : Nat → Int32} {s e : Nat} (hs : s ≤ 8) (hg : ∀ j, 8 ≤ j → g j = 44) : ∀ {n i k : Nat}, 8 ≤ i → e ≤ i + n → 1 ≤ k → nthH g s e n i k = if i + k - 1 < e then i + k - 1 else e
  | 0, i, k, h1, h2, h3 => by rw [if_neg (by omega)]; rfl
  | n + 1, i, k, h1, h2, h3 => by
    by_cases he : i < e
    · have q := hit_yes (g := g) (s := s) (e := e) (i := i) (by omega) he (hg i h1)
      by_cases hk : k = 1
      · subst hk
        rw [nth_hit1 q, if_pos (by omega)]
        omega
      · rw [nth_hit q hk, nth_run hs hg (by omega) (by omega) (by omega)]
        rw [show i + 1 + (k - 1) - 1 = i + k - 1 by omega]
    · rw [nth_end (by omega), if_neg (by omega)]
theorem cnt_run {g : Nat → Int32} {s e : Nat} (hs : s ≤ 8) (hg : ∀ j, 8 ≤ j → g j = 44) : ∀ {n i : Nat}, 8 ≤ i → e ≤ i + n → cntH g s e n i = e - i
  | 0, i, h1, h2 => by show 0 = e - i; omega
  | n + 1, i, h1, h2 => by
    show hitN g s e i + cntH g s e n (i + 1) = e - i
    rw [cnt_run hs hg (by omega) (by omega)]
    by_cases he : i < e
    · have q : hitN g s e i = 1 := by simp [hitN, hit_yes (g := g) (s := s) (e := e) (i := i) (by omega) he (hg i h1)]
      omega
    · have q : hitN g s e i = 0 := by simp [hitN, hit_no (g := g) (s := s) (e := e) (i := i) (by omega)]
      omega
theorem nth_step {g : Nat → Int32} {s e n i k K R : Nat} (hC : K < k) (hN : nthH g s e (n + 1) i (k - K) = R) : (K + hitN g s e i = k → R = i) ∧ (K + hitN g s e i ≠ k → K + hitN g s e i < k ∧ nthH g s e n (i + 1) (k - (K + hitN g s e i)) = R) := by
  cases hb : hitB g s e i with
  | true =>
    have q : hitN g s e i = 1 := by simp [hitN, hb]
    rw [q]
    refine ⟨fun e1 => ?_, fun e1 => ⟨by omega, ?_⟩⟩
    · rw [show k - K = 1 by omega, nth_hit1 hb] at hN
      exact hN.symm
    · rw [nth_hit hb (by omega)] at hN
      rw [← hN]
      congr 1
  | false =>
    have q : hitN g s e i = 0 := by simp [hitN, hb]
    rw [q]
    refine ⟨fun e1 => by omega, fun e1 => ⟨by omega, ?_⟩⟩
    rw [nth_skip hb] at hN
    exact hN
def ini (K j : Nat) : Int32 := if 8 ≤ j ∧ j < K then 44 else 0
def gL (L : List Int32) (j : Nat) : Int32 := if j < 8 then L.getD j 0 else 44
theorem iniS0 {Z : State} {h h' : Heap} {a : Addr} {K : Nat} (F : PArr Z h a .byte 32 (fun j => .int (ini K j))) (hK : K < 8) (W : Wr h h' a K (.int (nar .byte 0))) : PArr Z h' a .byte 32 (fun j => .int (ini (K + 1) j)) := by
  refine (PArr.set F W).congr fun i hi => ?_
  by_cases e : i = K
  · subst e
    rw [if_pos rfl]
    have q : ini (i + 1) i = 0 := by unfold ini; rw [if_neg (by omega)]
    rw [q]; rfl
  · rw [if_neg e]
    simp only [ini]
    by_cases q : 8 ≤ i ∧ i < K
    · rw [if_pos q, if_pos (by omega)]
    · rw [if_neg q, if_neg (by omega)]
theorem iniS {Z : State} {h h' : Heap} {a : Addr} {K : Nat} (F : PArr Z h a .byte 32 (fun j => .int (ini K j))) (hK : 8 ≤ K) (W : Wr h h' a K (.int (nar .byte 44))) : PArr Z h' a .byte 32 (fun j => .int (ini (K + 1) j)) := by
  refine (PArr.set F W).congr fun i hi => ?_
  by_cases e : i = K
  · subst e
    rw [if_pos rfl]
    have q : ini (i + 1) i = 44 := by unfold ini; rw [if_pos (by omega)]
    rw [q]; rfl
  · rw [if_neg e]
    simp only [ini]
    by_cases q : 8 ≤ i ∧ i < K
    · rw [if_pos q, if_pos (by omega)]
    · rw [if_neg q, if_neg (by omega)]
theorem gS {Z : State} {h h' : Heap} {a : Addr} {L : List Int32} {r : Int32} (F : PArr Z h a .byte 32 (fun j => .int (gL L j))) (hL : L.length < 8) (W : Wr h h' a L.length (.int r)) : PArr Z h' a .byte 32 (fun j => .int (gL (L ++ [r]) j)) := by
  refine (PArr.set F W).congr fun i hi => ?_
  by_cases e : i = L.length
  · subst e
    rw [if_pos rfl]
    simp [gL, hL]
  · rw [if_neg e]
    simp only [gL]
    by_cases q : i < 8
    · rw [if_pos q, if_pos q]
      by_cases q2 : i < L.length
      · simp [List.getD_eq_getElem?_getD, List.getElem?_append_left q2]
      · rw [List.getD_eq_getElem?_getD, List.getD_eq_getElem?_getD, List.getElem?_eq_none (by omega), List.getElem?_eq_none (by simp; omega)]
    · rw [if_neg q, if_neg q]
theorem gL8 (L : List Int32) : ∀ j, 8 ≤ j → gL L j = 44 := fun j h => by simp [gL, show ¬ j < 8 by omega]
theorem c0 : (0 : Int32).toInt = 0 := by decide
theorem c1 : (1 : Int32).toInt = 1 := by decide
theorem c7 : (7 : Int32).toInt = 7 := by decide
theorem c8 : (8 : Int32).toInt = 8 := by decide
theorem c22 : (22 : Int32).toInt = 22 := by decide
theorem c33 : (33 : Int32).toInt = 33 := by decide
theorem nthH_le (g : Nat → Int32) (s e : Nat) : ∀ n i k, e ≤ 32 → nthH g s e n i k ≤ 32
  | 0, _, _, h => h
  | n + 1, i, k, h => by
    simp only [nthH]
    by_cases q : hitB g s e i = true
    · rw [if_pos q]
      by_cases q2 : k = 1
      · rw [if_pos q2]
        have := (of_decide_eq_true q).2.1
        omega
      · rw [if_neg q2]; exact nthH_le g s e n _ _ h
    · rw [if_neg q]; exact nthH_le g s e n _ _ h
theorem endEqN {N : Nat} {x kt : Int32} (qb : N ≤ 32) (q : x.toInt = (N : Int) + 1) (hk : kt.toInt = (N : Int)) : x - 1 = kt := by
  have o1 := c1
  exact i32_eq (by rw [subI (by omega) (by omega)]; omega)
theorem staEqN {N : Nat} {x kt : Int32} (qb : N ≤ 32) (q : x.toInt = (N : Int) + 1) (hk : kt.toInt = (N : Int)) : x = kt + 1 := by
  have o1 := c1
  exact i32_eq (by rw [addI (by omega) (by omega)]; omega)
theorem lastEqN {N e_ : Nat} {x ev : Int32} (qb : e_ ≤ 32) (q : x.toInt = (N : Int) + 1) (hN : N = e_) (hev : ev.toInt = (e_ : Int)) : x - 1 = ev := by
  have o1 := c1
  exact i32_eq (by rw [subI (by omega) (by omega)]; omega)
set_option maxRecDepth 65536 in
set_option maxHeartbeats 40000000 in
theorem rmPk (l : Launch) (Z : State) (a0 : Array Value) (hw : ∀ d ∈ tables_1, d.before a0 Z = true) (n0 : Nat) (h0 : Heap) (hn0 : n0 ≤ h0.size) (x : Int64) (m_ i : Int32) :
    Met l Z n0 (⟨"com/example/exdate/exdate/RowFieldsSplitPinLaw", "pick", "(JII)B"⟩ : MethodName) method_2_code 4 (Option.some .byte) ({ frames := 0, cells := 0, slots := 0, locals := 0 } : Room) #[(.long x), (.int m_), (.int i)] h0 (fun (v : Option Value) (h' : Heap) => ∃ r, v = some (.int r) ∧ h' = h0) := by
  refine metW (Q := fun (v : Option Value) (h' : Heap) => ∃ r, v = some (.int r) ∧ h' = h0) pf_1 hn0 ?_
  intro p e sS m below meth cC T X hby hml hret hnm
  refine Goes.by (g' := (mkF m 0 #[.val (.long x), .second, .val (.int m_), .val (.int i)] [])) (fun _ q => castTop (by first | (simp [entryFrame, mkF, argsToLocals, Value.category]; done) | rfl) q) ?_
  refine Goes.by (g' := (mkF m 1 #[.val (.long x), .second, .val (.int m_), .val (.int i)] [(.int m_)])) (fun _ q => XS.iloadN X.here X.hx rfl (hb hby d1_0) rfl q) ?_
  refine Goes.by (g' := (mkF m 2 #[.val (.long x), .second, .val (.int m_), .val (.int i)] [(.int i), (.int m_)])) (fun _ q => XS.iloadN X.here X.hx rfl (hb hby d1_1) rfl q) ?_
  refine Goes.by (g' := (mkF m 3 #[.val (.long x), .second, .val (.int m_), .val (.int i)] [(.int (m_ >>> (i &&& 31)))])) (fun _ q => XS.ishr X.here X.hx rfl (hb hby d1_2) rfl q) ?_
  refine Goes.by (g' := (mkF m 4 #[.val (.long x), .second, .val (.int m_), .val (.int i)] [(.int (1 : Int32)), (.int (m_ >>> (i &&& 31)))])) (fun _ q => XS.iconst X.here X.hx rfl (hb hby d1_3) q) ?_
  refine Goes.by (g' := (mkF m 5 #[.val (.long x), .second, .val (.int m_), .val (.int i)] [(.int ((m_ >>> (i &&& 31)) &&& (1 : Int32)))])) (fun _ q => XS.iand X.here X.hx rfl (hb hby d1_4) rfl q) ?_
  by_cases hB1 : ((m_ >>> (i &&& 31)) &&& (1 : Int32)) = (0 : Int32)
  · skip
    refine Goes.by (g' := (mkF m 11 #[.val (.long x), .second, .val (.int m_), .val (.int i)] [])) (fun _ q => XS.ifYes X.here X.hx rfl (pc0 := 5) (pc' := 11) rfl (hb hby d1_5) rfl ((if0 _ _).trans (teq hB1).1) (by decide) (by decide) q) ?_
    refine Goes.by (g' := (mkF m 12 #[.val (.long x), .second, .val (.int m_), .val (.int i)] [(.long x)])) (fun _ q => XS.lloadN X.here X.hx rfl (hb hby d1_11) rfl q) ?_
    refine Goes.by (g' := (mkF m 14 #[.val (.long x), .second, .val (.int m_), .val (.int i)] [(.int (8 : Int32)), (.long x)])) (fun _ q => XS.bipush X.here X.hx rfl (hb hby d1_12) q) ?_
    refine Goes.by (g' := (mkF m 15 #[.val (.long x), .second, .val (.int m_), .val (.int i)] [(.int i), (.int (8 : Int32)), (.long x)])) (fun _ q => XS.iloadN X.here X.hx rfl (hb hby d1_14) rfl q) ?_
    refine Goes.by (g' := (mkF m 16 #[.val (.long x), .second, .val (.int m_), .val (.int i)] [(.int ((8 : Int32) * i)), (.long x)])) (fun _ q => XS.imul X.here X.hx rfl (hb hby d1_15) rfl q) ?_
    refine Goes.by (g' := (mkF m 17 #[.val (.long x), .second, .val (.int m_), .val (.int i)] [(.long ((x.toUInt64 >>> (((8 : Int32) * i) &&& 0x3f).toInt64.toUInt64).toInt64))])) (fun _ q => XS.lushr X.here X.hx rfl (hb hby d1_16) rfl q) ?_
    refine Goes.by (g' := (mkF m 18 #[.val (.long x), .second, .val (.int m_), .val (.int i)] [(.int (((x.toUInt64 >>> (((8 : Int32) * i) &&& 0x3f).toInt64.toUInt64).toInt64).toInt32))])) (fun _ q => XS.l2i X.here X.hx rfl (hb hby d1_17) rfl q) ?_
    refine Goes.by (g' := (mkF m 19 #[.val (.long x), .second, .val (.int m_), .val (.int i)] [(.int ((((x.toUInt64 >>> (((8 : Int32) * i) &&& 0x3f).toInt64.toUInt64).toInt64).toInt32).toInt8.toInt32))])) (fun _ q => XS.i2b X.here X.hx rfl (hb hby d1_18) rfl q) ?_
    exact X.retN hret (by simp) (hb hby d1_19) (by decide) (by decide) ⟨_, rfl, rfl⟩
  · skip
    refine Goes.by (g' := (mkF m 8 #[.val (.long x), .second, .val (.int m_), .val (.int i)] [])) (fun _ q => XS.ifNo X.here X.hx rfl (hb hby d1_5) rfl ((if0 _ _).trans (feq hB1).1) q) ?_
    refine Goes.by (g' := (mkF m 10 #[.val (.long x), .second, .val (.int m_), .val (.int i)] [(.int (44 : Int32))])) (fun _ q => XS.bipush X.here X.hx rfl (hb hby d1_8) q) ?_
    exact X.retN hret (by simp) (hb hby d1_10) (by decide) (by decide) ⟨_, rfl, rfl⟩
set_option maxRecDepth 65536 in
set_option maxHeartbeats 40000000 in
theorem rmI (l : Launch) (Z : State) (a0 : Array Value) (hw : ∀ d ∈ tables_1, d.before a0 Z = true) (n0 : Nat) (h0 : Heap) (hn0 : n0 ≤ h0.size) (a : Addr) (ga_a : n0 ≤ a) (S_FIELD_COUNT : Sta Z h0 "com/example/exdate/exdate/RowFields" "FIELD_COUNT" "I" (.int 22)) (E_a : Exa Z h0 a "com/example/exdate/exdate/RowFields") (F_a_starts : Fld Z h0 a "com/example/exdate/exdate/RowFields" "starts" "[I" .null) (F_a_bytes : Fld Z h0 a "com/example/exdate/exdate/RowFields" "bytes" "[B" .null) :
    Met l Z n0 (⟨"com/example/exdate/exdate/RowFields", "<init>", "()V"⟩ : MethodName) prog_38_method_1_code 1 (Option.none : Option FieldType) ({ frames := 1, cells := 1, slots := 23, locals := 12 } : Room) #[(.ref a)] h0 (fun (v : Option Value) (h' : Heap) => v = none ∧ ∃ sb, h0.size ≤ sb ∧ Keep h0 h' [a] ∧ Fld Z h' a "com/example/exdate/exdate/RowFields" "starts" "[I" (.ref sb) ∧ Fld Z h' a "com/example/exdate/exdate/RowFields" "bytes" "[B" .null ∧ Exa Z h' sb "[I" ∧ PArr Z h' sb .int 23 (fun j => .int ((fun _ => 0) j))) := by
  refine metW (Q := fun (v : Option Value) (h' : Heap) => v = none ∧ ∃ sb, h0.size ≤ sb ∧ Keep h0 h' [a] ∧ Fld Z h' a "com/example/exdate/exdate/RowFields" "starts" "[I" (.ref sb) ∧ Fld Z h' a "com/example/exdate/exdate/RowFields" "bytes" "[B" .null ∧ Exa Z h' sb "[I" ∧ PArr Z h' sb .int 23 (fun j => .int ((fun _ => 0) j))) pf_2 hn0 ?_
  intro p e sS m below meth cC T X hby hml hret hnm
  refine Goes.by (g' := (mkF m 0 #[.val (.ref a)] [])) (fun _ q => castTop (by first | (simp [entryFrame, mkF, argsToLocals, Value.category]; done) | rfl) q) ?_
  have K0 := Keep.refl h0 [a]
  refine Goes.by (g' := (mkF m 1 #[.val (.ref a)] [(.ref a)])) (fun _ q => XS.aloadN X.here X.hx rfl (hb hby d2_0) rfl rfl q) ?_
  refine X.initO (hw _ (List.mem_of_getElem? (i := 12) rfl)) (hw _ (List.mem_of_getElem? (i := 13) rfl)) (hw _ (List.mem_of_getElem? (i := 14) rfl)) (by rw [hml]; rfl) (hb hby d2_1) (by decide) (leB rfl) (fun T X => ?_)
  show Goes _ _ _ _ _ _ _ _ T (mkF m 4 #[.val (.ref a)] [])
  refine Goes.by (g' := (mkF m 5 #[.val (.ref a)] [(.ref a)])) (fun _ q => XS.aloadN X.here X.hx rfl (hb hby d2_4) rfl rfl q) ?_
  refine X.getS (Or.inl (hw _ (List.mem_of_getElem? (i := 15) rfl))) (host := "") Via.refl S_FIELD_COUNT (hb hby d2_5) (fun T X => ?_)
  show Goes _ _ _ _ _ _ _ _ T (mkF m 8 #[.val (.ref a)] [(.int (22 : Int32)), (.ref a)])
  refine Goes.by (g' := (mkF m 9 #[.val (.ref a)] [(.int (1 : Int32)), (.int (22 : Int32)), (.ref a)])) (fun _ q => XS.iconst X.here X.hx rfl (hb hby d2_8) q) ?_
  refine Goes.by (g' := (mkF m 10 #[.val (.ref a)] [(.int (23 : Int32)), (.ref a)])) (fun _ q => XS.iadd X.here X.hx rfl (hb hby d2_9) rfl q) ?_
  refine X.newA (N := 23) (ad := "[I") (by decide) (hw _ (List.mem_of_getElem? (i := 17) rfl)) (hb hby d2_10) (by decide) (cap := 23) (by decide) (by decide) (by decide) (by decide) (fun T h3 b2 X g_b2 ga_b2 E E_b2 A_b2 => ?_)
  have gz_b2 : h0.size ≤ b2 := by rw [g_b2]; exact K0.1
  have ne_a_b2 : a ≠ b2 := by rw [g_b2]; exact Nat.ne_of_lt E_a.lt
  have K0 := K0.ext E
  have E_a := E_a.ext E
  have F_a_starts := F_a_starts.ext E
  have F_a_bytes := F_a_bytes.ext E
  have S_FIELD_COUNT := S_FIELD_COUNT.ext E
  show Goes _ _ _ _ _ _ _ _ T (mkF m 12 #[.val (.ref a)] [(.ref b2), (.ref a)])
  refine X.putF (host := "") (Or.inl (hw _ (List.mem_of_getElem? (i := 18) rfl))) Via.refl F_a_starts E_a (Or.inr ⟨(hw _ (List.mem_of_getElem? (i := 19) rfl)), rfl, hnm⟩) (hw _ (List.mem_of_getElem? (i := 7) rfl)) (ty := (.array .int)) (by decide) rfl rfl ga_a (hb hby d2_12) (fun T h4 X W => ?_)
  have K0 := K0.wr W (Or.inl (by simp))
  have E_a := E_a.wr W
  have F_a_starts := F_a_starts.same W
  have F_a_bytes := F_a_bytes.other W (Or.inr (slot_ne (Or.inl (hw _ (List.mem_of_getElem? (i := 26) rfl))) (Or.inr (hw _ (List.mem_of_getElem? (i := 19) rfl))) (by decide) (t := (.array .byte)) (t' := (.array .int)) (by decide) (by decide)))
  have S_FIELD_COUNT := S_FIELD_COUNT.wr W
  have E_b2 := E_b2.wr W
  have A_b2 := PArr.other A_b2 W (Ne.symm ne_a_b2)
  show Goes _ _ _ _ _ _ _ _ T (mkF m 15 #[.val (.ref a)] [])
  exact X.retV hret (hb hby d2_15) (by decide) (by decide) ⟨rfl, b2, gz_b2, K0, F_a_starts, F_a_bytes, E_b2, PArr.congr A_b2 (fun _ _ => rfl)⟩
set_option maxRecDepth 65536 in
set_option maxHeartbeats 40000000 in
theorem rmSp (l : Launch) (Z : State) (a0 : Array Value) (hw : ∀ d ∈ tables_1, d.before a0 Z = true) (n0 : Nat) (h0 : Heap) (hn0 : n0 ≤ h0.size) (a b sb : Addr) (sv ev : Int32) (s e_ : Nat) (g : Nat → Int32) (hsv : sv.toInt = s) (hev : ev.toInt = e_) (hse : s ≤ e_) (he32 : e_ ≤ 32) (ga_a : n0 ≤ a) (ga_sb : n0 ≤ sb) (ne_sb_a : sb ≠ a) (ne_b_a : b ≠ a) (ne_b_sb : b ≠ sb) (S_FIELD_COUNT : Sta Z h0 "com/example/exdate/exdate/RowFields" "FIELD_COUNT" "I" (.int 22)) (E_a : Exa Z h0 a "com/example/exdate/exdate/RowFields") (F_a_starts : Fld Z h0 a "com/example/exdate/exdate/RowFields" "starts" "[I" (.ref sb)) (F_a_bytes : Fld Z h0 a "com/example/exdate/exdate/RowFields" "bytes" "[B" .null) (A_sb : PArr Z h0 sb .int 23 (fun j => .int ((fun _ => 0) j))) (A_b : PArr Z h0 b .byte 32 (fun j => .int (g j))) :
    Met l Z n0 (⟨"com/example/exdate/exdate/RowFields", "split", "([BII)I"⟩ : MethodName) prog_38_method_2_code 6 (Option.some .int) ({ frames := 0, cells := 0, slots := 0, locals := 0 } : Room) #[(.ref a), (.ref b), (.int sv), (.int ev)] h0 (fun (v : Option Value) (h' : Heap) => ∃ (r : Int32) (c : Nat → Int32), v = some (.int r) ∧ r.toInt = ((1 + cntH g s e_ 32 0 : Nat) : Int) ∧ nthH g s e_ 32 0 (1 + cntH g s e_ 32 0) = e_ ∧ Keep h0 h' [a, sb] ∧ Fld Z h' a "com/example/exdate/exdate/RowFields" "starts" "[I" (.ref sb) ∧ Fld Z h' a "com/example/exdate/exdate/RowFields" "bytes" "[B" (.ref b) ∧ PArr Z h' sb .int 23 (fun j => .int (c j)) ∧ c 0 = sv ∧ ∀ j, 1 ≤ j → j ≤ 1 + cntH g s e_ 32 0 → (j ≤ 21 ∨ j = 1 + cntH g s e_ 32 0 ∧ j ≤ 22) → (c j).toInt = (nthH g s e_ 32 0 j : Int) + 1) := by
  refine metW (Q := fun (v : Option Value) (h' : Heap) => ∃ (r : Int32) (c : Nat → Int32), v = some (.int r) ∧ r.toInt = ((1 + cntH g s e_ 32 0 : Nat) : Int) ∧ nthH g s e_ 32 0 (1 + cntH g s e_ 32 0) = e_ ∧ Keep h0 h' [a, sb] ∧ Fld Z h' a "com/example/exdate/exdate/RowFields" "starts" "[I" (.ref sb) ∧ Fld Z h' a "com/example/exdate/exdate/RowFields" "bytes" "[B" (.ref b) ∧ PArr Z h' sb .int 23 (fun j => .int (c j)) ∧ c 0 = sv ∧ ∀ j, 1 ≤ j → j ≤ 1 + cntH g s e_ 32 0 → (j ≤ 21 ∨ j = 1 + cntH g s e_ 32 0 ∧ j ≤ 22) → (c j).toInt = (nthH g s e_ 32 0 j : Int) + 1) pf_4 hn0 ?_
  intro p e sS m below meth cC T X hby hml hret hnm
  refine Goes.by (g' := (mkF m 0 #[.val (.ref a), .val (.ref b), .val (.int sv), .val (.int ev), .unset, .unset] [])) (fun _ q => castTop (by first | (simp [entryFrame, mkF, argsToLocals, Value.category]; done) | rfl) q) ?_
  have K0 := Keep.refl h0 [a, sb]
  refine Goes.by (g' := (mkF m 1 #[.val (.ref a), .val (.ref b), .val (.int sv), .val (.int ev), .unset, .unset] [(.ref a)])) (fun _ q => XS.aloadN X.here X.hx rfl (hb hby d4_0) rfl rfl q) ?_
  refine Goes.by (g' := (mkF m 2 #[.val (.ref a), .val (.ref b), .val (.int sv), .val (.int ev), .unset, .unset] [(.ref b), (.ref a)])) (fun _ q => XS.aloadN X.here X.hx rfl (hb hby d4_1) rfl rfl q) ?_
  refine X.putF (host := "") (Or.inl (hw _ (List.mem_of_getElem? (i := 25) rfl))) Via.refl F_a_bytes E_a (Or.inl (hw _ (List.mem_of_getElem? (i := 26) rfl))) (hw _ (List.mem_of_getElem? (i := 7) rfl)) (ty := (.array .byte)) (by decide) rfl rfl ga_a (hb hby d4_2) (fun T h5 X W => ?_)
  have K0 := K0.wr W (Or.inl (by simp))
  have E_a := E_a.wr W
  have F_a_starts := F_a_starts.other W (Or.inr (slot_ne (Or.inr (hw _ (List.mem_of_getElem? (i := 19) rfl))) (Or.inl (hw _ (List.mem_of_getElem? (i := 26) rfl))) (by decide) (t := (.array .int)) (t' := (.array .byte)) (by decide) (by decide)))
  have F_a_bytes := F_a_bytes.same W
  have S_FIELD_COUNT := S_FIELD_COUNT.wr W
  have A_sb := PArr.other A_sb W ne_sb_a
  have A_b := PArr.other A_b W ne_b_a
  show Goes _ _ _ _ _ _ _ _ T (mkF m 5 #[.val (.ref a), .val (.ref b), .val (.int sv), .val (.int ev), .unset, .unset] [])
  refine Goes.by (g' := (mkF m 6 #[.val (.ref a), .val (.ref b), .val (.int sv), .val (.int ev), .unset, .unset] [(.ref a)])) (fun _ q => XS.aloadN X.here X.hx rfl (hb hby d4_5) rfl rfl q) ?_
  refine X.getF (host := "") (Or.inl (hw _ (List.mem_of_getElem? (i := 18) rfl))) Via.refl F_a_starts (hb hby d4_6) (fun T X => ?_)
  show Goes _ _ _ _ _ _ _ _ T (mkF m 9 #[.val (.ref a), .val (.ref b), .val (.int sv), .val (.int ev), .unset, .unset] [(.ref sb)])
  refine Goes.by (g' := (mkF m 10 #[.val (.ref a), .val (.ref b), .val (.int sv), .val (.int ev), .unset, .unset] [(.int (0 : Int32)), (.ref sb)])) (fun _ q => XS.iconst X.here X.hx rfl (hb hby d4_9) q) ?_
  refine Goes.by (g' := (mkF m 11 #[.val (.ref a), .val (.ref b), .val (.int sv), .val (.int ev), .unset, .unset] [(.int sv), (.int (0 : Int32)), (.ref sb)])) (fun _ q => XS.iloadN X.here X.hx rfl (hb hby d4_10) rfl q) ?_
  refine X.iastore A_sb (i := 0) (by decide) (by decide) ga_sb (hb hby d4_11) (fun T h6 X W => ?_)
  have K0 := K0.wr W (Or.inl (by simp))
  have E_a := E_a.wr W
  have F_a_starts := F_a_starts.other W (Or.inl (Ne.symm ne_sb_a))
  have F_a_bytes := F_a_bytes.other W (Or.inl (Ne.symm ne_sb_a))
  have S_FIELD_COUNT := S_FIELD_COUNT.wr W
  have A_sb := PArr.set A_sb W
  have A_b := PArr.other A_b W ne_b_sb
  have A_sb : PArr Z h6 sb .int 23 (fun j => .int ((fun j => if j = 0 then sv else 0) j)) := PArr.congr A_sb (fun j hj => by show (if j = 0 then Value.int sv else .int 0) = .int (if j = 0 then sv else 0); by_cases e : j = 0 <;> simp [e])
  show Goes _ _ _ _ _ _ _ _ T (mkF m 12 #[.val (.ref a), .val (.ref b), .val (.int sv), .val (.int ev), .unset, .unset] [])
  refine Goes.by (g' := (mkF m 13 #[.val (.ref a), .val (.ref b), .val (.int sv), .val (.int ev), .unset, .unset] [(.int (1 : Int32))])) (fun _ q => XS.iconst X.here X.hx rfl (hb hby d4_12) q) ?_
  refine Goes.by (g' := (mkF m 15 #[.val (.ref a), .val (.ref b), .val (.int sv), .val (.int ev), .val (.int (1 : Int32)), .unset] [])) (fun _ q => XS.istore X.here X.hx rfl (hb hby d4_13) rfl (l' := #[.val (.ref a), .val (.ref b), .val (.int sv), .val (.int ev), .val (.int (1 : Int32)), .unset]) rfl q) ?_
  refine Goes.by (g' := (mkF m 16 #[.val (.ref a), .val (.ref b), .val (.int sv), .val (.int ev), .val (.int (1 : Int32)), .unset] [(.int sv)])) (fun _ q => XS.iloadN X.here X.hx rfl (hb hby d4_15) rfl q) ?_
  refine Goes.by (g' := (mkF m 18 #[.val (.ref a), .val (.ref b), .val (.int sv), .val (.int ev), .val (.int (1 : Int32)), .val (.int sv)] [])) (fun _ q => XS.istore X.here X.hx rfl (hb hby d4_16) rfl (l' := #[.val (.ref a), .val (.ref b), .val (.int sv), .val (.int ev), .val (.int (1 : Int32)), .val (.int sv)]) rfl q) ?_
  show Goes _ _ _ _ _ _ _ _ T (mkF m 18 #[.val (.ref a), .val (.ref b), .val (.int sv), .val (.int ev), .val (.int (cI 1)), .val (.int (cI sv))] [])
  generalize hq1 : cI 1 = fv
  generalize hq2 : cI sv = iv
  obtain ⟨F, hF⟩ : ∃ F : Nat, F = 1 := ⟨_, rfl⟩
  obtain ⟨i, hi⟩ : ∃ i : Nat, i = s := ⟨_, rfl⟩
  obtain ⟨c, hc⟩ : ∃ c : Nat → Int32, c = fun j => if j = 0 then sv else 0 := ⟨_, rfl⟩
  have Inv : 1 ≤ F ∧ F ≤ 33 ∧ F + s ≤ i + 1 ∧ s ≤ i ∧ i ≤ e_ ∧ fv.toInt = (F : Int) ∧ iv.toInt = (i : Int) ∧ F + cntH g s e_ (32 - i) i = 1 + cntH g s e_ 32 0 ∧ (∀ j, F ≤ j → nthH g s e_ 32 0 j = nthH g s e_ (32 - i) i (j - F + 1)) ∧ c 0 = sv ∧ (∀ j, 1 ≤ j → j < F → j ≤ 21 → (c j).toInt = (nthH g s e_ 32 0 j : Int) + 1) ∧ PArr Z h6 sb .int 23 (fun j => .int (c j)) ∧ PArr Z h6 b .byte 32 (fun j => .int (g j)) ∧ Keep h0 h6 [a, sb] ∧ Exa Z h6 a "com/example/exdate/exdate/RowFields" ∧ Fld Z h6 a "com/example/exdate/exdate/RowFields" "starts" "[I" (.ref sb) ∧ Fld Z h6 a "com/example/exdate/exdate/RowFields" "bytes" "[B" (.ref b) ∧ Sta Z h6 "com/example/exdate/exdate/RowFields" "FIELD_COUNT" "I" (.int 22) := by
    refine ⟨by omega, by omega, by omega, by omega, by omega, by rw [← hq1, hF]; decide, by rw [← hq2, hi]; exact hsv, ?_, fun j hj => ?_, by rw [hc]; rfl, fun j h1 h2 => by omega, by rw [hc]; exact A_sb, A_b, K0, E_a, F_a_starts, F_a_bytes, S_FIELD_COUNT⟩
    · rw [hF, hi]
      have q := cnt_pre (g := g) (s := s) (e := e_) (d := s) (n := 32 - s) (i := 0) (by omega)
      rw [show 32 - s + s = 32 by omega, Nat.zero_add] at q
      rw [q]
    · rw [hF, hi]
      have q := nth_pre (g := g) (s := s) (e := e_) (d := s) (n := 32 - s) (i := 0) (k := j) (by omega)
      rw [show 32 - s + s = 32 by omega, Nat.zero_add] at q
      rw [q]
      congr 1
      omega
  clear hq1 hq2 hF hi hc A_sb A_b K0 E_a F_a_starts F_a_bytes S_FIELD_COUNT W
  clear A_sb
  obtain ⟨d, hd⟩ : ∃ d : Nat, e_ - i = d := ⟨_, rfl⟩
  induction d generalizing F i c fv iv T h6 with
  | zero =>
    obtain ⟨hF1, hF33, hFs, hsi, hie, hfv, hiv, hcnt, hnth, hc0, hcj, A_sb, A_b, K0, E_a, F_a_starts, F_a_bytes, S_FIELD_COUNT⟩ := Inv
    have o22 := c22; have o1 := c1
    have hei : i = e_ := by omega
    subst hei
    have hcF : F = 1 + cntH g s i 32 0 := by
      rw [cnt_end (Nat.le_refl _)] at hcnt
      exact hcnt
    have hnF : nthH g s i 32 0 F = i := by rw [hnth F (Nat.le_refl _)]; exact nth_end (Nat.le_refl _)
    have hev1 : (ev + 1).toInt = (i : Int) + 1 := by rw [addI (by omega) (by omega), hev, o1]
    refine Goes.by (g' := (mkF m 20 #[.val (.ref a), .val (.ref b), .val (.int sv), .val (.int ev), .val (.int fv), .val (.int iv)] [(.int iv)])) (fun _ q => XS.iload X.here X.hx rfl (hb hby d4_18) rfl q) ?_
    refine Goes.by (g' := (mkF m 21 #[.val (.ref a), .val (.ref b), .val (.int sv), .val (.int ev), .val (.int fv), .val (.int iv)] [(.int ev), (.int iv)])) (fun _ q => XS.iloadN X.here X.hx rfl (hb hby d4_20) rfl q) ?_
    refine Goes.by (g' := (mkF m 61 #[.val (.ref a), .val (.ref b), .val (.int sv), .val (.int ev), .val (.int fv), .val (.int iv)] [])) (fun _ q => XS.icmpYes X.here X.hx rfl (pc0 := 21) (pc' := 61) rfl (hb hby d4_21) rfl (flt (show ¬ iv < ev from (by rw [ltI]; omega))).2.1 (by decide) (by decide) q) ?_
    refine Goes.by (g' := (mkF m 63 #[.val (.ref a), .val (.ref b), .val (.int sv), .val (.int ev), .val (.int fv), .val (.int iv)] [(.int fv)])) (fun _ q => XS.iload X.here X.hx rfl (hb hby d4_61) rfl q) ?_
    refine X.getS (Or.inl (hw _ (List.mem_of_getElem? (i := 15) rfl))) (host := "") Via.refl S_FIELD_COUNT (hb hby d4_63) (fun T X => ?_)
    show Goes _ _ _ _ _ _ _ _ T (mkF m 66 #[.val (.ref a), .val (.ref b), .val (.int sv), .val (.int ev), .val (.int fv), .val (.int iv)] [(.int (22 : Int32)), (.int fv)])
    by_cases hB7 : (22 : Int32) < fv
    · skip
      refine Goes.by (g' := (mkF m 79 #[.val (.ref a), .val (.ref b), .val (.int sv), .val (.int ev), .val (.int fv), .val (.int iv)] [])) (fun _ q => XS.icmpYes X.here X.hx rfl (pc0 := 66) (pc' := 79) rfl (hb hby d4_66) rfl (tlt hB7).2.2.1 (by decide) (by decide) q) ?_
      refine Goes.by (g' := (mkF m 81 #[.val (.ref a), .val (.ref b), .val (.int sv), .val (.int ev), .val (.int fv), .val (.int iv)] [(.int fv)])) (fun _ q => XS.iload X.here X.hx rfl (hb hby d4_79) rfl q) ?_
      exact X.retI hret (hb hby d4_81) (by decide) (by decide) ⟨fv, c, rfl, by rw [hfv, hcF], (by rw [← hcF]; exact hnF), K0, F_a_starts, F_a_bytes, A_sb, hc0, fun j h1 h2 h3 => by
          have q : ¬ (F ≤ 22) := by simp only [ltI] at hB7; omega
          exact hcj j h1 (by omega) (by omega)⟩
    · skip
      refine Goes.by (g' := (mkF m 69 #[.val (.ref a), .val (.ref b), .val (.int sv), .val (.int ev), .val (.int fv), .val (.int iv)] [])) (fun _ q => XS.icmpNo X.here X.hx rfl (hb hby d4_66) rfl (flt hB7).2.2.1 q) ?_
      refine Goes.by (g' := (mkF m 70 #[.val (.ref a), .val (.ref b), .val (.int sv), .val (.int ev), .val (.int fv), .val (.int iv)] [(.ref a)])) (fun _ q => XS.aloadN X.here X.hx rfl (hb hby d4_69) rfl rfl q) ?_
      refine X.getF (host := "") (Or.inl (hw _ (List.mem_of_getElem? (i := 18) rfl))) Via.refl F_a_starts (hb hby d4_70) (fun T X => ?_)
      show Goes _ _ _ _ _ _ _ _ T (mkF m 73 #[.val (.ref a), .val (.ref b), .val (.int sv), .val (.int ev), .val (.int fv), .val (.int iv)] [(.ref sb)])
      refine Goes.by (g' := (mkF m 75 #[.val (.ref a), .val (.ref b), .val (.int sv), .val (.int ev), .val (.int fv), .val (.int iv)] [(.int fv), (.ref sb)])) (fun _ q => XS.iload X.here X.hx rfl (hb hby d4_73) rfl q) ?_
      refine Goes.by (g' := (mkF m 76 #[.val (.ref a), .val (.ref b), .val (.int sv), .val (.int ev), .val (.int fv), .val (.int iv)] [(.int ev), (.int fv), (.ref sb)])) (fun _ q => XS.iloadN X.here X.hx rfl (hb hby d4_75) rfl q) ?_
      refine Goes.by (g' := (mkF m 77 #[.val (.ref a), .val (.ref b), .val (.int sv), .val (.int ev), .val (.int fv), .val (.int iv)] [(.int (1 : Int32)), (.int ev), (.int fv), (.ref sb)])) (fun _ q => XS.iconst X.here X.hx rfl (hb hby d4_76) q) ?_
      refine Goes.by (g' := (mkF m 78 #[.val (.ref a), .val (.ref b), .val (.int sv), .val (.int ev), .val (.int fv), .val (.int iv)] [(.int (ev + (1 : Int32))), (.int fv), (.ref sb)])) (fun _ q => XS.iadd X.here X.hx rfl (hb hby d4_77) rfl q) ?_
      refine X.iastore A_sb (i := F) hfv (by simp only [ltI] at hB7; omega) ga_sb (hb hby d4_78) (fun T h8 X W => ?_)
      have K0 := K0.wr W (Or.inl (by simp))
      have E_a := E_a.wr W
      have F_a_starts := F_a_starts.other W (Or.inl (Ne.symm ne_sb_a))
      have F_a_bytes := F_a_bytes.other W (Or.inl (Ne.symm ne_sb_a))
      have S_FIELD_COUNT := S_FIELD_COUNT.wr W
      have A_sb := PArr.set A_sb W
      have A_b := PArr.other A_b W ne_b_sb
      have A_sb : PArr Z h8 sb .int 23 (fun j => .int ((fun j => if j = F then ev + 1 else c j) j)) := PArr.congr A_sb (fun j hj => by show (if j = F then Value.int (ev + 1) else .int (c j)) = .int (if j = F then ev + 1 else c j); by_cases e1 : j = F <;> simp [e1])
      show Goes _ _ _ _ _ _ _ _ T (mkF m 79 #[.val (.ref a), .val (.ref b), .val (.int sv), .val (.int ev), .val (.int fv), .val (.int iv)] [])
      refine Goes.by (g' := (mkF m 81 #[.val (.ref a), .val (.ref b), .val (.int sv), .val (.int ev), .val (.int fv), .val (.int iv)] [(.int fv)])) (fun _ q => XS.iload X.here X.hx rfl (hb hby d4_79) rfl q) ?_
      exact X.retI hret (hb hby d4_81) (by decide) (by decide) ⟨fv, _, rfl, by rw [hfv, hcF], (by rw [← hcF]; exact hnF), K0, F_a_starts, F_a_bytes, A_sb, by show (if (0 : Nat) = F then ev + 1 else c 0) = sv; rw [if_neg (by omega)]; exact hc0, fun j h1 h2 h3 => by
          show ((if j = F then ev + 1 else c j) : Int32).toInt = _
          by_cases e1 : j = F
          · rw [if_pos e1, hev1, e1, hnF]
          · rw [if_neg e1]
            exact hcj j h1 (by omega) (by omega)⟩
  | succ d ih =>
    obtain ⟨hF1, hF33, hFs, hsi, hie, hfv, hiv, hcnt, hnth, hc0, hcj, A_sb, A_b, K0, E_a, F_a_starts, F_a_bytes, S_FIELD_COUNT⟩ := Inv
    have o22 := c22; have o1 := c1
    have hlt : i < e_ := by omega
    have hiv1 : (iv + 1).toInt = ((i + 1 : Nat) : Int) := by rw [addI (by omega) (by omega), hiv, o1]; rfl
    have hfv1 : (fv + 1).toInt = ((F + 1 : Nat) : Int) := by rw [addI (by omega) (by omega), hfv, o1]; rfl
    have e32 : 32 - i = (32 - (i + 1)) + 1 := by omega
    refine Goes.by (g' := (mkF m 20 #[.val (.ref a), .val (.ref b), .val (.int sv), .val (.int ev), .val (.int fv), .val (.int iv)] [(.int iv)])) (fun _ q => XS.iload X.here X.hx rfl (hb hby d4_18) rfl q) ?_
    refine Goes.by (g' := (mkF m 21 #[.val (.ref a), .val (.ref b), .val (.int sv), .val (.int ev), .val (.int fv), .val (.int iv)] [(.int ev), (.int iv)])) (fun _ q => XS.iloadN X.here X.hx rfl (hb hby d4_20) rfl q) ?_
    refine Goes.by (g' := (mkF m 24 #[.val (.ref a), .val (.ref b), .val (.int sv), .val (.int ev), .val (.int fv), .val (.int iv)] [])) (fun _ q => XS.icmpNo X.here X.hx rfl (hb hby d4_21) rfl (tlt (show iv < ev from (by rw [ltI]; omega))).2.1 q) ?_
    refine Goes.by (g' := (mkF m 25 #[.val (.ref a), .val (.ref b), .val (.int sv), .val (.int ev), .val (.int fv), .val (.int iv)] [(.ref b)])) (fun _ q => XS.aloadN X.here X.hx rfl (hb hby d4_24) rfl rfl q) ?_
    refine Goes.by (g' := (mkF m 27 #[.val (.ref a), .val (.ref b), .val (.int sv), .val (.int ev), .val (.int fv), .val (.int iv)] [(.int iv), (.ref b)])) (fun _ q => XS.iload X.here X.hx rfl (hb hby d4_25) rfl q) ?_
    refine X.baloadB A_b (i := i) hiv (by omega) (hb hby d4_27) ?_
    show Goes _ _ _ _ _ _ _ _ T (mkF m 28 #[.val (.ref a), .val (.ref b), .val (.int sv), .val (.int ev), .val (.int fv), .val (.int iv)] [(.int (g i))])
    refine Goes.by (g' := (mkF m 30 #[.val (.ref a), .val (.ref b), .val (.int sv), .val (.int ev), .val (.int fv), .val (.int iv)] [(.int (44 : Int32)), (.int (g i))])) (fun _ q => XS.bipush X.here X.hx rfl (hb hby d4_28) q) ?_
    by_cases hB9 : (g i) = (44 : Int32)
    · skip
      refine Goes.by (g' := (mkF m 33 #[.val (.ref a), .val (.ref b), .val (.int sv), .val (.int ev), .val (.int fv), .val (.int iv)] [])) (fun _ q => XS.icmpNo X.here X.hx rfl (hb hby d4_30) rfl (teq hB9).2 q) ?_
      refine Goes.by (g' := (mkF m 35 #[.val (.ref a), .val (.ref b), .val (.int sv), .val (.int ev), .val (.int fv), .val (.int iv)] [(.int fv)])) (fun _ q => XS.iload X.here X.hx rfl (hb hby d4_33) rfl q) ?_
      refine X.getS (Or.inl (hw _ (List.mem_of_getElem? (i := 15) rfl))) (host := "") Via.refl S_FIELD_COUNT (hb hby d4_35) (fun T X => ?_)
      show Goes _ _ _ _ _ _ _ _ T (mkF m 38 #[.val (.ref a), .val (.ref b), .val (.int sv), .val (.int ev), .val (.int fv), .val (.int iv)] [(.int (22 : Int32)), (.int fv)])
      by_cases hB10 : fv < (22 : Int32)
      · skip
        refine Goes.by (g' := (mkF m 41 #[.val (.ref a), .val (.ref b), .val (.int sv), .val (.int ev), .val (.int fv), .val (.int iv)] [])) (fun _ q => XS.icmpNo X.here X.hx rfl (hb hby d4_38) rfl (tlt hB10).2.1 q) ?_
        refine Goes.by (g' := (mkF m 42 #[.val (.ref a), .val (.ref b), .val (.int sv), .val (.int ev), .val (.int fv), .val (.int iv)] [(.ref a)])) (fun _ q => XS.aloadN X.here X.hx rfl (hb hby d4_41) rfl rfl q) ?_
        refine X.getF (host := "") (Or.inl (hw _ (List.mem_of_getElem? (i := 18) rfl))) Via.refl F_a_starts (hb hby d4_42) (fun T X => ?_)
        show Goes _ _ _ _ _ _ _ _ T (mkF m 45 #[.val (.ref a), .val (.ref b), .val (.int sv), .val (.int ev), .val (.int fv), .val (.int iv)] [(.ref sb)])
        refine Goes.by (g' := (mkF m 47 #[.val (.ref a), .val (.ref b), .val (.int sv), .val (.int ev), .val (.int fv), .val (.int iv)] [(.int fv), (.ref sb)])) (fun _ q => XS.iload X.here X.hx rfl (hb hby d4_45) rfl q) ?_
        refine Goes.by (g' := (mkF m 49 #[.val (.ref a), .val (.ref b), .val (.int sv), .val (.int ev), .val (.int fv), .val (.int iv)] [(.int iv), (.int fv), (.ref sb)])) (fun _ q => XS.iload X.here X.hx rfl (hb hby d4_47) rfl q) ?_
        refine Goes.by (g' := (mkF m 50 #[.val (.ref a), .val (.ref b), .val (.int sv), .val (.int ev), .val (.int fv), .val (.int iv)] [(.int (1 : Int32)), (.int iv), (.int fv), (.ref sb)])) (fun _ q => XS.iconst X.here X.hx rfl (hb hby d4_49) q) ?_
        refine Goes.by (g' := (mkF m 51 #[.val (.ref a), .val (.ref b), .val (.int sv), .val (.int ev), .val (.int fv), .val (.int iv)] [(.int (iv + (1 : Int32))), (.int fv), (.ref sb)])) (fun _ q => XS.iadd X.here X.hx rfl (hb hby d4_50) rfl q) ?_
        refine X.iastore A_sb (i := F) hfv (by simp only [ltI] at hB10; omega) ga_sb (hb hby d4_51) (fun T h11 X W => ?_)
        have K0 := K0.wr W (Or.inl (by simp))
        have E_a := E_a.wr W
        have F_a_starts := F_a_starts.other W (Or.inl (Ne.symm ne_sb_a))
        have F_a_bytes := F_a_bytes.other W (Or.inl (Ne.symm ne_sb_a))
        have S_FIELD_COUNT := S_FIELD_COUNT.wr W
        have A_sb := PArr.set A_sb W
        have A_b := PArr.other A_b W ne_b_sb
        have A_sb : PArr Z h11 sb .int 23 (fun j => .int ((fun j => if j = F then iv + 1 else c j) j)) := PArr.congr A_sb (fun j hj => by show (if j = F then Value.int (iv + 1) else .int (c j)) = .int (if j = F then iv + 1 else c j); by_cases e1 : j = F <;> simp [e1])
        show Goes _ _ _ _ _ _ _ _ T (mkF m 52 #[.val (.ref a), .val (.ref b), .val (.int sv), .val (.int ev), .val (.int fv), .val (.int iv)] [])
        refine Goes.by (g' := (mkF m 55 #[.val (.ref a), .val (.ref b), .val (.int sv), .val (.int ev), .val (.int (fv + (1 : Int32))), .val (.int iv)] [])) (fun _ q => XS.iinc X.here X.hx rfl (hb hby d4_52) rfl (l' := #[.val (.ref a), .val (.ref b), .val (.int sv), .val (.int ev), .val (.int (fv + (1 : Int32))), .val (.int iv)]) rfl q) ?_
        refine Goes.by (g' := (mkF m 58 #[.val (.ref a), .val (.ref b), .val (.int sv), .val (.int ev), .val (.int (fv + (1 : Int32))), .val (.int (iv + (1 : Int32)))] [])) (fun _ q => XS.iinc X.here X.hx rfl (hb hby d4_55) rfl (l' := #[.val (.ref a), .val (.ref b), .val (.int sv), .val (.int ev), .val (.int (fv + (1 : Int32))), .val (.int (iv + (1 : Int32)))]) rfl q) ?_
        refine Goes.by (g' := (mkF m 18 #[.val (.ref a), .val (.ref b), .val (.int sv), .val (.int ev), .val (.int (fv + (1 : Int32))), .val (.int (iv + (1 : Int32)))] [])) (fun _ q => XS.goto X.here X.hx rfl (pc0 := 58) (pc' := 18) rfl (hb hby d4_58) (by decide) (by decide) q) ?_
        have hh := hit_yes (g := g) (s := s) (e := e_) (i := i) hsi hlt hB9
        have hn1 : hitN g s e_ i = 1 := by simp [hitN, hh]
        have hcnt' : F + 1 + cntH g s e_ (32 - (i + 1)) (i + 1) = 1 + cntH g s e_ 32 0 := by
          rw [e32] at hcnt
          have q : F + (hitN g s e_ i + cntH g s e_ (32 - (i + 1)) (i + 1)) = 1 + cntH g s e_ 32 0 := hcnt
          omega
        have hnF : nthH g s e_ 32 0 F = i := by
          rw [hnth F (Nat.le_refl _), e32, show F - F + 1 = 1 by omega]
          exact nth_hit1 hh
        have hnth' : ∀ j, F + 1 ≤ j → nthH g s e_ 32 0 j = nthH g s e_ (32 - (i + 1)) (i + 1) (j - (F + 1) + 1) := fun j hj => by
          rw [hnth j (by omega), e32, nth_hit hh (by omega)]
          congr 1
          omega
        exact ih (F := F + 1) (i := i + 1) (c := (fun j => if j = F then iv + 1 else c j)) (fv := fv + 1) (iv := iv + 1) (T := T) (h6 := h11) (X := X) (Inv := ⟨by omega, by omega, by omega, by omega, by omega, hfv1, hiv1, hcnt', hnth', by show (if (0 : Nat) = F then iv + 1 else c 0) = sv; rw [if_neg (by omega)]; exact hc0, fun j h1 h2 h3 => by
          show ((if j = F then iv + 1 else c j) : Int32).toInt = _
          by_cases e1 : j = F
          · rw [if_pos e1, hiv1, e1, hnF]
            rfl
          · rw [if_neg e1]
            exact hcj j h1 (by omega) h3, A_sb, A_b, K0, E_a, F_a_starts, F_a_bytes, S_FIELD_COUNT⟩) (hd := by omega)
      · skip
        refine Goes.by (g' := (mkF m 52 #[.val (.ref a), .val (.ref b), .val (.int sv), .val (.int ev), .val (.int fv), .val (.int iv)] [])) (fun _ q => XS.icmpYes X.here X.hx rfl (pc0 := 38) (pc' := 52) rfl (hb hby d4_38) rfl (flt hB10).2.1 (by decide) (by decide) q) ?_
        refine Goes.by (g' := (mkF m 55 #[.val (.ref a), .val (.ref b), .val (.int sv), .val (.int ev), .val (.int (fv + (1 : Int32))), .val (.int iv)] [])) (fun _ q => XS.iinc X.here X.hx rfl (hb hby d4_52) rfl (l' := #[.val (.ref a), .val (.ref b), .val (.int sv), .val (.int ev), .val (.int (fv + (1 : Int32))), .val (.int iv)]) rfl q) ?_
        refine Goes.by (g' := (mkF m 58 #[.val (.ref a), .val (.ref b), .val (.int sv), .val (.int ev), .val (.int (fv + (1 : Int32))), .val (.int (iv + (1 : Int32)))] [])) (fun _ q => XS.iinc X.here X.hx rfl (hb hby d4_55) rfl (l' := #[.val (.ref a), .val (.ref b), .val (.int sv), .val (.int ev), .val (.int (fv + (1 : Int32))), .val (.int (iv + (1 : Int32)))]) rfl q) ?_
        refine Goes.by (g' := (mkF m 18 #[.val (.ref a), .val (.ref b), .val (.int sv), .val (.int ev), .val (.int (fv + (1 : Int32))), .val (.int (iv + (1 : Int32)))] [])) (fun _ q => XS.goto X.here X.hx rfl (pc0 := 58) (pc' := 18) rfl (hb hby d4_58) (by decide) (by decide) q) ?_
        have hh := hit_yes (g := g) (s := s) (e := e_) (i := i) hsi hlt hB9
        have hn1 : hitN g s e_ i = 1 := by simp [hitN, hh]
        have hcnt' : F + 1 + cntH g s e_ (32 - (i + 1)) (i + 1) = 1 + cntH g s e_ 32 0 := by
          rw [e32] at hcnt
          have q : F + (hitN g s e_ i + cntH g s e_ (32 - (i + 1)) (i + 1)) = 1 + cntH g s e_ 32 0 := hcnt
          omega
        have hnF : nthH g s e_ 32 0 F = i := by
          rw [hnth F (Nat.le_refl _), e32, show F - F + 1 = 1 by omega]
          exact nth_hit1 hh
        have hnth' : ∀ j, F + 1 ≤ j → nthH g s e_ 32 0 j = nthH g s e_ (32 - (i + 1)) (i + 1) (j - (F + 1) + 1) := fun j hj => by
          rw [hnth j (by omega), e32, nth_hit hh (by omega)]
          congr 1
          omega
        exact ih (F := F + 1) (i := i + 1) (c := c) (fv := fv + 1) (iv := iv + 1) (T := T) (h6 := h6) (X := X) (Inv := ⟨by omega, by omega, by omega, by omega, by omega, hfv1, hiv1, hcnt', hnth', hc0, fun j h1 h2 h3 => by
          have q : ¬ (F < 22) := by simp only [ltI] at hB10; omega
          exact hcj j h1 (by omega) h3, A_sb, A_b, K0, E_a, F_a_starts, F_a_bytes, S_FIELD_COUNT⟩) (hd := by omega)
    · skip
      refine Goes.by (g' := (mkF m 55 #[.val (.ref a), .val (.ref b), .val (.int sv), .val (.int ev), .val (.int fv), .val (.int iv)] [])) (fun _ q => XS.icmpYes X.here X.hx rfl (pc0 := 30) (pc' := 55) rfl (hb hby d4_30) rfl (feq hB9).2 (by decide) (by decide) q) ?_
      refine Goes.by (g' := (mkF m 58 #[.val (.ref a), .val (.ref b), .val (.int sv), .val (.int ev), .val (.int fv), .val (.int (iv + (1 : Int32)))] [])) (fun _ q => XS.iinc X.here X.hx rfl (hb hby d4_55) rfl (l' := #[.val (.ref a), .val (.ref b), .val (.int sv), .val (.int ev), .val (.int fv), .val (.int (iv + (1 : Int32)))]) rfl q) ?_
      refine Goes.by (g' := (mkF m 18 #[.val (.ref a), .val (.ref b), .val (.int sv), .val (.int ev), .val (.int fv), .val (.int (iv + (1 : Int32)))] [])) (fun _ q => XS.goto X.here X.hx rfl (pc0 := 58) (pc' := 18) rfl (hb hby d4_58) (by decide) (by decide) q) ?_
      have hh := hit_no (g := g) (s := s) (e := e_) (i := i) (fun q => hB9 q.2.2)
      have hn1 : hitN g s e_ i = 0 := by simp [hitN, hh]
      have hcnt' : F + cntH g s e_ (32 - (i + 1)) (i + 1) = 1 + cntH g s e_ 32 0 := by
        rw [e32] at hcnt
        have q : F + (hitN g s e_ i + cntH g s e_ (32 - (i + 1)) (i + 1)) = 1 + cntH g s e_ 32 0 := hcnt
        omega
      have hnth' : ∀ j, F ≤ j → nthH g s e_ 32 0 j = nthH g s e_ (32 - (i + 1)) (i + 1) (j - F + 1) := fun j hj => by
        rw [hnth j hj, e32, nth_skip hh]
      exact ih (F := F) (i := i + 1) (c := c) (fv := fv) (iv := iv + 1) (T := T) (h6 := h6) (X := X) (Inv := ⟨hF1, hF33, by omega, by omega, by omega, hfv, hiv1, hcnt', hnth', hc0, hcj, A_sb, A_b, K0, E_a, F_a_starts, F_a_bytes, S_FIELD_COUNT⟩) (hd := by omega)
set_option maxRecDepth 65536 in
set_option maxHeartbeats 40000000 in
theorem rmH (l : Launch) (Z : State) (a0 : Array Value) (hw : ∀ d ∈ tables_1, d.before a0 Z = true) (n0 : Nat) (h0 : Heap) (hn0 : n0 ≤ h0.size) (b : Addr) (sv ev iv : Int32) (s e_ i : Nat) (g : Nat → Int32) (hsv : sv.toInt = s) (hev : ev.toInt = e_) (he32 : e_ ≤ 32) (hiv : iv.toInt = i) (A_b : PArr Z h0 b .byte 32 (fun j => .int (g j))) :
    Met l Z n0 (⟨"com/example/exdate/exdate/RowFieldsSplitPinLaw", "hit", "([BIII)I"⟩ : MethodName) method_3_code 4 (Option.some .int) ({ frames := 0, cells := 0, slots := 0, locals := 0 } : Room) #[(.ref b), (.int sv), (.int ev), (.int iv)] h0 (fun (v : Option Value) (h' : Heap) => v = some (.int (hitI g s e_ i)) ∧ h' = h0) := by
  refine metW (Q := fun (v : Option Value) (h' : Heap) => v = some (.int (hitI g s e_ i)) ∧ h' = h0) pf_5 hn0 ?_
  intro p e sS m below meth cC T X hby hml hret hnm
  refine Goes.by (g' := (mkF m 0 #[.val (.ref b), .val (.int sv), .val (.int ev), .val (.int iv)] [])) (fun _ q => castTop (by first | (simp [entryFrame, mkF, argsToLocals, Value.category]; done) | rfl) q) ?_
  refine Goes.by (g' := (mkF m 1 #[.val (.ref b), .val (.int sv), .val (.int ev), .val (.int iv)] [(.int sv)])) (fun _ q => XS.iloadN X.here X.hx rfl (hb hby d5_0) rfl q) ?_
  refine Goes.by (g' := (mkF m 2 #[.val (.ref b), .val (.int sv), .val (.int ev), .val (.int iv)] [(.int iv), (.int sv)])) (fun _ q => XS.iloadN X.here X.hx rfl (hb hby d5_1) rfl q) ?_
  by_cases hB12 : iv < sv
  · skip
    refine Goes.by (g' := (mkF m 20 #[.val (.ref b), .val (.int sv), .val (.int ev), .val (.int iv)] [])) (fun _ q => XS.icmpYes X.here X.hx rfl (pc0 := 2) (pc' := 20) rfl (hb hby d5_2) rfl (tlt hB12).2.2.1 (by decide) (by decide) q) ?_
    refine Goes.by (g' := (mkF m 21 #[.val (.ref b), .val (.int sv), .val (.int ev), .val (.int iv)] [(.int (0 : Int32))])) (fun _ q => XS.iconst X.here X.hx rfl (hb hby d5_20) q) ?_
    exact X.retI hret (hb hby d5_21) (by decide) (by decide) ⟨by
        have q : hitB g s e_ i = false := hit_no (by simp only [ltI] at hB12; omega)
        simp [hitI, q], rfl⟩
  · skip
    refine Goes.by (g' := (mkF m 5 #[.val (.ref b), .val (.int sv), .val (.int ev), .val (.int iv)] [])) (fun _ q => XS.icmpNo X.here X.hx rfl (hb hby d5_2) rfl (flt hB12).2.2.1 q) ?_
    refine Goes.by (g' := (mkF m 6 #[.val (.ref b), .val (.int sv), .val (.int ev), .val (.int iv)] [(.int iv)])) (fun _ q => XS.iloadN X.here X.hx rfl (hb hby d5_5) rfl q) ?_
    refine Goes.by (g' := (mkF m 7 #[.val (.ref b), .val (.int sv), .val (.int ev), .val (.int iv)] [(.int ev), (.int iv)])) (fun _ q => XS.iloadN X.here X.hx rfl (hb hby d5_6) rfl q) ?_
    by_cases hB13 : iv < ev
    · skip
      refine Goes.by (g' := (mkF m 10 #[.val (.ref b), .val (.int sv), .val (.int ev), .val (.int iv)] [])) (fun _ q => XS.icmpNo X.here X.hx rfl (hb hby d5_7) rfl (tlt hB13).2.1 q) ?_
      refine Goes.by (g' := (mkF m 11 #[.val (.ref b), .val (.int sv), .val (.int ev), .val (.int iv)] [(.ref b)])) (fun _ q => XS.aloadN X.here X.hx rfl (hb hby d5_10) rfl rfl q) ?_
      refine Goes.by (g' := (mkF m 12 #[.val (.ref b), .val (.int sv), .val (.int ev), .val (.int iv)] [(.int iv), (.ref b)])) (fun _ q => XS.iloadN X.here X.hx rfl (hb hby d5_11) rfl q) ?_
      refine X.baloadB A_b (i := i) hiv (by simp only [ltI] at hB12 hB13; omega) (hb hby d5_12) ?_
      show Goes _ _ _ _ _ _ _ _ T (mkF m 13 #[.val (.ref b), .val (.int sv), .val (.int ev), .val (.int iv)] [(.int (g i))])
      refine Goes.by (g' := (mkF m 15 #[.val (.ref b), .val (.int sv), .val (.int ev), .val (.int iv)] [(.int (44 : Int32)), (.int (g i))])) (fun _ q => XS.bipush X.here X.hx rfl (hb hby d5_13) q) ?_
      by_cases hB14 : (g i) = (44 : Int32)
      · skip
        refine Goes.by (g' := (mkF m 18 #[.val (.ref b), .val (.int sv), .val (.int ev), .val (.int iv)] [])) (fun _ q => XS.icmpNo X.here X.hx rfl (hb hby d5_15) rfl (teq hB14).2 q) ?_
        refine Goes.by (g' := (mkF m 19 #[.val (.ref b), .val (.int sv), .val (.int ev), .val (.int iv)] [(.int (1 : Int32))])) (fun _ q => XS.iconst X.here X.hx rfl (hb hby d5_18) q) ?_
        exact X.retI hret (hb hby d5_19) (by decide) (by decide) ⟨by
            have q : hitB g s e_ i = true := hit_yes (by simp only [ltI] at hB12 hB13; omega) (by simp only [ltI] at hB12 hB13; omega) hB14
            simp [hitI, q], rfl⟩
      · skip
        refine Goes.by (g' := (mkF m 20 #[.val (.ref b), .val (.int sv), .val (.int ev), .val (.int iv)] [])) (fun _ q => XS.icmpYes X.here X.hx rfl (pc0 := 15) (pc' := 20) rfl (hb hby d5_15) rfl (feq hB14).2 (by decide) (by decide) q) ?_
        refine Goes.by (g' := (mkF m 21 #[.val (.ref b), .val (.int sv), .val (.int ev), .val (.int iv)] [(.int (0 : Int32))])) (fun _ q => XS.iconst X.here X.hx rfl (hb hby d5_20) q) ?_
        exact X.retI hret (hb hby d5_21) (by decide) (by decide) ⟨by
            have q : hitB g s e_ i = false := hit_no (fun r => hB14 r.2.2)
            simp [hitI, q], rfl⟩
    · skip
      refine Goes.by (g' := (mkF m 20 #[.val (.ref b), .val (.int sv), .val (.int ev), .val (.int iv)] [])) (fun _ q => XS.icmpYes X.here X.hx rfl (pc0 := 7) (pc' := 20) rfl (hb hby d5_7) rfl (flt hB13).2.1 (by decide) (by decide) q) ?_
      refine Goes.by (g' := (mkF m 21 #[.val (.ref b), .val (.int sv), .val (.int ev), .val (.int iv)] [(.int (0 : Int32))])) (fun _ q => XS.iconst X.here X.hx rfl (hb hby d5_20) q) ?_
      exact X.retI hret (hb hby d5_21) (by decide) (by decide) ⟨by
          have q : hitB g s e_ i = false := hit_no (by simp only [ltI] at hB12 hB13; omega)
          simp [hitI, q], rfl⟩
set_option maxRecDepth 65536 in
set_option maxHeartbeats 40000000 in
theorem rmK (l : Launch) (Z : State) (a0 : Array Value) (hw : ∀ d ∈ tables_1, d.before a0 Z = true) (n0 : Nat) (h0 : Heap) (hn0 : n0 ≤ h0.size) (b : Addr) (sv ev kv : Int32) (s e_ k : Nat) (g : Nat → Int32) (hsv : sv.toInt = s) (hev : ev.toInt = e_) (he32 : e_ ≤ 32) (hs8 : s ≤ 8) (hkv : kv.toInt = k) (hk1 : 1 ≤ k) (hk2 : k ≤ 30) (hg : ∀ j, 8 ≤ j → g j = 44) (A_b : PArr Z h0 b .byte 32 (fun j => .int (g j))) :
    Met l Z n0 (⟨"com/example/exdate/exdate/RowFieldsSplitPinLaw", "kth", "([BIII)I"⟩ : MethodName) method_4_code 6 (Option.some .int) ({ frames := 1, cells := 0, slots := 0, locals := 16 } : Room) #[(.ref b), (.int sv), (.int ev), (.int kv)] h0 (fun (v : Option Value) (h' : Heap) => ∃ r, v = some (.int r) ∧ r.toInt = ((nthH g s e_ 32 0 k : Nat) : Int) ∧ h' = h0) := by
  refine metW (Q := fun (v : Option Value) (h' : Heap) => ∃ r, v = some (.int r) ∧ r.toInt = ((nthH g s e_ 32 0 k : Nat) : Int) ∧ h' = h0) pf_12 hn0 ?_
  intro p e sS m below meth cC T X hby hml hret hnm
  refine Goes.by (g' := (mkF m 0 #[.val (.ref b), .val (.int sv), .val (.int ev), .val (.int kv), .unset, .unset] [])) (fun _ q => castTop (by first | (simp [entryFrame, mkF, argsToLocals, Value.category]; done) | rfl) q) ?_
  have K_0 : 0 < k ∧ nthH g s e_ 32 0 (k - 0) = nthH g s e_ 32 0 k := ⟨by omega, rfl⟩
  have o0 := c0; have o7 := c7
  refine Goes.by (g' := (mkF m 1 #[.val (.ref b), .val (.int sv), .val (.int ev), .val (.int kv), .unset, .unset] [(.int (0 : Int32))])) (fun _ q => XS.iconst X.here X.hx rfl (hb hby d12_0) q) ?_
  refine Goes.by (g' := (mkF m 3 #[.val (.ref b), .val (.int sv), .val (.int ev), .val (.int kv), .val (.int (0 : Int32)), .unset] [])) (fun _ q => XS.istore X.here X.hx rfl (hb hby d12_1) rfl (l' := #[.val (.ref b), .val (.int sv), .val (.int ev), .val (.int kv), .val (.int (0 : Int32)), .unset]) rfl q) ?_
  refine Goes.by (g' := (mkF m 5 #[.val (.ref b), .val (.int sv), .val (.int ev), .val (.int kv), .val (.int (0 : Int32)), .unset] [(.int (0 : Int32))])) (fun _ q => XS.iload X.here X.hx rfl (hb hby d12_3) rfl q) ?_
  refine Goes.by (g' := (mkF m 6 #[.val (.ref b), .val (.int sv), .val (.int ev), .val (.int kv), .val (.int (0 : Int32)), .unset] [(.ref b), (.int (0 : Int32))])) (fun _ q => XS.aloadN X.here X.hx rfl (hb hby d12_5) rfl rfl q) ?_
  refine Goes.by (g' := (mkF m 7 #[.val (.ref b), .val (.int sv), .val (.int ev), .val (.int kv), .val (.int (0 : Int32)), .unset] [(.int sv), (.ref b), (.int (0 : Int32))])) (fun _ q => XS.iloadN X.here X.hx rfl (hb hby d12_6) rfl q) ?_
  refine Goes.by (g' := (mkF m 8 #[.val (.ref b), .val (.int sv), .val (.int ev), .val (.int kv), .val (.int (0 : Int32)), .unset] [(.int ev), (.int sv), (.ref b), (.int (0 : Int32))])) (fun _ q => XS.iloadN X.here X.hx rfl (hb hby d12_7) rfl q) ?_
  refine Goes.by (g' := (mkF m 9 #[.val (.ref b), .val (.int sv), .val (.int ev), .val (.int kv), .val (.int (0 : Int32)), .unset] [(.int (0 : Int32)), (.int ev), (.int sv), (.ref b), (.int (0 : Int32))])) (fun _ q => XS.iconst X.here X.hx rfl (hb hby d12_8) q) ?_
  have X_o := X
  refine X.callS (hw _ (List.mem_of_getElem? (i := 27) rfl)) (hw _ (List.mem_of_getElem? (i := 28) rfl)) (hw _ (List.mem_of_getElem? (i := 3) rfl)) (hw _ (List.mem_of_getElem? (i := 29) rfl)) (by decide) pd_1647763415 (argsL := [(.ref b), (.int sv), (.int ev), (.int (0 : Int32))]) rfl (rmH l Z a0 hw n0 h0 X.n0le b sv ev (0 : Int32) s e_ 0 g hsv hev (by omega) (by decide) A_b) (by rw [hml]; rfl) rfl (by decide) (leB rfl) (hb hby d12_9) (by decide) (by decide) (fun T h15 v X hQ => ?_)
  obtain ⟨rfl, hh⟩ := hQ
  rw [hh] at X
  clear hh
  show Goes _ _ _ _ _ _ _ _ T (mkF m 12 #[.val (.ref b), .val (.int sv), .val (.int ev), .val (.int kv), .val (.int (0 : Int32)), .unset] [(.int (hitI g s e_ 0)), (.int (0 : Int32))])
  refine Goes.by (g' := (mkF m 13 #[.val (.ref b), .val (.int sv), .val (.int ev), .val (.int kv), .val (.int (0 : Int32)), .unset] [(.int ((0 : Int32) + (hitI g s e_ 0)))])) (fun _ q => XS.iadd X.here X.hx rfl (hb hby d12_12) rfl q) ?_
  generalize h_cc0 : ((0 : Int32) + (hitI g s e_ 0)) = cc0
  have hr0 := hitI_toInt g s e_ 0
  have h_cc0' : cc0.toInt = (((0 + hitN g s e_ 0) : Nat) : Int) := by
    rw [← h_cc0, addI (by rw [o0]; omega) (by rw [o0]; omega), o0, hr0.1]
    omega
  have stp0 := nth_step (g := g) (s := s) (e := e_) (n := 31) (i := 0) (k := k) (K := 0) K_0.1 K_0.2
  refine Goes.by (g' := (mkF m 15 #[.val (.ref b), .val (.int sv), .val (.int ev), .val (.int kv), .val (.int cc0), .unset] [])) (fun _ q => XS.istore X.here X.hx rfl (hb hby d12_13) rfl (l' := #[.val (.ref b), .val (.int sv), .val (.int ev), .val (.int kv), .val (.int cc0), .unset]) rfl q) ?_
  refine Goes.by (g' := (mkF m 17 #[.val (.ref b), .val (.int sv), .val (.int ev), .val (.int kv), .val (.int cc0), .unset] [(.int cc0)])) (fun _ q => XS.iload X.here X.hx rfl (hb hby d12_15) rfl q) ?_
  refine Goes.by (g' := (mkF m 18 #[.val (.ref b), .val (.int sv), .val (.int ev), .val (.int kv), .val (.int cc0), .unset] [(.int kv), (.int cc0)])) (fun _ q => XS.iloadN X.here X.hx rfl (hb hby d12_17) rfl q) ?_
  by_cases hB16 : cc0 = kv
  · skip
    refine Goes.by (g' := (mkF m 21 #[.val (.ref b), .val (.int sv), .val (.int ev), .val (.int kv), .val (.int cc0), .unset] [])) (fun _ q => XS.icmpNo X.here X.hx rfl (hb hby d12_18) rfl (teq hB16).2 q) ?_
    refine Goes.by (g' := (mkF m 22 #[.val (.ref b), .val (.int sv), .val (.int ev), .val (.int kv), .val (.int cc0), .unset] [(.int (0 : Int32))])) (fun _ q => XS.iconst X.here X.hx rfl (hb hby d12_21) q) ?_
    exact X.retI hret (hb hby d12_22) (by decide) (by decide) ⟨_, rfl, by
        have q := stp0.1 (by have := congrArg Int32.toInt hB16; rw [h_cc0', hkv] at this; omega)
        rw [q]
        decide, rfl⟩
  · skip
    refine Goes.by (g' := (mkF m 23 #[.val (.ref b), .val (.int sv), .val (.int ev), .val (.int kv), .val (.int cc0), .unset] [])) (fun _ q => XS.icmpYes X.here X.hx rfl (pc0 := 18) (pc' := 23) rfl (hb hby d12_18) rfl (feq hB16).2 (by decide) (by decide) q) ?_
    have K_1 := stp0.2 (by intro q; apply hB16; rw [eqI, h_cc0', hkv]; omega)
    refine Goes.by (g' := (mkF m 25 #[.val (.ref b), .val (.int sv), .val (.int ev), .val (.int kv), .val (.int cc0), .unset] [(.int cc0)])) (fun _ q => XS.iload X.here X.hx rfl (hb hby d12_23) rfl q) ?_
    refine Goes.by (g' := (mkF m 26 #[.val (.ref b), .val (.int sv), .val (.int ev), .val (.int kv), .val (.int cc0), .unset] [(.ref b), (.int cc0)])) (fun _ q => XS.aloadN X.here X.hx rfl (hb hby d12_25) rfl rfl q) ?_
    refine Goes.by (g' := (mkF m 27 #[.val (.ref b), .val (.int sv), .val (.int ev), .val (.int kv), .val (.int cc0), .unset] [(.int sv), (.ref b), (.int cc0)])) (fun _ q => XS.iloadN X.here X.hx rfl (hb hby d12_26) rfl q) ?_
    refine Goes.by (g' := (mkF m 28 #[.val (.ref b), .val (.int sv), .val (.int ev), .val (.int kv), .val (.int cc0), .unset] [(.int ev), (.int sv), (.ref b), (.int cc0)])) (fun _ q => XS.iloadN X.here X.hx rfl (hb hby d12_27) rfl q) ?_
    refine Goes.by (g' := (mkF m 29 #[.val (.ref b), .val (.int sv), .val (.int ev), .val (.int kv), .val (.int cc0), .unset] [(.int (1 : Int32)), (.int ev), (.int sv), (.ref b), (.int cc0)])) (fun _ q => XS.iconst X.here X.hx rfl (hb hby d12_28) q) ?_
    have X_o := X
    refine X.callS (hw _ (List.mem_of_getElem? (i := 27) rfl)) (hw _ (List.mem_of_getElem? (i := 28) rfl)) (hw _ (List.mem_of_getElem? (i := 3) rfl)) (hw _ (List.mem_of_getElem? (i := 29) rfl)) (by decide) pd_1647763415 (argsL := [(.ref b), (.int sv), (.int ev), (.int (1 : Int32))]) rfl (rmH l Z a0 hw n0 h0 X.n0le b sv ev (1 : Int32) s e_ 1 g hsv hev (by omega) (by decide) A_b) (by rw [hml]; rfl) rfl (by decide) (leB rfl) (hb hby d12_29) (by decide) (by decide) (fun T h17 v X hQ => ?_)
    obtain ⟨rfl, hh⟩ := hQ
    rw [hh] at X
    clear hh
    show Goes _ _ _ _ _ _ _ _ T (mkF m 32 #[.val (.ref b), .val (.int sv), .val (.int ev), .val (.int kv), .val (.int cc0), .unset] [(.int (hitI g s e_ 1)), (.int cc0)])
    refine Goes.by (g' := (mkF m 33 #[.val (.ref b), .val (.int sv), .val (.int ev), .val (.int kv), .val (.int cc0), .unset] [(.int (cc0 + (hitI g s e_ 1)))])) (fun _ q => XS.iadd X.here X.hx rfl (hb hby d12_32) rfl q) ?_
    generalize h_cc1 : (cc0 + (hitI g s e_ 1)) = cc1
    have hr1 := hitI_toInt g s e_ 1
    have h_cc1' : cc1.toInt = ((((0 + hitN g s e_ 0) + hitN g s e_ 1) : Nat) : Int) := by
      rw [← h_cc1, addI (by rw [h_cc0']; omega) (by rw [h_cc0']; omega), h_cc0', hr1.1]
      omega
    have stp1 := nth_step (g := g) (s := s) (e := e_) (n := 30) (i := 1) (k := k) (K := (0 + hitN g s e_ 0)) K_1.1 K_1.2
    refine Goes.by (g' := (mkF m 35 #[.val (.ref b), .val (.int sv), .val (.int ev), .val (.int kv), .val (.int cc1), .unset] [])) (fun _ q => XS.istore X.here X.hx rfl (hb hby d12_33) rfl (l' := #[.val (.ref b), .val (.int sv), .val (.int ev), .val (.int kv), .val (.int cc1), .unset]) rfl q) ?_
    refine Goes.by (g' := (mkF m 37 #[.val (.ref b), .val (.int sv), .val (.int ev), .val (.int kv), .val (.int cc1), .unset] [(.int cc1)])) (fun _ q => XS.iload X.here X.hx rfl (hb hby d12_35) rfl q) ?_
    refine Goes.by (g' := (mkF m 38 #[.val (.ref b), .val (.int sv), .val (.int ev), .val (.int kv), .val (.int cc1), .unset] [(.int kv), (.int cc1)])) (fun _ q => XS.iloadN X.here X.hx rfl (hb hby d12_37) rfl q) ?_
    by_cases hB18 : cc1 = kv
    · skip
      refine Goes.by (g' := (mkF m 41 #[.val (.ref b), .val (.int sv), .val (.int ev), .val (.int kv), .val (.int cc1), .unset] [])) (fun _ q => XS.icmpNo X.here X.hx rfl (hb hby d12_38) rfl (teq hB18).2 q) ?_
      refine Goes.by (g' := (mkF m 42 #[.val (.ref b), .val (.int sv), .val (.int ev), .val (.int kv), .val (.int cc1), .unset] [(.int (1 : Int32))])) (fun _ q => XS.iconst X.here X.hx rfl (hb hby d12_41) q) ?_
      exact X.retI hret (hb hby d12_42) (by decide) (by decide) ⟨_, rfl, by
          have q := stp1.1 (by have := congrArg Int32.toInt hB18; rw [h_cc1', hkv] at this; omega)
          rw [q]
          decide, rfl⟩
    · skip
      refine Goes.by (g' := (mkF m 43 #[.val (.ref b), .val (.int sv), .val (.int ev), .val (.int kv), .val (.int cc1), .unset] [])) (fun _ q => XS.icmpYes X.here X.hx rfl (pc0 := 38) (pc' := 43) rfl (hb hby d12_38) rfl (feq hB18).2 (by decide) (by decide) q) ?_
      have K_2 := stp1.2 (by intro q; apply hB18; rw [eqI, h_cc1', hkv]; omega)
      refine Goes.by (g' := (mkF m 45 #[.val (.ref b), .val (.int sv), .val (.int ev), .val (.int kv), .val (.int cc1), .unset] [(.int cc1)])) (fun _ q => XS.iload X.here X.hx rfl (hb hby d12_43) rfl q) ?_
      refine Goes.by (g' := (mkF m 46 #[.val (.ref b), .val (.int sv), .val (.int ev), .val (.int kv), .val (.int cc1), .unset] [(.ref b), (.int cc1)])) (fun _ q => XS.aloadN X.here X.hx rfl (hb hby d12_45) rfl rfl q) ?_
      refine Goes.by (g' := (mkF m 47 #[.val (.ref b), .val (.int sv), .val (.int ev), .val (.int kv), .val (.int cc1), .unset] [(.int sv), (.ref b), (.int cc1)])) (fun _ q => XS.iloadN X.here X.hx rfl (hb hby d12_46) rfl q) ?_
      refine Goes.by (g' := (mkF m 48 #[.val (.ref b), .val (.int sv), .val (.int ev), .val (.int kv), .val (.int cc1), .unset] [(.int ev), (.int sv), (.ref b), (.int cc1)])) (fun _ q => XS.iloadN X.here X.hx rfl (hb hby d12_47) rfl q) ?_
      refine Goes.by (g' := (mkF m 49 #[.val (.ref b), .val (.int sv), .val (.int ev), .val (.int kv), .val (.int cc1), .unset] [(.int (2 : Int32)), (.int ev), (.int sv), (.ref b), (.int cc1)])) (fun _ q => XS.iconst X.here X.hx rfl (hb hby d12_48) q) ?_
      have X_o := X
      refine X.callS (hw _ (List.mem_of_getElem? (i := 27) rfl)) (hw _ (List.mem_of_getElem? (i := 28) rfl)) (hw _ (List.mem_of_getElem? (i := 3) rfl)) (hw _ (List.mem_of_getElem? (i := 29) rfl)) (by decide) pd_1647763415 (argsL := [(.ref b), (.int sv), (.int ev), (.int (2 : Int32))]) rfl (rmH l Z a0 hw n0 h0 X.n0le b sv ev (2 : Int32) s e_ 2 g hsv hev (by omega) (by decide) A_b) (by rw [hml]; rfl) rfl (by decide) (leB rfl) (hb hby d12_49) (by decide) (by decide) (fun T h19 v X hQ => ?_)
      obtain ⟨rfl, hh⟩ := hQ
      rw [hh] at X
      clear hh
      show Goes _ _ _ _ _ _ _ _ T (mkF m 52 #[.val (.ref b), .val (.int sv), .val (.int ev), .val (.int kv), .val (.int cc1), .unset] [(.int (hitI g s e_ 2)), (.int cc1)])
      refine Goes.by (g' := (mkF m 53 #[.val (.ref b), .val (.int sv), .val (.int ev), .val (.int kv), .val (.int cc1), .unset] [(.int (cc1 + (hitI g s e_ 2)))])) (fun _ q => XS.iadd X.here X.hx rfl (hb hby d12_52) rfl q) ?_
      generalize h_cc2 : (cc1 + (hitI g s e_ 2)) = cc2
      have hr2 := hitI_toInt g s e_ 2
      have h_cc2' : cc2.toInt = (((((0 + hitN g s e_ 0) + hitN g s e_ 1) + hitN g s e_ 2) : Nat) : Int) := by
        rw [← h_cc2, addI (by rw [h_cc1']; omega) (by rw [h_cc1']; omega), h_cc1', hr2.1]
        omega
      have stp2 := nth_step (g := g) (s := s) (e := e_) (n := 29) (i := 2) (k := k) (K := ((0 + hitN g s e_ 0) + hitN g s e_ 1)) K_2.1 K_2.2
      refine Goes.by (g' := (mkF m 55 #[.val (.ref b), .val (.int sv), .val (.int ev), .val (.int kv), .val (.int cc2), .unset] [])) (fun _ q => XS.istore X.here X.hx rfl (hb hby d12_53) rfl (l' := #[.val (.ref b), .val (.int sv), .val (.int ev), .val (.int kv), .val (.int cc2), .unset]) rfl q) ?_
      refine Goes.by (g' := (mkF m 57 #[.val (.ref b), .val (.int sv), .val (.int ev), .val (.int kv), .val (.int cc2), .unset] [(.int cc2)])) (fun _ q => XS.iload X.here X.hx rfl (hb hby d12_55) rfl q) ?_
      refine Goes.by (g' := (mkF m 58 #[.val (.ref b), .val (.int sv), .val (.int ev), .val (.int kv), .val (.int cc2), .unset] [(.int kv), (.int cc2)])) (fun _ q => XS.iloadN X.here X.hx rfl (hb hby d12_57) rfl q) ?_
      by_cases hB20 : cc2 = kv
      · skip
        refine Goes.by (g' := (mkF m 61 #[.val (.ref b), .val (.int sv), .val (.int ev), .val (.int kv), .val (.int cc2), .unset] [])) (fun _ q => XS.icmpNo X.here X.hx rfl (hb hby d12_58) rfl (teq hB20).2 q) ?_
        refine Goes.by (g' := (mkF m 62 #[.val (.ref b), .val (.int sv), .val (.int ev), .val (.int kv), .val (.int cc2), .unset] [(.int (2 : Int32))])) (fun _ q => XS.iconst X.here X.hx rfl (hb hby d12_61) q) ?_
        exact X.retI hret (hb hby d12_62) (by decide) (by decide) ⟨_, rfl, by
            have q := stp2.1 (by have := congrArg Int32.toInt hB20; rw [h_cc2', hkv] at this; omega)
            rw [q]
            decide, rfl⟩
      · skip
        refine Goes.by (g' := (mkF m 63 #[.val (.ref b), .val (.int sv), .val (.int ev), .val (.int kv), .val (.int cc2), .unset] [])) (fun _ q => XS.icmpYes X.here X.hx rfl (pc0 := 58) (pc' := 63) rfl (hb hby d12_58) rfl (feq hB20).2 (by decide) (by decide) q) ?_
        have K_3 := stp2.2 (by intro q; apply hB20; rw [eqI, h_cc2', hkv]; omega)
        refine Goes.by (g' := (mkF m 65 #[.val (.ref b), .val (.int sv), .val (.int ev), .val (.int kv), .val (.int cc2), .unset] [(.int cc2)])) (fun _ q => XS.iload X.here X.hx rfl (hb hby d12_63) rfl q) ?_
        refine Goes.by (g' := (mkF m 66 #[.val (.ref b), .val (.int sv), .val (.int ev), .val (.int kv), .val (.int cc2), .unset] [(.ref b), (.int cc2)])) (fun _ q => XS.aloadN X.here X.hx rfl (hb hby d12_65) rfl rfl q) ?_
        refine Goes.by (g' := (mkF m 67 #[.val (.ref b), .val (.int sv), .val (.int ev), .val (.int kv), .val (.int cc2), .unset] [(.int sv), (.ref b), (.int cc2)])) (fun _ q => XS.iloadN X.here X.hx rfl (hb hby d12_66) rfl q) ?_
        refine Goes.by (g' := (mkF m 68 #[.val (.ref b), .val (.int sv), .val (.int ev), .val (.int kv), .val (.int cc2), .unset] [(.int ev), (.int sv), (.ref b), (.int cc2)])) (fun _ q => XS.iloadN X.here X.hx rfl (hb hby d12_67) rfl q) ?_
        refine Goes.by (g' := (mkF m 69 #[.val (.ref b), .val (.int sv), .val (.int ev), .val (.int kv), .val (.int cc2), .unset] [(.int (3 : Int32)), (.int ev), (.int sv), (.ref b), (.int cc2)])) (fun _ q => XS.iconst X.here X.hx rfl (hb hby d12_68) q) ?_
        have X_o := X
        refine X.callS (hw _ (List.mem_of_getElem? (i := 27) rfl)) (hw _ (List.mem_of_getElem? (i := 28) rfl)) (hw _ (List.mem_of_getElem? (i := 3) rfl)) (hw _ (List.mem_of_getElem? (i := 29) rfl)) (by decide) pd_1647763415 (argsL := [(.ref b), (.int sv), (.int ev), (.int (3 : Int32))]) rfl (rmH l Z a0 hw n0 h0 X.n0le b sv ev (3 : Int32) s e_ 3 g hsv hev (by omega) (by decide) A_b) (by rw [hml]; rfl) rfl (by decide) (leB rfl) (hb hby d12_69) (by decide) (by decide) (fun T h21 v X hQ => ?_)
        obtain ⟨rfl, hh⟩ := hQ
        rw [hh] at X
        clear hh
        show Goes _ _ _ _ _ _ _ _ T (mkF m 72 #[.val (.ref b), .val (.int sv), .val (.int ev), .val (.int kv), .val (.int cc2), .unset] [(.int (hitI g s e_ 3)), (.int cc2)])
        refine Goes.by (g' := (mkF m 73 #[.val (.ref b), .val (.int sv), .val (.int ev), .val (.int kv), .val (.int cc2), .unset] [(.int (cc2 + (hitI g s e_ 3)))])) (fun _ q => XS.iadd X.here X.hx rfl (hb hby d12_72) rfl q) ?_
        generalize h_cc3 : (cc2 + (hitI g s e_ 3)) = cc3
        have hr3 := hitI_toInt g s e_ 3
        have h_cc3' : cc3.toInt = ((((((0 + hitN g s e_ 0) + hitN g s e_ 1) + hitN g s e_ 2) + hitN g s e_ 3) : Nat) : Int) := by
          rw [← h_cc3, addI (by rw [h_cc2']; omega) (by rw [h_cc2']; omega), h_cc2', hr3.1]
          omega
        have stp3 := nth_step (g := g) (s := s) (e := e_) (n := 28) (i := 3) (k := k) (K := (((0 + hitN g s e_ 0) + hitN g s e_ 1) + hitN g s e_ 2)) K_3.1 K_3.2
        refine Goes.by (g' := (mkF m 75 #[.val (.ref b), .val (.int sv), .val (.int ev), .val (.int kv), .val (.int cc3), .unset] [])) (fun _ q => XS.istore X.here X.hx rfl (hb hby d12_73) rfl (l' := #[.val (.ref b), .val (.int sv), .val (.int ev), .val (.int kv), .val (.int cc3), .unset]) rfl q) ?_
        refine Goes.by (g' := (mkF m 77 #[.val (.ref b), .val (.int sv), .val (.int ev), .val (.int kv), .val (.int cc3), .unset] [(.int cc3)])) (fun _ q => XS.iload X.here X.hx rfl (hb hby d12_75) rfl q) ?_
        refine Goes.by (g' := (mkF m 78 #[.val (.ref b), .val (.int sv), .val (.int ev), .val (.int kv), .val (.int cc3), .unset] [(.int kv), (.int cc3)])) (fun _ q => XS.iloadN X.here X.hx rfl (hb hby d12_77) rfl q) ?_
        by_cases hB22 : cc3 = kv
        · skip
          refine Goes.by (g' := (mkF m 81 #[.val (.ref b), .val (.int sv), .val (.int ev), .val (.int kv), .val (.int cc3), .unset] [])) (fun _ q => XS.icmpNo X.here X.hx rfl (hb hby d12_78) rfl (teq hB22).2 q) ?_
          refine Goes.by (g' := (mkF m 82 #[.val (.ref b), .val (.int sv), .val (.int ev), .val (.int kv), .val (.int cc3), .unset] [(.int (3 : Int32))])) (fun _ q => XS.iconst X.here X.hx rfl (hb hby d12_81) q) ?_
          exact X.retI hret (hb hby d12_82) (by decide) (by decide) ⟨_, rfl, by
              have q := stp3.1 (by have := congrArg Int32.toInt hB22; rw [h_cc3', hkv] at this; omega)
              rw [q]
              decide, rfl⟩
        · skip
          refine Goes.by (g' := (mkF m 83 #[.val (.ref b), .val (.int sv), .val (.int ev), .val (.int kv), .val (.int cc3), .unset] [])) (fun _ q => XS.icmpYes X.here X.hx rfl (pc0 := 78) (pc' := 83) rfl (hb hby d12_78) rfl (feq hB22).2 (by decide) (by decide) q) ?_
          have K_4 := stp3.2 (by intro q; apply hB22; rw [eqI, h_cc3', hkv]; omega)
          refine Goes.by (g' := (mkF m 85 #[.val (.ref b), .val (.int sv), .val (.int ev), .val (.int kv), .val (.int cc3), .unset] [(.int cc3)])) (fun _ q => XS.iload X.here X.hx rfl (hb hby d12_83) rfl q) ?_
          refine Goes.by (g' := (mkF m 86 #[.val (.ref b), .val (.int sv), .val (.int ev), .val (.int kv), .val (.int cc3), .unset] [(.ref b), (.int cc3)])) (fun _ q => XS.aloadN X.here X.hx rfl (hb hby d12_85) rfl rfl q) ?_
          refine Goes.by (g' := (mkF m 87 #[.val (.ref b), .val (.int sv), .val (.int ev), .val (.int kv), .val (.int cc3), .unset] [(.int sv), (.ref b), (.int cc3)])) (fun _ q => XS.iloadN X.here X.hx rfl (hb hby d12_86) rfl q) ?_
          refine Goes.by (g' := (mkF m 88 #[.val (.ref b), .val (.int sv), .val (.int ev), .val (.int kv), .val (.int cc3), .unset] [(.int ev), (.int sv), (.ref b), (.int cc3)])) (fun _ q => XS.iloadN X.here X.hx rfl (hb hby d12_87) rfl q) ?_
          refine Goes.by (g' := (mkF m 89 #[.val (.ref b), .val (.int sv), .val (.int ev), .val (.int kv), .val (.int cc3), .unset] [(.int (4 : Int32)), (.int ev), (.int sv), (.ref b), (.int cc3)])) (fun _ q => XS.iconst X.here X.hx rfl (hb hby d12_88) q) ?_
          have X_o := X
          refine X.callS (hw _ (List.mem_of_getElem? (i := 27) rfl)) (hw _ (List.mem_of_getElem? (i := 28) rfl)) (hw _ (List.mem_of_getElem? (i := 3) rfl)) (hw _ (List.mem_of_getElem? (i := 29) rfl)) (by decide) pd_1647763415 (argsL := [(.ref b), (.int sv), (.int ev), (.int (4 : Int32))]) rfl (rmH l Z a0 hw n0 h0 X.n0le b sv ev (4 : Int32) s e_ 4 g hsv hev (by omega) (by decide) A_b) (by rw [hml]; rfl) rfl (by decide) (leB rfl) (hb hby d12_89) (by decide) (by decide) (fun T h23 v X hQ => ?_)
          obtain ⟨rfl, hh⟩ := hQ
          rw [hh] at X
          clear hh
          show Goes _ _ _ _ _ _ _ _ T (mkF m 92 #[.val (.ref b), .val (.int sv), .val (.int ev), .val (.int kv), .val (.int cc3), .unset] [(.int (hitI g s e_ 4)), (.int cc3)])
          refine Goes.by (g' := (mkF m 93 #[.val (.ref b), .val (.int sv), .val (.int ev), .val (.int kv), .val (.int cc3), .unset] [(.int (cc3 + (hitI g s e_ 4)))])) (fun _ q => XS.iadd X.here X.hx rfl (hb hby d12_92) rfl q) ?_
          generalize h_cc4 : (cc3 + (hitI g s e_ 4)) = cc4
          have hr4 := hitI_toInt g s e_ 4
          have h_cc4' : cc4.toInt = (((((((0 + hitN g s e_ 0) + hitN g s e_ 1) + hitN g s e_ 2) + hitN g s e_ 3) + hitN g s e_ 4) : Nat) : Int) := by
            rw [← h_cc4, addI (by rw [h_cc3']; omega) (by rw [h_cc3']; omega), h_cc3', hr4.1]
            omega
          have stp4 := nth_step (g := g) (s := s) (e := e_) (n := 27) (i := 4) (k := k) (K := ((((0 + hitN g s e_ 0) + hitN g s e_ 1) + hitN g s e_ 2) + hitN g s e_ 3)) K_4.1 K_4.2
          refine Goes.by (g' := (mkF m 95 #[.val (.ref b), .val (.int sv), .val (.int ev), .val (.int kv), .val (.int cc4), .unset] [])) (fun _ q => XS.istore X.here X.hx rfl (hb hby d12_93) rfl (l' := #[.val (.ref b), .val (.int sv), .val (.int ev), .val (.int kv), .val (.int cc4), .unset]) rfl q) ?_
          refine Goes.by (g' := (mkF m 97 #[.val (.ref b), .val (.int sv), .val (.int ev), .val (.int kv), .val (.int cc4), .unset] [(.int cc4)])) (fun _ q => XS.iload X.here X.hx rfl (hb hby d12_95) rfl q) ?_
          refine Goes.by (g' := (mkF m 98 #[.val (.ref b), .val (.int sv), .val (.int ev), .val (.int kv), .val (.int cc4), .unset] [(.int kv), (.int cc4)])) (fun _ q => XS.iloadN X.here X.hx rfl (hb hby d12_97) rfl q) ?_
          by_cases hB24 : cc4 = kv
          · skip
            refine Goes.by (g' := (mkF m 101 #[.val (.ref b), .val (.int sv), .val (.int ev), .val (.int kv), .val (.int cc4), .unset] [])) (fun _ q => XS.icmpNo X.here X.hx rfl (hb hby d12_98) rfl (teq hB24).2 q) ?_
            refine Goes.by (g' := (mkF m 102 #[.val (.ref b), .val (.int sv), .val (.int ev), .val (.int kv), .val (.int cc4), .unset] [(.int (4 : Int32))])) (fun _ q => XS.iconst X.here X.hx rfl (hb hby d12_101) q) ?_
            exact X.retI hret (hb hby d12_102) (by decide) (by decide) ⟨_, rfl, by
                have q := stp4.1 (by have := congrArg Int32.toInt hB24; rw [h_cc4', hkv] at this; omega)
                rw [q]
                decide, rfl⟩
          · skip
            refine Goes.by (g' := (mkF m 103 #[.val (.ref b), .val (.int sv), .val (.int ev), .val (.int kv), .val (.int cc4), .unset] [])) (fun _ q => XS.icmpYes X.here X.hx rfl (pc0 := 98) (pc' := 103) rfl (hb hby d12_98) rfl (feq hB24).2 (by decide) (by decide) q) ?_
            have K_5 := stp4.2 (by intro q; apply hB24; rw [eqI, h_cc4', hkv]; omega)
            refine Goes.by (g' := (mkF m 105 #[.val (.ref b), .val (.int sv), .val (.int ev), .val (.int kv), .val (.int cc4), .unset] [(.int cc4)])) (fun _ q => XS.iload X.here X.hx rfl (hb hby d12_103) rfl q) ?_
            refine Goes.by (g' := (mkF m 106 #[.val (.ref b), .val (.int sv), .val (.int ev), .val (.int kv), .val (.int cc4), .unset] [(.ref b), (.int cc4)])) (fun _ q => XS.aloadN X.here X.hx rfl (hb hby d12_105) rfl rfl q) ?_
            refine Goes.by (g' := (mkF m 107 #[.val (.ref b), .val (.int sv), .val (.int ev), .val (.int kv), .val (.int cc4), .unset] [(.int sv), (.ref b), (.int cc4)])) (fun _ q => XS.iloadN X.here X.hx rfl (hb hby d12_106) rfl q) ?_
            refine Goes.by (g' := (mkF m 108 #[.val (.ref b), .val (.int sv), .val (.int ev), .val (.int kv), .val (.int cc4), .unset] [(.int ev), (.int sv), (.ref b), (.int cc4)])) (fun _ q => XS.iloadN X.here X.hx rfl (hb hby d12_107) rfl q) ?_
            refine Goes.by (g' := (mkF m 109 #[.val (.ref b), .val (.int sv), .val (.int ev), .val (.int kv), .val (.int cc4), .unset] [(.int (5 : Int32)), (.int ev), (.int sv), (.ref b), (.int cc4)])) (fun _ q => XS.iconst X.here X.hx rfl (hb hby d12_108) q) ?_
            have X_o := X
            refine X.callS (hw _ (List.mem_of_getElem? (i := 27) rfl)) (hw _ (List.mem_of_getElem? (i := 28) rfl)) (hw _ (List.mem_of_getElem? (i := 3) rfl)) (hw _ (List.mem_of_getElem? (i := 29) rfl)) (by decide) pd_1647763415 (argsL := [(.ref b), (.int sv), (.int ev), (.int (5 : Int32))]) rfl (rmH l Z a0 hw n0 h0 X.n0le b sv ev (5 : Int32) s e_ 5 g hsv hev (by omega) (by decide) A_b) (by rw [hml]; rfl) rfl (by decide) (leB rfl) (hb hby d12_109) (by decide) (by decide) (fun T h25 v X hQ => ?_)
            obtain ⟨rfl, hh⟩ := hQ
            rw [hh] at X
            clear hh
            show Goes _ _ _ _ _ _ _ _ T (mkF m 112 #[.val (.ref b), .val (.int sv), .val (.int ev), .val (.int kv), .val (.int cc4), .unset] [(.int (hitI g s e_ 5)), (.int cc4)])
            refine Goes.by (g' := (mkF m 113 #[.val (.ref b), .val (.int sv), .val (.int ev), .val (.int kv), .val (.int cc4), .unset] [(.int (cc4 + (hitI g s e_ 5)))])) (fun _ q => XS.iadd X.here X.hx rfl (hb hby d12_112) rfl q) ?_
            generalize h_cc5 : (cc4 + (hitI g s e_ 5)) = cc5
            have hr5 := hitI_toInt g s e_ 5
            have h_cc5' : cc5.toInt = ((((((((0 + hitN g s e_ 0) + hitN g s e_ 1) + hitN g s e_ 2) + hitN g s e_ 3) + hitN g s e_ 4) + hitN g s e_ 5) : Nat) : Int) := by
              rw [← h_cc5, addI (by rw [h_cc4']; omega) (by rw [h_cc4']; omega), h_cc4', hr5.1]
              omega
            have stp5 := nth_step (g := g) (s := s) (e := e_) (n := 26) (i := 5) (k := k) (K := (((((0 + hitN g s e_ 0) + hitN g s e_ 1) + hitN g s e_ 2) + hitN g s e_ 3) + hitN g s e_ 4)) K_5.1 K_5.2
            refine Goes.by (g' := (mkF m 115 #[.val (.ref b), .val (.int sv), .val (.int ev), .val (.int kv), .val (.int cc5), .unset] [])) (fun _ q => XS.istore X.here X.hx rfl (hb hby d12_113) rfl (l' := #[.val (.ref b), .val (.int sv), .val (.int ev), .val (.int kv), .val (.int cc5), .unset]) rfl q) ?_
            refine Goes.by (g' := (mkF m 117 #[.val (.ref b), .val (.int sv), .val (.int ev), .val (.int kv), .val (.int cc5), .unset] [(.int cc5)])) (fun _ q => XS.iload X.here X.hx rfl (hb hby d12_115) rfl q) ?_
            refine Goes.by (g' := (mkF m 118 #[.val (.ref b), .val (.int sv), .val (.int ev), .val (.int kv), .val (.int cc5), .unset] [(.int kv), (.int cc5)])) (fun _ q => XS.iloadN X.here X.hx rfl (hb hby d12_117) rfl q) ?_
            by_cases hB26 : cc5 = kv
            · skip
              refine Goes.by (g' := (mkF m 121 #[.val (.ref b), .val (.int sv), .val (.int ev), .val (.int kv), .val (.int cc5), .unset] [])) (fun _ q => XS.icmpNo X.here X.hx rfl (hb hby d12_118) rfl (teq hB26).2 q) ?_
              refine Goes.by (g' := (mkF m 122 #[.val (.ref b), .val (.int sv), .val (.int ev), .val (.int kv), .val (.int cc5), .unset] [(.int (5 : Int32))])) (fun _ q => XS.iconst X.here X.hx rfl (hb hby d12_121) q) ?_
              exact X.retI hret (hb hby d12_122) (by decide) (by decide) ⟨_, rfl, by
                  have q := stp5.1 (by have := congrArg Int32.toInt hB26; rw [h_cc5', hkv] at this; omega)
                  rw [q]
                  decide, rfl⟩
            · skip
              refine Goes.by (g' := (mkF m 123 #[.val (.ref b), .val (.int sv), .val (.int ev), .val (.int kv), .val (.int cc5), .unset] [])) (fun _ q => XS.icmpYes X.here X.hx rfl (pc0 := 118) (pc' := 123) rfl (hb hby d12_118) rfl (feq hB26).2 (by decide) (by decide) q) ?_
              have K_6 := stp5.2 (by intro q; apply hB26; rw [eqI, h_cc5', hkv]; omega)
              refine Goes.by (g' := (mkF m 125 #[.val (.ref b), .val (.int sv), .val (.int ev), .val (.int kv), .val (.int cc5), .unset] [(.int cc5)])) (fun _ q => XS.iload X.here X.hx rfl (hb hby d12_123) rfl q) ?_
              refine Goes.by (g' := (mkF m 126 #[.val (.ref b), .val (.int sv), .val (.int ev), .val (.int kv), .val (.int cc5), .unset] [(.ref b), (.int cc5)])) (fun _ q => XS.aloadN X.here X.hx rfl (hb hby d12_125) rfl rfl q) ?_
              refine Goes.by (g' := (mkF m 127 #[.val (.ref b), .val (.int sv), .val (.int ev), .val (.int kv), .val (.int cc5), .unset] [(.int sv), (.ref b), (.int cc5)])) (fun _ q => XS.iloadN X.here X.hx rfl (hb hby d12_126) rfl q) ?_
              refine Goes.by (g' := (mkF m 128 #[.val (.ref b), .val (.int sv), .val (.int ev), .val (.int kv), .val (.int cc5), .unset] [(.int ev), (.int sv), (.ref b), (.int cc5)])) (fun _ q => XS.iloadN X.here X.hx rfl (hb hby d12_127) rfl q) ?_
              refine Goes.by (g' := (mkF m 130 #[.val (.ref b), .val (.int sv), .val (.int ev), .val (.int kv), .val (.int cc5), .unset] [(.int (6 : Int32)), (.int ev), (.int sv), (.ref b), (.int cc5)])) (fun _ q => XS.bipush X.here X.hx rfl (hb hby d12_128) q) ?_
              have X_o := X
              refine X.callS (hw _ (List.mem_of_getElem? (i := 27) rfl)) (hw _ (List.mem_of_getElem? (i := 28) rfl)) (hw _ (List.mem_of_getElem? (i := 3) rfl)) (hw _ (List.mem_of_getElem? (i := 29) rfl)) (by decide) pd_1647763415 (argsL := [(.ref b), (.int sv), (.int ev), (.int (6 : Int32))]) rfl (rmH l Z a0 hw n0 h0 X.n0le b sv ev (6 : Int32) s e_ 6 g hsv hev (by omega) (by decide) A_b) (by rw [hml]; rfl) rfl (by decide) (leB rfl) (hb hby d12_130) (by decide) (by decide) (fun T h27 v X hQ => ?_)
              obtain ⟨rfl, hh⟩ := hQ
              rw [hh] at X
              clear hh
              show Goes _ _ _ _ _ _ _ _ T (mkF m 133 #[.val (.ref b), .val (.int sv), .val (.int ev), .val (.int kv), .val (.int cc5), .unset] [(.int (hitI g s e_ 6)), (.int cc5)])
              refine Goes.by (g' := (mkF m 134 #[.val (.ref b), .val (.int sv), .val (.int ev), .val (.int kv), .val (.int cc5), .unset] [(.int (cc5 + (hitI g s e_ 6)))])) (fun _ q => XS.iadd X.here X.hx rfl (hb hby d12_133) rfl q) ?_
              generalize h_cc6 : (cc5 + (hitI g s e_ 6)) = cc6
              have hr6 := hitI_toInt g s e_ 6
              have h_cc6' : cc6.toInt = (((((((((0 + hitN g s e_ 0) + hitN g s e_ 1) + hitN g s e_ 2) + hitN g s e_ 3) + hitN g s e_ 4) + hitN g s e_ 5) + hitN g s e_ 6) : Nat) : Int) := by
                rw [← h_cc6, addI (by rw [h_cc5']; omega) (by rw [h_cc5']; omega), h_cc5', hr6.1]
                omega
              have stp6 := nth_step (g := g) (s := s) (e := e_) (n := 25) (i := 6) (k := k) (K := ((((((0 + hitN g s e_ 0) + hitN g s e_ 1) + hitN g s e_ 2) + hitN g s e_ 3) + hitN g s e_ 4) + hitN g s e_ 5)) K_6.1 K_6.2
              refine Goes.by (g' := (mkF m 136 #[.val (.ref b), .val (.int sv), .val (.int ev), .val (.int kv), .val (.int cc6), .unset] [])) (fun _ q => XS.istore X.here X.hx rfl (hb hby d12_134) rfl (l' := #[.val (.ref b), .val (.int sv), .val (.int ev), .val (.int kv), .val (.int cc6), .unset]) rfl q) ?_
              refine Goes.by (g' := (mkF m 138 #[.val (.ref b), .val (.int sv), .val (.int ev), .val (.int kv), .val (.int cc6), .unset] [(.int cc6)])) (fun _ q => XS.iload X.here X.hx rfl (hb hby d12_136) rfl q) ?_
              refine Goes.by (g' := (mkF m 139 #[.val (.ref b), .val (.int sv), .val (.int ev), .val (.int kv), .val (.int cc6), .unset] [(.int kv), (.int cc6)])) (fun _ q => XS.iloadN X.here X.hx rfl (hb hby d12_138) rfl q) ?_
              by_cases hB28 : cc6 = kv
              · skip
                refine Goes.by (g' := (mkF m 142 #[.val (.ref b), .val (.int sv), .val (.int ev), .val (.int kv), .val (.int cc6), .unset] [])) (fun _ q => XS.icmpNo X.here X.hx rfl (hb hby d12_139) rfl (teq hB28).2 q) ?_
                refine Goes.by (g' := (mkF m 144 #[.val (.ref b), .val (.int sv), .val (.int ev), .val (.int kv), .val (.int cc6), .unset] [(.int (6 : Int32))])) (fun _ q => XS.bipush X.here X.hx rfl (hb hby d12_142) q) ?_
                exact X.retI hret (hb hby d12_144) (by decide) (by decide) ⟨_, rfl, by
                    have q := stp6.1 (by have := congrArg Int32.toInt hB28; rw [h_cc6', hkv] at this; omega)
                    rw [q]
                    decide, rfl⟩
              · skip
                refine Goes.by (g' := (mkF m 145 #[.val (.ref b), .val (.int sv), .val (.int ev), .val (.int kv), .val (.int cc6), .unset] [])) (fun _ q => XS.icmpYes X.here X.hx rfl (pc0 := 139) (pc' := 145) rfl (hb hby d12_139) rfl (feq hB28).2 (by decide) (by decide) q) ?_
                have K_7 := stp6.2 (by intro q; apply hB28; rw [eqI, h_cc6', hkv]; omega)
                refine Goes.by (g' := (mkF m 147 #[.val (.ref b), .val (.int sv), .val (.int ev), .val (.int kv), .val (.int cc6), .unset] [(.int cc6)])) (fun _ q => XS.iload X.here X.hx rfl (hb hby d12_145) rfl q) ?_
                refine Goes.by (g' := (mkF m 148 #[.val (.ref b), .val (.int sv), .val (.int ev), .val (.int kv), .val (.int cc6), .unset] [(.ref b), (.int cc6)])) (fun _ q => XS.aloadN X.here X.hx rfl (hb hby d12_147) rfl rfl q) ?_
                refine Goes.by (g' := (mkF m 149 #[.val (.ref b), .val (.int sv), .val (.int ev), .val (.int kv), .val (.int cc6), .unset] [(.int sv), (.ref b), (.int cc6)])) (fun _ q => XS.iloadN X.here X.hx rfl (hb hby d12_148) rfl q) ?_
                refine Goes.by (g' := (mkF m 150 #[.val (.ref b), .val (.int sv), .val (.int ev), .val (.int kv), .val (.int cc6), .unset] [(.int ev), (.int sv), (.ref b), (.int cc6)])) (fun _ q => XS.iloadN X.here X.hx rfl (hb hby d12_149) rfl q) ?_
                refine Goes.by (g' := (mkF m 152 #[.val (.ref b), .val (.int sv), .val (.int ev), .val (.int kv), .val (.int cc6), .unset] [(.int (7 : Int32)), (.int ev), (.int sv), (.ref b), (.int cc6)])) (fun _ q => XS.bipush X.here X.hx rfl (hb hby d12_150) q) ?_
                have X_o := X
                refine X.callS (hw _ (List.mem_of_getElem? (i := 27) rfl)) (hw _ (List.mem_of_getElem? (i := 28) rfl)) (hw _ (List.mem_of_getElem? (i := 3) rfl)) (hw _ (List.mem_of_getElem? (i := 29) rfl)) (by decide) pd_1647763415 (argsL := [(.ref b), (.int sv), (.int ev), (.int (7 : Int32))]) rfl (rmH l Z a0 hw n0 h0 X.n0le b sv ev (7 : Int32) s e_ 7 g hsv hev (by omega) (by decide) A_b) (by rw [hml]; rfl) rfl (by decide) (leB rfl) (hb hby d12_152) (by decide) (by decide) (fun T h29 v X hQ => ?_)
                obtain ⟨rfl, hh⟩ := hQ
                rw [hh] at X
                clear hh
                show Goes _ _ _ _ _ _ _ _ T (mkF m 155 #[.val (.ref b), .val (.int sv), .val (.int ev), .val (.int kv), .val (.int cc6), .unset] [(.int (hitI g s e_ 7)), (.int cc6)])
                refine Goes.by (g' := (mkF m 156 #[.val (.ref b), .val (.int sv), .val (.int ev), .val (.int kv), .val (.int cc6), .unset] [(.int (cc6 + (hitI g s e_ 7)))])) (fun _ q => XS.iadd X.here X.hx rfl (hb hby d12_155) rfl q) ?_
                generalize h_cc7 : (cc6 + (hitI g s e_ 7)) = cc7
                have hr7 := hitI_toInt g s e_ 7
                have h_cc7' : cc7.toInt = ((((((((((0 + hitN g s e_ 0) + hitN g s e_ 1) + hitN g s e_ 2) + hitN g s e_ 3) + hitN g s e_ 4) + hitN g s e_ 5) + hitN g s e_ 6) + hitN g s e_ 7) : Nat) : Int) := by
                  rw [← h_cc7, addI (by rw [h_cc6']; omega) (by rw [h_cc6']; omega), h_cc6', hr7.1]
                  omega
                have stp7 := nth_step (g := g) (s := s) (e := e_) (n := 24) (i := 7) (k := k) (K := (((((((0 + hitN g s e_ 0) + hitN g s e_ 1) + hitN g s e_ 2) + hitN g s e_ 3) + hitN g s e_ 4) + hitN g s e_ 5) + hitN g s e_ 6)) K_7.1 K_7.2
                refine Goes.by (g' := (mkF m 158 #[.val (.ref b), .val (.int sv), .val (.int ev), .val (.int kv), .val (.int cc7), .unset] [])) (fun _ q => XS.istore X.here X.hx rfl (hb hby d12_156) rfl (l' := #[.val (.ref b), .val (.int sv), .val (.int ev), .val (.int kv), .val (.int cc7), .unset]) rfl q) ?_
                refine Goes.by (g' := (mkF m 160 #[.val (.ref b), .val (.int sv), .val (.int ev), .val (.int kv), .val (.int cc7), .unset] [(.int cc7)])) (fun _ q => XS.iload X.here X.hx rfl (hb hby d12_158) rfl q) ?_
                refine Goes.by (g' := (mkF m 161 #[.val (.ref b), .val (.int sv), .val (.int ev), .val (.int kv), .val (.int cc7), .unset] [(.int kv), (.int cc7)])) (fun _ q => XS.iloadN X.here X.hx rfl (hb hby d12_160) rfl q) ?_
                by_cases hB30 : cc7 = kv
                · skip
                  refine Goes.by (g' := (mkF m 164 #[.val (.ref b), .val (.int sv), .val (.int ev), .val (.int kv), .val (.int cc7), .unset] [])) (fun _ q => XS.icmpNo X.here X.hx rfl (hb hby d12_161) rfl (teq hB30).2 q) ?_
                  refine Goes.by (g' := (mkF m 166 #[.val (.ref b), .val (.int sv), .val (.int ev), .val (.int kv), .val (.int cc7), .unset] [(.int (7 : Int32))])) (fun _ q => XS.bipush X.here X.hx rfl (hb hby d12_164) q) ?_
                  exact X.retI hret (hb hby d12_166) (by decide) (by decide) ⟨_, rfl, by
                      have q := stp7.1 (by have := congrArg Int32.toInt hB30; rw [h_cc7', hkv] at this; omega)
                      rw [q]
                      decide, rfl⟩
                · skip
                  refine Goes.by (g' := (mkF m 167 #[.val (.ref b), .val (.int sv), .val (.int ev), .val (.int kv), .val (.int cc7), .unset] [])) (fun _ q => XS.icmpYes X.here X.hx rfl (pc0 := 161) (pc' := 167) rfl (hb hby d12_161) rfl (feq hB30).2 (by decide) (by decide) q) ?_
                  have K_8 := stp7.2 (by intro q; apply hB30; rw [eqI, h_cc7', hkv]; omega)
                  refine Goes.by (g' := (mkF m 169 #[.val (.ref b), .val (.int sv), .val (.int ev), .val (.int kv), .val (.int cc7), .unset] [(.int (7 : Int32))])) (fun _ q => XS.bipush X.here X.hx rfl (hb hby d12_167) q) ?_
                  refine Goes.by (g' := (mkF m 170 #[.val (.ref b), .val (.int sv), .val (.int ev), .val (.int kv), .val (.int cc7), .unset] [(.int kv), (.int (7 : Int32))])) (fun _ q => XS.iloadN X.here X.hx rfl (hb hby d12_169) rfl q) ?_
                  refine Goes.by (g' := (mkF m 171 #[.val (.ref b), .val (.int sv), .val (.int ev), .val (.int kv), .val (.int cc7), .unset] [(.int ((7 : Int32) + kv))])) (fun _ q => XS.iadd X.here X.hx rfl (hb hby d12_170) rfl q) ?_
                  refine Goes.by (g' := (mkF m 173 #[.val (.ref b), .val (.int sv), .val (.int ev), .val (.int kv), .val (.int cc7), .unset] [(.int cc7), (.int ((7 : Int32) + kv))])) (fun _ q => XS.iload X.here X.hx rfl (hb hby d12_171) rfl q) ?_
                  refine Goes.by (g' := (mkF m 174 #[.val (.ref b), .val (.int sv), .val (.int ev), .val (.int kv), .val (.int cc7), .unset] [(.int (((7 : Int32) + kv) - cc7))])) (fun _ q => XS.isub X.here X.hx rfl (hb hby d12_173) rfl q) ?_
                  generalize h_tv : (((7 : Int32) + kv) - cc7) = tv
                  have htv : tv.toInt = (8 : Int) + ((k - ((((((((0 + hitN g s e_ 0) + hitN g s e_ 1) + hitN g s e_ 2) + hitN g s e_ 3) + hitN g s e_ 4) + hitN g s e_ 5) + hitN g s e_ 6) + hitN g s e_ 7) : Nat) : Int) - 1 := by
                    have q1 : (7 + kv).toInt = 7 + (k : Int) := by rw [addI (by omega) (by omega), o7, hkv]
                    have q2 := K_8.1
                    have q3 := h_cc7'
                    rw [← h_tv, subI (by omega) (by omega), q1, q3]
                    omega
                  have run := nth_run (g := g) (s := s) (e := e_) hs8 hg (n := 24) (i := 8) (k := k - ((((((((0 + hitN g s e_ 0) + hitN g s e_ 1) + hitN g s e_ 2) + hitN g s e_ 3) + hitN g s e_ 4) + hitN g s e_ 5) + hitN g s e_ 6) + hitN g s e_ 7)) (Nat.le_refl _) (by omega) (by have := K_8.1; omega)
                  rw [K_8.2] at run
                  refine Goes.by (g' := (mkF m 176 #[.val (.ref b), .val (.int sv), .val (.int ev), .val (.int kv), .val (.int cc7), .val (.int tv)] [])) (fun _ q => XS.istore X.here X.hx rfl (hb hby d12_174) rfl (l' := #[.val (.ref b), .val (.int sv), .val (.int ev), .val (.int kv), .val (.int cc7), .val (.int tv)]) rfl q) ?_
                  refine Goes.by (g' := (mkF m 178 #[.val (.ref b), .val (.int sv), .val (.int ev), .val (.int kv), .val (.int cc7), .val (.int tv)] [(.int tv)])) (fun _ q => XS.iload X.here X.hx rfl (hb hby d12_176) rfl q) ?_
                  refine Goes.by (g' := (mkF m 179 #[.val (.ref b), .val (.int sv), .val (.int ev), .val (.int kv), .val (.int cc7), .val (.int tv)] [(.int ev), (.int tv)])) (fun _ q => XS.iloadN X.here X.hx rfl (hb hby d12_178) rfl q) ?_
                  by_cases hB31 : tv < ev
                  · skip
                    refine Goes.by (g' := (mkF m 182 #[.val (.ref b), .val (.int sv), .val (.int ev), .val (.int kv), .val (.int cc7), .val (.int tv)] [])) (fun _ q => XS.icmpNo X.here X.hx rfl (hb hby d12_179) rfl (tlt hB31).2.1 q) ?_
                    refine Goes.by (g' := (mkF m 184 #[.val (.ref b), .val (.int sv), .val (.int ev), .val (.int kv), .val (.int cc7), .val (.int tv)] [(.int tv)])) (fun _ q => XS.iload X.here X.hx rfl (hb hby d12_182) rfl q) ?_
                    exact X.retI hret (hb hby d12_184) (by decide) (by decide) ⟨_, rfl, by
                        rw [ltI, htv, hev] at hB31
                        rw [run, if_pos (by omega), htv]
                        omega, rfl⟩
                  · skip
                    refine Goes.by (g' := (mkF m 185 #[.val (.ref b), .val (.int sv), .val (.int ev), .val (.int kv), .val (.int cc7), .val (.int tv)] [])) (fun _ q => XS.icmpYes X.here X.hx rfl (pc0 := 179) (pc' := 185) rfl (hb hby d12_179) rfl (flt hB31).2.1 (by decide) (by decide) q) ?_
                    refine Goes.by (g' := (mkF m 186 #[.val (.ref b), .val (.int sv), .val (.int ev), .val (.int kv), .val (.int cc7), .val (.int tv)] [(.int ev)])) (fun _ q => XS.iloadN X.here X.hx rfl (hb hby d12_185) rfl q) ?_
                    exact X.retI hret (hb hby d12_186) (by decide) (by decide) ⟨_, rfl, by
                        rw [ltI, htv, hev] at hB31
                        rw [run, if_neg (by omega), hev], rfl⟩
set_option maxRecDepth 65536 in
set_option maxHeartbeats 40000000 in
theorem rmMx (l : Launch) (Z : State) (a0 : Array Value) (hw : ∀ d ∈ tables_1, d.before a0 Z = true) (n0 : Nat) (h0 : Heap) (hn0 : n0 ≤ h0.size) (x y : Int32) :
    Met l Z n0 (⟨"java/lang/Math", "max", "(II)I"⟩ : MethodName) jdk_29_method_65_code 2 (Option.some .int) ({ frames := 0, cells := 0, slots := 0, locals := 0 } : Room) #[(.int x), (.int y)] h0 (fun (v : Option Value) (h' : Heap) => v = some (.int (if x < y then y else x)) ∧ h' = h0) := by
  refine metW (Q := fun (v : Option Value) (h' : Heap) => v = some (.int (if x < y then y else x)) ∧ h' = h0) pf_6 hn0 ?_
  intro p e sS m below meth cC T X hby hml hret hnm
  refine Goes.by (g' := (mkF m 0 #[.val (.int x), .val (.int y)] [])) (fun _ q => castTop (by first | (simp [entryFrame, mkF, argsToLocals, Value.category]; done) | rfl) q) ?_
  refine Goes.by (g' := (mkF m 1 #[.val (.int x), .val (.int y)] [(.int x)])) (fun _ q => XS.iloadN X.here X.hx rfl (hb hby d6_0) rfl q) ?_
  refine Goes.by (g' := (mkF m 2 #[.val (.int x), .val (.int y)] [(.int y), (.int x)])) (fun _ q => XS.iloadN X.here X.hx rfl (hb hby d6_1) rfl q) ?_
  by_cases hB32 : x < y
  · skip
    refine Goes.by (g' := (mkF m 9 #[.val (.int x), .val (.int y)] [])) (fun _ q => XS.icmpYes X.here X.hx rfl (pc0 := 2) (pc' := 9) rfl (hb hby d6_2) rfl (tlt hB32).1 (by decide) (by decide) q) ?_
    refine Goes.by (g' := (mkF m 10 #[.val (.int x), .val (.int y)] [(.int y)])) (fun _ q => XS.iloadN X.here X.hx rfl (hb hby d6_9) rfl q) ?_
    exact X.retI hret (hb hby d6_10) (by decide) (by decide) ⟨by simp [hB32], rfl⟩
  · skip
    refine Goes.by (g' := (mkF m 5 #[.val (.int x), .val (.int y)] [])) (fun _ q => XS.icmpNo X.here X.hx rfl (hb hby d6_2) rfl (flt hB32).1 q) ?_
    refine Goes.by (g' := (mkF m 6 #[.val (.int x), .val (.int y)] [(.int x)])) (fun _ q => XS.iloadN X.here X.hx rfl (hb hby d6_5) rfl q) ?_
    refine Goes.by (g' := (mkF m 10 #[.val (.int x), .val (.int y)] [(.int x)])) (fun _ q => XS.goto X.here X.hx rfl (pc0 := 6) (pc' := 10) rfl (hb hby d6_6) (by decide) (by decide) q) ?_
    exact X.retI hret (hb hby d6_10) (by decide) (by decide) ⟨by simp [hB32], rfl⟩
set_option maxRecDepth 65536 in
set_option maxHeartbeats 40000000 in
theorem rmBy (l : Launch) (Z : State) (a0 : Array Value) (hw : ∀ d ∈ tables_1, d.before a0 Z = true) (n0 : Nat) (h0 : Heap) (hn0 : n0 ≤ h0.size) (a b : Addr) (F_b : Fld Z h0 a "com/example/exdate/exdate/RowFields" "bytes" "[B" (.ref b)) :
    Met l Z n0 (⟨"com/example/exdate/exdate/RowFields", "bytes", "()[B"⟩ : MethodName) prog_38_method_3_code 1 (Option.some (.array .byte)) ({ frames := 0, cells := 0, slots := 0, locals := 0 } : Room) #[(.ref a)] h0 (fun (v : Option Value) (h' : Heap) => v = some (.ref b) ∧ h' = h0) := by
  refine metW (Q := fun (v : Option Value) (h' : Heap) => v = some (.ref b) ∧ h' = h0) pf_7 hn0 ?_
  intro p e sS m below meth cC T X hby hml hret hnm
  refine Goes.by (g' := (mkF m 0 #[.val (.ref a)] [])) (fun _ q => castTop (by first | (simp [entryFrame, mkF, argsToLocals, Value.category]; done) | rfl) q) ?_
  refine Goes.by (g' := (mkF m 1 #[.val (.ref a)] [(.ref a)])) (fun _ q => XS.aloadN X.here X.hx rfl (hb hby d7_0) rfl rfl q) ?_
  refine X.getF (host := "") (Or.inl (hw _ (List.mem_of_getElem? (i := 25) rfl))) Via.refl F_b (hb hby d7_1) (fun T X => ?_)
  show Goes _ _ _ _ _ _ _ _ T (mkF m 4 #[.val (.ref a)] [(.ref b)])
  exact X.retA hret rfl rfl (hb hby d7_4) (by decide) (by decide) ⟨rfl, rfl⟩
set_option maxRecDepth 65536 in
set_option maxHeartbeats 40000000 in
theorem rmOr (l : Launch) (Z : State) (a0 : Array Value) (hw : ∀ d ∈ tables_1, d.before a0 Z = true) (n0 : Nat) (h0 : Heap) (hn0 : n0 ≤ h0.size) (f : Addr) (ov : Int32) (F_o : Fld Z h0 f "java/lang/Enum" "ordinal" "I" (.int ov)) :
    Met l Z n0 (⟨"java/lang/Enum", "ordinal", "()I"⟩ : MethodName) jdk_37_method_2_code 1 (Option.some .int) ({ frames := 0, cells := 0, slots := 0, locals := 0 } : Room) #[(.ref f)] h0 (fun (v : Option Value) (h' : Heap) => v = some (.int ov) ∧ h' = h0) := by
  refine metW (Q := fun (v : Option Value) (h' : Heap) => v = some (.int ov) ∧ h' = h0) pf_10 hn0 ?_
  intro p e sS m below meth cC T X hby hml hret hnm
  refine Goes.by (g' := (mkF m 0 #[.val (.ref f)] [])) (fun _ q => castTop (by first | (simp [entryFrame, mkF, argsToLocals, Value.category]; done) | rfl) q) ?_
  refine Goes.by (g' := (mkF m 1 #[.val (.ref f)] [(.ref f)])) (fun _ q => XS.aloadN X.here X.hx rfl (hb hby d10_0) rfl rfl q) ?_
  refine X.getF (host := "") (Or.inl (hw _ (List.mem_of_getElem? (i := 59) rfl))) Via.refl F_o (hb hby d10_1) (fun T X => ?_)
  show Goes _ _ _ _ _ _ _ _ T (mkF m 4 #[.val (.ref f)] [(.int ov)])
  exact X.retI hret (hb hby d10_4) (by decide) (by decide) ⟨rfl, rfl⟩
set_option maxRecDepth 65536 in
set_option maxHeartbeats 40000000 in
theorem rmIx (l : Launch) (Z : State) (a0 : Array Value) (hw : ∀ d ∈ tables_1, d.before a0 Z = true) (n0 : Nat) (h0 : Heap) (hn0 : n0 ≤ h0.size) (f : Addr) (ov : Int32) (F_o : Fld Z h0 f "java/lang/Enum" "ordinal" "I" (.int ov)) (E_f : Exa Z h0 f "com/example/exdate/exdate/PositionField") :
    Met l Z n0 (⟨"com/example/exdate/exdate/PositionField", "index", "()I"⟩ : MethodName) prog_27_method_6_code 1 (Option.some .int) ({ frames := 1, cells := 0, slots := 0, locals := 12 } : Room) #[(.ref f)] h0 (fun (v : Option Value) (h' : Heap) => v = some (.int ov) ∧ h' = h0) := by
  refine metW (Q := fun (v : Option Value) (h' : Heap) => v = some (.int ov) ∧ h' = h0) pf_9 hn0 ?_
  intro p e sS m below meth cC T X hby hml hret hnm
  refine Goes.by (g' := (mkF m 0 #[.val (.ref f)] [])) (fun _ q => castTop (by first | (simp [entryFrame, mkF, argsToLocals, Value.category]; done) | rfl) q) ?_
  refine Goes.by (g' := (mkF m 1 #[.val (.ref f)] [(.ref f)])) (fun _ q => XS.aloadN X.here X.hx rfl (hb hby d9_0) rfl rfl q) ?_
  have X_o := X
  refine X.callU E_f (hw _ (List.mem_of_getElem? (i := 52) rfl)) (hw _ (List.mem_of_getElem? (i := 53) rfl)) (hw _ (List.mem_of_getElem? (i := 54) rfl)) (by decide) (hw _ (List.mem_of_getElem? (i := 56) rfl)) (hw _ (List.mem_of_getElem? (i := 55) rfl)) (hw _ (List.mem_of_getElem? (i := 57) rfl)) (hw _ (List.mem_of_getElem? (i := 58) rfl)) pd_193421983 (argsL := []) rfl (rmOr l Z a0 hw n0 h0 X.n0le f ov F_o) (by rw [hml]; rfl) rfl (by decide) (leB rfl) (hb hby d9_1) (by decide) (by decide) (fun T h33 v X hQ => ?_)
  obtain ⟨rfl, hh⟩ := hQ
  rw [hh] at X
  clear hh
  show Goes _ _ _ _ _ _ _ _ T (mkF m 4 #[.val (.ref f)] [(.int ov)])
  exact X.retI hret (hb hby d9_4) (by decide) (by decide) ⟨rfl, rfl⟩
set_option maxRecDepth 65536 in
set_option maxHeartbeats 40000000 in
theorem rmSt (l : Launch) (Z : State) (a0 : Array Value) (hw : ∀ d ∈ tables_1, d.before a0 Z = true) (n0 : Nat) (h0 : Heap) (hn0 : n0 ≤ h0.size) (a sb f : Addr) (ov : Int32) (O : Nat) (hov : ov.toInt = O) (hO : O ≤ 21) (c : Nat → Int32) (F_o : Fld Z h0 f "java/lang/Enum" "ordinal" "I" (.int ov)) (E_f : Exa Z h0 f "com/example/exdate/exdate/PositionField") (F_s : Fld Z h0 a "com/example/exdate/exdate/RowFields" "starts" "[I" (.ref sb)) (A_sb : PArr Z h0 sb .int 23 (fun j => .int (c j))) :
    Met l Z n0 (⟨"com/example/exdate/exdate/RowFields", "start", "(Lcom/example/exdate/exdate/PositionField;)I"⟩ : MethodName) prog_38_method_4_code 2 (Option.some .int) ({ frames := 2, cells := 0, slots := 0, locals := 25 } : Room) #[(.ref a), (.ref f)] h0 (fun (v : Option Value) (h' : Heap) => v = some (.int (c O)) ∧ h' = h0) := by
  refine metW (Q := fun (v : Option Value) (h' : Heap) => v = some (.int (c O)) ∧ h' = h0) pf_8 hn0 ?_
  intro p e sS m below meth cC T X hby hml hret hnm
  refine Goes.by (g' := (mkF m 0 #[.val (.ref a), .val (.ref f)] [])) (fun _ q => castTop (by first | (simp [entryFrame, mkF, argsToLocals, Value.category]; done) | rfl) q) ?_
  refine Goes.by (g' := (mkF m 1 #[.val (.ref a), .val (.ref f)] [(.ref a)])) (fun _ q => XS.aloadN X.here X.hx rfl (hb hby d8_0) rfl rfl q) ?_
  refine X.getF (host := "") (Or.inl (hw _ (List.mem_of_getElem? (i := 18) rfl))) Via.refl F_s (hb hby d8_1) (fun T X => ?_)
  show Goes _ _ _ _ _ _ _ _ T (mkF m 4 #[.val (.ref a), .val (.ref f)] [(.ref sb)])
  refine Goes.by (g' := (mkF m 5 #[.val (.ref a), .val (.ref f)] [(.ref f), (.ref sb)])) (fun _ q => XS.aloadN X.here X.hx rfl (hb hby d8_4) rfl rfl q) ?_
  have X_o := X
  refine X.callV E_f (hw _ (List.mem_of_getElem? (i := 47) rfl)) (hw _ (List.mem_of_getElem? (i := 48) rfl)) (hw _ (List.mem_of_getElem? (i := 50) rfl)) (hw _ (List.mem_of_getElem? (i := 50) rfl)) rfl (hw _ (List.mem_of_getElem? (i := 49) rfl)) (hw _ (List.mem_of_getElem? (i := 40) rfl)) (hw _ (List.mem_of_getElem? (i := 51) rfl)) (by decide) pd_193421983 (argsL := []) rfl (rmIx l Z a0 hw n0 h0 X.n0le f ov F_o E_f) (by rw [hml]; rfl) rfl (by decide) (leB rfl) (hb hby d8_5) (by decide) (by decide) (fun T h34 v X hQ => ?_)
  obtain ⟨rfl, hh⟩ := hQ
  rw [hh] at X
  clear hh
  show Goes _ _ _ _ _ _ _ _ T (mkF m 8 #[.val (.ref a), .val (.ref f)] [(.int ov), (.ref sb)])
  refine X.iaload A_sb (i := O) hov (by omega) (hb hby d8_8) ?_
  show Goes _ _ _ _ _ _ _ _ T (mkF m 9 #[.val (.ref a), .val (.ref f)] [(.int (c O))])
  exact X.retI hret (hb hby d8_9) (by decide) (by decide) ⟨rfl, rfl⟩
set_option maxRecDepth 65536 in
set_option maxHeartbeats 40000000 in
theorem rmEn (l : Launch) (Z : State) (a0 : Array Value) (hw : ∀ d ∈ tables_1, d.before a0 Z = true) (n0 : Nat) (h0 : Heap) (hn0 : n0 ≤ h0.size) (a sb f : Addr) (ov : Int32) (O : Nat) (hov : ov.toInt = O) (hO : O ≤ 21) (c : Nat → Int32) (F_o : Fld Z h0 f "java/lang/Enum" "ordinal" "I" (.int ov)) (E_f : Exa Z h0 f "com/example/exdate/exdate/PositionField") (F_s : Fld Z h0 a "com/example/exdate/exdate/RowFields" "starts" "[I" (.ref sb)) (A_sb : PArr Z h0 sb .int 23 (fun j => .int (c j))) :
    Met l Z n0 (⟨"com/example/exdate/exdate/RowFields", "end", "(Lcom/example/exdate/exdate/PositionField;)I"⟩ : MethodName) prog_38_method_5_code 2 (Option.some .int) ({ frames := 2, cells := 0, slots := 0, locals := 25 } : Room) #[(.ref a), (.ref f)] h0 (fun (v : Option Value) (h' : Heap) => v = some (.int (c (O + 1) - 1)) ∧ h' = h0) := by
  refine metW (Q := fun (v : Option Value) (h' : Heap) => v = some (.int (c (O + 1) - 1)) ∧ h' = h0) pf_11 hn0 ?_
  intro p e sS m below meth cC T X hby hml hret hnm
  refine Goes.by (g' := (mkF m 0 #[.val (.ref a), .val (.ref f)] [])) (fun _ q => castTop (by first | (simp [entryFrame, mkF, argsToLocals, Value.category]; done) | rfl) q) ?_
  refine Goes.by (g' := (mkF m 1 #[.val (.ref a), .val (.ref f)] [(.ref a)])) (fun _ q => XS.aloadN X.here X.hx rfl (hb hby d11_0) rfl rfl q) ?_
  refine X.getF (host := "") (Or.inl (hw _ (List.mem_of_getElem? (i := 18) rfl))) Via.refl F_s (hb hby d11_1) (fun T X => ?_)
  show Goes _ _ _ _ _ _ _ _ T (mkF m 4 #[.val (.ref a), .val (.ref f)] [(.ref sb)])
  refine Goes.by (g' := (mkF m 5 #[.val (.ref a), .val (.ref f)] [(.ref f), (.ref sb)])) (fun _ q => XS.aloadN X.here X.hx rfl (hb hby d11_4) rfl rfl q) ?_
  have X_o := X
  refine X.callV E_f (hw _ (List.mem_of_getElem? (i := 47) rfl)) (hw _ (List.mem_of_getElem? (i := 48) rfl)) (hw _ (List.mem_of_getElem? (i := 50) rfl)) (hw _ (List.mem_of_getElem? (i := 50) rfl)) rfl (hw _ (List.mem_of_getElem? (i := 49) rfl)) (hw _ (List.mem_of_getElem? (i := 40) rfl)) (hw _ (List.mem_of_getElem? (i := 51) rfl)) (by decide) pd_193421983 (argsL := []) rfl (rmIx l Z a0 hw n0 h0 X.n0le f ov F_o E_f) (by rw [hml]; rfl) rfl (by decide) (leB rfl) (hb hby d11_5) (by decide) (by decide) (fun T h35 v X hQ => ?_)
  obtain ⟨rfl, hh⟩ := hQ
  rw [hh] at X
  clear hh
  show Goes _ _ _ _ _ _ _ _ T (mkF m 8 #[.val (.ref a), .val (.ref f)] [(.int ov), (.ref sb)])
  refine Goes.by (g' := (mkF m 9 #[.val (.ref a), .val (.ref f)] [(.int (1 : Int32)), (.int ov), (.ref sb)])) (fun _ q => XS.iconst X.here X.hx rfl (hb hby d11_8) q) ?_
  refine Goes.by (g' := (mkF m 10 #[.val (.ref a), .val (.ref f)] [(.int (ov + (1 : Int32))), (.ref sb)])) (fun _ q => XS.iadd X.here X.hx rfl (hb hby d11_9) rfl q) ?_
  refine X.iaload A_sb (i := (O + 1)) (by rw [addI (by rw [hov, c1]; omega) (by rw [hov, c1]; omega), hov, c1]; rfl) (by omega) (hb hby d11_10) ?_
  show Goes _ _ _ _ _ _ _ _ T (mkF m 11 #[.val (.ref a), .val (.ref f)] [(.int (c (O + 1)))])
  refine Goes.by (g' := (mkF m 12 #[.val (.ref a), .val (.ref f)] [(.int (1 : Int32)), (.int (c (O + 1)))])) (fun _ q => XS.iconst X.here X.hx rfl (hb hby d11_11) q) ?_
  refine Goes.by (g' := (mkF m 13 #[.val (.ref a), .val (.ref f)] [(.int ((c (O + 1)) - (1 : Int32)))])) (fun _ q => XS.isub X.here X.hx rfl (hb hby d11_12) rfl q) ?_
  exact X.retI hret (hb hby d11_13) (by decide) (by decide) ⟨rfl, rfl⟩
set_option maxRecDepth 65536 in
set_option maxHeartbeats 40000000 in
theorem rm0 (l : Launch) (Z : State) (a0 : Array Value) (hw : ∀ d ∈ tables_1, d.before a0 Z = true) (n0 : Nat) (h0 : Heap) (hn0 : n0 ≤ h0.size) (ws : List Jvm.Cond) (p0 : Int64) (p1 p2 p3 : Int32) (S_FIELD_COUNT : Sta Z h0 "com/example/exdate/exdate/RowFields" "FIELD_COUNT" "I" (.int 22)) (a_POSITION_DATE : Addr) (S_POSITION_DATE : Sta Z h0 "com/example/exdate/exdate/PositionField" "POSITION_DATE" "Lcom/example/exdate/exdate/PositionField;" (.ref a_POSITION_DATE)) (E_POSITION_DATE : Exa Z h0 a_POSITION_DATE "com/example/exdate/exdate/PositionField") (F_POSITION_DATE : Fld Z h0 a_POSITION_DATE "java/lang/Enum" "ordinal" "I" (.int 0)) (a_SEGMENT_INDICATOR : Addr) (S_SEGMENT_INDICATOR : Sta Z h0 "com/example/exdate/exdate/PositionField" "SEGMENT_INDICATOR" "Lcom/example/exdate/exdate/PositionField;" (.ref a_SEGMENT_INDICATOR)) (E_SEGMENT_INDICATOR : Exa Z h0 a_SEGMENT_INDICATOR "com/example/exdate/exdate/PositionField") (F_SEGMENT_INDICATOR : Fld Z h0 a_SEGMENT_INDICATOR "java/lang/Enum" "ordinal" "I" (.int 1)) (a_SYMBOL : Addr) (S_SYMBOL : Sta Z h0 "com/example/exdate/exdate/PositionField" "SYMBOL" "Lcom/example/exdate/exdate/PositionField;" (.ref a_SYMBOL)) (E_SYMBOL : Exa Z h0 a_SYMBOL "com/example/exdate/exdate/PositionField") (F_SYMBOL : Fld Z h0 a_SYMBOL "java/lang/Enum" "ordinal" "I" (.int 9)) (a_CF_SHORT_VALUE : Addr) (S_CF_SHORT_VALUE : Sta Z h0 "com/example/exdate/exdate/PositionField" "CF_SHORT_VALUE" "Lcom/example/exdate/exdate/PositionField;" (.ref a_CF_SHORT_VALUE)) (E_CF_SHORT_VALUE : Exa Z h0 a_CF_SHORT_VALUE "com/example/exdate/exdate/PositionField") (F_CF_SHORT_VALUE : Fld Z h0 a_CF_SHORT_VALUE "java/lang/Enum" "ordinal" "I" (.int 21)) :
    MetFree l x (head1 (Jvm.Cond.code x code maxLocals ret :: ws) room_1) (fun a U => a = #[(.long p0), (.int p1), (.int p2), (.int p3)] ∧ Z.Warmed39 U.vm ∧ U.heap = h0) (fun _ _ _ _ _ => True) (fun _ U o U' => ∃ v L, o = .returned v ∧ (Fr n0 L ∧ (fun (v : Option Value) (h' : Heap) => v = some (.int 1)) v U'.heap) ∧ EndF U o U' L room_1.cells room_1.slots) := by
  refine metW (Q := fun (v : Option Value) (h' : Heap) => v = some (.int 1)) pf_0 hn0 ?_
  intro p e sS m below meth cC T X hby hml hret hnm
  refine Goes.by (g' := (mkF m 0 #[.val (.long p0), .second, .val (.int p1), .val (.int p2), .val (.int p3), .unset, .unset, .unset, .unset, .unset, .unset, .unset] [])) (fun _ q => castTop (by first | (simp [entryFrame, mkF, argsToLocals, Value.category, maxLocals]; done) | rfl) q) ?_
  have K0 := Keep.refl h0 []
  refine Goes.by (g' := (mkF m 2 #[.val (.long p0), .second, .val (.int p1), .val (.int p2), .val (.int p3), .unset, .unset, .unset, .unset, .unset, .unset, .unset] [(.int (32 : Int32))])) (fun _ q => XS.bipush X.here X.hx rfl (hb hby at_0) q) ?_
  refine X.newA (N := 32) (ad := "[B") (by decide) (hw _ (List.mem_of_getElem? (i := 0) rfl)) (hb hby at_2) (by decide) (cap := 32) (by decide) (by decide) (by decide) (by decide) (fun T h37 b36 X g_b36 ga_b36 E E_b36 A_b36 => ?_)
  have gz_b36 : h0.size ≤ b36 := by rw [g_b36]; exact K0.1
  have K0 := K0.ext E
  show Goes _ _ _ _ _ _ _ _ T (mkF m 4 #[.val (.long p0), .second, .val (.int p1), .val (.int p2), .val (.int p3), .unset, .unset, .unset, .unset, .unset, .unset, .unset] [(.ref b36)])
  have A_b36 : PArr Z h37 b36 .byte 32 (fun j => .int ((ini 0) j)) := PArr.congr A_b36 (fun j hj => by simp [ini]; rfl)
  refine Goes.by (g' := (mkF m 5 #[.val (.long p0), .second, .val (.int p1), .val (.int p2), .val (.int p3), .unset, .unset, .unset, .unset, .unset, .unset, .unset] [(.ref b36), (.ref b36)])) (fun _ q => XS.dup X.here X.hx rfl (hb hby at_4) rfl rfl q) ?_
  refine Goes.by (g' := (mkF m 6 #[.val (.long p0), .second, .val (.int p1), .val (.int p2), .val (.int p3), .unset, .unset, .unset, .unset, .unset, .unset, .unset] [(.int (0 : Int32)), (.ref b36), (.ref b36)])) (fun _ q => XS.iconst X.here X.hx rfl (hb hby at_5) q) ?_
  refine Goes.by (g' := (mkF m 7 #[.val (.long p0), .second, .val (.int p1), .val (.int p2), .val (.int p3), .unset, .unset, .unset, .unset, .unset, .unset, .unset] [(.int (0 : Int32)), (.int (0 : Int32)), (.ref b36), (.ref b36)])) (fun _ q => XS.iconst X.here X.hx rfl (hb hby at_6) q) ?_
  have Ao := A_b36
  refine X.bastoreB A_b36 (i := 0) (by decide) (by decide) ga_b36 (hb hby at_7) (fun T h38 X W => ?_)
  have K0 := K0.wr W (Or.inr gz_b36)
  have E_b36 := E_b36.wr W
  have A_b36 := PArr.set A_b36 W
  have A_b36 := iniS0 Ao (by decide) W
  clear Ao
  show Goes _ _ _ _ _ _ _ _ T (mkF m 8 #[.val (.long p0), .second, .val (.int p1), .val (.int p2), .val (.int p3), .unset, .unset, .unset, .unset, .unset, .unset, .unset] [(.ref b36)])
  refine Goes.by (g' := (mkF m 9 #[.val (.long p0), .second, .val (.int p1), .val (.int p2), .val (.int p3), .unset, .unset, .unset, .unset, .unset, .unset, .unset] [(.ref b36), (.ref b36)])) (fun _ q => XS.dup X.here X.hx rfl (hb hby at_8) rfl rfl q) ?_
  refine Goes.by (g' := (mkF m 10 #[.val (.long p0), .second, .val (.int p1), .val (.int p2), .val (.int p3), .unset, .unset, .unset, .unset, .unset, .unset, .unset] [(.int (1 : Int32)), (.ref b36), (.ref b36)])) (fun _ q => XS.iconst X.here X.hx rfl (hb hby at_9) q) ?_
  refine Goes.by (g' := (mkF m 11 #[.val (.long p0), .second, .val (.int p1), .val (.int p2), .val (.int p3), .unset, .unset, .unset, .unset, .unset, .unset, .unset] [(.int (0 : Int32)), (.int (1 : Int32)), (.ref b36), (.ref b36)])) (fun _ q => XS.iconst X.here X.hx rfl (hb hby at_10) q) ?_
  have Ao := A_b36
  refine X.bastoreB A_b36 (i := 1) (by decide) (by decide) ga_b36 (hb hby at_11) (fun T h39 X W => ?_)
  have K0 := K0.wr W (Or.inr gz_b36)
  have E_b36 := E_b36.wr W
  have A_b36 := PArr.set A_b36 W
  have A_b36 := iniS0 Ao (by decide) W
  clear Ao
  show Goes _ _ _ _ _ _ _ _ T (mkF m 12 #[.val (.long p0), .second, .val (.int p1), .val (.int p2), .val (.int p3), .unset, .unset, .unset, .unset, .unset, .unset, .unset] [(.ref b36)])
  refine Goes.by (g' := (mkF m 13 #[.val (.long p0), .second, .val (.int p1), .val (.int p2), .val (.int p3), .unset, .unset, .unset, .unset, .unset, .unset, .unset] [(.ref b36), (.ref b36)])) (fun _ q => XS.dup X.here X.hx rfl (hb hby at_12) rfl rfl q) ?_
  refine Goes.by (g' := (mkF m 14 #[.val (.long p0), .second, .val (.int p1), .val (.int p2), .val (.int p3), .unset, .unset, .unset, .unset, .unset, .unset, .unset] [(.int (2 : Int32)), (.ref b36), (.ref b36)])) (fun _ q => XS.iconst X.here X.hx rfl (hb hby at_13) q) ?_
  refine Goes.by (g' := (mkF m 15 #[.val (.long p0), .second, .val (.int p1), .val (.int p2), .val (.int p3), .unset, .unset, .unset, .unset, .unset, .unset, .unset] [(.int (0 : Int32)), (.int (2 : Int32)), (.ref b36), (.ref b36)])) (fun _ q => XS.iconst X.here X.hx rfl (hb hby at_14) q) ?_
  have Ao := A_b36
  refine X.bastoreB A_b36 (i := 2) (by decide) (by decide) ga_b36 (hb hby at_15) (fun T h40 X W => ?_)
  have K0 := K0.wr W (Or.inr gz_b36)
  have E_b36 := E_b36.wr W
  have A_b36 := PArr.set A_b36 W
  have A_b36 := iniS0 Ao (by decide) W
  clear Ao
  show Goes _ _ _ _ _ _ _ _ T (mkF m 16 #[.val (.long p0), .second, .val (.int p1), .val (.int p2), .val (.int p3), .unset, .unset, .unset, .unset, .unset, .unset, .unset] [(.ref b36)])
  refine Goes.by (g' := (mkF m 17 #[.val (.long p0), .second, .val (.int p1), .val (.int p2), .val (.int p3), .unset, .unset, .unset, .unset, .unset, .unset, .unset] [(.ref b36), (.ref b36)])) (fun _ q => XS.dup X.here X.hx rfl (hb hby at_16) rfl rfl q) ?_
  refine Goes.by (g' := (mkF m 18 #[.val (.long p0), .second, .val (.int p1), .val (.int p2), .val (.int p3), .unset, .unset, .unset, .unset, .unset, .unset, .unset] [(.int (3 : Int32)), (.ref b36), (.ref b36)])) (fun _ q => XS.iconst X.here X.hx rfl (hb hby at_17) q) ?_
  refine Goes.by (g' := (mkF m 19 #[.val (.long p0), .second, .val (.int p1), .val (.int p2), .val (.int p3), .unset, .unset, .unset, .unset, .unset, .unset, .unset] [(.int (0 : Int32)), (.int (3 : Int32)), (.ref b36), (.ref b36)])) (fun _ q => XS.iconst X.here X.hx rfl (hb hby at_18) q) ?_
  have Ao := A_b36
  refine X.bastoreB A_b36 (i := 3) (by decide) (by decide) ga_b36 (hb hby at_19) (fun T h41 X W => ?_)
  have K0 := K0.wr W (Or.inr gz_b36)
  have E_b36 := E_b36.wr W
  have A_b36 := PArr.set A_b36 W
  have A_b36 := iniS0 Ao (by decide) W
  clear Ao
  show Goes _ _ _ _ _ _ _ _ T (mkF m 20 #[.val (.long p0), .second, .val (.int p1), .val (.int p2), .val (.int p3), .unset, .unset, .unset, .unset, .unset, .unset, .unset] [(.ref b36)])
  refine Goes.by (g' := (mkF m 21 #[.val (.long p0), .second, .val (.int p1), .val (.int p2), .val (.int p3), .unset, .unset, .unset, .unset, .unset, .unset, .unset] [(.ref b36), (.ref b36)])) (fun _ q => XS.dup X.here X.hx rfl (hb hby at_20) rfl rfl q) ?_
  refine Goes.by (g' := (mkF m 22 #[.val (.long p0), .second, .val (.int p1), .val (.int p2), .val (.int p3), .unset, .unset, .unset, .unset, .unset, .unset, .unset] [(.int (4 : Int32)), (.ref b36), (.ref b36)])) (fun _ q => XS.iconst X.here X.hx rfl (hb hby at_21) q) ?_
  refine Goes.by (g' := (mkF m 23 #[.val (.long p0), .second, .val (.int p1), .val (.int p2), .val (.int p3), .unset, .unset, .unset, .unset, .unset, .unset, .unset] [(.int (0 : Int32)), (.int (4 : Int32)), (.ref b36), (.ref b36)])) (fun _ q => XS.iconst X.here X.hx rfl (hb hby at_22) q) ?_
  have Ao := A_b36
  refine X.bastoreB A_b36 (i := 4) (by decide) (by decide) ga_b36 (hb hby at_23) (fun T h42 X W => ?_)
  have K0 := K0.wr W (Or.inr gz_b36)
  have E_b36 := E_b36.wr W
  have A_b36 := PArr.set A_b36 W
  have A_b36 := iniS0 Ao (by decide) W
  clear Ao
  show Goes _ _ _ _ _ _ _ _ T (mkF m 24 #[.val (.long p0), .second, .val (.int p1), .val (.int p2), .val (.int p3), .unset, .unset, .unset, .unset, .unset, .unset, .unset] [(.ref b36)])
  refine Goes.by (g' := (mkF m 25 #[.val (.long p0), .second, .val (.int p1), .val (.int p2), .val (.int p3), .unset, .unset, .unset, .unset, .unset, .unset, .unset] [(.ref b36), (.ref b36)])) (fun _ q => XS.dup X.here X.hx rfl (hb hby at_24) rfl rfl q) ?_
  refine Goes.by (g' := (mkF m 26 #[.val (.long p0), .second, .val (.int p1), .val (.int p2), .val (.int p3), .unset, .unset, .unset, .unset, .unset, .unset, .unset] [(.int (5 : Int32)), (.ref b36), (.ref b36)])) (fun _ q => XS.iconst X.here X.hx rfl (hb hby at_25) q) ?_
  refine Goes.by (g' := (mkF m 27 #[.val (.long p0), .second, .val (.int p1), .val (.int p2), .val (.int p3), .unset, .unset, .unset, .unset, .unset, .unset, .unset] [(.int (0 : Int32)), (.int (5 : Int32)), (.ref b36), (.ref b36)])) (fun _ q => XS.iconst X.here X.hx rfl (hb hby at_26) q) ?_
  have Ao := A_b36
  refine X.bastoreB A_b36 (i := 5) (by decide) (by decide) ga_b36 (hb hby at_27) (fun T h43 X W => ?_)
  have K0 := K0.wr W (Or.inr gz_b36)
  have E_b36 := E_b36.wr W
  have A_b36 := PArr.set A_b36 W
  have A_b36 := iniS0 Ao (by decide) W
  clear Ao
  show Goes _ _ _ _ _ _ _ _ T (mkF m 28 #[.val (.long p0), .second, .val (.int p1), .val (.int p2), .val (.int p3), .unset, .unset, .unset, .unset, .unset, .unset, .unset] [(.ref b36)])
  refine Goes.by (g' := (mkF m 29 #[.val (.long p0), .second, .val (.int p1), .val (.int p2), .val (.int p3), .unset, .unset, .unset, .unset, .unset, .unset, .unset] [(.ref b36), (.ref b36)])) (fun _ q => XS.dup X.here X.hx rfl (hb hby at_28) rfl rfl q) ?_
  refine Goes.by (g' := (mkF m 31 #[.val (.long p0), .second, .val (.int p1), .val (.int p2), .val (.int p3), .unset, .unset, .unset, .unset, .unset, .unset, .unset] [(.int (6 : Int32)), (.ref b36), (.ref b36)])) (fun _ q => XS.bipush X.here X.hx rfl (hb hby at_29) q) ?_
  refine Goes.by (g' := (mkF m 32 #[.val (.long p0), .second, .val (.int p1), .val (.int p2), .val (.int p3), .unset, .unset, .unset, .unset, .unset, .unset, .unset] [(.int (0 : Int32)), (.int (6 : Int32)), (.ref b36), (.ref b36)])) (fun _ q => XS.iconst X.here X.hx rfl (hb hby at_31) q) ?_
  have Ao := A_b36
  refine X.bastoreB A_b36 (i := 6) (by decide) (by decide) ga_b36 (hb hby at_32) (fun T h44 X W => ?_)
  have K0 := K0.wr W (Or.inr gz_b36)
  have E_b36 := E_b36.wr W
  have A_b36 := PArr.set A_b36 W
  have A_b36 := iniS0 Ao (by decide) W
  clear Ao
  show Goes _ _ _ _ _ _ _ _ T (mkF m 33 #[.val (.long p0), .second, .val (.int p1), .val (.int p2), .val (.int p3), .unset, .unset, .unset, .unset, .unset, .unset, .unset] [(.ref b36)])
  refine Goes.by (g' := (mkF m 34 #[.val (.long p0), .second, .val (.int p1), .val (.int p2), .val (.int p3), .unset, .unset, .unset, .unset, .unset, .unset, .unset] [(.ref b36), (.ref b36)])) (fun _ q => XS.dup X.here X.hx rfl (hb hby at_33) rfl rfl q) ?_
  refine Goes.by (g' := (mkF m 36 #[.val (.long p0), .second, .val (.int p1), .val (.int p2), .val (.int p3), .unset, .unset, .unset, .unset, .unset, .unset, .unset] [(.int (7 : Int32)), (.ref b36), (.ref b36)])) (fun _ q => XS.bipush X.here X.hx rfl (hb hby at_34) q) ?_
  refine Goes.by (g' := (mkF m 37 #[.val (.long p0), .second, .val (.int p1), .val (.int p2), .val (.int p3), .unset, .unset, .unset, .unset, .unset, .unset, .unset] [(.int (0 : Int32)), (.int (7 : Int32)), (.ref b36), (.ref b36)])) (fun _ q => XS.iconst X.here X.hx rfl (hb hby at_36) q) ?_
  have Ao := A_b36
  refine X.bastoreB A_b36 (i := 7) (by decide) (by decide) ga_b36 (hb hby at_37) (fun T h45 X W => ?_)
  have K0 := K0.wr W (Or.inr gz_b36)
  have E_b36 := E_b36.wr W
  have A_b36 := PArr.set A_b36 W
  have A_b36 := iniS0 Ao (by decide) W
  clear Ao
  show Goes _ _ _ _ _ _ _ _ T (mkF m 38 #[.val (.long p0), .second, .val (.int p1), .val (.int p2), .val (.int p3), .unset, .unset, .unset, .unset, .unset, .unset, .unset] [(.ref b36)])
  refine Goes.by (g' := (mkF m 39 #[.val (.long p0), .second, .val (.int p1), .val (.int p2), .val (.int p3), .unset, .unset, .unset, .unset, .unset, .unset, .unset] [(.ref b36), (.ref b36)])) (fun _ q => XS.dup X.here X.hx rfl (hb hby at_38) rfl rfl q) ?_
  refine Goes.by (g' := (mkF m 41 #[.val (.long p0), .second, .val (.int p1), .val (.int p2), .val (.int p3), .unset, .unset, .unset, .unset, .unset, .unset, .unset] [(.int (8 : Int32)), (.ref b36), (.ref b36)])) (fun _ q => XS.bipush X.here X.hx rfl (hb hby at_39) q) ?_
  refine Goes.by (g' := (mkF m 43 #[.val (.long p0), .second, .val (.int p1), .val (.int p2), .val (.int p3), .unset, .unset, .unset, .unset, .unset, .unset, .unset] [(.int (44 : Int32)), (.int (8 : Int32)), (.ref b36), (.ref b36)])) (fun _ q => XS.bipush X.here X.hx rfl (hb hby at_41) q) ?_
  have Ao := A_b36
  refine X.bastoreB A_b36 (i := 8) (by decide) (by decide) ga_b36 (hb hby at_43) (fun T h46 X W => ?_)
  have K0 := K0.wr W (Or.inr gz_b36)
  have E_b36 := E_b36.wr W
  have A_b36 := PArr.set A_b36 W
  have A_b36 := iniS Ao (by decide) W
  clear Ao
  show Goes _ _ _ _ _ _ _ _ T (mkF m 44 #[.val (.long p0), .second, .val (.int p1), .val (.int p2), .val (.int p3), .unset, .unset, .unset, .unset, .unset, .unset, .unset] [(.ref b36)])
  refine Goes.by (g' := (mkF m 45 #[.val (.long p0), .second, .val (.int p1), .val (.int p2), .val (.int p3), .unset, .unset, .unset, .unset, .unset, .unset, .unset] [(.ref b36), (.ref b36)])) (fun _ q => XS.dup X.here X.hx rfl (hb hby at_44) rfl rfl q) ?_
  refine Goes.by (g' := (mkF m 47 #[.val (.long p0), .second, .val (.int p1), .val (.int p2), .val (.int p3), .unset, .unset, .unset, .unset, .unset, .unset, .unset] [(.int (9 : Int32)), (.ref b36), (.ref b36)])) (fun _ q => XS.bipush X.here X.hx rfl (hb hby at_45) q) ?_
  refine Goes.by (g' := (mkF m 49 #[.val (.long p0), .second, .val (.int p1), .val (.int p2), .val (.int p3), .unset, .unset, .unset, .unset, .unset, .unset, .unset] [(.int (44 : Int32)), (.int (9 : Int32)), (.ref b36), (.ref b36)])) (fun _ q => XS.bipush X.here X.hx rfl (hb hby at_47) q) ?_
  have Ao := A_b36
  refine X.bastoreB A_b36 (i := 9) (by decide) (by decide) ga_b36 (hb hby at_49) (fun T h47 X W => ?_)
  have K0 := K0.wr W (Or.inr gz_b36)
  have E_b36 := E_b36.wr W
  have A_b36 := PArr.set A_b36 W
  have A_b36 := iniS Ao (by decide) W
  clear Ao
  show Goes _ _ _ _ _ _ _ _ T (mkF m 50 #[.val (.long p0), .second, .val (.int p1), .val (.int p2), .val (.int p3), .unset, .unset, .unset, .unset, .unset, .unset, .unset] [(.ref b36)])
  refine Goes.by (g' := (mkF m 51 #[.val (.long p0), .second, .val (.int p1), .val (.int p2), .val (.int p3), .unset, .unset, .unset, .unset, .unset, .unset, .unset] [(.ref b36), (.ref b36)])) (fun _ q => XS.dup X.here X.hx rfl (hb hby at_50) rfl rfl q) ?_
  refine Goes.by (g' := (mkF m 53 #[.val (.long p0), .second, .val (.int p1), .val (.int p2), .val (.int p3), .unset, .unset, .unset, .unset, .unset, .unset, .unset] [(.int (10 : Int32)), (.ref b36), (.ref b36)])) (fun _ q => XS.bipush X.here X.hx rfl (hb hby at_51) q) ?_
  refine Goes.by (g' := (mkF m 55 #[.val (.long p0), .second, .val (.int p1), .val (.int p2), .val (.int p3), .unset, .unset, .unset, .unset, .unset, .unset, .unset] [(.int (44 : Int32)), (.int (10 : Int32)), (.ref b36), (.ref b36)])) (fun _ q => XS.bipush X.here X.hx rfl (hb hby at_53) q) ?_
  have Ao := A_b36
  refine X.bastoreB A_b36 (i := 10) (by decide) (by decide) ga_b36 (hb hby at_55) (fun T h48 X W => ?_)
  have K0 := K0.wr W (Or.inr gz_b36)
  have E_b36 := E_b36.wr W
  have A_b36 := PArr.set A_b36 W
  have A_b36 := iniS Ao (by decide) W
  clear Ao
  show Goes _ _ _ _ _ _ _ _ T (mkF m 56 #[.val (.long p0), .second, .val (.int p1), .val (.int p2), .val (.int p3), .unset, .unset, .unset, .unset, .unset, .unset, .unset] [(.ref b36)])
  refine Goes.by (g' := (mkF m 57 #[.val (.long p0), .second, .val (.int p1), .val (.int p2), .val (.int p3), .unset, .unset, .unset, .unset, .unset, .unset, .unset] [(.ref b36), (.ref b36)])) (fun _ q => XS.dup X.here X.hx rfl (hb hby at_56) rfl rfl q) ?_
  refine Goes.by (g' := (mkF m 59 #[.val (.long p0), .second, .val (.int p1), .val (.int p2), .val (.int p3), .unset, .unset, .unset, .unset, .unset, .unset, .unset] [(.int (11 : Int32)), (.ref b36), (.ref b36)])) (fun _ q => XS.bipush X.here X.hx rfl (hb hby at_57) q) ?_
  refine Goes.by (g' := (mkF m 61 #[.val (.long p0), .second, .val (.int p1), .val (.int p2), .val (.int p3), .unset, .unset, .unset, .unset, .unset, .unset, .unset] [(.int (44 : Int32)), (.int (11 : Int32)), (.ref b36), (.ref b36)])) (fun _ q => XS.bipush X.here X.hx rfl (hb hby at_59) q) ?_
  have Ao := A_b36
  refine X.bastoreB A_b36 (i := 11) (by decide) (by decide) ga_b36 (hb hby at_61) (fun T h49 X W => ?_)
  have K0 := K0.wr W (Or.inr gz_b36)
  have E_b36 := E_b36.wr W
  have A_b36 := PArr.set A_b36 W
  have A_b36 := iniS Ao (by decide) W
  clear Ao
  show Goes _ _ _ _ _ _ _ _ T (mkF m 62 #[.val (.long p0), .second, .val (.int p1), .val (.int p2), .val (.int p3), .unset, .unset, .unset, .unset, .unset, .unset, .unset] [(.ref b36)])
  refine Goes.by (g' := (mkF m 63 #[.val (.long p0), .second, .val (.int p1), .val (.int p2), .val (.int p3), .unset, .unset, .unset, .unset, .unset, .unset, .unset] [(.ref b36), (.ref b36)])) (fun _ q => XS.dup X.here X.hx rfl (hb hby at_62) rfl rfl q) ?_
  refine Goes.by (g' := (mkF m 65 #[.val (.long p0), .second, .val (.int p1), .val (.int p2), .val (.int p3), .unset, .unset, .unset, .unset, .unset, .unset, .unset] [(.int (12 : Int32)), (.ref b36), (.ref b36)])) (fun _ q => XS.bipush X.here X.hx rfl (hb hby at_63) q) ?_
  refine Goes.by (g' := (mkF m 67 #[.val (.long p0), .second, .val (.int p1), .val (.int p2), .val (.int p3), .unset, .unset, .unset, .unset, .unset, .unset, .unset] [(.int (44 : Int32)), (.int (12 : Int32)), (.ref b36), (.ref b36)])) (fun _ q => XS.bipush X.here X.hx rfl (hb hby at_65) q) ?_
  have Ao := A_b36
  refine X.bastoreB A_b36 (i := 12) (by decide) (by decide) ga_b36 (hb hby at_67) (fun T h50 X W => ?_)
  have K0 := K0.wr W (Or.inr gz_b36)
  have E_b36 := E_b36.wr W
  have A_b36 := PArr.set A_b36 W
  have A_b36 := iniS Ao (by decide) W
  clear Ao
  show Goes _ _ _ _ _ _ _ _ T (mkF m 68 #[.val (.long p0), .second, .val (.int p1), .val (.int p2), .val (.int p3), .unset, .unset, .unset, .unset, .unset, .unset, .unset] [(.ref b36)])
  refine Goes.by (g' := (mkF m 69 #[.val (.long p0), .second, .val (.int p1), .val (.int p2), .val (.int p3), .unset, .unset, .unset, .unset, .unset, .unset, .unset] [(.ref b36), (.ref b36)])) (fun _ q => XS.dup X.here X.hx rfl (hb hby at_68) rfl rfl q) ?_
  refine Goes.by (g' := (mkF m 71 #[.val (.long p0), .second, .val (.int p1), .val (.int p2), .val (.int p3), .unset, .unset, .unset, .unset, .unset, .unset, .unset] [(.int (13 : Int32)), (.ref b36), (.ref b36)])) (fun _ q => XS.bipush X.here X.hx rfl (hb hby at_69) q) ?_
  refine Goes.by (g' := (mkF m 73 #[.val (.long p0), .second, .val (.int p1), .val (.int p2), .val (.int p3), .unset, .unset, .unset, .unset, .unset, .unset, .unset] [(.int (44 : Int32)), (.int (13 : Int32)), (.ref b36), (.ref b36)])) (fun _ q => XS.bipush X.here X.hx rfl (hb hby at_71) q) ?_
  have Ao := A_b36
  refine X.bastoreB A_b36 (i := 13) (by decide) (by decide) ga_b36 (hb hby at_73) (fun T h51 X W => ?_)
  have K0 := K0.wr W (Or.inr gz_b36)
  have E_b36 := E_b36.wr W
  have A_b36 := PArr.set A_b36 W
  have A_b36 := iniS Ao (by decide) W
  clear Ao
  show Goes _ _ _ _ _ _ _ _ T (mkF m 74 #[.val (.long p0), .second, .val (.int p1), .val (.int p2), .val (.int p3), .unset, .unset, .unset, .unset, .unset, .unset, .unset] [(.ref b36)])
  refine Goes.by (g' := (mkF m 75 #[.val (.long p0), .second, .val (.int p1), .val (.int p2), .val (.int p3), .unset, .unset, .unset, .unset, .unset, .unset, .unset] [(.ref b36), (.ref b36)])) (fun _ q => XS.dup X.here X.hx rfl (hb hby at_74) rfl rfl q) ?_
  refine Goes.by (g' := (mkF m 77 #[.val (.long p0), .second, .val (.int p1), .val (.int p2), .val (.int p3), .unset, .unset, .unset, .unset, .unset, .unset, .unset] [(.int (14 : Int32)), (.ref b36), (.ref b36)])) (fun _ q => XS.bipush X.here X.hx rfl (hb hby at_75) q) ?_
  refine Goes.by (g' := (mkF m 79 #[.val (.long p0), .second, .val (.int p1), .val (.int p2), .val (.int p3), .unset, .unset, .unset, .unset, .unset, .unset, .unset] [(.int (44 : Int32)), (.int (14 : Int32)), (.ref b36), (.ref b36)])) (fun _ q => XS.bipush X.here X.hx rfl (hb hby at_77) q) ?_
  have Ao := A_b36
  refine X.bastoreB A_b36 (i := 14) (by decide) (by decide) ga_b36 (hb hby at_79) (fun T h52 X W => ?_)
  have K0 := K0.wr W (Or.inr gz_b36)
  have E_b36 := E_b36.wr W
  have A_b36 := PArr.set A_b36 W
  have A_b36 := iniS Ao (by decide) W
  clear Ao
  show Goes _ _ _ _ _ _ _ _ T (mkF m 80 #[.val (.long p0), .second, .val (.int p1), .val (.int p2), .val (.int p3), .unset, .unset, .unset, .unset, .unset, .unset, .unset] [(.ref b36)])
  refine Goes.by (g' := (mkF m 81 #[.val (.long p0), .second, .val (.int p1), .val (.int p2), .val (.int p3), .unset, .unset, .unset, .unset, .unset, .unset, .unset] [(.ref b36), (.ref b36)])) (fun _ q => XS.dup X.here X.hx rfl (hb hby at_80) rfl rfl q) ?_
  refine Goes.by (g' := (mkF m 83 #[.val (.long p0), .second, .val (.int p1), .val (.int p2), .val (.int p3), .unset, .unset, .unset, .unset, .unset, .unset, .unset] [(.int (15 : Int32)), (.ref b36), (.ref b36)])) (fun _ q => XS.bipush X.here X.hx rfl (hb hby at_81) q) ?_
  refine Goes.by (g' := (mkF m 85 #[.val (.long p0), .second, .val (.int p1), .val (.int p2), .val (.int p3), .unset, .unset, .unset, .unset, .unset, .unset, .unset] [(.int (44 : Int32)), (.int (15 : Int32)), (.ref b36), (.ref b36)])) (fun _ q => XS.bipush X.here X.hx rfl (hb hby at_83) q) ?_
  have Ao := A_b36
  refine X.bastoreB A_b36 (i := 15) (by decide) (by decide) ga_b36 (hb hby at_85) (fun T h53 X W => ?_)
  have K0 := K0.wr W (Or.inr gz_b36)
  have E_b36 := E_b36.wr W
  have A_b36 := PArr.set A_b36 W
  have A_b36 := iniS Ao (by decide) W
  clear Ao
  show Goes _ _ _ _ _ _ _ _ T (mkF m 86 #[.val (.long p0), .second, .val (.int p1), .val (.int p2), .val (.int p3), .unset, .unset, .unset, .unset, .unset, .unset, .unset] [(.ref b36)])
  refine Goes.by (g' := (mkF m 87 #[.val (.long p0), .second, .val (.int p1), .val (.int p2), .val (.int p3), .unset, .unset, .unset, .unset, .unset, .unset, .unset] [(.ref b36), (.ref b36)])) (fun _ q => XS.dup X.here X.hx rfl (hb hby at_86) rfl rfl q) ?_
  refine Goes.by (g' := (mkF m 89 #[.val (.long p0), .second, .val (.int p1), .val (.int p2), .val (.int p3), .unset, .unset, .unset, .unset, .unset, .unset, .unset] [(.int (16 : Int32)), (.ref b36), (.ref b36)])) (fun _ q => XS.bipush X.here X.hx rfl (hb hby at_87) q) ?_
  refine Goes.by (g' := (mkF m 91 #[.val (.long p0), .second, .val (.int p1), .val (.int p2), .val (.int p3), .unset, .unset, .unset, .unset, .unset, .unset, .unset] [(.int (44 : Int32)), (.int (16 : Int32)), (.ref b36), (.ref b36)])) (fun _ q => XS.bipush X.here X.hx rfl (hb hby at_89) q) ?_
  have Ao := A_b36
  refine X.bastoreB A_b36 (i := 16) (by decide) (by decide) ga_b36 (hb hby at_91) (fun T h54 X W => ?_)
  have K0 := K0.wr W (Or.inr gz_b36)
  have E_b36 := E_b36.wr W
  have A_b36 := PArr.set A_b36 W
  have A_b36 := iniS Ao (by decide) W
  clear Ao
  show Goes _ _ _ _ _ _ _ _ T (mkF m 92 #[.val (.long p0), .second, .val (.int p1), .val (.int p2), .val (.int p3), .unset, .unset, .unset, .unset, .unset, .unset, .unset] [(.ref b36)])
  refine Goes.by (g' := (mkF m 93 #[.val (.long p0), .second, .val (.int p1), .val (.int p2), .val (.int p3), .unset, .unset, .unset, .unset, .unset, .unset, .unset] [(.ref b36), (.ref b36)])) (fun _ q => XS.dup X.here X.hx rfl (hb hby at_92) rfl rfl q) ?_
  refine Goes.by (g' := (mkF m 95 #[.val (.long p0), .second, .val (.int p1), .val (.int p2), .val (.int p3), .unset, .unset, .unset, .unset, .unset, .unset, .unset] [(.int (17 : Int32)), (.ref b36), (.ref b36)])) (fun _ q => XS.bipush X.here X.hx rfl (hb hby at_93) q) ?_
  refine Goes.by (g' := (mkF m 97 #[.val (.long p0), .second, .val (.int p1), .val (.int p2), .val (.int p3), .unset, .unset, .unset, .unset, .unset, .unset, .unset] [(.int (44 : Int32)), (.int (17 : Int32)), (.ref b36), (.ref b36)])) (fun _ q => XS.bipush X.here X.hx rfl (hb hby at_95) q) ?_
  have Ao := A_b36
  refine X.bastoreB A_b36 (i := 17) (by decide) (by decide) ga_b36 (hb hby at_97) (fun T h55 X W => ?_)
  have K0 := K0.wr W (Or.inr gz_b36)
  have E_b36 := E_b36.wr W
  have A_b36 := PArr.set A_b36 W
  have A_b36 := iniS Ao (by decide) W
  clear Ao
  show Goes _ _ _ _ _ _ _ _ T (mkF m 98 #[.val (.long p0), .second, .val (.int p1), .val (.int p2), .val (.int p3), .unset, .unset, .unset, .unset, .unset, .unset, .unset] [(.ref b36)])
  refine Goes.by (g' := (mkF m 99 #[.val (.long p0), .second, .val (.int p1), .val (.int p2), .val (.int p3), .unset, .unset, .unset, .unset, .unset, .unset, .unset] [(.ref b36), (.ref b36)])) (fun _ q => XS.dup X.here X.hx rfl (hb hby at_98) rfl rfl q) ?_
  refine Goes.by (g' := (mkF m 101 #[.val (.long p0), .second, .val (.int p1), .val (.int p2), .val (.int p3), .unset, .unset, .unset, .unset, .unset, .unset, .unset] [(.int (18 : Int32)), (.ref b36), (.ref b36)])) (fun _ q => XS.bipush X.here X.hx rfl (hb hby at_99) q) ?_
  refine Goes.by (g' := (mkF m 103 #[.val (.long p0), .second, .val (.int p1), .val (.int p2), .val (.int p3), .unset, .unset, .unset, .unset, .unset, .unset, .unset] [(.int (44 : Int32)), (.int (18 : Int32)), (.ref b36), (.ref b36)])) (fun _ q => XS.bipush X.here X.hx rfl (hb hby at_101) q) ?_
  have Ao := A_b36
  refine X.bastoreB A_b36 (i := 18) (by decide) (by decide) ga_b36 (hb hby at_103) (fun T h56 X W => ?_)
  have K0 := K0.wr W (Or.inr gz_b36)
  have E_b36 := E_b36.wr W
  have A_b36 := PArr.set A_b36 W
  have A_b36 := iniS Ao (by decide) W
  clear Ao
  show Goes _ _ _ _ _ _ _ _ T (mkF m 104 #[.val (.long p0), .second, .val (.int p1), .val (.int p2), .val (.int p3), .unset, .unset, .unset, .unset, .unset, .unset, .unset] [(.ref b36)])
  refine Goes.by (g' := (mkF m 105 #[.val (.long p0), .second, .val (.int p1), .val (.int p2), .val (.int p3), .unset, .unset, .unset, .unset, .unset, .unset, .unset] [(.ref b36), (.ref b36)])) (fun _ q => XS.dup X.here X.hx rfl (hb hby at_104) rfl rfl q) ?_
  refine Goes.by (g' := (mkF m 107 #[.val (.long p0), .second, .val (.int p1), .val (.int p2), .val (.int p3), .unset, .unset, .unset, .unset, .unset, .unset, .unset] [(.int (19 : Int32)), (.ref b36), (.ref b36)])) (fun _ q => XS.bipush X.here X.hx rfl (hb hby at_105) q) ?_
  refine Goes.by (g' := (mkF m 109 #[.val (.long p0), .second, .val (.int p1), .val (.int p2), .val (.int p3), .unset, .unset, .unset, .unset, .unset, .unset, .unset] [(.int (44 : Int32)), (.int (19 : Int32)), (.ref b36), (.ref b36)])) (fun _ q => XS.bipush X.here X.hx rfl (hb hby at_107) q) ?_
  have Ao := A_b36
  refine X.bastoreB A_b36 (i := 19) (by decide) (by decide) ga_b36 (hb hby at_109) (fun T h57 X W => ?_)
  have K0 := K0.wr W (Or.inr gz_b36)
  have E_b36 := E_b36.wr W
  have A_b36 := PArr.set A_b36 W
  have A_b36 := iniS Ao (by decide) W
  clear Ao
  show Goes _ _ _ _ _ _ _ _ T (mkF m 110 #[.val (.long p0), .second, .val (.int p1), .val (.int p2), .val (.int p3), .unset, .unset, .unset, .unset, .unset, .unset, .unset] [(.ref b36)])
  refine Goes.by (g' := (mkF m 111 #[.val (.long p0), .second, .val (.int p1), .val (.int p2), .val (.int p3), .unset, .unset, .unset, .unset, .unset, .unset, .unset] [(.ref b36), (.ref b36)])) (fun _ q => XS.dup X.here X.hx rfl (hb hby at_110) rfl rfl q) ?_
  refine Goes.by (g' := (mkF m 113 #[.val (.long p0), .second, .val (.int p1), .val (.int p2), .val (.int p3), .unset, .unset, .unset, .unset, .unset, .unset, .unset] [(.int (20 : Int32)), (.ref b36), (.ref b36)])) (fun _ q => XS.bipush X.here X.hx rfl (hb hby at_111) q) ?_
  refine Goes.by (g' := (mkF m 115 #[.val (.long p0), .second, .val (.int p1), .val (.int p2), .val (.int p3), .unset, .unset, .unset, .unset, .unset, .unset, .unset] [(.int (44 : Int32)), (.int (20 : Int32)), (.ref b36), (.ref b36)])) (fun _ q => XS.bipush X.here X.hx rfl (hb hby at_113) q) ?_
  have Ao := A_b36
  refine X.bastoreB A_b36 (i := 20) (by decide) (by decide) ga_b36 (hb hby at_115) (fun T h58 X W => ?_)
  have K0 := K0.wr W (Or.inr gz_b36)
  have E_b36 := E_b36.wr W
  have A_b36 := PArr.set A_b36 W
  have A_b36 := iniS Ao (by decide) W
  clear Ao
  show Goes _ _ _ _ _ _ _ _ T (mkF m 116 #[.val (.long p0), .second, .val (.int p1), .val (.int p2), .val (.int p3), .unset, .unset, .unset, .unset, .unset, .unset, .unset] [(.ref b36)])
  refine Goes.by (g' := (mkF m 117 #[.val (.long p0), .second, .val (.int p1), .val (.int p2), .val (.int p3), .unset, .unset, .unset, .unset, .unset, .unset, .unset] [(.ref b36), (.ref b36)])) (fun _ q => XS.dup X.here X.hx rfl (hb hby at_116) rfl rfl q) ?_
  refine Goes.by (g' := (mkF m 119 #[.val (.long p0), .second, .val (.int p1), .val (.int p2), .val (.int p3), .unset, .unset, .unset, .unset, .unset, .unset, .unset] [(.int (21 : Int32)), (.ref b36), (.ref b36)])) (fun _ q => XS.bipush X.here X.hx rfl (hb hby at_117) q) ?_
  refine Goes.by (g' := (mkF m 121 #[.val (.long p0), .second, .val (.int p1), .val (.int p2), .val (.int p3), .unset, .unset, .unset, .unset, .unset, .unset, .unset] [(.int (44 : Int32)), (.int (21 : Int32)), (.ref b36), (.ref b36)])) (fun _ q => XS.bipush X.here X.hx rfl (hb hby at_119) q) ?_
  have Ao := A_b36
  refine X.bastoreB A_b36 (i := 21) (by decide) (by decide) ga_b36 (hb hby at_121) (fun T h59 X W => ?_)
  have K0 := K0.wr W (Or.inr gz_b36)
  have E_b36 := E_b36.wr W
  have A_b36 := PArr.set A_b36 W
  have A_b36 := iniS Ao (by decide) W
  clear Ao
  show Goes _ _ _ _ _ _ _ _ T (mkF m 122 #[.val (.long p0), .second, .val (.int p1), .val (.int p2), .val (.int p3), .unset, .unset, .unset, .unset, .unset, .unset, .unset] [(.ref b36)])
  refine Goes.by (g' := (mkF m 123 #[.val (.long p0), .second, .val (.int p1), .val (.int p2), .val (.int p3), .unset, .unset, .unset, .unset, .unset, .unset, .unset] [(.ref b36), (.ref b36)])) (fun _ q => XS.dup X.here X.hx rfl (hb hby at_122) rfl rfl q) ?_
  refine Goes.by (g' := (mkF m 125 #[.val (.long p0), .second, .val (.int p1), .val (.int p2), .val (.int p3), .unset, .unset, .unset, .unset, .unset, .unset, .unset] [(.int (22 : Int32)), (.ref b36), (.ref b36)])) (fun _ q => XS.bipush X.here X.hx rfl (hb hby at_123) q) ?_
  refine Goes.by (g' := (mkF m 127 #[.val (.long p0), .second, .val (.int p1), .val (.int p2), .val (.int p3), .unset, .unset, .unset, .unset, .unset, .unset, .unset] [(.int (44 : Int32)), (.int (22 : Int32)), (.ref b36), (.ref b36)])) (fun _ q => XS.bipush X.here X.hx rfl (hb hby at_125) q) ?_
  have Ao := A_b36
  refine X.bastoreB A_b36 (i := 22) (by decide) (by decide) ga_b36 (hb hby at_127) (fun T h60 X W => ?_)
  have K0 := K0.wr W (Or.inr gz_b36)
  have E_b36 := E_b36.wr W
  have A_b36 := PArr.set A_b36 W
  have A_b36 := iniS Ao (by decide) W
  clear Ao
  show Goes _ _ _ _ _ _ _ _ T (mkF m 128 #[.val (.long p0), .second, .val (.int p1), .val (.int p2), .val (.int p3), .unset, .unset, .unset, .unset, .unset, .unset, .unset] [(.ref b36)])
  refine Goes.by (g' := (mkF m 129 #[.val (.long p0), .second, .val (.int p1), .val (.int p2), .val (.int p3), .unset, .unset, .unset, .unset, .unset, .unset, .unset] [(.ref b36), (.ref b36)])) (fun _ q => XS.dup X.here X.hx rfl (hb hby at_128) rfl rfl q) ?_
  refine Goes.by (g' := (mkF m 131 #[.val (.long p0), .second, .val (.int p1), .val (.int p2), .val (.int p3), .unset, .unset, .unset, .unset, .unset, .unset, .unset] [(.int (23 : Int32)), (.ref b36), (.ref b36)])) (fun _ q => XS.bipush X.here X.hx rfl (hb hby at_129) q) ?_
  refine Goes.by (g' := (mkF m 133 #[.val (.long p0), .second, .val (.int p1), .val (.int p2), .val (.int p3), .unset, .unset, .unset, .unset, .unset, .unset, .unset] [(.int (44 : Int32)), (.int (23 : Int32)), (.ref b36), (.ref b36)])) (fun _ q => XS.bipush X.here X.hx rfl (hb hby at_131) q) ?_
  have Ao := A_b36
  refine X.bastoreB A_b36 (i := 23) (by decide) (by decide) ga_b36 (hb hby at_133) (fun T h61 X W => ?_)
  have K0 := K0.wr W (Or.inr gz_b36)
  have E_b36 := E_b36.wr W
  have A_b36 := PArr.set A_b36 W
  have A_b36 := iniS Ao (by decide) W
  clear Ao
  show Goes _ _ _ _ _ _ _ _ T (mkF m 134 #[.val (.long p0), .second, .val (.int p1), .val (.int p2), .val (.int p3), .unset, .unset, .unset, .unset, .unset, .unset, .unset] [(.ref b36)])
  refine Goes.by (g' := (mkF m 135 #[.val (.long p0), .second, .val (.int p1), .val (.int p2), .val (.int p3), .unset, .unset, .unset, .unset, .unset, .unset, .unset] [(.ref b36), (.ref b36)])) (fun _ q => XS.dup X.here X.hx rfl (hb hby at_134) rfl rfl q) ?_
  refine Goes.by (g' := (mkF m 137 #[.val (.long p0), .second, .val (.int p1), .val (.int p2), .val (.int p3), .unset, .unset, .unset, .unset, .unset, .unset, .unset] [(.int (24 : Int32)), (.ref b36), (.ref b36)])) (fun _ q => XS.bipush X.here X.hx rfl (hb hby at_135) q) ?_
  refine Goes.by (g' := (mkF m 139 #[.val (.long p0), .second, .val (.int p1), .val (.int p2), .val (.int p3), .unset, .unset, .unset, .unset, .unset, .unset, .unset] [(.int (44 : Int32)), (.int (24 : Int32)), (.ref b36), (.ref b36)])) (fun _ q => XS.bipush X.here X.hx rfl (hb hby at_137) q) ?_
  have Ao := A_b36
  refine X.bastoreB A_b36 (i := 24) (by decide) (by decide) ga_b36 (hb hby at_139) (fun T h62 X W => ?_)
  have K0 := K0.wr W (Or.inr gz_b36)
  have E_b36 := E_b36.wr W
  have A_b36 := PArr.set A_b36 W
  have A_b36 := iniS Ao (by decide) W
  clear Ao
  show Goes _ _ _ _ _ _ _ _ T (mkF m 140 #[.val (.long p0), .second, .val (.int p1), .val (.int p2), .val (.int p3), .unset, .unset, .unset, .unset, .unset, .unset, .unset] [(.ref b36)])
  refine Goes.by (g' := (mkF m 141 #[.val (.long p0), .second, .val (.int p1), .val (.int p2), .val (.int p3), .unset, .unset, .unset, .unset, .unset, .unset, .unset] [(.ref b36), (.ref b36)])) (fun _ q => XS.dup X.here X.hx rfl (hb hby at_140) rfl rfl q) ?_
  refine Goes.by (g' := (mkF m 143 #[.val (.long p0), .second, .val (.int p1), .val (.int p2), .val (.int p3), .unset, .unset, .unset, .unset, .unset, .unset, .unset] [(.int (25 : Int32)), (.ref b36), (.ref b36)])) (fun _ q => XS.bipush X.here X.hx rfl (hb hby at_141) q) ?_
  refine Goes.by (g' := (mkF m 145 #[.val (.long p0), .second, .val (.int p1), .val (.int p2), .val (.int p3), .unset, .unset, .unset, .unset, .unset, .unset, .unset] [(.int (44 : Int32)), (.int (25 : Int32)), (.ref b36), (.ref b36)])) (fun _ q => XS.bipush X.here X.hx rfl (hb hby at_143) q) ?_
  have Ao := A_b36
  refine X.bastoreB A_b36 (i := 25) (by decide) (by decide) ga_b36 (hb hby at_145) (fun T h63 X W => ?_)
  have K0 := K0.wr W (Or.inr gz_b36)
  have E_b36 := E_b36.wr W
  have A_b36 := PArr.set A_b36 W
  have A_b36 := iniS Ao (by decide) W
  clear Ao
  show Goes _ _ _ _ _ _ _ _ T (mkF m 146 #[.val (.long p0), .second, .val (.int p1), .val (.int p2), .val (.int p3), .unset, .unset, .unset, .unset, .unset, .unset, .unset] [(.ref b36)])
  refine Goes.by (g' := (mkF m 147 #[.val (.long p0), .second, .val (.int p1), .val (.int p2), .val (.int p3), .unset, .unset, .unset, .unset, .unset, .unset, .unset] [(.ref b36), (.ref b36)])) (fun _ q => XS.dup X.here X.hx rfl (hb hby at_146) rfl rfl q) ?_
  refine Goes.by (g' := (mkF m 149 #[.val (.long p0), .second, .val (.int p1), .val (.int p2), .val (.int p3), .unset, .unset, .unset, .unset, .unset, .unset, .unset] [(.int (26 : Int32)), (.ref b36), (.ref b36)])) (fun _ q => XS.bipush X.here X.hx rfl (hb hby at_147) q) ?_
  refine Goes.by (g' := (mkF m 151 #[.val (.long p0), .second, .val (.int p1), .val (.int p2), .val (.int p3), .unset, .unset, .unset, .unset, .unset, .unset, .unset] [(.int (44 : Int32)), (.int (26 : Int32)), (.ref b36), (.ref b36)])) (fun _ q => XS.bipush X.here X.hx rfl (hb hby at_149) q) ?_
  have Ao := A_b36
  refine X.bastoreB A_b36 (i := 26) (by decide) (by decide) ga_b36 (hb hby at_151) (fun T h64 X W => ?_)
  have K0 := K0.wr W (Or.inr gz_b36)
  have E_b36 := E_b36.wr W
  have A_b36 := PArr.set A_b36 W
  have A_b36 := iniS Ao (by decide) W
  clear Ao
  show Goes _ _ _ _ _ _ _ _ T (mkF m 152 #[.val (.long p0), .second, .val (.int p1), .val (.int p2), .val (.int p3), .unset, .unset, .unset, .unset, .unset, .unset, .unset] [(.ref b36)])
  refine Goes.by (g' := (mkF m 153 #[.val (.long p0), .second, .val (.int p1), .val (.int p2), .val (.int p3), .unset, .unset, .unset, .unset, .unset, .unset, .unset] [(.ref b36), (.ref b36)])) (fun _ q => XS.dup X.here X.hx rfl (hb hby at_152) rfl rfl q) ?_
  refine Goes.by (g' := (mkF m 155 #[.val (.long p0), .second, .val (.int p1), .val (.int p2), .val (.int p3), .unset, .unset, .unset, .unset, .unset, .unset, .unset] [(.int (27 : Int32)), (.ref b36), (.ref b36)])) (fun _ q => XS.bipush X.here X.hx rfl (hb hby at_153) q) ?_
  refine Goes.by (g' := (mkF m 157 #[.val (.long p0), .second, .val (.int p1), .val (.int p2), .val (.int p3), .unset, .unset, .unset, .unset, .unset, .unset, .unset] [(.int (44 : Int32)), (.int (27 : Int32)), (.ref b36), (.ref b36)])) (fun _ q => XS.bipush X.here X.hx rfl (hb hby at_155) q) ?_
  have Ao := A_b36
  refine X.bastoreB A_b36 (i := 27) (by decide) (by decide) ga_b36 (hb hby at_157) (fun T h65 X W => ?_)
  have K0 := K0.wr W (Or.inr gz_b36)
  have E_b36 := E_b36.wr W
  have A_b36 := PArr.set A_b36 W
  have A_b36 := iniS Ao (by decide) W
  clear Ao
  show Goes _ _ _ _ _ _ _ _ T (mkF m 158 #[.val (.long p0), .second, .val (.int p1), .val (.int p2), .val (.int p3), .unset, .unset, .unset, .unset, .unset, .unset, .unset] [(.ref b36)])
  refine Goes.by (g' := (mkF m 159 #[.val (.long p0), .second, .val (.int p1), .val (.int p2), .val (.int p3), .unset, .unset, .unset, .unset, .unset, .unset, .unset] [(.ref b36), (.ref b36)])) (fun _ q => XS.dup X.here X.hx rfl (hb hby at_158) rfl rfl q) ?_
  refine Goes.by (g' := (mkF m 161 #[.val (.long p0), .second, .val (.int p1), .val (.int p2), .val (.int p3), .unset, .unset, .unset, .unset, .unset, .unset, .unset] [(.int (28 : Int32)), (.ref b36), (.ref b36)])) (fun _ q => XS.bipush X.here X.hx rfl (hb hby at_159) q) ?_
  refine Goes.by (g' := (mkF m 163 #[.val (.long p0), .second, .val (.int p1), .val (.int p2), .val (.int p3), .unset, .unset, .unset, .unset, .unset, .unset, .unset] [(.int (44 : Int32)), (.int (28 : Int32)), (.ref b36), (.ref b36)])) (fun _ q => XS.bipush X.here X.hx rfl (hb hby at_161) q) ?_
  have Ao := A_b36
  refine X.bastoreB A_b36 (i := 28) (by decide) (by decide) ga_b36 (hb hby at_163) (fun T h66 X W => ?_)
  have K0 := K0.wr W (Or.inr gz_b36)
  have E_b36 := E_b36.wr W
  have A_b36 := PArr.set A_b36 W
  have A_b36 := iniS Ao (by decide) W
  clear Ao
  show Goes _ _ _ _ _ _ _ _ T (mkF m 164 #[.val (.long p0), .second, .val (.int p1), .val (.int p2), .val (.int p3), .unset, .unset, .unset, .unset, .unset, .unset, .unset] [(.ref b36)])
  refine Goes.by (g' := (mkF m 165 #[.val (.long p0), .second, .val (.int p1), .val (.int p2), .val (.int p3), .unset, .unset, .unset, .unset, .unset, .unset, .unset] [(.ref b36), (.ref b36)])) (fun _ q => XS.dup X.here X.hx rfl (hb hby at_164) rfl rfl q) ?_
  refine Goes.by (g' := (mkF m 167 #[.val (.long p0), .second, .val (.int p1), .val (.int p2), .val (.int p3), .unset, .unset, .unset, .unset, .unset, .unset, .unset] [(.int (29 : Int32)), (.ref b36), (.ref b36)])) (fun _ q => XS.bipush X.here X.hx rfl (hb hby at_165) q) ?_
  refine Goes.by (g' := (mkF m 169 #[.val (.long p0), .second, .val (.int p1), .val (.int p2), .val (.int p3), .unset, .unset, .unset, .unset, .unset, .unset, .unset] [(.int (44 : Int32)), (.int (29 : Int32)), (.ref b36), (.ref b36)])) (fun _ q => XS.bipush X.here X.hx rfl (hb hby at_167) q) ?_
  have Ao := A_b36
  refine X.bastoreB A_b36 (i := 29) (by decide) (by decide) ga_b36 (hb hby at_169) (fun T h67 X W => ?_)
  have K0 := K0.wr W (Or.inr gz_b36)
  have E_b36 := E_b36.wr W
  have A_b36 := PArr.set A_b36 W
  have A_b36 := iniS Ao (by decide) W
  clear Ao
  show Goes _ _ _ _ _ _ _ _ T (mkF m 170 #[.val (.long p0), .second, .val (.int p1), .val (.int p2), .val (.int p3), .unset, .unset, .unset, .unset, .unset, .unset, .unset] [(.ref b36)])
  refine Goes.by (g' := (mkF m 171 #[.val (.long p0), .second, .val (.int p1), .val (.int p2), .val (.int p3), .unset, .unset, .unset, .unset, .unset, .unset, .unset] [(.ref b36), (.ref b36)])) (fun _ q => XS.dup X.here X.hx rfl (hb hby at_170) rfl rfl q) ?_
  refine Goes.by (g' := (mkF m 173 #[.val (.long p0), .second, .val (.int p1), .val (.int p2), .val (.int p3), .unset, .unset, .unset, .unset, .unset, .unset, .unset] [(.int (30 : Int32)), (.ref b36), (.ref b36)])) (fun _ q => XS.bipush X.here X.hx rfl (hb hby at_171) q) ?_
  refine Goes.by (g' := (mkF m 175 #[.val (.long p0), .second, .val (.int p1), .val (.int p2), .val (.int p3), .unset, .unset, .unset, .unset, .unset, .unset, .unset] [(.int (44 : Int32)), (.int (30 : Int32)), (.ref b36), (.ref b36)])) (fun _ q => XS.bipush X.here X.hx rfl (hb hby at_173) q) ?_
  have Ao := A_b36
  refine X.bastoreB A_b36 (i := 30) (by decide) (by decide) ga_b36 (hb hby at_175) (fun T h68 X W => ?_)
  have K0 := K0.wr W (Or.inr gz_b36)
  have E_b36 := E_b36.wr W
  have A_b36 := PArr.set A_b36 W
  have A_b36 := iniS Ao (by decide) W
  clear Ao
  show Goes _ _ _ _ _ _ _ _ T (mkF m 176 #[.val (.long p0), .second, .val (.int p1), .val (.int p2), .val (.int p3), .unset, .unset, .unset, .unset, .unset, .unset, .unset] [(.ref b36)])
  refine Goes.by (g' := (mkF m 177 #[.val (.long p0), .second, .val (.int p1), .val (.int p2), .val (.int p3), .unset, .unset, .unset, .unset, .unset, .unset, .unset] [(.ref b36), (.ref b36)])) (fun _ q => XS.dup X.here X.hx rfl (hb hby at_176) rfl rfl q) ?_
  refine Goes.by (g' := (mkF m 179 #[.val (.long p0), .second, .val (.int p1), .val (.int p2), .val (.int p3), .unset, .unset, .unset, .unset, .unset, .unset, .unset] [(.int (31 : Int32)), (.ref b36), (.ref b36)])) (fun _ q => XS.bipush X.here X.hx rfl (hb hby at_177) q) ?_
  refine Goes.by (g' := (mkF m 181 #[.val (.long p0), .second, .val (.int p1), .val (.int p2), .val (.int p3), .unset, .unset, .unset, .unset, .unset, .unset, .unset] [(.int (44 : Int32)), (.int (31 : Int32)), (.ref b36), (.ref b36)])) (fun _ q => XS.bipush X.here X.hx rfl (hb hby at_179) q) ?_
  have Ao := A_b36
  refine X.bastoreB A_b36 (i := 31) (by decide) (by decide) ga_b36 (hb hby at_181) (fun T h69 X W => ?_)
  have K0 := K0.wr W (Or.inr gz_b36)
  have E_b36 := E_b36.wr W
  have A_b36 := PArr.set A_b36 W
  have A_b36 := iniS Ao (by decide) W
  clear Ao
  show Goes _ _ _ _ _ _ _ _ T (mkF m 182 #[.val (.long p0), .second, .val (.int p1), .val (.int p2), .val (.int p3), .unset, .unset, .unset, .unset, .unset, .unset, .unset] [(.ref b36)])
  have A_b36 : PArr Z h69 b36 .byte 32 (fun j => .int ((gL []) j)) := PArr.congr A_b36 (fun j hj => by
    simp only [ini, gL]
    by_cases q : j < 8
    · rw [if_neg (by omega), if_pos q]; simp
    · rw [if_pos (by omega), if_neg q])
  refine Goes.by (g' := (mkF m 184 #[.val (.long p0), .second, .val (.int p1), .val (.int p2), .val (.int p3), .val (.ref b36), .unset, .unset, .unset, .unset, .unset, .unset] [])) (fun _ q => XS.astore X.here X.hx rfl (hb hby at_182) rfl rfl (l' := #[.val (.long p0), .second, .val (.int p1), .val (.int p2), .val (.int p3), .val (.ref b36), .unset, .unset, .unset, .unset, .unset, .unset]) rfl q) ?_
  refine Goes.by (g' := (mkF m 186 #[.val (.long p0), .second, .val (.int p1), .val (.int p2), .val (.int p3), .val (.ref b36), .unset, .unset, .unset, .unset, .unset, .unset] [(.ref b36)])) (fun _ q => XS.aload X.here X.hx rfl (hb hby at_184) rfl rfl q) ?_
  refine Goes.by (g' := (mkF m 187 #[.val (.long p0), .second, .val (.int p1), .val (.int p2), .val (.int p3), .val (.ref b36), .unset, .unset, .unset, .unset, .unset, .unset] [(.int (0 : Int32)), (.ref b36)])) (fun _ q => XS.iconst X.here X.hx rfl (hb hby at_186) q) ?_
  refine Goes.by (g' := (mkF m 188 #[.val (.long p0), .second, .val (.int p1), .val (.int p2), .val (.int p3), .val (.ref b36), .unset, .unset, .unset, .unset, .unset, .unset] [(.long p0), (.int (0 : Int32)), (.ref b36)])) (fun _ q => XS.lloadN X.here X.hx rfl (hb hby at_187) rfl q) ?_
  refine Goes.by (g' := (mkF m 189 #[.val (.long p0), .second, .val (.int p1), .val (.int p2), .val (.int p3), .val (.ref b36), .unset, .unset, .unset, .unset, .unset, .unset] [(.int p1), (.long p0), (.int (0 : Int32)), (.ref b36)])) (fun _ q => XS.iloadN X.here X.hx rfl (hb hby at_188) rfl q) ?_
  refine Goes.by (g' := (mkF m 190 #[.val (.long p0), .second, .val (.int p1), .val (.int p2), .val (.int p3), .val (.ref b36), .unset, .unset, .unset, .unset, .unset, .unset] [(.int (0 : Int32)), (.int p1), (.long p0), (.int (0 : Int32)), (.ref b36)])) (fun _ q => XS.iconst X.here X.hx rfl (hb hby at_189) q) ?_
  have X_o := X
  refine X.callS (hw _ (List.mem_of_getElem? (i := 1) rfl)) (hw _ (List.mem_of_getElem? (i := 2) rfl)) (hw _ (List.mem_of_getElem? (i := 3) rfl)) (hw _ (List.mem_of_getElem? (i := 4) rfl)) (by decide) pd_1787934452 (argsL := [(.long p0), (.int p1), (.int (0 : Int32))]) rfl (rmPk l Z a0 hw n0 h69 X.n0le p0 p1 (0 : Int32)) (by rw [hml]; rfl) rfl (by decide) (leB rfl) (hb hby at_190) (by decide) (by decide) (fun T h70 v X hQ => ?_)
  obtain ⟨r71, rfl, hh⟩ := hQ
  rw [hh] at X
  clear hh
  show Goes _ _ _ _ _ _ _ _ T (mkF m 193 #[.val (.long p0), .second, .val (.int p1), .val (.int p2), .val (.int p3), .val (.ref b36), .unset, .unset, .unset, .unset, .unset, .unset] [(.int r71), (.int (0 : Int32)), (.ref b36)])
  have Ao := A_b36
  refine X.bastoreB A_b36 (i := 0) (by decide) (by decide) ga_b36 (hb hby at_193) (fun T h72 X W => ?_)
  have K0 := K0.wr W (Or.inr gz_b36)
  have E_b36 := E_b36.wr W
  have A_b36 := PArr.set A_b36 W
  have A_b36 : PArr Z h72 b36 .byte 32 (fun j => .int ((gL [nar .byte r71]) j)) := gS (L := []) Ao (by simp) W
  clear Ao
  show Goes _ _ _ _ _ _ _ _ T (mkF m 194 #[.val (.long p0), .second, .val (.int p1), .val (.int p2), .val (.int p3), .val (.ref b36), .unset, .unset, .unset, .unset, .unset, .unset] [])
  refine Goes.by (g' := (mkF m 196 #[.val (.long p0), .second, .val (.int p1), .val (.int p2), .val (.int p3), .val (.ref b36), .unset, .unset, .unset, .unset, .unset, .unset] [(.ref b36)])) (fun _ q => XS.aload X.here X.hx rfl (hb hby at_194) rfl rfl q) ?_
  refine Goes.by (g' := (mkF m 197 #[.val (.long p0), .second, .val (.int p1), .val (.int p2), .val (.int p3), .val (.ref b36), .unset, .unset, .unset, .unset, .unset, .unset] [(.int (1 : Int32)), (.ref b36)])) (fun _ q => XS.iconst X.here X.hx rfl (hb hby at_196) q) ?_
  refine Goes.by (g' := (mkF m 198 #[.val (.long p0), .second, .val (.int p1), .val (.int p2), .val (.int p3), .val (.ref b36), .unset, .unset, .unset, .unset, .unset, .unset] [(.long p0), (.int (1 : Int32)), (.ref b36)])) (fun _ q => XS.lloadN X.here X.hx rfl (hb hby at_197) rfl q) ?_
  refine Goes.by (g' := (mkF m 199 #[.val (.long p0), .second, .val (.int p1), .val (.int p2), .val (.int p3), .val (.ref b36), .unset, .unset, .unset, .unset, .unset, .unset] [(.int p1), (.long p0), (.int (1 : Int32)), (.ref b36)])) (fun _ q => XS.iloadN X.here X.hx rfl (hb hby at_198) rfl q) ?_
  refine Goes.by (g' := (mkF m 200 #[.val (.long p0), .second, .val (.int p1), .val (.int p2), .val (.int p3), .val (.ref b36), .unset, .unset, .unset, .unset, .unset, .unset] [(.int (1 : Int32)), (.int p1), (.long p0), (.int (1 : Int32)), (.ref b36)])) (fun _ q => XS.iconst X.here X.hx rfl (hb hby at_199) q) ?_
  have X_o := X
  refine X.callS (hw _ (List.mem_of_getElem? (i := 1) rfl)) (hw _ (List.mem_of_getElem? (i := 2) rfl)) (hw _ (List.mem_of_getElem? (i := 3) rfl)) (hw _ (List.mem_of_getElem? (i := 4) rfl)) (by decide) pd_1787934452 (argsL := [(.long p0), (.int p1), (.int (1 : Int32))]) rfl (rmPk l Z a0 hw n0 h72 X.n0le p0 p1 (1 : Int32)) (by rw [hml]; rfl) rfl (by decide) (leB rfl) (hb hby at_200) (by decide) (by decide) (fun T h73 v X hQ => ?_)
  obtain ⟨r74, rfl, hh⟩ := hQ
  rw [hh] at X
  clear hh
  show Goes _ _ _ _ _ _ _ _ T (mkF m 203 #[.val (.long p0), .second, .val (.int p1), .val (.int p2), .val (.int p3), .val (.ref b36), .unset, .unset, .unset, .unset, .unset, .unset] [(.int r74), (.int (1 : Int32)), (.ref b36)])
  have Ao := A_b36
  refine X.bastoreB A_b36 (i := 1) (by decide) (by decide) ga_b36 (hb hby at_203) (fun T h75 X W => ?_)
  have K0 := K0.wr W (Or.inr gz_b36)
  have E_b36 := E_b36.wr W
  have A_b36 := PArr.set A_b36 W
  have A_b36 : PArr Z h75 b36 .byte 32 (fun j => .int ((gL [nar .byte r71, nar .byte r74]) j)) := gS (L := [nar .byte r71]) Ao (by simp) W
  clear Ao
  show Goes _ _ _ _ _ _ _ _ T (mkF m 204 #[.val (.long p0), .second, .val (.int p1), .val (.int p2), .val (.int p3), .val (.ref b36), .unset, .unset, .unset, .unset, .unset, .unset] [])
  refine Goes.by (g' := (mkF m 206 #[.val (.long p0), .second, .val (.int p1), .val (.int p2), .val (.int p3), .val (.ref b36), .unset, .unset, .unset, .unset, .unset, .unset] [(.ref b36)])) (fun _ q => XS.aload X.here X.hx rfl (hb hby at_204) rfl rfl q) ?_
  refine Goes.by (g' := (mkF m 207 #[.val (.long p0), .second, .val (.int p1), .val (.int p2), .val (.int p3), .val (.ref b36), .unset, .unset, .unset, .unset, .unset, .unset] [(.int (2 : Int32)), (.ref b36)])) (fun _ q => XS.iconst X.here X.hx rfl (hb hby at_206) q) ?_
  refine Goes.by (g' := (mkF m 208 #[.val (.long p0), .second, .val (.int p1), .val (.int p2), .val (.int p3), .val (.ref b36), .unset, .unset, .unset, .unset, .unset, .unset] [(.long p0), (.int (2 : Int32)), (.ref b36)])) (fun _ q => XS.lloadN X.here X.hx rfl (hb hby at_207) rfl q) ?_
  refine Goes.by (g' := (mkF m 209 #[.val (.long p0), .second, .val (.int p1), .val (.int p2), .val (.int p3), .val (.ref b36), .unset, .unset, .unset, .unset, .unset, .unset] [(.int p1), (.long p0), (.int (2 : Int32)), (.ref b36)])) (fun _ q => XS.iloadN X.here X.hx rfl (hb hby at_208) rfl q) ?_
  refine Goes.by (g' := (mkF m 210 #[.val (.long p0), .second, .val (.int p1), .val (.int p2), .val (.int p3), .val (.ref b36), .unset, .unset, .unset, .unset, .unset, .unset] [(.int (2 : Int32)), (.int p1), (.long p0), (.int (2 : Int32)), (.ref b36)])) (fun _ q => XS.iconst X.here X.hx rfl (hb hby at_209) q) ?_
  have X_o := X
  refine X.callS (hw _ (List.mem_of_getElem? (i := 1) rfl)) (hw _ (List.mem_of_getElem? (i := 2) rfl)) (hw _ (List.mem_of_getElem? (i := 3) rfl)) (hw _ (List.mem_of_getElem? (i := 4) rfl)) (by decide) pd_1787934452 (argsL := [(.long p0), (.int p1), (.int (2 : Int32))]) rfl (rmPk l Z a0 hw n0 h75 X.n0le p0 p1 (2 : Int32)) (by rw [hml]; rfl) rfl (by decide) (leB rfl) (hb hby at_210) (by decide) (by decide) (fun T h76 v X hQ => ?_)
  obtain ⟨r77, rfl, hh⟩ := hQ
  rw [hh] at X
  clear hh
  show Goes _ _ _ _ _ _ _ _ T (mkF m 213 #[.val (.long p0), .second, .val (.int p1), .val (.int p2), .val (.int p3), .val (.ref b36), .unset, .unset, .unset, .unset, .unset, .unset] [(.int r77), (.int (2 : Int32)), (.ref b36)])
  have Ao := A_b36
  refine X.bastoreB A_b36 (i := 2) (by decide) (by decide) ga_b36 (hb hby at_213) (fun T h78 X W => ?_)
  have K0 := K0.wr W (Or.inr gz_b36)
  have E_b36 := E_b36.wr W
  have A_b36 := PArr.set A_b36 W
  have A_b36 : PArr Z h78 b36 .byte 32 (fun j => .int ((gL [nar .byte r71, nar .byte r74, nar .byte r77]) j)) := gS (L := [nar .byte r71, nar .byte r74]) Ao (by simp) W
  clear Ao
  show Goes _ _ _ _ _ _ _ _ T (mkF m 214 #[.val (.long p0), .second, .val (.int p1), .val (.int p2), .val (.int p3), .val (.ref b36), .unset, .unset, .unset, .unset, .unset, .unset] [])
  refine Goes.by (g' := (mkF m 216 #[.val (.long p0), .second, .val (.int p1), .val (.int p2), .val (.int p3), .val (.ref b36), .unset, .unset, .unset, .unset, .unset, .unset] [(.ref b36)])) (fun _ q => XS.aload X.here X.hx rfl (hb hby at_214) rfl rfl q) ?_
  refine Goes.by (g' := (mkF m 217 #[.val (.long p0), .second, .val (.int p1), .val (.int p2), .val (.int p3), .val (.ref b36), .unset, .unset, .unset, .unset, .unset, .unset] [(.int (3 : Int32)), (.ref b36)])) (fun _ q => XS.iconst X.here X.hx rfl (hb hby at_216) q) ?_
  refine Goes.by (g' := (mkF m 218 #[.val (.long p0), .second, .val (.int p1), .val (.int p2), .val (.int p3), .val (.ref b36), .unset, .unset, .unset, .unset, .unset, .unset] [(.long p0), (.int (3 : Int32)), (.ref b36)])) (fun _ q => XS.lloadN X.here X.hx rfl (hb hby at_217) rfl q) ?_
  refine Goes.by (g' := (mkF m 219 #[.val (.long p0), .second, .val (.int p1), .val (.int p2), .val (.int p3), .val (.ref b36), .unset, .unset, .unset, .unset, .unset, .unset] [(.int p1), (.long p0), (.int (3 : Int32)), (.ref b36)])) (fun _ q => XS.iloadN X.here X.hx rfl (hb hby at_218) rfl q) ?_
  refine Goes.by (g' := (mkF m 220 #[.val (.long p0), .second, .val (.int p1), .val (.int p2), .val (.int p3), .val (.ref b36), .unset, .unset, .unset, .unset, .unset, .unset] [(.int (3 : Int32)), (.int p1), (.long p0), (.int (3 : Int32)), (.ref b36)])) (fun _ q => XS.iconst X.here X.hx rfl (hb hby at_219) q) ?_
  have X_o := X
  refine X.callS (hw _ (List.mem_of_getElem? (i := 1) rfl)) (hw _ (List.mem_of_getElem? (i := 2) rfl)) (hw _ (List.mem_of_getElem? (i := 3) rfl)) (hw _ (List.mem_of_getElem? (i := 4) rfl)) (by decide) pd_1787934452 (argsL := [(.long p0), (.int p1), (.int (3 : Int32))]) rfl (rmPk l Z a0 hw n0 h78 X.n0le p0 p1 (3 : Int32)) (by rw [hml]; rfl) rfl (by decide) (leB rfl) (hb hby at_220) (by decide) (by decide) (fun T h79 v X hQ => ?_)
  obtain ⟨r80, rfl, hh⟩ := hQ
  rw [hh] at X
  clear hh
  show Goes _ _ _ _ _ _ _ _ T (mkF m 223 #[.val (.long p0), .second, .val (.int p1), .val (.int p2), .val (.int p3), .val (.ref b36), .unset, .unset, .unset, .unset, .unset, .unset] [(.int r80), (.int (3 : Int32)), (.ref b36)])
  have Ao := A_b36
  refine X.bastoreB A_b36 (i := 3) (by decide) (by decide) ga_b36 (hb hby at_223) (fun T h81 X W => ?_)
  have K0 := K0.wr W (Or.inr gz_b36)
  have E_b36 := E_b36.wr W
  have A_b36 := PArr.set A_b36 W
  have A_b36 : PArr Z h81 b36 .byte 32 (fun j => .int ((gL [nar .byte r71, nar .byte r74, nar .byte r77, nar .byte r80]) j)) := gS (L := [nar .byte r71, nar .byte r74, nar .byte r77]) Ao (by simp) W
  clear Ao
  show Goes _ _ _ _ _ _ _ _ T (mkF m 224 #[.val (.long p0), .second, .val (.int p1), .val (.int p2), .val (.int p3), .val (.ref b36), .unset, .unset, .unset, .unset, .unset, .unset] [])
  refine Goes.by (g' := (mkF m 226 #[.val (.long p0), .second, .val (.int p1), .val (.int p2), .val (.int p3), .val (.ref b36), .unset, .unset, .unset, .unset, .unset, .unset] [(.ref b36)])) (fun _ q => XS.aload X.here X.hx rfl (hb hby at_224) rfl rfl q) ?_
  refine Goes.by (g' := (mkF m 227 #[.val (.long p0), .second, .val (.int p1), .val (.int p2), .val (.int p3), .val (.ref b36), .unset, .unset, .unset, .unset, .unset, .unset] [(.int (4 : Int32)), (.ref b36)])) (fun _ q => XS.iconst X.here X.hx rfl (hb hby at_226) q) ?_
  refine Goes.by (g' := (mkF m 228 #[.val (.long p0), .second, .val (.int p1), .val (.int p2), .val (.int p3), .val (.ref b36), .unset, .unset, .unset, .unset, .unset, .unset] [(.long p0), (.int (4 : Int32)), (.ref b36)])) (fun _ q => XS.lloadN X.here X.hx rfl (hb hby at_227) rfl q) ?_
  refine Goes.by (g' := (mkF m 229 #[.val (.long p0), .second, .val (.int p1), .val (.int p2), .val (.int p3), .val (.ref b36), .unset, .unset, .unset, .unset, .unset, .unset] [(.int p1), (.long p0), (.int (4 : Int32)), (.ref b36)])) (fun _ q => XS.iloadN X.here X.hx rfl (hb hby at_228) rfl q) ?_
  refine Goes.by (g' := (mkF m 230 #[.val (.long p0), .second, .val (.int p1), .val (.int p2), .val (.int p3), .val (.ref b36), .unset, .unset, .unset, .unset, .unset, .unset] [(.int (4 : Int32)), (.int p1), (.long p0), (.int (4 : Int32)), (.ref b36)])) (fun _ q => XS.iconst X.here X.hx rfl (hb hby at_229) q) ?_
  have X_o := X
  refine X.callS (hw _ (List.mem_of_getElem? (i := 1) rfl)) (hw _ (List.mem_of_getElem? (i := 2) rfl)) (hw _ (List.mem_of_getElem? (i := 3) rfl)) (hw _ (List.mem_of_getElem? (i := 4) rfl)) (by decide) pd_1787934452 (argsL := [(.long p0), (.int p1), (.int (4 : Int32))]) rfl (rmPk l Z a0 hw n0 h81 X.n0le p0 p1 (4 : Int32)) (by rw [hml]; rfl) rfl (by decide) (leB rfl) (hb hby at_230) (by decide) (by decide) (fun T h82 v X hQ => ?_)
  obtain ⟨r83, rfl, hh⟩ := hQ
  rw [hh] at X
  clear hh
  show Goes _ _ _ _ _ _ _ _ T (mkF m 233 #[.val (.long p0), .second, .val (.int p1), .val (.int p2), .val (.int p3), .val (.ref b36), .unset, .unset, .unset, .unset, .unset, .unset] [(.int r83), (.int (4 : Int32)), (.ref b36)])
  have Ao := A_b36
  refine X.bastoreB A_b36 (i := 4) (by decide) (by decide) ga_b36 (hb hby at_233) (fun T h84 X W => ?_)
  have K0 := K0.wr W (Or.inr gz_b36)
  have E_b36 := E_b36.wr W
  have A_b36 := PArr.set A_b36 W
  have A_b36 : PArr Z h84 b36 .byte 32 (fun j => .int ((gL [nar .byte r71, nar .byte r74, nar .byte r77, nar .byte r80, nar .byte r83]) j)) := gS (L := [nar .byte r71, nar .byte r74, nar .byte r77, nar .byte r80]) Ao (by simp) W
  clear Ao
  show Goes _ _ _ _ _ _ _ _ T (mkF m 234 #[.val (.long p0), .second, .val (.int p1), .val (.int p2), .val (.int p3), .val (.ref b36), .unset, .unset, .unset, .unset, .unset, .unset] [])
  refine Goes.by (g' := (mkF m 236 #[.val (.long p0), .second, .val (.int p1), .val (.int p2), .val (.int p3), .val (.ref b36), .unset, .unset, .unset, .unset, .unset, .unset] [(.ref b36)])) (fun _ q => XS.aload X.here X.hx rfl (hb hby at_234) rfl rfl q) ?_
  refine Goes.by (g' := (mkF m 237 #[.val (.long p0), .second, .val (.int p1), .val (.int p2), .val (.int p3), .val (.ref b36), .unset, .unset, .unset, .unset, .unset, .unset] [(.int (5 : Int32)), (.ref b36)])) (fun _ q => XS.iconst X.here X.hx rfl (hb hby at_236) q) ?_
  refine Goes.by (g' := (mkF m 238 #[.val (.long p0), .second, .val (.int p1), .val (.int p2), .val (.int p3), .val (.ref b36), .unset, .unset, .unset, .unset, .unset, .unset] [(.long p0), (.int (5 : Int32)), (.ref b36)])) (fun _ q => XS.lloadN X.here X.hx rfl (hb hby at_237) rfl q) ?_
  refine Goes.by (g' := (mkF m 239 #[.val (.long p0), .second, .val (.int p1), .val (.int p2), .val (.int p3), .val (.ref b36), .unset, .unset, .unset, .unset, .unset, .unset] [(.int p1), (.long p0), (.int (5 : Int32)), (.ref b36)])) (fun _ q => XS.iloadN X.here X.hx rfl (hb hby at_238) rfl q) ?_
  refine Goes.by (g' := (mkF m 240 #[.val (.long p0), .second, .val (.int p1), .val (.int p2), .val (.int p3), .val (.ref b36), .unset, .unset, .unset, .unset, .unset, .unset] [(.int (5 : Int32)), (.int p1), (.long p0), (.int (5 : Int32)), (.ref b36)])) (fun _ q => XS.iconst X.here X.hx rfl (hb hby at_239) q) ?_
  have X_o := X
  refine X.callS (hw _ (List.mem_of_getElem? (i := 1) rfl)) (hw _ (List.mem_of_getElem? (i := 2) rfl)) (hw _ (List.mem_of_getElem? (i := 3) rfl)) (hw _ (List.mem_of_getElem? (i := 4) rfl)) (by decide) pd_1787934452 (argsL := [(.long p0), (.int p1), (.int (5 : Int32))]) rfl (rmPk l Z a0 hw n0 h84 X.n0le p0 p1 (5 : Int32)) (by rw [hml]; rfl) rfl (by decide) (leB rfl) (hb hby at_240) (by decide) (by decide) (fun T h85 v X hQ => ?_)
  obtain ⟨r86, rfl, hh⟩ := hQ
  rw [hh] at X
  clear hh
  show Goes _ _ _ _ _ _ _ _ T (mkF m 243 #[.val (.long p0), .second, .val (.int p1), .val (.int p2), .val (.int p3), .val (.ref b36), .unset, .unset, .unset, .unset, .unset, .unset] [(.int r86), (.int (5 : Int32)), (.ref b36)])
  have Ao := A_b36
  refine X.bastoreB A_b36 (i := 5) (by decide) (by decide) ga_b36 (hb hby at_243) (fun T h87 X W => ?_)
  have K0 := K0.wr W (Or.inr gz_b36)
  have E_b36 := E_b36.wr W
  have A_b36 := PArr.set A_b36 W
  have A_b36 : PArr Z h87 b36 .byte 32 (fun j => .int ((gL [nar .byte r71, nar .byte r74, nar .byte r77, nar .byte r80, nar .byte r83, nar .byte r86]) j)) := gS (L := [nar .byte r71, nar .byte r74, nar .byte r77, nar .byte r80, nar .byte r83]) Ao (by simp) W
  clear Ao
  show Goes _ _ _ _ _ _ _ _ T (mkF m 244 #[.val (.long p0), .second, .val (.int p1), .val (.int p2), .val (.int p3), .val (.ref b36), .unset, .unset, .unset, .unset, .unset, .unset] [])
  refine Goes.by (g' := (mkF m 246 #[.val (.long p0), .second, .val (.int p1), .val (.int p2), .val (.int p3), .val (.ref b36), .unset, .unset, .unset, .unset, .unset, .unset] [(.ref b36)])) (fun _ q => XS.aload X.here X.hx rfl (hb hby at_244) rfl rfl q) ?_
  refine Goes.by (g' := (mkF m 248 #[.val (.long p0), .second, .val (.int p1), .val (.int p2), .val (.int p3), .val (.ref b36), .unset, .unset, .unset, .unset, .unset, .unset] [(.int (6 : Int32)), (.ref b36)])) (fun _ q => XS.bipush X.here X.hx rfl (hb hby at_246) q) ?_
  refine Goes.by (g' := (mkF m 249 #[.val (.long p0), .second, .val (.int p1), .val (.int p2), .val (.int p3), .val (.ref b36), .unset, .unset, .unset, .unset, .unset, .unset] [(.long p0), (.int (6 : Int32)), (.ref b36)])) (fun _ q => XS.lloadN X.here X.hx rfl (hb hby at_248) rfl q) ?_
  refine Goes.by (g' := (mkF m 250 #[.val (.long p0), .second, .val (.int p1), .val (.int p2), .val (.int p3), .val (.ref b36), .unset, .unset, .unset, .unset, .unset, .unset] [(.int p1), (.long p0), (.int (6 : Int32)), (.ref b36)])) (fun _ q => XS.iloadN X.here X.hx rfl (hb hby at_249) rfl q) ?_
  refine Goes.by (g' := (mkF m 252 #[.val (.long p0), .second, .val (.int p1), .val (.int p2), .val (.int p3), .val (.ref b36), .unset, .unset, .unset, .unset, .unset, .unset] [(.int (6 : Int32)), (.int p1), (.long p0), (.int (6 : Int32)), (.ref b36)])) (fun _ q => XS.bipush X.here X.hx rfl (hb hby at_250) q) ?_
  have X_o := X
  refine X.callS (hw _ (List.mem_of_getElem? (i := 1) rfl)) (hw _ (List.mem_of_getElem? (i := 2) rfl)) (hw _ (List.mem_of_getElem? (i := 3) rfl)) (hw _ (List.mem_of_getElem? (i := 4) rfl)) (by decide) pd_1787934452 (argsL := [(.long p0), (.int p1), (.int (6 : Int32))]) rfl (rmPk l Z a0 hw n0 h87 X.n0le p0 p1 (6 : Int32)) (by rw [hml]; rfl) rfl (by decide) (leB rfl) (hb hby at_252) (by decide) (by decide) (fun T h88 v X hQ => ?_)
  obtain ⟨r89, rfl, hh⟩ := hQ
  rw [hh] at X
  clear hh
  show Goes _ _ _ _ _ _ _ _ T (mkF m 255 #[.val (.long p0), .second, .val (.int p1), .val (.int p2), .val (.int p3), .val (.ref b36), .unset, .unset, .unset, .unset, .unset, .unset] [(.int r89), (.int (6 : Int32)), (.ref b36)])
  have Ao := A_b36
  refine X.bastoreB A_b36 (i := 6) (by decide) (by decide) ga_b36 (hb hby at_255) (fun T h90 X W => ?_)
  have K0 := K0.wr W (Or.inr gz_b36)
  have E_b36 := E_b36.wr W
  have A_b36 := PArr.set A_b36 W
  have A_b36 : PArr Z h90 b36 .byte 32 (fun j => .int ((gL [nar .byte r71, nar .byte r74, nar .byte r77, nar .byte r80, nar .byte r83, nar .byte r86, nar .byte r89]) j)) := gS (L := [nar .byte r71, nar .byte r74, nar .byte r77, nar .byte r80, nar .byte r83, nar .byte r86]) Ao (by simp) W
  clear Ao
  show Goes _ _ _ _ _ _ _ _ T (mkF m 256 #[.val (.long p0), .second, .val (.int p1), .val (.int p2), .val (.int p3), .val (.ref b36), .unset, .unset, .unset, .unset, .unset, .unset] [])
  refine Goes.by (g' := (mkF m 258 #[.val (.long p0), .second, .val (.int p1), .val (.int p2), .val (.int p3), .val (.ref b36), .unset, .unset, .unset, .unset, .unset, .unset] [(.ref b36)])) (fun _ q => XS.aload X.here X.hx rfl (hb hby at_256) rfl rfl q) ?_
  refine Goes.by (g' := (mkF m 260 #[.val (.long p0), .second, .val (.int p1), .val (.int p2), .val (.int p3), .val (.ref b36), .unset, .unset, .unset, .unset, .unset, .unset] [(.int (7 : Int32)), (.ref b36)])) (fun _ q => XS.bipush X.here X.hx rfl (hb hby at_258) q) ?_
  refine Goes.by (g' := (mkF m 261 #[.val (.long p0), .second, .val (.int p1), .val (.int p2), .val (.int p3), .val (.ref b36), .unset, .unset, .unset, .unset, .unset, .unset] [(.long p0), (.int (7 : Int32)), (.ref b36)])) (fun _ q => XS.lloadN X.here X.hx rfl (hb hby at_260) rfl q) ?_
  refine Goes.by (g' := (mkF m 262 #[.val (.long p0), .second, .val (.int p1), .val (.int p2), .val (.int p3), .val (.ref b36), .unset, .unset, .unset, .unset, .unset, .unset] [(.int p1), (.long p0), (.int (7 : Int32)), (.ref b36)])) (fun _ q => XS.iloadN X.here X.hx rfl (hb hby at_261) rfl q) ?_
  refine Goes.by (g' := (mkF m 264 #[.val (.long p0), .second, .val (.int p1), .val (.int p2), .val (.int p3), .val (.ref b36), .unset, .unset, .unset, .unset, .unset, .unset] [(.int (7 : Int32)), (.int p1), (.long p0), (.int (7 : Int32)), (.ref b36)])) (fun _ q => XS.bipush X.here X.hx rfl (hb hby at_262) q) ?_
  have X_o := X
  refine X.callS (hw _ (List.mem_of_getElem? (i := 1) rfl)) (hw _ (List.mem_of_getElem? (i := 2) rfl)) (hw _ (List.mem_of_getElem? (i := 3) rfl)) (hw _ (List.mem_of_getElem? (i := 4) rfl)) (by decide) pd_1787934452 (argsL := [(.long p0), (.int p1), (.int (7 : Int32))]) rfl (rmPk l Z a0 hw n0 h90 X.n0le p0 p1 (7 : Int32)) (by rw [hml]; rfl) rfl (by decide) (leB rfl) (hb hby at_264) (by decide) (by decide) (fun T h91 v X hQ => ?_)
  obtain ⟨r92, rfl, hh⟩ := hQ
  rw [hh] at X
  clear hh
  show Goes _ _ _ _ _ _ _ _ T (mkF m 267 #[.val (.long p0), .second, .val (.int p1), .val (.int p2), .val (.int p3), .val (.ref b36), .unset, .unset, .unset, .unset, .unset, .unset] [(.int r92), (.int (7 : Int32)), (.ref b36)])
  have Ao := A_b36
  refine X.bastoreB A_b36 (i := 7) (by decide) (by decide) ga_b36 (hb hby at_267) (fun T h93 X W => ?_)
  have K0 := K0.wr W (Or.inr gz_b36)
  have E_b36 := E_b36.wr W
  have A_b36 := PArr.set A_b36 W
  have A_b36 : PArr Z h93 b36 .byte 32 (fun j => .int ((gL [nar .byte r71, nar .byte r74, nar .byte r77, nar .byte r80, nar .byte r83, nar .byte r86, nar .byte r89, nar .byte r92]) j)) := gS (L := [nar .byte r71, nar .byte r74, nar .byte r77, nar .byte r80, nar .byte r83, nar .byte r86, nar .byte r89]) Ao (by simp) W
  clear Ao
  show Goes _ _ _ _ _ _ _ _ T (mkF m 268 #[.val (.long p0), .second, .val (.int p1), .val (.int p2), .val (.int p3), .val (.ref b36), .unset, .unset, .unset, .unset, .unset, .unset] [])
  generalize hgq : gL [nar .byte r71, nar .byte r74, nar .byte r77, nar .byte r80, nar .byte r83, nar .byte r86, nar .byte r89, nar .byte r92] = g at A_b36
  have hg : ∀ j, 8 ≤ j → g j = 44 := by rw [← hgq]; exact gL8 _
  clear hgq
  have ne_a_POSITION_DATE_b36 : a_POSITION_DATE ≠ b36 := Nat.ne_of_lt (Nat.lt_of_lt_of_le E_POSITION_DATE.lt gz_b36)
  have E_POSITION_DATE := E_POSITION_DATE.keep K0
  have F_POSITION_DATE := F_POSITION_DATE.keep K0 nin0
  have S_POSITION_DATE := Sta.keep' S_POSITION_DATE K0 all0
  have ne_a_SEGMENT_INDICATOR_b36 : a_SEGMENT_INDICATOR ≠ b36 := Nat.ne_of_lt (Nat.lt_of_lt_of_le E_SEGMENT_INDICATOR.lt gz_b36)
  have E_SEGMENT_INDICATOR := E_SEGMENT_INDICATOR.keep K0
  have F_SEGMENT_INDICATOR := F_SEGMENT_INDICATOR.keep K0 nin0
  have S_SEGMENT_INDICATOR := Sta.keep' S_SEGMENT_INDICATOR K0 all0
  have ne_a_SYMBOL_b36 : a_SYMBOL ≠ b36 := Nat.ne_of_lt (Nat.lt_of_lt_of_le E_SYMBOL.lt gz_b36)
  have E_SYMBOL := E_SYMBOL.keep K0
  have F_SYMBOL := F_SYMBOL.keep K0 nin0
  have S_SYMBOL := Sta.keep' S_SYMBOL K0 all0
  have ne_a_CF_SHORT_VALUE_b36 : a_CF_SHORT_VALUE ≠ b36 := Nat.ne_of_lt (Nat.lt_of_lt_of_le E_CF_SHORT_VALUE.lt gz_b36)
  have E_CF_SHORT_VALUE := E_CF_SHORT_VALUE.keep K0
  have F_CF_SHORT_VALUE := F_CF_SHORT_VALUE.keep K0 nin0
  have S_CF_SHORT_VALUE := Sta.keep' S_CF_SHORT_VALUE K0 all0
  have S_FIELD_COUNT := Sta.keep' S_FIELD_COUNT K0 all0
  refine Goes.by (g' := (mkF m 269 #[.val (.long p0), .second, .val (.int p1), .val (.int p2), .val (.int p3), .val (.ref b36), .unset, .unset, .unset, .unset, .unset, .unset] [(.int p2)])) (fun _ q => XS.iloadN X.here X.hx rfl (hb hby at_268) rfl q) ?_
  refine X.ldcI (hw _ (List.mem_of_getElem? (i := 5) rfl)) (hb hby at_269) ?_
  show Goes _ _ _ _ _ _ _ _ T (mkF m 271 #[.val (.long p0), .second, .val (.int p1), .val (.int p2), .val (.int p3), .val (.ref b36), .unset, .unset, .unset, .unset, .unset, .unset] [(.int (2147483647 : Int32)), (.int p2)])
  refine Goes.by (g' := (mkF m 272 #[.val (.long p0), .second, .val (.int p1), .val (.int p2), .val (.int p3), .val (.ref b36), .unset, .unset, .unset, .unset, .unset, .unset] [(.int (p2 &&& (2147483647 : Int32)))])) (fun _ q => XS.iand X.here X.hx rfl (hb hby at_271) rfl q) ?_
  refine Goes.by (g' := (mkF m 274 #[.val (.long p0), .second, .val (.int p1), .val (.int p2), .val (.int p3), .val (.ref b36), .unset, .unset, .unset, .unset, .unset, .unset] [(.int (9 : Int32)), (.int (p2 &&& (2147483647 : Int32)))])) (fun _ q => XS.bipush X.here X.hx rfl (hb hby at_272) q) ?_
  refine X.irem (hb hby at_274) (by decide) ?_
  show Goes _ _ _ _ _ _ _ _ T (mkF m 275 #[.val (.long p0), .second, .val (.int p1), .val (.int p2), .val (.int p3), .val (.ref b36), .unset, .unset, .unset, .unset, .unset, .unset] [(.int ((p2 &&& (2147483647 : Int32)) % (9 : Int32)))])
  generalize h_sv : ((p2 &&& (2147483647 : Int32)) % (9 : Int32)) = sv
  have hsv0 : 0 ≤ sv.toInt ∧ sv.toInt < 9 := by rw [← h_sv]; exact maskR p2 9 9 (by decide) (by decide)
  obtain ⟨s_, hsv⟩ : ∃ s_ : Nat, sv.toInt = s_ := ⟨sv.toInt.toNat, by omega⟩
  have o1 := c1; have o0 := c0; have o8 := c8; have o33 := c33; have o22 := c22
  clear h_sv
  refine Goes.by (g' := (mkF m 277 #[.val (.long p0), .second, .val (.int p1), .val (.int p2), .val (.int p3), .val (.ref b36), .val (.int sv), .unset, .unset, .unset, .unset, .unset] [])) (fun _ q => XS.istore X.here X.hx rfl (hb hby at_275) rfl (l' := #[.val (.long p0), .second, .val (.int p1), .val (.int p2), .val (.int p3), .val (.ref b36), .val (.int sv), .unset, .unset, .unset, .unset, .unset]) rfl q) ?_
  refine Goes.by (g' := (mkF m 279 #[.val (.long p0), .second, .val (.int p1), .val (.int p2), .val (.int p3), .val (.ref b36), .val (.int sv), .unset, .unset, .unset, .unset, .unset] [(.int sv)])) (fun _ q => XS.iload X.here X.hx rfl (hb hby at_277) rfl q) ?_
  refine Goes.by (g' := (mkF m 281 #[.val (.long p0), .second, .val (.int p1), .val (.int p2), .val (.int p3), .val (.ref b36), .val (.int sv), .unset, .unset, .unset, .unset, .unset] [(.int p3), (.int sv)])) (fun _ q => XS.iload X.here X.hx rfl (hb hby at_279) rfl q) ?_
  refine X.ldcI (hw _ (List.mem_of_getElem? (i := 5) rfl)) (hb hby at_281) ?_
  show Goes _ _ _ _ _ _ _ _ T (mkF m 283 #[.val (.long p0), .second, .val (.int p1), .val (.int p2), .val (.int p3), .val (.ref b36), .val (.int sv), .unset, .unset, .unset, .unset, .unset] [(.int (2147483647 : Int32)), (.int p3), (.int sv)])
  refine Goes.by (g' := (mkF m 284 #[.val (.long p0), .second, .val (.int p1), .val (.int p2), .val (.int p3), .val (.ref b36), .val (.int sv), .unset, .unset, .unset, .unset, .unset] [(.int (p3 &&& (2147483647 : Int32))), (.int sv)])) (fun _ q => XS.iand X.here X.hx rfl (hb hby at_283) rfl q) ?_
  refine Goes.by (g' := (mkF m 286 #[.val (.long p0), .second, .val (.int p1), .val (.int p2), .val (.int p3), .val (.ref b36), .val (.int sv), .unset, .unset, .unset, .unset, .unset] [(.int (33 : Int32)), (.int (p3 &&& (2147483647 : Int32))), (.int sv)])) (fun _ q => XS.bipush X.here X.hx rfl (hb hby at_284) q) ?_
  refine Goes.by (g' := (mkF m 288 #[.val (.long p0), .second, .val (.int p1), .val (.int p2), .val (.int p3), .val (.ref b36), .val (.int sv), .unset, .unset, .unset, .unset, .unset] [(.int sv), (.int (33 : Int32)), (.int (p3 &&& (2147483647 : Int32))), (.int sv)])) (fun _ q => XS.iload X.here X.hx rfl (hb hby at_286) rfl q) ?_
  refine Goes.by (g' := (mkF m 289 #[.val (.long p0), .second, .val (.int p1), .val (.int p2), .val (.int p3), .val (.ref b36), .val (.int sv), .unset, .unset, .unset, .unset, .unset] [(.int ((33 : Int32) - sv)), (.int (p3 &&& (2147483647 : Int32))), (.int sv)])) (fun _ q => XS.isub X.here X.hx rfl (hb hby at_288) rfl q) ?_
  generalize h_dv : ((33 : Int32) - sv) = dv
  have hdv : dv.toInt = 33 - sv.toInt := by rw [← h_dv, subI (by omega) (by omega), o33]
  clear h_dv
  refine X.irem (hb hby at_289) (by intro q; rw [eqI] at q; omega) ?_
  show Goes _ _ _ _ _ _ _ _ T (mkF m 290 #[.val (.long p0), .second, .val (.int p1), .val (.int p2), .val (.int p3), .val (.ref b36), .val (.int sv), .unset, .unset, .unset, .unset, .unset] [(.int ((p3 &&& (2147483647 : Int32)) % dv)), (.int sv)])
  generalize h_rm : ((p3 &&& (2147483647 : Int32)) % dv) = rm
  have hrm : 0 ≤ rm.toInt ∧ rm.toInt < dv.toInt := by rw [← h_rm]; exact maskR p3 dv _ rfl (by omega)
  clear h_rm
  refine Goes.by (g' := (mkF m 291 #[.val (.long p0), .second, .val (.int p1), .val (.int p2), .val (.int p3), .val (.ref b36), .val (.int sv), .unset, .unset, .unset, .unset, .unset] [(.int (sv + rm))])) (fun _ q => XS.iadd X.here X.hx rfl (hb hby at_290) rfl q) ?_
  generalize h_ev : (sv + rm) = ev
  have hev0 : ev.toInt = sv.toInt + rm.toInt := by rw [← h_ev, addI (by omega) (by omega)]
  obtain ⟨e_, hev⟩ : ∃ e_ : Nat, ev.toInt = e_ := ⟨ev.toInt.toNat, by omega⟩
  clear h_ev
  refine Goes.by (g' := (mkF m 293 #[.val (.long p0), .second, .val (.int p1), .val (.int p2), .val (.int p3), .val (.ref b36), .val (.int sv), .val (.int ev), .unset, .unset, .unset, .unset] [])) (fun _ q => XS.istore X.here X.hx rfl (hb hby at_291) rfl (l' := #[.val (.long p0), .second, .val (.int p1), .val (.int p2), .val (.int p3), .val (.ref b36), .val (.int sv), .val (.int ev), .unset, .unset, .unset, .unset]) rfl q) ?_
  refine X.newO (hw _ (List.mem_of_getElem? (i := 6) rfl)) (hw _ (List.mem_of_getElem? (i := 7) rfl)) (hw _ (List.mem_of_getElem? (i := 8) rfl)) (hb hby at_293) (by decide) (by decide) (fun T h95 b94 X g_b94 ga_b94 E E_b94 D_b94 => ?_)
  have gz_b94 : h0.size ≤ b94 := by rw [g_b94]; exact K0.1
  have ne_b36_b94 : b36 ≠ b94 := by rw [g_b94]; exact Nat.ne_of_lt E_b36.lt
  have ne_a_POSITION_DATE_b94 : a_POSITION_DATE ≠ b94 := by rw [g_b94]; exact Nat.ne_of_lt E_POSITION_DATE.lt
  have ne_a_SEGMENT_INDICATOR_b94 : a_SEGMENT_INDICATOR ≠ b94 := by rw [g_b94]; exact Nat.ne_of_lt E_SEGMENT_INDICATOR.lt
  have ne_a_SYMBOL_b94 : a_SYMBOL ≠ b94 := by rw [g_b94]; exact Nat.ne_of_lt E_SYMBOL.lt
  have ne_a_CF_SHORT_VALUE_b94 : a_CF_SHORT_VALUE ≠ b94 := by rw [g_b94]; exact Nat.ne_of_lt E_CF_SHORT_VALUE.lt
  have K0 := K0.ext E
  have E_b36 := E_b36.ext E
  have A_b36 := PArr.ext A_b36 E
  have E_POSITION_DATE := E_POSITION_DATE.ext E
  have F_POSITION_DATE := F_POSITION_DATE.ext E
  have S_POSITION_DATE := S_POSITION_DATE.ext E
  have E_SEGMENT_INDICATOR := E_SEGMENT_INDICATOR.ext E
  have F_SEGMENT_INDICATOR := F_SEGMENT_INDICATOR.ext E
  have S_SEGMENT_INDICATOR := S_SEGMENT_INDICATOR.ext E
  have E_SYMBOL := E_SYMBOL.ext E
  have F_SYMBOL := F_SYMBOL.ext E
  have S_SYMBOL := S_SYMBOL.ext E
  have E_CF_SHORT_VALUE := E_CF_SHORT_VALUE.ext E
  have F_CF_SHORT_VALUE := F_CF_SHORT_VALUE.ext E
  have S_CF_SHORT_VALUE := S_CF_SHORT_VALUE.ext E
  have S_FIELD_COUNT := S_FIELD_COUNT.ext E
  have F_b94_starts : Fld Z h95 b94 "com/example/exdate/exdate/RowFields" "starts" "[I" .null := D_b94 (Or.inr (hw _ (List.mem_of_getElem? (i := 19) rfl))) (ty := (.array .int)) (by decide)
  have F_b94_bytes : Fld Z h95 b94 "com/example/exdate/exdate/RowFields" "bytes" "[B" .null := D_b94 (Or.inl (hw _ (List.mem_of_getElem? (i := 26) rfl))) (ty := (.array .byte)) (by decide)
  show Goes _ _ _ _ _ _ _ _ T (mkF m 296 #[.val (.long p0), .second, .val (.int p1), .val (.int p2), .val (.int p3), .val (.ref b36), .val (.int sv), .val (.int ev), .unset, .unset, .unset, .unset] [(.ref b94)])
  refine Goes.by (g' := (mkF m 297 #[.val (.long p0), .second, .val (.int p1), .val (.int p2), .val (.int p3), .val (.ref b36), .val (.int sv), .val (.int ev), .unset, .unset, .unset, .unset] [(.ref b94), (.ref b94)])) (fun _ q => XS.dup X.here X.hx rfl (hb hby at_296) rfl rfl q) ?_
  have X_o := X
  refine X.callN rfl (hw _ (List.mem_of_getElem? (i := 9) rfl)) (hw _ (List.mem_of_getElem? (i := 10) rfl)) (hw _ (List.mem_of_getElem? (i := 8) rfl)) (hw _ (List.mem_of_getElem? (i := 11) rfl)) (by decide) pd_193421996 (argsL := []) rfl (rmI l Z a0 hw n0 h95 X.n0le b94 ga_b94 S_FIELD_COUNT E_b94 F_b94_starts F_b94_bytes) (by rw [hml]; rfl) rfl (by decide) (leB rfl) (hb hby at_297) (by decide) (by decide) (fun T h96 v X hQ => ?_)
  obtain ⟨rfl, sb, gz, K, F_b94_starts, F_b94_bytes, E_sb, A_sb⟩ := hQ
  have gz_sb : h0.size ≤ sb := Nat.le_trans K0.1 gz
  have ga_sb : n0 ≤ sb := Nat.le_trans X_o.n0le gz
  have ne_b36_sb : b36 ≠ sb := Nat.ne_of_lt (Nat.lt_of_lt_of_le E_b36.lt gz)
  have ne_a_POSITION_DATE_sb : a_POSITION_DATE ≠ sb := Nat.ne_of_lt (Nat.lt_of_lt_of_le E_POSITION_DATE.lt gz)
  have ne_a_SEGMENT_INDICATOR_sb : a_SEGMENT_INDICATOR ≠ sb := Nat.ne_of_lt (Nat.lt_of_lt_of_le E_SEGMENT_INDICATOR.lt gz)
  have ne_a_SYMBOL_sb : a_SYMBOL ≠ sb := Nat.ne_of_lt (Nat.lt_of_lt_of_le E_SYMBOL.lt gz)
  have ne_a_CF_SHORT_VALUE_sb : a_CF_SHORT_VALUE ≠ sb := Nat.ne_of_lt (Nat.lt_of_lt_of_le E_CF_SHORT_VALUE.lt gz)
  have ne_b94_sb : b94 ≠ sb := Nat.ne_of_lt (Nat.lt_of_lt_of_le E_b94.lt gz)
  have E_b94_o := E_b94
  have K0 := K0.trans K (allS (Or.inr gz_b94) all0)
  have E_b36 := E_b36.keep K
  have A_b36 := PArr.keep A_b36 K (ninS ne_b36_b94 nin0)
  have E_POSITION_DATE := E_POSITION_DATE.keep K
  have F_POSITION_DATE := F_POSITION_DATE.keep K (ninS ne_a_POSITION_DATE_b94 nin0)
  have S_POSITION_DATE := Sta.keep' S_POSITION_DATE K (allS ⟨_, E_b94_o⟩ all0)
  have E_SEGMENT_INDICATOR := E_SEGMENT_INDICATOR.keep K
  have F_SEGMENT_INDICATOR := F_SEGMENT_INDICATOR.keep K (ninS ne_a_SEGMENT_INDICATOR_b94 nin0)
  have S_SEGMENT_INDICATOR := Sta.keep' S_SEGMENT_INDICATOR K (allS ⟨_, E_b94_o⟩ all0)
  have E_SYMBOL := E_SYMBOL.keep K
  have F_SYMBOL := F_SYMBOL.keep K (ninS ne_a_SYMBOL_b94 nin0)
  have S_SYMBOL := Sta.keep' S_SYMBOL K (allS ⟨_, E_b94_o⟩ all0)
  have E_CF_SHORT_VALUE := E_CF_SHORT_VALUE.keep K
  have F_CF_SHORT_VALUE := F_CF_SHORT_VALUE.keep K (ninS ne_a_CF_SHORT_VALUE_b94 nin0)
  have S_CF_SHORT_VALUE := Sta.keep' S_CF_SHORT_VALUE K (allS ⟨_, E_b94_o⟩ all0)
  have S_FIELD_COUNT := Sta.keep' S_FIELD_COUNT K (allS ⟨_, E_b94_o⟩ all0)
  have E_b94 := E_b94.keep K
  show Goes _ _ _ _ _ _ _ _ T (mkF m 300 #[.val (.long p0), .second, .val (.int p1), .val (.int p2), .val (.int p3), .val (.ref b36), .val (.int sv), .val (.int ev), .unset, .unset, .unset, .unset] [(.ref b94)])
  refine Goes.by (g' := (mkF m 302 #[.val (.long p0), .second, .val (.int p1), .val (.int p2), .val (.int p3), .val (.ref b36), .val (.int sv), .val (.int ev), .val (.ref b94), .unset, .unset, .unset] [])) (fun _ q => XS.astore X.here X.hx rfl (hb hby at_300) rfl rfl (l' := #[.val (.long p0), .second, .val (.int p1), .val (.int p2), .val (.int p3), .val (.ref b36), .val (.int sv), .val (.int ev), .val (.ref b94), .unset, .unset, .unset]) rfl q) ?_
  refine Goes.by (g' := (mkF m 304 #[.val (.long p0), .second, .val (.int p1), .val (.int p2), .val (.int p3), .val (.ref b36), .val (.int sv), .val (.int ev), .val (.ref b94), .unset, .unset, .unset] [(.ref b94)])) (fun _ q => XS.aload X.here X.hx rfl (hb hby at_302) rfl rfl q) ?_
  refine Goes.by (g' := (mkF m 306 #[.val (.long p0), .second, .val (.int p1), .val (.int p2), .val (.int p3), .val (.ref b36), .val (.int sv), .val (.int ev), .val (.ref b94), .unset, .unset, .unset] [(.ref b36), (.ref b94)])) (fun _ q => XS.aload X.here X.hx rfl (hb hby at_304) rfl rfl q) ?_
  refine Goes.by (g' := (mkF m 308 #[.val (.long p0), .second, .val (.int p1), .val (.int p2), .val (.int p3), .val (.ref b36), .val (.int sv), .val (.int ev), .val (.ref b94), .unset, .unset, .unset] [(.int sv), (.ref b36), (.ref b94)])) (fun _ q => XS.iload X.here X.hx rfl (hb hby at_306) rfl q) ?_
  refine Goes.by (g' := (mkF m 310 #[.val (.long p0), .second, .val (.int p1), .val (.int p2), .val (.int p3), .val (.ref b36), .val (.int sv), .val (.int ev), .val (.ref b94), .unset, .unset, .unset] [(.int ev), (.int sv), (.ref b36), (.ref b94)])) (fun _ q => XS.iload X.here X.hx rfl (hb hby at_308) rfl q) ?_
  have X_o := X
  refine X.callV E_b94 (hw _ (List.mem_of_getElem? (i := 20) rfl)) (hw _ (List.mem_of_getElem? (i := 21) rfl)) (hw _ (List.mem_of_getElem? (i := 23) rfl)) (hw _ (List.mem_of_getElem? (i := 23) rfl)) rfl (hw _ (List.mem_of_getElem? (i := 22) rfl)) (hw _ (List.mem_of_getElem? (i := 8) rfl)) (hw _ (List.mem_of_getElem? (i := 24) rfl)) (by decide) pd_3824296398 (argsL := [(.ref b36), (.int sv), (.int ev)]) rfl (rmSp l Z a0 hw n0 h96 X.n0le b94 b36 sb sv ev s_ e_ g hsv hev (by omega) (by omega) ga_b94 ga_sb (Ne.symm ne_b94_sb) ne_b36_b94 ne_b36_sb S_FIELD_COUNT E_b94 F_b94_starts F_b94_bytes A_sb A_b36) (by rw [hml]; rfl) rfl (by decide) (leB rfl) (hb hby at_310) (by decide) (by decide) (fun T h97 v X hQ => ?_)
  obtain ⟨got, c, rfl, hgot, hnE, K, F_b94_starts, F_b94_bytes, A_sb, hc0, hcj⟩ := hQ
  have E_b94_o := E_b94
  have E_sb_o := E_sb
  have K0 := K0.trans K (allS (Or.inr gz_b94) (allS (Or.inr gz_sb) all0))
  have E_b36 := E_b36.keep K
  have A_b36 := PArr.keep A_b36 K (ninS ne_b36_b94 (ninS ne_b36_sb nin0))
  have E_POSITION_DATE := E_POSITION_DATE.keep K
  have F_POSITION_DATE := F_POSITION_DATE.keep K (ninS ne_a_POSITION_DATE_b94 (ninS ne_a_POSITION_DATE_sb nin0))
  have S_POSITION_DATE := Sta.keep' S_POSITION_DATE K (allS ⟨_, E_b94_o⟩ (allS ⟨_, E_sb_o⟩ all0))
  have E_SEGMENT_INDICATOR := E_SEGMENT_INDICATOR.keep K
  have F_SEGMENT_INDICATOR := F_SEGMENT_INDICATOR.keep K (ninS ne_a_SEGMENT_INDICATOR_b94 (ninS ne_a_SEGMENT_INDICATOR_sb nin0))
  have S_SEGMENT_INDICATOR := Sta.keep' S_SEGMENT_INDICATOR K (allS ⟨_, E_b94_o⟩ (allS ⟨_, E_sb_o⟩ all0))
  have E_SYMBOL := E_SYMBOL.keep K
  have F_SYMBOL := F_SYMBOL.keep K (ninS ne_a_SYMBOL_b94 (ninS ne_a_SYMBOL_sb nin0))
  have S_SYMBOL := Sta.keep' S_SYMBOL K (allS ⟨_, E_b94_o⟩ (allS ⟨_, E_sb_o⟩ all0))
  have E_CF_SHORT_VALUE := E_CF_SHORT_VALUE.keep K
  have F_CF_SHORT_VALUE := F_CF_SHORT_VALUE.keep K (ninS ne_a_CF_SHORT_VALUE_b94 (ninS ne_a_CF_SHORT_VALUE_sb nin0))
  have S_CF_SHORT_VALUE := Sta.keep' S_CF_SHORT_VALUE K (allS ⟨_, E_b94_o⟩ (allS ⟨_, E_sb_o⟩ all0))
  have S_FIELD_COUNT := Sta.keep' S_FIELD_COUNT K (allS ⟨_, E_b94_o⟩ (allS ⟨_, E_sb_o⟩ all0))
  have E_b94 := E_b94.keep K
  have E_sb := E_sb.keep K
  show Goes _ _ _ _ _ _ _ _ T (mkF m 313 #[.val (.long p0), .second, .val (.int p1), .val (.int p2), .val (.int p3), .val (.ref b36), .val (.int sv), .val (.int ev), .val (.ref b94), .unset, .unset, .unset] [(.int got)])
  refine Goes.by (g' := (mkF m 315 #[.val (.long p0), .second, .val (.int p1), .val (.int p2), .val (.int p3), .val (.ref b36), .val (.int sv), .val (.int ev), .val (.ref b94), .val (.int got), .unset, .unset] [])) (fun _ q => XS.istore X.here X.hx rfl (hb hby at_313) rfl (l' := #[.val (.long p0), .second, .val (.int p1), .val (.int p2), .val (.int p3), .val (.ref b36), .val (.int sv), .val (.int ev), .val (.ref b94), .val (.int got), .unset, .unset]) rfl q) ?_
  refine Goes.by (g' := (mkF m 317 #[.val (.long p0), .second, .val (.int p1), .val (.int p2), .val (.int p3), .val (.ref b36), .val (.int sv), .val (.int ev), .val (.ref b94), .val (.int got), .unset, .unset] [(.ref b36)])) (fun _ q => XS.aload X.here X.hx rfl (hb hby at_315) rfl rfl q) ?_
  refine Goes.by (g' := (mkF m 319 #[.val (.long p0), .second, .val (.int p1), .val (.int p2), .val (.int p3), .val (.ref b36), .val (.int sv), .val (.int ev), .val (.ref b94), .val (.int got), .unset, .unset] [(.int sv), (.ref b36)])) (fun _ q => XS.iload X.here X.hx rfl (hb hby at_317) rfl q) ?_
  refine Goes.by (g' := (mkF m 321 #[.val (.long p0), .second, .val (.int p1), .val (.int p2), .val (.int p3), .val (.ref b36), .val (.int sv), .val (.int ev), .val (.ref b94), .val (.int got), .unset, .unset] [(.int ev), (.int sv), (.ref b36)])) (fun _ q => XS.iload X.here X.hx rfl (hb hby at_319) rfl q) ?_
  refine Goes.by (g' := (mkF m 322 #[.val (.long p0), .second, .val (.int p1), .val (.int p2), .val (.int p3), .val (.ref b36), .val (.int sv), .val (.int ev), .val (.ref b94), .val (.int got), .unset, .unset] [(.int (0 : Int32)), (.int ev), (.int sv), (.ref b36)])) (fun _ q => XS.iconst X.here X.hx rfl (hb hby at_321) q) ?_
  have X_o := X
  refine X.callS (hw _ (List.mem_of_getElem? (i := 27) rfl)) (hw _ (List.mem_of_getElem? (i := 28) rfl)) (hw _ (List.mem_of_getElem? (i := 3) rfl)) (hw _ (List.mem_of_getElem? (i := 29) rfl)) (by decide) pd_1647763415 (argsL := [(.ref b36), (.int sv), (.int ev), (.int (0 : Int32))]) rfl (rmH l Z a0 hw n0 h97 X.n0le b36 sv ev (0 : Int32) s_ e_ 0 g hsv hev (by omega) (by decide) A_b36) (by rw [hml]; rfl) rfl (by decide) (leB rfl) (hb hby at_322) (by decide) (by decide) (fun T h98 v X hQ => ?_)
  obtain ⟨rfl, hh⟩ := hQ
  rw [hh] at X
  clear hh
  show Goes _ _ _ _ _ _ _ _ T (mkF m 325 #[.val (.long p0), .second, .val (.int p1), .val (.int p2), .val (.int p3), .val (.ref b36), .val (.int sv), .val (.int ev), .val (.ref b94), .val (.int got), .unset, .unset] [(.int (hitI g s_ e_ 0))])
  refine Goes.by (g' := (mkF m 327 #[.val (.long p0), .second, .val (.int p1), .val (.int p2), .val (.int p3), .val (.ref b36), .val (.int sv), .val (.int ev), .val (.ref b94), .val (.int got), .unset, .unset] [(.ref b36), (.int (hitI g s_ e_ 0))])) (fun _ q => XS.aload X.here X.hx rfl (hb hby at_325) rfl rfl q) ?_
  refine Goes.by (g' := (mkF m 329 #[.val (.long p0), .second, .val (.int p1), .val (.int p2), .val (.int p3), .val (.ref b36), .val (.int sv), .val (.int ev), .val (.ref b94), .val (.int got), .unset, .unset] [(.int sv), (.ref b36), (.int (hitI g s_ e_ 0))])) (fun _ q => XS.iload X.here X.hx rfl (hb hby at_327) rfl q) ?_
  refine Goes.by (g' := (mkF m 331 #[.val (.long p0), .second, .val (.int p1), .val (.int p2), .val (.int p3), .val (.ref b36), .val (.int sv), .val (.int ev), .val (.ref b94), .val (.int got), .unset, .unset] [(.int ev), (.int sv), (.ref b36), (.int (hitI g s_ e_ 0))])) (fun _ q => XS.iload X.here X.hx rfl (hb hby at_329) rfl q) ?_
  refine Goes.by (g' := (mkF m 332 #[.val (.long p0), .second, .val (.int p1), .val (.int p2), .val (.int p3), .val (.ref b36), .val (.int sv), .val (.int ev), .val (.ref b94), .val (.int got), .unset, .unset] [(.int (1 : Int32)), (.int ev), (.int sv), (.ref b36), (.int (hitI g s_ e_ 0))])) (fun _ q => XS.iconst X.here X.hx rfl (hb hby at_331) q) ?_
  have X_o := X
  refine X.callS (hw _ (List.mem_of_getElem? (i := 27) rfl)) (hw _ (List.mem_of_getElem? (i := 28) rfl)) (hw _ (List.mem_of_getElem? (i := 3) rfl)) (hw _ (List.mem_of_getElem? (i := 29) rfl)) (by decide) pd_1647763415 (argsL := [(.ref b36), (.int sv), (.int ev), (.int (1 : Int32))]) rfl (rmH l Z a0 hw n0 h97 X.n0le b36 sv ev (1 : Int32) s_ e_ 1 g hsv hev (by omega) (by decide) A_b36) (by rw [hml]; rfl) rfl (by decide) (leB rfl) (hb hby at_332) (by decide) (by decide) (fun T h99 v X hQ => ?_)
  obtain ⟨rfl, hh⟩ := hQ
  rw [hh] at X
  clear hh
  show Goes _ _ _ _ _ _ _ _ T (mkF m 335 #[.val (.long p0), .second, .val (.int p1), .val (.int p2), .val (.int p3), .val (.ref b36), .val (.int sv), .val (.int ev), .val (.ref b94), .val (.int got), .unset, .unset] [(.int (hitI g s_ e_ 1)), (.int (hitI g s_ e_ 0))])
  refine Goes.by (g' := (mkF m 336 #[.val (.long p0), .second, .val (.int p1), .val (.int p2), .val (.int p3), .val (.ref b36), .val (.int sv), .val (.int ev), .val (.ref b94), .val (.int got), .unset, .unset] [(.int ((hitI g s_ e_ 0) + (hitI g s_ e_ 1)))])) (fun _ q => XS.iadd X.here X.hx rfl (hb hby at_335) rfl q) ?_
  generalize h_ds1 : ((hitI g s_ e_ 0) + (hitI g s_ e_ 1)) = ds1
  have hr0 := hitI_toInt g s_ e_ 0
  have hr1 := hitI_toInt g s_ e_ 1
  have h_ds1' : ds1.toInt = ((((hitN g s_ e_ 0) + hitN g s_ e_ 1) : Nat) : Int) := by
    rw [← h_ds1, addI (by rw [hr0.1, hr1.1]; omega) (by rw [hr0.1, hr1.1]; omega), hr0.1, hr1.1]
    omega
  refine Goes.by (g' := (mkF m 338 #[.val (.long p0), .second, .val (.int p1), .val (.int p2), .val (.int p3), .val (.ref b36), .val (.int sv), .val (.int ev), .val (.ref b94), .val (.int got), .unset, .unset] [(.ref b36), (.int ds1)])) (fun _ q => XS.aload X.here X.hx rfl (hb hby at_336) rfl rfl q) ?_
  refine Goes.by (g' := (mkF m 340 #[.val (.long p0), .second, .val (.int p1), .val (.int p2), .val (.int p3), .val (.ref b36), .val (.int sv), .val (.int ev), .val (.ref b94), .val (.int got), .unset, .unset] [(.int sv), (.ref b36), (.int ds1)])) (fun _ q => XS.iload X.here X.hx rfl (hb hby at_338) rfl q) ?_
  refine Goes.by (g' := (mkF m 342 #[.val (.long p0), .second, .val (.int p1), .val (.int p2), .val (.int p3), .val (.ref b36), .val (.int sv), .val (.int ev), .val (.ref b94), .val (.int got), .unset, .unset] [(.int ev), (.int sv), (.ref b36), (.int ds1)])) (fun _ q => XS.iload X.here X.hx rfl (hb hby at_340) rfl q) ?_
  refine Goes.by (g' := (mkF m 343 #[.val (.long p0), .second, .val (.int p1), .val (.int p2), .val (.int p3), .val (.ref b36), .val (.int sv), .val (.int ev), .val (.ref b94), .val (.int got), .unset, .unset] [(.int (2 : Int32)), (.int ev), (.int sv), (.ref b36), (.int ds1)])) (fun _ q => XS.iconst X.here X.hx rfl (hb hby at_342) q) ?_
  have X_o := X
  refine X.callS (hw _ (List.mem_of_getElem? (i := 27) rfl)) (hw _ (List.mem_of_getElem? (i := 28) rfl)) (hw _ (List.mem_of_getElem? (i := 3) rfl)) (hw _ (List.mem_of_getElem? (i := 29) rfl)) (by decide) pd_1647763415 (argsL := [(.ref b36), (.int sv), (.int ev), (.int (2 : Int32))]) rfl (rmH l Z a0 hw n0 h97 X.n0le b36 sv ev (2 : Int32) s_ e_ 2 g hsv hev (by omega) (by decide) A_b36) (by rw [hml]; rfl) rfl (by decide) (leB rfl) (hb hby at_343) (by decide) (by decide) (fun T h100 v X hQ => ?_)
  obtain ⟨rfl, hh⟩ := hQ
  rw [hh] at X
  clear hh
  show Goes _ _ _ _ _ _ _ _ T (mkF m 346 #[.val (.long p0), .second, .val (.int p1), .val (.int p2), .val (.int p3), .val (.ref b36), .val (.int sv), .val (.int ev), .val (.ref b94), .val (.int got), .unset, .unset] [(.int (hitI g s_ e_ 2)), (.int ds1)])
  refine Goes.by (g' := (mkF m 347 #[.val (.long p0), .second, .val (.int p1), .val (.int p2), .val (.int p3), .val (.ref b36), .val (.int sv), .val (.int ev), .val (.ref b94), .val (.int got), .unset, .unset] [(.int (ds1 + (hitI g s_ e_ 2)))])) (fun _ q => XS.iadd X.here X.hx rfl (hb hby at_346) rfl q) ?_
  generalize h_ds2 : (ds1 + (hitI g s_ e_ 2)) = ds2
  have hr2 := hitI_toInt g s_ e_ 2
  have h_ds2' : ds2.toInt = (((((hitN g s_ e_ 0) + hitN g s_ e_ 1) + hitN g s_ e_ 2) : Nat) : Int) := by
    rw [← h_ds2, addI (by rw [h_ds1', hr2.1]; omega) (by rw [h_ds1', hr2.1]; omega), h_ds1', hr2.1]
    omega
  refine Goes.by (g' := (mkF m 349 #[.val (.long p0), .second, .val (.int p1), .val (.int p2), .val (.int p3), .val (.ref b36), .val (.int sv), .val (.int ev), .val (.ref b94), .val (.int got), .unset, .unset] [(.ref b36), (.int ds2)])) (fun _ q => XS.aload X.here X.hx rfl (hb hby at_347) rfl rfl q) ?_
  refine Goes.by (g' := (mkF m 351 #[.val (.long p0), .second, .val (.int p1), .val (.int p2), .val (.int p3), .val (.ref b36), .val (.int sv), .val (.int ev), .val (.ref b94), .val (.int got), .unset, .unset] [(.int sv), (.ref b36), (.int ds2)])) (fun _ q => XS.iload X.here X.hx rfl (hb hby at_349) rfl q) ?_
  refine Goes.by (g' := (mkF m 353 #[.val (.long p0), .second, .val (.int p1), .val (.int p2), .val (.int p3), .val (.ref b36), .val (.int sv), .val (.int ev), .val (.ref b94), .val (.int got), .unset, .unset] [(.int ev), (.int sv), (.ref b36), (.int ds2)])) (fun _ q => XS.iload X.here X.hx rfl (hb hby at_351) rfl q) ?_
  refine Goes.by (g' := (mkF m 354 #[.val (.long p0), .second, .val (.int p1), .val (.int p2), .val (.int p3), .val (.ref b36), .val (.int sv), .val (.int ev), .val (.ref b94), .val (.int got), .unset, .unset] [(.int (3 : Int32)), (.int ev), (.int sv), (.ref b36), (.int ds2)])) (fun _ q => XS.iconst X.here X.hx rfl (hb hby at_353) q) ?_
  have X_o := X
  refine X.callS (hw _ (List.mem_of_getElem? (i := 27) rfl)) (hw _ (List.mem_of_getElem? (i := 28) rfl)) (hw _ (List.mem_of_getElem? (i := 3) rfl)) (hw _ (List.mem_of_getElem? (i := 29) rfl)) (by decide) pd_1647763415 (argsL := [(.ref b36), (.int sv), (.int ev), (.int (3 : Int32))]) rfl (rmH l Z a0 hw n0 h97 X.n0le b36 sv ev (3 : Int32) s_ e_ 3 g hsv hev (by omega) (by decide) A_b36) (by rw [hml]; rfl) rfl (by decide) (leB rfl) (hb hby at_354) (by decide) (by decide) (fun T h101 v X hQ => ?_)
  obtain ⟨rfl, hh⟩ := hQ
  rw [hh] at X
  clear hh
  show Goes _ _ _ _ _ _ _ _ T (mkF m 357 #[.val (.long p0), .second, .val (.int p1), .val (.int p2), .val (.int p3), .val (.ref b36), .val (.int sv), .val (.int ev), .val (.ref b94), .val (.int got), .unset, .unset] [(.int (hitI g s_ e_ 3)), (.int ds2)])
  refine Goes.by (g' := (mkF m 358 #[.val (.long p0), .second, .val (.int p1), .val (.int p2), .val (.int p3), .val (.ref b36), .val (.int sv), .val (.int ev), .val (.ref b94), .val (.int got), .unset, .unset] [(.int (ds2 + (hitI g s_ e_ 3)))])) (fun _ q => XS.iadd X.here X.hx rfl (hb hby at_357) rfl q) ?_
  generalize h_ds3 : (ds2 + (hitI g s_ e_ 3)) = ds3
  have hr3 := hitI_toInt g s_ e_ 3
  have h_ds3' : ds3.toInt = ((((((hitN g s_ e_ 0) + hitN g s_ e_ 1) + hitN g s_ e_ 2) + hitN g s_ e_ 3) : Nat) : Int) := by
    rw [← h_ds3, addI (by rw [h_ds2', hr3.1]; omega) (by rw [h_ds2', hr3.1]; omega), h_ds2', hr3.1]
    omega
  refine Goes.by (g' := (mkF m 360 #[.val (.long p0), .second, .val (.int p1), .val (.int p2), .val (.int p3), .val (.ref b36), .val (.int sv), .val (.int ev), .val (.ref b94), .val (.int got), .unset, .unset] [(.ref b36), (.int ds3)])) (fun _ q => XS.aload X.here X.hx rfl (hb hby at_358) rfl rfl q) ?_
  refine Goes.by (g' := (mkF m 362 #[.val (.long p0), .second, .val (.int p1), .val (.int p2), .val (.int p3), .val (.ref b36), .val (.int sv), .val (.int ev), .val (.ref b94), .val (.int got), .unset, .unset] [(.int sv), (.ref b36), (.int ds3)])) (fun _ q => XS.iload X.here X.hx rfl (hb hby at_360) rfl q) ?_
  refine Goes.by (g' := (mkF m 364 #[.val (.long p0), .second, .val (.int p1), .val (.int p2), .val (.int p3), .val (.ref b36), .val (.int sv), .val (.int ev), .val (.ref b94), .val (.int got), .unset, .unset] [(.int ev), (.int sv), (.ref b36), (.int ds3)])) (fun _ q => XS.iload X.here X.hx rfl (hb hby at_362) rfl q) ?_
  refine Goes.by (g' := (mkF m 365 #[.val (.long p0), .second, .val (.int p1), .val (.int p2), .val (.int p3), .val (.ref b36), .val (.int sv), .val (.int ev), .val (.ref b94), .val (.int got), .unset, .unset] [(.int (4 : Int32)), (.int ev), (.int sv), (.ref b36), (.int ds3)])) (fun _ q => XS.iconst X.here X.hx rfl (hb hby at_364) q) ?_
  have X_o := X
  refine X.callS (hw _ (List.mem_of_getElem? (i := 27) rfl)) (hw _ (List.mem_of_getElem? (i := 28) rfl)) (hw _ (List.mem_of_getElem? (i := 3) rfl)) (hw _ (List.mem_of_getElem? (i := 29) rfl)) (by decide) pd_1647763415 (argsL := [(.ref b36), (.int sv), (.int ev), (.int (4 : Int32))]) rfl (rmH l Z a0 hw n0 h97 X.n0le b36 sv ev (4 : Int32) s_ e_ 4 g hsv hev (by omega) (by decide) A_b36) (by rw [hml]; rfl) rfl (by decide) (leB rfl) (hb hby at_365) (by decide) (by decide) (fun T h102 v X hQ => ?_)
  obtain ⟨rfl, hh⟩ := hQ
  rw [hh] at X
  clear hh
  show Goes _ _ _ _ _ _ _ _ T (mkF m 368 #[.val (.long p0), .second, .val (.int p1), .val (.int p2), .val (.int p3), .val (.ref b36), .val (.int sv), .val (.int ev), .val (.ref b94), .val (.int got), .unset, .unset] [(.int (hitI g s_ e_ 4)), (.int ds3)])
  refine Goes.by (g' := (mkF m 369 #[.val (.long p0), .second, .val (.int p1), .val (.int p2), .val (.int p3), .val (.ref b36), .val (.int sv), .val (.int ev), .val (.ref b94), .val (.int got), .unset, .unset] [(.int (ds3 + (hitI g s_ e_ 4)))])) (fun _ q => XS.iadd X.here X.hx rfl (hb hby at_368) rfl q) ?_
  generalize h_ds4 : (ds3 + (hitI g s_ e_ 4)) = ds4
  have hr4 := hitI_toInt g s_ e_ 4
  have h_ds4' : ds4.toInt = (((((((hitN g s_ e_ 0) + hitN g s_ e_ 1) + hitN g s_ e_ 2) + hitN g s_ e_ 3) + hitN g s_ e_ 4) : Nat) : Int) := by
    rw [← h_ds4, addI (by rw [h_ds3', hr4.1]; omega) (by rw [h_ds3', hr4.1]; omega), h_ds3', hr4.1]
    omega
  refine Goes.by (g' := (mkF m 371 #[.val (.long p0), .second, .val (.int p1), .val (.int p2), .val (.int p3), .val (.ref b36), .val (.int sv), .val (.int ev), .val (.ref b94), .val (.int got), .unset, .unset] [(.ref b36), (.int ds4)])) (fun _ q => XS.aload X.here X.hx rfl (hb hby at_369) rfl rfl q) ?_
  refine Goes.by (g' := (mkF m 373 #[.val (.long p0), .second, .val (.int p1), .val (.int p2), .val (.int p3), .val (.ref b36), .val (.int sv), .val (.int ev), .val (.ref b94), .val (.int got), .unset, .unset] [(.int sv), (.ref b36), (.int ds4)])) (fun _ q => XS.iload X.here X.hx rfl (hb hby at_371) rfl q) ?_
  refine Goes.by (g' := (mkF m 375 #[.val (.long p0), .second, .val (.int p1), .val (.int p2), .val (.int p3), .val (.ref b36), .val (.int sv), .val (.int ev), .val (.ref b94), .val (.int got), .unset, .unset] [(.int ev), (.int sv), (.ref b36), (.int ds4)])) (fun _ q => XS.iload X.here X.hx rfl (hb hby at_373) rfl q) ?_
  refine Goes.by (g' := (mkF m 376 #[.val (.long p0), .second, .val (.int p1), .val (.int p2), .val (.int p3), .val (.ref b36), .val (.int sv), .val (.int ev), .val (.ref b94), .val (.int got), .unset, .unset] [(.int (5 : Int32)), (.int ev), (.int sv), (.ref b36), (.int ds4)])) (fun _ q => XS.iconst X.here X.hx rfl (hb hby at_375) q) ?_
  have X_o := X
  refine X.callS (hw _ (List.mem_of_getElem? (i := 27) rfl)) (hw _ (List.mem_of_getElem? (i := 28) rfl)) (hw _ (List.mem_of_getElem? (i := 3) rfl)) (hw _ (List.mem_of_getElem? (i := 29) rfl)) (by decide) pd_1647763415 (argsL := [(.ref b36), (.int sv), (.int ev), (.int (5 : Int32))]) rfl (rmH l Z a0 hw n0 h97 X.n0le b36 sv ev (5 : Int32) s_ e_ 5 g hsv hev (by omega) (by decide) A_b36) (by rw [hml]; rfl) rfl (by decide) (leB rfl) (hb hby at_376) (by decide) (by decide) (fun T h103 v X hQ => ?_)
  obtain ⟨rfl, hh⟩ := hQ
  rw [hh] at X
  clear hh
  show Goes _ _ _ _ _ _ _ _ T (mkF m 379 #[.val (.long p0), .second, .val (.int p1), .val (.int p2), .val (.int p3), .val (.ref b36), .val (.int sv), .val (.int ev), .val (.ref b94), .val (.int got), .unset, .unset] [(.int (hitI g s_ e_ 5)), (.int ds4)])
  refine Goes.by (g' := (mkF m 380 #[.val (.long p0), .second, .val (.int p1), .val (.int p2), .val (.int p3), .val (.ref b36), .val (.int sv), .val (.int ev), .val (.ref b94), .val (.int got), .unset, .unset] [(.int (ds4 + (hitI g s_ e_ 5)))])) (fun _ q => XS.iadd X.here X.hx rfl (hb hby at_379) rfl q) ?_
  generalize h_ds5 : (ds4 + (hitI g s_ e_ 5)) = ds5
  have hr5 := hitI_toInt g s_ e_ 5
  have h_ds5' : ds5.toInt = ((((((((hitN g s_ e_ 0) + hitN g s_ e_ 1) + hitN g s_ e_ 2) + hitN g s_ e_ 3) + hitN g s_ e_ 4) + hitN g s_ e_ 5) : Nat) : Int) := by
    rw [← h_ds5, addI (by rw [h_ds4', hr5.1]; omega) (by rw [h_ds4', hr5.1]; omega), h_ds4', hr5.1]
    omega
  refine Goes.by (g' := (mkF m 382 #[.val (.long p0), .second, .val (.int p1), .val (.int p2), .val (.int p3), .val (.ref b36), .val (.int sv), .val (.int ev), .val (.ref b94), .val (.int got), .unset, .unset] [(.ref b36), (.int ds5)])) (fun _ q => XS.aload X.here X.hx rfl (hb hby at_380) rfl rfl q) ?_
  refine Goes.by (g' := (mkF m 384 #[.val (.long p0), .second, .val (.int p1), .val (.int p2), .val (.int p3), .val (.ref b36), .val (.int sv), .val (.int ev), .val (.ref b94), .val (.int got), .unset, .unset] [(.int sv), (.ref b36), (.int ds5)])) (fun _ q => XS.iload X.here X.hx rfl (hb hby at_382) rfl q) ?_
  refine Goes.by (g' := (mkF m 386 #[.val (.long p0), .second, .val (.int p1), .val (.int p2), .val (.int p3), .val (.ref b36), .val (.int sv), .val (.int ev), .val (.ref b94), .val (.int got), .unset, .unset] [(.int ev), (.int sv), (.ref b36), (.int ds5)])) (fun _ q => XS.iload X.here X.hx rfl (hb hby at_384) rfl q) ?_
  refine Goes.by (g' := (mkF m 388 #[.val (.long p0), .second, .val (.int p1), .val (.int p2), .val (.int p3), .val (.ref b36), .val (.int sv), .val (.int ev), .val (.ref b94), .val (.int got), .unset, .unset] [(.int (6 : Int32)), (.int ev), (.int sv), (.ref b36), (.int ds5)])) (fun _ q => XS.bipush X.here X.hx rfl (hb hby at_386) q) ?_
  have X_o := X
  refine X.callS (hw _ (List.mem_of_getElem? (i := 27) rfl)) (hw _ (List.mem_of_getElem? (i := 28) rfl)) (hw _ (List.mem_of_getElem? (i := 3) rfl)) (hw _ (List.mem_of_getElem? (i := 29) rfl)) (by decide) pd_1647763415 (argsL := [(.ref b36), (.int sv), (.int ev), (.int (6 : Int32))]) rfl (rmH l Z a0 hw n0 h97 X.n0le b36 sv ev (6 : Int32) s_ e_ 6 g hsv hev (by omega) (by decide) A_b36) (by rw [hml]; rfl) rfl (by decide) (leB rfl) (hb hby at_388) (by decide) (by decide) (fun T h104 v X hQ => ?_)
  obtain ⟨rfl, hh⟩ := hQ
  rw [hh] at X
  clear hh
  show Goes _ _ _ _ _ _ _ _ T (mkF m 391 #[.val (.long p0), .second, .val (.int p1), .val (.int p2), .val (.int p3), .val (.ref b36), .val (.int sv), .val (.int ev), .val (.ref b94), .val (.int got), .unset, .unset] [(.int (hitI g s_ e_ 6)), (.int ds5)])
  refine Goes.by (g' := (mkF m 392 #[.val (.long p0), .second, .val (.int p1), .val (.int p2), .val (.int p3), .val (.ref b36), .val (.int sv), .val (.int ev), .val (.ref b94), .val (.int got), .unset, .unset] [(.int (ds5 + (hitI g s_ e_ 6)))])) (fun _ q => XS.iadd X.here X.hx rfl (hb hby at_391) rfl q) ?_
  generalize h_ds6 : (ds5 + (hitI g s_ e_ 6)) = ds6
  have hr6 := hitI_toInt g s_ e_ 6
  have h_ds6' : ds6.toInt = (((((((((hitN g s_ e_ 0) + hitN g s_ e_ 1) + hitN g s_ e_ 2) + hitN g s_ e_ 3) + hitN g s_ e_ 4) + hitN g s_ e_ 5) + hitN g s_ e_ 6) : Nat) : Int) := by
    rw [← h_ds6, addI (by rw [h_ds5', hr6.1]; omega) (by rw [h_ds5', hr6.1]; omega), h_ds5', hr6.1]
    omega
  refine Goes.by (g' := (mkF m 394 #[.val (.long p0), .second, .val (.int p1), .val (.int p2), .val (.int p3), .val (.ref b36), .val (.int sv), .val (.int ev), .val (.ref b94), .val (.int got), .unset, .unset] [(.ref b36), (.int ds6)])) (fun _ q => XS.aload X.here X.hx rfl (hb hby at_392) rfl rfl q) ?_
  refine Goes.by (g' := (mkF m 396 #[.val (.long p0), .second, .val (.int p1), .val (.int p2), .val (.int p3), .val (.ref b36), .val (.int sv), .val (.int ev), .val (.ref b94), .val (.int got), .unset, .unset] [(.int sv), (.ref b36), (.int ds6)])) (fun _ q => XS.iload X.here X.hx rfl (hb hby at_394) rfl q) ?_
  refine Goes.by (g' := (mkF m 398 #[.val (.long p0), .second, .val (.int p1), .val (.int p2), .val (.int p3), .val (.ref b36), .val (.int sv), .val (.int ev), .val (.ref b94), .val (.int got), .unset, .unset] [(.int ev), (.int sv), (.ref b36), (.int ds6)])) (fun _ q => XS.iload X.here X.hx rfl (hb hby at_396) rfl q) ?_
  refine Goes.by (g' := (mkF m 400 #[.val (.long p0), .second, .val (.int p1), .val (.int p2), .val (.int p3), .val (.ref b36), .val (.int sv), .val (.int ev), .val (.ref b94), .val (.int got), .unset, .unset] [(.int (7 : Int32)), (.int ev), (.int sv), (.ref b36), (.int ds6)])) (fun _ q => XS.bipush X.here X.hx rfl (hb hby at_398) q) ?_
  have X_o := X
  refine X.callS (hw _ (List.mem_of_getElem? (i := 27) rfl)) (hw _ (List.mem_of_getElem? (i := 28) rfl)) (hw _ (List.mem_of_getElem? (i := 3) rfl)) (hw _ (List.mem_of_getElem? (i := 29) rfl)) (by decide) pd_1647763415 (argsL := [(.ref b36), (.int sv), (.int ev), (.int (7 : Int32))]) rfl (rmH l Z a0 hw n0 h97 X.n0le b36 sv ev (7 : Int32) s_ e_ 7 g hsv hev (by omega) (by decide) A_b36) (by rw [hml]; rfl) rfl (by decide) (leB rfl) (hb hby at_400) (by decide) (by decide) (fun T h105 v X hQ => ?_)
  obtain ⟨rfl, hh⟩ := hQ
  rw [hh] at X
  clear hh
  show Goes _ _ _ _ _ _ _ _ T (mkF m 403 #[.val (.long p0), .second, .val (.int p1), .val (.int p2), .val (.int p3), .val (.ref b36), .val (.int sv), .val (.int ev), .val (.ref b94), .val (.int got), .unset, .unset] [(.int (hitI g s_ e_ 7)), (.int ds6)])
  refine Goes.by (g' := (mkF m 404 #[.val (.long p0), .second, .val (.int p1), .val (.int p2), .val (.int p3), .val (.ref b36), .val (.int sv), .val (.int ev), .val (.ref b94), .val (.int got), .unset, .unset] [(.int (ds6 + (hitI g s_ e_ 7)))])) (fun _ q => XS.iadd X.here X.hx rfl (hb hby at_403) rfl q) ?_
  generalize h_ds7 : (ds6 + (hitI g s_ e_ 7)) = ds7
  have hr7 := hitI_toInt g s_ e_ 7
  have h_ds7' : ds7.toInt = ((((((((((hitN g s_ e_ 0) + hitN g s_ e_ 1) + hitN g s_ e_ 2) + hitN g s_ e_ 3) + hitN g s_ e_ 4) + hitN g s_ e_ 5) + hitN g s_ e_ 6) + hitN g s_ e_ 7) : Nat) : Int) := by
    rw [← h_ds7, addI (by rw [h_ds6', hr7.1]; omega) (by rw [h_ds6', hr7.1]; omega), h_ds6', hr7.1]
    omega
  refine Goes.by (g' := (mkF m 406 #[.val (.long p0), .second, .val (.int p1), .val (.int p2), .val (.int p3), .val (.ref b36), .val (.int sv), .val (.int ev), .val (.ref b94), .val (.int got), .val (.int ds7), .unset] [])) (fun _ q => XS.istore X.here X.hx rfl (hb hby at_404) rfl (l' := #[.val (.long p0), .second, .val (.int p1), .val (.int p2), .val (.int p3), .val (.ref b36), .val (.int sv), .val (.int ev), .val (.ref b94), .val (.int got), .val (.int ds7), .unset]) rfl q) ?_
  refine Goes.by (g' := (mkF m 407 #[.val (.long p0), .second, .val (.int p1), .val (.int p2), .val (.int p3), .val (.ref b36), .val (.int sv), .val (.int ev), .val (.ref b94), .val (.int got), .val (.int ds7), .unset] [(.int (1 : Int32))])) (fun _ q => XS.iconst X.here X.hx rfl (hb hby at_406) q) ?_
  refine Goes.by (g' := (mkF m 409 #[.val (.long p0), .second, .val (.int p1), .val (.int p2), .val (.int p3), .val (.ref b36), .val (.int sv), .val (.int ev), .val (.ref b94), .val (.int got), .val (.int ds7), .unset] [(.int ds7), (.int (1 : Int32))])) (fun _ q => XS.iload X.here X.hx rfl (hb hby at_407) rfl q) ?_
  refine Goes.by (g' := (mkF m 410 #[.val (.long p0), .second, .val (.int p1), .val (.int p2), .val (.int p3), .val (.ref b36), .val (.int sv), .val (.int ev), .val (.ref b94), .val (.int got), .val (.int ds7), .unset] [(.int ((1 : Int32) + ds7))])) (fun _ q => XS.iadd X.here X.hx rfl (hb hby at_409) rfl q) ?_
  generalize h_w1 : ((1 : Int32) + ds7) = w1
  have hw1 : w1.toInt = 1 + ds7.toInt := by rw [← h_w1, addI (by omega) (by omega), o1]
  refine Goes.by (g' := (mkF m 411 #[.val (.long p0), .second, .val (.int p1), .val (.int p2), .val (.int p3), .val (.ref b36), .val (.int sv), .val (.int ev), .val (.ref b94), .val (.int got), .val (.int ds7), .unset] [(.int (0 : Int32)), (.int w1)])) (fun _ q => XS.iconst X.here X.hx rfl (hb hby at_410) q) ?_
  refine Goes.by (g' := (mkF m 413 #[.val (.long p0), .second, .val (.int p1), .val (.int p2), .val (.int p3), .val (.ref b36), .val (.int sv), .val (.int ev), .val (.ref b94), .val (.int got), .val (.int ds7), .unset] [(.int ev), (.int (0 : Int32)), (.int w1)])) (fun _ q => XS.iload X.here X.hx rfl (hb hby at_411) rfl q) ?_
  refine Goes.by (g' := (mkF m 415 #[.val (.long p0), .second, .val (.int p1), .val (.int p2), .val (.int p3), .val (.ref b36), .val (.int sv), .val (.int ev), .val (.ref b94), .val (.int got), .val (.int ds7), .unset] [(.int (8 : Int32)), (.int ev), (.int (0 : Int32)), (.int w1)])) (fun _ q => XS.bipush X.here X.hx rfl (hb hby at_413) q) ?_
  refine Goes.by (g' := (mkF m 416 #[.val (.long p0), .second, .val (.int p1), .val (.int p2), .val (.int p3), .val (.ref b36), .val (.int sv), .val (.int ev), .val (.ref b94), .val (.int got), .val (.int ds7), .unset] [(.int (ev - (8 : Int32))), (.int (0 : Int32)), (.int w1)])) (fun _ q => XS.isub X.here X.hx rfl (hb hby at_415) rfl q) ?_
  generalize h_e8 : (ev - (8 : Int32)) = e8
  have he8 : e8.toInt = ev.toInt - 8 := by rw [← h_e8, subI (by omega) (by omega), o8]
  have X_o := X
  refine X.callS (hw _ (List.mem_of_getElem? (i := 30) rfl)) (hw _ (List.mem_of_getElem? (i := 31) rfl)) (hw _ (List.mem_of_getElem? (i := 32) rfl)) (hw _ (List.mem_of_getElem? (i := 33) rfl)) (by decide) pd_184293393 (argsL := [(.int (0 : Int32)), (.int e8)]) rfl (rmMx l Z a0 hw n0 h97 X.n0le (0 : Int32) e8) (by rw [hml]; rfl) rfl (by decide) (leB rfl) (hb hby at_416) (by decide) (by decide) (fun T h106 v X hQ => ?_)
  obtain ⟨rfl, hh⟩ := hQ
  rw [hh] at X
  clear hh
  show Goes _ _ _ _ _ _ _ _ T (mkF m 419 #[.val (.long p0), .second, .val (.int p1), .val (.int p2), .val (.int p3), .val (.ref b36), .val (.int sv), .val (.int ev), .val (.ref b94), .val (.int got), .val (.int ds7), .unset] [(.int (if (0 : Int32) < e8 then e8 else (0 : Int32))), (.int w1)])
  generalize h_mxv : (if (0 : Int32) < e8 then e8 else (0 : Int32)) = mxv
  have hmx : mxv.toInt = ((e_ - 8 : Nat) : Int) := by
    rw [← h_mxv]
    by_cases q : (0 : Int32) < e8
    · rw [if_pos q]; rw [ltI] at q; omega
    · rw [if_neg q]; rw [ltI] at q; omega
  refine Goes.by (g' := (mkF m 420 #[.val (.long p0), .second, .val (.int p1), .val (.int p2), .val (.int p3), .val (.ref b36), .val (.int sv), .val (.int ev), .val (.ref b94), .val (.int got), .val (.int ds7), .unset] [(.int (w1 + mxv))])) (fun _ q => XS.iadd X.here X.hx rfl (hb hby at_419) rfl q) ?_
  generalize h_want : (w1 + mxv) = want
  have hwant : want.toInt = ((1 + cntH g s_ e_ 32 0 : Nat) : Int) := by
    have q8 := cnt_run (g := g) (s := s_) (e := e_) (by omega) hg (n := 24) (i := 8) (Nat.le_refl _) (by omega)
    have qs : cntH g s_ e_ 32 0 = hitN g s_ e_ 0 + (hitN g s_ e_ 1 + (hitN g s_ e_ 2 + (hitN g s_ e_ 3 + (hitN g s_ e_ 4 + (hitN g s_ e_ 5 + (hitN g s_ e_ 6 + (hitN g s_ e_ 7 + cntH g s_ e_ 24 8))))))) := rfl
    rw [← h_want, addI (by omega) (by omega), hw1, hmx]
    omega
  have hsum : cntH g s_ e_ 32 0 ≤ 32 := by
    have q8 := cnt_run (g := g) (s := s_) (e := e_) (by omega) hg (n := 24) (i := 8) (Nat.le_refl _) (by omega)
    have qs : cntH g s_ e_ 32 0 = hitN g s_ e_ 0 + (hitN g s_ e_ 1 + (hitN g s_ e_ 2 + (hitN g s_ e_ 3 + (hitN g s_ e_ 4 + (hitN g s_ e_ 5 + (hitN g s_ e_ 6 + (hitN g s_ e_ 7 + cntH g s_ e_ 24 8))))))) := rfl
    omega
  refine Goes.by (g' := (mkF m 422 #[.val (.long p0), .second, .val (.int p1), .val (.int p2), .val (.int p3), .val (.ref b36), .val (.int sv), .val (.int ev), .val (.ref b94), .val (.int got), .val (.int ds7), .val (.int want)] [])) (fun _ q => XS.istore X.here X.hx rfl (hb hby at_420) rfl (l' := #[.val (.long p0), .second, .val (.int p1), .val (.int p2), .val (.int p3), .val (.ref b36), .val (.int sv), .val (.int ev), .val (.ref b94), .val (.int got), .val (.int ds7), .val (.int want)]) rfl q) ?_
  refine Goes.by (g' := (mkF m 424 #[.val (.long p0), .second, .val (.int p1), .val (.int p2), .val (.int p3), .val (.ref b36), .val (.int sv), .val (.int ev), .val (.ref b94), .val (.int got), .val (.int ds7), .val (.int want)] [(.int got)])) (fun _ q => XS.iload X.here X.hx rfl (hb hby at_422) rfl q) ?_
  refine Goes.by (g' := (mkF m 426 #[.val (.long p0), .second, .val (.int p1), .val (.int p2), .val (.int p3), .val (.ref b36), .val (.int sv), .val (.int ev), .val (.ref b94), .val (.int got), .val (.int ds7), .val (.int want)] [(.int want), (.int got)])) (fun _ q => XS.iload X.here X.hx rfl (hb hby at_424) rfl q) ?_
  refine Goes.by (g' := (mkF m 431 #[.val (.long p0), .second, .val (.int p1), .val (.int p2), .val (.int p3), .val (.ref b36), .val (.int sv), .val (.int ev), .val (.ref b94), .val (.int got), .val (.int ds7), .val (.int want)] [])) (fun _ q => XS.icmpYes X.here X.hx rfl (pc0 := 426) (pc' := 431) rfl (hb hby at_426) rfl (teq (show got = want from (i32_eq (by rw [hgot, hwant])))).1 (by decide) (by decide) q) ?_
  refine Goes.by (g' := (mkF m 433 #[.val (.long p0), .second, .val (.int p1), .val (.int p2), .val (.int p3), .val (.ref b36), .val (.int sv), .val (.int ev), .val (.ref b94), .val (.int got), .val (.int ds7), .val (.int want)] [(.ref b94)])) (fun _ q => XS.aload X.here X.hx rfl (hb hby at_431) rfl rfl q) ?_
  have X_o := X
  refine X.callV E_b94 (hw _ (List.mem_of_getElem? (i := 34) rfl)) (hw _ (List.mem_of_getElem? (i := 35) rfl)) (hw _ (List.mem_of_getElem? (i := 37) rfl)) (hw _ (List.mem_of_getElem? (i := 23) rfl)) rfl (hw _ (List.mem_of_getElem? (i := 36) rfl)) (hw _ (List.mem_of_getElem? (i := 8) rfl)) (hw _ (List.mem_of_getElem? (i := 38) rfl)) (by decide) pd_2087958803 (argsL := []) rfl (rmBy l Z a0 hw n0 h97 X.n0le b94 b36 F_b94_bytes) (by rw [hml]; rfl) rfl (by decide) (leB rfl) (hb hby at_433) (by decide) (by decide) (fun T h107 v X hQ => ?_)
  obtain ⟨rfl, hh⟩ := hQ
  rw [hh] at X
  clear hh
  show Goes _ _ _ _ _ _ _ _ T (mkF m 436 #[.val (.long p0), .second, .val (.int p1), .val (.int p2), .val (.int p3), .val (.ref b36), .val (.int sv), .val (.int ev), .val (.ref b94), .val (.int got), .val (.int ds7), .val (.int want)] [(.ref b36)])
  refine Goes.by (g' := (mkF m 438 #[.val (.long p0), .second, .val (.int p1), .val (.int p2), .val (.int p3), .val (.ref b36), .val (.int sv), .val (.int ev), .val (.ref b94), .val (.int got), .val (.int ds7), .val (.int want)] [(.ref b36), (.ref b36)])) (fun _ q => XS.aload X.here X.hx rfl (hb hby at_436) rfl rfl q) ?_
  refine X.acmp rfl rfl (cd := .eq) (x := (.ref b36)) (y := (.ref b36)) (same := true) (pc' := 443) (hb hby at_438) (decide_eq_true rfl) (by decide) (by decide) ?_
  show Goes _ _ _ _ _ _ _ _ T (mkF m 443 #[.val (.long p0), .second, .val (.int p1), .val (.int p2), .val (.int p3), .val (.ref b36), .val (.int sv), .val (.int ev), .val (.ref b94), .val (.int got), .val (.int ds7), .val (.int want)] [])
  refine Goes.by (g' := (mkF m 445 #[.val (.long p0), .second, .val (.int p1), .val (.int p2), .val (.int p3), .val (.ref b36), .val (.int sv), .val (.int ev), .val (.ref b94), .val (.int got), .val (.int ds7), .val (.int want)] [(.ref b94)])) (fun _ q => XS.aload X.here X.hx rfl (hb hby at_443) rfl rfl q) ?_
  refine X.getS (Or.inl (hw _ (List.mem_of_getElem? (i := 39) rfl))) (host := "") Via.refl S_POSITION_DATE (hb hby at_445) (fun T X => ?_)
  show Goes _ _ _ _ _ _ _ _ T (mkF m 448 #[.val (.long p0), .second, .val (.int p1), .val (.int p2), .val (.int p3), .val (.ref b36), .val (.int sv), .val (.int ev), .val (.ref b94), .val (.int got), .val (.int ds7), .val (.int want)] [(.ref a_POSITION_DATE), (.ref b94)])
  have X_o := X
  refine X.callV E_b94 (hw _ (List.mem_of_getElem? (i := 42) rfl)) (hw _ (List.mem_of_getElem? (i := 43) rfl)) (hw _ (List.mem_of_getElem? (i := 45) rfl)) (hw _ (List.mem_of_getElem? (i := 23) rfl)) rfl (hw _ (List.mem_of_getElem? (i := 44) rfl)) (hw _ (List.mem_of_getElem? (i := 8) rfl)) (hw _ (List.mem_of_getElem? (i := 46) rfl)) (by decide) pd_2911223580 (argsL := [(.ref a_POSITION_DATE)]) rfl (rmSt l Z a0 hw n0 h97 X.n0le b94 sb a_POSITION_DATE 0 0 (by decide) (by decide) c F_POSITION_DATE E_POSITION_DATE F_b94_starts A_sb) (by rw [hml]; rfl) rfl (by decide) (leB rfl) (hb hby at_448) (by decide) (by decide) (fun T h108 v X hQ => ?_)
  obtain ⟨rfl, hh⟩ := hQ
  rw [hh] at X
  clear hh
  show Goes _ _ _ _ _ _ _ _ T (mkF m 451 #[.val (.long p0), .second, .val (.int p1), .val (.int p2), .val (.int p3), .val (.ref b36), .val (.int sv), .val (.int ev), .val (.ref b94), .val (.int got), .val (.int ds7), .val (.int want)] [(.int (c 0))])
  refine Goes.by (g' := (mkF m 453 #[.val (.long p0), .second, .val (.int p1), .val (.int p2), .val (.int p3), .val (.ref b36), .val (.int sv), .val (.int ev), .val (.ref b94), .val (.int got), .val (.int ds7), .val (.int want)] [(.int sv), (.int (c 0))])) (fun _ q => XS.iload X.here X.hx rfl (hb hby at_451) rfl q) ?_
  refine Goes.by (g' := (mkF m 458 #[.val (.long p0), .second, .val (.int p1), .val (.int p2), .val (.int p3), .val (.ref b36), .val (.int sv), .val (.int ev), .val (.ref b94), .val (.int got), .val (.int ds7), .val (.int want)] [])) (fun _ q => XS.icmpYes X.here X.hx rfl (pc0 := 453) (pc' := 458) rfl (hb hby at_453) rfl (teq (show (c 0) = sv from hc0)).1 (by decide) (by decide) q) ?_
  refine Goes.by (g' := (mkF m 460 #[.val (.long p0), .second, .val (.int p1), .val (.int p2), .val (.int p3), .val (.ref b36), .val (.int sv), .val (.int ev), .val (.ref b94), .val (.int got), .val (.int ds7), .val (.int want)] [(.ref b94)])) (fun _ q => XS.aload X.here X.hx rfl (hb hby at_458) rfl rfl q) ?_
  refine X.getS (Or.inl (hw _ (List.mem_of_getElem? (i := 39) rfl))) (host := "") Via.refl S_POSITION_DATE (hb hby at_460) (fun T X => ?_)
  show Goes _ _ _ _ _ _ _ _ T (mkF m 463 #[.val (.long p0), .second, .val (.int p1), .val (.int p2), .val (.int p3), .val (.ref b36), .val (.int sv), .val (.int ev), .val (.ref b94), .val (.int got), .val (.int ds7), .val (.int want)] [(.ref a_POSITION_DATE), (.ref b94)])
  have X_o := X
  refine X.callV E_b94 (hw _ (List.mem_of_getElem? (i := 61) rfl)) (hw _ (List.mem_of_getElem? (i := 62) rfl)) (hw _ (List.mem_of_getElem? (i := 64) rfl)) (hw _ (List.mem_of_getElem? (i := 23) rfl)) rfl (hw _ (List.mem_of_getElem? (i := 63) rfl)) (hw _ (List.mem_of_getElem? (i := 8) rfl)) (hw _ (List.mem_of_getElem? (i := 65) rfl)) (by decide) pd_2911223580 (argsL := [(.ref a_POSITION_DATE)]) rfl (rmEn l Z a0 hw n0 h97 X.n0le b94 sb a_POSITION_DATE 0 0 (by decide) (by decide) c F_POSITION_DATE E_POSITION_DATE F_b94_starts A_sb) (by rw [hml]; rfl) rfl (by decide) (leB rfl) (hb hby at_463) (by decide) (by decide) (fun T h109 v X hQ => ?_)
  obtain ⟨rfl, hh⟩ := hQ
  rw [hh] at X
  clear hh
  show Goes _ _ _ _ _ _ _ _ T (mkF m 466 #[.val (.long p0), .second, .val (.int p1), .val (.int p2), .val (.int p3), .val (.ref b36), .val (.int sv), .val (.int ev), .val (.ref b94), .val (.int got), .val (.int ds7), .val (.int want)] [(.int (c (0 + 1) - 1))])
  refine Goes.by (g' := (mkF m 468 #[.val (.long p0), .second, .val (.int p1), .val (.int p2), .val (.int p3), .val (.ref b36), .val (.int sv), .val (.int ev), .val (.ref b94), .val (.int got), .val (.int ds7), .val (.int want)] [(.ref b36), (.int (c (0 + 1) - 1))])) (fun _ q => XS.aload X.here X.hx rfl (hb hby at_466) rfl rfl q) ?_
  refine Goes.by (g' := (mkF m 470 #[.val (.long p0), .second, .val (.int p1), .val (.int p2), .val (.int p3), .val (.ref b36), .val (.int sv), .val (.int ev), .val (.ref b94), .val (.int got), .val (.int ds7), .val (.int want)] [(.int sv), (.ref b36), (.int (c (0 + 1) - 1))])) (fun _ q => XS.iload X.here X.hx rfl (hb hby at_468) rfl q) ?_
  refine Goes.by (g' := (mkF m 472 #[.val (.long p0), .second, .val (.int p1), .val (.int p2), .val (.int p3), .val (.ref b36), .val (.int sv), .val (.int ev), .val (.ref b94), .val (.int got), .val (.int ds7), .val (.int want)] [(.int ev), (.int sv), (.ref b36), (.int (c (0 + 1) - 1))])) (fun _ q => XS.iload X.here X.hx rfl (hb hby at_470) rfl q) ?_
  refine Goes.by (g' := (mkF m 473 #[.val (.long p0), .second, .val (.int p1), .val (.int p2), .val (.int p3), .val (.ref b36), .val (.int sv), .val (.int ev), .val (.ref b94), .val (.int got), .val (.int ds7), .val (.int want)] [(.int (1 : Int32)), (.int ev), (.int sv), (.ref b36), (.int (c (0 + 1) - 1))])) (fun _ q => XS.iconst X.here X.hx rfl (hb hby at_472) q) ?_
  have X_o := X
  refine X.callS (hw _ (List.mem_of_getElem? (i := 66) rfl)) (hw _ (List.mem_of_getElem? (i := 67) rfl)) (hw _ (List.mem_of_getElem? (i := 3) rfl)) (hw _ (List.mem_of_getElem? (i := 68) rfl)) (by decide) pd_1647763415 (argsL := [(.ref b36), (.int sv), (.int ev), (.int (1 : Int32))]) rfl (rmK l Z a0 hw n0 h97 X.n0le b36 sv ev (1 : Int32) s_ e_ 1 g hsv hev (by omega) (by omega) (by decide) (by decide) (by decide) hg A_b36) (by rw [hml]; rfl) rfl (by decide) (leB rfl) (hb hby at_473) (by decide) (by decide) (fun T h110 v X hQ => ?_)
  obtain ⟨kt1, rfl, hkt1, hh⟩ := hQ
  rw [hh] at X
  clear hh
  show Goes _ _ _ _ _ _ _ _ T (mkF m 476 #[.val (.long p0), .second, .val (.int p1), .val (.int p2), .val (.int p3), .val (.ref b36), .val (.int sv), .val (.int ev), .val (.ref b94), .val (.int got), .val (.int ds7), .val (.int want)] [(.int kt1), (.int (c (0 + 1) - 1))])
  refine Goes.by (g' := (mkF m 481 #[.val (.long p0), .second, .val (.int p1), .val (.int p2), .val (.int p3), .val (.ref b36), .val (.int sv), .val (.int ev), .val (.ref b94), .val (.int got), .val (.int ds7), .val (.int want)] [])) (fun _ q => XS.icmpYes X.here X.hx rfl (pc0 := 476) (pc' := 481) rfl (hb hby at_476) rfl (teq (show (c (0 + 1) - 1) = kt1 from (endEqN (nthH_le g s_ e_ 32 0 1 (by omega)) (hcj 1 (by omega) (by omega) (Or.inl (by omega))) hkt1))).1 (by decide) (by decide) q) ?_
  refine Goes.by (g' := (mkF m 483 #[.val (.long p0), .second, .val (.int p1), .val (.int p2), .val (.int p3), .val (.ref b36), .val (.int sv), .val (.int ev), .val (.ref b94), .val (.int got), .val (.int ds7), .val (.int want)] [(.int want)])) (fun _ q => XS.iload X.here X.hx rfl (hb hby at_481) rfl q) ?_
  refine Goes.by (g' := (mkF m 484 #[.val (.long p0), .second, .val (.int p1), .val (.int p2), .val (.int p3), .val (.ref b36), .val (.int sv), .val (.int ev), .val (.ref b94), .val (.int got), .val (.int ds7), .val (.int want)] [(.int (2 : Int32)), (.int want)])) (fun _ q => XS.iconst X.here X.hx rfl (hb hby at_483) q) ?_
  by_cases hB111 : want < (2 : Int32)
  · skip
    refine Goes.by (g' := (mkF m 510 #[.val (.long p0), .second, .val (.int p1), .val (.int p2), .val (.int p3), .val (.ref b36), .val (.int sv), .val (.int ev), .val (.ref b94), .val (.int got), .val (.int ds7), .val (.int want)] [])) (fun _ q => XS.icmpYes X.here X.hx rfl (pc0 := 484) (pc' := 510) rfl (hb hby at_484) rfl (tlt hB111).1 (by decide) (by decide) q) ?_
    refine Goes.by (g' := (mkF m 512 #[.val (.long p0), .second, .val (.int p1), .val (.int p2), .val (.int p3), .val (.ref b36), .val (.int sv), .val (.int ev), .val (.ref b94), .val (.int got), .val (.int ds7), .val (.int want)] [(.int want)])) (fun _ q => XS.iload X.here X.hx rfl (hb hby at_510) rfl q) ?_
    refine Goes.by (g' := (mkF m 514 #[.val (.long p0), .second, .val (.int p1), .val (.int p2), .val (.int p3), .val (.ref b36), .val (.int sv), .val (.int ev), .val (.ref b94), .val (.int got), .val (.int ds7), .val (.int want)] [(.int (10 : Int32)), (.int want)])) (fun _ q => XS.bipush X.here X.hx rfl (hb hby at_512) q) ?_
    refine Goes.by (g' := (mkF m 541 #[.val (.long p0), .second, .val (.int p1), .val (.int p2), .val (.int p3), .val (.ref b36), .val (.int sv), .val (.int ev), .val (.ref b94), .val (.int got), .val (.int ds7), .val (.int want)] [])) (fun _ q => XS.icmpYes X.here X.hx rfl (pc0 := 514) (pc' := 541) rfl (hb hby at_514) rfl (tlt (show want < (10 : Int32) from (by simp only [ltI] at hB111 ⊢; have : (2 : Int32).toInt = 2 := (by decide); have : (10 : Int32).toInt = 10 := (by decide); have : (21 : Int32).toInt = 21 := (by decide); omega))).1 (by decide) (by decide) q) ?_
    refine Goes.by (g' := (mkF m 543 #[.val (.long p0), .second, .val (.int p1), .val (.int p2), .val (.int p3), .val (.ref b36), .val (.int sv), .val (.int ev), .val (.ref b94), .val (.int got), .val (.int ds7), .val (.int want)] [(.int want)])) (fun _ q => XS.iload X.here X.hx rfl (hb hby at_541) rfl q) ?_
    refine Goes.by (g' := (mkF m 545 #[.val (.long p0), .second, .val (.int p1), .val (.int p2), .val (.int p3), .val (.ref b36), .val (.int sv), .val (.int ev), .val (.ref b94), .val (.int got), .val (.int ds7), .val (.int want)] [(.int (21 : Int32)), (.int want)])) (fun _ q => XS.bipush X.here X.hx rfl (hb hby at_543) q) ?_
    refine Goes.by (g' := (mkF m 574 #[.val (.long p0), .second, .val (.int p1), .val (.int p2), .val (.int p3), .val (.ref b36), .val (.int sv), .val (.int ev), .val (.ref b94), .val (.int got), .val (.int ds7), .val (.int want)] [])) (fun _ q => XS.icmpYes X.here X.hx rfl (pc0 := 545) (pc' := 574) rfl (hb hby at_545) rfl (tlt (show want < (21 : Int32) from (by simp only [ltI] at hB111 ⊢; have : (2 : Int32).toInt = 2 := (by decide); have : (10 : Int32).toInt = 10 := (by decide); have : (21 : Int32).toInt = 21 := (by decide); omega))).1 (by decide) (by decide) q) ?_
    refine Goes.by (g' := (mkF m 576 #[.val (.long p0), .second, .val (.int p1), .val (.int p2), .val (.int p3), .val (.ref b36), .val (.int sv), .val (.int ev), .val (.ref b94), .val (.int got), .val (.int ds7), .val (.int want)] [(.int want)])) (fun _ q => XS.iload X.here X.hx rfl (hb hby at_574) rfl q) ?_
    refine Goes.by (g' := (mkF m 578 #[.val (.long p0), .second, .val (.int p1), .val (.int p2), .val (.int p3), .val (.ref b36), .val (.int sv), .val (.int ev), .val (.ref b94), .val (.int got), .val (.int ds7), .val (.int want)] [(.int (22 : Int32)), (.int want)])) (fun _ q => XS.bipush X.here X.hx rfl (hb hby at_576) q) ?_
    refine Goes.by (g' := (mkF m 596 #[.val (.long p0), .second, .val (.int p1), .val (.int p2), .val (.int p3), .val (.ref b36), .val (.int sv), .val (.int ev), .val (.ref b94), .val (.int got), .val (.int ds7), .val (.int want)] [])) (fun _ q => XS.icmpYes X.here X.hx rfl (pc0 := 578) (pc' := 596) rfl (hb hby at_578) rfl (feq (show ¬ want = (22 : Int32) from (by intro q0; rw [q0] at hB111; simp only [ltI] at hB111; have : (2 : Int32).toInt = 2 := (by decide); have : (10 : Int32).toInt = 10 := (by decide); have : (21 : Int32).toInt = 21 := (by decide); omega))).2 (by decide) (by decide) q) ?_
    refine Goes.by (g' := (mkF m 597 #[.val (.long p0), .second, .val (.int p1), .val (.int p2), .val (.int p3), .val (.ref b36), .val (.int sv), .val (.int ev), .val (.ref b94), .val (.int got), .val (.int ds7), .val (.int want)] [(.int (1 : Int32))])) (fun _ q => XS.iconst X.here X.hx rfl (hb hby at_596) q) ?_
    exact X.retZ hret (hb hby at_597) (by decide) (by decide) rfl
  · skip
    refine Goes.by (g' := (mkF m 487 #[.val (.long p0), .second, .val (.int p1), .val (.int p2), .val (.int p3), .val (.ref b36), .val (.int sv), .val (.int ev), .val (.ref b94), .val (.int got), .val (.int ds7), .val (.int want)] [])) (fun _ q => XS.icmpNo X.here X.hx rfl (hb hby at_484) rfl (flt hB111).1 q) ?_
    refine Goes.by (g' := (mkF m 489 #[.val (.long p0), .second, .val (.int p1), .val (.int p2), .val (.int p3), .val (.ref b36), .val (.int sv), .val (.int ev), .val (.ref b94), .val (.int got), .val (.int ds7), .val (.int want)] [(.ref b94)])) (fun _ q => XS.aload X.here X.hx rfl (hb hby at_487) rfl rfl q) ?_
    refine X.getS (Or.inl (hw _ (List.mem_of_getElem? (i := 69) rfl))) (host := "") Via.refl S_SEGMENT_INDICATOR (hb hby at_489) (fun T X => ?_)
    show Goes _ _ _ _ _ _ _ _ T (mkF m 492 #[.val (.long p0), .second, .val (.int p1), .val (.int p2), .val (.int p3), .val (.ref b36), .val (.int sv), .val (.int ev), .val (.ref b94), .val (.int got), .val (.int ds7), .val (.int want)] [(.ref a_SEGMENT_INDICATOR), (.ref b94)])
    have X_o := X
    refine X.callV E_b94 (hw _ (List.mem_of_getElem? (i := 61) rfl)) (hw _ (List.mem_of_getElem? (i := 62) rfl)) (hw _ (List.mem_of_getElem? (i := 64) rfl)) (hw _ (List.mem_of_getElem? (i := 23) rfl)) rfl (hw _ (List.mem_of_getElem? (i := 63) rfl)) (hw _ (List.mem_of_getElem? (i := 8) rfl)) (hw _ (List.mem_of_getElem? (i := 65) rfl)) (by decide) pd_2911223580 (argsL := [(.ref a_SEGMENT_INDICATOR)]) rfl (rmEn l Z a0 hw n0 h97 X.n0le b94 sb a_SEGMENT_INDICATOR 1 1 (by decide) (by decide) c F_SEGMENT_INDICATOR E_SEGMENT_INDICATOR F_b94_starts A_sb) (by rw [hml]; rfl) rfl (by decide) (leB rfl) (hb hby at_492) (by decide) (by decide) (fun T h112 v X hQ => ?_)
    obtain ⟨rfl, hh⟩ := hQ
    rw [hh] at X
    clear hh
    show Goes _ _ _ _ _ _ _ _ T (mkF m 495 #[.val (.long p0), .second, .val (.int p1), .val (.int p2), .val (.int p3), .val (.ref b36), .val (.int sv), .val (.int ev), .val (.ref b94), .val (.int got), .val (.int ds7), .val (.int want)] [(.int (c (1 + 1) - 1))])
    refine Goes.by (g' := (mkF m 497 #[.val (.long p0), .second, .val (.int p1), .val (.int p2), .val (.int p3), .val (.ref b36), .val (.int sv), .val (.int ev), .val (.ref b94), .val (.int got), .val (.int ds7), .val (.int want)] [(.ref b36), (.int (c (1 + 1) - 1))])) (fun _ q => XS.aload X.here X.hx rfl (hb hby at_495) rfl rfl q) ?_
    refine Goes.by (g' := (mkF m 499 #[.val (.long p0), .second, .val (.int p1), .val (.int p2), .val (.int p3), .val (.ref b36), .val (.int sv), .val (.int ev), .val (.ref b94), .val (.int got), .val (.int ds7), .val (.int want)] [(.int sv), (.ref b36), (.int (c (1 + 1) - 1))])) (fun _ q => XS.iload X.here X.hx rfl (hb hby at_497) rfl q) ?_
    refine Goes.by (g' := (mkF m 501 #[.val (.long p0), .second, .val (.int p1), .val (.int p2), .val (.int p3), .val (.ref b36), .val (.int sv), .val (.int ev), .val (.ref b94), .val (.int got), .val (.int ds7), .val (.int want)] [(.int ev), (.int sv), (.ref b36), (.int (c (1 + 1) - 1))])) (fun _ q => XS.iload X.here X.hx rfl (hb hby at_499) rfl q) ?_
    refine Goes.by (g' := (mkF m 502 #[.val (.long p0), .second, .val (.int p1), .val (.int p2), .val (.int p3), .val (.ref b36), .val (.int sv), .val (.int ev), .val (.ref b94), .val (.int got), .val (.int ds7), .val (.int want)] [(.int (2 : Int32)), (.int ev), (.int sv), (.ref b36), (.int (c (1 + 1) - 1))])) (fun _ q => XS.iconst X.here X.hx rfl (hb hby at_501) q) ?_
    have X_o := X
    refine X.callS (hw _ (List.mem_of_getElem? (i := 66) rfl)) (hw _ (List.mem_of_getElem? (i := 67) rfl)) (hw _ (List.mem_of_getElem? (i := 3) rfl)) (hw _ (List.mem_of_getElem? (i := 68) rfl)) (by decide) pd_1647763415 (argsL := [(.ref b36), (.int sv), (.int ev), (.int (2 : Int32))]) rfl (rmK l Z a0 hw n0 h97 X.n0le b36 sv ev (2 : Int32) s_ e_ 2 g hsv hev (by omega) (by omega) (by decide) (by decide) (by decide) hg A_b36) (by rw [hml]; rfl) rfl (by decide) (leB rfl) (hb hby at_502) (by decide) (by decide) (fun T h113 v X hQ => ?_)
    obtain ⟨kt2, rfl, hkt2, hh⟩ := hQ
    rw [hh] at X
    clear hh
    show Goes _ _ _ _ _ _ _ _ T (mkF m 505 #[.val (.long p0), .second, .val (.int p1), .val (.int p2), .val (.int p3), .val (.ref b36), .val (.int sv), .val (.int ev), .val (.ref b94), .val (.int got), .val (.int ds7), .val (.int want)] [(.int kt2), (.int (c (1 + 1) - 1))])
    refine Goes.by (g' := (mkF m 510 #[.val (.long p0), .second, .val (.int p1), .val (.int p2), .val (.int p3), .val (.ref b36), .val (.int sv), .val (.int ev), .val (.ref b94), .val (.int got), .val (.int ds7), .val (.int want)] [])) (fun _ q => XS.icmpYes X.here X.hx rfl (pc0 := 505) (pc' := 510) rfl (hb hby at_505) rfl (teq (show (c (1 + 1) - 1) = kt2 from (endEqN (nthH_le g s_ e_ 32 0 2 (by omega)) (hcj 2 (by omega) (by rw [ltI, hwant] at hB111; have : (2 : Int32).toInt = 2 := (by decide); omega) (Or.inl (by omega))) hkt2))).1 (by decide) (by decide) q) ?_
    refine Goes.by (g' := (mkF m 512 #[.val (.long p0), .second, .val (.int p1), .val (.int p2), .val (.int p3), .val (.ref b36), .val (.int sv), .val (.int ev), .val (.ref b94), .val (.int got), .val (.int ds7), .val (.int want)] [(.int want)])) (fun _ q => XS.iload X.here X.hx rfl (hb hby at_510) rfl q) ?_
    refine Goes.by (g' := (mkF m 514 #[.val (.long p0), .second, .val (.int p1), .val (.int p2), .val (.int p3), .val (.ref b36), .val (.int sv), .val (.int ev), .val (.ref b94), .val (.int got), .val (.int ds7), .val (.int want)] [(.int (10 : Int32)), (.int want)])) (fun _ q => XS.bipush X.here X.hx rfl (hb hby at_512) q) ?_
    by_cases hB114 : want < (10 : Int32)
    · skip
      refine Goes.by (g' := (mkF m 541 #[.val (.long p0), .second, .val (.int p1), .val (.int p2), .val (.int p3), .val (.ref b36), .val (.int sv), .val (.int ev), .val (.ref b94), .val (.int got), .val (.int ds7), .val (.int want)] [])) (fun _ q => XS.icmpYes X.here X.hx rfl (pc0 := 514) (pc' := 541) rfl (hb hby at_514) rfl (tlt hB114).1 (by decide) (by decide) q) ?_
      refine Goes.by (g' := (mkF m 543 #[.val (.long p0), .second, .val (.int p1), .val (.int p2), .val (.int p3), .val (.ref b36), .val (.int sv), .val (.int ev), .val (.ref b94), .val (.int got), .val (.int ds7), .val (.int want)] [(.int want)])) (fun _ q => XS.iload X.here X.hx rfl (hb hby at_541) rfl q) ?_
      refine Goes.by (g' := (mkF m 545 #[.val (.long p0), .second, .val (.int p1), .val (.int p2), .val (.int p3), .val (.ref b36), .val (.int sv), .val (.int ev), .val (.ref b94), .val (.int got), .val (.int ds7), .val (.int want)] [(.int (21 : Int32)), (.int want)])) (fun _ q => XS.bipush X.here X.hx rfl (hb hby at_543) q) ?_
      refine Goes.by (g' := (mkF m 574 #[.val (.long p0), .second, .val (.int p1), .val (.int p2), .val (.int p3), .val (.ref b36), .val (.int sv), .val (.int ev), .val (.ref b94), .val (.int got), .val (.int ds7), .val (.int want)] [])) (fun _ q => XS.icmpYes X.here X.hx rfl (pc0 := 545) (pc' := 574) rfl (hb hby at_545) rfl (tlt (show want < (21 : Int32) from (by simp only [ltI] at hB111 hB114 ⊢; have : (2 : Int32).toInt = 2 := (by decide); have : (10 : Int32).toInt = 10 := (by decide); have : (21 : Int32).toInt = 21 := (by decide); omega))).1 (by decide) (by decide) q) ?_
      refine Goes.by (g' := (mkF m 576 #[.val (.long p0), .second, .val (.int p1), .val (.int p2), .val (.int p3), .val (.ref b36), .val (.int sv), .val (.int ev), .val (.ref b94), .val (.int got), .val (.int ds7), .val (.int want)] [(.int want)])) (fun _ q => XS.iload X.here X.hx rfl (hb hby at_574) rfl q) ?_
      refine Goes.by (g' := (mkF m 578 #[.val (.long p0), .second, .val (.int p1), .val (.int p2), .val (.int p3), .val (.ref b36), .val (.int sv), .val (.int ev), .val (.ref b94), .val (.int got), .val (.int ds7), .val (.int want)] [(.int (22 : Int32)), (.int want)])) (fun _ q => XS.bipush X.here X.hx rfl (hb hby at_576) q) ?_
      refine Goes.by (g' := (mkF m 596 #[.val (.long p0), .second, .val (.int p1), .val (.int p2), .val (.int p3), .val (.ref b36), .val (.int sv), .val (.int ev), .val (.ref b94), .val (.int got), .val (.int ds7), .val (.int want)] [])) (fun _ q => XS.icmpYes X.here X.hx rfl (pc0 := 578) (pc' := 596) rfl (hb hby at_578) rfl (feq (show ¬ want = (22 : Int32) from (by intro q0; rw [q0] at hB114; simp only [ltI] at hB114; have : (2 : Int32).toInt = 2 := (by decide); have : (10 : Int32).toInt = 10 := (by decide); have : (21 : Int32).toInt = 21 := (by decide); omega))).2 (by decide) (by decide) q) ?_
      refine Goes.by (g' := (mkF m 597 #[.val (.long p0), .second, .val (.int p1), .val (.int p2), .val (.int p3), .val (.ref b36), .val (.int sv), .val (.int ev), .val (.ref b94), .val (.int got), .val (.int ds7), .val (.int want)] [(.int (1 : Int32))])) (fun _ q => XS.iconst X.here X.hx rfl (hb hby at_596) q) ?_
      exact X.retZ hret (hb hby at_597) (by decide) (by decide) rfl
    · skip
      refine Goes.by (g' := (mkF m 517 #[.val (.long p0), .second, .val (.int p1), .val (.int p2), .val (.int p3), .val (.ref b36), .val (.int sv), .val (.int ev), .val (.ref b94), .val (.int got), .val (.int ds7), .val (.int want)] [])) (fun _ q => XS.icmpNo X.here X.hx rfl (hb hby at_514) rfl (flt hB114).1 q) ?_
      refine Goes.by (g' := (mkF m 519 #[.val (.long p0), .second, .val (.int p1), .val (.int p2), .val (.int p3), .val (.ref b36), .val (.int sv), .val (.int ev), .val (.ref b94), .val (.int got), .val (.int ds7), .val (.int want)] [(.ref b94)])) (fun _ q => XS.aload X.here X.hx rfl (hb hby at_517) rfl rfl q) ?_
      refine X.getS (Or.inl (hw _ (List.mem_of_getElem? (i := 71) rfl))) (host := "") Via.refl S_SYMBOL (hb hby at_519) (fun T X => ?_)
      show Goes _ _ _ _ _ _ _ _ T (mkF m 522 #[.val (.long p0), .second, .val (.int p1), .val (.int p2), .val (.int p3), .val (.ref b36), .val (.int sv), .val (.int ev), .val (.ref b94), .val (.int got), .val (.int ds7), .val (.int want)] [(.ref a_SYMBOL), (.ref b94)])
      have X_o := X
      refine X.callV E_b94 (hw _ (List.mem_of_getElem? (i := 61) rfl)) (hw _ (List.mem_of_getElem? (i := 62) rfl)) (hw _ (List.mem_of_getElem? (i := 64) rfl)) (hw _ (List.mem_of_getElem? (i := 23) rfl)) rfl (hw _ (List.mem_of_getElem? (i := 63) rfl)) (hw _ (List.mem_of_getElem? (i := 8) rfl)) (hw _ (List.mem_of_getElem? (i := 65) rfl)) (by decide) pd_2911223580 (argsL := [(.ref a_SYMBOL)]) rfl (rmEn l Z a0 hw n0 h97 X.n0le b94 sb a_SYMBOL 9 9 (by decide) (by decide) c F_SYMBOL E_SYMBOL F_b94_starts A_sb) (by rw [hml]; rfl) rfl (by decide) (leB rfl) (hb hby at_522) (by decide) (by decide) (fun T h115 v X hQ => ?_)
      obtain ⟨rfl, hh⟩ := hQ
      rw [hh] at X
      clear hh
      show Goes _ _ _ _ _ _ _ _ T (mkF m 525 #[.val (.long p0), .second, .val (.int p1), .val (.int p2), .val (.int p3), .val (.ref b36), .val (.int sv), .val (.int ev), .val (.ref b94), .val (.int got), .val (.int ds7), .val (.int want)] [(.int (c (9 + 1) - 1))])
      refine Goes.by (g' := (mkF m 527 #[.val (.long p0), .second, .val (.int p1), .val (.int p2), .val (.int p3), .val (.ref b36), .val (.int sv), .val (.int ev), .val (.ref b94), .val (.int got), .val (.int ds7), .val (.int want)] [(.ref b36), (.int (c (9 + 1) - 1))])) (fun _ q => XS.aload X.here X.hx rfl (hb hby at_525) rfl rfl q) ?_
      refine Goes.by (g' := (mkF m 529 #[.val (.long p0), .second, .val (.int p1), .val (.int p2), .val (.int p3), .val (.ref b36), .val (.int sv), .val (.int ev), .val (.ref b94), .val (.int got), .val (.int ds7), .val (.int want)] [(.int sv), (.ref b36), (.int (c (9 + 1) - 1))])) (fun _ q => XS.iload X.here X.hx rfl (hb hby at_527) rfl q) ?_
      refine Goes.by (g' := (mkF m 531 #[.val (.long p0), .second, .val (.int p1), .val (.int p2), .val (.int p3), .val (.ref b36), .val (.int sv), .val (.int ev), .val (.ref b94), .val (.int got), .val (.int ds7), .val (.int want)] [(.int ev), (.int sv), (.ref b36), (.int (c (9 + 1) - 1))])) (fun _ q => XS.iload X.here X.hx rfl (hb hby at_529) rfl q) ?_
      refine Goes.by (g' := (mkF m 533 #[.val (.long p0), .second, .val (.int p1), .val (.int p2), .val (.int p3), .val (.ref b36), .val (.int sv), .val (.int ev), .val (.ref b94), .val (.int got), .val (.int ds7), .val (.int want)] [(.int (10 : Int32)), (.int ev), (.int sv), (.ref b36), (.int (c (9 + 1) - 1))])) (fun _ q => XS.bipush X.here X.hx rfl (hb hby at_531) q) ?_
      have X_o := X
      refine X.callS (hw _ (List.mem_of_getElem? (i := 66) rfl)) (hw _ (List.mem_of_getElem? (i := 67) rfl)) (hw _ (List.mem_of_getElem? (i := 3) rfl)) (hw _ (List.mem_of_getElem? (i := 68) rfl)) (by decide) pd_1647763415 (argsL := [(.ref b36), (.int sv), (.int ev), (.int (10 : Int32))]) rfl (rmK l Z a0 hw n0 h97 X.n0le b36 sv ev (10 : Int32) s_ e_ 10 g hsv hev (by omega) (by omega) (by decide) (by decide) (by decide) hg A_b36) (by rw [hml]; rfl) rfl (by decide) (leB rfl) (hb hby at_533) (by decide) (by decide) (fun T h116 v X hQ => ?_)
      obtain ⟨kt10, rfl, hkt10, hh⟩ := hQ
      rw [hh] at X
      clear hh
      show Goes _ _ _ _ _ _ _ _ T (mkF m 536 #[.val (.long p0), .second, .val (.int p1), .val (.int p2), .val (.int p3), .val (.ref b36), .val (.int sv), .val (.int ev), .val (.ref b94), .val (.int got), .val (.int ds7), .val (.int want)] [(.int kt10), (.int (c (9 + 1) - 1))])
      refine Goes.by (g' := (mkF m 541 #[.val (.long p0), .second, .val (.int p1), .val (.int p2), .val (.int p3), .val (.ref b36), .val (.int sv), .val (.int ev), .val (.ref b94), .val (.int got), .val (.int ds7), .val (.int want)] [])) (fun _ q => XS.icmpYes X.here X.hx rfl (pc0 := 536) (pc' := 541) rfl (hb hby at_536) rfl (teq (show (c (9 + 1) - 1) = kt10 from (endEqN (nthH_le g s_ e_ 32 0 10 (by omega)) (hcj 10 (by omega) (by rw [ltI, hwant] at hB114; have : (10 : Int32).toInt = 10 := (by decide); omega) (Or.inl (by omega))) hkt10))).1 (by decide) (by decide) q) ?_
      refine Goes.by (g' := (mkF m 543 #[.val (.long p0), .second, .val (.int p1), .val (.int p2), .val (.int p3), .val (.ref b36), .val (.int sv), .val (.int ev), .val (.ref b94), .val (.int got), .val (.int ds7), .val (.int want)] [(.int want)])) (fun _ q => XS.iload X.here X.hx rfl (hb hby at_541) rfl q) ?_
      refine Goes.by (g' := (mkF m 545 #[.val (.long p0), .second, .val (.int p1), .val (.int p2), .val (.int p3), .val (.ref b36), .val (.int sv), .val (.int ev), .val (.ref b94), .val (.int got), .val (.int ds7), .val (.int want)] [(.int (21 : Int32)), (.int want)])) (fun _ q => XS.bipush X.here X.hx rfl (hb hby at_543) q) ?_
      by_cases hB117 : want < (21 : Int32)
      · skip
        refine Goes.by (g' := (mkF m 574 #[.val (.long p0), .second, .val (.int p1), .val (.int p2), .val (.int p3), .val (.ref b36), .val (.int sv), .val (.int ev), .val (.ref b94), .val (.int got), .val (.int ds7), .val (.int want)] [])) (fun _ q => XS.icmpYes X.here X.hx rfl (pc0 := 545) (pc' := 574) rfl (hb hby at_545) rfl (tlt hB117).1 (by decide) (by decide) q) ?_
        refine Goes.by (g' := (mkF m 576 #[.val (.long p0), .second, .val (.int p1), .val (.int p2), .val (.int p3), .val (.ref b36), .val (.int sv), .val (.int ev), .val (.ref b94), .val (.int got), .val (.int ds7), .val (.int want)] [(.int want)])) (fun _ q => XS.iload X.here X.hx rfl (hb hby at_574) rfl q) ?_
        refine Goes.by (g' := (mkF m 578 #[.val (.long p0), .second, .val (.int p1), .val (.int p2), .val (.int p3), .val (.ref b36), .val (.int sv), .val (.int ev), .val (.ref b94), .val (.int got), .val (.int ds7), .val (.int want)] [(.int (22 : Int32)), (.int want)])) (fun _ q => XS.bipush X.here X.hx rfl (hb hby at_576) q) ?_
        refine Goes.by (g' := (mkF m 596 #[.val (.long p0), .second, .val (.int p1), .val (.int p2), .val (.int p3), .val (.ref b36), .val (.int sv), .val (.int ev), .val (.ref b94), .val (.int got), .val (.int ds7), .val (.int want)] [])) (fun _ q => XS.icmpYes X.here X.hx rfl (pc0 := 578) (pc' := 596) rfl (hb hby at_578) rfl (feq (show ¬ want = (22 : Int32) from (by intro q0; rw [q0] at hB117; simp only [ltI] at hB117; have : (2 : Int32).toInt = 2 := (by decide); have : (10 : Int32).toInt = 10 := (by decide); have : (21 : Int32).toInt = 21 := (by decide); omega))).2 (by decide) (by decide) q) ?_
        refine Goes.by (g' := (mkF m 597 #[.val (.long p0), .second, .val (.int p1), .val (.int p2), .val (.int p3), .val (.ref b36), .val (.int sv), .val (.int ev), .val (.ref b94), .val (.int got), .val (.int ds7), .val (.int want)] [(.int (1 : Int32))])) (fun _ q => XS.iconst X.here X.hx rfl (hb hby at_596) q) ?_
        exact X.retZ hret (hb hby at_597) (by decide) (by decide) rfl
      · skip
        refine Goes.by (g' := (mkF m 548 #[.val (.long p0), .second, .val (.int p1), .val (.int p2), .val (.int p3), .val (.ref b36), .val (.int sv), .val (.int ev), .val (.ref b94), .val (.int got), .val (.int ds7), .val (.int want)] [])) (fun _ q => XS.icmpNo X.here X.hx rfl (hb hby at_545) rfl (flt hB117).1 q) ?_
        refine Goes.by (g' := (mkF m 550 #[.val (.long p0), .second, .val (.int p1), .val (.int p2), .val (.int p3), .val (.ref b36), .val (.int sv), .val (.int ev), .val (.ref b94), .val (.int got), .val (.int ds7), .val (.int want)] [(.ref b94)])) (fun _ q => XS.aload X.here X.hx rfl (hb hby at_548) rfl rfl q) ?_
        refine X.getS (Or.inl (hw _ (List.mem_of_getElem? (i := 73) rfl))) (host := "") Via.refl S_CF_SHORT_VALUE (hb hby at_550) (fun T X => ?_)
        show Goes _ _ _ _ _ _ _ _ T (mkF m 553 #[.val (.long p0), .second, .val (.int p1), .val (.int p2), .val (.int p3), .val (.ref b36), .val (.int sv), .val (.int ev), .val (.ref b94), .val (.int got), .val (.int ds7), .val (.int want)] [(.ref a_CF_SHORT_VALUE), (.ref b94)])
        have X_o := X
        refine X.callV E_b94 (hw _ (List.mem_of_getElem? (i := 42) rfl)) (hw _ (List.mem_of_getElem? (i := 43) rfl)) (hw _ (List.mem_of_getElem? (i := 45) rfl)) (hw _ (List.mem_of_getElem? (i := 23) rfl)) rfl (hw _ (List.mem_of_getElem? (i := 44) rfl)) (hw _ (List.mem_of_getElem? (i := 8) rfl)) (hw _ (List.mem_of_getElem? (i := 46) rfl)) (by decide) pd_2911223580 (argsL := [(.ref a_CF_SHORT_VALUE)]) rfl (rmSt l Z a0 hw n0 h97 X.n0le b94 sb a_CF_SHORT_VALUE 21 21 (by decide) (by decide) c F_CF_SHORT_VALUE E_CF_SHORT_VALUE F_b94_starts A_sb) (by rw [hml]; rfl) rfl (by decide) (leB rfl) (hb hby at_553) (by decide) (by decide) (fun T h118 v X hQ => ?_)
        obtain ⟨rfl, hh⟩ := hQ
        rw [hh] at X
        clear hh
        show Goes _ _ _ _ _ _ _ _ T (mkF m 556 #[.val (.long p0), .second, .val (.int p1), .val (.int p2), .val (.int p3), .val (.ref b36), .val (.int sv), .val (.int ev), .val (.ref b94), .val (.int got), .val (.int ds7), .val (.int want)] [(.int (c 21))])
        refine Goes.by (g' := (mkF m 558 #[.val (.long p0), .second, .val (.int p1), .val (.int p2), .val (.int p3), .val (.ref b36), .val (.int sv), .val (.int ev), .val (.ref b94), .val (.int got), .val (.int ds7), .val (.int want)] [(.ref b36), (.int (c 21))])) (fun _ q => XS.aload X.here X.hx rfl (hb hby at_556) rfl rfl q) ?_
        refine Goes.by (g' := (mkF m 560 #[.val (.long p0), .second, .val (.int p1), .val (.int p2), .val (.int p3), .val (.ref b36), .val (.int sv), .val (.int ev), .val (.ref b94), .val (.int got), .val (.int ds7), .val (.int want)] [(.int sv), (.ref b36), (.int (c 21))])) (fun _ q => XS.iload X.here X.hx rfl (hb hby at_558) rfl q) ?_
        refine Goes.by (g' := (mkF m 562 #[.val (.long p0), .second, .val (.int p1), .val (.int p2), .val (.int p3), .val (.ref b36), .val (.int sv), .val (.int ev), .val (.ref b94), .val (.int got), .val (.int ds7), .val (.int want)] [(.int ev), (.int sv), (.ref b36), (.int (c 21))])) (fun _ q => XS.iload X.here X.hx rfl (hb hby at_560) rfl q) ?_
        refine Goes.by (g' := (mkF m 564 #[.val (.long p0), .second, .val (.int p1), .val (.int p2), .val (.int p3), .val (.ref b36), .val (.int sv), .val (.int ev), .val (.ref b94), .val (.int got), .val (.int ds7), .val (.int want)] [(.int (21 : Int32)), (.int ev), (.int sv), (.ref b36), (.int (c 21))])) (fun _ q => XS.bipush X.here X.hx rfl (hb hby at_562) q) ?_
        have X_o := X
        refine X.callS (hw _ (List.mem_of_getElem? (i := 66) rfl)) (hw _ (List.mem_of_getElem? (i := 67) rfl)) (hw _ (List.mem_of_getElem? (i := 3) rfl)) (hw _ (List.mem_of_getElem? (i := 68) rfl)) (by decide) pd_1647763415 (argsL := [(.ref b36), (.int sv), (.int ev), (.int (21 : Int32))]) rfl (rmK l Z a0 hw n0 h97 X.n0le b36 sv ev (21 : Int32) s_ e_ 21 g hsv hev (by omega) (by omega) (by decide) (by decide) (by decide) hg A_b36) (by rw [hml]; rfl) rfl (by decide) (leB rfl) (hb hby at_564) (by decide) (by decide) (fun T h119 v X hQ => ?_)
        obtain ⟨kt21, rfl, hkt21, hh⟩ := hQ
        rw [hh] at X
        clear hh
        show Goes _ _ _ _ _ _ _ _ T (mkF m 567 #[.val (.long p0), .second, .val (.int p1), .val (.int p2), .val (.int p3), .val (.ref b36), .val (.int sv), .val (.int ev), .val (.ref b94), .val (.int got), .val (.int ds7), .val (.int want)] [(.int kt21), (.int (c 21))])
        refine Goes.by (g' := (mkF m 568 #[.val (.long p0), .second, .val (.int p1), .val (.int p2), .val (.int p3), .val (.ref b36), .val (.int sv), .val (.int ev), .val (.ref b94), .val (.int got), .val (.int ds7), .val (.int want)] [(.int (1 : Int32)), (.int kt21), (.int (c 21))])) (fun _ q => XS.iconst X.here X.hx rfl (hb hby at_567) q) ?_
        refine Goes.by (g' := (mkF m 569 #[.val (.long p0), .second, .val (.int p1), .val (.int p2), .val (.int p3), .val (.ref b36), .val (.int sv), .val (.int ev), .val (.ref b94), .val (.int got), .val (.int ds7), .val (.int want)] [(.int (kt21 + (1 : Int32))), (.int (c 21))])) (fun _ q => XS.iadd X.here X.hx rfl (hb hby at_568) rfl q) ?_
        refine Goes.by (g' := (mkF m 574 #[.val (.long p0), .second, .val (.int p1), .val (.int p2), .val (.int p3), .val (.ref b36), .val (.int sv), .val (.int ev), .val (.ref b94), .val (.int got), .val (.int ds7), .val (.int want)] [])) (fun _ q => XS.icmpYes X.here X.hx rfl (pc0 := 569) (pc' := 574) rfl (hb hby at_569) rfl (teq (show (c 21) = (kt21 + (1 : Int32)) from (staEqN (nthH_le g s_ e_ 32 0 21 (by omega)) (hcj 21 (by omega) (by rw [ltI, hwant] at hB117; have : (21 : Int32).toInt = 21 := (by decide); omega) (Or.inl (by omega))) hkt21))).1 (by decide) (by decide) q) ?_
        refine Goes.by (g' := (mkF m 576 #[.val (.long p0), .second, .val (.int p1), .val (.int p2), .val (.int p3), .val (.ref b36), .val (.int sv), .val (.int ev), .val (.ref b94), .val (.int got), .val (.int ds7), .val (.int want)] [(.int want)])) (fun _ q => XS.iload X.here X.hx rfl (hb hby at_574) rfl q) ?_
        refine Goes.by (g' := (mkF m 578 #[.val (.long p0), .second, .val (.int p1), .val (.int p2), .val (.int p3), .val (.ref b36), .val (.int sv), .val (.int ev), .val (.ref b94), .val (.int got), .val (.int ds7), .val (.int want)] [(.int (22 : Int32)), (.int want)])) (fun _ q => XS.bipush X.here X.hx rfl (hb hby at_576) q) ?_
        by_cases hB120 : want = (22 : Int32)
        · skip
          refine Goes.by (g' := (mkF m 581 #[.val (.long p0), .second, .val (.int p1), .val (.int p2), .val (.int p3), .val (.ref b36), .val (.int sv), .val (.int ev), .val (.ref b94), .val (.int got), .val (.int ds7), .val (.int want)] [])) (fun _ q => XS.icmpNo X.here X.hx rfl (hb hby at_578) rfl (teq hB120).2 q) ?_
          refine Goes.by (g' := (mkF m 583 #[.val (.long p0), .second, .val (.int p1), .val (.int p2), .val (.int p3), .val (.ref b36), .val (.int sv), .val (.int ev), .val (.ref b94), .val (.int got), .val (.int ds7), .val (.int want)] [(.ref b94)])) (fun _ q => XS.aload X.here X.hx rfl (hb hby at_581) rfl rfl q) ?_
          refine X.getS (Or.inl (hw _ (List.mem_of_getElem? (i := 73) rfl))) (host := "") Via.refl S_CF_SHORT_VALUE (hb hby at_583) (fun T X => ?_)
          show Goes _ _ _ _ _ _ _ _ T (mkF m 586 #[.val (.long p0), .second, .val (.int p1), .val (.int p2), .val (.int p3), .val (.ref b36), .val (.int sv), .val (.int ev), .val (.ref b94), .val (.int got), .val (.int ds7), .val (.int want)] [(.ref a_CF_SHORT_VALUE), (.ref b94)])
          have X_o := X
          refine X.callV E_b94 (hw _ (List.mem_of_getElem? (i := 61) rfl)) (hw _ (List.mem_of_getElem? (i := 62) rfl)) (hw _ (List.mem_of_getElem? (i := 64) rfl)) (hw _ (List.mem_of_getElem? (i := 23) rfl)) rfl (hw _ (List.mem_of_getElem? (i := 63) rfl)) (hw _ (List.mem_of_getElem? (i := 8) rfl)) (hw _ (List.mem_of_getElem? (i := 65) rfl)) (by decide) pd_2911223580 (argsL := [(.ref a_CF_SHORT_VALUE)]) rfl (rmEn l Z a0 hw n0 h97 X.n0le b94 sb a_CF_SHORT_VALUE 21 21 (by decide) (by decide) c F_CF_SHORT_VALUE E_CF_SHORT_VALUE F_b94_starts A_sb) (by rw [hml]; rfl) rfl (by decide) (leB rfl) (hb hby at_586) (by decide) (by decide) (fun T h121 v X hQ => ?_)
          obtain ⟨rfl, hh⟩ := hQ
          rw [hh] at X
          clear hh
          show Goes _ _ _ _ _ _ _ _ T (mkF m 589 #[.val (.long p0), .second, .val (.int p1), .val (.int p2), .val (.int p3), .val (.ref b36), .val (.int sv), .val (.int ev), .val (.ref b94), .val (.int got), .val (.int ds7), .val (.int want)] [(.int (c (21 + 1) - 1))])
          refine Goes.by (g' := (mkF m 591 #[.val (.long p0), .second, .val (.int p1), .val (.int p2), .val (.int p3), .val (.ref b36), .val (.int sv), .val (.int ev), .val (.ref b94), .val (.int got), .val (.int ds7), .val (.int want)] [(.int ev), (.int (c (21 + 1) - 1))])) (fun _ q => XS.iload X.here X.hx rfl (hb hby at_589) rfl q) ?_
          refine Goes.by (g' := (mkF m 596 #[.val (.long p0), .second, .val (.int p1), .val (.int p2), .val (.int p3), .val (.ref b36), .val (.int sv), .val (.int ev), .val (.ref b94), .val (.int got), .val (.int ds7), .val (.int want)] [])) (fun _ q => XS.icmpYes X.here X.hx rfl (pc0 := 591) (pc' := 596) rfl (hb hby at_591) rfl (teq (show (c (21 + 1) - 1) = ev from (have h22 : 1 + cntH g s_ e_ 32 0 = 22 := (by have q0 := congrArg Int32.toInt hB120; rw [hwant, o22] at q0; omega); lastEqN (show e_ ≤ 32 by omega) (hcj 22 (by omega) (by omega) (Or.inr ⟨by omega, by omega⟩)) (by rw [h22] at hnE; exact hnE) hev))).1 (by decide) (by decide) q) ?_
          refine Goes.by (g' := (mkF m 597 #[.val (.long p0), .second, .val (.int p1), .val (.int p2), .val (.int p3), .val (.ref b36), .val (.int sv), .val (.int ev), .val (.ref b94), .val (.int got), .val (.int ds7), .val (.int want)] [(.int (1 : Int32))])) (fun _ q => XS.iconst X.here X.hx rfl (hb hby at_596) q) ?_
          exact X.retZ hret (hb hby at_597) (by decide) (by decide) rfl
        · skip
          refine Goes.by (g' := (mkF m 596 #[.val (.long p0), .second, .val (.int p1), .val (.int p2), .val (.int p3), .val (.ref b36), .val (.int sv), .val (.int ev), .val (.ref b94), .val (.int got), .val (.int ds7), .val (.int want)] [])) (fun _ q => XS.icmpYes X.here X.hx rfl (pc0 := 578) (pc' := 596) rfl (hb hby at_578) rfl (feq hB120).2 (by decide) (by decide) q) ?_
          refine Goes.by (g' := (mkF m 597 #[.val (.long p0), .second, .val (.int p1), .val (.int p2), .val (.int p3), .val (.ref b36), .val (.int sv), .val (.int ev), .val (.ref b94), .val (.int got), .val (.int ds7), .val (.int want)] [(.int (1 : Int32))])) (fun _ q => XS.iconst X.here X.hx rfl (hb hby at_596) q) ?_
          exact X.retZ hret (hb hby at_597) (by decide) (by decide) rfl
set_option maxRecDepth 65536 in
set_option maxHeartbeats 40000000 in
theorem comes_1 {Post : Tables → Env → Array Value → State → Outcome → State → Prop} (hpost : ∀ tb e args s v u, (limb_1_1.after args s (.returned v) u = true ∧ limb_1_2.after args s (.returned v) u = true ∧ True) → EndF s (.returned v) u (Jvm.fieldLocs frame_1_writes args s ++ Jvm.arrayLocs frame_1_arrays args s ++ Jvm.staticLocs frame_1_statics s) 16 192 → Post tb e args s (.returned v) u) :
    ArmFor flags0 classFile x code maxLocals ret World_1 tables_1 room_1 Calls_1 rest_1 Pre_1 Post := by
  intro l hfl _ _ p e ha hc hk s m args below hf hA hF happ hP
  obtain ⟨hcalls, hrest, hpre⟩ := hP
  obtain ⟨-, -, -, hnamed, -, -, -, hat⟩ := (Spec.applies_iff hf).mp happ
  obtain ⟨hg, hn⟩ := and_e (Cond.before_iff.mp (show (Jvm.Cond.and given_1 narrow_1).before args s = true from hpre))
  obtain ⟨hcount, hg⟩ := and_e hg
  obtain ⟨w0, w1, w2, w3, rfl⟩ : ∃ w0 w1 w2 w3 : Value, args = #[w0, w1, w2, w3] := by
    have hs : args.size = 4 := by simpa [Cond.value, given_1] using hcount
    obtain ⟨L⟩ := args
    match L, hs with
    | [w0, w1, w2, w3], _ => exact ⟨w0, w1, w2, w3, rfl⟩
  obtain ⟨hg0, hg⟩ := and_e hg
  obtain ⟨p0, ep0⟩ := isL_v hg0
  obtain rfl : w0 = (.long p0) := Option.some.inj ep0
  obtain ⟨hg1, hg⟩ := and_e hg
  obtain ⟨p1, ep1⟩ := is_v hg1
  obtain rfl : w1 = (.int p1) := Option.some.inj ep1
  obtain ⟨hg2, hg⟩ := and_e hg
  obtain ⟨p2, ep2⟩ := is_v hg2
  obtain rfl : w2 = (.int p2) := Option.some.inj ep2
  have hg3 := hg
  obtain ⟨p3, ep3⟩ := is_v hg3
  obtain rfl : w3 = (.int p3) := Option.some.inj ep3
  have hw := fun d (hd : d ∈ tables_1) => atoms_spec (ws := Jvm.Cond.code x code maxLocals ret :: tables_1) hat d (List.mem_cons_of_mem _ hd)
  have hfit : Fit s := fun {y c} hc i hi => by
    obtain ⟨ha, rfl⟩ := Array.getElem?_eq_some_iff.mp hc
    have q := List.all_eq_true.mp ((Array.all_eq_true_iff_forall_mem.mp hF) _ (Array.getElem_mem ha)) i (List.mem_range.mpr hi)
    simpa [Array.getElem?_eq_getElem hi] using q
  obtain ⟨c0, hn⟩ := and_e hn
  obtain ⟨c1, hn⟩ := and_e hn
  obtain ⟨c2, hn⟩ := and_e hn
  obtain ⟨c3, hn⟩ := and_e hn
  obtain ⟨c4, hn⟩ := and_e hn
  obtain ⟨c5, hn⟩ := and_e hn
  obtain ⟨c6, hn⟩ := and_e hn
  obtain ⟨c7, hn⟩ := and_e hn
  have c8 := hn
  obtain ⟨a_POSITION_DATE, e_POSITION_DATE⟩ := exa_v c1
  have E_POSITION_DATE := Exa.start e_POSITION_DATE c1
  have S_POSITION_DATE : Sta s s.heap "com/example/exdate/exdate/PositionField" "POSITION_DATE" "Lcom/example/exdate/exdate/PositionField;" (.ref a_POSITION_DATE) := Sta.start e_POSITION_DATE (Or.inr ⟨(hw _ (List.mem_of_getElem? (i := 40) rfl)), (hw _ (List.mem_of_getElem? (i := 41) rfl))⟩)
  obtain ⟨a_SEGMENT_INDICATOR, e_SEGMENT_INDICATOR⟩ := exa_v c3
  have E_SEGMENT_INDICATOR := Exa.start e_SEGMENT_INDICATOR c3
  have S_SEGMENT_INDICATOR : Sta s s.heap "com/example/exdate/exdate/PositionField" "SEGMENT_INDICATOR" "Lcom/example/exdate/exdate/PositionField;" (.ref a_SEGMENT_INDICATOR) := Sta.start e_SEGMENT_INDICATOR (Or.inr ⟨(hw _ (List.mem_of_getElem? (i := 40) rfl)), (hw _ (List.mem_of_getElem? (i := 70) rfl))⟩)
  obtain ⟨a_SYMBOL, e_SYMBOL⟩ := exa_v c5
  have E_SYMBOL := Exa.start e_SYMBOL c5
  have S_SYMBOL : Sta s s.heap "com/example/exdate/exdate/PositionField" "SYMBOL" "Lcom/example/exdate/exdate/PositionField;" (.ref a_SYMBOL) := Sta.start e_SYMBOL (Or.inr ⟨(hw _ (List.mem_of_getElem? (i := 40) rfl)), (hw _ (List.mem_of_getElem? (i := 72) rfl))⟩)
  obtain ⟨a_CF_SHORT_VALUE, e_CF_SHORT_VALUE⟩ := exa_v c7
  have E_CF_SHORT_VALUE := Exa.start e_CF_SHORT_VALUE c7
  have S_CF_SHORT_VALUE : Sta s s.heap "com/example/exdate/exdate/PositionField" "CF_SHORT_VALUE" "Lcom/example/exdate/exdate/PositionField;" (.ref a_CF_SHORT_VALUE) := Sta.start e_CF_SHORT_VALUE (Or.inr ⟨(hw _ (List.mem_of_getElem? (i := 40) rfl)), (hw _ (List.mem_of_getElem? (i := 74) rfl))⟩)
  have S_FIELD_COUNT := staEq c0 (Or.inr ⟨(hw _ (List.mem_of_getElem? (i := 8) rfl)), (hw _ (List.mem_of_getElem? (i := 16) rfl))⟩)
  have F_POSITION_DATE_ordinal := fldEq e_POSITION_DATE c2
  have F_SEGMENT_INDICATOR_ordinal := fldEq e_SEGMENT_INDICATOR c4
  have F_SYMBOL_ordinal := fldEq e_SYMBOL c6
  have F_CF_SHORT_VALUE_ordinal := fldEq e_CF_SHORT_VALUE c8
  obtain ⟨n, o, h1, h2, h3, _, L, rfl, ⟨N, rfl⟩, hq⟩ := rm0 l s _ hw s.heap.size s.heap (Nat.le_refl _) tables_1 p0 p1 p2 p3 S_FIELD_COUNT a_POSITION_DATE S_POSITION_DATE E_POSITION_DATE F_POSITION_DATE_ordinal a_SEGMENT_INDICATOR S_SEGMENT_INDICATOR E_SEGMENT_INDICATOR F_SEGMENT_INDICATOR_ordinal a_SYMBOL S_SYMBOL E_SYMBOL F_SYMBOL_ordinal a_CF_SHORT_VALUE S_CF_SHORT_VALUE E_CF_SHORT_VALUE F_CF_SHORT_VALUE_ordinal p e ha hc hk s m _ below hf ((Spec.applies_iff_loose hf).mp happ).1 ⟨rfl, State.Warmed39.refl s, rfl⟩ trivial
  refine ⟨n, _, h1, h2, h3, hpost _ _ _ _ _ _ ⟨Cond.after_iff.mpr rfl, Cond.after_iff.mpr (eq_i res_at (Term.int_eval (1)) rfl), trivial⟩ ⟨hq.1, hq.2.1, (hq.2.2.sift fun y hy => Or.inr (N y hy)).mono (by decide) (by decide)⟩⟩
theorem main_1_1 : Claimed_1_1 := comes_1 fun _ _ _ _ _ _ h hF => ⟨h.1, hF⟩
theorem main_1_2 : Claimed_1_2 := comes_1 fun _ _ _ _ _ _ h hF => ⟨h.2.1, hF⟩
end Jvm.Pilot.@@N@@
namespace Jvm.Pilot.@@N@@
open Jvm Jvm.ClassFile Sem Op Lib Jvm.Free Jvm.Stand Jvm.Pilot.@@N@@.Jvm.D
/-! MADE BY PROGRAM (witnessworld.py) out of the Statement's table words and the real class files: 14 classes; the members and pool entries that the words name. The judged class is class 1, her method 4. -/
namespace start1
open Jvm.ClassFile
def u (s : String) : CpInfo := .utf8 (stringToUtf16 s)
/-- a pool by its gaps: so many unusable entries, then the entry; so many at the end -/
def gap : Nat → List CpInfo → List CpInfo
  | 0, r => r
  | n + 1, r => .unusable :: gap n r
def poolList (es : List (Nat × CpInfo)) (last : Nat) : List CpInfo := es.foldr (fun e r => gap e.1 (e.2 :: r)) (gap last [])
def pool (es : List (Nat × CpInfo)) (last : Nat) : Array CpInfo := ⟨poolList es last⟩
def fileOf (pool : Array CpInfo) (this : Nat) (attrs : Array Attribute := #[]) (ms : Array MethodInfo := #[]) (fl : Nat := 33) (sup : Nat := 0) (ifs : Array Nat := #[]) (fds : Array FieldInfo := #[]) : ClassFile where
  minorVersion := 0
  majorVersion := 65
  constantPool := pool
  accessFlags := fl
  thisClass := this
  superClass := sup
  interfaces := ifs
  fields := fds
  methods := ms
  attributes := attrs
def plain (name : String) (sup : Option ClassId) : Class where
  name := name
  kind := .ordinary
  loader := none
  accessFlags := 33
  super := sup
  interfaces := #[]
  cf := none
  fields := #[]
  methods := #[]
  instanceTypes := #[]
  staticTypes := #[]
  resolved := #[]
  callSites := []
  init := .initialized
  statics := none
  mirror := none

def pool0 : Array CpInfo := pool [(5, u "<init>"), (0, u "()V"), (1, .class_ 10), (1, u "java/lang/Object")] 113

def k0c0 : Code := { maxStack := 0, maxLocals := 1, code := object_method_1_code, exceptionTable := #[], attributes := #[] }
def k0m0 : Method := { name := "<init>", desc := "()V", sig := { parameters := [], returnType := none }, accessFlags := 1, code := some k0c0 }
/-- java/lang/Object -/
def k0 : Class := { plain "java/lang/Object" none with
  accessFlags := 33
  interfaces := #[]
  cf := some (fileOf pool0 8 #[] #[{ accessFlags := 1, nameIndex := 5, descriptorIndex := 6, attributes := #[] }] 33 0 #[] #[])
  fields := #[]
  methods := #[k0m0]
  instanceTypes := #[]
  staticTypes := #[]
  resolved := Array.replicate 124 none
  statics := none }

def pool1 : Array CpInfo := pool [(2, .class_ 4), (0, .nameAndType 5 6), (0, u "java/lang/Object"), (0, u "<init>"), (0, u "()V"), (0, .methodref 8 9), (0, .class_ 10), (0, .nameAndType 11 12), (0, u "com/example/exdate/exdate/RowFieldsSplitPinLaw"), (0, u "hit"), (0, u "([BIII)I"), (0, .methodref 8 14), (0, .nameAndType 15 16), (0, u "pick"), (0, u "(JII)B"), (0, .integer 2147483647), (0, .class_ 19), (0, u "com/example/exdate/exdate/RowFields"), (0, .methodref 18 3), (0, .methodref 18 22), (0, .nameAndType 23 24), (0, u "split"), (0, u "([BII)I"), (0, .methodref 26 27), (0, .class_ 28), (0, .nameAndType 29 30), (0, u "java/lang/Math"), (0, u "max"), (0, u "(II)I"), (0, .methodref 18 32), (0, .nameAndType 33 34), (0, u "bytes"), (0, u "()[B"), (0, .fieldref 36 37), (0, .class_ 38), (0, .nameAndType 39 40), (0, u "com/example/exdate/exdate/PositionField"), (0, u "POSITION_DATE"), (0, u "Lcom/example/exdate/exdate/PositionField;"), (0, .methodref 18 42), (0, .nameAndType 43 44), (0, u "start"), (0, u "(Lcom/example/exdate/exdate/PositionField;)I"), (0, .methodref 18 46), (0, .nameAndType 47 44), (0, u "end"), (0, .methodref 8 49), (0, .nameAndType 50 12), (0, u "kth"), (0, .fieldref 36 52), (0, .nameAndType 53 40), (0, u "SEGMENT_INDICATOR"), (0, .fieldref 36 55), (0, .nameAndType 56 40), (0, u "SYMBOL"), (0, .fieldref 36 58), (0, .nameAndType 59 40), (0, u "CF_SHORT_VALUE"), (3, u "law"), (0, u "(JIII)Z")] 4

def k1m0 : Method := { name := "<init>", desc := "()V", sig := { parameters := [], returnType := none }, accessFlags := 1, code := none }
def k1c1 : Code := { maxStack := 4, maxLocals := 4, code := method_2_code, exceptionTable := #[], attributes := #[] }
def k1m1 : Method := { name := "pick", desc := "(JII)B", sig := { parameters := [.long, .int, .int], returnType := some .byte }, accessFlags := 10, code := some k1c1 }
def k1c2 : Code := { maxStack := 2, maxLocals := 4, code := method_3_code, exceptionTable := #[], attributes := #[] }
def k1m2 : Method := { name := "hit", desc := "([BIII)I", sig := { parameters := [(.array .byte), .int, .int, .int], returnType := some .int }, accessFlags := 10, code := some k1c2 }
def k1c3 : Code := { maxStack := 5, maxLocals := 6, code := method_4_code, exceptionTable := #[], attributes := #[] }
def k1m3 : Method := { name := "kth", desc := "([BIII)I", sig := { parameters := [(.array .byte), .int, .int, .int], returnType := some .int }, accessFlags := 10, code := some k1c3 }
def k1c4 : Code := { maxStack := 6, maxLocals := 12, code := code, exceptionTable := #[], attributes := #[] }
def k1m4 : Method := { name := "law", desc := "(JIII)Z", sig := { parameters := [.long, .int, .int, .int], returnType := some .boolean }, accessFlags := 9, code := some k1c4 }
/-- com/example/exdate/exdate/RowFieldsSplitPinLaw -/
def k1 : Class := { plain "com/example/exdate/exdate/RowFieldsSplitPinLaw" (some 0) with
  accessFlags := 49
  interfaces := #[]
  cf := some (fileOf pool1 8 #[] #[{ accessFlags := 1, nameIndex := 5, descriptorIndex := 6, attributes := #[] }, { accessFlags := 10, nameIndex := 15, descriptorIndex := 16, attributes := #[] }, { accessFlags := 10, nameIndex := 11, descriptorIndex := 12, attributes := #[] }, { accessFlags := 10, nameIndex := 50, descriptorIndex := 12, attributes := #[] }, { accessFlags := 9, nameIndex := 63, descriptorIndex := 64, attributes := #[] }] 49 2 #[] #[])
  fields := #[]
  methods := #[k1m0, k1m1, k1m2, k1m3, k1m4]
  instanceTypes := #[]
  staticTypes := #[]
  resolved := Array.replicate 69 none
  statics := none }

def pool2 : Array CpInfo := pool [(1, .methodref 2 3), (0, .class_ 4), (0, .nameAndType 5 6), (0, u "java/lang/Object"), (0, u "<init>"), (0, u "()V"), (0, .fieldref 8 9), (0, .class_ 10), (0, .nameAndType 11 12), (0, u "com/example/exdate/exdate/RowFields"), (0, u "FIELD_COUNT"), (0, u "I"), (0, .fieldref 8 14), (0, .nameAndType 15 16), (0, u "starts"), (0, u "[I"), (0, .fieldref 8 18), (0, .nameAndType 19 20), (0, u "bytes"), (0, u "[B"), (0, .methodref 22 23), (0, .class_ 24), (0, .nameAndType 25 26), (0, u "com/example/exdate/exdate/PositionField"), (0, u "index"), (0, u "()I"), (2, u "start"), (0, u "(Lcom/example/exdate/exdate/PositionField;)I"), (4, u "end"), (19, u "COMMA"), (0, u "B"), (4, u "split"), (0, u "([BII)I"), (1, u "()[B")] 7

def k2c0 : Code := { maxStack := 3, maxLocals := 1, code := prog_38_method_1_code, exceptionTable := #[], attributes := #[] }
def k2m0 : Method := { name := "<init>", desc := "()V", sig := { parameters := [], returnType := none }, accessFlags := 0, code := some k2c0 }
def k2c1 : Code := { maxStack := 4, maxLocals := 6, code := prog_38_method_2_code, exceptionTable := #[], attributes := #[] }
def k2m1 : Method := { name := "split", desc := "([BII)I", sig := { parameters := [(.array .byte), .int, .int], returnType := some .int }, accessFlags := 0, code := some k2c1 }
def k2c2 : Code := { maxStack := 1, maxLocals := 1, code := prog_38_method_3_code, exceptionTable := #[], attributes := #[] }
def k2m2 : Method := { name := "bytes", desc := "()[B", sig := { parameters := [], returnType := some (.array .byte) }, accessFlags := 0, code := some k2c2 }
def k2c3 : Code := { maxStack := 2, maxLocals := 2, code := prog_38_method_4_code, exceptionTable := #[], attributes := #[] }
def k2m3 : Method := { name := "start", desc := "(Lcom/example/exdate/exdate/PositionField;)I", sig := { parameters := [(.object "com/example/exdate/exdate/PositionField")], returnType := some .int }, accessFlags := 0, code := some k2c3 }
def k2c4 : Code := { maxStack := 3, maxLocals := 2, code := prog_38_method_5_code, exceptionTable := #[], attributes := #[] }
def k2m4 : Method := { name := "end", desc := "(Lcom/example/exdate/exdate/PositionField;)I", sig := { parameters := [(.object "com/example/exdate/exdate/PositionField")], returnType := some .int }, accessFlags := 0, code := some k2c4 }
/-- com/example/exdate/exdate/RowFields -/
def k2 : Class := { plain "com/example/exdate/exdate/RowFields" (some 0) with
  accessFlags := 48
  interfaces := #[]
  cf := some (fileOf pool2 8 #[] #[{ accessFlags := 0, nameIndex := 5, descriptorIndex := 6, attributes := #[] }, { accessFlags := 0, nameIndex := 61, descriptorIndex := 62, attributes := #[] }, { accessFlags := 0, nameIndex := 19, descriptorIndex := 64, attributes := #[] }, { accessFlags := 0, nameIndex := 29, descriptorIndex := 30, attributes := #[] }, { accessFlags := 0, nameIndex := 35, descriptorIndex := 30, attributes := #[] }] 48 2 #[] #[{ accessFlags := 26, nameIndex := 11, descriptorIndex := 12, attributes := #[] }, { accessFlags := 26, nameIndex := 55, descriptorIndex := 56, attributes := #[] }, { accessFlags := 2, nameIndex := 19, descriptorIndex := 20, attributes := #[] }, { accessFlags := 18, nameIndex := 15, descriptorIndex := 16, attributes := #[] }])
  fields := #[{ name := "FIELD_COUNT", type := .int, accessFlags := 26, slot := 0, constantValue := 0 }, { name := "COMMA", type := .byte, accessFlags := 26, slot := 1, constantValue := 0 }, { name := "bytes", type := (.array .byte), accessFlags := 2, slot := 0, constantValue := 0 }, { name := "starts", type := (.array .int), accessFlags := 18, slot := 1, constantValue := 0 }]
  methods := #[k2m0, k2m1, k2m2, k2m3, k2m4]
  instanceTypes := #[(.array .byte), (.array .int)]
  staticTypes := #[.int, .byte]
  resolved := Array.replicate 72 none
  statics := some 0 }

def pool3 : Array CpInfo := pool [(1, .class_ 2), (0, u "java/lang/Math"), (1, .class_ 6), (1, u "java/lang/Object"), (0, u "<init>"), (0, u "()V"), (89, .class_ 100), (1, u "java/lang/Math$RandomNumberGeneratorHolder"), (71, u "negativeZeroFloatBits"), (0, u "J"), (2, u "negativeZeroDoubleBits"), (21, u "max"), (46, u "$assertionsDisabled"), (0, u "Z"), (88, u "(II)I"), (2, u "twoToTheDoubleScaleDown"), (0, u "D"), (4, u "twoToTheDoubleScaleUp"), (9, u "E"), (3, u "PI"), (2, u "TAU"), (2, u "DEGREES_TO_RADIANS"), (0, u "RADIANS_TO_DEGREES")] 94

def k3m0 : Method := { name := "<init>", desc := "()V", sig := { parameters := [], returnType := none }, accessFlags := 2, code := none }
def k3c1 : Code := { maxStack := 2, maxLocals := 2, code := jdk_29_method_65_code, exceptionTable := #[], attributes := #[] }
def k3m1 : Method := { name := "max", desc := "(II)I", sig := { parameters := [.int, .int], returnType := some .int }, accessFlags := 9, code := some k3c1 }
/-- java/lang/Math -/
def k3 : Class := { plain "java/lang/Math" (some 0) with
  accessFlags := 49
  interfaces := #[]
  cf := some (fileOf pool3 1 #[.nestMembers #[98]] #[{ accessFlags := 2, nameIndex := 7, descriptorIndex := 8, attributes := #[] }, { accessFlags := 9, nameIndex := 198, descriptorIndex := 335, attributes := #[] }] 49 4 #[] #[{ accessFlags := 25, nameIndex := 354, descriptorIndex := 339, attributes := #[] }, { accessFlags := 25, nameIndex := 358, descriptorIndex := 339, attributes := #[] }, { accessFlags := 25, nameIndex := 361, descriptorIndex := 339, attributes := #[] }, { accessFlags := 26, nameIndex := 364, descriptorIndex := 339, attributes := #[] }, { accessFlags := 26, nameIndex := 365, descriptorIndex := 339, attributes := #[] }, { accessFlags := 26, nameIndex := 172, descriptorIndex := 173, attributes := #[] }, { accessFlags := 26, nameIndex := 176, descriptorIndex := 173, attributes := #[] }, { accessFlags := 8, nameIndex := 344, descriptorIndex := 339, attributes := #[] }, { accessFlags := 8, nameIndex := 338, descriptorIndex := 339, attributes := #[] }, { accessFlags := 4120, nameIndex := 245, descriptorIndex := 246, attributes := #[] }])
  fields := #[{ name := "E", type := .double, accessFlags := 25, slot := 0, constantValue := 0 }, { name := "PI", type := .double, accessFlags := 25, slot := 1, constantValue := 0 }, { name := "TAU", type := .double, accessFlags := 25, slot := 2, constantValue := 0 }, { name := "DEGREES_TO_RADIANS", type := .double, accessFlags := 26, slot := 3, constantValue := 0 }, { name := "RADIANS_TO_DEGREES", type := .double, accessFlags := 26, slot := 4, constantValue := 0 }, { name := "negativeZeroFloatBits", type := .long, accessFlags := 26, slot := 5, constantValue := 0 }, { name := "negativeZeroDoubleBits", type := .long, accessFlags := 26, slot := 6, constantValue := 0 }, { name := "twoToTheDoubleScaleUp", type := .double, accessFlags := 8, slot := 7, constantValue := 0 }, { name := "twoToTheDoubleScaleDown", type := .double, accessFlags := 8, slot := 8, constantValue := 0 }, { name := "$assertionsDisabled", type := .boolean, accessFlags := 4120, slot := 9, constantValue := 0 }]
  methods := #[k3m0, k3m1]
  instanceTypes := #[]
  staticTypes := #[.double, .double, .double, .double, .double, .long, .long, .double, .double, .boolean]
  resolved := Array.replicate 460 none
  statics := none }

def pool4 : Array CpInfo := pool [(1, .class_ 2), (0, u "java/lang/constant/Constable"), (0, .class_ 4), (0, u "java/lang/Object")] 6

/-- java/lang/constant/Constable -/
def k4 : Class := { plain "java/lang/constant/Constable" (some 0) with
  accessFlags := 1537
  interfaces := #[]
  cf := some (fileOf pool4 1 #[] #[] 1537 3 #[] #[])
  fields := #[]
  methods := #[]
  instanceTypes := #[]
  staticTypes := #[]
  resolved := Array.replicate 11 none
  statics := none }

def pool5 : Array CpInfo := pool [(1, .class_ 2), (0, u "java/lang/Comparable"), (0, .class_ 4), (0, u "java/lang/Object")] 7

/-- java/lang/Comparable -/
def k5 : Class := { plain "java/lang/Comparable" (some 0) with
  accessFlags := 1537
  interfaces := #[]
  cf := some (fileOf pool5 1 #[] #[] 1537 3 #[] #[])
  fields := #[]
  methods := #[]
  instanceTypes := #[]
  staticTypes := #[]
  resolved := Array.replicate 12 none
  statics := none }

def pool6 : Array CpInfo := pool [(1, .class_ 2), (0, u "java/io/Serializable"), (0, .class_ 4), (0, u "java/lang/Object")] 2

/-- java/io/Serializable -/
def k6 : Class := { plain "java/io/Serializable" (some 0) with
  accessFlags := 1537
  interfaces := #[]
  cf := some (fileOf pool6 1 #[] #[] 1537 3 #[] #[])
  fields := #[]
  methods := #[]
  instanceTypes := #[]
  staticTypes := #[]
  resolved := Array.replicate 7 none
  statics := none }

def pool7 : Array CpInfo := pool [(2, .class_ 4), (1, u "java/lang/Enum"), (0, u "name"), (0, u "Ljava/lang/String;"), (0, .fieldref 2 8), (0, .nameAndType 9 10), (0, u "ordinal"), (0, u "I"), (1, .class_ 14), (1, u "java/lang/Object"), (4, u "hash"), (86, .class_ 108), (1, u "java/lang/Enum$EnumDesc"), (2, .class_ 112), (0, u "java/lang/constant/Constable"), (0, .class_ 114), (0, u "java/lang/Comparable"), (0, .class_ 116), (0, u "java/io/Serializable"), (9, u "()I")] 77

def k7c0 : Code := { maxStack := 1, maxLocals := 1, code := jdk_37_method_2_code, exceptionTable := #[], attributes := #[] }
def k7m0 : Method := { name := "ordinal", desc := "()I", sig := { parameters := [], returnType := some .int }, accessFlags := 17, code := some k7c0 }
/-- java/lang/Enum -/
def k7 : Class := { plain "java/lang/Enum" (some 0) with
  accessFlags := 1057
  interfaces := #[4, 5, 6]
  cf := some (fileOf pool7 2 #[.nestMembers #[106]] #[{ accessFlags := 17, nameIndex := 9, descriptorIndex := 126, attributes := #[] }] 1057 12 #[111, 113, 115] #[{ accessFlags := 18, nameIndex := 5, descriptorIndex := 6, attributes := #[] }, { accessFlags := 18, nameIndex := 9, descriptorIndex := 10, attributes := #[] }, { accessFlags := 2, nameIndex := 19, descriptorIndex := 10, attributes := #[] }])
  fields := #[{ name := "name", type := (.object "java/lang/String"), accessFlags := 18, slot := 0, constantValue := 0 }, { name := "ordinal", type := .int, accessFlags := 18, slot := 1, constantValue := 0 }, { name := "hash", type := .int, accessFlags := 2, slot := 2, constantValue := 0 }]
  methods := #[k7m0]
  instanceTypes := #[(.object "java/lang/String"), .int, .int]
  staticTypes := #[]
  resolved := Array.replicate 204 none
  statics := none }

def pool8 : Array CpInfo := pool [(1, .class_ 2), (0, u "com/example/exdate/exdate/PositionField"), (2, u "POSITION_DATE"), (0, u "Lcom/example/exdate/exdate/PositionField;"), (2, u "SEGMENT_INDICATOR"), (2, u "SETTLEMENT_TYPE"), (2, u "CLEARING_MEMBER_CODE"), (2, u "MEMBER_TYPE"), (2, u "TRADING_MEMBER_CODE"), (2, u "ACCOUNT_TYPE"), (2, u "CLIENT_ACCOUNT_CODE"), (2, u "INSTRUMENT_TYPE"), (2, u "SYMBOL"), (2, u "EXPIRY_DATE"), (2, u "STRIKE_PRICE"), (2, u "OPTION_TYPE"), (2, u "CA_LEVEL"), (2, u "POST_EX_LONG_QUANTITY"), (2, u "POST_EX_LONG_VALUE"), (2, u "POST_EX_SHORT_QUANTITY"), (2, u "POST_EX_SHORT_VALUE"), (2, u "CF_LONG_QUANTITY"), (2, u "CF_LONG_VALUE"), (2, u "CF_SHORT_QUANTITY"), (2, u "CF_SHORT_VALUE"), (2, u "$VALUES"), (0, u "[Lcom/example/exdate/exdate/PositionField;"), (6, .class_ 82), (1, u "java/lang/Enum"), (8, u "title"), (0, u "Ljava/lang/String;"), (2, u "form"), (0, u "Lcom/example/exdate/exdate/PositionField$Form;"), (0, .methodref 1 98), (0, .nameAndType 99 100), (0, u "ordinal"), (0, u "()I"), (27, .class_ 130), (1, u "com/example/exdate/exdate/PositionField$Form"), (84, u "HEADER"), (7, u "index")] 8

def k8c0 : Code := { maxStack := 1, maxLocals := 1, code := prog_27_method_6_code, exceptionTable := #[], attributes := #[] }
def k8m0 : Method := { name := "index", desc := "()I", sig := { parameters := [], returnType := some .int }, accessFlags := 0, code := some k8c0 }
/-- com/example/exdate/exdate/PositionField -/
def k8 : Class := { plain "com/example/exdate/exdate/PositionField" (some 7) with
  accessFlags := 16432
  interfaces := #[]
  cf := some (fileOf pool8 1 #[.nestMembers #[128]] #[{ accessFlags := 0, nameIndex := 223, descriptorIndex := 100, attributes := #[] }] 16432 80 #[] #[{ accessFlags := 16409, nameIndex := 5, descriptorIndex := 6, attributes := #[] }, { accessFlags := 16409, nameIndex := 9, descriptorIndex := 6, attributes := #[] }, { accessFlags := 16409, nameIndex := 12, descriptorIndex := 6, attributes := #[] }, { accessFlags := 16409, nameIndex := 15, descriptorIndex := 6, attributes := #[] }, { accessFlags := 16409, nameIndex := 18, descriptorIndex := 6, attributes := #[] }, { accessFlags := 16409, nameIndex := 21, descriptorIndex := 6, attributes := #[] }, { accessFlags := 16409, nameIndex := 24, descriptorIndex := 6, attributes := #[] }, { accessFlags := 16409, nameIndex := 27, descriptorIndex := 6, attributes := #[] }, { accessFlags := 16409, nameIndex := 30, descriptorIndex := 6, attributes := #[] }, { accessFlags := 16409, nameIndex := 33, descriptorIndex := 6, attributes := #[] }, { accessFlags := 16409, nameIndex := 36, descriptorIndex := 6, attributes := #[] }, { accessFlags := 16409, nameIndex := 39, descriptorIndex := 6, attributes := #[] }, { accessFlags := 16409, nameIndex := 42, descriptorIndex := 6, attributes := #[] }, { accessFlags := 16409, nameIndex := 45, descriptorIndex := 6, attributes := #[] }, { accessFlags := 16409, nameIndex := 48, descriptorIndex := 6, attributes := #[] }, { accessFlags := 16409, nameIndex := 51, descriptorIndex := 6, attributes := #[] }, { accessFlags := 16409, nameIndex := 54, descriptorIndex := 6, attributes := #[] }, { accessFlags := 16409, nameIndex := 57, descriptorIndex := 6, attributes := #[] }, { accessFlags := 16409, nameIndex := 60, descriptorIndex := 6, attributes := #[] }, { accessFlags := 16409, nameIndex := 63, descriptorIndex := 6, attributes := #[] }, { accessFlags := 16409, nameIndex := 66, descriptorIndex := 6, attributes := #[] }, { accessFlags := 16409, nameIndex := 69, descriptorIndex := 6, attributes := #[] }, { accessFlags := 24, nameIndex := 215, descriptorIndex := 92, attributes := #[] }, { accessFlags := 18, nameIndex := 91, descriptorIndex := 92, attributes := #[] }, { accessFlags := 18, nameIndex := 95, descriptorIndex := 96, attributes := #[] }, { accessFlags := 4122, nameIndex := 72, descriptorIndex := 73, attributes := #[] }])
  fields := #[{ name := "POSITION_DATE", type := (.object "com/example/exdate/exdate/PositionField"), accessFlags := 16409, slot := 0, constantValue := 0 }, { name := "SEGMENT_INDICATOR", type := (.object "com/example/exdate/exdate/PositionField"), accessFlags := 16409, slot := 1, constantValue := 0 }, { name := "SETTLEMENT_TYPE", type := (.object "com/example/exdate/exdate/PositionField"), accessFlags := 16409, slot := 2, constantValue := 0 }, { name := "CLEARING_MEMBER_CODE", type := (.object "com/example/exdate/exdate/PositionField"), accessFlags := 16409, slot := 3, constantValue := 0 }, { name := "MEMBER_TYPE", type := (.object "com/example/exdate/exdate/PositionField"), accessFlags := 16409, slot := 4, constantValue := 0 }, { name := "TRADING_MEMBER_CODE", type := (.object "com/example/exdate/exdate/PositionField"), accessFlags := 16409, slot := 5, constantValue := 0 }, { name := "ACCOUNT_TYPE", type := (.object "com/example/exdate/exdate/PositionField"), accessFlags := 16409, slot := 6, constantValue := 0 }, { name := "CLIENT_ACCOUNT_CODE", type := (.object "com/example/exdate/exdate/PositionField"), accessFlags := 16409, slot := 7, constantValue := 0 }, { name := "INSTRUMENT_TYPE", type := (.object "com/example/exdate/exdate/PositionField"), accessFlags := 16409, slot := 8, constantValue := 0 }, { name := "SYMBOL", type := (.object "com/example/exdate/exdate/PositionField"), accessFlags := 16409, slot := 9, constantValue := 0 }, { name := "EXPIRY_DATE", type := (.object "com/example/exdate/exdate/PositionField"), accessFlags := 16409, slot := 10, constantValue := 0 }, { name := "STRIKE_PRICE", type := (.object "com/example/exdate/exdate/PositionField"), accessFlags := 16409, slot := 11, constantValue := 0 }, { name := "OPTION_TYPE", type := (.object "com/example/exdate/exdate/PositionField"), accessFlags := 16409, slot := 12, constantValue := 0 }, { name := "CA_LEVEL", type := (.object "com/example/exdate/exdate/PositionField"), accessFlags := 16409, slot := 13, constantValue := 0 }, { name := "POST_EX_LONG_QUANTITY", type := (.object "com/example/exdate/exdate/PositionField"), accessFlags := 16409, slot := 14, constantValue := 0 }, { name := "POST_EX_LONG_VALUE", type := (.object "com/example/exdate/exdate/PositionField"), accessFlags := 16409, slot := 15, constantValue := 0 }, { name := "POST_EX_SHORT_QUANTITY", type := (.object "com/example/exdate/exdate/PositionField"), accessFlags := 16409, slot := 16, constantValue := 0 }, { name := "POST_EX_SHORT_VALUE", type := (.object "com/example/exdate/exdate/PositionField"), accessFlags := 16409, slot := 17, constantValue := 0 }, { name := "CF_LONG_QUANTITY", type := (.object "com/example/exdate/exdate/PositionField"), accessFlags := 16409, slot := 18, constantValue := 0 }, { name := "CF_LONG_VALUE", type := (.object "com/example/exdate/exdate/PositionField"), accessFlags := 16409, slot := 19, constantValue := 0 }, { name := "CF_SHORT_QUANTITY", type := (.object "com/example/exdate/exdate/PositionField"), accessFlags := 16409, slot := 20, constantValue := 0 }, { name := "CF_SHORT_VALUE", type := (.object "com/example/exdate/exdate/PositionField"), accessFlags := 16409, slot := 21, constantValue := 0 }, { name := "HEADER", type := (.object "java/lang/String"), accessFlags := 24, slot := 22, constantValue := 0 }, { name := "title", type := (.object "java/lang/String"), accessFlags := 18, slot := 3, constantValue := 0 }, { name := "form", type := (.object "com/example/exdate/exdate/PositionField$Form"), accessFlags := 18, slot := 4, constantValue := 0 }, { name := "$VALUES", type := (.array (.object "com/example/exdate/exdate/PositionField")), accessFlags := 4122, slot := 23, constantValue := 0 }]
  methods := #[k8m0]
  instanceTypes := #[(.object "java/lang/String"), .int, .int, (.object "java/lang/String"), (.object "com/example/exdate/exdate/PositionField$Form")]
  staticTypes := #[(.object "com/example/exdate/exdate/PositionField"), (.object "com/example/exdate/exdate/PositionField"), (.object "com/example/exdate/exdate/PositionField"), (.object "com/example/exdate/exdate/PositionField"), (.object "com/example/exdate/exdate/PositionField"), (.object "com/example/exdate/exdate/PositionField"), (.object "com/example/exdate/exdate/PositionField"), (.object "com/example/exdate/exdate/PositionField"), (.object "com/example/exdate/exdate/PositionField"), (.object "com/example/exdate/exdate/PositionField"), (.object "com/example/exdate/exdate/PositionField"), (.object "com/example/exdate/exdate/PositionField"), (.object "com/example/exdate/exdate/PositionField"), (.object "com/example/exdate/exdate/PositionField"), (.object "com/example/exdate/exdate/PositionField"), (.object "com/example/exdate/exdate/PositionField"), (.object "com/example/exdate/exdate/PositionField"), (.object "com/example/exdate/exdate/PositionField"), (.object "com/example/exdate/exdate/PositionField"), (.object "com/example/exdate/exdate/PositionField"), (.object "com/example/exdate/exdate/PositionField"), (.object "com/example/exdate/exdate/PositionField"), (.object "java/lang/String"), (.array (.object "com/example/exdate/exdate/PositionField"))]
  resolved := Array.replicate 232 none
  statics := some 1 }

def pool9 : Array CpInfo := pool [(1, u "java/lang/Cloneable"), (0, .class_ 1), (0, u "java/lang/Object"), (0, .class_ 3)] 3

/-- java/lang/Cloneable -/
def k9 : Class := { plain "java/lang/Cloneable" (some 0) with
  accessFlags := 1537
  interfaces := #[]
  cf := some (fileOf pool9 2 #[] #[] 1537 4 #[] #[])
  fields := #[]
  methods := #[]
  instanceTypes := #[]
  staticTypes := #[]
  resolved := Array.replicate 8 none
  statics := none }

/-- the primitive byte -/
def k10 : Class := { plain "byte" none with kind := .primitive 'B', accessFlags := 0x411 }
/-- [B -/
def k11 : Class := { plain "[B" (some 0) with kind := .array 10 .byte, interfaces := #[9, 6], accessFlags := 1041 }

/-- the primitive int -/
def k12 : Class := { plain "int" none with kind := .primitive 'I', accessFlags := 0x411 }
/-- [I -/
def k13 : Class := { plain "[I" (some 0) with kind := .array 12 .int, interfaces := #[9, 6], accessFlags := 1041 }

def heap : Heap := #[{ cls := 2, slots := #[.int 22, .int 0], vm := .statics 2 },
  { cls := 8, slots := #[.ref 2, .ref 3, .null, .null, .null, .null, .null, .null, .null, .ref 4, .null, .null, .null, .null, .null, .null, .null, .null, .null, .null, .null, .ref 5, .null, .null], vm := .statics 8 },
  { cls := 8, slots := #[.null, .int 0, .int 0, .null, .null], vm := .none },
  { cls := 8, slots := #[.null, .int 1, .int 0, .null, .null], vm := .none },
  { cls := 8, slots := #[.null, .int 9, .int 0, .null, .null], vm := .none },
  { cls := 8, slots := #[.null, .int 21, .int 0, .null, .null], vm := .none }]
def classes : Array Class := #[k0, k1, k2, k3, k4, k5, k6, k7, k8, k9, k10, k11, k12, k13]
def interned : List (Array UInt16 × Addr) := []
def slotsUsed : Nat := 46
def theMethod : MethodId := ⟨1, 4⟩
def args0 : Array Value := #[.long 5, .int 1, .int 2, .int 3]
def aboutOver (below : List Frame) : State where
  vm := { classes := classes, interned := interned.toArray }
  heap := heap
  slotsUsed := slotsUsed
  threads := #[{ frames := .invoking theMethod args0 :: below }]
def below0 : List Frame := [.native { method := ⟨0, 0⟩, args := #[] }]
def about1 : State := aboutOver below0
def p0 : Program := .bare "" "" ""
def e0 : Env := launch0.env 0 0 0
theorem w_frames : about1.frames = Frame.invoking theMethod args0 :: below0 := rfl
set_option maxRecDepth 65536 in
theorem w_args : argsFit about1.vm theMethod args0 = true := by decide +kernel
set_option maxRecDepth 65536 in
theorem w_heap : heapFits about1 = true := by decide +kernel
set_option maxRecDepth 65536 in
theorem w_runnable : about1.curStatus? = some .runnable := by decide +kernel
set_option maxRecDepth 65536 in
theorem w_alone : about1.alone = true := by decide +kernel
set_option maxRecDepth 65536 in
theorem w_named : about1.methodNamed? x = some theMethod := by decide +kernel
set_option maxRecDepth 65536 in
theorem w_hears : about1.hears theMethod below0 = true := by decide +kernel
set_option maxRecDepth 65536 in
theorem w_ripe : about1.ripe theMethod args0 below0 = true := by decide +kernel
theorem w_running : about1.status = .running := rfl
set_option maxRecDepth 65536 in
theorem w_room : about1.hasRoom e0.platform room_1 = true :=
  launch0.hasRoom_least _ room_1 (by decide +kernel) (by decide +kernel) (by decide +kernel) (by decide +kernel) (by decide +kernel) (by decide +kernel)
theorem allAtoms_all (ts : List Jvm.Cond) (a : Array Jvm.Value) (st : Jvm.State) : (allAtoms ts).before a st = ts.all (fun c => c.before a st) := by
  induction ts with
  | nil => rfl
  | cons c t ih =>
    show (Jvm.Cond.and c (allAtoms t)).before a st = _
    rw [Jvm.Cond.before_and, ih, List.all_cons]
def words1 : List Jvm.Cond := Jvm.Cond.code x code maxLocals ret :: tables_1
/-- a 'code' word, met by the world's own term for the bytes: nothing is compared byte by byte -/
theorem code_word {y : MethodName} {bytes : ByteArray} {mx : Nat} {rt : Option FieldType} {a : Array Value} {s : State} {m : MethodId} {meth : Method} {c : Code} (h1 : s.methodNamed? y = some m) (h2 : s.vm.method? m = some meth) (h3 : meth.code = some c) (h4 : c.code = bytes)
    (h5 : (c.maxLocals == mx && c.exceptionTable.isEmpty && decide (c.maxStack ≤ mostOperands) && decide (meth.sig.returnType = rt) && !meth.locks && decide (parseMethodDescriptor y.desc = some meth.sig)) = true) : (Jvm.Cond.code y bytes mx rt).before a s = true := by
  simp only [Bool.and_eq_true, beq_iff_eq, Bool.not_eq_true', decide_eq_true_eq] at h5
  obtain ⟨⟨⟨⟨⟨g1, g2⟩, g3⟩, g4⟩, g5⟩, g6⟩ := h5
  simp [Cond.before, Cond.holds, Cond.value, h1, h2, h3, h4, g1, g2, g3, g4, g5, g6]
def isCode : Jvm.Cond → Bool
  | .code _ _ _ _ => true
  | _ => false
theorem all_split {L : List Jvm.Cond} {P : Jvm.Cond → Bool} (h1 : L.all (fun c => isCode c || P c) = true) (h2 : ∀ c ∈ L.filter isCode, P c = true) : L.all P = true := by
  refine List.all_eq_true.mpr fun c hc => ?_
  have h := List.all_eq_true.mp h1 c hc
  rcases Bool.eq_false_or_eq_true (isCode c) with hi | hi
  · exact h2 c (List.mem_filter.mpr ⟨hc, hi⟩)
  · simpa [hi] using h
set_option maxRecDepth 65536 in
theorem w_c0 : (Jvm.Cond.code x code maxLocals ret).before args0 about1 = true := code_word (m := ⟨1, 4⟩) (meth := k1m4) (c := k1c4) (by decide +kernel) rfl rfl rfl (by decide +kernel)
set_option maxRecDepth 65536 in
theorem w_c1 : (Jvm.Cond.code ({ cls := "com/example/exdate/exdate/RowFieldsSplitPinLaw", name := "pick", desc := "(JII)B" } : Jvm.MethodName) method_2_code (4 : Nat) (Option.some Jvm.ClassFile.FieldType.byte)).before args0 about1 = true := code_word (m := ⟨1, 1⟩) (meth := k1m1) (c := k1c1) (by decide +kernel) rfl rfl rfl (by decide +kernel)
set_option maxRecDepth 65536 in
theorem w_c2 : (Jvm.Cond.code ({ cls := "com/example/exdate/exdate/RowFields", name := "<init>", desc := "()V" } : Jvm.MethodName) prog_38_method_1_code (1 : Nat) (Option.none : Option Jvm.ClassFile.FieldType)).before args0 about1 = true := code_word (m := ⟨2, 0⟩) (meth := k2m0) (c := k2c0) (by decide +kernel) rfl rfl rfl (by decide +kernel)
set_option maxRecDepth 65536 in
theorem w_c3 : (Jvm.Cond.code ({ cls := "java/lang/Object", name := "<init>", desc := "()V" } : Jvm.MethodName) object_method_1_code (1 : Nat) (Option.none : Option Jvm.ClassFile.FieldType)).before args0 about1 = true := code_word (m := ⟨0, 0⟩) (meth := k0m0) (c := k0c0) (by decide +kernel) rfl rfl rfl (by decide +kernel)
set_option maxRecDepth 65536 in
theorem w_c4 : (Jvm.Cond.code ({ cls := "com/example/exdate/exdate/RowFields", name := "split", desc := "([BII)I" } : Jvm.MethodName) prog_38_method_2_code (6 : Nat) (Option.some Jvm.ClassFile.FieldType.int)).before args0 about1 = true := code_word (m := ⟨2, 1⟩) (meth := k2m1) (c := k2c1) (by decide +kernel) rfl rfl rfl (by decide +kernel)
set_option maxRecDepth 65536 in
theorem w_c5 : (Jvm.Cond.code ({ cls := "com/example/exdate/exdate/RowFieldsSplitPinLaw", name := "hit", desc := "([BIII)I" } : Jvm.MethodName) method_3_code (4 : Nat) (Option.some Jvm.ClassFile.FieldType.int)).before args0 about1 = true := code_word (m := ⟨1, 2⟩) (meth := k1m2) (c := k1c2) (by decide +kernel) rfl rfl rfl (by decide +kernel)
set_option maxRecDepth 65536 in
theorem w_c6 : (Jvm.Cond.code ({ cls := "java/lang/Math", name := "max", desc := "(II)I" } : Jvm.MethodName) jdk_29_method_65_code (2 : Nat) (Option.some Jvm.ClassFile.FieldType.int)).before args0 about1 = true := code_word (m := ⟨3, 1⟩) (meth := k3m1) (c := k3c1) (by decide +kernel) rfl rfl rfl (by decide +kernel)
set_option maxRecDepth 65536 in
theorem w_c7 : (Jvm.Cond.code ({ cls := "com/example/exdate/exdate/RowFields", name := "bytes", desc := "()[B" } : Jvm.MethodName) prog_38_method_3_code (1 : Nat) (Option.some (Jvm.ClassFile.FieldType.array Jvm.ClassFile.FieldType.byte))).before args0 about1 = true := code_word (m := ⟨2, 2⟩) (meth := k2m2) (c := k2c2) (by decide +kernel) rfl rfl rfl (by decide +kernel)
set_option maxRecDepth 65536 in
theorem w_c8 : (Jvm.Cond.code ({ cls := "com/example/exdate/exdate/RowFields", name := "start", desc := "(Lcom/example/exdate/exdate/PositionField;)I" } : Jvm.MethodName) prog_38_method_4_code (2 : Nat) (Option.some Jvm.ClassFile.FieldType.int)).before args0 about1 = true := code_word (m := ⟨2, 3⟩) (meth := k2m3) (c := k2c3) (by decide +kernel) rfl rfl rfl (by decide +kernel)
set_option maxRecDepth 65536 in
theorem w_c9 : (Jvm.Cond.code ({ cls := "com/example/exdate/exdate/PositionField", name := "index", desc := "()I" } : Jvm.MethodName) prog_27_method_6_code (1 : Nat) (Option.some Jvm.ClassFile.FieldType.int)).before args0 about1 = true := code_word (m := ⟨8, 0⟩) (meth := k8m0) (c := k8c0) (by decide +kernel) rfl rfl rfl (by decide +kernel)
set_option maxRecDepth 65536 in
theorem w_c10 : (Jvm.Cond.code ({ cls := "java/lang/Enum", name := "ordinal", desc := "()I" } : Jvm.MethodName) jdk_37_method_2_code (1 : Nat) (Option.some Jvm.ClassFile.FieldType.int)).before args0 about1 = true := code_word (m := ⟨7, 0⟩) (meth := k7m0) (c := k7c0) (by decide +kernel) rfl rfl rfl (by decide +kernel)
set_option maxRecDepth 65536 in
theorem w_c11 : (Jvm.Cond.code ({ cls := "com/example/exdate/exdate/RowFields", name := "end", desc := "(Lcom/example/exdate/exdate/PositionField;)I" } : Jvm.MethodName) prog_38_method_5_code (2 : Nat) (Option.some Jvm.ClassFile.FieldType.int)).before args0 about1 = true := code_word (m := ⟨2, 4⟩) (meth := k2m4) (c := k2c4) (by decide +kernel) rfl rfl rfl (by decide +kernel)
set_option maxRecDepth 65536 in
theorem w_c12 : (Jvm.Cond.code ({ cls := "com/example/exdate/exdate/RowFieldsSplitPinLaw", name := "kth", desc := "([BIII)I" } : Jvm.MethodName) method_4_code (6 : Nat) (Option.some Jvm.ClassFile.FieldType.int)).before args0 about1 = true := code_word (m := ⟨1, 3⟩) (meth := k1m3) (c := k1c3) (by decide +kernel) rfl rfl rfl (by decide +kernel)
def codes1 : List Jvm.Cond := [Jvm.Cond.code x code maxLocals ret, Jvm.Cond.code ({ cls := "com/example/exdate/exdate/RowFieldsSplitPinLaw", name := "pick", desc := "(JII)B" } : Jvm.MethodName) method_2_code (4 : Nat) (Option.some Jvm.ClassFile.FieldType.byte), Jvm.Cond.code ({ cls := "com/example/exdate/exdate/RowFields", name := "<init>", desc := "()V" } : Jvm.MethodName) prog_38_method_1_code (1 : Nat) (Option.none : Option Jvm.ClassFile.FieldType), Jvm.Cond.code ({ cls := "java/lang/Object", name := "<init>", desc := "()V" } : Jvm.MethodName) object_method_1_code (1 : Nat) (Option.none : Option Jvm.ClassFile.FieldType), Jvm.Cond.code ({ cls := "com/example/exdate/exdate/RowFields", name := "split", desc := "([BII)I" } : Jvm.MethodName) prog_38_method_2_code (6 : Nat) (Option.some Jvm.ClassFile.FieldType.int), Jvm.Cond.code ({ cls := "com/example/exdate/exdate/RowFieldsSplitPinLaw", name := "hit", desc := "([BIII)I" } : Jvm.MethodName) method_3_code (4 : Nat) (Option.some Jvm.ClassFile.FieldType.int), Jvm.Cond.code ({ cls := "java/lang/Math", name := "max", desc := "(II)I" } : Jvm.MethodName) jdk_29_method_65_code (2 : Nat) (Option.some Jvm.ClassFile.FieldType.int), Jvm.Cond.code ({ cls := "com/example/exdate/exdate/RowFields", name := "bytes", desc := "()[B" } : Jvm.MethodName) prog_38_method_3_code (1 : Nat) (Option.some (Jvm.ClassFile.FieldType.array Jvm.ClassFile.FieldType.byte)), Jvm.Cond.code ({ cls := "com/example/exdate/exdate/RowFields", name := "start", desc := "(Lcom/example/exdate/exdate/PositionField;)I" } : Jvm.MethodName) prog_38_method_4_code (2 : Nat) (Option.some Jvm.ClassFile.FieldType.int), Jvm.Cond.code ({ cls := "com/example/exdate/exdate/PositionField", name := "index", desc := "()I" } : Jvm.MethodName) prog_27_method_6_code (1 : Nat) (Option.some Jvm.ClassFile.FieldType.int), Jvm.Cond.code ({ cls := "java/lang/Enum", name := "ordinal", desc := "()I" } : Jvm.MethodName) jdk_37_method_2_code (1 : Nat) (Option.some Jvm.ClassFile.FieldType.int), Jvm.Cond.code ({ cls := "com/example/exdate/exdate/RowFields", name := "end", desc := "(Lcom/example/exdate/exdate/PositionField;)I" } : Jvm.MethodName) prog_38_method_5_code (2 : Nat) (Option.some Jvm.ClassFile.FieldType.int), Jvm.Cond.code ({ cls := "com/example/exdate/exdate/RowFieldsSplitPinLaw", name := "kth", desc := "([BIII)I" } : Jvm.MethodName) method_4_code (6 : Nat) (Option.some Jvm.ClassFile.FieldType.int)]
set_option maxRecDepth 65536 in
theorem codes_eq : words1.filter isCode = codes1 := rfl
theorem w_codes : ∀ c ∈ words1.filter isCode, c.before args0 about1 = true := by
  rw [codes_eq]
  intro c hc
  simp only [codes1, List.mem_cons, List.not_mem_nil, or_false] at hc
  rcases hc with rfl | rfl | rfl | rfl | rfl | rfl | rfl | rfl | rfl | rfl | rfl | rfl | rfl
  · exact w_c0
  · exact w_c1
  · exact w_c2
  · exact w_c3
  · exact w_c4
  · exact w_c5
  · exact w_c6
  · exact w_c7
  · exact w_c8
  · exact w_c9
  · exact w_c10
  · exact w_c11
  · exact w_c12
set_option maxRecDepth 65536 in
theorem w_t1 : (words1.take 24).all (fun c => isCode c || c.before args0 about1) = true := by decide +kernel
set_option maxRecDepth 65536 in
theorem w_t2 : ((words1.drop 24).take 24).all (fun c => isCode c || c.before args0 about1) = true := by decide +kernel
set_option maxRecDepth 65536 in
theorem w_t3 : (((words1.drop 24).drop 24).take 24).all (fun c => isCode c || c.before args0 about1) = true := by decide +kernel
set_option maxRecDepth 65536 in
theorem w_t4 : (((words1.drop 24).drop 24).drop 24).all (fun c => isCode c || c.before args0 about1) = true := by decide +kernel
theorem w_tables : (allAtoms (Jvm.Cond.code x code maxLocals ret :: tables_1)).before args0 about1 = true := by
  rw [allAtoms_all]
  show words1.all (fun c => c.before args0 about1) = true
  refine all_split ?_ w_codes
  rw [← List.take_append_drop 24 words1, List.all_append, w_t1, ← List.take_append_drop 24 (words1.drop 24), List.all_append, w_t2, ← List.take_append_drop 24 ((words1.drop 24).drop 24), List.all_append, w_t3, w_t4]
  rfl
set_option maxRecDepth 65536 in
theorem w_case : (Jvm.Cond.and given_1 narrow_1).before args0 about1 = true := by decide +kernel
theorem w_applies : (headSpec (Jvm.Cond.code x code maxLocals ret :: tables_1) room_1).applies x e0.platform about1 = true :=
  (Spec.applies_iff w_frames).mpr ⟨w_running, w_runnable, w_alone, w_named, w_hears, w_ripe, w_room, w_tables⟩
theorem atStart : AtStart classFile x code maxLocals ret World_1 tables_1 room_1 Calls_1 rest_1 Pre_1 launch0 p0 e0 about1 theMethod args0 below0 :=
  ⟨lists_1, trivial, launch0.admits_env _ _ _, launch0.least_env, fairChoices_fair.cas, fairChoices_fair.clock, w_frames, w_args, w_heap, w_applies, trivial, trivial, w_case⟩
end start1
theorem witness_1 : WitnessClaimed_1 := ⟨start1.p0, start1.e0, start1.about1, start1.theMethod, start1.args0, start1.below0, start1.atStart⟩
end Jvm.Pilot.@@N@@
