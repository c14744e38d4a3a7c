import JvmDerived
import JvmDerived.Pilot.@@N@@Statement
import JvmDerived.Pilot.@@N@@Code
set_option linter.unusedVariables false
set_option linter.unusedSimpArgs false
namespace Jvm.Pilot.@@N@@
open Jvm Jvm.ClassFile Sem Op Lib Jvm.Free Jvm.Stand Jvm.LawKit Jvm.RoadKit Bundle Jvm.Pilot.@@N@@.Jvm.D
section OwnHead
variable {p : Program} {l : Launch} {e : Env} {R : Room} {s : State} {m : MethodId} {args : Array Value} {below : List Frame} {meth : Method} {c : Code} {T T' : State} {Z : State} {own : String} {h h' : Heap} {n0 k n C S : Nat} {a0 : Array Value} {P : Option Value → Heap → Prop} {g g' : JFrame} {pc : Nat} {Ls : Array Slot} {st rest : List Value} {vm0 : Vm} {locs : List Loc}
theorem nfOf {args : Array Value} {s : State} {D : String} {x' z' y : MethodName} (h : (Cond.selects D x' z').before args s = true) (hc : z'.cls = y.cls) : NotFace s y := fun r0 h0 => by
  obtain ⟨c2, r2, m2, q1, q2, q3, q4, kP, hkP, hkPi⟩ := Cond.selects_spec h
  have e1 := findClass_of_methodNamed q3
  have e2 := findClass_of_methodNamed h0
  rw [hc] at e1
  have e3 : m2.cls = r0.cls := Option.some.inj (e1.symm.trans e2)
  exact ⟨kP, e3 ▸ hkP, hkPi⟩
/-- the tables over which the walk stands, and how it ends: narrow (nothing interned) -/
def Bk (s : State) (vm : Vm) (n : Nat) : Prop := vm = s.vm
theorem Bk.mono {vm : Vm} {n n' : Nat} (h : Bk s vm n) (_ : n ≤ n') : Bk s vm n' := h
theorem Bk.start : Bk s s.vm n := rfl
abbrev EndF (s : State) (o : Outcome) (t : State) (L : List Loc) (k n : Nat) : Prop := FrameEnd s o t L k n
theorem EndF.mono {o : Outcome} {t : State} {L : List Loc} {k' n' : Nat} (h : EndF s o t L k n) (hk : k ≤ k') (hn : n ≤ n') : EndF s o t L k' n' := ⟨h.1, h.2.1, h.2.2.mono hk hn⟩
theorem Bk.leave (X : Stand p l e R (s.setVm vm0) m args below meth c T locs k n) (hB : Bk s vm0 T.heap.size) {v : Option Value} (hv : meth.sig.returnType = none → v = none) (hlk : meth.locks = false) :
    ∃ fs, (∀ (f : JFrame) (acts : List Action), f.method = m → f.locked = none → f.entered = [] → (doReturn e (T.setTop f) acts v).1 = T.setFrames fs) ∧ (T.setFrames fs).status = .running ∧ Ended (T.setFrames fs) below (.returned v) ∧ EndF s (.returned v) (T.setFrames fs) locs k n := by
  cases hB
  have X : Stand p l e R s m args below meth c T locs k n := X
  obtain ⟨fs, hr, hrun, hended, hW, hsame⟩ := X.leave hv hlk
  exact ⟨fs, hr, hrun, hended, ⟨_, rfl⟩, hW, hsame⟩
/-- a body's contract -/
def Met (l : Launch) (Z : State) (n0 : Nat) (y : MethodName) (bytes : ByteArray) (maxL : Nat) (ret : Option FieldType) (rm : Room) (as' : Array Value) (h0 : Heap) (Q : Option Value → Heap → Prop) : Prop :=
  MetFree l y (head1 [Cond.code y bytes maxL ret] rm) (fun a U => a = as' ∧ Z.Warmed39 U.vm ∧ U.heap = h0) (fun _ _ _ _ _ => True) (fun _ U o U' => ∃ v L, o = .returned v ∧ (Fr n0 L ∧ Q v U'.heap) ∧ EndF U o U' L rm.cells rm.slots)
theorem Bk.callS (X : Stand p l e R (s.setVm vm0) m args below meth c T locs k n) (hx : p.tables.exec = Jvm.exec) (hB : Bk s vm0 T.heap.size) (hZ : Z.Warmed39 vm0) (hown : vm0.findClass own = some m.cls) {index : Nat} {y : MethodName} {bytes : ByteArray} {maxL : Nat} {ret : Option FieldType} {rm : Room} {argsL : List Value} {Q : Option Value → Heap → Prop} {ps : List FieldType} {r : Option FieldType} (w1 : (Cond.methodLink own index y).before a0 Z = true) (w2 : (Cond.static y).before a0 Z = true) (wz : (Cond.initialized y.cls).before a0 Z = true) (wc : (Cond.code y bytes maxL ret).before a0 Z = true) (hy : y.cls ≠ "java/lang/invoke/MethodHandle" ∧ y.cls ≠ "java/lang/invoke/VarHandle")
    (hpd : parseMethodDescriptor y.desc = some ⟨ps, r⟩) (hlen : argsL.length = ps.length) (M : Met l Z n0 y bytes maxL ret rm argsL.toArray T.heap Q) (hsz : Ls.size = c.maxLocals) (hstk : st = argsL.reverse ++ rest) (hf : rm.frames + 1 ≤ R.frames) (hl : (rest.map fun v => v.category).sum + (maxL + 11) + rm.locals ≤ R.locals) (hd : decode c.code pc = .ok (.invokestatic index, 3)) (hc : k + rm.cells ≤ R.cells) (hs : n + rm.slots ≤ R.slots) :
    ∃ (v : Option Value) (vm1 : Vm) (T1 : State) (L2 : List Loc), Stand p l e R (s.setVm vm1) m args below meth c T1 (locs ++ L2) (k + rm.cells) (n + rm.slots) ∧ Bk s vm1 T1.heap.size ∧ Z.Warmed39 vm1 ∧ vm1.findClass own = some m.cls ∧ Fr n0 L2 ∧ Q v T1.heap ∧ ∀ t, Steps p.tables e below (T1.setTop (mkF m (pc + 3) Ls (v.toList ++ rest))) t → Steps p.tables e below (T.setTop (mkF m pc Ls st)) t := by
  cases hB
  have X : Stand p l e R s m args below meth c T locs k n := X
  have hZ' : Z.Warmed39 s.vm := hZ
  obtain ⟨v, vm1, ⟨T1, L1, k1, n1⟩, -, X1, ⟨L2, ⟨N2, hQ⟩, l1, y1, z1⟩, st1⟩ := Jvm.LawKit.callS X hx (y := y) hown (mvT (s := s) hZ w1) (mvT (s := s) hZ w2) (mvT (s := s) hZ wz) (mvT (s := s) hZ wc) hy (backOf (Q := fun v h' L => Fr n0 L ∧ Q v h') (W := (rest.map fun v => v.category).sum) M hZ' wc wz hf hl) (g := mkF m pc Ls st) rfl hsz (argsL := argsL) (rest := rest) (lenOf hpd hlen) hstk (by show 2 * 0 + _ ≤ _; omega) hd (fun _ _ => ⟨rfl, rfl, hc, hs⟩)
  dsimp only [Pt.U, Pt.locs, Pt.cells, Pt.slots] at X1 l1 y1 z1 st1 hQ
  subst l1 y1 z1
  exact ⟨v, s.vm, T1, L2, X1, rfl, hZ, hown, N2, hQ, st1⟩
theorem Bk.callSN (X : Stand p l e R (s.setVm vm0) m args below meth c T locs k n) (hx : p.tables.exec = Jvm.exec) (hB : Bk s vm0 T.heap.size) (hZ : Z.Warmed39 vm0) (hown : vm0.findClass own = some m.cls) {index : Nat} {y : MethodName} {bytes : ByteArray} {maxL : Nat} {ret : Option FieldType} {rm : Room} {argsL : List Value} {Q : Option Value → Heap → Prop} {ps : List FieldType} {r : Option FieldType} {host : String} (w1 : (Cond.methodLinkNest own index y host).before a0 Z = true) (w2 : (Cond.static y).before a0 Z = true) (wz : (Cond.initialized y.cls).before a0 Z = true) (wc : (Cond.code y bytes maxL ret).before a0 Z = true) (hy : y.cls ≠ "java/lang/invoke/MethodHandle" ∧ y.cls ≠ "java/lang/invoke/VarHandle")
    (hpd : parseMethodDescriptor y.desc = some ⟨ps, r⟩) (hlen : argsL.length = ps.length) (M : Met l Z n0 y bytes maxL ret rm argsL.toArray T.heap Q) (hsz : Ls.size = c.maxLocals) (hstk : st = argsL.reverse ++ rest) (hf : rm.frames + 1 ≤ R.frames) (hl : (rest.map fun v => v.category).sum + (maxL + 11) + rm.locals ≤ R.locals) (hd : decode c.code pc = .ok (.invokestatic index, 3)) (hc : k + rm.cells ≤ R.cells) (hs : n + rm.slots ≤ R.slots) :
    ∃ (v : Option Value) (vm1 : Vm) (T1 : State) (L2 : List Loc), Stand p l e R (s.setVm vm1) m args below meth c T1 (locs ++ L2) (k + rm.cells) (n + rm.slots) ∧ Bk s vm1 T1.heap.size ∧ Z.Warmed39 vm1 ∧ vm1.findClass own = some m.cls ∧ Fr n0 L2 ∧ Q v T1.heap ∧ ∀ t, Steps p.tables e below (T1.setTop (mkF m (pc + 3) Ls (v.toList ++ rest))) t → Steps p.tables e below (T.setTop (mkF m pc Ls st)) t := by
  cases hB
  have X : Stand p l e R s m args below meth c T locs k n := X
  have hZ' : Z.Warmed39 s.vm := hZ
  obtain ⟨v, vm1, ⟨T1, L1, k1, n1⟩, -, X1, ⟨L2, ⟨N2, hQ⟩, l1, y1, z1⟩, st1⟩ := Jvm.RoadKit.callSN X hx (y := y) (host := host) hown ((Cond.methodLinkNest_wide hZ w1 :)) (mvT (s := s) hZ w2) (mvT (s := s) hZ wz) (mvT (s := s) hZ wc) hy (backOf (Q := fun v h' L => Fr n0 L ∧ Q v h') (W := (rest.map fun v => v.category).sum) M hZ' wc wz hf hl) (g := mkF m pc Ls st) rfl hsz (argsL := argsL) (rest := rest) (lenOf hpd hlen) hstk (by show 2 * 0 + _ ≤ _; omega) hd (fun _ _ => ⟨rfl, rfl, hc, hs⟩)
  dsimp only [Pt.U, Pt.locs, Pt.cells, Pt.slots] at X1 l1 y1 z1 st1 hQ
  subst l1 y1 z1
  exact ⟨v, s.vm, T1, L2, X1, rfl, hZ, hown, N2, hQ, fun _ q => st1.trans q⟩
theorem Bk.callV (X : Stand p l e R (s.setVm vm0) m args below meth c T locs k n) (hx : p.tables.exec = Jvm.exec) (hB : Bk s vm0 T.heap.size) (hZ : Z.Warmed39 vm0) (hown : vm0.findClass own = some m.cls) {index : Nat} {y : MethodName} {bytes : ByteArray} {maxL : Nat} {ret : Option FieldType} {rm : Room} {argsL : List Value} {Q : Option Value → Heap → Prop} {ps : List FieldType} {r : Option FieldType} {z : MethodName} {K : String} {b : Addr} (E : Exa Z T.heap b K) (w1 : (Cond.methodLink own index y).before a0 Z = true) (w2 : (Cond.declares y).before a0 Z = true) (w3 : (Cond.selects K y z).before a0 Z = true) {D : String} {x' z' : MethodName} (w5 : (Cond.selects D x' z').before a0 Z = true) (h5 : z'.cls = y.cls) (w4 : (Cond.instanceMethod z).before a0 Z = true) (wz : (Cond.initialized z.cls).before a0 Z = true) (wc : (Cond.code z bytes maxL ret).before a0 Z = true) (hy : y.cls ≠ "java/lang/invoke/MethodHandle" ∧ y.cls ≠ "java/lang/invoke/VarHandle")
    (hpd : parseMethodDescriptor y.desc = some ⟨ps, r⟩) (hlen : argsL.length = ps.length) (M : Met l Z n0 z bytes maxL ret rm (.ref b :: argsL).toArray T.heap Q) (hsz : Ls.size = c.maxLocals) (hstk : st = argsL.reverse ++ .ref b :: rest) (hf : rm.frames + 1 ≤ R.frames) (hl : (rest.map fun v => v.category).sum + (maxL + 11) + rm.locals ≤ R.locals) (hd : decode c.code pc = .ok (.invokevirtual index, 3)) (hc : k + rm.cells ≤ R.cells) (hs : n + rm.slots ≤ R.slots) :
    ∃ (v : Option Value) (vm1 : Vm) (T1 : State) (L2 : List Loc), Stand p l e R (s.setVm vm1) m args below meth c T1 (locs ++ L2) (k + rm.cells) (n + rm.slots) ∧ Bk s vm1 T1.heap.size ∧ Z.Warmed39 vm1 ∧ vm1.findClass own = some m.cls ∧ Fr n0 L2 ∧ Q v T1.heap ∧ ∀ t, Steps p.tables e below (T1.setTop (mkF m (pc + 3) Ls (v.toList ++ rest))) t → Steps p.tables e below (T.setTop (mkF m pc Ls st)) t := by
  cases hB
  have X : Stand p l e R s m args below meth c T locs k n := X
  have hZ' : Z.Warmed39 s.vm := hZ
  obtain ⟨cq, kq, qa, qb, qc⟩ := isOf (s := s) hZ' rfl E
  obtain ⟨v, vm1, ⟨T1, L1, k1, n1⟩, -, X1, ⟨L2, ⟨N2, hQ⟩, l1, y1, z1⟩, st1⟩ := X.virtualBack hx (y := y) (z := z) hown (mvT (s := s) hZ w1) (mvT (s := s) hZ w2) (nfOf (args := #[]) (mvT (s := s) hZ w5) h5) (mvT (s := s) hZ w3) (mvT (s := s) hZ w4) hy (backOf (Q := fun v h' L => Fr n0 L ∧ Q v h') (W := (rest.map fun v => v.category).sum) M hZ' wc wz hf hl) qa qc (g := mkF m pc Ls st) rfl hsz (Steps.refl _) (argsL := argsL) (rest := rest) (lenOf hpd hlen) hstk (by show 2 * 0 + _ ≤ _; omega) hd (fun _ _ => ⟨rfl, rfl, hc, hs⟩)
  dsimp only [Pt.U, Pt.locs, Pt.cells, Pt.slots] at X1 l1 y1 z1 st1 hQ
  subst l1 y1 z1
  exact ⟨v, s.vm, T1, L2, X1, rfl, hZ, hown, N2, hQ, fun _ q => st1.trans q⟩
theorem Bk.callU (X : Stand p l e R (s.setVm vm0) m args below meth c T locs k n) (hx : p.tables.exec = Jvm.exec) (hB : Bk s vm0 T.heap.size) (hZ : Z.Warmed39 vm0) (hown : vm0.findClass own = some m.cls) {index : Nat} {y : MethodName} {bytes : ByteArray} {maxL : Nat} {ret : Option FieldType} {rm : Room} {argsL : List Value} {Q : Option Value → Heap → Prop} {ps : List FieldType} {r : Option FieldType} {z : MethodName} {owner K : String} {b : Addr} (E : Exa Z T.heap b K) (w1 : (Cond.methodLink own index y).before a0 Z = true) (wsm : (Cond.sameMethod y.cls owner y.name y.desc).before a0 Z = true) (w2 : (Cond.declares ⟨owner, y.name, y.desc⟩).before a0 Z = true) (ho : owner ≠ "java/lang/invoke/MethodHandle" ∧ owner ≠ "java/lang/invoke/VarHandle") (w3 : (Cond.selects K y z).before a0 Z = true) (w4 : (Cond.instanceMethod z).before a0 Z = true) (wz : (Cond.initialized z.cls).before a0 Z = true) (wc : (Cond.code z bytes maxL ret).before a0 Z = true)
    (hpd : parseMethodDescriptor y.desc = some ⟨ps, r⟩) (hlen : argsL.length = ps.length) (M : Met l Z n0 z bytes maxL ret rm (.ref b :: argsL).toArray T.heap Q) (hsz : Ls.size = c.maxLocals) (hstk : st = argsL.reverse ++ .ref b :: rest) (hf : rm.frames + 1 ≤ R.frames) (hl : (rest.map fun v => v.category).sum + (maxL + 11) + rm.locals ≤ R.locals) (hd : decode c.code pc = .ok (.invokevirtual index, 3)) (hc : k + rm.cells ≤ R.cells) (hs : n + rm.slots ≤ R.slots) :
    ∃ (v : Option Value) (vm1 : Vm) (T1 : State) (L2 : List Loc), Stand p l e R (s.setVm vm1) m args below meth c T1 (locs ++ L2) (k + rm.cells) (n + rm.slots) ∧ Bk s vm1 T1.heap.size ∧ Z.Warmed39 vm1 ∧ vm1.findClass own = some m.cls ∧ Fr n0 L2 ∧ Q v T1.heap ∧ ∀ t, Steps p.tables e below (T1.setTop (mkF m (pc + 3) Ls (v.toList ++ rest))) t → Steps p.tables e below (T.setTop (mkF m pc Ls st)) t := by
  cases hB
  have X : Stand p l e R s m args below meth c T locs k n := X
  have hZ' : Z.Warmed39 s.vm := hZ
  obtain ⟨cq, kq, qa, qb, qc⟩ := isOf (s := s) hZ' rfl E
  obtain ⟨v, vm1, ⟨T1, L1, k1, n1⟩, -, X1, ⟨L2, ⟨N2, hQ⟩, l1, y1, z1⟩, st1⟩ := X.virtualBackUp hx (x := y) (y := z) hown (mvT (s := s) hZ w1) (mvT (s := s) hZ wsm) (mvT (s := s) hZ w2) ho (mvT (s := s) hZ w3) (mvT (s := s) hZ w4) (backOf (Q := fun v h' L => Fr n0 L ∧ Q v h') (W := (rest.map fun v => v.category).sum) M hZ' wc wz hf hl) qa qc (g := mkF m pc Ls st) rfl hsz (Steps.refl _) (argsL := argsL) (rest := rest) (lenOf hpd hlen) hstk (by show 2 * 0 + _ ≤ _; omega) hd (fun _ _ => ⟨rfl, rfl, hc, hs⟩)
  dsimp only [Pt.U, Pt.locs, Pt.cells, Pt.slots] at X1 l1 y1 z1 st1 hQ
  subst l1 y1 z1
  exact ⟨v, s.vm, T1, L2, X1, rfl, hZ, hown, N2, hQ, fun _ q => st1.trans q⟩
theorem Bk.callN (X : Stand p l e R (s.setVm vm0) m args below meth c T locs k n) (hx : p.tables.exec = Jvm.exec) (hB : Bk s vm0 T.heap.size) (hZ : Z.Warmed39 vm0) (hown : vm0.findClass own = some m.cls) {index : Nat} {y : MethodName} {bytes : ByteArray} {maxL : Nat} {rm : Room} {argsL : List Value} {Q : Option Value → Heap → Prop} {ps : List FieldType} {r : Option FieldType} {b : Addr} (hin : y.name = "<init>") (w1 : (Cond.methodLink own index y).before a0 Z = true) (w4 : (Cond.instanceMethod y).before a0 Z = true) (wz : (Cond.initialized y.cls).before a0 Z = true) (wc : (Cond.code y bytes maxL none).before a0 Z = true) (hy : y.cls ≠ "java/lang/invoke/MethodHandle" ∧ y.cls ≠ "java/lang/invoke/VarHandle")
    (hpd : parseMethodDescriptor y.desc = some ⟨ps, r⟩) (hlen : argsL.length = ps.length) (M : Met l Z n0 y bytes maxL none rm (.ref b :: argsL).toArray T.heap Q) (hsz : Ls.size = c.maxLocals) (hstk : st = argsL.reverse ++ .ref b :: rest) (hf : rm.frames + 1 ≤ R.frames) (hl : (rest.map fun v => v.category).sum + (maxL + 11) + rm.locals ≤ R.locals) (hd : decode c.code pc = .ok (.invokespecial index, 3)) (hc : k + rm.cells ≤ R.cells) (hs : n + rm.slots ≤ R.slots) :
    ∃ (v : Option Value) (vm1 : Vm) (T1 : State) (L2 : List Loc), Stand p l e R (s.setVm vm1) m args below meth c T1 (locs ++ L2) (k + rm.cells) (n + rm.slots) ∧ Bk s vm1 T1.heap.size ∧ Z.Warmed39 vm1 ∧ vm1.findClass own = some m.cls ∧ Fr n0 L2 ∧ Q v T1.heap ∧ ∀ t, Steps p.tables e below (T1.setTop (mkF m (pc + 3) Ls (v.toList ++ rest))) t → Steps p.tables e below (T.setTop (mkF m pc Ls st)) t := by
  cases hB
  have X : Stand p l e R s m args below meth c T locs k n := X
  have hZ' : Z.Warmed39 s.vm := hZ
  obtain ⟨v, vm1, ⟨T1, L1, k1, n1⟩, -, X1, ⟨L2, ⟨N2, hQ⟩, l1, y1, z1⟩, st1⟩ := X.specialBack hx (y := y) hin hown (mvT (s := s) hZ w1) (mvT (s := s) hZ w4) (mvT (s := s) hZ wc) hy (backOf (Q := fun v h' L => Fr n0 L ∧ Q v h') (W := (rest.map fun v => v.category).sum) M hZ' wc wz hf hl) (g := mkF m pc Ls st) rfl hsz (Steps.refl _) (a := b) (argsL := argsL) (rest := rest) (lenOf hpd hlen) hstk (by show 2 * 0 + _ ≤ _; omega) hd (fun _ _ => ⟨rfl, rfl, hc, hs⟩)
  dsimp only [Pt.U, Pt.locs, Pt.cells, Pt.slots] at X1 l1 y1 z1 st1 hQ
  subst l1 y1 z1
  exact ⟨v, s.vm, T1, L2, X1, rfl, hZ, hown, N2, hQ, fun _ q => st1.trans q⟩
end OwnHead
/-! own layer: a walk in continuation form over the library's laws -/
section OwnKit
variable {p : Program} {l : Launch} {e : Env} {R : Room} {s : State} {m : MethodId} {args : Array Value} {below : List Frame} {meth : Method} {c : Code} {T T' : State} {Z : State} {own : String} {h h' : Heap} {n0 k n C S : Nat} {a0 : Array Value} {P : Option Value → Heap → Prop} {g g' : JFrame} {pc : Nat} {Ls : Array Slot} {st rest : List Value}
/-- where the walk stands: nothing but new cells written, n0 the first new address -/
def Std (p : Program) (l : Launch) (e : Env) (R : Room) (s : State) (m : MethodId) (args : Array Value) (below : List Frame) (meth : Method) (c : Code) (Z : State) (own : String) (n0 : Nat) (T : State) (h : Heap) (k n : Nat) : Prop :=
  ∃ vm0, (∃ locs, Stand p l e R (s.setVm vm0) m args below meth c T locs k n ∧ Fr n0 locs) ∧ T.heap = h ∧ p.tables.exec = Jvm.exec ∧ Z.Warmed39 vm0 ∧ vm0.findClass own = some m.cls ∧ Bk s vm0 h.size ∧ n0 ≤ s.heap.size ∧ meth.locks = false
/-- from here the method returns, and P holds of what it returns and of the heap -/
def Goes (p : Program) (e : Env) (below : List Frame) (s : State) (n0 C S : Nat) (P : Option Value → Heap → Prop) (T : State) (g : JFrame) : Prop :=
  ∃ (s₂ : State) (v : Option Value) (L : List Loc), Steps p.tables e below (T.setTop g) s₂ ∧ s₂.status = .running ∧ Ended s₂ below (.returned v) ∧ (Fr n0 L ∧ P v s₂.heap) ∧ EndF s (.returned v) s₂ L C S
theorem Std.here (X : Std p l e R s m args below meth c Z own n0 T h k n) : At T m c below := by obtain ⟨vm0, ⟨L, X, -⟩, -⟩ := X; exact X.here
theorem Std.hx (X : Std p l e R s m args below meth c Z own n0 T h k n) : p.tables.exec = Jvm.exec := by obtain ⟨vm0, -, -, h, -⟩ := X; exact h
theorem Std.n0le (X : Std p l e R s m args below meth c Z own n0 T h k n) : n0 ≤ h.size := by
  obtain ⟨vm0, ⟨L, X, -⟩, rfl, -, -, -, -, q, -⟩ := X
  exact Nat.le_trans q X.same.2.1
theorem Goes.by (st : ∀ t, Steps p.tables e below (T'.setTop g') t → Steps p.tables e below (T.setTop g) t) (G : Goes p e below s n0 C S P T' g') : Goes p e below s n0 C S P T g := by
  obtain ⟨s₂, v, L, h1, r⟩ := G
  exact ⟨s₂, v, L, st _ h1, r⟩
theorem Goes.mono {P' : Option Value → Heap → Prop} (G : Goes p e below s n0 C S P T g) (q : ∀ v h, P v h → P' v h) : Goes p e below s n0 C S P' T g := by
  obtain ⟨s₂, v, L, h1, h2, h3, ⟨h4, h5⟩, h6⟩ := G
  exact ⟨s₂, v, L, h1, h2, h3, ⟨h4, q _ _ h5⟩, h6⟩
theorem Std.retOut (X : Std p l e R s m args below meth c Z own n0 T h k n) {w : Value} {t : FieldType} {i : Instr} (hret : meth.sig.returnType = some t) (hn : narrow t w = w)
    (hi : (i = .ireturn ∧ (t = .int ∨ t = .boolean ∨ t = .byte ∨ t = .char ∨ t = .short) ∧ ∃ z, w = .int z) ∨ (i = .lreturn ∧ t = .long ∧ ∃ z, w = .long z) ∨ (i = .dreturn ∧ t = .double ∧ ∃ z, w = .double z) ∨ (i = .freturn ∧ t = .float ∧ ∃ z, w = .float z) ∨ (i = .areturn ∧ t.isReference = true ∧ w.isRef = true))
    (hd : decode c.code pc = .ok (i, 1)) (hc : k ≤ C) (hs : n ≤ S) (hP : P (some w) h) : Goes p e below s n0 C S P T (mkF m pc Ls (w :: rest)) := by
  obtain ⟨vm0, ⟨L, X, N⟩, rfl, hx, -, -, hB, -, hlk⟩ := X
  obtain ⟨fs, hr, hrun, hended, hE⟩ := Bk.leave X hB (v := some w) (fun q => by rw [hret] at q; cases q) hlk
  exact ⟨_, _, L, Jvm.RoadKit.retOut X hx hret hn hi hd hr, hrun, hended, ⟨N, hP⟩, EndF.mono hE hc hs⟩
theorem Std.retI (X : Std p l e R s m args below meth c Z own n0 T h k n) {z : Int32} (hret : meth.sig.returnType = some .int) (hd : decode c.code pc = .ok (.ireturn, 1)) (hc : k ≤ C) (hs : n ≤ S) (hP : P (some (.int z)) h) : Goes p e below s n0 C S P T (mkF m pc Ls (.int z :: rest)) :=
  X.retOut hret rfl (Or.inl ⟨rfl, Or.inl rfl, z, rfl⟩) hd hc hs hP
theorem Std.retA (X : Std p l e R s m args below meth c Z own n0 T h k n) {w : Value} {t : FieldType} (hret : meth.sig.returnType = some t) (ht : t.isReference = true) (hw : w.isRef = true) (hd : decode c.code pc = .ok (.areturn, 1)) (hc : k ≤ C) (hs : n ≤ S) (hP : P (some w) h) : Goes p e below s n0 C S P T (mkF m pc Ls (w :: rest)) :=
  X.retOut hret (by rcases ref_cases hw with rfl | ⟨a, rfl⟩ <;> cases t <;> rfl) (Or.inr (Or.inr (Or.inr (Or.inr ⟨rfl, ht, hw⟩)))) hd hc hs hP
theorem Std.retJ (X : Std p l e R s m args below meth c Z own n0 T h k n) {z : Int64} (hret : meth.sig.returnType = some .long) (hd : decode c.code pc = .ok (.lreturn, 1)) (hc : k ≤ C) (hs : n ≤ S) (hP : P (some (.long z)) h) : Goes p e below s n0 C S P T (mkF m pc Ls (.long z :: rest)) :=
  X.retOut hret rfl (Or.inr (Or.inl ⟨rfl, rfl, z, rfl⟩)) hd hc hs hP
theorem Std.retN (X : Std p l e R s m args below meth c Z own n0 T h k n) {z : Int32} {t : FieldType} (hret : meth.sig.returnType = some t) (ht : t = .boolean ∨ t = .byte ∨ t = .char ∨ t = .short) (hd : decode c.code pc = .ok (.ireturn, 1)) (hc : k ≤ C) (hs : n ≤ S) (hP : P (some (.int (nar t z))) h) : Goes p e below s n0 C S P T (mkF m pc Ls (.int z :: rest)) := by
  obtain ⟨vm0, ⟨L, X, N⟩, rfl, hx, -, -, hB, -, hlk⟩ := X
  obtain ⟨fs, hr, hrun, hended, hE⟩ := Bk.leave X hB (v := some (.int (nar t z))) (fun q => by rw [hret] at q; cases q) hlk
  exact ⟨_, _, L, Jvm.RoadKit.retN X hx hret ht hd hr, hrun, hended, ⟨N, hP⟩, EndF.mono hE hc hs⟩
theorem Std.retZ (X : Std p l e R s m args below meth c Z own n0 T h k n) {z : Int32} (hret : meth.sig.returnType = some .boolean) (hd : decode c.code pc = .ok (.ireturn, 1)) (hc : k ≤ C) (hs : n ≤ S) (hP : P (some (.int (nar .boolean z))) h) : Goes p e below s n0 C S P T (mkF m pc Ls (.int z :: rest)) :=
  X.retN hret (Or.inl rfl) hd hc hs hP
theorem Std.retV (X : Std p l e R s m args below meth c Z own n0 T h k n) (hret : meth.sig.returnType = none) (hd : decode c.code pc = .ok (.return_, 1)) (hc : k ≤ C) (hs : n ≤ S) (hP : P none h) : Goes p e below s n0 C S P T (mkF m pc Ls []) := by
  obtain ⟨vm0, ⟨L, X, N⟩, rfl, hx, -, -, hB, -, hlk⟩ := X
  obtain ⟨fs, hr, hrun, hended, hE⟩ := Bk.leave X hB (v := none) (fun _ => rfl) hlk
  exact ⟨_, _, L, X.returnOut hx hret hd hr, hrun, hended, ⟨N, hP⟩, EndF.mono hE hc hs⟩
theorem Std.ldcI (X : Std p l e R s m args below meth c Z own n0 T h k n) {index : Nat} {v : Int32} (w : (Cond.constant own index v).before a0 Z = true) (hd : decode c.code pc = .ok (.ldc index, 2)) (G : Goes p e below s n0 C S P T (mkF m (pc + 2) Ls (.int v :: st))) : Goes p e below s n0 C S P T (mkF m pc Ls st) := by
  obtain ⟨vm0, ⟨L, X, N⟩, -, hx, hZ, hown, -⟩ := X
  exact Goes.by (fun _ q => X.ldcI hx hown (mvT (s := s.setVm vm0) hZ w) rfl hd q) G
theorem Std.ldcWI (X : Std p l e R s m args below meth c Z own n0 T h k n) {index : Nat} {v : Int32} (w : (Cond.constant own index v).before a0 Z = true) (hd : decode c.code pc = .ok (.ldc_w index, 3)) (G : Goes p e below s n0 C S P T (mkF m (pc + 3) Ls (.int v :: st))) : Goes p e below s n0 C S P T (mkF m pc Ls st) := by
  obtain ⟨vm0, ⟨L, X, N⟩, -, hx, hZ, hown, -⟩ := X
  exact Goes.by (fun _ q => X.ldcWI hx hown (mvT (s := s.setVm vm0) hZ w) rfl hd q) G
theorem Std.getS (X : Std p l e R s m args below meth c Z own n0 T h k n) {index : Nat} {R0 O nm d host : String} {v : Value} (w : (Cond.fieldLink own index R0 nm d).before a0 Z = true ∨ (Cond.fieldLinkNest own index R0 nm d host).before a0 Z = true) (via : Via Z R0 O nm d) (F : Sta Z h O nm d v) (hd : decode c.code pc = .ok (.getstatic index, 3))
    (G : ∀ T, Std p l e R s m args below meth c Z own n0 T h k n → Goes p e below s n0 C S P T (mkF m (pc + 3) Ls (v :: st))) : Goes p e below s n0 C S P T (mkF m pc Ls st) := by
  obtain ⟨vm0, ⟨L, X, N⟩, eT, hx, hZ, hown, r⟩ := X
  obtain ⟨T1, X1, e1, st1⟩ := Jvm.RoadKit.getS2 X hx hZ hown w via eT F (g := mkF m pc Ls st) rfl hd
  exact Goes.by st1 (G T1 ⟨vm0, ⟨L, X1, N⟩, e1, hx, hZ, hown, r⟩)
theorem Std.getF (X : Std p l e R s m args below meth c Z own n0 T h k n) {index : Nat} {R0 O nm d host : String} {a : Addr} {v : Value} (w : (Cond.fieldLink own index R0 nm d).before a0 Z = true ∨ (Cond.fieldLinkNest own index R0 nm d host).before a0 Z = true) (via : Via Z R0 O nm d) (F : Fld Z h a O nm d v) (hd : decode c.code pc = .ok (.getfield index, 3))
    (G : ∀ T, Std p l e R s m args below meth c Z own n0 T h k n → Goes p e below s n0 C S P T (mkF m (pc + 3) Ls (v :: rest))) : Goes p e below s n0 C S P T (mkF m pc Ls (.ref a :: rest)) := by
  obtain ⟨vm0, ⟨L, X, N⟩, eT, hx, hZ, hown, r⟩ := X
  obtain ⟨T1, X1, e1, st1⟩ := Jvm.RoadKit.getF X hx hZ hown w via eT F (g := mkF m pc Ls (.ref a :: rest)) rfl rfl hd
  exact Goes.by st1 (G T1 ⟨vm0, ⟨L, X1, N⟩, e1, hx, hZ, hown, r⟩)
theorem Std.putF (X : Std p l e R s m args below meth c Z own n0 T h k n) {index kk : Nat} {R0 O nm d host K : String} {ty : FieldType} {a : Addr} {v old : Value} (w : (Cond.fieldLink own index R0 nm d).before a0 Z = true ∨ (Cond.fieldLinkNest own index R0 nm d host).before a0 Z = true) (via : Via Z R0 O nm d) (F : Fld Z h a O nm d old) (E : Exa Z h a K)
    (L : (Cond.lays K O nm d).before a0 Z = true ∨ ((Cond.laysFinal K O nm d).before a0 Z = true ∧ own = O ∧ meth.name = "<init>")) (wi : (Cond.instantiable K kk).before a0 Z = true) (hty : parseFieldDescriptor d = some ty) (hn : narrow ty v = v) (hf : fits ty v = true) (ha : n0 ≤ a) (hd : decode c.code pc = .ok (.putfield index, 3))
    (G : ∀ T h', Std p l e R s m args below meth c Z own n0 T h' k n → Wr h h' a (Jvm.RoadKit.slotOf Z O nm d) v → Goes p e below s n0 C S P T (mkF m (pc + 3) Ls rest)) : Goes p e below s n0 C S P T (mkF m pc Ls (v :: .ref a :: rest)) := by
  obtain ⟨vm0, ⟨L0, X, N⟩, eT, hx, hZ, hown, hB, r⟩ := X
  obtain ⟨T1, h1, X1, e1, W1, st1⟩ := Jvm.RoadKit.putF X hx hZ hown w via eT F E L wi hty hn hf (g := mkF m pc Ls (v :: .ref a :: rest)) rfl rfl hd
  exact Goes.by st1 (G T1 h1 ⟨vm0, ⟨_, X1, Fr.snoc X1 N ha⟩, e1, hx, hZ, hown, hB.mono (Nat.le_of_eq W1.size.symm), r⟩ W1)
theorem Std.newO (X : Std p l e R s m args below meth c Z own n0 T h k n) {index j : Nat} {K : String} (w : (Cond.classLink own index K).before a0 Z = true) (wi : (Cond.instantiable K j).before a0 Z = true) (wz : (Cond.initialized K).before a0 Z = true) (hd : decode c.code pc = .ok (.new index, 3)) (hc : k + 1 ≤ R.cells) (hl : n + j ≤ R.slots)
    (G : ∀ T h' a, Std p l e R s m args below meth c Z own n0 T h' (k + 1) (n + j) → a = h.size → n0 ≤ a → Ext h h' → Exa Z h' a K → (∀ {O nm d : String} {ty : FieldType}, Laid Z a0 K O nm d → parseFieldDescriptor d = some ty → Fld Z h' a O nm d (defaultValue ty)) → Goes p e below s n0 C S P T (mkF m (pc + 3) Ls (.ref a :: st))) : Goes p e below s n0 C S P T (mkF m pc Ls st) := by
  have q := X.n0le
  obtain ⟨vm0, ⟨L0, X, N⟩, eT, hx, hZ, hown, hB, r⟩ := X
  obtain ⟨T1, h1, X1, e1, E1, A1, D1, -, st1⟩ := Jvm.RoadKit.newO X hx hZ hown w wi wz eT (g := mkF m pc Ls st) rfl hd hc hl
  exact Goes.by st1 (G T1 h1 h.size ⟨vm0, ⟨_, X1, N⟩, e1, hx, hZ, hown, hB.mono E1.1, r⟩ rfl q E1 A1 D1)
theorem Std.irem (X : Std p l e R s m args below meth c Z own n0 T h k n) {x y : Int32} (hd : decode c.code pc = .ok (.irem, 1)) (hy : y ≠ 0) (G : Goes p e below s n0 C S P T (mkF m (pc + 1) Ls (.int (x % y) :: rest))) : Goes p e below s n0 C S P T (mkF m pc Ls (.int y :: .int x :: rest)) := by
  obtain ⟨vm0, ⟨L, X, N⟩, eT, hx, r⟩ := X
  exact Goes.by (fun _ q => iremM X hx rfl hd rfl hy q) G
theorem Std.acmp (X : Std p l e R s m args below meth c Z own n0 T h k n) {cd : ACond} {x y : Value} (h1 : x.isRef = true) (h2 : y.isRef = true) {o : Int} {pc' : Nat} {same : Bool} (hd : decode c.code pc = .ok (.if_acmp cd o, 3)) (hq : decide (x = y) = same) (ho : 0 ≤ (pc : Int) + o) (hp : pc' = if acV cd same = true then ((pc : Int) + o).toNat else pc + 3) (G : Goes p e below s n0 C S P T (mkF m pc' Ls rest)) : Goes p e below s n0 C S P T (mkF m pc Ls (y :: x :: rest)) := by
  obtain ⟨vm0, ⟨L, X, N⟩, eT, hx, r⟩ := X
  exact Goes.by (fun _ q => Jvm.RoadKit.acmp X hx rfl h1 h2 rfl hd rfl hq ho hp q) G
theorem metW {ws : List Jvm.Cond} {y : MethodName} {bytes : ByteArray} {maxL : Nat} {ret : Option FieldType} {rm : Room} {as' : Array Value} {h0 : Heap} {Q : Option Value → Heap → Prop} (hpl : plainFor y = true) (hn0 : n0 ≤ h0.size)
    (body : ∀ p e s m below meth c s₁, Std p l e rm s m as' below meth c Z y.cls n0 s₁ h0 0 0 → c.code = bytes → c.maxLocals = maxL → meth.sig.returnType = ret → meth.name = y.name → Goes p e below s n0 rm.cells rm.slots Q s₁ (entryFrame m as' maxL)) :
    MetFree l y (head1 (Cond.code y bytes maxL ret :: ws) rm) (fun a U => a = as' ∧ Z.Warmed39 U.vm ∧ U.heap = h0) (fun _ _ _ _ _ => True) (fun _ U o U' => ∃ v L, o = .returned v ∧ (Fr n0 L ∧ Q v U'.heap) ∧ EndF U o U' L rm.cells rm.slots) := by
  refine MetFree.of_bodySF hpl hisR ?_
  intro p e s m args below meth c s₁ Bd hml hP hK
  obtain ⟨rfl, hZ, hh⟩ := hP
  have e0 : s₁.heap = h0 := by rw [← hh, Bd.state]; rfl
  obtain ⟨s₂, v, L, h1, h2, h3, h4, h5⟩ := body p e s m below meth c s₁ ⟨s.vm, ⟨[], Stand.of_body Bd, Fr.nil n0⟩, e0, Bd.exec, hZ, findClass_of_methodNamed Bd.named, Bk.start, by rw [hh]; exact hn0, Bd.notSynchronized⟩ Bd.bytes hml Bd.returns (name_of_methodNamed Bd.named Bd.method).1
  exact ⟨s₂, _, h1, h2, h3, v, L, rfl, h4, h5⟩
theorem Std.callS (X : Std p l e R s m args below meth c Z own n0 T h k n) {index : Nat} {y : MethodName} {bytes : ByteArray} {maxL : Nat} {ret : Option FieldType} {rm : Room} {argsL : List Value} {Q : Option Value → Heap → Prop} {ps : List FieldType} {r : Option FieldType} (w1 : (Cond.methodLink own index y).before a0 Z = true) (w2 : (Cond.static y).before a0 Z = true) (wz : (Cond.initialized y.cls).before a0 Z = true) (wc : (Cond.code y bytes maxL ret).before a0 Z = true) (hy : y.cls ≠ "java/lang/invoke/MethodHandle" ∧ y.cls ≠ "java/lang/invoke/VarHandle")
    (hpd : parseMethodDescriptor y.desc = some ⟨ps, r⟩) (hlen : argsL.length = ps.length) (M : Met l Z n0 y bytes maxL ret rm argsL.toArray h Q) (hsz : Ls.size = c.maxLocals) (hstk : st = argsL.reverse ++ rest) (hf : rm.frames + 1 ≤ R.frames) (hl : (rest.map fun v => v.category).sum + (maxL + 11) + rm.locals ≤ R.locals) (hd : decode c.code pc = .ok (.invokestatic index, 3)) (hc : k + rm.cells ≤ R.cells) (hs : n + rm.slots ≤ R.slots)
    (G : ∀ T h' v, Std p l e R s m args below meth c Z own n0 T h' (k + rm.cells) (n + rm.slots) → Q v h' → Goes p e below s n0 C S P T (mkF m (pc + 3) Ls (v.toList ++ rest))) : Goes p e below s n0 C S P T (mkF m pc Ls st) := by
  obtain ⟨vm0, ⟨L0, X, N⟩, eT, hx, hZ, hown, hB, r⟩ := X
  subst eT
  obtain ⟨v, vm1, T1, L2, X1, hB1, hZ1, hown1, N2, hQ, st1⟩ := Bk.callS X hx hB hZ hown w1 w2 wz wc hy hpd hlen M hsz hstk hf hl hd hc hs
  exact Goes.by st1 (G T1 _ v ⟨vm1, ⟨_, X1, Fr.app N N2⟩, rfl, hx, hZ1, hown1, hB1, r⟩ hQ)
theorem Std.callSN (X : Std p l e R s m args below meth c Z own n0 T h k n) {index : Nat} {y : MethodName} {bytes : ByteArray} {maxL : Nat} {ret : Option FieldType} {rm : Room} {argsL : List Value} {Q : Option Value → Heap → Prop} {ps : List FieldType} {r : Option FieldType} {host : String} (w1 : (Cond.methodLinkNest own index y host).before a0 Z = true) (w2 : (Cond.static y).before a0 Z = true) (wz : (Cond.initialized y.cls).before a0 Z = true) (wc : (Cond.code y bytes maxL ret).before a0 Z = true) (hy : y.cls ≠ "java/lang/invoke/MethodHandle" ∧ y.cls ≠ "java/lang/invoke/VarHandle")
    (hpd : parseMethodDescriptor y.desc = some ⟨ps, r⟩) (hlen : argsL.length = ps.length) (M : Met l Z n0 y bytes maxL ret rm argsL.toArray h Q) (hsz : Ls.size = c.maxLocals) (hstk : st = argsL.reverse ++ rest) (hf : rm.frames + 1 ≤ R.frames) (hl : (rest.map fun v => v.category).sum + (maxL + 11) + rm.locals ≤ R.locals) (hd : decode c.code pc = .ok (.invokestatic index, 3)) (hc : k + rm.cells ≤ R.cells) (hs : n + rm.slots ≤ R.slots)
    (G : ∀ T h' v, Std p l e R s m args below meth c Z own n0 T h' (k + rm.cells) (n + rm.slots) → Q v h' → Goes p e below s n0 C S P T (mkF m (pc + 3) Ls (v.toList ++ rest))) : Goes p e below s n0 C S P T (mkF m pc Ls st) := by
  obtain ⟨vm0, ⟨L0, X, N⟩, eT, hx, hZ, hown, hB, r⟩ := X
  subst eT
  obtain ⟨v, vm1, T1, L2, X1, hB1, hZ1, hown1, N2, hQ, st1⟩ := Bk.callSN X hx hB hZ hown w1 w2 wz wc hy hpd hlen M hsz hstk hf hl hd hc hs
  exact Goes.by st1 (G T1 _ v ⟨vm1, ⟨_, X1, Fr.app N N2⟩, rfl, hx, hZ1, hown1, hB1, r⟩ hQ)
theorem Std.callV (X : Std p l e R s m args below meth c Z own n0 T h k n) {index : Nat} {y : MethodName} {bytes : ByteArray} {maxL : Nat} {ret : Option FieldType} {rm : Room} {argsL : List Value} {Q : Option Value → Heap → Prop} {ps : List FieldType} {r : Option FieldType} {z : MethodName} {K : String} {b : Addr} (E : Exa Z h b K) (w1 : (Cond.methodLink own index y).before a0 Z = true) (w2 : (Cond.declares y).before a0 Z = true) (w3 : (Cond.selects K y z).before a0 Z = true) {D : String} {x' z' : MethodName} (w5 : (Cond.selects D x' z').before a0 Z = true) (h5 : z'.cls = y.cls) (w4 : (Cond.instanceMethod z).before a0 Z = true) (wz : (Cond.initialized z.cls).before a0 Z = true) (wc : (Cond.code z bytes maxL ret).before a0 Z = true) (hy : y.cls ≠ "java/lang/invoke/MethodHandle" ∧ y.cls ≠ "java/lang/invoke/VarHandle")
    (hpd : parseMethodDescriptor y.desc = some ⟨ps, r⟩) (hlen : argsL.length = ps.length) (M : Met l Z n0 z bytes maxL ret rm (.ref b :: argsL).toArray h Q) (hsz : Ls.size = c.maxLocals) (hstk : st = argsL.reverse ++ .ref b :: rest) (hf : rm.frames + 1 ≤ R.frames) (hl : (rest.map fun v => v.category).sum + (maxL + 11) + rm.locals ≤ R.locals) (hd : decode c.code pc = .ok (.invokevirtual index, 3)) (hc : k + rm.cells ≤ R.cells) (hs : n + rm.slots ≤ R.slots)
    (G : ∀ T h' v, Std p l e R s m args below meth c Z own n0 T h' (k + rm.cells) (n + rm.slots) → Q v h' → Goes p e below s n0 C S P T (mkF m (pc + 3) Ls (v.toList ++ rest))) : Goes p e below s n0 C S P T (mkF m pc Ls st) := by
  obtain ⟨vm0, ⟨L0, X, N⟩, eT, hx, hZ, hown, hB, r⟩ := X
  subst eT
  obtain ⟨v, vm1, T1, L2, X1, hB1, hZ1, hown1, N2, hQ, st1⟩ := Bk.callV X hx hB hZ hown E w1 w2 w3 w5 h5 w4 wz wc hy hpd hlen M hsz hstk hf hl hd hc hs
  exact Goes.by st1 (G T1 _ v ⟨vm1, ⟨_, X1, Fr.app N N2⟩, rfl, hx, hZ1, hown1, hB1, r⟩ hQ)
theorem Std.callU (X : Std p l e R s m args below meth c Z own n0 T h k n) {index : Nat} {y : MethodName} {bytes : ByteArray} {maxL : Nat} {ret : Option FieldType} {rm : Room} {argsL : List Value} {Q : Option Value → Heap → Prop} {ps : List FieldType} {r : Option FieldType} {z : MethodName} {owner K : String} {b : Addr} (E : Exa Z h b K) (w1 : (Cond.methodLink own index y).before a0 Z = true) (wsm : (Cond.sameMethod y.cls owner y.name y.desc).before a0 Z = true) (w2 : (Cond.declares ⟨owner, y.name, y.desc⟩).before a0 Z = true) (ho : owner ≠ "java/lang/invoke/MethodHandle" ∧ owner ≠ "java/lang/invoke/VarHandle") (w3 : (Cond.selects K y z).before a0 Z = true) (w4 : (Cond.instanceMethod z).before a0 Z = true) (wz : (Cond.initialized z.cls).before a0 Z = true) (wc : (Cond.code z bytes maxL ret).before a0 Z = true)
    (hpd : parseMethodDescriptor y.desc = some ⟨ps, r⟩) (hlen : argsL.length = ps.length) (M : Met l Z n0 z bytes maxL ret rm (.ref b :: argsL).toArray h Q) (hsz : Ls.size = c.maxLocals) (hstk : st = argsL.reverse ++ .ref b :: rest) (hf : rm.frames + 1 ≤ R.frames) (hl : (rest.map fun v => v.category).sum + (maxL + 11) + rm.locals ≤ R.locals) (hd : decode c.code pc = .ok (.invokevirtual index, 3)) (hc : k + rm.cells ≤ R.cells) (hs : n + rm.slots ≤ R.slots)
    (G : ∀ T h' v, Std p l e R s m args below meth c Z own n0 T h' (k + rm.cells) (n + rm.slots) → Q v h' → Goes p e below s n0 C S P T (mkF m (pc + 3) Ls (v.toList ++ rest))) : Goes p e below s n0 C S P T (mkF m pc Ls st) := by
  obtain ⟨vm0, ⟨L0, X, N⟩, eT, hx, hZ, hown, hB, r⟩ := X
  subst eT
  obtain ⟨v, vm1, T1, L2, X1, hB1, hZ1, hown1, N2, hQ, st1⟩ := Bk.callU X hx hB hZ hown E w1 wsm w2 ho w3 w4 wz wc hpd hlen M hsz hstk hf hl hd hc hs
  exact Goes.by st1 (G T1 _ v ⟨vm1, ⟨_, X1, Fr.app N N2⟩, rfl, hx, hZ1, hown1, hB1, r⟩ hQ)
theorem Std.callN (X : Std p l e R s m args below meth c Z own n0 T h k n) {index : Nat} {y : MethodName} {bytes : ByteArray} {maxL : Nat} {rm : Room} {argsL : List Value} {Q : Option Value → Heap → Prop} {ps : List FieldType} {r : Option FieldType} {b : Addr} (hin : y.name = "<init>") (w1 : (Cond.methodLink own index y).before a0 Z = true) (w4 : (Cond.instanceMethod y).before a0 Z = true) (wz : (Cond.initialized y.cls).before a0 Z = true) (wc : (Cond.code y bytes maxL none).before a0 Z = true) (hy : y.cls ≠ "java/lang/invoke/MethodHandle" ∧ y.cls ≠ "java/lang/invoke/VarHandle")
    (hpd : parseMethodDescriptor y.desc = some ⟨ps, r⟩) (hlen : argsL.length = ps.length) (M : Met l Z n0 y bytes maxL none rm (.ref b :: argsL).toArray h Q) (hsz : Ls.size = c.maxLocals) (hstk : st = argsL.reverse ++ .ref b :: rest) (hf : rm.frames + 1 ≤ R.frames) (hl : (rest.map fun v => v.category).sum + (maxL + 11) + rm.locals ≤ R.locals) (hd : decode c.code pc = .ok (.invokespecial index, 3)) (hc : k + rm.cells ≤ R.cells) (hs : n + rm.slots ≤ R.slots)
    (G : ∀ T h' v, Std p l e R s m args below meth c Z own n0 T h' (k + rm.cells) (n + rm.slots) → Q v h' → Goes p e below s n0 C S P T (mkF m (pc + 3) Ls (v.toList ++ rest))) : Goes p e below s n0 C S P T (mkF m pc Ls st) := by
  obtain ⟨vm0, ⟨L0, X, N⟩, eT, hx, hZ, hown, hB, r⟩ := X
  subst eT
  obtain ⟨v, vm1, T1, L2, X1, hB1, hZ1, hown1, N2, hQ, st1⟩ := Bk.callN X hx hB hZ hown hin w1 w4 wz wc hy hpd hlen M hsz hstk hf hl hd hc hs
  exact Goes.by st1 (G T1 _ v ⟨vm1, ⟨_, X1, Fr.app N N2⟩, rfl, hx, hZ1, hown1, hB1, r⟩ hQ)
theorem fldEq {args : Array Value} {s : State} {t : Term} {a : Addr} {C n d : String} {k : Int32} (ht : t.eval args s none [] s = some (.ref a)) (h : (Jvm.Cond.eq (.field t C n d) (.int k)).value args s none s [] = some true) : Fld s s.heap a C n d (.int k) := by
  obtain ⟨x, y, ex, ey, kx, ky⟩ := cmp_v (Or.inl h)
  have hy : y = .int k := Option.some.inj (ey.symm.trans (Term.int_eval k))
  subst hy
  obtain ⟨z, rfl⟩ : ∃ z, x = .int z := ky
  have q := gotT (Cond.eq_ints ex (Term.int_eval k)) h
  subst q
  exact Fld.start ((fld_at ht).symm.trans ex)
theorem fldEqS {args : Array Value} {s : State} {t u : Term} {a b : Addr} {C n d : String} (ht : t.eval args s none [] s = some (.ref a)) (hu : u.eval args s none [] s = some (.ref b)) (h : (Jvm.Cond.eq (.field t C n d) u).value args s none s [] = some true) : Fld s s.heap a C n d (.ref b) := by
  obtain ⟨x, y, ex, ey, kx, ky⟩ := cmp_v (Or.inl h)
  have hy : y = .ref b := Option.some.inj (ey.symm.trans hu)
  subst hy
  have hx : x.isRef = true := (show (Value.ref b).isRef = true ∧ x.isRef = true from ky).2
  have q := gotT (eq_R ex hu hx rfl) h
  subst q
  exact Fld.start ((fld_at ht).symm.trans ex)
theorem staEq {args : Array Value} {s : State} {C n d : String} {k : Int32} (h : (Jvm.Cond.eq (.static C n d) (.int k)).value args s none s [] = some true) (hi : (Jvm.Cond.initializedFor C n d).before args s = true ∨ ((Jvm.Cond.initialized C).before args s = true ∧ (Jvm.Cond.laysStatic C n d).before args s = true)) : Sta s s.heap C n d (.int k) := by
  obtain ⟨x, y, ex, ey, kx, ky⟩ := cmp_v (Or.inl h)
  have hy : y = .int k := Option.some.inj (ey.symm.trans (Term.int_eval k))
  subst hy
  obtain ⟨z, rfl⟩ : ∃ z, x = .int z := ky
  have q := gotT (Cond.eq_ints ex (Term.int_eval k)) h
  subst q
  exact Sta.start ex hi
/-- the law's masks -/
theorem maskR (x n : Int32) (N : Int) (hn : n.toInt = N) (hp : 0 < N) : 0 ≤ ((x &&& 2147483647) % n).toInt ∧ ((x &&& 2147483647) % n).toInt < N := by
  have h1 := (c_and x 2147483647 (by decide)).1
  have h2 := (c_irem (x &&& 2147483647) n N hn).1 h1
  rw [h2]
  exact ⟨Int.emod_nonneg _ (by omega), Int.emod_lt_of_pos _ hp⟩
theorem i32_eq {x y : Int32} (h : x.toInt = y.toInt) : x = y := Int32.toInt_inj.mp h
theorem Sta.keep' {C nm d : String} {v : Value} {ws : List Addr} (F : Sta Z h C nm d v) (K : Keep h h' ws) (q : ∀ x ∈ ws, ∃ D, Exa Z h x D) : Sta Z h' C nm d v := by
  obtain ⟨cf, i, k, f, st, cell, h1, h2, h3, h4, h5, h6, h7⟩ := F
  refine ⟨cf, i, k, f, st, cell, h1, h2, h3, h4, K.2.1 st cell h5 fun r => ?_, h6, h7⟩
  obtain ⟨D, c2, _, e1, -, -, e4, -⟩ := q st r
  cases h5.symm.trans e1
  rw [h6] at e4
  cases e4
theorem addI {x y : Int32} (h1 : -2147483648 ≤ x.toInt + y.toInt) (h2 : x.toInt + y.toInt < 2147483648) : (x + y).toInt = x.toInt + y.toInt := by
  have q1 := c_iadd x y
  have q2 := rng32 (x + y)
  omega
theorem subI {x y : Int32} (h1 : -2147483648 ≤ x.toInt - y.toInt) (h2 : x.toInt - y.toInt < 2147483648) : (x - y).toInt = x.toInt - y.toInt := by
  have q1 := c_isub x y
  have q2 := rng32 (x - y)
  omega
def cI (x : Int32) : Int32 := x
theorem ltI {x y : Int32} : x < y ↔ x.toInt < y.toInt := Int32.lt_iff_toInt_lt
theorem eqI {x y : Int32} : x = y ↔ x.toInt = y.toInt := Int32.toInt_inj.symm
end OwnKit
section OwnArr
variable {p : Program} {l : Launch} {e : Env} {R : Room} {s : State} {m : MethodId} {args : Array Value} {below : List Frame} {meth : Method} {c : Code} {T T' : State} {Z : State} {own : String} {h h' : Heap} {n0 k n C S : Nat} {a0 : Array Value} {P : Option Value → Heap → Prop} {g g' : JFrame} {pc : Nat} {Ls : Array Slot} {st rest : List Value}
/-- an array of N values -/
def PArr (Z : State) (h : Heap) (a : Addr) (ty : FieldType) (N : Nat) (f : Nat → Value) : Prop := ∃ c : Cell, Arr Z h a c ty ∧ c.slots.size = N ∧ N < 2 ^ 31 ∧ ∀ i, i < N → c.slots[i]? = some (f i)
variable {a b : Addr} {ty : FieldType} {N sl : Nat} {f : Nat → Value} {v : Value} {ws : List Addr}
theorem PArr.lt (F : PArr Z h a ty N f) : a < h.size := by obtain ⟨c, A, -⟩ := F; exact A.lt
theorem PArr.ext (F : PArr Z h a ty N f) (E : Ext h h') : PArr Z h' a ty N f := by obtain ⟨c, A, r⟩ := F; exact ⟨c, A.ext E, r⟩
theorem PArr.other (F : PArr Z h b ty N f) (W : Wr h h' a sl v) (q : b ≠ a) : PArr Z h' b ty N f := by obtain ⟨c, A, r⟩ := F; exact ⟨c, A.other W q, r⟩
theorem PArr.keep (F : PArr Z h a ty N f) (K : Keep h h' ws) (q : a ∉ ws) : PArr Z h' a ty N f := by obtain ⟨c, A, r⟩ := F; exact ⟨c, ⟨K.2.1 a c A.1 q, A.2⟩, r⟩
theorem PArr.congr {f' : Nat → Value} (F : PArr Z h a ty N f) (q : ∀ i, i < N → f i = f' i) : PArr Z h a ty N f' := by obtain ⟨c, A, r1, r2, r3⟩ := F; exact ⟨c, A, r1, r2, fun i hi => by rw [← q i hi]; exact r3 i hi⟩
theorem PArr.small (F : PArr Z h a ty N f) : N < 2 ^ 31 := by obtain ⟨c, A, r1, r2, r3⟩ := F; exact r2
theorem PArr.set (F : PArr Z h a ty N f) (W : Wr h h' a sl v) : PArr Z h' a ty N (fun i => if i = sl then v else f i) := by
  obtain ⟨c, A, r1, r2, r3⟩ := F
  obtain ⟨cell, q1, q2, q3, q4⟩ := id W
  cases q1.symm.trans A.1
  refine ⟨_, A.same W, by rw [sz_set]; exact r1, r2, fun i hi => ?_⟩
  show (c.slots.setIfInBounds sl v)[i]? = some (if i = sl then v else f i)
  by_cases e : i = sl
  · subst e
    rw [if_pos rfl]
    simp [q3]
  · rw [if_neg e, Array.getElem?_setIfInBounds_ne (Ne.symm e)]
    exact r3 i hi
theorem idxN {j : Int32} {i : Nat} (hj : j.toInt = i) : j.toNatClampNeg = i ∧ ¬ j < 0 := by
  constructor
  · show j.toInt.toNat = i
    omega
  · rw [Int32.lt_iff_toInt_lt]
    show ¬ j.toInt < 0
    omega
theorem idxI {c : Cell} {j : Int32} {i : Nat} (hs : c.slots.size = N) (hj : j.toInt = i) (hi : i < N) : ¬ (j < 0 ∨ c.slots.size ≤ j.toNatClampNeg) := by
  rw [(idxN hj).1, hs]
  rintro (q | q)
  · exact (idxN hj).2 q
  · omega
theorem Std.iaload (X : Std p l e R s m args below meth c Z own n0 T h k n) (F : PArr Z h a .int N f) {j : Int32} {i : Nat} (hj : j.toInt = i) (hi : i < N) (hd : decode c.code pc = .ok (.iaload, 1)) (G : Goes p e below s n0 C S P T (mkF m (pc + 1) Ls (f i :: rest))) : Goes p e below s n0 C S P T (mkF m pc Ls (.int j :: .ref a :: rest)) := by
  obtain ⟨vm0, ⟨L, X, -⟩, eT, hx, hZ, -⟩ := X
  obtain ⟨cl, A, r1, r2, r3⟩ := F
  exact Goes.by (fun t q => X.iaload hx (g := mkF m pc Ls (.int j :: .ref a :: rest)) (by rw [eT]; exact A.1) (State.isArrayOf_alike hZ.alike A.2.1) A.2.2 (idxI r1 hj hi) (v := f i) (by rw [(idxN hj).1]; exact r3 i hi) rfl rfl hd t q) G
theorem Std.laload (X : Std p l e R s m args below meth c Z own n0 T h k n) (F : PArr Z h a .long N f) {j : Int32} {i : Nat} (hj : j.toInt = i) (hi : i < N) (hd : decode c.code pc = .ok (.laload, 1)) (G : Goes p e below s n0 C S P T (mkF m (pc + 1) Ls (f i :: rest))) : Goes p e below s n0 C S P T (mkF m pc Ls (.int j :: .ref a :: rest)) := by
  obtain ⟨vm0, ⟨L, X, -⟩, eT, hx, hZ, -⟩ := X
  obtain ⟨cl, A, r1, r2, r3⟩ := F
  exact Goes.by (fun t q => X.laload hx (g := mkF m pc Ls (.int j :: .ref a :: rest)) (by rw [eT]; exact A.1) (State.isArrayOf_alike hZ.alike A.2.1) A.2.2 (idxI r1 hj hi) (v := f i) (by rw [(idxN hj).1]; exact r3 i hi) rfl rfl hd t q) G
theorem Std.baloadB (X : Std p l e R s m args below meth c Z own n0 T h k n) (F : PArr Z h a .byte N f) {j : Int32} {i : Nat} (hj : j.toInt = i) (hi : i < N) (hd : decode c.code pc = .ok (.baload, 1)) (G : Goes p e below s n0 C S P T (mkF m (pc + 1) Ls (f i :: rest))) : Goes p e below s n0 C S P T (mkF m pc Ls (.int j :: .ref a :: rest)) := by
  obtain ⟨vm0, ⟨L, X, -⟩, eT, hx, hZ, -⟩ := X
  obtain ⟨cl, A, r1, r2, r3⟩ := F
  exact Goes.by (fun t q => X.baloadBytes hx (g := mkF m pc Ls (.int j :: .ref a :: rest)) (by rw [eT]; exact A.1) (State.isArrayOf_alike hZ.alike A.2.1) A.2.2 (idxI r1 hj hi) (v := f i) (by rw [(idxN hj).1]; exact r3 i hi) rfl rfl hd t q) G
theorem Std.baloadZ (X : Std p l e R s m args below meth c Z own n0 T h k n) (F : PArr Z h a .boolean N f) {j : Int32} {i : Nat} (hj : j.toInt = i) (hi : i < N) (hd : decode c.code pc = .ok (.baload, 1)) (G : Goes p e below s n0 C S P T (mkF m (pc + 1) Ls (f i :: rest))) : Goes p e below s n0 C S P T (mkF m pc Ls (.int j :: .ref a :: rest)) := by
  obtain ⟨vm0, ⟨L, X, -⟩, eT, hx, hZ, -⟩ := X
  obtain ⟨cl, A, r1, r2, r3⟩ := F
  exact Goes.by (fun t q => X.baloadBooleans hx (g := mkF m pc Ls (.int j :: .ref a :: rest)) (by rw [eT]; exact A.1) (State.isArrayOf_alike hZ.alike A.2.1) A.2.2 (idxI r1 hj hi) (v := f i) (by rw [(idxN hj).1]; exact r3 i hi) rfl rfl hd t q) G
theorem Std.alen (X : Std p l e R s m args below meth c Z own n0 T h k n) (F : PArr Z h a ty N f) {z : Int32} (hz : z.toInt = N) (hd : decode c.code pc = .ok (.arraylength, 1)) (G : Goes p e below s n0 C S P T (mkF m (pc + 1) Ls (.int z :: rest))) : Goes p e below s n0 C S P T (mkF m pc Ls (.ref a :: rest)) := by
  obtain ⟨vm0, ⟨L, X, -⟩, eT, hx, hZ, -⟩ := X
  obtain ⟨cl, A, r1, r2, r3⟩ := F
  have q : cl.slots.size.toInt32 = z := Int32.toInt_inj.mp (by rw [r1, hz]; exact len_toInt r2)
  refine Goes.by (fun t q => X.arraylength hx (g := mkF m pc Ls (.ref a :: rest)) (by rw [eT]; exact A.1) (State.isArrayOf_alike hZ.alike A.2.1) rfl rfl hd t q) ?_
  rw [q]
  exact G
theorem Std.iastore (X : Std p l e R s m args below meth c Z own n0 T h k n) (F : PArr Z h a .int N f) {j x : Int32} {i : Nat} (hj : j.toInt = i) (hi : i < N) (ha : n0 ≤ a) (hd : decode c.code pc = .ok (.iastore, 1))
    (G : ∀ T h', Std p l e R s m args below meth c Z own n0 T h' k n → Wr h h' a i (.int x) → Goes p e below s n0 C S P T (mkF m (pc + 1) Ls rest)) : Goes p e below s n0 C S P T (mkF m pc Ls (.int x :: .int j :: .ref a :: rest)) := by
  obtain ⟨vm0, ⟨L, X, M⟩, eT, hx, hZ, hown, hB, r⟩ := X
  obtain ⟨cl, A, r1, r2, r3⟩ := F
  obtain ⟨T1, h1, X1, e1, W1, st1⟩ := stI X hx hZ eT A (x := x) (idxI r1 hj hi) (g := mkF m pc Ls (.int x :: .int j :: .ref a :: rest)) rfl rfl hd
  refine Goes.by st1 (G T1 h1 ⟨vm0, ⟨_, X1, Fr.snoc X1 M ha⟩, e1, hx, hZ, hown, hB.mono (Nat.le_of_eq W1.size.symm), r⟩ ?_)
  rw [← (idxN hj).1]
  exact W1
theorem Std.bastoreB (X : Std p l e R s m args below meth c Z own n0 T h k n) (F : PArr Z h a .byte N f) {j x : Int32} {i : Nat} (hj : j.toInt = i) (hi : i < N) (ha : n0 ≤ a) (hd : decode c.code pc = .ok (.bastore, 1))
    (G : ∀ T h', Std p l e R s m args below meth c Z own n0 T h' k n → Wr h h' a i (.int (nar .byte x)) → Goes p e below s n0 C S P T (mkF m (pc + 1) Ls rest)) : Goes p e below s n0 C S P T (mkF m pc Ls (.int x :: .int j :: .ref a :: rest)) := by
  obtain ⟨vm0, ⟨L, X, M⟩, eT, hx, hZ, hown, hB, r⟩ := X
  obtain ⟨cl, A, r1, r2, r3⟩ := F
  obtain ⟨T1, h1, X1, e1, W1, st1⟩ := stB X hx hZ eT A (x := x) (idxI r1 hj hi) (g := mkF m pc Ls (.int x :: .int j :: .ref a :: rest)) rfl rfl hd
  refine Goes.by st1 (G T1 h1 ⟨vm0, ⟨_, X1, Fr.snoc X1 M ha⟩, e1, hx, hZ, hown, hB.mono (Nat.le_of_eq W1.size.symm), r⟩ ?_)
  rw [← (idxN hj).1]
  exact W1
theorem Std.bastoreZ (X : Std p l e R s m args below meth c Z own n0 T h k n) (F : PArr Z h a .boolean N f) {j x : Int32} {i : Nat} (hj : j.toInt = i) (hi : i < N) (ha : n0 ≤ a) (hd : decode c.code pc = .ok (.bastore, 1))
    (G : ∀ T h', Std p l e R s m args below meth c Z own n0 T h' k n → Wr h h' a i (.int (nar .boolean x)) → Goes p e below s n0 C S P T (mkF m (pc + 1) Ls rest)) : Goes p e below s n0 C S P T (mkF m pc Ls (.int x :: .int j :: .ref a :: rest)) := by
  obtain ⟨vm0, ⟨L, X, M⟩, eT, hx, hZ, hown, hB, r⟩ := X
  obtain ⟨cl, A, r1, r2, r3⟩ := F
  obtain ⟨T1, h1, X1, e1, W1, st1⟩ := stZ X hx hZ eT A (x := x) (idxI r1 hj hi) (g := mkF m pc Ls (.int x :: .int j :: .ref a :: rest)) rfl rfl hd
  refine Goes.by st1 (G T1 h1 ⟨vm0, ⟨_, X1, Fr.snoc X1 M ha⟩, e1, hx, hZ, hown, hB.mono (Nat.le_of_eq W1.size.symm), r⟩ ?_)
  rw [← (idxN hj).1]
  exact W1
theorem Std.newA (X : Std p l e R s m args below meth c Z own n0 T h k n) {aty : ArrayType} {ad : String} (had : "[" ++ (newarray.typeOf aty).toString = ad) (w : (Cond.arrayClass (newarray.typeOf aty)).before a0 Z = true) (hd : decode c.code pc = .ok (.newarray aty, 2)) {z : Int32} (hz : z.toInt = N) {cap : Nat} (hcap : N ≤ cap) (hb : cap * 8 ≤ 536870912) (hc : k + 1 ≤ R.cells) (hl : n + cap ≤ R.slots)
    (G : ∀ T h' a, Std p l e R s m args below meth c Z own n0 T h' (k + 1) (n + cap) → a = h.size → n0 ≤ a → Ext h h' → Exa Z h' a ad → PArr Z h' a (newarray.typeOf aty) N (fun _ => defaultValue (newarray.typeOf aty)) → Goes p e below s n0 C S P T (mkF m (pc + 2) Ls (.ref a :: rest))) : Goes p e below s n0 C S P T (mkF m pc Ls (.int z :: rest)) := by
  have q := X.n0le
  obtain ⟨vm0, ⟨L0, X, M⟩, eT, hx, hZ, hown, hB, r⟩ := X
  obtain ⟨T1, h1, cA, X1, e1, E1, A1, B1, st1⟩ := newPE X hx hZ w eT (g := mkF m pc Ls (.int z :: rest)) rfl hd rfl (idxN hz).2 (cap := cap) (by rw [(idxN hz).1]; exact hcap) hb hc hl had
  have hN : N < 2 ^ 31 := by have := Int32.toInt_lt z; omega
  refine Goes.by st1 (G T1 h1 h.size ⟨vm0, ⟨_, X1, M⟩, e1, hx, hZ, hown, hB.mono E1.1, r⟩ rfl q E1 B1 ⟨_, A1, by rw [sz_new]; exact (idxN hz).1, hN, fun i hi => ?_⟩)
  show (Array.replicate z.toNatClampNeg _)[i]? = _
  rw [(idxN hz).1]
  simp [hi]
end OwnArr
section OwnMore
variable {p : Program} {l : Launch} {e : Env} {R : Room} {s : State} {m : MethodId} {args : Array Value} {below : List Frame} {meth : Method} {c : Code} {T T' : State} {Z : State} {own : String} {h h' : Heap} {n0 k n C S : Nat} {a0 : Array Value} {P : Option Value → Heap → Prop} {g g' : JFrame} {pc : Nat} {Ls : Array Slot} {st rest : List Value} {a b : Addr} {ty : FieldType} {N sl : Nat} {f : Nat → Value} {v : Value} {ws : List Addr}
theorem Std.castY (X : Std p l e R s m args below meth c Z own n0 T h k n) {index : Nat} {K : String} (w : (Cond.classLink own index K).before a0 Z = true) (F : Ins Z h a K true) (hd : decode c.code pc = .ok (.checkcast index, 3))
    (G : ∀ T, Std p l e R s m args below meth c Z own n0 T h k n → Goes p e below s n0 C S P T (mkF m (pc + 3) Ls (.ref a :: rest))) : Goes p e below s n0 C S P T (mkF m pc Ls (.ref a :: rest)) := by
  obtain ⟨vm0, ⟨L, X, M⟩, eT, hx, hZ, hown, hB, r⟩ := X
  obtain ⟨T1, X1, e1, st1⟩ := Jvm.RoadKit.castY X hx hZ hown w eT F (g := mkF m pc Ls (.ref a :: rest)) rfl rfl hd
  exact Goes.by st1 (G T1 ⟨vm0, ⟨L, X1, M⟩, e1, hx, hZ, hown, hB, r⟩)
theorem Std.instY (X : Std p l e R s m args below meth c Z own n0 T h k n) {index : Nat} {K : String} (w : (Cond.classLink own index K).before a0 Z = true) (F : Ins Z h a K true) (hd : decode c.code pc = .ok (.instanceof index, 3))
    (G : ∀ T, Std p l e R s m args below meth c Z own n0 T h k n → Goes p e below s n0 C S P T (mkF m (pc + 3) Ls (.int 1 :: rest))) : Goes p e below s n0 C S P T (mkF m pc Ls (.ref a :: rest)) := by
  obtain ⟨vm0, ⟨L, X, M⟩, eT, hx, hZ, hown, hB, r⟩ := X
  obtain ⟨T1, X1, e1, st1⟩ := Jvm.RoadKit.instY X hx hZ hown w eT F (g := mkF m pc Ls (.ref a :: rest)) rfl rfl hd
  exact Goes.by st1 (G T1 ⟨vm0, ⟨L, X1, M⟩, e1, hx, hZ, hown, hB, r⟩)
theorem Std.more (X : Std p l e R s m args below meth c Z own n0 T h k n) {k' n' : Nat} (hk : k ≤ k') (hn : n ≤ n') : Std p l e R s m args below meth c Z own n0 T h k' n' := by
  obtain ⟨vm0, ⟨L, X, M⟩, r⟩ := X
  exact ⟨vm0, ⟨L, X.more hk hn, M⟩, r⟩
theorem Std.clone (X : Std p l e R s m args below meth c Z own n0 T h k n) {ad : String} {index : Nat} (w1 : (Cond.methodLink own index ⟨ad, "clone", "()Ljava/lang/Object;"⟩).before a0 Z = true) (w2 : (Cond.sameMethod ad "java/lang/Object" "clone" "()Ljava/lang/Object;").before a0 Z = true) (w3 : (Cond.native ⟨"java/lang/Object", "clone", "()Ljava/lang/Object;"⟩).before a0 Z = true)
    (w4 : (Cond.instanceMethod ⟨"java/lang/Object", "clone", "()Ljava/lang/Object;"⟩).before a0 Z = true) (w5 : (Cond.selects ad ⟨ad, "clone", "()Ljava/lang/Object;"⟩ ⟨"java/lang/Object", "clone", "()Ljava/lang/Object;"⟩).before a0 Z = true) (w6 : (Cond.castable ad "java/lang/Cloneable").before a0 Z = true)
    (F : PArr Z h a ty N f) (hfit : ∀ i, i < N → fits ty (f i) = true) (E : Exa Z h a ad) (hsz : Ls.size = c.maxLocals) (hd : decode c.code pc = .ok (.invokevirtual index, 3)) (hf : 1 ≤ R.frames) (hl : (rest.map fun v => v.category).sum + 14 ≤ R.locals) {cap : Nat} (hcap : N ≤ cap) (hc : k + 1 ≤ R.cells) (hs : n + cap ≤ R.slots)
    (G : ∀ T h' b, Std p l e R s m args below meth c Z own n0 T h' (k + 1) (n + cap) → b = h.size → n0 ≤ b → Ext h h' → Exa Z h' b ad → PArr Z h' b ty N f → Goes p e below s n0 C S P T (mkF m (pc + 3) Ls (.ref b :: rest))) : Goes p e below s n0 C S P T (mkF m pc Ls (.ref a :: rest)) := by
  have q := X.n0le
  obtain ⟨vm0, ⟨L, X, M⟩, eT, hx, hZ, hown, hB, r⟩ := X
  obtain ⟨cl, A, r1, r2, r3⟩ := F
  have FC : FitC Z cl := fitC_of A fun i hi v hv => by rw [r1] at hi; rw [r3 i hi] at hv; cases hv; exact hfit i hi
  obtain ⟨T1, h1, X1, e1, E1, A1, B1, st1⟩ := cloneA X hx hZ hown w1 w2 w3 w4 w5 w6 eT A E FC (g := mkF m pc Ls (.ref a :: rest)) rfl hsz rfl hd hf (W := (rest.map fun v => v.category).sum) (cap := cap) (by show 2 * 0 + _ ≤ _; omega) hl (by rw [r1]; exact hcap) hc hs
  exact Goes.by st1 (G T1 h1 h.size ⟨vm0, ⟨_, X1, M⟩, e1, hx, hZ, hown, hB.mono E1.1, r⟩ rfl q E1 B1 ⟨cloneOf cl, A1, r1, r2, r3⟩)
theorem Std.grid (X : Std p l e R s m args below meth c Z own n0 T h k n) {K ad : String} {index : Nat} (hC : (FieldType.array ty).toString = K) (had : "[" ++ K = ad) (w1 : (Cond.classLink own index ad).before a0 Z = true) (w2 : (Cond.arrayOver (.array ty)).before a0 Z = true) (w3 : (Cond.arrayClass ty).before a0 Z = true) (hd : decode c.code pc = .ok (.multianewarray index 2, 4)) {z y : Int32} {Y : Nat} (hz : z.toInt = N) (hy : y.toInt = Y) {capN cap : Nat} (hcN : N ≤ capN) (hcap : Y ≤ cap) (hb : cap * 8 ≤ 536870912) (hb1 : capN ≤ 1000) (hdf : fits ty (defaultValue ty) = true) (hdd : (defaultValue ty).isDefault = true) (hc : k + (1 + capN) ≤ R.cells) (hl : n + (capN + capN * cap) ≤ R.slots)
    (G : ∀ T h' b, Std p l e R s m args below meth c Z own n0 T h' (k + (1 + capN)) (n + (capN + capN * cap)) → b = h.size → n0 ≤ b → Ext h h' → Exa Z h' b ad → Goes p e below s n0 C S P T (mkF m (pc + 4) Ls (.ref b :: rest))) : Goes p e below s n0 C S P T (mkF m pc Ls (.int y :: .int z :: rest)) := by
  have q := X.n0le
  have m1 : N * cap ≤ capN * cap := Nat.mul_le_mul_right _ hcN
  obtain ⟨vm0, ⟨L, X, M⟩, eT, hx, hZ, hown, hB, r⟩ := X
  obtain ⟨T1, h1, cA, comp, X1, e1, E1, A1, O1, B1, I1, st1⟩ := gridM X hx hZ hown hC had w1 w2 w3 eT (g := mkF m pc Ls (.int y :: .int z :: rest)) rfl hd rfl (idxN hz).2 (idxN hy).2 (N := N) (idxN hz).1 rfl (cap := cap) (by rw [(idxN hy).1]; exact hcap) hb (by omega) hdf hdd (by omega) (by omega)
  exact Goes.by st1 (G T1 h1 h.size ⟨vm0, ⟨_, X1.more (by omega) (by omega), M⟩, e1, hx, hZ, hown, hB.mono E1.1, r⟩ rfl q E1 B1)
end OwnMore
theorem pf_1 : plainFor (⟨"com/example/objects_to_rows/objectstorows/query/FunctionTakesPinLaw", "pick", "(I)Lcom/example/objects_to_rows/objectstorows/query/QueryModel$Function;"⟩ : MethodName) = true := by first | exact plainFor_of_name (by first | (simp [plainName, overriddenIn]; done) | decide +kernel) | decide +kernel
theorem d1_0 : decode method_3_code 0 = .ok (.iload_n 0, 1) := by decide +kernel
theorem d1_1 : decode method_3_code 1 = .ok (.ifCond .ne 7, 3) := by decide +kernel
theorem d1_4 : decode method_3_code 4 = .ok (.getstatic 27, 3) := by decide +kernel
theorem d1_7 : decode method_3_code 7 = .ok (.areturn, 1) := by decide +kernel
theorem d1_8 : decode method_3_code 8 = .ok (.iload_n 0, 1) := by decide +kernel
theorem d1_9 : decode method_3_code 9 = .ok (.iconst 1, 1) := by decide +kernel
theorem d1_10 : decode method_3_code 10 = .ok (.if_icmp .ne 7, 3) := by decide +kernel
theorem d1_13 : decode method_3_code 13 = .ok (.getstatic 31, 3) := by decide +kernel
theorem d1_16 : decode method_3_code 16 = .ok (.areturn, 1) := by decide +kernel
theorem d1_17 : decode method_3_code 17 = .ok (.iload_n 0, 1) := by decide +kernel
theorem d1_18 : decode method_3_code 18 = .ok (.iconst 2, 1) := by decide +kernel
theorem d1_19 : decode method_3_code 19 = .ok (.if_icmp .ne 7, 3) := by decide +kernel
theorem d1_22 : decode method_3_code 22 = .ok (.getstatic 34, 3) := by decide +kernel
theorem d1_25 : decode method_3_code 25 = .ok (.areturn, 1) := by decide +kernel
theorem d1_26 : decode method_3_code 26 = .ok (.iload_n 0, 1) := by decide +kernel
theorem d1_27 : decode method_3_code 27 = .ok (.iconst 3, 1) := by decide +kernel
theorem d1_28 : decode method_3_code 28 = .ok (.if_icmp .ne 7, 3) := by decide +kernel
theorem d1_31 : decode method_3_code 31 = .ok (.getstatic 37, 3) := by decide +kernel
theorem d1_34 : decode method_3_code 34 = .ok (.areturn, 1) := by decide +kernel
theorem d1_35 : decode method_3_code 35 = .ok (.iload_n 0, 1) := by decide +kernel
theorem d1_36 : decode method_3_code 36 = .ok (.iconst 4, 1) := by decide +kernel
theorem d1_37 : decode method_3_code 37 = .ok (.if_icmp .ne 7, 3) := by decide +kernel
theorem d1_40 : decode method_3_code 40 = .ok (.getstatic 40, 3) := by decide +kernel
theorem d1_43 : decode method_3_code 43 = .ok (.areturn, 1) := by decide +kernel
theorem d1_44 : decode method_3_code 44 = .ok (.iload_n 0, 1) := by decide +kernel
theorem d1_45 : decode method_3_code 45 = .ok (.iconst 5, 1) := by decide +kernel
theorem d1_46 : decode method_3_code 46 = .ok (.if_icmp .ne 7, 3) := by decide +kernel
theorem d1_49 : decode method_3_code 49 = .ok (.getstatic 43, 3) := by decide +kernel
theorem d1_52 : decode method_3_code 52 = .ok (.areturn, 1) := by decide +kernel
theorem d1_53 : decode method_3_code 53 = .ok (.iload_n 0, 1) := by decide +kernel
theorem d1_54 : decode method_3_code 54 = .ok (.bipush 6, 2) := by decide +kernel
theorem d1_56 : decode method_3_code 56 = .ok (.if_icmp .ne 7, 3) := by decide +kernel
theorem d1_59 : decode method_3_code 59 = .ok (.getstatic 46, 3) := by decide +kernel
theorem d1_62 : decode method_3_code 62 = .ok (.areturn, 1) := by decide +kernel
theorem d1_63 : decode method_3_code 63 = .ok (.iload_n 0, 1) := by decide +kernel
theorem d1_64 : decode method_3_code 64 = .ok (.bipush 7, 2) := by decide +kernel
theorem d1_66 : decode method_3_code 66 = .ok (.if_icmp .ne 7, 3) := by decide +kernel
theorem d1_69 : decode method_3_code 69 = .ok (.getstatic 49, 3) := by decide +kernel
theorem d1_72 : decode method_3_code 72 = .ok (.areturn, 1) := by decide +kernel
theorem d1_73 : decode method_3_code 73 = .ok (.iload_n 0, 1) := by decide +kernel
theorem d1_74 : decode method_3_code 74 = .ok (.bipush 8, 2) := by decide +kernel
theorem d1_76 : decode method_3_code 76 = .ok (.if_icmp .ne 7, 3) := by decide +kernel
theorem d1_79 : decode method_3_code 79 = .ok (.getstatic 52, 3) := by decide +kernel
theorem d1_82 : decode method_3_code 82 = .ok (.areturn, 1) := by decide +kernel
theorem d1_83 : decode method_3_code 83 = .ok (.iload_n 0, 1) := by decide +kernel
theorem d1_84 : decode method_3_code 84 = .ok (.bipush 9, 2) := by decide +kernel
theorem d1_86 : decode method_3_code 86 = .ok (.if_icmp .ne 7, 3) := by decide +kernel
theorem d1_89 : decode method_3_code 89 = .ok (.getstatic 55, 3) := by decide +kernel
theorem d1_92 : decode method_3_code 92 = .ok (.areturn, 1) := by decide +kernel
theorem d1_93 : decode method_3_code 93 = .ok (.iload_n 0, 1) := by decide +kernel
theorem d1_94 : decode method_3_code 94 = .ok (.bipush 10, 2) := by decide +kernel
theorem d1_96 : decode method_3_code 96 = .ok (.if_icmp .ne 7, 3) := by decide +kernel
theorem d1_99 : decode method_3_code 99 = .ok (.getstatic 58, 3) := by decide +kernel
theorem d1_102 : decode method_3_code 102 = .ok (.areturn, 1) := by decide +kernel
theorem d1_103 : decode method_3_code 103 = .ok (.iload_n 0, 1) := by decide +kernel
theorem d1_104 : decode method_3_code 104 = .ok (.bipush 11, 2) := by decide +kernel
theorem d1_106 : decode method_3_code 106 = .ok (.if_icmp .ne 7, 3) := by decide +kernel
theorem d1_109 : decode method_3_code 109 = .ok (.getstatic 61, 3) := by decide +kernel
theorem d1_112 : decode method_3_code 112 = .ok (.areturn, 1) := by decide +kernel
theorem d1_113 : decode method_3_code 113 = .ok (.iload_n 0, 1) := by decide +kernel
theorem d1_114 : decode method_3_code 114 = .ok (.bipush 12, 2) := by decide +kernel
theorem d1_116 : decode method_3_code 116 = .ok (.if_icmp .ne 7, 3) := by decide +kernel
theorem d1_119 : decode method_3_code 119 = .ok (.getstatic 64, 3) := by decide +kernel
theorem d1_122 : decode method_3_code 122 = .ok (.areturn, 1) := by decide +kernel
theorem d1_123 : decode method_3_code 123 = .ok (.iload_n 0, 1) := by decide +kernel
theorem d1_124 : decode method_3_code 124 = .ok (.bipush 13, 2) := by decide +kernel
theorem d1_126 : decode method_3_code 126 = .ok (.if_icmp .ne 7, 3) := by decide +kernel
theorem d1_129 : decode method_3_code 129 = .ok (.getstatic 67, 3) := by decide +kernel
theorem d1_132 : decode method_3_code 132 = .ok (.areturn, 1) := by decide +kernel
theorem d1_133 : decode method_3_code 133 = .ok (.iload_n 0, 1) := by decide +kernel
theorem d1_134 : decode method_3_code 134 = .ok (.bipush 14, 2) := by decide +kernel
theorem d1_136 : decode method_3_code 136 = .ok (.if_icmp .ne 7, 3) := by decide +kernel
theorem d1_139 : decode method_3_code 139 = .ok (.getstatic 70, 3) := by decide +kernel
theorem d1_142 : decode method_3_code 142 = .ok (.areturn, 1) := by decide +kernel
theorem d1_143 : decode method_3_code 143 = .ok (.getstatic 73, 3) := by decide +kernel
theorem d1_146 : decode method_3_code 146 = .ok (.areturn, 1) := by decide +kernel
theorem pf_2 : plainFor (⟨"com/example/objects_to_rows/objectstorows/query/FunctionTakesPinLaw", "fewest", "(I)I"⟩ : MethodName) = true := by first | exact plainFor_of_name (by first | (simp [plainName, overriddenIn]; done) | decide +kernel) | decide +kernel
theorem d2_0 : decode method_4_code 0 = .ok (.iload_n 0, 1) := by decide +kernel
theorem d2_1 : decode method_4_code 1 = .ok (.iconst 3, 1) := by decide +kernel
theorem d2_2 : decode method_4_code 2 = .ok (.if_icmp .eq 13, 3) := by decide +kernel
theorem d2_15 : decode method_4_code 15 = .ok (.iconst 0, 1) := by decide +kernel
theorem d2_16 : decode method_4_code 16 = .ok (.ireturn, 1) := by decide +kernel
theorem d2_5 : decode method_4_code 5 = .ok (.iload_n 0, 1) := by decide +kernel
theorem d2_6 : decode method_4_code 6 = .ok (.iconst 4, 1) := by decide +kernel
theorem d2_7 : decode method_4_code 7 = .ok (.if_icmp .eq 8, 3) := by decide +kernel
theorem d2_10 : decode method_4_code 10 = .ok (.iload_n 0, 1) := by decide +kernel
theorem d2_11 : decode method_4_code 11 = .ok (.iconst 5, 1) := by decide +kernel
theorem d2_12 : decode method_4_code 12 = .ok (.if_icmp .ne 5, 3) := by decide +kernel
theorem d2_17 : decode method_4_code 17 = .ok (.iload_n 0, 1) := by decide +kernel
theorem d2_18 : decode method_4_code 18 = .ok (.iconst 1, 1) := by decide +kernel
theorem d2_19 : decode method_4_code 19 = .ok (.if_icmp .eq 32, 3) := by decide +kernel
theorem d2_51 : decode method_4_code 51 = .ok (.iconst 2, 1) := by decide +kernel
theorem d2_52 : decode method_4_code 52 = .ok (.ireturn, 1) := by decide +kernel
theorem d2_22 : decode method_4_code 22 = .ok (.iload_n 0, 1) := by decide +kernel
theorem d2_23 : decode method_4_code 23 = .ok (.iconst 2, 1) := by decide +kernel
theorem d2_24 : decode method_4_code 24 = .ok (.if_icmp .eq 27, 3) := by decide +kernel
theorem d2_27 : decode method_4_code 27 = .ok (.iload_n 0, 1) := by decide +kernel
theorem d2_28 : decode method_4_code 28 = .ok (.bipush 8, 2) := by decide +kernel
theorem d2_30 : decode method_4_code 30 = .ok (.if_icmp .eq 21, 3) := by decide +kernel
theorem d2_33 : decode method_4_code 33 = .ok (.iload_n 0, 1) := by decide +kernel
theorem d2_34 : decode method_4_code 34 = .ok (.bipush 10, 2) := by decide +kernel
theorem d2_36 : decode method_4_code 36 = .ok (.if_icmp .eq 15, 3) := by decide +kernel
theorem d2_39 : decode method_4_code 39 = .ok (.iload_n 0, 1) := by decide +kernel
theorem d2_40 : decode method_4_code 40 = .ok (.bipush 11, 2) := by decide +kernel
theorem d2_42 : decode method_4_code 42 = .ok (.if_icmp .eq 9, 3) := by decide +kernel
theorem d2_45 : decode method_4_code 45 = .ok (.iload_n 0, 1) := by decide +kernel
theorem d2_46 : decode method_4_code 46 = .ok (.bipush 14, 2) := by decide +kernel
theorem d2_48 : decode method_4_code 48 = .ok (.if_icmp .ne 5, 3) := by decide +kernel
theorem d2_53 : decode method_4_code 53 = .ok (.iconst 1, 1) := by decide +kernel
theorem d2_54 : decode method_4_code 54 = .ok (.ireturn, 1) := by decide +kernel
theorem pf_3 : plainFor (⟨"com/example/objects_to_rows/objectstorows/query/FunctionTakesPinLaw", "most", "(I)I"⟩ : MethodName) = true := by first | exact plainFor_of_name (by first | (simp [plainName, overriddenIn]; done) | decide +kernel) | decide +kernel
theorem d3_0 : decode method_5_code 0 = .ok (.iload_n 0, 1) := by decide +kernel
theorem d3_1 : decode method_5_code 1 = .ok (.iconst 3, 1) := by decide +kernel
theorem d3_2 : decode method_5_code 2 = .ok (.if_icmp .eq 13, 3) := by decide +kernel
theorem d3_15 : decode method_5_code 15 = .ok (.iconst 0, 1) := by decide +kernel
theorem d3_16 : decode method_5_code 16 = .ok (.ireturn, 1) := by decide +kernel
theorem d3_5 : decode method_5_code 5 = .ok (.iload_n 0, 1) := by decide +kernel
theorem d3_6 : decode method_5_code 6 = .ok (.iconst 4, 1) := by decide +kernel
theorem d3_7 : decode method_5_code 7 = .ok (.if_icmp .eq 8, 3) := by decide +kernel
theorem d3_10 : decode method_5_code 10 = .ok (.iload_n 0, 1) := by decide +kernel
theorem d3_11 : decode method_5_code 11 = .ok (.iconst 5, 1) := by decide +kernel
theorem d3_12 : decode method_5_code 12 = .ok (.if_icmp .ne 5, 3) := by decide +kernel
theorem d3_17 : decode method_5_code 17 = .ok (.iload_n 0, 1) := by decide +kernel
theorem d3_18 : decode method_5_code 18 = .ok (.iconst 1, 1) := by decide +kernel
theorem d3_19 : decode method_5_code 19 = .ok (.if_icmp .eq 14, 3) := by decide +kernel
theorem d3_33 : decode method_5_code 33 = .ok (.ldc 7, 2) := by decide +kernel
theorem d3_35 : decode method_5_code 35 = .ok (.ireturn, 1) := by decide +kernel
theorem d3_22 : decode method_5_code 22 = .ok (.iload_n 0, 1) := by decide +kernel
theorem d3_23 : decode method_5_code 23 = .ok (.iconst 2, 1) := by decide +kernel
theorem d3_24 : decode method_5_code 24 = .ok (.if_icmp .eq 9, 3) := by decide +kernel
theorem d3_27 : decode method_5_code 27 = .ok (.iload_n 0, 1) := by decide +kernel
theorem d3_28 : decode method_5_code 28 = .ok (.bipush 6, 2) := by decide +kernel
theorem d3_30 : decode method_5_code 30 = .ok (.if_icmp .ne 6, 3) := by decide +kernel
theorem d3_36 : decode method_5_code 36 = .ok (.iload_n 0, 1) := by decide +kernel
theorem d3_37 : decode method_5_code 37 = .ok (.bipush 8, 2) := by decide +kernel
theorem d3_39 : decode method_5_code 39 = .ok (.if_icmp .eq 9, 3) := by decide +kernel
theorem d3_48 : decode method_5_code 48 = .ok (.iconst 3, 1) := by decide +kernel
theorem d3_49 : decode method_5_code 49 = .ok (.ireturn, 1) := by decide +kernel
theorem d3_42 : decode method_5_code 42 = .ok (.iload_n 0, 1) := by decide +kernel
theorem d3_43 : decode method_5_code 43 = .ok (.bipush 14, 2) := by decide +kernel
theorem d3_45 : decode method_5_code 45 = .ok (.if_icmp .ne 5, 3) := by decide +kernel
theorem d3_50 : decode method_5_code 50 = .ok (.iload_n 0, 1) := by decide +kernel
theorem d3_51 : decode method_5_code 51 = .ok (.bipush 10, 2) := by decide +kernel
theorem d3_53 : decode method_5_code 53 = .ok (.if_icmp .eq 9, 3) := by decide +kernel
theorem d3_62 : decode method_5_code 62 = .ok (.iconst 2, 1) := by decide +kernel
theorem d3_63 : decode method_5_code 63 = .ok (.ireturn, 1) := by decide +kernel
theorem d3_56 : decode method_5_code 56 = .ok (.iload_n 0, 1) := by decide +kernel
theorem d3_57 : decode method_5_code 57 = .ok (.bipush 11, 2) := by decide +kernel
theorem d3_59 : decode method_5_code 59 = .ok (.if_icmp .ne 5, 3) := by decide +kernel
theorem d3_64 : decode method_5_code 64 = .ok (.iconst 1, 1) := by decide +kernel
theorem d3_65 : decode method_5_code 65 = .ok (.ireturn, 1) := by decide +kernel
theorem pf_4 : plainFor (⟨"com/example/objects_to_rows/objectstorows/query/QueryModel$Function", "takes", "(I)Z"⟩ : MethodName) = true := by first | exact plainFor_of_name (by first | (simp [plainName, overriddenIn]; done) | decide +kernel) | decide +kernel
theorem d4_0 : decode prog_44_method_5_code 0 = .ok (.iload_n 1, 1) := by decide +kernel
theorem d4_1 : decode prog_44_method_5_code 1 = .ok (.aload_n 0, 1) := by decide +kernel
theorem d4_2 : decode prog_44_method_5_code 2 = .ok (.getfield 71, 3) := by decide +kernel
theorem d4_5 : decode prog_44_method_5_code 5 = .ok (.if_icmp .lt 15, 3) := by decide +kernel
theorem d4_20 : decode prog_44_method_5_code 20 = .ok (.iconst 0, 1) := by decide +kernel
theorem d4_21 : decode prog_44_method_5_code 21 = .ok (.ireturn, 1) := by decide +kernel
theorem d4_8 : decode prog_44_method_5_code 8 = .ok (.iload_n 1, 1) := by decide +kernel
theorem d4_9 : decode prog_44_method_5_code 9 = .ok (.aload_n 0, 1) := by decide +kernel
theorem d4_10 : decode prog_44_method_5_code 10 = .ok (.getfield 75, 3) := by decide +kernel
theorem d4_13 : decode prog_44_method_5_code 13 = .ok (.if_icmp .gt 7, 3) := by decide +kernel
theorem d4_16 : decode prog_44_method_5_code 16 = .ok (.iconst 1, 1) := by decide +kernel
theorem d4_17 : decode prog_44_method_5_code 17 = .ok (.goto 4, 3) := by decide +kernel
theorem pf_0 : plainFor (⟨"com/example/objects_to_rows/objectstorows/query/FunctionTakesPinLaw", "law", "(II)Z"⟩ : MethodName) = true := by first | exact plainFor_of_name (by first | (simp [plainName, overriddenIn]; done) | decide +kernel) | decide +kernel
theorem pd_3737049905 : parseMethodDescriptor "(I)Lcom/example/objects_to_rows/objectstorows/query/QueryModel$Function;" = some ⟨[.int], some (.object "com/example/objects_to_rows/objectstorows/query/QueryModel$Function")⟩ := by decide +kernel
theorem pd_2087992008 : parseMethodDescriptor "(I)I" = some ⟨[.int], some .int⟩ := by decide +kernel
theorem pd_2087992025 : parseMethodDescriptor "(I)Z" = some ⟨[.int], some .boolean⟩ := by decide +kernel
def selF (i : Int32) (a_ABS : Addr) (a_COALESCE : Addr) (a_CONCAT : Addr) (a_CURRENT_DATE : Addr) (a_CURRENT_TIME : Addr) (a_CURRENT_TIMESTAMP : Addr) (a_FUNCTION : Addr) (a_LENGTH : Addr) (a_LOCATE : Addr) (a_LOWER : Addr) (a_MOD : Addr) (a_NULLIF : Addr) (a_SIZE : Addr) (a_SQRT : Addr) (a_SUBSTRING : Addr) (a_UPPER : Addr) : Addr := if i = 0 then a_ABS else if i = 1 then a_COALESCE else if i = 2 then a_CONCAT else if i = 3 then a_CURRENT_DATE else if i = 4 then a_CURRENT_TIME else if i = 5 then a_CURRENT_TIMESTAMP else if i = 6 then a_FUNCTION else if i = 7 then a_LENGTH else if i = 8 then a_LOCATE else if i = 9 then a_LOWER else if i = 10 then a_MOD else if i = 11 then a_NULLIF else if i = 12 then a_SIZE else if i = 13 then a_SQRT else if i = 14 then a_SUBSTRING else a_UPPER
def fewF (i : Int32) : Int32 := if i = 3 ∨ i = 4 ∨ i = 5 then 0 else if i = 1 ∨ i = 2 ∨ i = 8 ∨ i = 10 ∨ i = 11 ∨ i = 14 then 2 else 1
def mostF (i : Int32) : Int32 := if i = 3 ∨ i = 4 ∨ i = 5 then 0 else if i = 1 ∨ i = 2 ∨ i = 6 then 2147483647 else if i = 8 ∨ i = 14 then 3 else if i = 10 ∨ i = 11 then 2 else 1
theorem objF (Z : State) (h : Heap) (i : Int32) (hi : 0 ≤ i.toInt ∧ i.toInt < 16) (a_ABS : Addr) (E_ABS : Exa Z h a_ABS "com/example/objects_to_rows/objectstorows/query/QueryModel$Function") (F_ABS_fewest : Fld Z h a_ABS "com/example/objects_to_rows/objectstorows/query/QueryModel$Function" "fewest" "I" (.int (1))) (F_ABS_most : Fld Z h a_ABS "com/example/objects_to_rows/objectstorows/query/QueryModel$Function" "most" "I" (.int (1))) (a_COALESCE : Addr) (E_COALESCE : Exa Z h a_COALESCE "com/example/objects_to_rows/objectstorows/query/QueryModel$Function") (F_COALESCE_fewest : Fld Z h a_COALESCE "com/example/objects_to_rows/objectstorows/query/QueryModel$Function" "fewest" "I" (.int (2))) (F_COALESCE_most : Fld Z h a_COALESCE "com/example/objects_to_rows/objectstorows/query/QueryModel$Function" "most" "I" (.int (2147483647))) (a_CONCAT : Addr) (E_CONCAT : Exa Z h a_CONCAT "com/example/objects_to_rows/objectstorows/query/QueryModel$Function") (F_CONCAT_fewest : Fld Z h a_CONCAT "com/example/objects_to_rows/objectstorows/query/QueryModel$Function" "fewest" "I" (.int (2))) (F_CONCAT_most : Fld Z h a_CONCAT "com/example/objects_to_rows/objectstorows/query/QueryModel$Function" "most" "I" (.int (2147483647))) (a_CURRENT_DATE : Addr) (E_CURRENT_DATE : Exa Z h a_CURRENT_DATE "com/example/objects_to_rows/objectstorows/query/QueryModel$Function") (F_CURRENT_DATE_fewest : Fld Z h a_CURRENT_DATE "com/example/objects_to_rows/objectstorows/query/QueryModel$Function" "fewest" "I" (.int (0))) (F_CURRENT_DATE_most : Fld Z h a_CURRENT_DATE "com/example/objects_to_rows/objectstorows/query/QueryModel$Function" "most" "I" (.int (0))) (a_CURRENT_TIME : Addr) (E_CURRENT_TIME : Exa Z h a_CURRENT_TIME "com/example/objects_to_rows/objectstorows/query/QueryModel$Function") (F_CURRENT_TIME_fewest : Fld Z h a_CURRENT_TIME "com/example/objects_to_rows/objectstorows/query/QueryModel$Function" "fewest" "I" (.int (0))) (F_CURRENT_TIME_most : Fld Z h a_CURRENT_TIME "com/example/objects_to_rows/objectstorows/query/QueryModel$Function" "most" "I" (.int (0))) (a_CURRENT_TIMESTAMP : Addr) (E_CURRENT_TIMESTAMP : Exa Z h a_CURRENT_TIMESTAMP "com/example/objects_to_rows/objectstorows/query/QueryModel$Function") (F_CURRENT_TIMESTAMP_fewest : Fld Z h a_CURRENT_TIMESTAMP "com/example/objects_to_rows/objectstorows/query/QueryModel$Function" "fewest" "I" (.int (0))) (F_CURRENT_TIMESTAMP_most : Fld Z h a_CURRENT_TIMESTAMP "com/example/objects_to_rows/objectstorows/query/QueryModel$Function" "most" "I" (.int (0))) (a_FUNCTION : Addr) (E_FUNCTION : Exa Z h a_FUNCTION "com/example/objects_to_rows/objectstorows/query/QueryModel$Function") (F_FUNCTION_fewest : Fld Z h a_FUNCTION "com/example/objects_to_rows/objectstorows/query/QueryModel$Function" "fewest" "I" (.int (1))) (F_FUNCTION_most : Fld Z h a_FUNCTION "com/example/objects_to_rows/objectstorows/query/QueryModel$Function" "most" "I" (.int (2147483647))) (a_LENGTH : Addr) (E_LENGTH : Exa Z h a_LENGTH "com/example/objects_to_rows/objectstorows/query/QueryModel$Function") (F_LENGTH_fewest : Fld Z h a_LENGTH "com/example/objects_to_rows/objectstorows/query/QueryModel$Function" "fewest" "I" (.int (1))) (F_LENGTH_most : Fld Z h a_LENGTH "com/example/objects_to_rows/objectstorows/query/QueryModel$Function" "most" "I" (.int (1))) (a_LOCATE : Addr) (E_LOCATE : Exa Z h a_LOCATE "com/example/objects_to_rows/objectstorows/query/QueryModel$Function") (F_LOCATE_fewest : Fld Z h a_LOCATE "com/example/objects_to_rows/objectstorows/query/QueryModel$Function" "fewest" "I" (.int (2))) (F_LOCATE_most : Fld Z h a_LOCATE "com/example/objects_to_rows/objectstorows/query/QueryModel$Function" "most" "I" (.int (3))) (a_LOWER : Addr) (E_LOWER : Exa Z h a_LOWER "com/example/objects_to_rows/objectstorows/query/QueryModel$Function") (F_LOWER_fewest : Fld Z h a_LOWER "com/example/objects_to_rows/objectstorows/query/QueryModel$Function" "fewest" "I" (.int (1))) (F_LOWER_most : Fld Z h a_LOWER "com/example/objects_to_rows/objectstorows/query/QueryModel$Function" "most" "I" (.int (1))) (a_MOD : Addr) (E_MOD : Exa Z h a_MOD "com/example/objects_to_rows/objectstorows/query/QueryModel$Function") (F_MOD_fewest : Fld Z h a_MOD "com/example/objects_to_rows/objectstorows/query/QueryModel$Function" "fewest" "I" (.int (2))) (F_MOD_most : Fld Z h a_MOD "com/example/objects_to_rows/objectstorows/query/QueryModel$Function" "most" "I" (.int (2))) (a_NULLIF : Addr) (E_NULLIF : Exa Z h a_NULLIF "com/example/objects_to_rows/objectstorows/query/QueryModel$Function") (F_NULLIF_fewest : Fld Z h a_NULLIF "com/example/objects_to_rows/objectstorows/query/QueryModel$Function" "fewest" "I" (.int (2))) (F_NULLIF_most : Fld Z h a_NULLIF "com/example/objects_to_rows/objectstorows/query/QueryModel$Function" "most" "I" (.int (2))) (a_SIZE : Addr) (E_SIZE : Exa Z h a_SIZE "com/example/objects_to_rows/objectstorows/query/QueryModel$Function") (F_SIZE_fewest : Fld Z h a_SIZE "com/example/objects_to_rows/objectstorows/query/QueryModel$Function" "fewest" "I" (.int (1))) (F_SIZE_most : Fld Z h a_SIZE "com/example/objects_to_rows/objectstorows/query/QueryModel$Function" "most" "I" (.int (1))) (a_SQRT : Addr) (E_SQRT : Exa Z h a_SQRT "com/example/objects_to_rows/objectstorows/query/QueryModel$Function") (F_SQRT_fewest : Fld Z h a_SQRT "com/example/objects_to_rows/objectstorows/query/QueryModel$Function" "fewest" "I" (.int (1))) (F_SQRT_most : Fld Z h a_SQRT "com/example/objects_to_rows/objectstorows/query/QueryModel$Function" "most" "I" (.int (1))) (a_SUBSTRING : Addr) (E_SUBSTRING : Exa Z h a_SUBSTRING "com/example/objects_to_rows/objectstorows/query/QueryModel$Function") (F_SUBSTRING_fewest : Fld Z h a_SUBSTRING "com/example/objects_to_rows/objectstorows/query/QueryModel$Function" "fewest" "I" (.int (2))) (F_SUBSTRING_most : Fld Z h a_SUBSTRING "com/example/objects_to_rows/objectstorows/query/QueryModel$Function" "most" "I" (.int (3))) (a_UPPER : Addr) (E_UPPER : Exa Z h a_UPPER "com/example/objects_to_rows/objectstorows/query/QueryModel$Function") (F_UPPER_fewest : Fld Z h a_UPPER "com/example/objects_to_rows/objectstorows/query/QueryModel$Function" "fewest" "I" (.int (1))) (F_UPPER_most : Fld Z h a_UPPER "com/example/objects_to_rows/objectstorows/query/QueryModel$Function" "most" "I" (.int (1))) :
    Exa Z h (selF i a_ABS a_COALESCE a_CONCAT a_CURRENT_DATE a_CURRENT_TIME a_CURRENT_TIMESTAMP a_FUNCTION a_LENGTH a_LOCATE a_LOWER a_MOD a_NULLIF a_SIZE a_SQRT a_SUBSTRING a_UPPER) "com/example/objects_to_rows/objectstorows/query/QueryModel$Function" ∧ Fld Z h (selF i a_ABS a_COALESCE a_CONCAT a_CURRENT_DATE a_CURRENT_TIME a_CURRENT_TIMESTAMP a_FUNCTION a_LENGTH a_LOCATE a_LOWER a_MOD a_NULLIF a_SIZE a_SQRT a_SUBSTRING a_UPPER) "com/example/objects_to_rows/objectstorows/query/QueryModel$Function" "fewest" "I" (.int (fewF i)) ∧ Fld Z h (selF i a_ABS a_COALESCE a_CONCAT a_CURRENT_DATE a_CURRENT_TIME a_CURRENT_TIMESTAMP a_FUNCTION a_LENGTH a_LOCATE a_LOWER a_MOD a_NULLIF a_SIZE a_SQRT a_SUBSTRING a_UPPER) "com/example/objects_to_rows/objectstorows/query/QueryModel$Function" "most" "I" (.int (mostF i)) := by
  have q : i = 0 ∨ i = 1 ∨ i = 2 ∨ i = 3 ∨ i = 4 ∨ i = 5 ∨ i = 6 ∨ i = 7 ∨ i = 8 ∨ i = 9 ∨ i = 10 ∨ i = 11 ∨ i = 12 ∨ i = 13 ∨ i = 14 ∨ i = 15 := by
    have q2 : i.toInt = 0 ∨ i.toInt = 1 ∨ i.toInt = 2 ∨ i.toInt = 3 ∨ i.toInt = 4 ∨ i.toInt = 5 ∨ i.toInt = 6 ∨ i.toInt = 7 ∨ i.toInt = 8 ∨ i.toInt = 9 ∨ i.toInt = 10 ∨ i.toInt = 11 ∨ i.toInt = 12 ∨ i.toInt = 13 ∨ i.toInt = 14 ∨ i.toInt = 15 := by omega
    rcases q2 with q | q | q | q | q | q | q | q | q | q | q | q | q | q | q | q
    · exact Or.inl (i32_eq q)
    · exact Or.inr (Or.inl (i32_eq q))
    · exact Or.inr (Or.inr (Or.inl (i32_eq q)))
    · exact Or.inr (Or.inr (Or.inr (Or.inl (i32_eq q))))
    · exact Or.inr (Or.inr (Or.inr (Or.inr (Or.inl (i32_eq q)))))
    · exact Or.inr (Or.inr (Or.inr (Or.inr (Or.inr (Or.inl (i32_eq q))))))
    · exact Or.inr (Or.inr (Or.inr (Or.inr (Or.inr (Or.inr (Or.inl (i32_eq q)))))))
    · exact Or.inr (Or.inr (Or.inr (Or.inr (Or.inr (Or.inr (Or.inr (Or.inl (i32_eq q))))))))
    · exact Or.inr (Or.inr (Or.inr (Or.inr (Or.inr (Or.inr (Or.inr (Or.inr (Or.inl (i32_eq q)))))))))
    · exact Or.inr (Or.inr (Or.inr (Or.inr (Or.inr (Or.inr (Or.inr (Or.inr (Or.inr (Or.inl (i32_eq q))))))))))
    · exact Or.inr (Or.inr (Or.inr (Or.inr (Or.inr (Or.inr (Or.inr (Or.inr (Or.inr (Or.inr (Or.inl (i32_eq q)))))))))))
    · exact Or.inr (Or.inr (Or.inr (Or.inr (Or.inr (Or.inr (Or.inr (Or.inr (Or.inr (Or.inr (Or.inr (Or.inl (i32_eq q))))))))))))
    · exact Or.inr (Or.inr (Or.inr (Or.inr (Or.inr (Or.inr (Or.inr (Or.inr (Or.inr (Or.inr (Or.inr (Or.inr (Or.inl (i32_eq q)))))))))))))
    · exact Or.inr (Or.inr (Or.inr (Or.inr (Or.inr (Or.inr (Or.inr (Or.inr (Or.inr (Or.inr (Or.inr (Or.inr (Or.inr (Or.inl (i32_eq q))))))))))))))
    · exact Or.inr (Or.inr (Or.inr (Or.inr (Or.inr (Or.inr (Or.inr (Or.inr (Or.inr (Or.inr (Or.inr (Or.inr (Or.inr (Or.inr (Or.inl (i32_eq q)))))))))))))))
    · exact Or.inr (Or.inr (Or.inr (Or.inr (Or.inr (Or.inr (Or.inr (Or.inr (Or.inr (Or.inr (Or.inr (Or.inr (Or.inr (Or.inr (Or.inr (i32_eq q)))))))))))))))
  rcases q with rfl | rfl | rfl | rfl | rfl | rfl | rfl | rfl | rfl | rfl | rfl | rfl | rfl | rfl | rfl | rfl
  · exact ⟨E_ABS, F_ABS_fewest, F_ABS_most⟩
  · exact ⟨E_COALESCE, F_COALESCE_fewest, F_COALESCE_most⟩
  · exact ⟨E_CONCAT, F_CONCAT_fewest, F_CONCAT_most⟩
  · exact ⟨E_CURRENT_DATE, F_CURRENT_DATE_fewest, F_CURRENT_DATE_most⟩
  · exact ⟨E_CURRENT_TIME, F_CURRENT_TIME_fewest, F_CURRENT_TIME_most⟩
  · exact ⟨E_CURRENT_TIMESTAMP, F_CURRENT_TIMESTAMP_fewest, F_CURRENT_TIMESTAMP_most⟩
  · exact ⟨E_FUNCTION, F_FUNCTION_fewest, F_FUNCTION_most⟩
  · exact ⟨E_LENGTH, F_LENGTH_fewest, F_LENGTH_most⟩
  · exact ⟨E_LOCATE, F_LOCATE_fewest, F_LOCATE_most⟩
  · exact ⟨E_LOWER, F_LOWER_fewest, F_LOWER_most⟩
  · exact ⟨E_MOD, F_MOD_fewest, F_MOD_most⟩
  · exact ⟨E_NULLIF, F_NULLIF_fewest, F_NULLIF_most⟩
  · exact ⟨E_SIZE, F_SIZE_fewest, F_SIZE_most⟩
  · exact ⟨E_SQRT, F_SQRT_fewest, F_SQRT_most⟩
  · exact ⟨E_SUBSTRING, F_SUBSTRING_fewest, F_SUBSTRING_most⟩
  · exact ⟨E_UPPER, F_UPPER_fewest, F_UPPER_most⟩
set_option maxRecDepth 65536 in
set_option maxHeartbeats 40000000 in
theorem rm1 (l : Launch) (Z : State) (a0 : Array Value) (hw : ∀ d ∈ tables_1, d.before a0 Z = true) (n0 : Nat) (h0 : Heap) (hn0 : n0 ≤ h0.size) (i : Int32) (a_ABS : Addr) (S_ABS : Sta Z h0 "com/example/objects_to_rows/objectstorows/query/QueryModel$Function" "ABS" "Lcom/example/objects_to_rows/objectstorows/query/QueryModel$Function;" (.ref a_ABS)) (a_COALESCE : Addr) (S_COALESCE : Sta Z h0 "com/example/objects_to_rows/objectstorows/query/QueryModel$Function" "COALESCE" "Lcom/example/objects_to_rows/objectstorows/query/QueryModel$Function;" (.ref a_COALESCE)) (a_CONCAT : Addr) (S_CONCAT : Sta Z h0 "com/example/objects_to_rows/objectstorows/query/QueryModel$Function" "CONCAT" "Lcom/example/objects_to_rows/objectstorows/query/QueryModel$Function;" (.ref a_CONCAT)) (a_CURRENT_DATE : Addr) (S_CURRENT_DATE : Sta Z h0 "com/example/objects_to_rows/objectstorows/query/QueryModel$Function" "CURRENT_DATE" "Lcom/example/objects_to_rows/objectstorows/query/QueryModel$Function;" (.ref a_CURRENT_DATE)) (a_CURRENT_TIME : Addr) (S_CURRENT_TIME : Sta Z h0 "com/example/objects_to_rows/objectstorows/query/QueryModel$Function" "CURRENT_TIME" "Lcom/example/objects_to_rows/objectstorows/query/QueryModel$Function;" (.ref a_CURRENT_TIME)) (a_CURRENT_TIMESTAMP : Addr) (S_CURRENT_TIMESTAMP : Sta Z h0 "com/example/objects_to_rows/objectstorows/query/QueryModel$Function" "CURRENT_TIMESTAMP" "Lcom/example/objects_to_rows/objectstorows/query/QueryModel$Function;" (.ref a_CURRENT_TIMESTAMP)) (a_FUNCTION : Addr) (S_FUNCTION : Sta Z h0 "com/example/objects_to_rows/objectstorows/query/QueryModel$Function" "FUNCTION" "Lcom/example/objects_to_rows/objectstorows/query/QueryModel$Function;" (.ref a_FUNCTION)) (a_LENGTH : Addr) (S_LENGTH : Sta Z h0 "com/example/objects_to_rows/objectstorows/query/QueryModel$Function" "LENGTH" "Lcom/example/objects_to_rows/objectstorows/query/QueryModel$Function;" (.ref a_LENGTH)) (a_LOCATE : Addr) (S_LOCATE : Sta Z h0 "com/example/objects_to_rows/objectstorows/query/QueryModel$Function" "LOCATE" "Lcom/example/objects_to_rows/objectstorows/query/QueryModel$Function;" (.ref a_LOCATE)) (a_LOWER : Addr) (S_LOWER : Sta Z h0 "com/example/objects_to_rows/objectstorows/query/QueryModel$Function" "LOWER" "Lcom/example/objects_to_rows/objectstorows/query/QueryModel$Function;" (.ref a_LOWER)) (a_MOD : Addr) (S_MOD : Sta Z h0 "com/example/objects_to_rows/objectstorows/query/QueryModel$Function" "MOD" "Lcom/example/objects_to_rows/objectstorows/query/QueryModel$Function;" (.ref a_MOD)) (a_NULLIF : Addr) (S_NULLIF : Sta Z h0 "com/example/objects_to_rows/objectstorows/query/QueryModel$Function" "NULLIF" "Lcom/example/objects_to_rows/objectstorows/query/QueryModel$Function;" (.ref a_NULLIF)) (a_SIZE : Addr) (S_SIZE : Sta Z h0 "com/example/objects_to_rows/objectstorows/query/QueryModel$Function" "SIZE" "Lcom/example/objects_to_rows/objectstorows/query/QueryModel$Function;" (.ref a_SIZE)) (a_SQRT : Addr) (S_SQRT : Sta Z h0 "com/example/objects_to_rows/objectstorows/query/QueryModel$Function" "SQRT" "Lcom/example/objects_to_rows/objectstorows/query/QueryModel$Function;" (.ref a_SQRT)) (a_SUBSTRING : Addr) (S_SUBSTRING : Sta Z h0 "com/example/objects_to_rows/objectstorows/query/QueryModel$Function" "SUBSTRING" "Lcom/example/objects_to_rows/objectstorows/query/QueryModel$Function;" (.ref a_SUBSTRING)) (a_UPPER : Addr) (S_UPPER : Sta Z h0 "com/example/objects_to_rows/objectstorows/query/QueryModel$Function" "UPPER" "Lcom/example/objects_to_rows/objectstorows/query/QueryModel$Function;" (.ref a_UPPER)) :
    Met l Z n0 (⟨"com/example/objects_to_rows/objectstorows/query/FunctionTakesPinLaw", "pick", "(I)Lcom/example/objects_to_rows/objectstorows/query/QueryModel$Function;"⟩ : MethodName) method_3_code 1 (Option.some (.object "com/example/objects_to_rows/objectstorows/query/QueryModel$Function")) ({ frames := 0, cells := 0, slots := 0, locals := 0 } : Room) #[(.int i)] h0 (fun (v : Option Value) (h' : Heap) => v = some (.ref (selF i a_ABS a_COALESCE a_CONCAT a_CURRENT_DATE a_CURRENT_TIME a_CURRENT_TIMESTAMP a_FUNCTION a_LENGTH a_LOCATE a_LOWER a_MOD a_NULLIF a_SIZE a_SQRT a_SUBSTRING a_UPPER)) ∧ h' = h0) := by
  refine metW (Q := fun (v : Option Value) (h' : Heap) => v = some (.ref (selF i a_ABS a_COALESCE a_CONCAT a_CURRENT_DATE a_CURRENT_TIME a_CURRENT_TIMESTAMP a_FUNCTION a_LENGTH a_LOCATE a_LOWER a_MOD a_NULLIF a_SIZE a_SQRT a_SUBSTRING a_UPPER)) ∧ h' = h0) pf_1 hn0 ?_
  intro p e s m below meth c T X hby hml hret hnm
  refine Goes.by (g' := (mkF m 0 #[.val (.int i)] [])) (fun _ q => castTop (by first | rfl | (simp [entryFrame, mkF, argsToLocals, Value.category]; done)) q) ?_
  refine Goes.by (g' := (mkF m 1 #[.val (.int i)] [(.int i)])) (fun _ q => XS.iloadN X.here X.hx rfl (hb hby d1_0) rfl q) ?_
  by_cases hB1 : i = (0 : Int32)
  · skip
    refine Goes.by (g' := (mkF m 4 #[.val (.int i)] [])) (fun _ q => XS.ifNo X.here X.hx rfl (hb hby d1_1) rfl ((if0 _ _).trans (teq hB1).2) q) ?_
    refine X.getS (Or.inl (hw _ (List.mem_of_getElem? (i := 5) rfl))) (host := "") Via.refl S_ABS (hb hby d1_4) (fun T X => ?_)
    show Goes _ _ _ _ _ _ _ _ T (mkF m 7 #[.val (.int i)] [(.ref a_ABS)])
    exact X.retA hret rfl rfl (hb hby d1_7) (by decide) (by decide) ⟨by simp [selF, hB1], rfl⟩
  · skip
    refine Goes.by (g' := (mkF m 8 #[.val (.int i)] [])) (fun _ q => XS.ifYes X.here X.hx rfl (pc0 := 1) (pc' := 8) rfl (hb hby d1_1) rfl ((if0 _ _).trans (feq hB1).2) (by decide) (by decide) q) ?_
    refine Goes.by (g' := (mkF m 9 #[.val (.int i)] [(.int i)])) (fun _ q => XS.iloadN X.here X.hx rfl (hb hby d1_8) rfl q) ?_
    refine Goes.by (g' := (mkF m 10 #[.val (.int i)] [(.int (1 : Int32)), (.int i)])) (fun _ q => XS.iconst X.here X.hx rfl (hb hby d1_9) q) ?_
    by_cases hB2 : i = (1 : Int32)
    · skip
      refine Goes.by (g' := (mkF m 13 #[.val (.int i)] [])) (fun _ q => XS.icmpNo X.here X.hx rfl (hb hby d1_10) rfl (teq hB2).2 q) ?_
      refine X.getS (Or.inl (hw _ (List.mem_of_getElem? (i := 39) rfl))) (host := "") Via.refl S_COALESCE (hb hby d1_13) (fun T X => ?_)
      show Goes _ _ _ _ _ _ _ _ T (mkF m 16 #[.val (.int i)] [(.ref a_COALESCE)])
      exact X.retA hret rfl rfl (hb hby d1_16) (by decide) (by decide) ⟨by simp [selF, hB1, hB2], rfl⟩
    · skip
      refine Goes.by (g' := (mkF m 17 #[.val (.int i)] [])) (fun _ q => XS.icmpYes X.here X.hx rfl (pc0 := 10) (pc' := 17) rfl (hb hby d1_10) rfl (feq hB2).2 (by decide) (by decide) q) ?_
      refine Goes.by (g' := (mkF m 18 #[.val (.int i)] [(.int i)])) (fun _ q => XS.iloadN X.here X.hx rfl (hb hby d1_17) rfl q) ?_
      refine Goes.by (g' := (mkF m 19 #[.val (.int i)] [(.int (2 : Int32)), (.int i)])) (fun _ q => XS.iconst X.here X.hx rfl (hb hby d1_18) q) ?_
      by_cases hB3 : i = (2 : Int32)
      · skip
        refine Goes.by (g' := (mkF m 22 #[.val (.int i)] [])) (fun _ q => XS.icmpNo X.here X.hx rfl (hb hby d1_19) rfl (teq hB3).2 q) ?_
        refine X.getS (Or.inl (hw _ (List.mem_of_getElem? (i := 43) rfl))) (host := "") Via.refl S_CONCAT (hb hby d1_22) (fun T X => ?_)
        show Goes _ _ _ _ _ _ _ _ T (mkF m 25 #[.val (.int i)] [(.ref a_CONCAT)])
        exact X.retA hret rfl rfl (hb hby d1_25) (by decide) (by decide) ⟨by simp [selF, hB1, hB2, hB3], rfl⟩
      · skip
        refine Goes.by (g' := (mkF m 26 #[.val (.int i)] [])) (fun _ q => XS.icmpYes X.here X.hx rfl (pc0 := 19) (pc' := 26) rfl (hb hby d1_19) rfl (feq hB3).2 (by decide) (by decide) q) ?_
        refine Goes.by (g' := (mkF m 27 #[.val (.int i)] [(.int i)])) (fun _ q => XS.iloadN X.here X.hx rfl (hb hby d1_26) rfl q) ?_
        refine Goes.by (g' := (mkF m 28 #[.val (.int i)] [(.int (3 : Int32)), (.int i)])) (fun _ q => XS.iconst X.here X.hx rfl (hb hby d1_27) q) ?_
        by_cases hB4 : i = (3 : Int32)
        · skip
          refine Goes.by (g' := (mkF m 31 #[.val (.int i)] [])) (fun _ q => XS.icmpNo X.here X.hx rfl (hb hby d1_28) rfl (teq hB4).2 q) ?_
          refine X.getS (Or.inl (hw _ (List.mem_of_getElem? (i := 35) rfl))) (host := "") Via.refl S_CURRENT_DATE (hb hby d1_31) (fun T X => ?_)
          show Goes _ _ _ _ _ _ _ _ T (mkF m 34 #[.val (.int i)] [(.ref a_CURRENT_DATE)])
          exact X.retA hret rfl rfl (hb hby d1_34) (by decide) (by decide) ⟨by simp [selF, hB1, hB2, hB3, hB4], rfl⟩
        · skip
          refine Goes.by (g' := (mkF m 35 #[.val (.int i)] [])) (fun _ q => XS.icmpYes X.here X.hx rfl (pc0 := 28) (pc' := 35) rfl (hb hby d1_28) rfl (feq hB4).2 (by decide) (by decide) q) ?_
          refine Goes.by (g' := (mkF m 36 #[.val (.int i)] [(.int i)])) (fun _ q => XS.iloadN X.here X.hx rfl (hb hby d1_35) rfl q) ?_
          refine Goes.by (g' := (mkF m 37 #[.val (.int i)] [(.int (4 : Int32)), (.int i)])) (fun _ q => XS.iconst X.here X.hx rfl (hb hby d1_36) q) ?_
          by_cases hB5 : i = (4 : Int32)
          · skip
            refine Goes.by (g' := (mkF m 40 #[.val (.int i)] [])) (fun _ q => XS.icmpNo X.here X.hx rfl (hb hby d1_37) rfl (teq hB5).2 q) ?_
            refine X.getS (Or.inl (hw _ (List.mem_of_getElem? (i := 51) rfl))) (host := "") Via.refl S_CURRENT_TIME (hb hby d1_40) (fun T X => ?_)
            show Goes _ _ _ _ _ _ _ _ T (mkF m 43 #[.val (.int i)] [(.ref a_CURRENT_TIME)])
            exact X.retA hret rfl rfl (hb hby d1_43) (by decide) (by decide) ⟨by simp [selF, hB1, hB2, hB3, hB4, hB5], rfl⟩
          · skip
            refine Goes.by (g' := (mkF m 44 #[.val (.int i)] [])) (fun _ q => XS.icmpYes X.here X.hx rfl (pc0 := 37) (pc' := 44) rfl (hb hby d1_37) rfl (feq hB5).2 (by decide) (by decide) q) ?_
            refine Goes.by (g' := (mkF m 45 #[.val (.int i)] [(.int i)])) (fun _ q => XS.iloadN X.here X.hx rfl (hb hby d1_44) rfl q) ?_
            refine Goes.by (g' := (mkF m 46 #[.val (.int i)] [(.int (5 : Int32)), (.int i)])) (fun _ q => XS.iconst X.here X.hx rfl (hb hby d1_45) q) ?_
            by_cases hB6 : i = (5 : Int32)
            · skip
              refine Goes.by (g' := (mkF m 49 #[.val (.int i)] [])) (fun _ q => XS.icmpNo X.here X.hx rfl (hb hby d1_46) rfl (teq hB6).2 q) ?_
              refine X.getS (Or.inl (hw _ (List.mem_of_getElem? (i := 41) rfl))) (host := "") Via.refl S_CURRENT_TIMESTAMP (hb hby d1_49) (fun T X => ?_)
              show Goes _ _ _ _ _ _ _ _ T (mkF m 52 #[.val (.int i)] [(.ref a_CURRENT_TIMESTAMP)])
              exact X.retA hret rfl rfl (hb hby d1_52) (by decide) (by decide) ⟨by simp [selF, hB1, hB2, hB3, hB4, hB5, hB6], rfl⟩
            · skip
              refine Goes.by (g' := (mkF m 53 #[.val (.int i)] [])) (fun _ q => XS.icmpYes X.here X.hx rfl (pc0 := 46) (pc' := 53) rfl (hb hby d1_46) rfl (feq hB6).2 (by decide) (by decide) q) ?_
              refine Goes.by (g' := (mkF m 54 #[.val (.int i)] [(.int i)])) (fun _ q => XS.iloadN X.here X.hx rfl (hb hby d1_53) rfl q) ?_
              refine Goes.by (g' := (mkF m 56 #[.val (.int i)] [(.int (6 : Int32)), (.int i)])) (fun _ q => XS.bipush X.here X.hx rfl (hb hby d1_54) q) ?_
              by_cases hB7 : i = (6 : Int32)
              · skip
                refine Goes.by (g' := (mkF m 59 #[.val (.int i)] [])) (fun _ q => XS.icmpNo X.here X.hx rfl (hb hby d1_56) rfl (teq hB7).2 q) ?_
                refine X.getS (Or.inl (hw _ (List.mem_of_getElem? (i := 31) rfl))) (host := "") Via.refl S_FUNCTION (hb hby d1_59) (fun T X => ?_)
                show Goes _ _ _ _ _ _ _ _ T (mkF m 62 #[.val (.int i)] [(.ref a_FUNCTION)])
                exact X.retA hret rfl rfl (hb hby d1_62) (by decide) (by decide) ⟨by simp [selF, hB1, hB2, hB3, hB4, hB5, hB6, hB7], rfl⟩
              · skip
                refine Goes.by (g' := (mkF m 63 #[.val (.int i)] [])) (fun _ q => XS.icmpYes X.here X.hx rfl (pc0 := 56) (pc' := 63) rfl (hb hby d1_56) rfl (feq hB7).2 (by decide) (by decide) q) ?_
                refine Goes.by (g' := (mkF m 64 #[.val (.int i)] [(.int i)])) (fun _ q => XS.iloadN X.here X.hx rfl (hb hby d1_63) rfl q) ?_
                refine Goes.by (g' := (mkF m 66 #[.val (.int i)] [(.int (7 : Int32)), (.int i)])) (fun _ q => XS.bipush X.here X.hx rfl (hb hby d1_64) q) ?_
                by_cases hB8 : i = (7 : Int32)
                · skip
                  refine Goes.by (g' := (mkF m 69 #[.val (.int i)] [])) (fun _ q => XS.icmpNo X.here X.hx rfl (hb hby d1_66) rfl (teq hB8).2 q) ?_
                  refine X.getS (Or.inl (hw _ (List.mem_of_getElem? (i := 33) rfl))) (host := "") Via.refl S_LENGTH (hb hby d1_69) (fun T X => ?_)
                  show Goes _ _ _ _ _ _ _ _ T (mkF m 72 #[.val (.int i)] [(.ref a_LENGTH)])
                  exact X.retA hret rfl rfl (hb hby d1_72) (by decide) (by decide) ⟨by simp [selF, hB1, hB2, hB3, hB4, hB5, hB6, hB7, hB8], rfl⟩
                · skip
                  refine Goes.by (g' := (mkF m 73 #[.val (.int i)] [])) (fun _ q => XS.icmpYes X.here X.hx rfl (pc0 := 66) (pc' := 73) rfl (hb hby d1_66) rfl (feq hB8).2 (by decide) (by decide) q) ?_
                  refine Goes.by (g' := (mkF m 74 #[.val (.int i)] [(.int i)])) (fun _ q => XS.iloadN X.here X.hx rfl (hb hby d1_73) rfl q) ?_
                  refine Goes.by (g' := (mkF m 76 #[.val (.int i)] [(.int (8 : Int32)), (.int i)])) (fun _ q => XS.bipush X.here X.hx rfl (hb hby d1_74) q) ?_
                  by_cases hB9 : i = (8 : Int32)
                  · skip
                    refine Goes.by (g' := (mkF m 79 #[.val (.int i)] [])) (fun _ q => XS.icmpNo X.here X.hx rfl (hb hby d1_76) rfl (teq hB9).2 q) ?_
                    refine X.getS (Or.inl (hw _ (List.mem_of_getElem? (i := 27) rfl))) (host := "") Via.refl S_LOCATE (hb hby d1_79) (fun T X => ?_)
                    show Goes _ _ _ _ _ _ _ _ T (mkF m 82 #[.val (.int i)] [(.ref a_LOCATE)])
                    exact X.retA hret rfl rfl (hb hby d1_82) (by decide) (by decide) ⟨by simp [selF, hB1, hB2, hB3, hB4, hB5, hB6, hB7, hB8, hB9], rfl⟩
                  · skip
                    refine Goes.by (g' := (mkF m 83 #[.val (.int i)] [])) (fun _ q => XS.icmpYes X.here X.hx rfl (pc0 := 76) (pc' := 83) rfl (hb hby d1_76) rfl (feq hB9).2 (by decide) (by decide) q) ?_
                    refine Goes.by (g' := (mkF m 84 #[.val (.int i)] [(.int i)])) (fun _ q => XS.iloadN X.here X.hx rfl (hb hby d1_83) rfl q) ?_
                    refine Goes.by (g' := (mkF m 86 #[.val (.int i)] [(.int (9 : Int32)), (.int i)])) (fun _ q => XS.bipush X.here X.hx rfl (hb hby d1_84) q) ?_
                    by_cases hB10 : i = (9 : Int32)
                    · skip
                      refine Goes.by (g' := (mkF m 89 #[.val (.int i)] [])) (fun _ q => XS.icmpNo X.here X.hx rfl (hb hby d1_86) rfl (teq hB10).2 q) ?_
                      refine X.getS (Or.inl (hw _ (List.mem_of_getElem? (i := 49) rfl))) (host := "") Via.refl S_LOWER (hb hby d1_89) (fun T X => ?_)
                      show Goes _ _ _ _ _ _ _ _ T (mkF m 92 #[.val (.int i)] [(.ref a_LOWER)])
                      exact X.retA hret rfl rfl (hb hby d1_92) (by decide) (by decide) ⟨by simp [selF, hB1, hB2, hB3, hB4, hB5, hB6, hB7, hB8, hB9, hB10], rfl⟩
                    · skip
                      refine Goes.by (g' := (mkF m 93 #[.val (.int i)] [])) (fun _ q => XS.icmpYes X.here X.hx rfl (pc0 := 86) (pc' := 93) rfl (hb hby d1_86) rfl (feq hB10).2 (by decide) (by decide) q) ?_
                      refine Goes.by (g' := (mkF m 94 #[.val (.int i)] [(.int i)])) (fun _ q => XS.iloadN X.here X.hx rfl (hb hby d1_93) rfl q) ?_
                      refine Goes.by (g' := (mkF m 96 #[.val (.int i)] [(.int (10 : Int32)), (.int i)])) (fun _ q => XS.bipush X.here X.hx rfl (hb hby d1_94) q) ?_
                      by_cases hB11 : i = (10 : Int32)
                      · skip
                        refine Goes.by (g' := (mkF m 99 #[.val (.int i)] [])) (fun _ q => XS.icmpNo X.here X.hx rfl (hb hby d1_96) rfl (teq hB11).2 q) ?_
                        refine X.getS (Or.inl (hw _ (List.mem_of_getElem? (i := 45) rfl))) (host := "") Via.refl S_MOD (hb hby d1_99) (fun T X => ?_)
                        show Goes _ _ _ _ _ _ _ _ T (mkF m 102 #[.val (.int i)] [(.ref a_MOD)])
                        exact X.retA hret rfl rfl (hb hby d1_102) (by decide) (by decide) ⟨by simp [selF, hB1, hB2, hB3, hB4, hB5, hB6, hB7, hB8, hB9, hB10, hB11], rfl⟩
                      · skip
                        refine Goes.by (g' := (mkF m 103 #[.val (.int i)] [])) (fun _ q => XS.icmpYes X.here X.hx rfl (pc0 := 96) (pc' := 103) rfl (hb hby d1_96) rfl (feq hB11).2 (by decide) (by decide) q) ?_
                        refine Goes.by (g' := (mkF m 104 #[.val (.int i)] [(.int i)])) (fun _ q => XS.iloadN X.here X.hx rfl (hb hby d1_103) rfl q) ?_
                        refine Goes.by (g' := (mkF m 106 #[.val (.int i)] [(.int (11 : Int32)), (.int i)])) (fun _ q => XS.bipush X.here X.hx rfl (hb hby d1_104) q) ?_
                        by_cases hB12 : i = (11 : Int32)
                        · skip
                          refine Goes.by (g' := (mkF m 109 #[.val (.int i)] [])) (fun _ q => XS.icmpNo X.here X.hx rfl (hb hby d1_106) rfl (teq hB12).2 q) ?_
                          refine X.getS (Or.inl (hw _ (List.mem_of_getElem? (i := 47) rfl))) (host := "") Via.refl S_NULLIF (hb hby d1_109) (fun T X => ?_)
                          show Goes _ _ _ _ _ _ _ _ T (mkF m 112 #[.val (.int i)] [(.ref a_NULLIF)])
                          exact X.retA hret rfl rfl (hb hby d1_112) (by decide) (by decide) ⟨by simp [selF, hB1, hB2, hB3, hB4, hB5, hB6, hB7, hB8, hB9, hB10, hB11, hB12], rfl⟩
                        · skip
                          refine Goes.by (g' := (mkF m 113 #[.val (.int i)] [])) (fun _ q => XS.icmpYes X.here X.hx rfl (pc0 := 106) (pc' := 113) rfl (hb hby d1_106) rfl (feq hB12).2 (by decide) (by decide) q) ?_
                          refine Goes.by (g' := (mkF m 114 #[.val (.int i)] [(.int i)])) (fun _ q => XS.iloadN X.here X.hx rfl (hb hby d1_113) rfl q) ?_
                          refine Goes.by (g' := (mkF m 116 #[.val (.int i)] [(.int (12 : Int32)), (.int i)])) (fun _ q => XS.bipush X.here X.hx rfl (hb hby d1_114) q) ?_
                          by_cases hB13 : i = (12 : Int32)
                          · skip
                            refine Goes.by (g' := (mkF m 119 #[.val (.int i)] [])) (fun _ q => XS.icmpNo X.here X.hx rfl (hb hby d1_116) rfl (teq hB13).2 q) ?_
                            refine X.getS (Or.inl (hw _ (List.mem_of_getElem? (i := 25) rfl))) (host := "") Via.refl S_SIZE (hb hby d1_119) (fun T X => ?_)
                            show Goes _ _ _ _ _ _ _ _ T (mkF m 122 #[.val (.int i)] [(.ref a_SIZE)])
                            exact X.retA hret rfl rfl (hb hby d1_122) (by decide) (by decide) ⟨by simp [selF, hB1, hB2, hB3, hB4, hB5, hB6, hB7, hB8, hB9, hB10, hB11, hB12, hB13], rfl⟩
                          · skip
                            refine Goes.by (g' := (mkF m 123 #[.val (.int i)] [])) (fun _ q => XS.icmpYes X.here X.hx rfl (pc0 := 116) (pc' := 123) rfl (hb hby d1_116) rfl (feq hB13).2 (by decide) (by decide) q) ?_
                            refine Goes.by (g' := (mkF m 124 #[.val (.int i)] [(.int i)])) (fun _ q => XS.iloadN X.here X.hx rfl (hb hby d1_123) rfl q) ?_
                            refine Goes.by (g' := (mkF m 126 #[.val (.int i)] [(.int (13 : Int32)), (.int i)])) (fun _ q => XS.bipush X.here X.hx rfl (hb hby d1_124) q) ?_
                            by_cases hB14 : i = (13 : Int32)
                            · skip
                              refine Goes.by (g' := (mkF m 129 #[.val (.int i)] [])) (fun _ q => XS.icmpNo X.here X.hx rfl (hb hby d1_126) rfl (teq hB14).2 q) ?_
                              refine X.getS (Or.inl (hw _ (List.mem_of_getElem? (i := 29) rfl))) (host := "") Via.refl S_SQRT (hb hby d1_129) (fun T X => ?_)
                              show Goes _ _ _ _ _ _ _ _ T (mkF m 132 #[.val (.int i)] [(.ref a_SQRT)])
                              exact X.retA hret rfl rfl (hb hby d1_132) (by decide) (by decide) ⟨by simp [selF, hB1, hB2, hB3, hB4, hB5, hB6, hB7, hB8, hB9, hB10, hB11, hB12, hB13, hB14], rfl⟩
                            · skip
                              refine Goes.by (g' := (mkF m 133 #[.val (.int i)] [])) (fun _ q => XS.icmpYes X.here X.hx rfl (pc0 := 126) (pc' := 133) rfl (hb hby d1_126) rfl (feq hB14).2 (by decide) (by decide) q) ?_
                              refine Goes.by (g' := (mkF m 134 #[.val (.int i)] [(.int i)])) (fun _ q => XS.iloadN X.here X.hx rfl (hb hby d1_133) rfl q) ?_
                              refine Goes.by (g' := (mkF m 136 #[.val (.int i)] [(.int (14 : Int32)), (.int i)])) (fun _ q => XS.bipush X.here X.hx rfl (hb hby d1_134) q) ?_
                              by_cases hB15 : i = (14 : Int32)
                              · skip
                                refine Goes.by (g' := (mkF m 139 #[.val (.int i)] [])) (fun _ q => XS.icmpNo X.here X.hx rfl (hb hby d1_136) rfl (teq hB15).2 q) ?_
                                refine X.getS (Or.inl (hw _ (List.mem_of_getElem? (i := 23) rfl))) (host := "") Via.refl S_SUBSTRING (hb hby d1_139) (fun T X => ?_)
                                show Goes _ _ _ _ _ _ _ _ T (mkF m 142 #[.val (.int i)] [(.ref a_SUBSTRING)])
                                exact X.retA hret rfl rfl (hb hby d1_142) (by decide) (by decide) ⟨by simp [selF, hB1, hB2, hB3, hB4, hB5, hB6, hB7, hB8, hB9, hB10, hB11, hB12, hB13, hB14, hB15], rfl⟩
                              · skip
                                refine Goes.by (g' := (mkF m 143 #[.val (.int i)] [])) (fun _ q => XS.icmpYes X.here X.hx rfl (pc0 := 136) (pc' := 143) rfl (hb hby d1_136) rfl (feq hB15).2 (by decide) (by decide) q) ?_
                                refine X.getS (Or.inl (hw _ (List.mem_of_getElem? (i := 37) rfl))) (host := "") Via.refl S_UPPER (hb hby d1_143) (fun T X => ?_)
                                show Goes _ _ _ _ _ _ _ _ T (mkF m 146 #[.val (.int i)] [(.ref a_UPPER)])
                                exact X.retA hret rfl rfl (hb hby d1_146) (by decide) (by decide) ⟨by simp [selF, hB1, hB2, hB3, hB4, hB5, hB6, hB7, hB8, hB9, hB10, hB11, hB12, hB13, hB14, hB15], rfl⟩
set_option maxRecDepth 65536 in
set_option maxHeartbeats 40000000 in
theorem rm2 (l : Launch) (Z : State) (a0 : Array Value) (hw : ∀ d ∈ tables_1, d.before a0 Z = true) (n0 : Nat) (h0 : Heap) (hn0 : n0 ≤ h0.size) (i : Int32) :
    Met l Z n0 (⟨"com/example/objects_to_rows/objectstorows/query/FunctionTakesPinLaw", "fewest", "(I)I"⟩ : MethodName) method_4_code 1 (Option.some .int) ({ frames := 0, cells := 0, slots := 0, locals := 0 } : Room) #[(.int i)] h0 (fun (v : Option Value) (h' : Heap) => v = some (.int (fewF i)) ∧ h' = h0) := by
  refine metW (Q := fun (v : Option Value) (h' : Heap) => v = some (.int (fewF i)) ∧ h' = h0) pf_2 hn0 ?_
  intro p e s m below meth c T X hby hml hret hnm
  refine Goes.by (g' := (mkF m 0 #[.val (.int i)] [])) (fun _ q => castTop (by first | rfl | (simp [entryFrame, mkF, argsToLocals, Value.category]; done)) q) ?_
  refine Goes.by (g' := (mkF m 1 #[.val (.int i)] [(.int i)])) (fun _ q => XS.iloadN X.here X.hx rfl (hb hby d2_0) rfl q) ?_
  refine Goes.by (g' := (mkF m 2 #[.val (.int i)] [(.int (3 : Int32)), (.int i)])) (fun _ q => XS.iconst X.here X.hx rfl (hb hby d2_1) q) ?_
  by_cases hB16 : i = (3 : Int32)
  · skip
    refine Goes.by (g' := (mkF m 15 #[.val (.int i)] [])) (fun _ q => XS.icmpYes X.here X.hx rfl (pc0 := 2) (pc' := 15) rfl (hb hby d2_2) rfl (teq hB16).1 (by decide) (by decide) q) ?_
    refine Goes.by (g' := (mkF m 16 #[.val (.int i)] [(.int (0 : Int32))])) (fun _ q => XS.iconst X.here X.hx rfl (hb hby d2_15) q) ?_
    exact X.retI hret (hb hby d2_16) (by decide) (by decide) ⟨by simp [fewF, hB16], rfl⟩
  · skip
    refine Goes.by (g' := (mkF m 5 #[.val (.int i)] [])) (fun _ q => XS.icmpNo X.here X.hx rfl (hb hby d2_2) rfl (feq hB16).1 q) ?_
    refine Goes.by (g' := (mkF m 6 #[.val (.int i)] [(.int i)])) (fun _ q => XS.iloadN X.here X.hx rfl (hb hby d2_5) rfl q) ?_
    refine Goes.by (g' := (mkF m 7 #[.val (.int i)] [(.int (4 : Int32)), (.int i)])) (fun _ q => XS.iconst X.here X.hx rfl (hb hby d2_6) q) ?_
    by_cases hB17 : i = (4 : Int32)
    · skip
      refine Goes.by (g' := (mkF m 15 #[.val (.int i)] [])) (fun _ q => XS.icmpYes X.here X.hx rfl (pc0 := 7) (pc' := 15) rfl (hb hby d2_7) rfl (teq hB17).1 (by decide) (by decide) q) ?_
      refine Goes.by (g' := (mkF m 16 #[.val (.int i)] [(.int (0 : Int32))])) (fun _ q => XS.iconst X.here X.hx rfl (hb hby d2_15) q) ?_
      exact X.retI hret (hb hby d2_16) (by decide) (by decide) ⟨by simp [fewF, hB16, hB17], rfl⟩
    · skip
      refine Goes.by (g' := (mkF m 10 #[.val (.int i)] [])) (fun _ q => XS.icmpNo X.here X.hx rfl (hb hby d2_7) rfl (feq hB17).1 q) ?_
      refine Goes.by (g' := (mkF m 11 #[.val (.int i)] [(.int i)])) (fun _ q => XS.iloadN X.here X.hx rfl (hb hby d2_10) rfl q) ?_
      refine Goes.by (g' := (mkF m 12 #[.val (.int i)] [(.int (5 : Int32)), (.int i)])) (fun _ q => XS.iconst X.here X.hx rfl (hb hby d2_11) q) ?_
      by_cases hB18 : i = (5 : Int32)
      · skip
        refine Goes.by (g' := (mkF m 15 #[.val (.int i)] [])) (fun _ q => XS.icmpNo X.here X.hx rfl (hb hby d2_12) rfl (teq hB18).2 q) ?_
        refine Goes.by (g' := (mkF m 16 #[.val (.int i)] [(.int (0 : Int32))])) (fun _ q => XS.iconst X.here X.hx rfl (hb hby d2_15) q) ?_
        exact X.retI hret (hb hby d2_16) (by decide) (by decide) ⟨by simp [fewF, hB16, hB17, hB18], rfl⟩
      · skip
        refine Goes.by (g' := (mkF m 17 #[.val (.int i)] [])) (fun _ q => XS.icmpYes X.here X.hx rfl (pc0 := 12) (pc' := 17) rfl (hb hby d2_12) rfl (feq hB18).2 (by decide) (by decide) q) ?_
        refine Goes.by (g' := (mkF m 18 #[.val (.int i)] [(.int i)])) (fun _ q => XS.iloadN X.here X.hx rfl (hb hby d2_17) rfl q) ?_
        refine Goes.by (g' := (mkF m 19 #[.val (.int i)] [(.int (1 : Int32)), (.int i)])) (fun _ q => XS.iconst X.here X.hx rfl (hb hby d2_18) q) ?_
        by_cases hB19 : i = (1 : Int32)
        · skip
          refine Goes.by (g' := (mkF m 51 #[.val (.int i)] [])) (fun _ q => XS.icmpYes X.here X.hx rfl (pc0 := 19) (pc' := 51) rfl (hb hby d2_19) rfl (teq hB19).1 (by decide) (by decide) q) ?_
          refine Goes.by (g' := (mkF m 52 #[.val (.int i)] [(.int (2 : Int32))])) (fun _ q => XS.iconst X.here X.hx rfl (hb hby d2_51) q) ?_
          exact X.retI hret (hb hby d2_52) (by decide) (by decide) ⟨by simp [fewF, hB16, hB17, hB18, hB19], rfl⟩
        · skip
          refine Goes.by (g' := (mkF m 22 #[.val (.int i)] [])) (fun _ q => XS.icmpNo X.here X.hx rfl (hb hby d2_19) rfl (feq hB19).1 q) ?_
          refine Goes.by (g' := (mkF m 23 #[.val (.int i)] [(.int i)])) (fun _ q => XS.iloadN X.here X.hx rfl (hb hby d2_22) rfl q) ?_
          refine Goes.by (g' := (mkF m 24 #[.val (.int i)] [(.int (2 : Int32)), (.int i)])) (fun _ q => XS.iconst X.here X.hx rfl (hb hby d2_23) q) ?_
          by_cases hB20 : i = (2 : Int32)
          · skip
            refine Goes.by (g' := (mkF m 51 #[.val (.int i)] [])) (fun _ q => XS.icmpYes X.here X.hx rfl (pc0 := 24) (pc' := 51) rfl (hb hby d2_24) rfl (teq hB20).1 (by decide) (by decide) q) ?_
            refine Goes.by (g' := (mkF m 52 #[.val (.int i)] [(.int (2 : Int32))])) (fun _ q => XS.iconst X.here X.hx rfl (hb hby d2_51) q) ?_
            exact X.retI hret (hb hby d2_52) (by decide) (by decide) ⟨by simp [fewF, hB16, hB17, hB18, hB19, hB20], rfl⟩
          · skip
            refine Goes.by (g' := (mkF m 27 #[.val (.int i)] [])) (fun _ q => XS.icmpNo X.here X.hx rfl (hb hby d2_24) rfl (feq hB20).1 q) ?_
            refine Goes.by (g' := (mkF m 28 #[.val (.int i)] [(.int i)])) (fun _ q => XS.iloadN X.here X.hx rfl (hb hby d2_27) rfl q) ?_
            refine Goes.by (g' := (mkF m 30 #[.val (.int i)] [(.int (8 : Int32)), (.int i)])) (fun _ q => XS.bipush X.here X.hx rfl (hb hby d2_28) q) ?_
            by_cases hB21 : i = (8 : Int32)
            · skip
              refine Goes.by (g' := (mkF m 51 #[.val (.int i)] [])) (fun _ q => XS.icmpYes X.here X.hx rfl (pc0 := 30) (pc' := 51) rfl (hb hby d2_30) rfl (teq hB21).1 (by decide) (by decide) q) ?_
              refine Goes.by (g' := (mkF m 52 #[.val (.int i)] [(.int (2 : Int32))])) (fun _ q => XS.iconst X.here X.hx rfl (hb hby d2_51) q) ?_
              exact X.retI hret (hb hby d2_52) (by decide) (by decide) ⟨by simp [fewF, hB16, hB17, hB18, hB19, hB20, hB21], rfl⟩
            · skip
              refine Goes.by (g' := (mkF m 33 #[.val (.int i)] [])) (fun _ q => XS.icmpNo X.here X.hx rfl (hb hby d2_30) rfl (feq hB21).1 q) ?_
              refine Goes.by (g' := (mkF m 34 #[.val (.int i)] [(.int i)])) (fun _ q => XS.iloadN X.here X.hx rfl (hb hby d2_33) rfl q) ?_
              refine Goes.by (g' := (mkF m 36 #[.val (.int i)] [(.int (10 : Int32)), (.int i)])) (fun _ q => XS.bipush X.here X.hx rfl (hb hby d2_34) q) ?_
              by_cases hB22 : i = (10 : Int32)
              · skip
                refine Goes.by (g' := (mkF m 51 #[.val (.int i)] [])) (fun _ q => XS.icmpYes X.here X.hx rfl (pc0 := 36) (pc' := 51) rfl (hb hby d2_36) rfl (teq hB22).1 (by decide) (by decide) q) ?_
                refine Goes.by (g' := (mkF m 52 #[.val (.int i)] [(.int (2 : Int32))])) (fun _ q => XS.iconst X.here X.hx rfl (hb hby d2_51) q) ?_
                exact X.retI hret (hb hby d2_52) (by decide) (by decide) ⟨by simp [fewF, hB16, hB17, hB18, hB19, hB20, hB21, hB22], rfl⟩
              · skip
                refine Goes.by (g' := (mkF m 39 #[.val (.int i)] [])) (fun _ q => XS.icmpNo X.here X.hx rfl (hb hby d2_36) rfl (feq hB22).1 q) ?_
                refine Goes.by (g' := (mkF m 40 #[.val (.int i)] [(.int i)])) (fun _ q => XS.iloadN X.here X.hx rfl (hb hby d2_39) rfl q) ?_
                refine Goes.by (g' := (mkF m 42 #[.val (.int i)] [(.int (11 : Int32)), (.int i)])) (fun _ q => XS.bipush X.here X.hx rfl (hb hby d2_40) q) ?_
                by_cases hB23 : i = (11 : Int32)
                · skip
                  refine Goes.by (g' := (mkF m 51 #[.val (.int i)] [])) (fun _ q => XS.icmpYes X.here X.hx rfl (pc0 := 42) (pc' := 51) rfl (hb hby d2_42) rfl (teq hB23).1 (by decide) (by decide) q) ?_
                  refine Goes.by (g' := (mkF m 52 #[.val (.int i)] [(.int (2 : Int32))])) (fun _ q => XS.iconst X.here X.hx rfl (hb hby d2_51) q) ?_
                  exact X.retI hret (hb hby d2_52) (by decide) (by decide) ⟨by simp [fewF, hB16, hB17, hB18, hB19, hB20, hB21, hB22, hB23], rfl⟩
                · skip
                  refine Goes.by (g' := (mkF m 45 #[.val (.int i)] [])) (fun _ q => XS.icmpNo X.here X.hx rfl (hb hby d2_42) rfl (feq hB23).1 q) ?_
                  refine Goes.by (g' := (mkF m 46 #[.val (.int i)] [(.int i)])) (fun _ q => XS.iloadN X.here X.hx rfl (hb hby d2_45) rfl q) ?_
                  refine Goes.by (g' := (mkF m 48 #[.val (.int i)] [(.int (14 : Int32)), (.int i)])) (fun _ q => XS.bipush X.here X.hx rfl (hb hby d2_46) q) ?_
                  by_cases hB24 : i = (14 : Int32)
                  · skip
                    refine Goes.by (g' := (mkF m 51 #[.val (.int i)] [])) (fun _ q => XS.icmpNo X.here X.hx rfl (hb hby d2_48) rfl (teq hB24).2 q) ?_
                    refine Goes.by (g' := (mkF m 52 #[.val (.int i)] [(.int (2 : Int32))])) (fun _ q => XS.iconst X.here X.hx rfl (hb hby d2_51) q) ?_
                    exact X.retI hret (hb hby d2_52) (by decide) (by decide) ⟨by simp [fewF, hB16, hB17, hB18, hB19, hB20, hB21, hB22, hB23, hB24], rfl⟩
                  · skip
                    refine Goes.by (g' := (mkF m 53 #[.val (.int i)] [])) (fun _ q => XS.icmpYes X.here X.hx rfl (pc0 := 48) (pc' := 53) rfl (hb hby d2_48) rfl (feq hB24).2 (by decide) (by decide) q) ?_
                    refine Goes.by (g' := (mkF m 54 #[.val (.int i)] [(.int (1 : Int32))])) (fun _ q => XS.iconst X.here X.hx rfl (hb hby d2_53) q) ?_
                    exact X.retI hret (hb hby d2_54) (by decide) (by decide) ⟨by simp [fewF, hB16, hB17, hB18, hB19, hB20, hB21, hB22, hB23, hB24], rfl⟩
set_option maxRecDepth 65536 in
set_option maxHeartbeats 40000000 in
theorem rm3 (l : Launch) (Z : State) (a0 : Array Value) (hw : ∀ d ∈ tables_1, d.before a0 Z = true) (n0 : Nat) (h0 : Heap) (hn0 : n0 ≤ h0.size) (i : Int32) :
    Met l Z n0 (⟨"com/example/objects_to_rows/objectstorows/query/FunctionTakesPinLaw", "most", "(I)I"⟩ : MethodName) method_5_code 1 (Option.some .int) ({ frames := 0, cells := 0, slots := 0, locals := 0 } : Room) #[(.int i)] h0 (fun (v : Option Value) (h' : Heap) => v = some (.int (mostF i)) ∧ h' = h0) := by
  refine metW (Q := fun (v : Option Value) (h' : Heap) => v = some (.int (mostF i)) ∧ h' = h0) pf_3 hn0 ?_
  intro p e s m below meth c T X hby hml hret hnm
  refine Goes.by (g' := (mkF m 0 #[.val (.int i)] [])) (fun _ q => castTop (by first | rfl | (simp [entryFrame, mkF, argsToLocals, Value.category]; done)) q) ?_
  refine Goes.by (g' := (mkF m 1 #[.val (.int i)] [(.int i)])) (fun _ q => XS.iloadN X.here X.hx rfl (hb hby d3_0) rfl q) ?_
  refine Goes.by (g' := (mkF m 2 #[.val (.int i)] [(.int (3 : Int32)), (.int i)])) (fun _ q => XS.iconst X.here X.hx rfl (hb hby d3_1) q) ?_
  by_cases hB25 : i = (3 : Int32)
  · skip
    refine Goes.by (g' := (mkF m 15 #[.val (.int i)] [])) (fun _ q => XS.icmpYes X.here X.hx rfl (pc0 := 2) (pc' := 15) rfl (hb hby d3_2) rfl (teq hB25).1 (by decide) (by decide) q) ?_
    refine Goes.by (g' := (mkF m 16 #[.val (.int i)] [(.int (0 : Int32))])) (fun _ q => XS.iconst X.here X.hx rfl (hb hby d3_15) q) ?_
    exact X.retI hret (hb hby d3_16) (by decide) (by decide) ⟨by simp [mostF, hB25], rfl⟩
  · skip
    refine Goes.by (g' := (mkF m 5 #[.val (.int i)] [])) (fun _ q => XS.icmpNo X.here X.hx rfl (hb hby d3_2) rfl (feq hB25).1 q) ?_
    refine Goes.by (g' := (mkF m 6 #[.val (.int i)] [(.int i)])) (fun _ q => XS.iloadN X.here X.hx rfl (hb hby d3_5) rfl q) ?_
    refine Goes.by (g' := (mkF m 7 #[.val (.int i)] [(.int (4 : Int32)), (.int i)])) (fun _ q => XS.iconst X.here X.hx rfl (hb hby d3_6) q) ?_
    by_cases hB26 : i = (4 : Int32)
    · skip
      refine Goes.by (g' := (mkF m 15 #[.val (.int i)] [])) (fun _ q => XS.icmpYes X.here X.hx rfl (pc0 := 7) (pc' := 15) rfl (hb hby d3_7) rfl (teq hB26).1 (by decide) (by decide) q) ?_
      refine Goes.by (g' := (mkF m 16 #[.val (.int i)] [(.int (0 : Int32))])) (fun _ q => XS.iconst X.here X.hx rfl (hb hby d3_15) q) ?_
      exact X.retI hret (hb hby d3_16) (by decide) (by decide) ⟨by simp [mostF, hB25, hB26], rfl⟩
    · skip
      refine Goes.by (g' := (mkF m 10 #[.val (.int i)] [])) (fun _ q => XS.icmpNo X.here X.hx rfl (hb hby d3_7) rfl (feq hB26).1 q) ?_
      refine Goes.by (g' := (mkF m 11 #[.val (.int i)] [(.int i)])) (fun _ q => XS.iloadN X.here X.hx rfl (hb hby d3_10) rfl q) ?_
      refine Goes.by (g' := (mkF m 12 #[.val (.int i)] [(.int (5 : Int32)), (.int i)])) (fun _ q => XS.iconst X.here X.hx rfl (hb hby d3_11) q) ?_
      by_cases hB27 : i = (5 : Int32)
      · skip
        refine Goes.by (g' := (mkF m 15 #[.val (.int i)] [])) (fun _ q => XS.icmpNo X.here X.hx rfl (hb hby d3_12) rfl (teq hB27).2 q) ?_
        refine Goes.by (g' := (mkF m 16 #[.val (.int i)] [(.int (0 : Int32))])) (fun _ q => XS.iconst X.here X.hx rfl (hb hby d3_15) q) ?_
        exact X.retI hret (hb hby d3_16) (by decide) (by decide) ⟨by simp [mostF, hB25, hB26, hB27], rfl⟩
      · skip
        refine Goes.by (g' := (mkF m 17 #[.val (.int i)] [])) (fun _ q => XS.icmpYes X.here X.hx rfl (pc0 := 12) (pc' := 17) rfl (hb hby d3_12) rfl (feq hB27).2 (by decide) (by decide) q) ?_
        refine Goes.by (g' := (mkF m 18 #[.val (.int i)] [(.int i)])) (fun _ q => XS.iloadN X.here X.hx rfl (hb hby d3_17) rfl q) ?_
        refine Goes.by (g' := (mkF m 19 #[.val (.int i)] [(.int (1 : Int32)), (.int i)])) (fun _ q => XS.iconst X.here X.hx rfl (hb hby d3_18) q) ?_
        by_cases hB28 : i = (1 : Int32)
        · skip
          refine Goes.by (g' := (mkF m 33 #[.val (.int i)] [])) (fun _ q => XS.icmpYes X.here X.hx rfl (pc0 := 19) (pc' := 33) rfl (hb hby d3_19) rfl (teq hB28).1 (by decide) (by decide) q) ?_
          refine X.ldcI (hw _ (List.mem_of_getElem? (i := 0) rfl)) (hb hby d3_33) ?_
          show Goes _ _ _ _ _ _ _ _ T (mkF m 35 #[.val (.int i)] [(.int (2147483647 : Int32))])
          exact X.retI hret (hb hby d3_35) (by decide) (by decide) ⟨by simp [mostF, hB25, hB26, hB27, hB28], rfl⟩
        · skip
          refine Goes.by (g' := (mkF m 22 #[.val (.int i)] [])) (fun _ q => XS.icmpNo X.here X.hx rfl (hb hby d3_19) rfl (feq hB28).1 q) ?_
          refine Goes.by (g' := (mkF m 23 #[.val (.int i)] [(.int i)])) (fun _ q => XS.iloadN X.here X.hx rfl (hb hby d3_22) rfl q) ?_
          refine Goes.by (g' := (mkF m 24 #[.val (.int i)] [(.int (2 : Int32)), (.int i)])) (fun _ q => XS.iconst X.here X.hx rfl (hb hby d3_23) q) ?_
          by_cases hB29 : i = (2 : Int32)
          · skip
            refine Goes.by (g' := (mkF m 33 #[.val (.int i)] [])) (fun _ q => XS.icmpYes X.here X.hx rfl (pc0 := 24) (pc' := 33) rfl (hb hby d3_24) rfl (teq hB29).1 (by decide) (by decide) q) ?_
            refine X.ldcI (hw _ (List.mem_of_getElem? (i := 0) rfl)) (hb hby d3_33) ?_
            show Goes _ _ _ _ _ _ _ _ T (mkF m 35 #[.val (.int i)] [(.int (2147483647 : Int32))])
            exact X.retI hret (hb hby d3_35) (by decide) (by decide) ⟨by simp [mostF, hB25, hB26, hB27, hB28, hB29], rfl⟩
          · skip
            refine Goes.by (g' := (mkF m 27 #[.val (.int i)] [])) (fun _ q => XS.icmpNo X.here X.hx rfl (hb hby d3_24) rfl (feq hB29).1 q) ?_
            refine Goes.by (g' := (mkF m 28 #[.val (.int i)] [(.int i)])) (fun _ q => XS.iloadN X.here X.hx rfl (hb hby d3_27) rfl q) ?_
            refine Goes.by (g' := (mkF m 30 #[.val (.int i)] [(.int (6 : Int32)), (.int i)])) (fun _ q => XS.bipush X.here X.hx rfl (hb hby d3_28) q) ?_
            by_cases hB30 : i = (6 : Int32)
            · skip
              refine Goes.by (g' := (mkF m 33 #[.val (.int i)] [])) (fun _ q => XS.icmpNo X.here X.hx rfl (hb hby d3_30) rfl (teq hB30).2 q) ?_
              refine X.ldcI (hw _ (List.mem_of_getElem? (i := 0) rfl)) (hb hby d3_33) ?_
              show Goes _ _ _ _ _ _ _ _ T (mkF m 35 #[.val (.int i)] [(.int (2147483647 : Int32))])
              exact X.retI hret (hb hby d3_35) (by decide) (by decide) ⟨by simp [mostF, hB25, hB26, hB27, hB28, hB29, hB30], rfl⟩
            · skip
              refine Goes.by (g' := (mkF m 36 #[.val (.int i)] [])) (fun _ q => XS.icmpYes X.here X.hx rfl (pc0 := 30) (pc' := 36) rfl (hb hby d3_30) rfl (feq hB30).2 (by decide) (by decide) q) ?_
              refine Goes.by (g' := (mkF m 37 #[.val (.int i)] [(.int i)])) (fun _ q => XS.iloadN X.here X.hx rfl (hb hby d3_36) rfl q) ?_
              refine Goes.by (g' := (mkF m 39 #[.val (.int i)] [(.int (8 : Int32)), (.int i)])) (fun _ q => XS.bipush X.here X.hx rfl (hb hby d3_37) q) ?_
              by_cases hB31 : i = (8 : Int32)
              · skip
                refine Goes.by (g' := (mkF m 48 #[.val (.int i)] [])) (fun _ q => XS.icmpYes X.here X.hx rfl (pc0 := 39) (pc' := 48) rfl (hb hby d3_39) rfl (teq hB31).1 (by decide) (by decide) q) ?_
                refine Goes.by (g' := (mkF m 49 #[.val (.int i)] [(.int (3 : Int32))])) (fun _ q => XS.iconst X.here X.hx rfl (hb hby d3_48) q) ?_
                exact X.retI hret (hb hby d3_49) (by decide) (by decide) ⟨by simp [mostF, hB25, hB26, hB27, hB28, hB29, hB30, hB31], rfl⟩
              · skip
                refine Goes.by (g' := (mkF m 42 #[.val (.int i)] [])) (fun _ q => XS.icmpNo X.here X.hx rfl (hb hby d3_39) rfl (feq hB31).1 q) ?_
                refine Goes.by (g' := (mkF m 43 #[.val (.int i)] [(.int i)])) (fun _ q => XS.iloadN X.here X.hx rfl (hb hby d3_42) rfl q) ?_
                refine Goes.by (g' := (mkF m 45 #[.val (.int i)] [(.int (14 : Int32)), (.int i)])) (fun _ q => XS.bipush X.here X.hx rfl (hb hby d3_43) q) ?_
                by_cases hB32 : i = (14 : Int32)
                · skip
                  refine Goes.by (g' := (mkF m 48 #[.val (.int i)] [])) (fun _ q => XS.icmpNo X.here X.hx rfl (hb hby d3_45) rfl (teq hB32).2 q) ?_
                  refine Goes.by (g' := (mkF m 49 #[.val (.int i)] [(.int (3 : Int32))])) (fun _ q => XS.iconst X.here X.hx rfl (hb hby d3_48) q) ?_
                  exact X.retI hret (hb hby d3_49) (by decide) (by decide) ⟨by simp [mostF, hB25, hB26, hB27, hB28, hB29, hB30, hB31, hB32], rfl⟩
                · skip
                  refine Goes.by (g' := (mkF m 50 #[.val (.int i)] [])) (fun _ q => XS.icmpYes X.here X.hx rfl (pc0 := 45) (pc' := 50) rfl (hb hby d3_45) rfl (feq hB32).2 (by decide) (by decide) q) ?_
                  refine Goes.by (g' := (mkF m 51 #[.val (.int i)] [(.int i)])) (fun _ q => XS.iloadN X.here X.hx rfl (hb hby d3_50) rfl q) ?_
                  refine Goes.by (g' := (mkF m 53 #[.val (.int i)] [(.int (10 : Int32)), (.int i)])) (fun _ q => XS.bipush X.here X.hx rfl (hb hby d3_51) q) ?_
                  by_cases hB33 : i = (10 : Int32)
                  · skip
                    refine Goes.by (g' := (mkF m 62 #[.val (.int i)] [])) (fun _ q => XS.icmpYes X.here X.hx rfl (pc0 := 53) (pc' := 62) rfl (hb hby d3_53) rfl (teq hB33).1 (by decide) (by decide) q) ?_
                    refine Goes.by (g' := (mkF m 63 #[.val (.int i)] [(.int (2 : Int32))])) (fun _ q => XS.iconst X.here X.hx rfl (hb hby d3_62) q) ?_
                    exact X.retI hret (hb hby d3_63) (by decide) (by decide) ⟨by simp [mostF, hB25, hB26, hB27, hB28, hB29, hB30, hB31, hB32, hB33], rfl⟩
                  · skip
                    refine Goes.by (g' := (mkF m 56 #[.val (.int i)] [])) (fun _ q => XS.icmpNo X.here X.hx rfl (hb hby d3_53) rfl (feq hB33).1 q) ?_
                    refine Goes.by (g' := (mkF m 57 #[.val (.int i)] [(.int i)])) (fun _ q => XS.iloadN X.here X.hx rfl (hb hby d3_56) rfl q) ?_
                    refine Goes.by (g' := (mkF m 59 #[.val (.int i)] [(.int (11 : Int32)), (.int i)])) (fun _ q => XS.bipush X.here X.hx rfl (hb hby d3_57) q) ?_
                    by_cases hB34 : i = (11 : Int32)
                    · skip
                      refine Goes.by (g' := (mkF m 62 #[.val (.int i)] [])) (fun _ q => XS.icmpNo X.here X.hx rfl (hb hby d3_59) rfl (teq hB34).2 q) ?_
                      refine Goes.by (g' := (mkF m 63 #[.val (.int i)] [(.int (2 : Int32))])) (fun _ q => XS.iconst X.here X.hx rfl (hb hby d3_62) q) ?_
                      exact X.retI hret (hb hby d3_63) (by decide) (by decide) ⟨by simp [mostF, hB25, hB26, hB27, hB28, hB29, hB30, hB31, hB32, hB33, hB34], rfl⟩
                    · skip
                      refine Goes.by (g' := (mkF m 64 #[.val (.int i)] [])) (fun _ q => XS.icmpYes X.here X.hx rfl (pc0 := 59) (pc' := 64) rfl (hb hby d3_59) rfl (feq hB34).2 (by decide) (by decide) q) ?_
                      refine Goes.by (g' := (mkF m 65 #[.val (.int i)] [(.int (1 : Int32))])) (fun _ q => XS.iconst X.here X.hx rfl (hb hby d3_64) q) ?_
                      exact X.retI hret (hb hby d3_65) (by decide) (by decide) ⟨by simp [mostF, hB25, hB26, hB27, hB28, hB29, hB30, hB31, hB32, hB33, hB34], rfl⟩
set_option maxRecDepth 65536 in
set_option maxHeartbeats 40000000 in
theorem rm4 (l : Launch) (Z : State) (a0 : Array Value) (hw : ∀ d ∈ tables_1, d.before a0 Z = true) (n0 : Nat) (h0 : Heap) (hn0 : n0 ≤ h0.size) (a : Addr) (x lo hi : Int32) (F_fewest : Fld Z h0 a "com/example/objects_to_rows/objectstorows/query/QueryModel$Function" "fewest" "I" (.int lo)) (F_most : Fld Z h0 a "com/example/objects_to_rows/objectstorows/query/QueryModel$Function" "most" "I" (.int hi)) :
    Met l Z n0 (⟨"com/example/objects_to_rows/objectstorows/query/QueryModel$Function", "takes", "(I)Z"⟩ : MethodName) prog_44_method_5_code 2 (Option.some .boolean) ({ frames := 0, cells := 0, slots := 0, locals := 0 } : Room) #[(.ref a), (.int x)] h0 (fun (v : Option Value) (h' : Heap) => v = some (.int (if x < lo then 0 else if hi < x then 0 else 1)) ∧ h' = h0) := by
  refine metW (Q := fun (v : Option Value) (h' : Heap) => v = some (.int (if x < lo then 0 else if hi < x then 0 else 1)) ∧ h' = h0) pf_4 hn0 ?_
  intro p e s m below meth c T X hby hml hret hnm
  refine Goes.by (g' := (mkF m 0 #[.val (.ref a), .val (.int x)] [])) (fun _ q => castTop (by first | rfl | (simp [entryFrame, mkF, argsToLocals, Value.category]; done)) q) ?_
  refine Goes.by (g' := (mkF m 1 #[.val (.ref a), .val (.int x)] [(.int x)])) (fun _ q => XS.iloadN X.here X.hx rfl (hb hby d4_0) rfl q) ?_
  refine Goes.by (g' := (mkF m 2 #[.val (.ref a), .val (.int x)] [(.ref a), (.int x)])) (fun _ q => XS.aloadN X.here X.hx rfl (hb hby d4_1) rfl rfl q) ?_
  refine X.getF (host := "") (Or.inl (hw _ (List.mem_of_getElem? (i := 19) rfl))) Via.refl F_fewest (hb hby d4_2) (fun T X => ?_)
  show Goes _ _ _ _ _ _ _ _ T (mkF m 5 #[.val (.ref a), .val (.int x)] [(.int lo), (.int x)])
  by_cases hB35 : x < lo
  · skip
    refine Goes.by (g' := (mkF m 20 #[.val (.ref a), .val (.int x)] [])) (fun _ q => XS.icmpYes X.here X.hx rfl (pc0 := 5) (pc' := 20) rfl (hb hby d4_5) rfl (tlt hB35).1 (by decide) (by decide) q) ?_
    refine Goes.by (g' := (mkF m 21 #[.val (.ref a), .val (.int x)] [(.int (0 : Int32))])) (fun _ q => XS.iconst X.here X.hx rfl (hb hby d4_20) q) ?_
    exact X.retZ hret (hb hby d4_21) (by decide) (by decide) ⟨by simp [hB35]; rfl, rfl⟩
  · skip
    refine Goes.by (g' := (mkF m 8 #[.val (.ref a), .val (.int x)] [])) (fun _ q => XS.icmpNo X.here X.hx rfl (hb hby d4_5) rfl (flt hB35).1 q) ?_
    refine Goes.by (g' := (mkF m 9 #[.val (.ref a), .val (.int x)] [(.int x)])) (fun _ q => XS.iloadN X.here X.hx rfl (hb hby d4_8) rfl q) ?_
    refine Goes.by (g' := (mkF m 10 #[.val (.ref a), .val (.int x)] [(.ref a), (.int x)])) (fun _ q => XS.aloadN X.here X.hx rfl (hb hby d4_9) rfl rfl q) ?_
    refine X.getF (host := "") (Or.inl (hw _ (List.mem_of_getElem? (i := 21) rfl))) Via.refl F_most (hb hby d4_10) (fun T X => ?_)
    show Goes _ _ _ _ _ _ _ _ T (mkF m 13 #[.val (.ref a), .val (.int x)] [(.int hi), (.int x)])
    by_cases hB36 : hi < x
    · skip
      refine Goes.by (g' := (mkF m 20 #[.val (.ref a), .val (.int x)] [])) (fun _ q => XS.icmpYes X.here X.hx rfl (pc0 := 13) (pc' := 20) rfl (hb hby d4_13) rfl (tlt hB36).2.2.1 (by decide) (by decide) q) ?_
      refine Goes.by (g' := (mkF m 21 #[.val (.ref a), .val (.int x)] [(.int (0 : Int32))])) (fun _ q => XS.iconst X.here X.hx rfl (hb hby d4_20) q) ?_
      exact X.retZ hret (hb hby d4_21) (by decide) (by decide) ⟨by simp [hB35, hB36]; rfl, rfl⟩
    · skip
      refine Goes.by (g' := (mkF m 16 #[.val (.ref a), .val (.int x)] [])) (fun _ q => XS.icmpNo X.here X.hx rfl (hb hby d4_13) rfl (flt hB36).2.2.1 q) ?_
      refine Goes.by (g' := (mkF m 17 #[.val (.ref a), .val (.int x)] [(.int (1 : Int32))])) (fun _ q => XS.iconst X.here X.hx rfl (hb hby d4_16) q) ?_
      refine Goes.by (g' := (mkF m 21 #[.val (.ref a), .val (.int x)] [(.int (1 : Int32))])) (fun _ q => XS.goto X.here X.hx rfl (pc0 := 17) (pc' := 21) rfl (hb hby d4_17) (by decide) (by decide) q) ?_
      exact X.retZ hret (hb hby d4_21) (by decide) (by decide) ⟨by simp [hB35, hB36]; rfl, rfl⟩
set_option maxRecDepth 65536 in
set_option maxHeartbeats 40000000 in
theorem rm0 (l : Launch) (Z : State) (a0 : Array Value) (hw : ∀ d ∈ tables_1, d.before a0 Z = true) (n0 : Nat) (h0 : Heap) (hn0 : n0 ≤ h0.size) (ws : List Jvm.Cond) (p0 p1 : Int32) (a_ABS : Addr) (S_ABS : Sta Z h0 "com/example/objects_to_rows/objectstorows/query/QueryModel$Function" "ABS" "Lcom/example/objects_to_rows/objectstorows/query/QueryModel$Function;" (.ref a_ABS)) (a_COALESCE : Addr) (S_COALESCE : Sta Z h0 "com/example/objects_to_rows/objectstorows/query/QueryModel$Function" "COALESCE" "Lcom/example/objects_to_rows/objectstorows/query/QueryModel$Function;" (.ref a_COALESCE)) (a_CONCAT : Addr) (S_CONCAT : Sta Z h0 "com/example/objects_to_rows/objectstorows/query/QueryModel$Function" "CONCAT" "Lcom/example/objects_to_rows/objectstorows/query/QueryModel$Function;" (.ref a_CONCAT)) (a_CURRENT_DATE : Addr) (S_CURRENT_DATE : Sta Z h0 "com/example/objects_to_rows/objectstorows/query/QueryModel$Function" "CURRENT_DATE" "Lcom/example/objects_to_rows/objectstorows/query/QueryModel$Function;" (.ref a_CURRENT_DATE)) (a_CURRENT_TIME : Addr) (S_CURRENT_TIME : Sta Z h0 "com/example/objects_to_rows/objectstorows/query/QueryModel$Function" "CURRENT_TIME" "Lcom/example/objects_to_rows/objectstorows/query/QueryModel$Function;" (.ref a_CURRENT_TIME)) (a_CURRENT_TIMESTAMP : Addr) (S_CURRENT_TIMESTAMP : Sta Z h0 "com/example/objects_to_rows/objectstorows/query/QueryModel$Function" "CURRENT_TIMESTAMP" "Lcom/example/objects_to_rows/objectstorows/query/QueryModel$Function;" (.ref a_CURRENT_TIMESTAMP)) (a_FUNCTION : Addr) (S_FUNCTION : Sta Z h0 "com/example/objects_to_rows/objectstorows/query/QueryModel$Function" "FUNCTION" "Lcom/example/objects_to_rows/objectstorows/query/QueryModel$Function;" (.ref a_FUNCTION)) (a_LENGTH : Addr) (S_LENGTH : Sta Z h0 "com/example/objects_to_rows/objectstorows/query/QueryModel$Function" "LENGTH" "Lcom/example/objects_to_rows/objectstorows/query/QueryModel$Function;" (.ref a_LENGTH)) (a_LOCATE : Addr) (S_LOCATE : Sta Z h0 "com/example/objects_to_rows/objectstorows/query/QueryModel$Function" "LOCATE" "Lcom/example/objects_to_rows/objectstorows/query/QueryModel$Function;" (.ref a_LOCATE)) (a_LOWER : Addr) (S_LOWER : Sta Z h0 "com/example/objects_to_rows/objectstorows/query/QueryModel$Function" "LOWER" "Lcom/example/objects_to_rows/objectstorows/query/QueryModel$Function;" (.ref a_LOWER)) (a_MOD : Addr) (S_MOD : Sta Z h0 "com/example/objects_to_rows/objectstorows/query/QueryModel$Function" "MOD" "Lcom/example/objects_to_rows/objectstorows/query/QueryModel$Function;" (.ref a_MOD)) (a_NULLIF : Addr) (S_NULLIF : Sta Z h0 "com/example/objects_to_rows/objectstorows/query/QueryModel$Function" "NULLIF" "Lcom/example/objects_to_rows/objectstorows/query/QueryModel$Function;" (.ref a_NULLIF)) (a_SIZE : Addr) (S_SIZE : Sta Z h0 "com/example/objects_to_rows/objectstorows/query/QueryModel$Function" "SIZE" "Lcom/example/objects_to_rows/objectstorows/query/QueryModel$Function;" (.ref a_SIZE)) (a_SQRT : Addr) (S_SQRT : Sta Z h0 "com/example/objects_to_rows/objectstorows/query/QueryModel$Function" "SQRT" "Lcom/example/objects_to_rows/objectstorows/query/QueryModel$Function;" (.ref a_SQRT)) (a_SUBSTRING : Addr) (S_SUBSTRING : Sta Z h0 "com/example/objects_to_rows/objectstorows/query/QueryModel$Function" "SUBSTRING" "Lcom/example/objects_to_rows/objectstorows/query/QueryModel$Function;" (.ref a_SUBSTRING)) (a_UPPER : Addr) (S_UPPER : Sta Z h0 "com/example/objects_to_rows/objectstorows/query/QueryModel$Function" "UPPER" "Lcom/example/objects_to_rows/objectstorows/query/QueryModel$Function;" (.ref a_UPPER)) (E_ABS : Exa Z h0 a_ABS "com/example/objects_to_rows/objectstorows/query/QueryModel$Function") (E_COALESCE : Exa Z h0 a_COALESCE "com/example/objects_to_rows/objectstorows/query/QueryModel$Function") (E_CONCAT : Exa Z h0 a_CONCAT "com/example/objects_to_rows/objectstorows/query/QueryModel$Function") (E_CURRENT_DATE : Exa Z h0 a_CURRENT_DATE "com/example/objects_to_rows/objectstorows/query/QueryModel$Function") (E_CURRENT_TIME : Exa Z h0 a_CURRENT_TIME "com/example/objects_to_rows/objectstorows/query/QueryModel$Function") (E_CURRENT_TIMESTAMP : Exa Z h0 a_CURRENT_TIMESTAMP "com/example/objects_to_rows/objectstorows/query/QueryModel$Function") (E_FUNCTION : Exa Z h0 a_FUNCTION "com/example/objects_to_rows/objectstorows/query/QueryModel$Function") (E_LENGTH : Exa Z h0 a_LENGTH "com/example/objects_to_rows/objectstorows/query/QueryModel$Function") (E_LOCATE : Exa Z h0 a_LOCATE "com/example/objects_to_rows/objectstorows/query/QueryModel$Function") (E_LOWER : Exa Z h0 a_LOWER "com/example/objects_to_rows/objectstorows/query/QueryModel$Function") (E_MOD : Exa Z h0 a_MOD "com/example/objects_to_rows/objectstorows/query/QueryModel$Function") (E_NULLIF : Exa Z h0 a_NULLIF "com/example/objects_to_rows/objectstorows/query/QueryModel$Function") (E_SIZE : Exa Z h0 a_SIZE "com/example/objects_to_rows/objectstorows/query/QueryModel$Function") (E_SQRT : Exa Z h0 a_SQRT "com/example/objects_to_rows/objectstorows/query/QueryModel$Function") (E_SUBSTRING : Exa Z h0 a_SUBSTRING "com/example/objects_to_rows/objectstorows/query/QueryModel$Function") (E_UPPER : Exa Z h0 a_UPPER "com/example/objects_to_rows/objectstorows/query/QueryModel$Function") (F_ABS_fewest : Fld Z h0 a_ABS "com/example/objects_to_rows/objectstorows/query/QueryModel$Function" "fewest" "I" (.int (1))) (F_ABS_most : Fld Z h0 a_ABS "com/example/objects_to_rows/objectstorows/query/QueryModel$Function" "most" "I" (.int (1))) (F_COALESCE_fewest : Fld Z h0 a_COALESCE "com/example/objects_to_rows/objectstorows/query/QueryModel$Function" "fewest" "I" (.int (2))) (F_COALESCE_most : Fld Z h0 a_COALESCE "com/example/objects_to_rows/objectstorows/query/QueryModel$Function" "most" "I" (.int (2147483647))) (F_CONCAT_fewest : Fld Z h0 a_CONCAT "com/example/objects_to_rows/objectstorows/query/QueryModel$Function" "fewest" "I" (.int (2))) (F_CONCAT_most : Fld Z h0 a_CONCAT "com/example/objects_to_rows/objectstorows/query/QueryModel$Function" "most" "I" (.int (2147483647))) (F_CURRENT_DATE_fewest : Fld Z h0 a_CURRENT_DATE "com/example/objects_to_rows/objectstorows/query/QueryModel$Function" "fewest" "I" (.int (0))) (F_CURRENT_DATE_most : Fld Z h0 a_CURRENT_DATE "com/example/objects_to_rows/objectstorows/query/QueryModel$Function" "most" "I" (.int (0))) (F_CURRENT_TIME_fewest : Fld Z h0 a_CURRENT_TIME "com/example/objects_to_rows/objectstorows/query/QueryModel$Function" "fewest" "I" (.int (0))) (F_CURRENT_TIME_most : Fld Z h0 a_CURRENT_TIME "com/example/objects_to_rows/objectstorows/query/QueryModel$Function" "most" "I" (.int (0))) (F_CURRENT_TIMESTAMP_fewest : Fld Z h0 a_CURRENT_TIMESTAMP "com/example/objects_to_rows/objectstorows/query/QueryModel$Function" "fewest" "I" (.int (0))) (F_CURRENT_TIMESTAMP_most : Fld Z h0 a_CURRENT_TIMESTAMP "com/example/objects_to_rows/objectstorows/query/QueryModel$Function" "most" "I" (.int (0))) (F_FUNCTION_fewest : Fld Z h0 a_FUNCTION "com/example/objects_to_rows/objectstorows/query/QueryModel$Function" "fewest" "I" (.int (1))) (F_FUNCTION_most : Fld Z h0 a_FUNCTION "com/example/objects_to_rows/objectstorows/query/QueryModel$Function" "most" "I" (.int (2147483647))) (F_LENGTH_fewest : Fld Z h0 a_LENGTH "com/example/objects_to_rows/objectstorows/query/QueryModel$Function" "fewest" "I" (.int (1))) (F_LENGTH_most : Fld Z h0 a_LENGTH "com/example/objects_to_rows/objectstorows/query/QueryModel$Function" "most" "I" (.int (1))) (F_LOCATE_fewest : Fld Z h0 a_LOCATE "com/example/objects_to_rows/objectstorows/query/QueryModel$Function" "fewest" "I" (.int (2))) (F_LOCATE_most : Fld Z h0 a_LOCATE "com/example/objects_to_rows/objectstorows/query/QueryModel$Function" "most" "I" (.int (3))) (F_LOWER_fewest : Fld Z h0 a_LOWER "com/example/objects_to_rows/objectstorows/query/QueryModel$Function" "fewest" "I" (.int (1))) (F_LOWER_most : Fld Z h0 a_LOWER "com/example/objects_to_rows/objectstorows/query/QueryModel$Function" "most" "I" (.int (1))) (F_MOD_fewest : Fld Z h0 a_MOD "com/example/objects_to_rows/objectstorows/query/QueryModel$Function" "fewest" "I" (.int (2))) (F_MOD_most : Fld Z h0 a_MOD "com/example/objects_to_rows/objectstorows/query/QueryModel$Function" "most" "I" (.int (2))) (F_NULLIF_fewest : Fld Z h0 a_NULLIF "com/example/objects_to_rows/objectstorows/query/QueryModel$Function" "fewest" "I" (.int (2))) (F_NULLIF_most : Fld Z h0 a_NULLIF "com/example/objects_to_rows/objectstorows/query/QueryModel$Function" "most" "I" (.int (2))) (F_SIZE_fewest : Fld Z h0 a_SIZE "com/example/objects_to_rows/objectstorows/query/QueryModel$Function" "fewest" "I" (.int (1))) (F_SIZE_most : Fld Z h0 a_SIZE "com/example/objects_to_rows/objectstorows/query/QueryModel$Function" "most" "I" (.int (1))) (F_SQRT_fewest : Fld Z h0 a_SQRT "com/example/objects_to_rows/objectstorows/query/QueryModel$Function" "fewest" "I" (.int (1))) (F_SQRT_most : Fld Z h0 a_SQRT "com/example/objects_to_rows/objectstorows/query/QueryModel$Function" "most" "I" (.int (1))) (F_SUBSTRING_fewest : Fld Z h0 a_SUBSTRING "com/example/objects_to_rows/objectstorows/query/QueryModel$Function" "fewest" "I" (.int (2))) (F_SUBSTRING_most : Fld Z h0 a_SUBSTRING "com/example/objects_to_rows/objectstorows/query/QueryModel$Function" "most" "I" (.int (3))) (F_UPPER_fewest : Fld Z h0 a_UPPER "com/example/objects_to_rows/objectstorows/query/QueryModel$Function" "fewest" "I" (.int (1))) (F_UPPER_most : Fld Z h0 a_UPPER "com/example/objects_to_rows/objectstorows/query/QueryModel$Function" "most" "I" (.int (1))) :
    MetFree l x (head1 (Jvm.Cond.code x code maxLocals ret :: ws) room_1) (fun a U => a = #[(.int p0), (.int p1)] ∧ Z.Warmed39 U.vm ∧ U.heap = h0) (fun _ _ _ _ _ => True) (fun _ U o U' => ∃ v L, o = .returned v ∧ (Fr n0 L ∧ (fun (v : Option Value) (h' : Heap) => v = some (.int 1)) v U'.heap) ∧ EndF U o U' L room_1.cells room_1.slots) := by
  refine metW (Q := fun (v : Option Value) (h' : Heap) => v = some (.int 1)) pf_0 hn0 ?_
  intro p e s m below meth c T X hby hml hret hnm
  refine Goes.by (g' := (mkF m 0 #[.val (.int p0), .val (.int p1), .unset, .unset, .unset, .unset, .unset] [])) (fun _ q => castTop (by first | rfl | (simp [entryFrame, mkF, argsToLocals, Value.category, maxLocals]; done)) q) ?_
  refine Goes.by (g' := (mkF m 1 #[.val (.int p0), .val (.int p1), .unset, .unset, .unset, .unset, .unset] [(.int p0)])) (fun _ q => XS.iloadN X.here X.hx rfl (hb hby at_0) rfl q) ?_
  refine X.ldcI (hw _ (List.mem_of_getElem? (i := 0) rfl)) (hb hby at_1) ?_
  show Goes _ _ _ _ _ _ _ _ T (mkF m 3 #[.val (.int p0), .val (.int p1), .unset, .unset, .unset, .unset, .unset] [(.int (2147483647 : Int32)), (.int p0)])
  refine Goes.by (g' := (mkF m 4 #[.val (.int p0), .val (.int p1), .unset, .unset, .unset, .unset, .unset] [(.int (p0 &&& (2147483647 : Int32)))])) (fun _ q => XS.iand X.here X.hx rfl (hb hby at_3) rfl q) ?_
  refine Goes.by (g' := (mkF m 6 #[.val (.int p0), .val (.int p1), .unset, .unset, .unset, .unset, .unset] [(.int (16 : Int32)), (.int (p0 &&& (2147483647 : Int32)))])) (fun _ q => XS.bipush X.here X.hx rfl (hb hby at_4) q) ?_
  refine X.irem (hb hby at_6) (by decide) ?_
  show Goes _ _ _ _ _ _ _ _ T (mkF m 7 #[.val (.int p0), .val (.int p1), .unset, .unset, .unset, .unset, .unset] [(.int ((p0 &&& (2147483647 : Int32)) % (16 : Int32)))])
  generalize h_i : ((p0 &&& (2147483647 : Int32)) % (16 : Int32)) = i
  have hi : 0 ≤ i.toInt ∧ i.toInt < 16 := by rw [← h_i]; exact maskR p0 16 16 (by decide) (by decide)
  obtain ⟨hE, hF1, hF2⟩ := objF Z h0 i hi a_ABS E_ABS F_ABS_fewest F_ABS_most a_COALESCE E_COALESCE F_COALESCE_fewest F_COALESCE_most a_CONCAT E_CONCAT F_CONCAT_fewest F_CONCAT_most a_CURRENT_DATE E_CURRENT_DATE F_CURRENT_DATE_fewest F_CURRENT_DATE_most a_CURRENT_TIME E_CURRENT_TIME F_CURRENT_TIME_fewest F_CURRENT_TIME_most a_CURRENT_TIMESTAMP E_CURRENT_TIMESTAMP F_CURRENT_TIMESTAMP_fewest F_CURRENT_TIMESTAMP_most a_FUNCTION E_FUNCTION F_FUNCTION_fewest F_FUNCTION_most a_LENGTH E_LENGTH F_LENGTH_fewest F_LENGTH_most a_LOCATE E_LOCATE F_LOCATE_fewest F_LOCATE_most a_LOWER E_LOWER F_LOWER_fewest F_LOWER_most a_MOD E_MOD F_MOD_fewest F_MOD_most a_NULLIF E_NULLIF F_NULLIF_fewest F_NULLIF_most a_SIZE E_SIZE F_SIZE_fewest F_SIZE_most a_SQRT E_SQRT F_SQRT_fewest F_SQRT_most a_SUBSTRING E_SUBSTRING F_SUBSTRING_fewest F_SUBSTRING_most a_UPPER E_UPPER F_UPPER_fewest F_UPPER_most
  refine Goes.by (g' := (mkF m 8 #[.val (.int p0), .val (.int p1), .val (.int i), .unset, .unset, .unset, .unset] [])) (fun _ q => XS.istoreN X.here X.hx rfl (hb hby at_7) rfl (l' := #[.val (.int p0), .val (.int p1), .val (.int i), .unset, .unset, .unset, .unset]) rfl q) ?_
  refine Goes.by (g' := (mkF m 9 #[.val (.int p0), .val (.int p1), .val (.int i), .unset, .unset, .unset, .unset] [(.int i)])) (fun _ q => XS.iloadN X.here X.hx rfl (hb hby at_8) rfl q) ?_
  have X_o := X
  refine X.callS (hw _ (List.mem_of_getElem? (i := 1) rfl)) (hw _ (List.mem_of_getElem? (i := 2) rfl)) (hw _ (List.mem_of_getElem? (i := 3) rfl)) (hw _ (List.mem_of_getElem? (i := 4) rfl)) (by decide) pd_3737049905 (argsL := [(.int i)]) rfl (rm1 l Z a0 hw n0 h0 hn0 i a_ABS S_ABS a_COALESCE S_COALESCE a_CONCAT S_CONCAT a_CURRENT_DATE S_CURRENT_DATE a_CURRENT_TIME S_CURRENT_TIME a_CURRENT_TIMESTAMP S_CURRENT_TIMESTAMP a_FUNCTION S_FUNCTION a_LENGTH S_LENGTH a_LOCATE S_LOCATE a_LOWER S_LOWER a_MOD S_MOD a_NULLIF S_NULLIF a_SIZE S_SIZE a_SQRT S_SQRT a_SUBSTRING S_SUBSTRING a_UPPER S_UPPER) (by rw [hml]; rfl) rfl (by decide) (by decide) (hb hby at_9) (by decide) (by decide) (fun T h37 v X hQ => ?_)
  obtain ⟨rfl, hh⟩ := hQ
  rw [hh] at X
  clear hh
  show Goes _ _ _ _ _ _ _ _ T (mkF m 12 #[.val (.int p0), .val (.int p1), .val (.int i), .unset, .unset, .unset, .unset] [(.ref (selF i a_ABS a_COALESCE a_CONCAT a_CURRENT_DATE a_CURRENT_TIME a_CURRENT_TIMESTAMP a_FUNCTION a_LENGTH a_LOCATE a_LOWER a_MOD a_NULLIF a_SIZE a_SQRT a_SUBSTRING a_UPPER))])
  refine Goes.by (g' := (mkF m 13 #[.val (.int p0), .val (.int p1), .val (.int i), .val (.ref (selF i a_ABS a_COALESCE a_CONCAT a_CURRENT_DATE a_CURRENT_TIME a_CURRENT_TIMESTAMP a_FUNCTION a_LENGTH a_LOCATE a_LOWER a_MOD a_NULLIF a_SIZE a_SQRT a_SUBSTRING a_UPPER)), .unset, .unset, .unset] [])) (fun _ q => XS.astoreN X.here X.hx rfl (hb hby at_12) rfl rfl (l' := #[.val (.int p0), .val (.int p1), .val (.int i), .val (.ref (selF i a_ABS a_COALESCE a_CONCAT a_CURRENT_DATE a_CURRENT_TIME a_CURRENT_TIMESTAMP a_FUNCTION a_LENGTH a_LOCATE a_LOWER a_MOD a_NULLIF a_SIZE a_SQRT a_SUBSTRING a_UPPER)), .unset, .unset, .unset]) rfl q) ?_
  refine Goes.by (g' := (mkF m 14 #[.val (.int p0), .val (.int p1), .val (.int i), .val (.ref (selF i a_ABS a_COALESCE a_CONCAT a_CURRENT_DATE a_CURRENT_TIME a_CURRENT_TIMESTAMP a_FUNCTION a_LENGTH a_LOCATE a_LOWER a_MOD a_NULLIF a_SIZE a_SQRT a_SUBSTRING a_UPPER)), .unset, .unset, .unset] [(.int i)])) (fun _ q => XS.iloadN X.here X.hx rfl (hb hby at_13) rfl q) ?_
  have X_o := X
  refine X.callS (hw _ (List.mem_of_getElem? (i := 8) rfl)) (hw _ (List.mem_of_getElem? (i := 9) rfl)) (hw _ (List.mem_of_getElem? (i := 3) rfl)) (hw _ (List.mem_of_getElem? (i := 10) rfl)) (by decide) pd_2087992008 (argsL := [(.int i)]) rfl (rm2 l Z a0 hw n0 h0 hn0 i) (by rw [hml]; rfl) rfl (by decide) (by decide) (hb hby at_14) (by decide) (by decide) (fun T h38 v X hQ => ?_)
  obtain ⟨rfl, hh⟩ := hQ
  rw [hh] at X
  clear hh
  show Goes _ _ _ _ _ _ _ _ T (mkF m 17 #[.val (.int p0), .val (.int p1), .val (.int i), .val (.ref (selF i a_ABS a_COALESCE a_CONCAT a_CURRENT_DATE a_CURRENT_TIME a_CURRENT_TIMESTAMP a_FUNCTION a_LENGTH a_LOCATE a_LOWER a_MOD a_NULLIF a_SIZE a_SQRT a_SUBSTRING a_UPPER)), .unset, .unset, .unset] [(.int (fewF i))])
  refine Goes.by (g' := (mkF m 19 #[.val (.int p0), .val (.int p1), .val (.int i), .val (.ref (selF i a_ABS a_COALESCE a_CONCAT a_CURRENT_DATE a_CURRENT_TIME a_CURRENT_TIMESTAMP a_FUNCTION a_LENGTH a_LOCATE a_LOWER a_MOD a_NULLIF a_SIZE a_SQRT a_SUBSTRING a_UPPER)), .val (.int (fewF i)), .unset, .unset] [])) (fun _ q => XS.istore X.here X.hx rfl (hb hby at_17) rfl (l' := #[.val (.int p0), .val (.int p1), .val (.int i), .val (.ref (selF i a_ABS a_COALESCE a_CONCAT a_CURRENT_DATE a_CURRENT_TIME a_CURRENT_TIMESTAMP a_FUNCTION a_LENGTH a_LOCATE a_LOWER a_MOD a_NULLIF a_SIZE a_SQRT a_SUBSTRING a_UPPER)), .val (.int (fewF i)), .unset, .unset]) rfl q) ?_
  refine Goes.by (g' := (mkF m 20 #[.val (.int p0), .val (.int p1), .val (.int i), .val (.ref (selF i a_ABS a_COALESCE a_CONCAT a_CURRENT_DATE a_CURRENT_TIME a_CURRENT_TIMESTAMP a_FUNCTION a_LENGTH a_LOCATE a_LOWER a_MOD a_NULLIF a_SIZE a_SQRT a_SUBSTRING a_UPPER)), .val (.int (fewF i)), .unset, .unset] [(.int i)])) (fun _ q => XS.iloadN X.here X.hx rfl (hb hby at_19) rfl q) ?_
  have X_o := X
  refine X.callS (hw _ (List.mem_of_getElem? (i := 11) rfl)) (hw _ (List.mem_of_getElem? (i := 12) rfl)) (hw _ (List.mem_of_getElem? (i := 3) rfl)) (hw _ (List.mem_of_getElem? (i := 13) rfl)) (by decide) pd_2087992008 (argsL := [(.int i)]) rfl (rm3 l Z a0 hw n0 h0 hn0 i) (by rw [hml]; rfl) rfl (by decide) (by decide) (hb hby at_20) (by decide) (by decide) (fun T h39 v X hQ => ?_)
  obtain ⟨rfl, hh⟩ := hQ
  rw [hh] at X
  clear hh
  show Goes _ _ _ _ _ _ _ _ T (mkF m 23 #[.val (.int p0), .val (.int p1), .val (.int i), .val (.ref (selF i a_ABS a_COALESCE a_CONCAT a_CURRENT_DATE a_CURRENT_TIME a_CURRENT_TIMESTAMP a_FUNCTION a_LENGTH a_LOCATE a_LOWER a_MOD a_NULLIF a_SIZE a_SQRT a_SUBSTRING a_UPPER)), .val (.int (fewF i)), .unset, .unset] [(.int (mostF i))])
  refine Goes.by (g' := (mkF m 25 #[.val (.int p0), .val (.int p1), .val (.int i), .val (.ref (selF i a_ABS a_COALESCE a_CONCAT a_CURRENT_DATE a_CURRENT_TIME a_CURRENT_TIMESTAMP a_FUNCTION a_LENGTH a_LOCATE a_LOWER a_MOD a_NULLIF a_SIZE a_SQRT a_SUBSTRING a_UPPER)), .val (.int (fewF i)), .val (.int (mostF i)), .unset] [])) (fun _ q => XS.istore X.here X.hx rfl (hb hby at_23) rfl (l' := #[.val (.int p0), .val (.int p1), .val (.int i), .val (.ref (selF i a_ABS a_COALESCE a_CONCAT a_CURRENT_DATE a_CURRENT_TIME a_CURRENT_TIMESTAMP a_FUNCTION a_LENGTH a_LOCATE a_LOWER a_MOD a_NULLIF a_SIZE a_SQRT a_SUBSTRING a_UPPER)), .val (.int (fewF i)), .val (.int (mostF i)), .unset]) rfl q) ?_
  refine Goes.by (g' := (mkF m 26 #[.val (.int p0), .val (.int p1), .val (.int i), .val (.ref (selF i a_ABS a_COALESCE a_CONCAT a_CURRENT_DATE a_CURRENT_TIME a_CURRENT_TIMESTAMP a_FUNCTION a_LENGTH a_LOCATE a_LOWER a_MOD a_NULLIF a_SIZE a_SQRT a_SUBSTRING a_UPPER)), .val (.int (fewF i)), .val (.int (mostF i)), .unset] [(.int p1)])) (fun _ q => XS.iloadN X.here X.hx rfl (hb hby at_25) rfl q) ?_
  refine Goes.by (g' := (mkF m 28 #[.val (.int p0), .val (.int p1), .val (.int i), .val (.ref (selF i a_ABS a_COALESCE a_CONCAT a_CURRENT_DATE a_CURRENT_TIME a_CURRENT_TIMESTAMP a_FUNCTION a_LENGTH a_LOCATE a_LOWER a_MOD a_NULLIF a_SIZE a_SQRT a_SUBSTRING a_UPPER)), .val (.int (fewF i)), .val (.int (mostF i)), .unset] [(.int (fewF i)), (.int p1)])) (fun _ q => XS.iload X.here X.hx rfl (hb hby at_26) rfl q) ?_
  by_cases hB40 : p1 < (fewF i)
  · skip
    refine Goes.by (g' := (mkF m 41 #[.val (.int p0), .val (.int p1), .val (.int i), .val (.ref (selF i a_ABS a_COALESCE a_CONCAT a_CURRENT_DATE a_CURRENT_TIME a_CURRENT_TIMESTAMP a_FUNCTION a_LENGTH a_LOCATE a_LOWER a_MOD a_NULLIF a_SIZE a_SQRT a_SUBSTRING a_UPPER)), .val (.int (fewF i)), .val (.int (mostF i)), .unset] [])) (fun _ q => XS.icmpYes X.here X.hx rfl (pc0 := 28) (pc' := 41) rfl (hb hby at_28) rfl (tlt hB40).1 (by decide) (by decide) q) ?_
    refine Goes.by (g' := (mkF m 42 #[.val (.int p0), .val (.int p1), .val (.int i), .val (.ref (selF i a_ABS a_COALESCE a_CONCAT a_CURRENT_DATE a_CURRENT_TIME a_CURRENT_TIMESTAMP a_FUNCTION a_LENGTH a_LOCATE a_LOWER a_MOD a_NULLIF a_SIZE a_SQRT a_SUBSTRING a_UPPER)), .val (.int (fewF i)), .val (.int (mostF i)), .unset] [(.int (0 : Int32))])) (fun _ q => XS.iconst X.here X.hx rfl (hb hby at_41) q) ?_
    refine Goes.by (g' := (mkF m 44 #[.val (.int p0), .val (.int p1), .val (.int i), .val (.ref (selF i a_ABS a_COALESCE a_CONCAT a_CURRENT_DATE a_CURRENT_TIME a_CURRENT_TIMESTAMP a_FUNCTION a_LENGTH a_LOCATE a_LOWER a_MOD a_NULLIF a_SIZE a_SQRT a_SUBSTRING a_UPPER)), .val (.int (fewF i)), .val (.int (mostF i)), .val (.int (0 : Int32))] [])) (fun _ q => XS.istore X.here X.hx rfl (hb hby at_42) rfl (l' := #[.val (.int p0), .val (.int p1), .val (.int i), .val (.ref (selF i a_ABS a_COALESCE a_CONCAT a_CURRENT_DATE a_CURRENT_TIME a_CURRENT_TIMESTAMP a_FUNCTION a_LENGTH a_LOCATE a_LOWER a_MOD a_NULLIF a_SIZE a_SQRT a_SUBSTRING a_UPPER)), .val (.int (fewF i)), .val (.int (mostF i)), .val (.int (0 : Int32))]) rfl q) ?_
    refine Goes.by (g' := (mkF m 45 #[.val (.int p0), .val (.int p1), .val (.int i), .val (.ref (selF i a_ABS a_COALESCE a_CONCAT a_CURRENT_DATE a_CURRENT_TIME a_CURRENT_TIMESTAMP a_FUNCTION a_LENGTH a_LOCATE a_LOWER a_MOD a_NULLIF a_SIZE a_SQRT a_SUBSTRING a_UPPER)), .val (.int (fewF i)), .val (.int (mostF i)), .val (.int (0 : Int32))] [(.ref (selF i a_ABS a_COALESCE a_CONCAT a_CURRENT_DATE a_CURRENT_TIME a_CURRENT_TIMESTAMP a_FUNCTION a_LENGTH a_LOCATE a_LOWER a_MOD a_NULLIF a_SIZE a_SQRT a_SUBSTRING a_UPPER))])) (fun _ q => XS.aloadN X.here X.hx rfl (hb hby at_44) rfl rfl q) ?_
    refine Goes.by (g' := (mkF m 46 #[.val (.int p0), .val (.int p1), .val (.int i), .val (.ref (selF i a_ABS a_COALESCE a_CONCAT a_CURRENT_DATE a_CURRENT_TIME a_CURRENT_TIMESTAMP a_FUNCTION a_LENGTH a_LOCATE a_LOWER a_MOD a_NULLIF a_SIZE a_SQRT a_SUBSTRING a_UPPER)), .val (.int (fewF i)), .val (.int (mostF i)), .val (.int (0 : Int32))] [(.int p1), (.ref (selF i a_ABS a_COALESCE a_CONCAT a_CURRENT_DATE a_CURRENT_TIME a_CURRENT_TIMESTAMP a_FUNCTION a_LENGTH a_LOCATE a_LOWER a_MOD a_NULLIF a_SIZE a_SQRT a_SUBSTRING a_UPPER))])) (fun _ q => XS.iloadN X.here X.hx rfl (hb hby at_45) rfl q) ?_
    have X_o := X
    refine X.callV hE (hw _ (List.mem_of_getElem? (i := 14) rfl)) (hw _ (List.mem_of_getElem? (i := 15) rfl)) (hw _ (List.mem_of_getElem? (i := 17) rfl)) (hw _ (List.mem_of_getElem? (i := 17) rfl)) rfl (hw _ (List.mem_of_getElem? (i := 16) rfl)) (hw _ (List.mem_of_getElem? (i := 6) rfl)) (hw _ (List.mem_of_getElem? (i := 18) rfl)) (by decide) pd_2087992025 (argsL := [(.int p1)]) rfl (rm4 l Z a0 hw n0 h0 hn0 (selF i a_ABS a_COALESCE a_CONCAT a_CURRENT_DATE a_CURRENT_TIME a_CURRENT_TIMESTAMP a_FUNCTION a_LENGTH a_LOCATE a_LOWER a_MOD a_NULLIF a_SIZE a_SQRT a_SUBSTRING a_UPPER) p1 (fewF i) (mostF i) hF1 hF2) (by rw [hml]; rfl) rfl (by decide) (by decide) (hb hby at_46) (by decide) (by decide) (fun T h41 v X hQ => ?_)
    obtain ⟨rfl, hh⟩ := hQ
    rw [hh] at X
    clear hh
    rw [show (if p1 < fewF i then (0 : Int32) else if mostF i < p1 then 0 else 1) = 0 from by simp [hB40]]
    show Goes _ _ _ _ _ _ _ _ T (mkF m 49 #[.val (.int p0), .val (.int p1), .val (.int i), .val (.ref (selF i a_ABS a_COALESCE a_CONCAT a_CURRENT_DATE a_CURRENT_TIME a_CURRENT_TIMESTAMP a_FUNCTION a_LENGTH a_LOCATE a_LOWER a_MOD a_NULLIF a_SIZE a_SQRT a_SUBSTRING a_UPPER)), .val (.int (fewF i)), .val (.int (mostF i)), .val (.int (0 : Int32))] [(.int (0 : Int32))])
    refine Goes.by (g' := (mkF m 51 #[.val (.int p0), .val (.int p1), .val (.int i), .val (.ref (selF i a_ABS a_COALESCE a_CONCAT a_CURRENT_DATE a_CURRENT_TIME a_CURRENT_TIMESTAMP a_FUNCTION a_LENGTH a_LOCATE a_LOWER a_MOD a_NULLIF a_SIZE a_SQRT a_SUBSTRING a_UPPER)), .val (.int (fewF i)), .val (.int (mostF i)), .val (.int (0 : Int32))] [(.int (0 : Int32)), (.int (0 : Int32))])) (fun _ q => XS.iload X.here X.hx rfl (hb hby at_49) rfl q) ?_
    refine Goes.by (g' := (mkF m 54 #[.val (.int p0), .val (.int p1), .val (.int i), .val (.ref (selF i a_ABS a_COALESCE a_CONCAT a_CURRENT_DATE a_CURRENT_TIME a_CURRENT_TIMESTAMP a_FUNCTION a_LENGTH a_LOCATE a_LOWER a_MOD a_NULLIF a_SIZE a_SQRT a_SUBSTRING a_UPPER)), .val (.int (fewF i)), .val (.int (mostF i)), .val (.int (0 : Int32))] [])) (fun _ q => XS.icmpNo X.here X.hx rfl (hb hby at_51) rfl (teq (show (0 : Int32) = (0 : Int32) from (by decide))).2 q) ?_
    refine Goes.by (g' := (mkF m 55 #[.val (.int p0), .val (.int p1), .val (.int i), .val (.ref (selF i a_ABS a_COALESCE a_CONCAT a_CURRENT_DATE a_CURRENT_TIME a_CURRENT_TIMESTAMP a_FUNCTION a_LENGTH a_LOCATE a_LOWER a_MOD a_NULLIF a_SIZE a_SQRT a_SUBSTRING a_UPPER)), .val (.int (fewF i)), .val (.int (mostF i)), .val (.int (0 : Int32))] [(.int (1 : Int32))])) (fun _ q => XS.iconst X.here X.hx rfl (hb hby at_54) q) ?_
    refine Goes.by (g' := (mkF m 59 #[.val (.int p0), .val (.int p1), .val (.int i), .val (.ref (selF i a_ABS a_COALESCE a_CONCAT a_CURRENT_DATE a_CURRENT_TIME a_CURRENT_TIMESTAMP a_FUNCTION a_LENGTH a_LOCATE a_LOWER a_MOD a_NULLIF a_SIZE a_SQRT a_SUBSTRING a_UPPER)), .val (.int (fewF i)), .val (.int (mostF i)), .val (.int (0 : Int32))] [(.int (1 : Int32))])) (fun _ q => XS.goto X.here X.hx rfl (pc0 := 55) (pc' := 59) rfl (hb hby at_55) (by decide) (by decide) q) ?_
    exact X.retZ hret (hb hby at_59) (by decide) (by decide) rfl
  · skip
    refine Goes.by (g' := (mkF m 31 #[.val (.int p0), .val (.int p1), .val (.int i), .val (.ref (selF i a_ABS a_COALESCE a_CONCAT a_CURRENT_DATE a_CURRENT_TIME a_CURRENT_TIMESTAMP a_FUNCTION a_LENGTH a_LOCATE a_LOWER a_MOD a_NULLIF a_SIZE a_SQRT a_SUBSTRING a_UPPER)), .val (.int (fewF i)), .val (.int (mostF i)), .unset] [])) (fun _ q => XS.icmpNo X.here X.hx rfl (hb hby at_28) rfl (flt hB40).1 q) ?_
    refine Goes.by (g' := (mkF m 32 #[.val (.int p0), .val (.int p1), .val (.int i), .val (.ref (selF i a_ABS a_COALESCE a_CONCAT a_CURRENT_DATE a_CURRENT_TIME a_CURRENT_TIMESTAMP a_FUNCTION a_LENGTH a_LOCATE a_LOWER a_MOD a_NULLIF a_SIZE a_SQRT a_SUBSTRING a_UPPER)), .val (.int (fewF i)), .val (.int (mostF i)), .unset] [(.int p1)])) (fun _ q => XS.iloadN X.here X.hx rfl (hb hby at_31) rfl q) ?_
    refine Goes.by (g' := (mkF m 34 #[.val (.int p0), .val (.int p1), .val (.int i), .val (.ref (selF i a_ABS a_COALESCE a_CONCAT a_CURRENT_DATE a_CURRENT_TIME a_CURRENT_TIMESTAMP a_FUNCTION a_LENGTH a_LOCATE a_LOWER a_MOD a_NULLIF a_SIZE a_SQRT a_SUBSTRING a_UPPER)), .val (.int (fewF i)), .val (.int (mostF i)), .unset] [(.int (mostF i)), (.int p1)])) (fun _ q => XS.iload X.here X.hx rfl (hb hby at_32) rfl q) ?_
    by_cases hB42 : (mostF i) < p1
    · skip
      refine Goes.by (g' := (mkF m 41 #[.val (.int p0), .val (.int p1), .val (.int i), .val (.ref (selF i a_ABS a_COALESCE a_CONCAT a_CURRENT_DATE a_CURRENT_TIME a_CURRENT_TIMESTAMP a_FUNCTION a_LENGTH a_LOCATE a_LOWER a_MOD a_NULLIF a_SIZE a_SQRT a_SUBSTRING a_UPPER)), .val (.int (fewF i)), .val (.int (mostF i)), .unset] [])) (fun _ q => XS.icmpYes X.here X.hx rfl (pc0 := 34) (pc' := 41) rfl (hb hby at_34) rfl (tlt hB42).2.2.1 (by decide) (by decide) q) ?_
      refine Goes.by (g' := (mkF m 42 #[.val (.int p0), .val (.int p1), .val (.int i), .val (.ref (selF i a_ABS a_COALESCE a_CONCAT a_CURRENT_DATE a_CURRENT_TIME a_CURRENT_TIMESTAMP a_FUNCTION a_LENGTH a_LOCATE a_LOWER a_MOD a_NULLIF a_SIZE a_SQRT a_SUBSTRING a_UPPER)), .val (.int (fewF i)), .val (.int (mostF i)), .unset] [(.int (0 : Int32))])) (fun _ q => XS.iconst X.here X.hx rfl (hb hby at_41) q) ?_
      refine Goes.by (g' := (mkF m 44 #[.val (.int p0), .val (.int p1), .val (.int i), .val (.ref (selF i a_ABS a_COALESCE a_CONCAT a_CURRENT_DATE a_CURRENT_TIME a_CURRENT_TIMESTAMP a_FUNCTION a_LENGTH a_LOCATE a_LOWER a_MOD a_NULLIF a_SIZE a_SQRT a_SUBSTRING a_UPPER)), .val (.int (fewF i)), .val (.int (mostF i)), .val (.int (0 : Int32))] [])) (fun _ q => XS.istore X.here X.hx rfl (hb hby at_42) rfl (l' := #[.val (.int p0), .val (.int p1), .val (.int i), .val (.ref (selF i a_ABS a_COALESCE a_CONCAT a_CURRENT_DATE a_CURRENT_TIME a_CURRENT_TIMESTAMP a_FUNCTION a_LENGTH a_LOCATE a_LOWER a_MOD a_NULLIF a_SIZE a_SQRT a_SUBSTRING a_UPPER)), .val (.int (fewF i)), .val (.int (mostF i)), .val (.int (0 : Int32))]) rfl q) ?_
      refine Goes.by (g' := (mkF m 45 #[.val (.int p0), .val (.int p1), .val (.int i), .val (.ref (selF i a_ABS a_COALESCE a_CONCAT a_CURRENT_DATE a_CURRENT_TIME a_CURRENT_TIMESTAMP a_FUNCTION a_LENGTH a_LOCATE a_LOWER a_MOD a_NULLIF a_SIZE a_SQRT a_SUBSTRING a_UPPER)), .val (.int (fewF i)), .val (.int (mostF i)), .val (.int (0 : Int32))] [(.ref (selF i a_ABS a_COALESCE a_CONCAT a_CURRENT_DATE a_CURRENT_TIME a_CURRENT_TIMESTAMP a_FUNCTION a_LENGTH a_LOCATE a_LOWER a_MOD a_NULLIF a_SIZE a_SQRT a_SUBSTRING a_UPPER))])) (fun _ q => XS.aloadN X.here X.hx rfl (hb hby at_44) rfl rfl q) ?_
      refine Goes.by (g' := (mkF m 46 #[.val (.int p0), .val (.int p1), .val (.int i), .val (.ref (selF i a_ABS a_COALESCE a_CONCAT a_CURRENT_DATE a_CURRENT_TIME a_CURRENT_TIMESTAMP a_FUNCTION a_LENGTH a_LOCATE a_LOWER a_MOD a_NULLIF a_SIZE a_SQRT a_SUBSTRING a_UPPER)), .val (.int (fewF i)), .val (.int (mostF i)), .val (.int (0 : Int32))] [(.int p1), (.ref (selF i a_ABS a_COALESCE a_CONCAT a_CURRENT_DATE a_CURRENT_TIME a_CURRENT_TIMESTAMP a_FUNCTION a_LENGTH a_LOCATE a_LOWER a_MOD a_NULLIF a_SIZE a_SQRT a_SUBSTRING a_UPPER))])) (fun _ q => XS.iloadN X.here X.hx rfl (hb hby at_45) rfl q) ?_
      have X_o := X
      refine X.callV hE (hw _ (List.mem_of_getElem? (i := 14) rfl)) (hw _ (List.mem_of_getElem? (i := 15) rfl)) (hw _ (List.mem_of_getElem? (i := 17) rfl)) (hw _ (List.mem_of_getElem? (i := 17) rfl)) rfl (hw _ (List.mem_of_getElem? (i := 16) rfl)) (hw _ (List.mem_of_getElem? (i := 6) rfl)) (hw _ (List.mem_of_getElem? (i := 18) rfl)) (by decide) pd_2087992025 (argsL := [(.int p1)]) rfl (rm4 l Z a0 hw n0 h0 hn0 (selF i a_ABS a_COALESCE a_CONCAT a_CURRENT_DATE a_CURRENT_TIME a_CURRENT_TIMESTAMP a_FUNCTION a_LENGTH a_LOCATE a_LOWER a_MOD a_NULLIF a_SIZE a_SQRT a_SUBSTRING a_UPPER) p1 (fewF i) (mostF i) hF1 hF2) (by rw [hml]; rfl) rfl (by decide) (by decide) (hb hby at_46) (by decide) (by decide) (fun T h43 v X hQ => ?_)
      obtain ⟨rfl, hh⟩ := hQ
      rw [hh] at X
      clear hh
      rw [show (if p1 < fewF i then (0 : Int32) else if mostF i < p1 then 0 else 1) = 0 from by simp [hB40, hB42]]
      show Goes _ _ _ _ _ _ _ _ T (mkF m 49 #[.val (.int p0), .val (.int p1), .val (.int i), .val (.ref (selF i a_ABS a_COALESCE a_CONCAT a_CURRENT_DATE a_CURRENT_TIME a_CURRENT_TIMESTAMP a_FUNCTION a_LENGTH a_LOCATE a_LOWER a_MOD a_NULLIF a_SIZE a_SQRT a_SUBSTRING a_UPPER)), .val (.int (fewF i)), .val (.int (mostF i)), .val (.int (0 : Int32))] [(.int (0 : Int32))])
      refine Goes.by (g' := (mkF m 51 #[.val (.int p0), .val (.int p1), .val (.int i), .val (.ref (selF i a_ABS a_COALESCE a_CONCAT a_CURRENT_DATE a_CURRENT_TIME a_CURRENT_TIMESTAMP a_FUNCTION a_LENGTH a_LOCATE a_LOWER a_MOD a_NULLIF a_SIZE a_SQRT a_SUBSTRING a_UPPER)), .val (.int (fewF i)), .val (.int (mostF i)), .val (.int (0 : Int32))] [(.int (0 : Int32)), (.int (0 : Int32))])) (fun _ q => XS.iload X.here X.hx rfl (hb hby at_49) rfl q) ?_
      refine Goes.by (g' := (mkF m 54 #[.val (.int p0), .val (.int p1), .val (.int i), .val (.ref (selF i a_ABS a_COALESCE a_CONCAT a_CURRENT_DATE a_CURRENT_TIME a_CURRENT_TIMESTAMP a_FUNCTION a_LENGTH a_LOCATE a_LOWER a_MOD a_NULLIF a_SIZE a_SQRT a_SUBSTRING a_UPPER)), .val (.int (fewF i)), .val (.int (mostF i)), .val (.int (0 : Int32))] [])) (fun _ q => XS.icmpNo X.here X.hx rfl (hb hby at_51) rfl (teq (show (0 : Int32) = (0 : Int32) from (by decide))).2 q) ?_
      refine Goes.by (g' := (mkF m 55 #[.val (.int p0), .val (.int p1), .val (.int i), .val (.ref (selF i a_ABS a_COALESCE a_CONCAT a_CURRENT_DATE a_CURRENT_TIME a_CURRENT_TIMESTAMP a_FUNCTION a_LENGTH a_LOCATE a_LOWER a_MOD a_NULLIF a_SIZE a_SQRT a_SUBSTRING a_UPPER)), .val (.int (fewF i)), .val (.int (mostF i)), .val (.int (0 : Int32))] [(.int (1 : Int32))])) (fun _ q => XS.iconst X.here X.hx rfl (hb hby at_54) q) ?_
      refine Goes.by (g' := (mkF m 59 #[.val (.int p0), .val (.int p1), .val (.int i), .val (.ref (selF i a_ABS a_COALESCE a_CONCAT a_CURRENT_DATE a_CURRENT_TIME a_CURRENT_TIMESTAMP a_FUNCTION a_LENGTH a_LOCATE a_LOWER a_MOD a_NULLIF a_SIZE a_SQRT a_SUBSTRING a_UPPER)), .val (.int (fewF i)), .val (.int (mostF i)), .val (.int (0 : Int32))] [(.int (1 : Int32))])) (fun _ q => XS.goto X.here X.hx rfl (pc0 := 55) (pc' := 59) rfl (hb hby at_55) (by decide) (by decide) q) ?_
      exact X.retZ hret (hb hby at_59) (by decide) (by decide) rfl
    · skip
      refine Goes.by (g' := (mkF m 37 #[.val (.int p0), .val (.int p1), .val (.int i), .val (.ref (selF i a_ABS a_COALESCE a_CONCAT a_CURRENT_DATE a_CURRENT_TIME a_CURRENT_TIMESTAMP a_FUNCTION a_LENGTH a_LOCATE a_LOWER a_MOD a_NULLIF a_SIZE a_SQRT a_SUBSTRING a_UPPER)), .val (.int (fewF i)), .val (.int (mostF i)), .unset] [])) (fun _ q => XS.icmpNo X.here X.hx rfl (hb hby at_34) rfl (flt hB42).2.2.1 q) ?_
      refine Goes.by (g' := (mkF m 38 #[.val (.int p0), .val (.int p1), .val (.int i), .val (.ref (selF i a_ABS a_COALESCE a_CONCAT a_CURRENT_DATE a_CURRENT_TIME a_CURRENT_TIMESTAMP a_FUNCTION a_LENGTH a_LOCATE a_LOWER a_MOD a_NULLIF a_SIZE a_SQRT a_SUBSTRING a_UPPER)), .val (.int (fewF i)), .val (.int (mostF i)), .unset] [(.int (1 : Int32))])) (fun _ q => XS.iconst X.here X.hx rfl (hb hby at_37) q) ?_
      refine Goes.by (g' := (mkF m 42 #[.val (.int p0), .val (.int p1), .val (.int i), .val (.ref (selF i a_ABS a_COALESCE a_CONCAT a_CURRENT_DATE a_CURRENT_TIME a_CURRENT_TIMESTAMP a_FUNCTION a_LENGTH a_LOCATE a_LOWER a_MOD a_NULLIF a_SIZE a_SQRT a_SUBSTRING a_UPPER)), .val (.int (fewF i)), .val (.int (mostF i)), .unset] [(.int (1 : Int32))])) (fun _ q => XS.goto X.here X.hx rfl (pc0 := 38) (pc' := 42) rfl (hb hby at_38) (by decide) (by decide) q) ?_
      refine Goes.by (g' := (mkF m 44 #[.val (.int p0), .val (.int p1), .val (.int i), .val (.ref (selF i a_ABS a_COALESCE a_CONCAT a_CURRENT_DATE a_CURRENT_TIME a_CURRENT_TIMESTAMP a_FUNCTION a_LENGTH a_LOCATE a_LOWER a_MOD a_NULLIF a_SIZE a_SQRT a_SUBSTRING a_UPPER)), .val (.int (fewF i)), .val (.int (mostF i)), .val (.int (1 : Int32))] [])) (fun _ q => XS.istore X.here X.hx rfl (hb hby at_42) rfl (l' := #[.val (.int p0), .val (.int p1), .val (.int i), .val (.ref (selF i a_ABS a_COALESCE a_CONCAT a_CURRENT_DATE a_CURRENT_TIME a_CURRENT_TIMESTAMP a_FUNCTION a_LENGTH a_LOCATE a_LOWER a_MOD a_NULLIF a_SIZE a_SQRT a_SUBSTRING a_UPPER)), .val (.int (fewF i)), .val (.int (mostF i)), .val (.int (1 : Int32))]) rfl q) ?_
      refine Goes.by (g' := (mkF m 45 #[.val (.int p0), .val (.int p1), .val (.int i), .val (.ref (selF i a_ABS a_COALESCE a_CONCAT a_CURRENT_DATE a_CURRENT_TIME a_CURRENT_TIMESTAMP a_FUNCTION a_LENGTH a_LOCATE a_LOWER a_MOD a_NULLIF a_SIZE a_SQRT a_SUBSTRING a_UPPER)), .val (.int (fewF i)), .val (.int (mostF i)), .val (.int (1 : Int32))] [(.ref (selF i a_ABS a_COALESCE a_CONCAT a_CURRENT_DATE a_CURRENT_TIME a_CURRENT_TIMESTAMP a_FUNCTION a_LENGTH a_LOCATE a_LOWER a_MOD a_NULLIF a_SIZE a_SQRT a_SUBSTRING a_UPPER))])) (fun _ q => XS.aloadN X.here X.hx rfl (hb hby at_44) rfl rfl q) ?_
      refine Goes.by (g' := (mkF m 46 #[.val (.int p0), .val (.int p1), .val (.int i), .val (.ref (selF i a_ABS a_COALESCE a_CONCAT a_CURRENT_DATE a_CURRENT_TIME a_CURRENT_TIMESTAMP a_FUNCTION a_LENGTH a_LOCATE a_LOWER a_MOD a_NULLIF a_SIZE a_SQRT a_SUBSTRING a_UPPER)), .val (.int (fewF i)), .val (.int (mostF i)), .val (.int (1 : Int32))] [(.int p1), (.ref (selF i a_ABS a_COALESCE a_CONCAT a_CURRENT_DATE a_CURRENT_TIME a_CURRENT_TIMESTAMP a_FUNCTION a_LENGTH a_LOCATE a_LOWER a_MOD a_NULLIF a_SIZE a_SQRT a_SUBSTRING a_UPPER))])) (fun _ q => XS.iloadN X.here X.hx rfl (hb hby at_45) rfl q) ?_
      have X_o := X
      refine X.callV hE (hw _ (List.mem_of_getElem? (i := 14) rfl)) (hw _ (List.mem_of_getElem? (i := 15) rfl)) (hw _ (List.mem_of_getElem? (i := 17) rfl)) (hw _ (List.mem_of_getElem? (i := 17) rfl)) rfl (hw _ (List.mem_of_getElem? (i := 16) rfl)) (hw _ (List.mem_of_getElem? (i := 6) rfl)) (hw _ (List.mem_of_getElem? (i := 18) rfl)) (by decide) pd_2087992025 (argsL := [(.int p1)]) rfl (rm4 l Z a0 hw n0 h0 hn0 (selF i a_ABS a_COALESCE a_CONCAT a_CURRENT_DATE a_CURRENT_TIME a_CURRENT_TIMESTAMP a_FUNCTION a_LENGTH a_LOCATE a_LOWER a_MOD a_NULLIF a_SIZE a_SQRT a_SUBSTRING a_UPPER) p1 (fewF i) (mostF i) hF1 hF2) (by rw [hml]; rfl) rfl (by decide) (by decide) (hb hby at_46) (by decide) (by decide) (fun T h44 v X hQ => ?_)
      obtain ⟨rfl, hh⟩ := hQ
      rw [hh] at X
      clear hh
      rw [show (if p1 < fewF i then (0 : Int32) else if mostF i < p1 then 0 else 1) = 1 from by simp [hB40, hB42]]
      show Goes _ _ _ _ _ _ _ _ T (mkF m 49 #[.val (.int p0), .val (.int p1), .val (.int i), .val (.ref (selF i a_ABS a_COALESCE a_CONCAT a_CURRENT_DATE a_CURRENT_TIME a_CURRENT_TIMESTAMP a_FUNCTION a_LENGTH a_LOCATE a_LOWER a_MOD a_NULLIF a_SIZE a_SQRT a_SUBSTRING a_UPPER)), .val (.int (fewF i)), .val (.int (mostF i)), .val (.int (1 : Int32))] [(.int (1 : Int32))])
      refine Goes.by (g' := (mkF m 51 #[.val (.int p0), .val (.int p1), .val (.int i), .val (.ref (selF i a_ABS a_COALESCE a_CONCAT a_CURRENT_DATE a_CURRENT_TIME a_CURRENT_TIMESTAMP a_FUNCTION a_LENGTH a_LOCATE a_LOWER a_MOD a_NULLIF a_SIZE a_SQRT a_SUBSTRING a_UPPER)), .val (.int (fewF i)), .val (.int (mostF i)), .val (.int (1 : Int32))] [(.int (1 : Int32)), (.int (1 : Int32))])) (fun _ q => XS.iload X.here X.hx rfl (hb hby at_49) rfl q) ?_
      refine Goes.by (g' := (mkF m 54 #[.val (.int p0), .val (.int p1), .val (.int i), .val (.ref (selF i a_ABS a_COALESCE a_CONCAT a_CURRENT_DATE a_CURRENT_TIME a_CURRENT_TIMESTAMP a_FUNCTION a_LENGTH a_LOCATE a_LOWER a_MOD a_NULLIF a_SIZE a_SQRT a_SUBSTRING a_UPPER)), .val (.int (fewF i)), .val (.int (mostF i)), .val (.int (1 : Int32))] [])) (fun _ q => XS.icmpNo X.here X.hx rfl (hb hby at_51) rfl (teq (show (1 : Int32) = (1 : Int32) from (by decide))).2 q) ?_
      refine Goes.by (g' := (mkF m 55 #[.val (.int p0), .val (.int p1), .val (.int i), .val (.ref (selF i a_ABS a_COALESCE a_CONCAT a_CURRENT_DATE a_CURRENT_TIME a_CURRENT_TIMESTAMP a_FUNCTION a_LENGTH a_LOCATE a_LOWER a_MOD a_NULLIF a_SIZE a_SQRT a_SUBSTRING a_UPPER)), .val (.int (fewF i)), .val (.int (mostF i)), .val (.int (1 : Int32))] [(.int (1 : Int32))])) (fun _ q => XS.iconst X.here X.hx rfl (hb hby at_54) q) ?_
      refine Goes.by (g' := (mkF m 59 #[.val (.int p0), .val (.int p1), .val (.int i), .val (.ref (selF i a_ABS a_COALESCE a_CONCAT a_CURRENT_DATE a_CURRENT_TIME a_CURRENT_TIMESTAMP a_FUNCTION a_LENGTH a_LOCATE a_LOWER a_MOD a_NULLIF a_SIZE a_SQRT a_SUBSTRING a_UPPER)), .val (.int (fewF i)), .val (.int (mostF i)), .val (.int (1 : Int32))] [(.int (1 : Int32))])) (fun _ q => XS.goto X.here X.hx rfl (pc0 := 55) (pc' := 59) rfl (hb hby at_55) (by decide) (by decide) q) ?_
      exact X.retZ hret (hb hby at_59) (by decide) (by decide) rfl
set_option maxRecDepth 65536 in
set_option maxHeartbeats 40000000 in
theorem comes_1 {Post : Tables → Env → Array Value → State → Outcome → State → Prop} (hpost : ∀ tb e args s v u, (limb_1_1.after args s (.returned v) u = true ∧ limb_1_2.after args s (.returned v) u = true ∧ True) → EndF s (.returned v) u (Jvm.fieldLocs frame_1_writes args s ++ Jvm.arrayLocs frame_1_arrays args s ++ Jvm.staticLocs frame_1_statics s) 0 0 → Post tb e args s (.returned v) u) :
    ArmFor flags0 classFile x code maxLocals ret World_1 tables_1 room_1 Calls_1 rest_1 Pre_1 Post := by
  intro l hfl _ _ p e ha hc hk s m args below hf hA hF happ hP
  obtain ⟨hcalls, hrest, hpre⟩ := hP
  obtain ⟨-, -, -, hnamed, -, -, -, hat⟩ := (Spec.applies_iff hf).mp happ
  obtain ⟨hg, hn⟩ := and_e (Cond.before_iff.mp (show (Jvm.Cond.and given_1 narrow_1).before args s = true from hpre))
  obtain ⟨hcount, hg⟩ := and_e hg
  obtain ⟨w0, w1, rfl⟩ : ∃ w0 w1 : Value, args = #[w0, w1] := by
    have hs : args.size = 2 := by simpa [Cond.value, given_1] using hcount
    obtain ⟨L⟩ := args
    match L, hs with
    | [w0, w1], _ => exact ⟨w0, w1, rfl⟩
  obtain ⟨hg0, hg⟩ := and_e hg
  obtain ⟨p0, ep0⟩ := is_v hg0
  obtain rfl : w0 = (.int p0) := Option.some.inj ep0
  have hg1 := hg
  obtain ⟨p1, ep1⟩ := is_v hg1
  obtain rfl : w1 = (.int p1) := Option.some.inj ep1
  have hw := fun d (hd : d ∈ tables_1) => atoms_spec (ws := Jvm.Cond.code x code maxLocals ret :: tables_1) hat d (List.mem_cons_of_mem _ hd)
  have hfit : Fit s := fun {y c} hc i hi => by
    obtain ⟨ha, rfl⟩ := Array.getElem?_eq_some_iff.mp hc
    have q := List.all_eq_true.mp ((Array.all_eq_true_iff_forall_mem.mp hF) _ (Array.getElem_mem ha)) i (List.mem_range.mpr hi)
    simpa [Array.getElem?_eq_getElem hi] using q
  obtain ⟨c0, hn⟩ := and_e hn
  obtain ⟨c1, hn⟩ := and_e hn
  obtain ⟨c2, hn⟩ := and_e hn
  obtain ⟨c3, hn⟩ := and_e hn
  obtain ⟨c4, hn⟩ := and_e hn
  obtain ⟨c5, hn⟩ := and_e hn
  obtain ⟨c6, hn⟩ := and_e hn
  obtain ⟨c7, hn⟩ := and_e hn
  obtain ⟨c8, hn⟩ := and_e hn
  obtain ⟨c9, hn⟩ := and_e hn
  obtain ⟨c10, hn⟩ := and_e hn
  obtain ⟨c11, hn⟩ := and_e hn
  obtain ⟨c12, hn⟩ := and_e hn
  obtain ⟨c13, hn⟩ := and_e hn
  obtain ⟨c14, hn⟩ := and_e hn
  obtain ⟨c15, hn⟩ := and_e hn
  obtain ⟨c16, hn⟩ := and_e hn
  obtain ⟨c17, hn⟩ := and_e hn
  obtain ⟨c18, hn⟩ := and_e hn
  obtain ⟨c19, hn⟩ := and_e hn
  obtain ⟨c20, hn⟩ := and_e hn
  obtain ⟨c21, hn⟩ := and_e hn
  obtain ⟨c22, hn⟩ := and_e hn
  obtain ⟨c23, hn⟩ := and_e hn
  obtain ⟨c24, hn⟩ := and_e hn
  obtain ⟨c25, hn⟩ := and_e hn
  obtain ⟨c26, hn⟩ := and_e hn
  obtain ⟨c27, hn⟩ := and_e hn
  obtain ⟨c28, hn⟩ := and_e hn
  obtain ⟨c29, hn⟩ := and_e hn
  obtain ⟨c30, hn⟩ := and_e hn
  obtain ⟨c31, hn⟩ := and_e hn
  obtain ⟨c32, hn⟩ := and_e hn
  obtain ⟨c33, hn⟩ := and_e hn
  obtain ⟨c34, hn⟩ := and_e hn
  obtain ⟨c35, hn⟩ := and_e hn
  obtain ⟨c36, hn⟩ := and_e hn
  obtain ⟨c37, hn⟩ := and_e hn
  obtain ⟨c38, hn⟩ := and_e hn
  obtain ⟨c39, hn⟩ := and_e hn
  obtain ⟨c40, hn⟩ := and_e hn
  obtain ⟨c41, hn⟩ := and_e hn
  obtain ⟨c42, hn⟩ := and_e hn
  obtain ⟨c43, hn⟩ := and_e hn
  obtain ⟨c44, hn⟩ := and_e hn
  obtain ⟨c45, hn⟩ := and_e hn
  obtain ⟨c46, hn⟩ := and_e hn
  have c47 := hn
  obtain ⟨a_ABS, e_ABS⟩ := exa_v c0
  have E_ABS := Exa.start e_ABS c0
  have S_ABS : Sta s s.heap "com/example/objects_to_rows/objectstorows/query/QueryModel$Function" "ABS" "Lcom/example/objects_to_rows/objectstorows/query/QueryModel$Function;" (.ref a_ABS) := Sta.start e_ABS (Or.inr ⟨(hw _ (List.mem_of_getElem? (i := 6) rfl)), (hw _ (List.mem_of_getElem? (i := 7) rfl))⟩)
  obtain ⟨a_SUBSTRING, e_SUBSTRING⟩ := exa_v c3
  have E_SUBSTRING := Exa.start e_SUBSTRING c3
  have S_SUBSTRING : Sta s s.heap "com/example/objects_to_rows/objectstorows/query/QueryModel$Function" "SUBSTRING" "Lcom/example/objects_to_rows/objectstorows/query/QueryModel$Function;" (.ref a_SUBSTRING) := Sta.start e_SUBSTRING (Or.inr ⟨(hw _ (List.mem_of_getElem? (i := 6) rfl)), (hw _ (List.mem_of_getElem? (i := 24) rfl))⟩)
  obtain ⟨a_SIZE, e_SIZE⟩ := exa_v c5
  have E_SIZE := Exa.start e_SIZE c5
  have S_SIZE : Sta s s.heap "com/example/objects_to_rows/objectstorows/query/QueryModel$Function" "SIZE" "Lcom/example/objects_to_rows/objectstorows/query/QueryModel$Function;" (.ref a_SIZE) := Sta.start e_SIZE (Or.inr ⟨(hw _ (List.mem_of_getElem? (i := 6) rfl)), (hw _ (List.mem_of_getElem? (i := 26) rfl))⟩)
  obtain ⟨a_LOCATE, e_LOCATE⟩ := exa_v c8
  have E_LOCATE := Exa.start e_LOCATE c8
  have S_LOCATE : Sta s s.heap "com/example/objects_to_rows/objectstorows/query/QueryModel$Function" "LOCATE" "Lcom/example/objects_to_rows/objectstorows/query/QueryModel$Function;" (.ref a_LOCATE) := Sta.start e_LOCATE (Or.inr ⟨(hw _ (List.mem_of_getElem? (i := 6) rfl)), (hw _ (List.mem_of_getElem? (i := 28) rfl))⟩)
  obtain ⟨a_SQRT, e_SQRT⟩ := exa_v c10
  have E_SQRT := Exa.start e_SQRT c10
  have S_SQRT : Sta s s.heap "com/example/objects_to_rows/objectstorows/query/QueryModel$Function" "SQRT" "Lcom/example/objects_to_rows/objectstorows/query/QueryModel$Function;" (.ref a_SQRT) := Sta.start e_SQRT (Or.inr ⟨(hw _ (List.mem_of_getElem? (i := 6) rfl)), (hw _ (List.mem_of_getElem? (i := 30) rfl))⟩)
  obtain ⟨a_FUNCTION, e_FUNCTION⟩ := exa_v c13
  have E_FUNCTION := Exa.start e_FUNCTION c13
  have S_FUNCTION : Sta s s.heap "com/example/objects_to_rows/objectstorows/query/QueryModel$Function" "FUNCTION" "Lcom/example/objects_to_rows/objectstorows/query/QueryModel$Function;" (.ref a_FUNCTION) := Sta.start e_FUNCTION (Or.inr ⟨(hw _ (List.mem_of_getElem? (i := 6) rfl)), (hw _ (List.mem_of_getElem? (i := 32) rfl))⟩)
  obtain ⟨a_LENGTH, e_LENGTH⟩ := exa_v c16
  have E_LENGTH := Exa.start e_LENGTH c16
  have S_LENGTH : Sta s s.heap "com/example/objects_to_rows/objectstorows/query/QueryModel$Function" "LENGTH" "Lcom/example/objects_to_rows/objectstorows/query/QueryModel$Function;" (.ref a_LENGTH) := Sta.start e_LENGTH (Or.inr ⟨(hw _ (List.mem_of_getElem? (i := 6) rfl)), (hw _ (List.mem_of_getElem? (i := 34) rfl))⟩)
  obtain ⟨a_CURRENT_DATE, e_CURRENT_DATE⟩ := exa_v c19
  have E_CURRENT_DATE := Exa.start e_CURRENT_DATE c19
  have S_CURRENT_DATE : Sta s s.heap "com/example/objects_to_rows/objectstorows/query/QueryModel$Function" "CURRENT_DATE" "Lcom/example/objects_to_rows/objectstorows/query/QueryModel$Function;" (.ref a_CURRENT_DATE) := Sta.start e_CURRENT_DATE (Or.inr ⟨(hw _ (List.mem_of_getElem? (i := 6) rfl)), (hw _ (List.mem_of_getElem? (i := 36) rfl))⟩)
  obtain ⟨a_UPPER, e_UPPER⟩ := exa_v c22
  have E_UPPER := Exa.start e_UPPER c22
  have S_UPPER : Sta s s.heap "com/example/objects_to_rows/objectstorows/query/QueryModel$Function" "UPPER" "Lcom/example/objects_to_rows/objectstorows/query/QueryModel$Function;" (.ref a_UPPER) := Sta.start e_UPPER (Or.inr ⟨(hw _ (List.mem_of_getElem? (i := 6) rfl)), (hw _ (List.mem_of_getElem? (i := 38) rfl))⟩)
  obtain ⟨a_COALESCE, e_COALESCE⟩ := exa_v c24
  have E_COALESCE := Exa.start e_COALESCE c24
  have S_COALESCE : Sta s s.heap "com/example/objects_to_rows/objectstorows/query/QueryModel$Function" "COALESCE" "Lcom/example/objects_to_rows/objectstorows/query/QueryModel$Function;" (.ref a_COALESCE) := Sta.start e_COALESCE (Or.inr ⟨(hw _ (List.mem_of_getElem? (i := 6) rfl)), (hw _ (List.mem_of_getElem? (i := 40) rfl))⟩)
  obtain ⟨a_CURRENT_TIMESTAMP, e_CURRENT_TIMESTAMP⟩ := exa_v c27
  have E_CURRENT_TIMESTAMP := Exa.start e_CURRENT_TIMESTAMP c27
  have S_CURRENT_TIMESTAMP : Sta s s.heap "com/example/objects_to_rows/objectstorows/query/QueryModel$Function" "CURRENT_TIMESTAMP" "Lcom/example/objects_to_rows/objectstorows/query/QueryModel$Function;" (.ref a_CURRENT_TIMESTAMP) := Sta.start e_CURRENT_TIMESTAMP (Or.inr ⟨(hw _ (List.mem_of_getElem? (i := 6) rfl)), (hw _ (List.mem_of_getElem? (i := 42) rfl))⟩)
  obtain ⟨a_CONCAT, e_CONCAT⟩ := exa_v c33
  have E_CONCAT := Exa.start e_CONCAT c33
  have S_CONCAT : Sta s s.heap "com/example/objects_to_rows/objectstorows/query/QueryModel$Function" "CONCAT" "Lcom/example/objects_to_rows/objectstorows/query/QueryModel$Function;" (.ref a_CONCAT) := Sta.start e_CONCAT (Or.inr ⟨(hw _ (List.mem_of_getElem? (i := 6) rfl)), (hw _ (List.mem_of_getElem? (i := 44) rfl))⟩)
  obtain ⟨a_MOD, e_MOD⟩ := exa_v c36
  have E_MOD := Exa.start e_MOD c36
  have S_MOD : Sta s s.heap "com/example/objects_to_rows/objectstorows/query/QueryModel$Function" "MOD" "Lcom/example/objects_to_rows/objectstorows/query/QueryModel$Function;" (.ref a_MOD) := Sta.start e_MOD (Or.inr ⟨(hw _ (List.mem_of_getElem? (i := 6) rfl)), (hw _ (List.mem_of_getElem? (i := 46) rfl))⟩)
  obtain ⟨a_NULLIF, e_NULLIF⟩ := exa_v c39
  have E_NULLIF := Exa.start e_NULLIF c39
  have S_NULLIF : Sta s s.heap "com/example/objects_to_rows/objectstorows/query/QueryModel$Function" "NULLIF" "Lcom/example/objects_to_rows/objectstorows/query/QueryModel$Function;" (.ref a_NULLIF) := Sta.start e_NULLIF (Or.inr ⟨(hw _ (List.mem_of_getElem? (i := 6) rfl)), (hw _ (List.mem_of_getElem? (i := 48) rfl))⟩)
  obtain ⟨a_LOWER, e_LOWER⟩ := exa_v c41
  have E_LOWER := Exa.start e_LOWER c41
  have S_LOWER : Sta s s.heap "com/example/objects_to_rows/objectstorows/query/QueryModel$Function" "LOWER" "Lcom/example/objects_to_rows/objectstorows/query/QueryModel$Function;" (.ref a_LOWER) := Sta.start e_LOWER (Or.inr ⟨(hw _ (List.mem_of_getElem? (i := 6) rfl)), (hw _ (List.mem_of_getElem? (i := 50) rfl))⟩)
  obtain ⟨a_CURRENT_TIME, e_CURRENT_TIME⟩ := exa_v c44
  have E_CURRENT_TIME := Exa.start e_CURRENT_TIME c44
  have S_CURRENT_TIME : Sta s s.heap "com/example/objects_to_rows/objectstorows/query/QueryModel$Function" "CURRENT_TIME" "Lcom/example/objects_to_rows/objectstorows/query/QueryModel$Function;" (.ref a_CURRENT_TIME) := Sta.start e_CURRENT_TIME (Or.inr ⟨(hw _ (List.mem_of_getElem? (i := 6) rfl)), (hw _ (List.mem_of_getElem? (i := 52) rfl))⟩)
  have F_ABS_fewest := fldEq e_ABS c1
  have F_ABS_most := fldEq e_ABS c2
  have F_SUBSTRING_fewest := fldEq e_SUBSTRING c4
  have F_SIZE_fewest := fldEq e_SIZE c6
  have F_SIZE_most := fldEq e_SIZE c7
  have F_LOCATE_fewest := fldEq e_LOCATE c9
  have F_SQRT_fewest := fldEq e_SQRT c11
  have F_SQRT_most := fldEq e_SQRT c12
  have F_FUNCTION_fewest := fldEq e_FUNCTION c14
  have F_LOCATE_most := fldEq e_LOCATE c15
  have F_LENGTH_fewest := fldEq e_LENGTH c17
  have F_LENGTH_most := fldEq e_LENGTH c18
  have F_CURRENT_DATE_fewest := fldEq e_CURRENT_DATE c20
  have F_CURRENT_DATE_most := fldEq e_CURRENT_DATE c21
  have F_UPPER_fewest := fldEq e_UPPER c23
  have F_COALESCE_fewest := fldEq e_COALESCE c25
  have F_COALESCE_most := fldEq e_COALESCE c26
  have F_CURRENT_TIMESTAMP_fewest := fldEq e_CURRENT_TIMESTAMP c28
  have F_CURRENT_TIMESTAMP_most := fldEq e_CURRENT_TIMESTAMP c29
  have F_UPPER_most := fldEq e_UPPER c30
  have F_SUBSTRING_most := fldEq e_SUBSTRING c31
  have F_FUNCTION_most := fldEq e_FUNCTION c32
  have F_CONCAT_fewest := fldEq e_CONCAT c34
  have F_CONCAT_most := fldEq e_CONCAT c35
  have F_MOD_fewest := fldEq e_MOD c37
  have F_MOD_most := fldEq e_MOD c38
  have F_NULLIF_fewest := fldEq e_NULLIF c40
  have F_LOWER_fewest := fldEq e_LOWER c42
  have F_LOWER_most := fldEq e_LOWER c43
  have F_CURRENT_TIME_fewest := fldEq e_CURRENT_TIME c45
  have F_CURRENT_TIME_most := fldEq e_CURRENT_TIME c46
  have F_NULLIF_most := fldEq e_NULLIF c47
  obtain ⟨n, o, h1, h2, h3, _, L, rfl, ⟨N, rfl⟩, hq⟩ := rm0 l s _ hw s.heap.size s.heap (Nat.le_refl _) tables_1 p0 p1 a_ABS S_ABS a_COALESCE S_COALESCE a_CONCAT S_CONCAT a_CURRENT_DATE S_CURRENT_DATE a_CURRENT_TIME S_CURRENT_TIME a_CURRENT_TIMESTAMP S_CURRENT_TIMESTAMP a_FUNCTION S_FUNCTION a_LENGTH S_LENGTH a_LOCATE S_LOCATE a_LOWER S_LOWER a_MOD S_MOD a_NULLIF S_NULLIF a_SIZE S_SIZE a_SQRT S_SQRT a_SUBSTRING S_SUBSTRING a_UPPER S_UPPER E_ABS E_COALESCE E_CONCAT E_CURRENT_DATE E_CURRENT_TIME E_CURRENT_TIMESTAMP E_FUNCTION E_LENGTH E_LOCATE E_LOWER E_MOD E_NULLIF E_SIZE E_SQRT E_SUBSTRING E_UPPER F_ABS_fewest F_ABS_most F_COALESCE_fewest F_COALESCE_most F_CONCAT_fewest F_CONCAT_most F_CURRENT_DATE_fewest F_CURRENT_DATE_most F_CURRENT_TIME_fewest F_CURRENT_TIME_most F_CURRENT_TIMESTAMP_fewest F_CURRENT_TIMESTAMP_most F_FUNCTION_fewest F_FUNCTION_most F_LENGTH_fewest F_LENGTH_most F_LOCATE_fewest F_LOCATE_most F_LOWER_fewest F_LOWER_most F_MOD_fewest F_MOD_most F_NULLIF_fewest F_NULLIF_most F_SIZE_fewest F_SIZE_most F_SQRT_fewest F_SQRT_most F_SUBSTRING_fewest F_SUBSTRING_most F_UPPER_fewest F_UPPER_most p e ha hc hk s m _ below hf ((Spec.applies_iff_loose hf).mp happ).1 ⟨rfl, State.Warmed39.refl s, rfl⟩ trivial
  refine ⟨n, _, h1, h2, h3, hpost _ _ _ _ _ _ ⟨Cond.after_iff.mpr rfl, Cond.after_iff.mpr (eq_i res_at (Term.int_eval (1)) rfl), trivial⟩ ⟨hq.1, hq.2.1, (hq.2.2.sift fun y hy => Or.inr (N y hy)).mono (by decide) (by decide)⟩⟩
theorem main_1_1 : Claimed_1_1 := comes_1 fun _ _ _ _ _ _ h hF => ⟨h.1, hF⟩
theorem main_1_2 : Claimed_1_2 := comes_1 fun _ _ _ _ _ _ h hF => ⟨h.2.1, hF⟩
end Jvm.Pilot.@@N@@
namespace Jvm.Pilot.@@N@@
open Jvm Jvm.ClassFile Sem Op Lib Jvm.Free Jvm.Stand Jvm.Pilot.@@N@@.Jvm.D
/-! MADE BY PROGRAM (witnessworld.py) out of the Statement's table words and the real class files: 12 classes; the members and pool entries that the words name. The judged class is class 1, her method 1. -/
namespace start1
open Jvm.ClassFile
def u (s : String) : CpInfo := .utf8 (stringToUtf16 s)
/-- a pool by its gaps: so many unusable entries, then the entry; so many at the end -/
def gap : Nat → List CpInfo → List CpInfo
  | 0, r => r
  | n + 1, r => .unusable :: gap n r
def poolList (es : List (Nat × CpInfo)) (last : Nat) : List CpInfo := es.foldr (fun e r => gap e.1 (e.2 :: r)) (gap last [])
def pool (es : List (Nat × CpInfo)) (last : Nat) : Array CpInfo := ⟨poolList es last⟩
def fileOf (pool : Array CpInfo) (this : Nat) (attrs : Array Attribute := #[]) (ms : Array MethodInfo := #[]) (fl : Nat := 33) (sup : Nat := 0) (ifs : Array Nat := #[]) (fds : Array FieldInfo := #[]) : ClassFile where
  minorVersion := 0
  majorVersion := 65
  constantPool := pool
  accessFlags := fl
  thisClass := this
  superClass := sup
  interfaces := ifs
  fields := fds
  methods := ms
  attributes := attrs
def plain (name : String) (sup : Option ClassId) : Class where
  name := name
  kind := .ordinary
  loader := none
  accessFlags := 33
  super := sup
  interfaces := #[]
  cf := none
  fields := #[]
  methods := #[]
  instanceTypes := #[]
  staticTypes := #[]
  resolved := #[]
  callSites := []
  init := .initialized
  statics := none
  mirror := none

def pool0 : Array CpInfo := pool [(5, u "<init>"), (0, u "()V"), (1, .class_ 10), (1, u "java/lang/Object")] 113

def k0m0 : Method := { name := "<init>", desc := "()V", sig := { parameters := [], returnType := none }, accessFlags := 1, code := none }
/-- java/lang/Object -/
def k0 : Class := { plain "java/lang/Object" none with
  accessFlags := 33
  interfaces := #[]
  cf := some (fileOf pool0 8 #[] #[{ accessFlags := 1, nameIndex := 5, descriptorIndex := 6, attributes := #[] }] 33 0 #[] #[])
  fields := #[]
  methods := #[k0m0]
  instanceTypes := #[]
  staticTypes := #[]
  resolved := Array.replicate 124 none
  statics := none }

def pool1 : Array CpInfo := pool [(2, .class_ 4), (1, u "java/lang/Object"), (0, u "<init>"), (0, u "()V"), (0, .integer 2147483647), (0, .methodref 9 10), (0, .class_ 11), (0, .nameAndType 12 13), (0, u "com/example/objects_to_rows/objectstorows/query/FunctionTakesPinLaw"), (0, u "pick"), (0, u "(I)Lcom/example/objects_to_rows/objectstorows/query/QueryModel$Function;"), (0, .methodref 9 15), (0, .nameAndType 16 17), (0, u "fewest"), (0, u "(I)I"), (0, .methodref 9 19), (0, .nameAndType 20 17), (0, u "most"), (0, .methodref 22 23), (0, .class_ 24), (0, .nameAndType 25 26), (0, u "com/example/objects_to_rows/objectstorows/query/QueryModel$Function"), (0, u "takes"), (0, u "(I)Z"), (0, .fieldref 22 28), (0, .nameAndType 29 30), (0, u "ABS"), (0, u "Lcom/example/objects_to_rows/objectstorows/query/QueryModel$Function;"), (0, .fieldref 22 32), (0, .nameAndType 33 30), (0, u "COALESCE"), (0, .fieldref 22 35), (0, .nameAndType 36 30), (0, u "CONCAT"), (0, .fieldref 22 38), (0, .nameAndType 39 30), (0, u "CURRENT_DATE"), (0, .fieldref 22 41), (0, .nameAndType 42 30), (0, u "CURRENT_TIME"), (0, .fieldref 22 44), (0, .nameAndType 45 30), (0, u "CURRENT_TIMESTAMP"), (0, .fieldref 22 47), (0, .nameAndType 48 30), (0, u "FUNCTION"), (0, .fieldref 22 50), (0, .nameAndType 51 30), (0, u "LENGTH"), (0, .fieldref 22 53), (0, .nameAndType 54 30), (0, u "LOCATE"), (0, .fieldref 22 56), (0, .nameAndType 57 30), (0, u "LOWER"), (0, .fieldref 22 59), (0, .nameAndType 60 30), (0, u "MOD"), (0, .fieldref 22 62), (0, .nameAndType 63 30), (0, u "NULLIF"), (0, .fieldref 22 65), (0, .nameAndType 66 30), (0, u "SIZE"), (0, .fieldref 22 68), (0, .nameAndType 69 30), (0, u "SQRT"), (0, .fieldref 22 71), (0, .nameAndType 72 30), (0, u "SUBSTRING"), (0, .fieldref 22 74), (0, .nameAndType 75 30), (0, u "UPPER"), (4, u "law"), (0, u "(II)Z")] 7

def k1m0 : Method := { name := "<init>", desc := "()V", sig := { parameters := [], returnType := none }, accessFlags := 2, code := none }
def k1c1 : Code := { maxStack := 2, maxLocals := 7, code := code, exceptionTable := #[], attributes := #[] }
def k1m1 : Method := { name := "law", desc := "(II)Z", sig := { parameters := [.int, .int], returnType := some .boolean }, accessFlags := 9, code := some k1c1 }
def k1c2 : Code := { maxStack := 2, maxLocals := 1, code := method_3_code, exceptionTable := #[], attributes := #[] }
def k1m2 : Method := { name := "pick", desc := "(I)Lcom/example/objects_to_rows/objectstorows/query/QueryModel$Function;", sig := { parameters := [.int], returnType := some (.object "com/example/objects_to_rows/objectstorows/query/QueryModel$Function") }, accessFlags := 10, code := some k1c2 }
def k1c3 : Code := { maxStack := 2, maxLocals := 1, code := method_4_code, exceptionTable := #[], attributes := #[] }
def k1m3 : Method := { name := "fewest", desc := "(I)I", sig := { parameters := [.int], returnType := some .int }, accessFlags := 10, code := some k1c3 }
def k1c4 : Code := { maxStack := 2, maxLocals := 1, code := method_5_code, exceptionTable := #[], attributes := #[] }
def k1m4 : Method := { name := "most", desc := "(I)I", sig := { parameters := [.int], returnType := some .int }, accessFlags := 10, code := some k1c4 }
/-- com/example/objects_to_rows/objectstorows/query/FunctionTakesPinLaw -/
def k1 : Class := { plain "com/example/objects_to_rows/objectstorows/query/FunctionTakesPinLaw" (some 0) with
  accessFlags := 49
  interfaces := #[]
  cf := some (fileOf pool1 9 #[] #[{ accessFlags := 2, nameIndex := 5, descriptorIndex := 6, attributes := #[] }, { accessFlags := 9, nameIndex := 80, descriptorIndex := 81, attributes := #[] }, { accessFlags := 10, nameIndex := 12, descriptorIndex := 13, attributes := #[] }, { accessFlags := 10, nameIndex := 16, descriptorIndex := 17, attributes := #[] }, { accessFlags := 10, nameIndex := 20, descriptorIndex := 17, attributes := #[] }] 49 2 #[] #[])
  fields := #[]
  methods := #[k1m0, k1m1, k1m2, k1m3, k1m4]
  instanceTypes := #[]
  staticTypes := #[]
  resolved := Array.replicate 89 none
  statics := none }

def pool2 : Array CpInfo := pool [(1, .class_ 2), (0, u "java/lang/constant/Constable"), (0, .class_ 4), (0, u "java/lang/Object")] 6

/-- java/lang/constant/Constable -/
def k2 : Class := { plain "java/lang/constant/Constable" (some 0) with
  accessFlags := 1537
  interfaces := #[]
  cf := some (fileOf pool2 1 #[] #[] 1537 3 #[] #[])
  fields := #[]
  methods := #[]
  instanceTypes := #[]
  staticTypes := #[]
  resolved := Array.replicate 11 none
  statics := none }

def pool3 : Array CpInfo := pool [(1, .class_ 2), (0, u "java/lang/Comparable"), (0, .class_ 4), (0, u "java/lang/Object")] 7

/-- java/lang/Comparable -/
def k3 : Class := { plain "java/lang/Comparable" (some 0) with
  accessFlags := 1537
  interfaces := #[]
  cf := some (fileOf pool3 1 #[] #[] 1537 3 #[] #[])
  fields := #[]
  methods := #[]
  instanceTypes := #[]
  staticTypes := #[]
  resolved := Array.replicate 12 none
  statics := none }

def pool4 : Array CpInfo := pool [(1, .class_ 2), (0, u "java/io/Serializable"), (0, .class_ 4), (0, u "java/lang/Object")] 2

/-- java/io/Serializable -/
def k4 : Class := { plain "java/io/Serializable" (some 0) with
  accessFlags := 1537
  interfaces := #[]
  cf := some (fileOf pool4 1 #[] #[] 1537 3 #[] #[])
  fields := #[]
  methods := #[]
  instanceTypes := #[]
  staticTypes := #[]
  resolved := Array.replicate 7 none
  statics := none }

def pool5 : Array CpInfo := pool [(2, .class_ 4), (1, u "java/lang/Enum"), (0, u "name"), (0, u "Ljava/lang/String;"), (2, u "ordinal"), (0, u "I"), (1, .class_ 14), (1, u "java/lang/Object"), (4, u "hash"), (86, .class_ 108), (1, u "java/lang/Enum$EnumDesc"), (2, .class_ 112), (0, u "java/lang/constant/Constable"), (0, .class_ 114), (0, u "java/lang/Comparable"), (0, .class_ 116), (0, u "java/io/Serializable")] 87

/-- java/lang/Enum -/
def k5 : Class := { plain "java/lang/Enum" (some 0) with
  accessFlags := 1057
  interfaces := #[2, 3, 4]
  cf := some (fileOf pool5 2 #[.nestMembers #[106]] #[] 1057 12 #[111, 113, 115] #[{ accessFlags := 18, nameIndex := 5, descriptorIndex := 6, attributes := #[] }, { accessFlags := 18, nameIndex := 9, descriptorIndex := 10, attributes := #[] }, { accessFlags := 2, nameIndex := 19, descriptorIndex := 10, attributes := #[] }])
  fields := #[{ name := "name", type := (.object "java/lang/String"), accessFlags := 18, slot := 0, constantValue := 0 }, { name := "ordinal", type := .int, accessFlags := 18, slot := 1, constantValue := 0 }, { name := "hash", type := .int, accessFlags := 2, slot := 2, constantValue := 0 }]
  methods := #[]
  instanceTypes := #[(.object "java/lang/String"), .int, .int]
  staticTypes := #[]
  resolved := Array.replicate 204 none
  statics := none }

def pool6 : Array CpInfo := pool [(1, .class_ 2), (0, u "com/example/objects_to_rows/objectstorows/query/QueryModel$Function"), (2, u "ABS"), (0, u "Lcom/example/objects_to_rows/objectstorows/query/QueryModel$Function;"), (2, u "COALESCE"), (2, u "CONCAT"), (2, u "CURRENT_DATE"), (2, u "CURRENT_TIME"), (2, u "CURRENT_TIMESTAMP"), (2, u "FUNCTION"), (2, u "LENGTH"), (2, u "LOCATE"), (2, u "LOWER"), (2, u "MOD"), (2, u "NULLIF"), (2, u "SIZE"), (2, u "SQRT"), (2, u "SUBSTRING"), (2, u "UPPER"), (2, u "$VALUES"), (0, u "[Lcom/example/objects_to_rows/objectstorows/query/QueryModel$Function;"), (6, .class_ 64), (1, u "java/lang/Enum"), (6, .fieldref 1 72), (0, .nameAndType 73 74), (0, u "fewest"), (0, u "I"), (0, .fieldref 1 76), (0, .nameAndType 77 74), (0, u "most"), (47, u "takes"), (0, u "(I)Z"), (6, .class_ 134), (0, u "com/example/objects_to_rows/objectstorows/query/QueryModel")] 2

def k6c0 : Code := { maxStack := 2, maxLocals := 2, code := prog_44_method_5_code, exceptionTable := #[], attributes := #[] }
def k6m0 : Method := { name := "takes", desc := "(I)Z", sig := { parameters := [.int], returnType := some .boolean }, accessFlags := 0, code := some k6c0 }
/-- com/example/objects_to_rows/objectstorows/query/QueryModel$Function -/
def k6 : Class := { plain "com/example/objects_to_rows/objectstorows/query/QueryModel$Function" (some 5) with
  accessFlags := 16433
  interfaces := #[]
  cf := some (fileOf pool6 1 #[.nestHost 133] #[{ accessFlags := 0, nameIndex := 125, descriptorIndex := 126, attributes := #[] }] 16433 62 #[] #[{ accessFlags := 16409, nameIndex := 5, descriptorIndex := 6, attributes := #[] }, { accessFlags := 16409, nameIndex := 9, descriptorIndex := 6, attributes := #[] }, { accessFlags := 16409, nameIndex := 12, descriptorIndex := 6, attributes := #[] }, { accessFlags := 16409, nameIndex := 15, descriptorIndex := 6, attributes := #[] }, { accessFlags := 16409, nameIndex := 18, descriptorIndex := 6, attributes := #[] }, { accessFlags := 16409, nameIndex := 21, descriptorIndex := 6, attributes := #[] }, { accessFlags := 16409, nameIndex := 24, descriptorIndex := 6, attributes := #[] }, { accessFlags := 16409, nameIndex := 27, descriptorIndex := 6, attributes := #[] }, { accessFlags := 16409, nameIndex := 30, descriptorIndex := 6, attributes := #[] }, { accessFlags := 16409, nameIndex := 33, descriptorIndex := 6, attributes := #[] }, { accessFlags := 16409, nameIndex := 36, descriptorIndex := 6, attributes := #[] }, { accessFlags := 16409, nameIndex := 39, descriptorIndex := 6, attributes := #[] }, { accessFlags := 16409, nameIndex := 42, descriptorIndex := 6, attributes := #[] }, { accessFlags := 16409, nameIndex := 45, descriptorIndex := 6, attributes := #[] }, { accessFlags := 16409, nameIndex := 48, descriptorIndex := 6, attributes := #[] }, { accessFlags := 16409, nameIndex := 51, descriptorIndex := 6, attributes := #[] }, { accessFlags := 18, nameIndex := 73, descriptorIndex := 74, attributes := #[] }, { accessFlags := 18, nameIndex := 77, descriptorIndex := 74, attributes := #[] }, { accessFlags := 4122, nameIndex := 54, descriptorIndex := 55, attributes := #[] }])
  fields := #[{ name := "ABS", type := (.object "com/example/objects_to_rows/objectstorows/query/QueryModel$Function"), accessFlags := 16409, slot := 0, constantValue := 0 }, { name := "COALESCE", type := (.object "com/example/objects_to_rows/objectstorows/query/QueryModel$Function"), accessFlags := 16409, slot := 1, constantValue := 0 }, { name := "CONCAT", type := (.object "com/example/objects_to_rows/objectstorows/query/QueryModel$Function"), accessFlags := 16409, slot := 2, constantValue := 0 }, { name := "CURRENT_DATE", type := (.object "com/example/objects_to_rows/objectstorows/query/QueryModel$Function"), accessFlags := 16409, slot := 3, constantValue := 0 }, { name := "CURRENT_TIME", type := (.object "com/example/objects_to_rows/objectstorows/query/QueryModel$Function"), accessFlags := 16409, slot := 4, constantValue := 0 }, { name := "CURRENT_TIMESTAMP", type := (.object "com/example/objects_to_rows/objectstorows/query/QueryModel$Function"), accessFlags := 16409, slot := 5, constantValue := 0 }, { name := "FUNCTION", type := (.object "com/example/objects_to_rows/objectstorows/query/QueryModel$Function"), accessFlags := 16409, slot := 6, constantValue := 0 }, { name := "LENGTH", type := (.object "com/example/objects_to_rows/objectstorows/query/QueryModel$Function"), accessFlags := 16409, slot := 7, constantValue := 0 }, { name := "LOCATE", type := (.object "com/example/objects_to_rows/objectstorows/query/QueryModel$Function"), accessFlags := 16409, slot := 8, constantValue := 0 }, { name := "LOWER", type := (.object "com/example/objects_to_rows/objectstorows/query/QueryModel$Function"), accessFlags := 16409, slot := 9, constantValue := 0 }, { name := "MOD", type := (.object "com/example/objects_to_rows/objectstorows/query/QueryModel$Function"), accessFlags := 16409, slot := 10, constantValue := 0 }, { name := "NULLIF", type := (.object "com/example/objects_to_rows/objectstorows/query/QueryModel$Function"), accessFlags := 16409, slot := 11, constantValue := 0 }, { name := "SIZE", type := (.object "com/example/objects_to_rows/objectstorows/query/QueryModel$Function"), accessFlags := 16409, slot := 12, constantValue := 0 }, { name := "SQRT", type := (.object "com/example/objects_to_rows/objectstorows/query/QueryModel$Function"), accessFlags := 16409, slot := 13, constantValue := 0 }, { name := "SUBSTRING", type := (.object "com/example/objects_to_rows/objectstorows/query/QueryModel$Function"), accessFlags := 16409, slot := 14, constantValue := 0 }, { name := "UPPER", type := (.object "com/example/objects_to_rows/objectstorows/query/QueryModel$Function"), accessFlags := 16409, slot := 15, constantValue := 0 }, { name := "fewest", type := .int, accessFlags := 18, slot := 3, constantValue := 0 }, { name := "most", type := .int, accessFlags := 18, slot := 4, constantValue := 0 }, { name := "$VALUES", type := (.array (.object "com/example/objects_to_rows/objectstorows/query/QueryModel$Function")), accessFlags := 4122, slot := 16, constantValue := 0 }]
  methods := #[k6m0]
  instanceTypes := #[(.object "java/lang/String"), .int, .int, .int, .int]
  staticTypes := #[(.object "com/example/objects_to_rows/objectstorows/query/QueryModel$Function"), (.object "com/example/objects_to_rows/objectstorows/query/QueryModel$Function"), (.object "com/example/objects_to_rows/objectstorows/query/QueryModel$Function"), (.object "com/example/objects_to_rows/objectstorows/query/QueryModel$Function"), (.object "com/example/objects_to_rows/objectstorows/query/QueryModel$Function"), (.object "com/example/objects_to_rows/objectstorows/query/QueryModel$Function"), (.object "com/example/objects_to_rows/objectstorows/query/QueryModel$Function"), (.object "com/example/objects_to_rows/objectstorows/query/QueryModel$Function"), (.object "com/example/objects_to_rows/objectstorows/query/QueryModel$Function"), (.object "com/example/objects_to_rows/objectstorows/query/QueryModel$Function"), (.object "com/example/objects_to_rows/objectstorows/query/QueryModel$Function"), (.object "com/example/objects_to_rows/objectstorows/query/QueryModel$Function"), (.object "com/example/objects_to_rows/objectstorows/query/QueryModel$Function"), (.object "com/example/objects_to_rows/objectstorows/query/QueryModel$Function"), (.object "com/example/objects_to_rows/objectstorows/query/QueryModel$Function"), (.object "com/example/objects_to_rows/objectstorows/query/QueryModel$Function"), (.array (.object "com/example/objects_to_rows/objectstorows/query/QueryModel$Function"))]
  resolved := Array.replicate 137 none
  statics := some 0 }

def pool7 : Array CpInfo := pool [(1, u "java/lang/Cloneable"), (0, .class_ 1), (0, u "java/lang/Object"), (0, .class_ 3)] 3

/-- java/lang/Cloneable -/
def k7 : Class := { plain "java/lang/Cloneable" (some 0) with
  accessFlags := 1537
  interfaces := #[]
  cf := some (fileOf pool7 2 #[] #[] 1537 4 #[] #[])
  fields := #[]
  methods := #[]
  instanceTypes := #[]
  staticTypes := #[]
  resolved := Array.replicate 8 none
  statics := none }

/-- the primitive byte -/
def k8 : Class := { plain "byte" none with kind := .primitive 'B', accessFlags := 0x411 }
/-- [B -/
def k9 : Class := { plain "[B" (some 0) with kind := .array 8 .byte, interfaces := #[7, 4], accessFlags := 1041 }

/-- the primitive int -/
def k10 : Class := { plain "int" none with kind := .primitive 'I', accessFlags := 0x411 }
/-- [I -/
def k11 : Class := { plain "[I" (some 0) with kind := .array 10 .int, interfaces := #[7, 4], accessFlags := 1041 }

def heap : Heap := #[{ cls := 6, slots := #[.ref 1, .ref 10, .ref 12, .ref 8, .ref 16, .ref 11, .ref 6, .ref 7, .ref 4, .ref 15, .ref 13, .ref 14, .ref 3, .ref 5, .ref 2, .ref 9, .null], vm := .statics 6 },
  { cls := 6, slots := #[.null, .int 0, .int 0, .int 1, .int 1], vm := .none },
  { cls := 6, slots := #[.null, .int 0, .int 0, .int 2, .int 3], vm := .none },
  { cls := 6, slots := #[.null, .int 0, .int 0, .int 1, .int 1], vm := .none },
  { cls := 6, slots := #[.null, .int 0, .int 0, .int 2, .int 3], vm := .none },
  { cls := 6, slots := #[.null, .int 0, .int 0, .int 1, .int 1], vm := .none },
  { cls := 6, slots := #[.null, .int 0, .int 0, .int 1, .int 2147483647], vm := .none },
  { cls := 6, slots := #[.null, .int 0, .int 0, .int 1, .int 1], vm := .none },
  { cls := 6, slots := #[.null, .int 0, .int 0, .int 0, .int 0], vm := .none },
  { cls := 6, slots := #[.null, .int 0, .int 0, .int 1, .int 1], vm := .none },
  { cls := 6, slots := #[.null, .int 0, .int 0, .int 2, .int 2147483647], vm := .none },
  { cls := 6, slots := #[.null, .int 0, .int 0, .int 0, .int 0], vm := .none },
  { cls := 6, slots := #[.null, .int 0, .int 0, .int 2, .int 2147483647], vm := .none },
  { cls := 6, slots := #[.null, .int 0, .int 0, .int 2, .int 2], vm := .none },
  { cls := 6, slots := #[.null, .int 0, .int 0, .int 2, .int 2], vm := .none },
  { cls := 6, slots := #[.null, .int 0, .int 0, .int 1, .int 1], vm := .none },
  { cls := 6, slots := #[.null, .int 0, .int 0, .int 0, .int 0], vm := .none }]
def classes : Array Class := #[k0, k1, k2, k3, k4, k5, k6, k7, k8, k9, k10, k11]
def interned : List (Array UInt16 × Addr) := []
def slotsUsed : Nat := 97
def theMethod : MethodId := ⟨1, 1⟩
def args0 : Array Value := #[.int 5, .int 1]
def aboutOver (below : List Frame) : State where
  vm := { classes := classes, interned := interned.toArray }
  heap := heap
  slotsUsed := slotsUsed
  threads := #[{ frames := .invoking theMethod args0 :: below }]
def below0 : List Frame := [.native { method := ⟨0, 0⟩, args := #[] }]
def about1 : State := aboutOver below0
def p0 : Program := .bare "" "" ""
def e0 : Env := launch0.env 0 0 0
theorem w_frames : about1.frames = Frame.invoking theMethod args0 :: below0 := rfl
set_option maxRecDepth 65536 in
theorem w_args : argsFit about1.vm theMethod args0 = true := by decide +kernel
set_option maxRecDepth 65536 in
theorem w_heap : heapFits about1 = true := by decide +kernel
set_option maxRecDepth 65536 in
theorem w_runnable : about1.curStatus? = some .runnable := by decide +kernel
set_option maxRecDepth 65536 in
theorem w_alone : about1.alone = true := by decide +kernel
set_option maxRecDepth 65536 in
theorem w_named : about1.methodNamed? x = some theMethod := by decide +kernel
set_option maxRecDepth 65536 in
theorem w_hears : about1.hears theMethod below0 = true := by decide +kernel
set_option maxRecDepth 65536 in
theorem w_ripe : about1.ripe theMethod args0 below0 = true := by decide +kernel
theorem w_running : about1.status = .running := rfl
set_option maxRecDepth 65536 in
theorem w_room : about1.hasRoom e0.platform room_1 = true :=
  launch0.hasRoom_least _ room_1 (by decide +kernel) (by decide +kernel) (by decide +kernel) (by decide +kernel) (by decide +kernel) (by decide +kernel)
theorem allAtoms_all (ts : List Jvm.Cond) (a : Array Jvm.Value) (st : Jvm.State) : (allAtoms ts).before a st = ts.all (fun c => c.before a st) := by
  induction ts with
  | nil => rfl
  | cons c t ih =>
    show (Jvm.Cond.and c (allAtoms t)).before a st = _
    rw [Jvm.Cond.before_and, ih, List.all_cons]
def words1 : List Jvm.Cond := Jvm.Cond.code x code maxLocals ret :: tables_1
/-- a 'code' word, met by the world's own term for the bytes: nothing is compared byte by byte -/
theorem code_word {y : MethodName} {bytes : ByteArray} {mx : Nat} {rt : Option FieldType} {a : Array Value} {s : State} {m : MethodId} {meth : Method} {c : Code} (h1 : s.methodNamed? y = some m) (h2 : s.vm.method? m = some meth) (h3 : meth.code = some c) (h4 : c.code = bytes)
    (h5 : (c.maxLocals == mx && c.exceptionTable.isEmpty && decide (c.maxStack ≤ mostOperands) && decide (meth.sig.returnType = rt) && !meth.locks && decide (parseMethodDescriptor y.desc = some meth.sig)) = true) : (Jvm.Cond.code y bytes mx rt).before a s = true := by
  simp only [Bool.and_eq_true, beq_iff_eq, Bool.not_eq_true', decide_eq_true_eq] at h5
  obtain ⟨⟨⟨⟨⟨g1, g2⟩, g3⟩, g4⟩, g5⟩, g6⟩ := h5
  simp [Cond.before, Cond.holds, Cond.value, h1, h2, h3, h4, g1, g2, g3, g4, g5, g6]
def isCode : Jvm.Cond → Bool
  | .code _ _ _ _ => true
  | _ => false
theorem all_split {L : List Jvm.Cond} {P : Jvm.Cond → Bool} (h1 : L.all (fun c => isCode c || P c) = true) (h2 : ∀ c ∈ L.filter isCode, P c = true) : L.all P = true := by
  refine List.all_eq_true.mpr fun c hc => ?_
  have h := List.all_eq_true.mp h1 c hc
  rcases Bool.eq_false_or_eq_true (isCode c) with hi | hi
  · exact h2 c (List.mem_filter.mpr ⟨hc, hi⟩)
  · simpa [hi] using h
set_option maxRecDepth 65536 in
theorem w_c0 : (Jvm.Cond.code x code maxLocals ret).before args0 about1 = true := code_word (m := ⟨1, 1⟩) (meth := k1m1) (c := k1c1) (by decide +kernel) rfl rfl rfl (by decide +kernel)
set_option maxRecDepth 65536 in
theorem w_c1 : (Jvm.Cond.code ({ cls := "com/example/objects_to_rows/objectstorows/query/FunctionTakesPinLaw", name := "pick", desc := "(I)Lcom/example/objects_to_rows/objectstorows/query/QueryModel$Function;" } : Jvm.MethodName) method_3_code (1 : Nat) (Option.some (Jvm.ClassFile.FieldType.object "com/example/objects_to_rows/objectstorows/query/QueryModel$Function"))).before args0 about1 = true := code_word (m := ⟨1, 2⟩) (meth := k1m2) (c := k1c2) (by decide +kernel) rfl rfl rfl (by decide +kernel)
set_option maxRecDepth 65536 in
theorem w_c2 : (Jvm.Cond.code ({ cls := "com/example/objects_to_rows/objectstorows/query/FunctionTakesPinLaw", name := "fewest", desc := "(I)I" } : Jvm.MethodName) method_4_code (1 : Nat) (Option.some Jvm.ClassFile.FieldType.int)).before args0 about1 = true := code_word (m := ⟨1, 3⟩) (meth := k1m3) (c := k1c3) (by decide +kernel) rfl rfl rfl (by decide +kernel)
set_option maxRecDepth 65536 in
theorem w_c3 : (Jvm.Cond.code ({ cls := "com/example/objects_to_rows/objectstorows/query/FunctionTakesPinLaw", name := "most", desc := "(I)I" } : Jvm.MethodName) method_5_code (1 : Nat) (Option.some Jvm.ClassFile.FieldType.int)).before args0 about1 = true := code_word (m := ⟨1, 4⟩) (meth := k1m4) (c := k1c4) (by decide +kernel) rfl rfl rfl (by decide +kernel)
set_option maxRecDepth 65536 in
theorem w_c4 : (Jvm.Cond.code ({ cls := "com/example/objects_to_rows/objectstorows/query/QueryModel$Function", name := "takes", desc := "(I)Z" } : Jvm.MethodName) prog_44_method_5_code (2 : Nat) (Option.some Jvm.ClassFile.FieldType.boolean)).before args0 about1 = true := code_word (m := ⟨6, 0⟩) (meth := k6m0) (c := k6c0) (by decide +kernel) rfl rfl rfl (by decide +kernel)
def codes1 : List Jvm.Cond := [Jvm.Cond.code x code maxLocals ret, Jvm.Cond.code ({ cls := "com/example/objects_to_rows/objectstorows/query/FunctionTakesPinLaw", name := "pick", desc := "(I)Lcom/example/objects_to_rows/objectstorows/query/QueryModel$Function;" } : Jvm.MethodName) method_3_code (1 : Nat) (Option.some (Jvm.ClassFile.FieldType.object "com/example/objects_to_rows/objectstorows/query/QueryModel$Function")), Jvm.Cond.code ({ cls := "com/example/objects_to_rows/objectstorows/query/FunctionTakesPinLaw", name := "fewest", desc := "(I)I" } : Jvm.MethodName) method_4_code (1 : Nat) (Option.some Jvm.ClassFile.FieldType.int), Jvm.Cond.code ({ cls := "com/example/objects_to_rows/objectstorows/query/FunctionTakesPinLaw", name := "most", desc := "(I)I" } : Jvm.MethodName) method_5_code (1 : Nat) (Option.some Jvm.ClassFile.FieldType.int), Jvm.Cond.code ({ cls := "com/example/objects_to_rows/objectstorows/query/QueryModel$Function", name := "takes", desc := "(I)Z" } : Jvm.MethodName) prog_44_method_5_code (2 : Nat) (Option.some Jvm.ClassFile.FieldType.boolean)]
set_option maxRecDepth 65536 in
theorem codes_eq : words1.filter isCode = codes1 := rfl
theorem w_codes : ∀ c ∈ words1.filter isCode, c.before args0 about1 = true := by
  rw [codes_eq]
  intro c hc
  simp only [codes1, List.mem_cons, List.not_mem_nil, or_false] at hc
  rcases hc with rfl | rfl | rfl | rfl | rfl
  · exact w_c0
  · exact w_c1
  · exact w_c2
  · exact w_c3
  · exact w_c4
set_option maxRecDepth 65536 in
theorem w_t1 : (words1.take 24).all (fun c => isCode c || c.before args0 about1) = true := by decide +kernel
set_option maxRecDepth 65536 in
theorem w_t2 : ((words1.drop 24).take 24).all (fun c => isCode c || c.before args0 about1) = true := by decide +kernel
set_option maxRecDepth 65536 in
theorem w_t3 : ((words1.drop 24).drop 24).all (fun c => isCode c || c.before args0 about1) = true := by decide +kernel
theorem w_tables : (allAtoms (Jvm.Cond.code x code maxLocals ret :: tables_1)).before args0 about1 = true := by
  rw [allAtoms_all]
  show words1.all (fun c => c.before args0 about1) = true
  refine all_split ?_ w_codes
  rw [← List.take_append_drop 24 words1, List.all_append, w_t1, ← List.take_append_drop 24 (words1.drop 24), List.all_append, w_t2, w_t3]
  rfl
set_option maxRecDepth 65536 in
theorem w_case : (Jvm.Cond.and given_1 narrow_1).before args0 about1 = true := by decide +kernel
theorem w_applies : (headSpec (Jvm.Cond.code x code maxLocals ret :: tables_1) room_1).applies x e0.platform about1 = true :=
  (Spec.applies_iff w_frames).mpr ⟨w_running, w_runnable, w_alone, w_named, w_hears, w_ripe, w_room, w_tables⟩
theorem atStart : AtStart classFile x code maxLocals ret World_1 tables_1 room_1 Calls_1 rest_1 Pre_1 launch0 p0 e0 about1 theMethod args0 below0 :=
  ⟨lists_1, trivial, launch0.admits_env _ _ _, launch0.least_env, fairChoices_fair.cas, fairChoices_fair.clock, w_frames, w_args, w_heap, w_applies, trivial, trivial, w_case⟩
end start1
theorem witness_1 : WitnessClaimed_1 := ⟨start1.p0, start1.e0, start1.about1, start1.theMethod, start1.args0, start1.below0, start1.atStart⟩
end Jvm.Pilot.@@N@@
