import JvmDerived
import JvmDerived.Pilot.@@N@@Statement
import JvmDerived.Pilot.@@N@@Code
set_option linter.unusedVariables false
set_option linter.unusedSimpArgs false
namespace Jvm.Pilot.@@N@@
open Jvm Jvm.ClassFile Sem Op Lib Jvm.Free Jvm.Stand Jvm.LawKit Jvm.RoadKit Bundle Jvm.Pilot.@@N@@.Jvm.D
section OwnHead
variable {p : Program} {l : Launch} {e : Env} {R : Room} {s : State} {m : MethodId} {args : Array Value} {below : List Frame} {meth : Method} {c : Code} {T T' : State} {Z : State} {own : String} {h h' : Heap} {n0 k n C S : Nat} {a0 : Array Value} {P : Option Value → Heap → Prop} {g g' : JFrame} {pc : Nat} {Ls : Array Slot} {st rest : List Value} {vm0 : Vm} {locs : List Loc}
theorem nfOf {args : Array Value} {s : State} {D : String} {x' z' y : MethodName} (h : (Cond.selects D x' z').before args s = true) (hc : z'.cls = y.cls) : NotFace s y := fun r0 h0 => by
  obtain ⟨c2, r2, m2, q1, q2, q3, q4, kP, hkP, hkPi⟩ := Cond.selects_spec h
  have e1 := findClass_of_methodNamed q3
  have e2 := findClass_of_methodNamed h0
  rw [hc] at e1
  have e3 : m2.cls = r0.cls := Option.some.inj (e1.symm.trans e2)
  exact ⟨kP, e3 ▸ hkP, hkPi⟩
/-- the tables over which the walk stands, and how it ends: narrow (nothing interned) -/
def Bk (s : State) (vm : Vm) (n : Nat) : Prop := vm = s.vm
theorem Bk.mono {vm : Vm} {n n' : Nat} (h : Bk s vm n) (_ : n ≤ n') : Bk s vm n' := h
theorem Bk.start : Bk s s.vm n := rfl
abbrev EndF (s : State) (o : Outcome) (t : State) (L : List Loc) (k n : Nat) : Prop := FrameEnd s o t L k n
theorem EndF.mono {o : Outcome} {t : State} {L : List Loc} {k' n' : Nat} (h : EndF s o t L k n) (hk : k ≤ k') (hn : n ≤ n') : EndF s o t L k' n' := ⟨h.1, h.2.1, h.2.2.mono hk hn⟩
theorem Bk.leave (X : Stand p l e R (s.setVm vm0) m args below meth c T locs k n) (hB : Bk s vm0 T.heap.size) {v : Option Value} (hv : meth.sig.returnType = none → v = none) (hlk : meth.locks = false) :
    ∃ fs, (∀ (f : JFrame) (acts : List Action), f.method = m → f.locked = none → f.entered = [] → (doReturn e (T.setTop f) acts v).1 = T.setFrames fs) ∧ (T.setFrames fs).status = .running ∧ Ended (T.setFrames fs) below (.returned v) ∧ EndF s (.returned v) (T.setFrames fs) locs k n := by
  cases hB
  have X : Stand p l e R s m args below meth c T locs k n := X
  obtain ⟨fs, hr, hrun, hended, hW, hsame⟩ := X.leave hv hlk
  exact ⟨fs, hr, hrun, hended, ⟨_, rfl⟩, hW, hsame⟩
/-- a body's contract -/
def Met (l : Launch) (Z : State) (n0 : Nat) (y : MethodName) (bytes : ByteArray) (maxL : Nat) (ret : Option FieldType) (rm : Room) (as' : Array Value) (h0 : Heap) (Q : Option Value → Heap → Prop) : Prop :=
  MetFree l y (head1 [Cond.code y bytes maxL ret] rm) (fun a U => a = as' ∧ Z.Warmed39 U.vm ∧ U.heap = h0) (fun _ _ _ _ _ => True) (fun _ U o U' => ∃ v L, o = .returned v ∧ (Fr n0 L ∧ Q v U'.heap) ∧ EndF U o U' L rm.cells rm.slots)
theorem Bk.callS (X : Stand p l e R (s.setVm vm0) m args below meth c T locs k n) (hx : p.tables.exec = Jvm.exec) (hB : Bk s vm0 T.heap.size) (hZ : Z.Warmed39 vm0) (hown : vm0.findClass own = some m.cls) {index : Nat} {y : MethodName} {bytes : ByteArray} {maxL : Nat} {ret : Option FieldType} {rm : Room} {argsL : List Value} {Q : Option Value → Heap → Prop} {ps : List FieldType} {r : Option FieldType} (w1 : (Cond.methodLink own index y).before a0 Z = true) (w2 : (Cond.static y).before a0 Z = true) (wz : (Cond.initialized y.cls).before a0 Z = true) (wc : (Cond.code y bytes maxL ret).before a0 Z = true) (hy : y.cls ≠ "java/lang/invoke/MethodHandle" ∧ y.cls ≠ "java/lang/invoke/VarHandle")
    (hpd : parseMethodDescriptor y.desc = some ⟨ps, r⟩) (hlen : argsL.length = ps.length) (M : Met l Z n0 y bytes maxL ret rm argsL.toArray T.heap Q) (hsz : Ls.size = c.maxLocals) (hstk : st = argsL.reverse ++ rest) (hf : rm.frames + 1 ≤ R.frames) (hl : (rest.map fun v => v.category).sum + (maxL + 11) + rm.locals ≤ R.locals) (hd : decode c.code pc = .ok (.invokestatic index, 3)) (hc : k + rm.cells ≤ R.cells) (hs : n + rm.slots ≤ R.slots) :
    ∃ (v : Option Value) (vm1 : Vm) (T1 : State) (L2 : List Loc), Stand p l e R (s.setVm vm1) m args below meth c T1 (locs ++ L2) (k + rm.cells) (n + rm.slots) ∧ Bk s vm1 T1.heap.size ∧ Z.Warmed39 vm1 ∧ vm1.findClass own = some m.cls ∧ Fr n0 L2 ∧ Q v T1.heap ∧ ∀ t, Steps p.tables e below (T1.setTop (mkF m (pc + 3) Ls (v.toList ++ rest))) t → Steps p.tables e below (T.setTop (mkF m pc Ls st)) t := by
  cases hB
  have X : Stand p l e R s m args below meth c T locs k n := X
  have hZ' : Z.Warmed39 s.vm := hZ
  obtain ⟨v, vm1, ⟨T1, L1, k1, n1⟩, -, X1, ⟨L2, ⟨N2, hQ⟩, l1, y1, z1⟩, st1⟩ := Jvm.LawKit.callS X hx (y := y) hown (mvT (s := s) hZ w1) (mvT (s := s) hZ w2) (mvT (s := s) hZ wz) (mvT (s := s) hZ wc) hy (backOf (Q := fun v h' L => Fr n0 L ∧ Q v h') (W := (rest.map fun v => v.category).sum) M hZ' wc wz hf hl) (g := mkF m pc Ls st) rfl hsz (argsL := argsL) (rest := rest) (lenOf hpd hlen) hstk (by show 2 * 0 + _ ≤ _; omega) hd (fun _ _ => ⟨rfl, rfl, hc, hs⟩)
  dsimp only [Pt.U, Pt.locs, Pt.cells, Pt.slots] at X1 l1 y1 z1 st1 hQ
  subst l1 y1 z1
  exact ⟨v, s.vm, T1, L2, X1, rfl, hZ, hown, N2, hQ, st1⟩
theorem Bk.callSN (X : Stand p l e R (s.setVm vm0) m args below meth c T locs k n) (hx : p.tables.exec = Jvm.exec) (hB : Bk s vm0 T.heap.size) (hZ : Z.Warmed39 vm0) (hown : vm0.findClass own = some m.cls) {index : Nat} {y : MethodName} {bytes : ByteArray} {maxL : Nat} {ret : Option FieldType} {rm : Room} {argsL : List Value} {Q : Option Value → Heap → Prop} {ps : List FieldType} {r : Option FieldType} {host : String} (w1 : (Cond.methodLinkNest own index y host).before a0 Z = true) (w2 : (Cond.static y).before a0 Z = true) (wz : (Cond.initialized y.cls).before a0 Z = true) (wc : (Cond.code y bytes maxL ret).before a0 Z = true) (hy : y.cls ≠ "java/lang/invoke/MethodHandle" ∧ y.cls ≠ "java/lang/invoke/VarHandle")
    (hpd : parseMethodDescriptor y.desc = some ⟨ps, r⟩) (hlen : argsL.length = ps.length) (M : Met l Z n0 y bytes maxL ret rm argsL.toArray T.heap Q) (hsz : Ls.size = c.maxLocals) (hstk : st = argsL.reverse ++ rest) (hf : rm.frames + 1 ≤ R.frames) (hl : (rest.map fun v => v.category).sum + (maxL + 11) + rm.locals ≤ R.locals) (hd : decode c.code pc = .ok (.invokestatic index, 3)) (hc : k + rm.cells ≤ R.cells) (hs : n + rm.slots ≤ R.slots) :
    ∃ (v : Option Value) (vm1 : Vm) (T1 : State) (L2 : List Loc), Stand p l e R (s.setVm vm1) m args below meth c T1 (locs ++ L2) (k + rm.cells) (n + rm.slots) ∧ Bk s vm1 T1.heap.size ∧ Z.Warmed39 vm1 ∧ vm1.findClass own = some m.cls ∧ Fr n0 L2 ∧ Q v T1.heap ∧ ∀ t, Steps p.tables e below (T1.setTop (mkF m (pc + 3) Ls (v.toList ++ rest))) t → Steps p.tables e below (T.setTop (mkF m pc Ls st)) t := by
  cases hB
  have X : Stand p l e R s m args below meth c T locs k n := X
  have hZ' : Z.Warmed39 s.vm := hZ
  obtain ⟨v, vm1, ⟨T1, L1, k1, n1⟩, -, X1, ⟨L2, ⟨N2, hQ⟩, l1, y1, z1⟩, st1⟩ := Jvm.RoadKit.callSN X hx (y := y) (host := host) hown ((Cond.methodLinkNest_wide hZ w1 :)) (mvT (s := s) hZ w2) (mvT (s := s) hZ wz) (mvT (s := s) hZ wc) hy (backOf (Q := fun v h' L => Fr n0 L ∧ Q v h') (W := (rest.map fun v => v.category).sum) M hZ' wc wz hf hl) (g := mkF m pc Ls st) rfl hsz (argsL := argsL) (rest := rest) (lenOf hpd hlen) hstk (by show 2 * 0 + _ ≤ _; omega) hd (fun _ _ => ⟨rfl, rfl, hc, hs⟩)
  dsimp only [Pt.U, Pt.locs, Pt.cells, Pt.slots] at X1 l1 y1 z1 st1 hQ
  subst l1 y1 z1
  exact ⟨v, s.vm, T1, L2, X1, rfl, hZ, hown, N2, hQ, fun _ q => st1.trans q⟩
theorem Bk.callV (X : Stand p l e R (s.setVm vm0) m args below meth c T locs k n) (hx : p.tables.exec = Jvm.exec) (hB : Bk s vm0 T.heap.size) (hZ : Z.Warmed39 vm0) (hown : vm0.findClass own = some m.cls) {index : Nat} {y : MethodName} {bytes : ByteArray} {maxL : Nat} {ret : Option FieldType} {rm : Room} {argsL : List Value} {Q : Option Value → Heap → Prop} {ps : List FieldType} {r : Option FieldType} {z : MethodName} {K : String} {b : Addr} (E : Exa Z T.heap b K) (w1 : (Cond.methodLink own index y).before a0 Z = true) (w2 : (Cond.declares y).before a0 Z = true) (w3 : (Cond.selects K y z).before a0 Z = true) {D : String} {x' z' : MethodName} (w5 : (Cond.selects D x' z').before a0 Z = true) (h5 : z'.cls = y.cls) (w4 : (Cond.instanceMethod z).before a0 Z = true) (wz : (Cond.initialized z.cls).before a0 Z = true) (wc : (Cond.code z bytes maxL ret).before a0 Z = true) (hy : y.cls ≠ "java/lang/invoke/MethodHandle" ∧ y.cls ≠ "java/lang/invoke/VarHandle")
    (hpd : parseMethodDescriptor y.desc = some ⟨ps, r⟩) (hlen : argsL.length = ps.length) (M : Met l Z n0 z bytes maxL ret rm (.ref b :: argsL).toArray T.heap Q) (hsz : Ls.size = c.maxLocals) (hstk : st = argsL.reverse ++ .ref b :: rest) (hf : rm.frames + 1 ≤ R.frames) (hl : (rest.map fun v => v.category).sum + (maxL + 11) + rm.locals ≤ R.locals) (hd : decode c.code pc = .ok (.invokevirtual index, 3)) (hc : k + rm.cells ≤ R.cells) (hs : n + rm.slots ≤ R.slots) :
    ∃ (v : Option Value) (vm1 : Vm) (T1 : State) (L2 : List Loc), Stand p l e R (s.setVm vm1) m args below meth c T1 (locs ++ L2) (k + rm.cells) (n + rm.slots) ∧ Bk s vm1 T1.heap.size ∧ Z.Warmed39 vm1 ∧ vm1.findClass own = some m.cls ∧ Fr n0 L2 ∧ Q v T1.heap ∧ ∀ t, Steps p.tables e below (T1.setTop (mkF m (pc + 3) Ls (v.toList ++ rest))) t → Steps p.tables e below (T.setTop (mkF m pc Ls st)) t := by
  cases hB
  have X : Stand p l e R s m args below meth c T locs k n := X
  have hZ' : Z.Warmed39 s.vm := hZ
  obtain ⟨cq, kq, qa, qb, qc⟩ := isOf (s := s) hZ' rfl E
  obtain ⟨v, vm1, ⟨T1, L1, k1, n1⟩, -, X1, ⟨L2, ⟨N2, hQ⟩, l1, y1, z1⟩, st1⟩ := X.virtualBack hx (y := y) (z := z) hown (mvT (s := s) hZ w1) (mvT (s := s) hZ w2) (nfOf (args := #[]) (mvT (s := s) hZ w5) h5) (mvT (s := s) hZ w3) (mvT (s := s) hZ w4) hy (backOf (Q := fun v h' L => Fr n0 L ∧ Q v h') (W := (rest.map fun v => v.category).sum) M hZ' wc wz hf hl) qa qc (g := mkF m pc Ls st) rfl hsz (Steps.refl _) (argsL := argsL) (rest := rest) (lenOf hpd hlen) hstk (by show 2 * 0 + _ ≤ _; omega) hd (fun _ _ => ⟨rfl, rfl, hc, hs⟩)
  dsimp only [Pt.U, Pt.locs, Pt.cells, Pt.slots] at X1 l1 y1 z1 st1 hQ
  subst l1 y1 z1
  exact ⟨v, s.vm, T1, L2, X1, rfl, hZ, hown, N2, hQ, fun _ q => st1.trans q⟩
theorem Bk.callU (X : Stand p l e R (s.setVm vm0) m args below meth c T locs k n) (hx : p.tables.exec = Jvm.exec) (hB : Bk s vm0 T.heap.size) (hZ : Z.Warmed39 vm0) (hown : vm0.findClass own = some m.cls) {index : Nat} {y : MethodName} {bytes : ByteArray} {maxL : Nat} {ret : Option FieldType} {rm : Room} {argsL : List Value} {Q : Option Value → Heap → Prop} {ps : List FieldType} {r : Option FieldType} {z : MethodName} {owner K : String} {b : Addr} (E : Exa Z T.heap b K) (w1 : (Cond.methodLink own index y).before a0 Z = true) (wsm : (Cond.sameMethod y.cls owner y.name y.desc).before a0 Z = true) (w2 : (Cond.declares ⟨owner, y.name, y.desc⟩).before a0 Z = true) (ho : owner ≠ "java/lang/invoke/MethodHandle" ∧ owner ≠ "java/lang/invoke/VarHandle") (w3 : (Cond.selects K y z).before a0 Z = true) (w4 : (Cond.instanceMethod z).before a0 Z = true) (wz : (Cond.initialized z.cls).before a0 Z = true) (wc : (Cond.code z bytes maxL ret).before a0 Z = true)
    (hpd : parseMethodDescriptor y.desc = some ⟨ps, r⟩) (hlen : argsL.length = ps.length) (M : Met l Z n0 z bytes maxL ret rm (.ref b :: argsL).toArray T.heap Q) (hsz : Ls.size = c.maxLocals) (hstk : st = argsL.reverse ++ .ref b :: rest) (hf : rm.frames + 1 ≤ R.frames) (hl : (rest.map fun v => v.category).sum + (maxL + 11) + rm.locals ≤ R.locals) (hd : decode c.code pc = .ok (.invokevirtual index, 3)) (hc : k + rm.cells ≤ R.cells) (hs : n + rm.slots ≤ R.slots) :
    ∃ (v : Option Value) (vm1 : Vm) (T1 : State) (L2 : List Loc), Stand p l e R (s.setVm vm1) m args below meth c T1 (locs ++ L2) (k + rm.cells) (n + rm.slots) ∧ Bk s vm1 T1.heap.size ∧ Z.Warmed39 vm1 ∧ vm1.findClass own = some m.cls ∧ Fr n0 L2 ∧ Q v T1.heap ∧ ∀ t, Steps p.tables e below (T1.setTop (mkF m (pc + 3) Ls (v.toList ++ rest))) t → Steps p.tables e below (T.setTop (mkF m pc Ls st)) t := by
  cases hB
  have X : Stand p l e R s m args below meth c T locs k n := X
  have hZ' : Z.Warmed39 s.vm := hZ
  obtain ⟨cq, kq, qa, qb, qc⟩ := isOf (s := s) hZ' rfl E
  obtain ⟨v, vm1, ⟨T1, L1, k1, n1⟩, -, X1, ⟨L2, ⟨N2, hQ⟩, l1, y1, z1⟩, st1⟩ := X.virtualBackUp hx (x := y) (y := z) hown (mvT (s := s) hZ w1) (mvT (s := s) hZ wsm) (mvT (s := s) hZ w2) ho (mvT (s := s) hZ w3) (mvT (s := s) hZ w4) (backOf (Q := fun v h' L => Fr n0 L ∧ Q v h') (W := (rest.map fun v => v.category).sum) M hZ' wc wz hf hl) qa qc (g := mkF m pc Ls st) rfl hsz (Steps.refl _) (argsL := argsL) (rest := rest) (lenOf hpd hlen) hstk (by show 2 * 0 + _ ≤ _; omega) hd (fun _ _ => ⟨rfl, rfl, hc, hs⟩)
  dsimp only [Pt.U, Pt.locs, Pt.cells, Pt.slots] at X1 l1 y1 z1 st1 hQ
  subst l1 y1 z1
  exact ⟨v, s.vm, T1, L2, X1, rfl, hZ, hown, N2, hQ, fun _ q => st1.trans q⟩
theorem Bk.callN (X : Stand p l e R (s.setVm vm0) m args below meth c T locs k n) (hx : p.tables.exec = Jvm.exec) (hB : Bk s vm0 T.heap.size) (hZ : Z.Warmed39 vm0) (hown : vm0.findClass own = some m.cls) {index : Nat} {y : MethodName} {bytes : ByteArray} {maxL : Nat} {rm : Room} {argsL : List Value} {Q : Option Value → Heap → Prop} {ps : List FieldType} {r : Option FieldType} {b : Addr} (hin : y.name = "<init>") (w1 : (Cond.methodLink own index y).before a0 Z = true) (w4 : (Cond.instanceMethod y).before a0 Z = true) (wz : (Cond.initialized y.cls).before a0 Z = true) (wc : (Cond.code y bytes maxL none).before a0 Z = true) (hy : y.cls ≠ "java/lang/invoke/MethodHandle" ∧ y.cls ≠ "java/lang/invoke/VarHandle")
    (hpd : parseMethodDescriptor y.desc = some ⟨ps, r⟩) (hlen : argsL.length = ps.length) (M : Met l Z n0 y bytes maxL none rm (.ref b :: argsL).toArray T.heap Q) (hsz : Ls.size = c.maxLocals) (hstk : st = argsL.reverse ++ .ref b :: rest) (hf : rm.frames + 1 ≤ R.frames) (hl : (rest.map fun v => v.category).sum + (maxL + 11) + rm.locals ≤ R.locals) (hd : decode c.code pc = .ok (.invokespecial index, 3)) (hc : k + rm.cells ≤ R.cells) (hs : n + rm.slots ≤ R.slots) :
    ∃ (v : Option Value) (vm1 : Vm) (T1 : State) (L2 : List Loc), Stand p l e R (s.setVm vm1) m args below meth c T1 (locs ++ L2) (k + rm.cells) (n + rm.slots) ∧ Bk s vm1 T1.heap.size ∧ Z.Warmed39 vm1 ∧ vm1.findClass own = some m.cls ∧ Fr n0 L2 ∧ Q v T1.heap ∧ ∀ t, Steps p.tables e below (T1.setTop (mkF m (pc + 3) Ls (v.toList ++ rest))) t → Steps p.tables e below (T.setTop (mkF m pc Ls st)) t := by
  cases hB
  have X : Stand p l e R s m args below meth c T locs k n := X
  have hZ' : Z.Warmed39 s.vm := hZ
  obtain ⟨v, vm1, ⟨T1, L1, k1, n1⟩, -, X1, ⟨L2, ⟨N2, hQ⟩, l1, y1, z1⟩, st1⟩ := X.specialBack hx (y := y) hin hown (mvT (s := s) hZ w1) (mvT (s := s) hZ w4) (mvT (s := s) hZ wc) hy (backOf (Q := fun v h' L => Fr n0 L ∧ Q v h') (W := (rest.map fun v => v.category).sum) M hZ' wc wz hf hl) (g := mkF m pc Ls st) rfl hsz (Steps.refl _) (a := b) (argsL := argsL) (rest := rest) (lenOf hpd hlen) hstk (by show 2 * 0 + _ ≤ _; omega) hd (fun _ _ => ⟨rfl, rfl, hc, hs⟩)
  dsimp only [Pt.U, Pt.locs, Pt.cells, Pt.slots] at X1 l1 y1 z1 st1 hQ
  subst l1 y1 z1
  exact ⟨v, s.vm, T1, L2, X1, rfl, hZ, hown, N2, hQ, fun _ q => st1.trans q⟩
end OwnHead
/-! own layer: a walk in continuation form over the library's laws -/
section OwnKit
variable {p : Program} {l : Launch} {e : Env} {R : Room} {s : State} {m : MethodId} {args : Array Value} {below : List Frame} {meth : Method} {c : Code} {T T' : State} {Z : State} {own : String} {h h' : Heap} {n0 k n C S : Nat} {a0 : Array Value} {P : Option Value → Heap → Prop} {g g' : JFrame} {pc : Nat} {Ls : Array Slot} {st rest : List Value}
/-- where the walk stands: nothing but new cells written, n0 the first new address -/
def Std (p : Program) (l : Launch) (e : Env) (R : Room) (s : State) (m : MethodId) (args : Array Value) (below : List Frame) (meth : Method) (c : Code) (Z : State) (own : String) (n0 : Nat) (T : State) (h : Heap) (k n : Nat) : Prop :=
  ∃ vm0, (∃ locs, Stand p l e R (s.setVm vm0) m args below meth c T locs k n ∧ Fr n0 locs) ∧ T.heap = h ∧ p.tables.exec = Jvm.exec ∧ Z.Warmed39 vm0 ∧ vm0.findClass own = some m.cls ∧ Bk s vm0 h.size ∧ n0 ≤ s.heap.size ∧ meth.locks = false
/-- from here the method returns, and P holds of what it returns and of the heap -/
def Goes (p : Program) (e : Env) (below : List Frame) (s : State) (n0 C S : Nat) (P : Option Value → Heap → Prop) (T : State) (g : JFrame) : Prop :=
  ∃ (s₂ : State) (v : Option Value) (L : List Loc), Steps p.tables e below (T.setTop g) s₂ ∧ s₂.status = .running ∧ Ended s₂ below (.returned v) ∧ (Fr n0 L ∧ P v s₂.heap) ∧ EndF s (.returned v) s₂ L C S
theorem Std.here (X : Std p l e R s m args below meth c Z own n0 T h k n) : At T m c below := by obtain ⟨vm0, ⟨L, X, -⟩, -⟩ := X; exact X.here
theorem Std.hx (X : Std p l e R s m args below meth c Z own n0 T h k n) : p.tables.exec = Jvm.exec := by obtain ⟨vm0, -, -, h, -⟩ := X; exact h
theorem Std.n0le (X : Std p l e R s m args below meth c Z own n0 T h k n) : n0 ≤ h.size := by
  obtain ⟨vm0, ⟨L, X, -⟩, rfl, -, -, -, -, q, -⟩ := X
  exact Nat.le_trans q X.same.2.1
theorem Goes.by (st : ∀ t, Steps p.tables e below (T'.setTop g') t → Steps p.tables e below (T.setTop g) t) (G : Goes p e below s n0 C S P T' g') : Goes p e below s n0 C S P T g := by
  obtain ⟨s₂, v, L, h1, r⟩ := G
  exact ⟨s₂, v, L, st _ h1, r⟩
theorem Goes.mono {P' : Option Value → Heap → Prop} (G : Goes p e below s n0 C S P T g) (q : ∀ v h, P v h → P' v h) : Goes p e below s n0 C S P' T g := by
  obtain ⟨s₂, v, L, h1, h2, h3, ⟨h4, h5⟩, h6⟩ := G
  exact ⟨s₂, v, L, h1, h2, h3, ⟨h4, q _ _ h5⟩, h6⟩
theorem Std.retOut (X : Std p l e R s m args below meth c Z own n0 T h k n) {w : Value} {t : FieldType} {i : Instr} (hret : meth.sig.returnType = some t) (hn : narrow t w = w)
    (hi : (i = .ireturn ∧ (t = .int ∨ t = .boolean ∨ t = .byte ∨ t = .char ∨ t = .short) ∧ ∃ z, w = .int z) ∨ (i = .lreturn ∧ t = .long ∧ ∃ z, w = .long z) ∨ (i = .dreturn ∧ t = .double ∧ ∃ z, w = .double z) ∨ (i = .freturn ∧ t = .float ∧ ∃ z, w = .float z) ∨ (i = .areturn ∧ t.isReference = true ∧ w.isRef = true))
    (hd : decode c.code pc = .ok (i, 1)) (hc : k ≤ C) (hs : n ≤ S) (hP : P (some w) h) : Goes p e below s n0 C S P T (mkF m pc Ls (w :: rest)) := by
  obtain ⟨vm0, ⟨L, X, N⟩, rfl, hx, -, -, hB, -, hlk⟩ := X
  obtain ⟨fs, hr, hrun, hended, hE⟩ := Bk.leave X hB (v := some w) (fun q => by rw [hret] at q; cases q) hlk
  exact ⟨_, _, L, Jvm.RoadKit.retOut X hx hret hn hi hd hr, hrun, hended, ⟨N, hP⟩, EndF.mono hE hc hs⟩
theorem Std.retI (X : Std p l e R s m args below meth c Z own n0 T h k n) {z : Int32} (hret : meth.sig.returnType = some .int) (hd : decode c.code pc = .ok (.ireturn, 1)) (hc : k ≤ C) (hs : n ≤ S) (hP : P (some (.int z)) h) : Goes p e below s n0 C S P T (mkF m pc Ls (.int z :: rest)) :=
  X.retOut hret rfl (Or.inl ⟨rfl, Or.inl rfl, z, rfl⟩) hd hc hs hP
theorem Std.retA (X : Std p l e R s m args below meth c Z own n0 T h k n) {w : Value} {t : FieldType} (hret : meth.sig.returnType = some t) (ht : t.isReference = true) (hw : w.isRef = true) (hd : decode c.code pc = .ok (.areturn, 1)) (hc : k ≤ C) (hs : n ≤ S) (hP : P (some w) h) : Goes p e below s n0 C S P T (mkF m pc Ls (w :: rest)) :=
  X.retOut hret (by rcases ref_cases hw with rfl | ⟨a, rfl⟩ <;> cases t <;> rfl) (Or.inr (Or.inr (Or.inr (Or.inr ⟨rfl, ht, hw⟩)))) hd hc hs hP
theorem Std.retJ (X : Std p l e R s m args below meth c Z own n0 T h k n) {z : Int64} (hret : meth.sig.returnType = some .long) (hd : decode c.code pc = .ok (.lreturn, 1)) (hc : k ≤ C) (hs : n ≤ S) (hP : P (some (.long z)) h) : Goes p e below s n0 C S P T (mkF m pc Ls (.long z :: rest)) :=
  X.retOut hret rfl (Or.inr (Or.inl ⟨rfl, rfl, z, rfl⟩)) hd hc hs hP
theorem Std.retN (X : Std p l e R s m args below meth c Z own n0 T h k n) {z : Int32} {t : FieldType} (hret : meth.sig.returnType = some t) (ht : t = .boolean ∨ t = .byte ∨ t = .char ∨ t = .short) (hd : decode c.code pc = .ok (.ireturn, 1)) (hc : k ≤ C) (hs : n ≤ S) (hP : P (some (.int (nar t z))) h) : Goes p e below s n0 C S P T (mkF m pc Ls (.int z :: rest)) := by
  obtain ⟨vm0, ⟨L, X, N⟩, rfl, hx, -, -, hB, -, hlk⟩ := X
  obtain ⟨fs, hr, hrun, hended, hE⟩ := Bk.leave X hB (v := some (.int (nar t z))) (fun q => by rw [hret] at q; cases q) hlk
  exact ⟨_, _, L, Jvm.RoadKit.retN X hx hret ht hd hr, hrun, hended, ⟨N, hP⟩, EndF.mono hE hc hs⟩
theorem Std.retZ (X : Std p l e R s m args below meth c Z own n0 T h k n) {z : Int32} (hret : meth.sig.returnType = some .boolean) (hd : decode c.code pc = .ok (.ireturn, 1)) (hc : k ≤ C) (hs : n ≤ S) (hP : P (some (.int (nar .boolean z))) h) : Goes p e below s n0 C S P T (mkF m pc Ls (.int z :: rest)) :=
  X.retN hret (Or.inl rfl) hd hc hs hP
theorem Std.retV (X : Std p l e R s m args below meth c Z own n0 T h k n) (hret : meth.sig.returnType = none) (hd : decode c.code pc = .ok (.return_, 1)) (hc : k ≤ C) (hs : n ≤ S) (hP : P none h) : Goes p e below s n0 C S P T (mkF m pc Ls []) := by
  obtain ⟨vm0, ⟨L, X, N⟩, rfl, hx, -, -, hB, -, hlk⟩ := X
  obtain ⟨fs, hr, hrun, hended, hE⟩ := Bk.leave X hB (v := none) (fun _ => rfl) hlk
  exact ⟨_, _, L, X.returnOut hx hret hd hr, hrun, hended, ⟨N, hP⟩, EndF.mono hE hc hs⟩
theorem Std.ldcI (X : Std p l e R s m args below meth c Z own n0 T h k n) {index : Nat} {v : Int32} (w : (Cond.constant own index v).before a0 Z = true) (hd : decode c.code pc = .ok (.ldc index, 2)) (G : Goes p e below s n0 C S P T (mkF m (pc + 2) Ls (.int v :: st))) : Goes p e below s n0 C S P T (mkF m pc Ls st) := by
  obtain ⟨vm0, ⟨L, X, N⟩, -, hx, hZ, hown, -⟩ := X
  exact Goes.by (fun _ q => X.ldcI hx hown (mvT (s := s.setVm vm0) hZ w) rfl hd q) G
theorem Std.ldcWI (X : Std p l e R s m args below meth c Z own n0 T h k n) {index : Nat} {v : Int32} (w : (Cond.constant own index v).before a0 Z = true) (hd : decode c.code pc = .ok (.ldc_w index, 3)) (G : Goes p e below s n0 C S P T (mkF m (pc + 3) Ls (.int v :: st))) : Goes p e below s n0 C S P T (mkF m pc Ls st) := by
  obtain ⟨vm0, ⟨L, X, N⟩, -, hx, hZ, hown, -⟩ := X
  exact Goes.by (fun _ q => X.ldcWI hx hown (mvT (s := s.setVm vm0) hZ w) rfl hd q) G
theorem Std.getS (X : Std p l e R s m args below meth c Z own n0 T h k n) {index : Nat} {R0 O nm d host : String} {v : Value} (w : (Cond.fieldLink own index R0 nm d).before a0 Z = true ∨ (Cond.fieldLinkNest own index R0 nm d host).before a0 Z = true) (via : Via Z R0 O nm d) (F : Sta Z h O nm d v) (hd : decode c.code pc = .ok (.getstatic index, 3))
    (G : ∀ T, Std p l e R s m args below meth c Z own n0 T h k n → Goes p e below s n0 C S P T (mkF m (pc + 3) Ls (v :: st))) : Goes p e below s n0 C S P T (mkF m pc Ls st) := by
  obtain ⟨vm0, ⟨L, X, N⟩, eT, hx, hZ, hown, r⟩ := X
  obtain ⟨T1, X1, e1, st1⟩ := Jvm.RoadKit.getS2 X hx hZ hown w via eT F (g := mkF m pc Ls st) rfl hd
  exact Goes.by st1 (G T1 ⟨vm0, ⟨L, X1, N⟩, e1, hx, hZ, hown, r⟩)
theorem Std.getF (X : Std p l e R s m args below meth c Z own n0 T h k n) {index : Nat} {R0 O nm d host : String} {a : Addr} {v : Value} (w : (Cond.fieldLink own index R0 nm d).before a0 Z = true ∨ (Cond.fieldLinkNest own index R0 nm d host).before a0 Z = true) (via : Via Z R0 O nm d) (F : Fld Z h a O nm d v) (hd : decode c.code pc = .ok (.getfield index, 3))
    (G : ∀ T, Std p l e R s m args below meth c Z own n0 T h k n → Goes p e below s n0 C S P T (mkF m (pc + 3) Ls (v :: rest))) : Goes p e below s n0 C S P T (mkF m pc Ls (.ref a :: rest)) := by
  obtain ⟨vm0, ⟨L, X, N⟩, eT, hx, hZ, hown, r⟩ := X
  obtain ⟨T1, X1, e1, st1⟩ := Jvm.RoadKit.getF X hx hZ hown w via eT F (g := mkF m pc Ls (.ref a :: rest)) rfl rfl hd
  exact Goes.by st1 (G T1 ⟨vm0, ⟨L, X1, N⟩, e1, hx, hZ, hown, r⟩)
theorem Std.putF (X : Std p l e R s m args below meth c Z own n0 T h k n) {index kk : Nat} {R0 O nm d host K : String} {ty : FieldType} {a : Addr} {v old : Value} (w : (Cond.fieldLink own index R0 nm d).before a0 Z = true ∨ (Cond.fieldLinkNest own index R0 nm d host).before a0 Z = true) (via : Via Z R0 O nm d) (F : Fld Z h a O nm d old) (E : Exa Z h a K)
    (L : (Cond.lays K O nm d).before a0 Z = true ∨ ((Cond.laysFinal K O nm d).before a0 Z = true ∧ own = O ∧ meth.name = "<init>")) (wi : (Cond.instantiable K kk).before a0 Z = true) (hty : parseFieldDescriptor d = some ty) (hn : narrow ty v = v) (hf : fits ty v = true) (ha : n0 ≤ a) (hd : decode c.code pc = .ok (.putfield index, 3))
    (G : ∀ T h', Std p l e R s m args below meth c Z own n0 T h' k n → Wr h h' a (Jvm.RoadKit.slotOf Z O nm d) v → Goes p e below s n0 C S P T (mkF m (pc + 3) Ls rest)) : Goes p e below s n0 C S P T (mkF m pc Ls (v :: .ref a :: rest)) := by
  obtain ⟨vm0, ⟨L0, X, N⟩, eT, hx, hZ, hown, hB, r⟩ := X
  obtain ⟨T1, h1, X1, e1, W1, st1⟩ := Jvm.RoadKit.putF X hx hZ hown w via eT F E L wi hty hn hf (g := mkF m pc Ls (v :: .ref a :: rest)) rfl rfl hd
  exact Goes.by st1 (G T1 h1 ⟨vm0, ⟨_, X1, Fr.snoc X1 N ha⟩, e1, hx, hZ, hown, hB.mono (Nat.le_of_eq W1.size.symm), r⟩ W1)
theorem Std.newO (X : Std p l e R s m args below meth c Z own n0 T h k n) {index j : Nat} {K : String} (w : (Cond.classLink own index K).before a0 Z = true) (wi : (Cond.instantiable K j).before a0 Z = true) (wz : (Cond.initialized K).before a0 Z = true) (hd : decode c.code pc = .ok (.new index, 3)) (hc : k + 1 ≤ R.cells) (hl : n + j ≤ R.slots)
    (G : ∀ T h' a, Std p l e R s m args below meth c Z own n0 T h' (k + 1) (n + j) → a = h.size → n0 ≤ a → Ext h h' → Exa Z h' a K → (∀ {O nm d : String} {ty : FieldType}, Laid Z a0 K O nm d → parseFieldDescriptor d = some ty → Fld Z h' a O nm d (defaultValue ty)) → Goes p e below s n0 C S P T (mkF m (pc + 3) Ls (.ref a :: st))) : Goes p e below s n0 C S P T (mkF m pc Ls st) := by
  have q := X.n0le
  obtain ⟨vm0, ⟨L0, X, N⟩, eT, hx, hZ, hown, hB, r⟩ := X
  obtain ⟨T1, h1, X1, e1, E1, A1, D1, -, st1⟩ := Jvm.RoadKit.newO X hx hZ hown w wi wz eT (g := mkF m pc Ls st) rfl hd hc hl
  exact Goes.by st1 (G T1 h1 h.size ⟨vm0, ⟨_, X1, N⟩, e1, hx, hZ, hown, hB.mono E1.1, r⟩ rfl q E1 A1 D1)
theorem Std.irem (X : Std p l e R s m args below meth c Z own n0 T h k n) {x y : Int32} (hd : decode c.code pc = .ok (.irem, 1)) (hy : y ≠ 0) (G : Goes p e below s n0 C S P T (mkF m (pc + 1) Ls (.int (x % y) :: rest))) : Goes p e below s n0 C S P T (mkF m pc Ls (.int y :: .int x :: rest)) := by
  obtain ⟨vm0, ⟨L, X, N⟩, eT, hx, r⟩ := X
  exact Goes.by (fun _ q => iremM X hx rfl hd rfl hy q) G
theorem Std.acmp (X : Std p l e R s m args below meth c Z own n0 T h k n) {cd : ACond} {x y : Value} (h1 : x.isRef = true) (h2 : y.isRef = true) {o : Int} {pc' : Nat} {same : Bool} (hd : decode c.code pc = .ok (.if_acmp cd o, 3)) (hq : decide (x = y) = same) (ho : 0 ≤ (pc : Int) + o) (hp : pc' = if acV cd same = true then ((pc : Int) + o).toNat else pc + 3) (G : Goes p e below s n0 C S P T (mkF m pc' Ls rest)) : Goes p e below s n0 C S P T (mkF m pc Ls (y :: x :: rest)) := by
  obtain ⟨vm0, ⟨L, X, N⟩, eT, hx, r⟩ := X
  exact Goes.by (fun _ q => Jvm.RoadKit.acmp X hx rfl h1 h2 rfl hd rfl hq ho hp q) G
theorem metW {ws : List Jvm.Cond} {y : MethodName} {bytes : ByteArray} {maxL : Nat} {ret : Option FieldType} {rm : Room} {as' : Array Value} {h0 : Heap} {Q : Option Value → Heap → Prop} (hpl : plainFor y = true) (hn0 : n0 ≤ h0.size)
    (body : ∀ p e s m below meth c s₁, Std p l e rm s m as' below meth c Z y.cls n0 s₁ h0 0 0 → c.code = bytes → c.maxLocals = maxL → meth.sig.returnType = ret → meth.name = y.name → Goes p e below s n0 rm.cells rm.slots Q s₁ (entryFrame m as' maxL)) :
    MetFree l y (head1 (Cond.code y bytes maxL ret :: ws) rm) (fun a U => a = as' ∧ Z.Warmed39 U.vm ∧ U.heap = h0) (fun _ _ _ _ _ => True) (fun _ U o U' => ∃ v L, o = .returned v ∧ (Fr n0 L ∧ Q v U'.heap) ∧ EndF U o U' L rm.cells rm.slots) := by
  refine MetFree.of_bodySF hpl hisR ?_
  intro p e s m args below meth c s₁ Bd hml hP hK
  obtain ⟨rfl, hZ, hh⟩ := hP
  have e0 : s₁.heap = h0 := by rw [← hh, Bd.state]; rfl
  obtain ⟨s₂, v, L, h1, h2, h3, h4, h5⟩ := body p e s m below meth c s₁ ⟨s.vm, ⟨[], Stand.of_body Bd, Fr.nil n0⟩, e0, Bd.exec, hZ, findClass_of_methodNamed Bd.named, Bk.start, by rw [hh]; exact hn0, Bd.notSynchronized⟩ Bd.bytes hml Bd.returns (name_of_methodNamed Bd.named Bd.method).1
  exact ⟨s₂, _, h1, h2, h3, v, L, rfl, h4, h5⟩
theorem Std.callS (X : Std p l e R s m args below meth c Z own n0 T h k n) {index : Nat} {y : MethodName} {bytes : ByteArray} {maxL : Nat} {ret : Option FieldType} {rm : Room} {argsL : List Value} {Q : Option Value → Heap → Prop} {ps : List FieldType} {r : Option FieldType} (w1 : (Cond.methodLink own index y).before a0 Z = true) (w2 : (Cond.static y).before a0 Z = true) (wz : (Cond.initialized y.cls).before a0 Z = true) (wc : (Cond.code y bytes maxL ret).before a0 Z = true) (hy : y.cls ≠ "java/lang/invoke/MethodHandle" ∧ y.cls ≠ "java/lang/invoke/VarHandle")
    (hpd : parseMethodDescriptor y.desc = some ⟨ps, r⟩) (hlen : argsL.length = ps.length) (M : Met l Z n0 y bytes maxL ret rm argsL.toArray h Q) (hsz : Ls.size = c.maxLocals) (hstk : st = argsL.reverse ++ rest) (hf : rm.frames + 1 ≤ R.frames) (hl : (rest.map fun v => v.category).sum + (maxL + 11) + rm.locals ≤ R.locals) (hd : decode c.code pc = .ok (.invokestatic index, 3)) (hc : k + rm.cells ≤ R.cells) (hs : n + rm.slots ≤ R.slots)
    (G : ∀ T h' v, Std p l e R s m args below meth c Z own n0 T h' (k + rm.cells) (n + rm.slots) → Q v h' → Goes p e below s n0 C S P T (mkF m (pc + 3) Ls (v.toList ++ rest))) : Goes p e below s n0 C S P T (mkF m pc Ls st) := by
  obtain ⟨vm0, ⟨L0, X, N⟩, eT, hx, hZ, hown, hB, r⟩ := X
  subst eT
  obtain ⟨v, vm1, T1, L2, X1, hB1, hZ1, hown1, N2, hQ, st1⟩ := Bk.callS X hx hB hZ hown w1 w2 wz wc hy hpd hlen M hsz hstk hf hl hd hc hs
  exact Goes.by st1 (G T1 _ v ⟨vm1, ⟨_, X1, Fr.app N N2⟩, rfl, hx, hZ1, hown1, hB1, r⟩ hQ)
theorem Std.callSN (X : Std p l e R s m args below meth c Z own n0 T h k n) {index : Nat} {y : MethodName} {bytes : ByteArray} {maxL : Nat} {ret : Option FieldType} {rm : Room} {argsL : List Value} {Q : Option Value → Heap → Prop} {ps : List FieldType} {r : Option FieldType} {host : String} (w1 : (Cond.methodLinkNest own index y host).before a0 Z = true) (w2 : (Cond.static y).before a0 Z = true) (wz : (Cond.initialized y.cls).before a0 Z = true) (wc : (Cond.code y bytes maxL ret).before a0 Z = true) (hy : y.cls ≠ "java/lang/invoke/MethodHandle" ∧ y.cls ≠ "java/lang/invoke/VarHandle")
    (hpd : parseMethodDescriptor y.desc = some ⟨ps, r⟩) (hlen : argsL.length = ps.length) (M : Met l Z n0 y bytes maxL ret rm argsL.toArray h Q) (hsz : Ls.size = c.maxLocals) (hstk : st = argsL.reverse ++ rest) (hf : rm.frames + 1 ≤ R.frames) (hl : (rest.map fun v => v.category).sum + (maxL + 11) + rm.locals ≤ R.locals) (hd : decode c.code pc = .ok (.invokestatic index, 3)) (hc : k + rm.cells ≤ R.cells) (hs : n + rm.slots ≤ R.slots)
    (G : ∀ T h' v, Std p l e R s m args below meth c Z own n0 T h' (k + rm.cells) (n + rm.slots) → Q v h' → Goes p e below s n0 C S P T (mkF m (pc + 3) Ls (v.toList ++ rest))) : Goes p e below s n0 C S P T (mkF m pc Ls st) := by
  obtain ⟨vm0, ⟨L0, X, N⟩, eT, hx, hZ, hown, hB, r⟩ := X
  subst eT
  obtain ⟨v, vm1, T1, L2, X1, hB1, hZ1, hown1, N2, hQ, st1⟩ := Bk.callSN X hx hB hZ hown w1 w2 wz wc hy hpd hlen M hsz hstk hf hl hd hc hs
  exact Goes.by st1 (G T1 _ v ⟨vm1, ⟨_, X1, Fr.app N N2⟩, rfl, hx, hZ1, hown1, hB1, r⟩ hQ)
theorem Std.callV (X : Std p l e R s m args below meth c Z own n0 T h k n) {index : Nat} {y : MethodName} {bytes : ByteArray} {maxL : Nat} {ret : Option FieldType} {rm : Room} {argsL : List Value} {Q : Option Value → Heap → Prop} {ps : List FieldType} {r : Option FieldType} {z : MethodName} {K : String} {b : Addr} (E : Exa Z h b K) (w1 : (Cond.methodLink own index y).before a0 Z = true) (w2 : (Cond.declares y).before a0 Z = true) (w3 : (Cond.selects K y z).before a0 Z = true) {D : String} {x' z' : MethodName} (w5 : (Cond.selects D x' z').before a0 Z = true) (h5 : z'.cls = y.cls) (w4 : (Cond.instanceMethod z).before a0 Z = true) (wz : (Cond.initialized z.cls).before a0 Z = true) (wc : (Cond.code z bytes maxL ret).before a0 Z = true) (hy : y.cls ≠ "java/lang/invoke/MethodHandle" ∧ y.cls ≠ "java/lang/invoke/VarHandle")
    (hpd : parseMethodDescriptor y.desc = some ⟨ps, r⟩) (hlen : argsL.length = ps.length) (M : Met l Z n0 z bytes maxL ret rm (.ref b :: argsL).toArray h Q) (hsz : Ls.size = c.maxLocals) (hstk : st = argsL.reverse ++ .ref b :: rest) (hf : rm.frames + 1 ≤ R.frames) (hl : (rest.map fun v => v.category).sum + (maxL + 11) + rm.locals ≤ R.locals) (hd : decode c.code pc = .ok (.invokevirtual index, 3)) (hc : k + rm.cells ≤ R.cells) (hs : n + rm.slots ≤ R.slots)
    (G : ∀ T h' v, Std p l e R s m args below meth c Z own n0 T h' (k + rm.cells) (n + rm.slots) → Q v h' → Goes p e below s n0 C S P T (mkF m (pc + 3) Ls (v.toList ++ rest))) : Goes p e below s n0 C S P T (mkF m pc Ls st) := by
  obtain ⟨vm0, ⟨L0, X, N⟩, eT, hx, hZ, hown, hB, r⟩ := X
  subst eT
  obtain ⟨v, vm1, T1, L2, X1, hB1, hZ1, hown1, N2, hQ, st1⟩ := Bk.callV X hx hB hZ hown E w1 w2 w3 w5 h5 w4 wz wc hy hpd hlen M hsz hstk hf hl hd hc hs
  exact Goes.by st1 (G T1 _ v ⟨vm1, ⟨_, X1, Fr.app N N2⟩, rfl, hx, hZ1, hown1, hB1, r⟩ hQ)
theorem Std.callU (X : Std p l e R s m args below meth c Z own n0 T h k n) {index : Nat} {y : MethodName} {bytes : ByteArray} {maxL : Nat} {ret : Option FieldType} {rm : Room} {argsL : List Value} {Q : Option Value → Heap → Prop} {ps : List FieldType} {r : Option FieldType} {z : MethodName} {owner K : String} {b : Addr} (E : Exa Z h b K) (w1 : (Cond.methodLink own index y).before a0 Z = true) (wsm : (Cond.sameMethod y.cls owner y.name y.desc).before a0 Z = true) (w2 : (Cond.declares ⟨owner, y.name, y.desc⟩).before a0 Z = true) (ho : owner ≠ "java/lang/invoke/MethodHandle" ∧ owner ≠ "java/lang/invoke/VarHandle") (w3 : (Cond.selects K y z).before a0 Z = true) (w4 : (Cond.instanceMethod z).before a0 Z = true) (wz : (Cond.initialized z.cls).before a0 Z = true) (wc : (Cond.code z bytes maxL ret).before a0 Z = true)
    (hpd : parseMethodDescriptor y.desc = some ⟨ps, r⟩) (hlen : argsL.length = ps.length) (M : Met l Z n0 z bytes maxL ret rm (.ref b :: argsL).toArray h Q) (hsz : Ls.size = c.maxLocals) (hstk : st = argsL.reverse ++ .ref b :: rest) (hf : rm.frames + 1 ≤ R.frames) (hl : (rest.map fun v => v.category).sum + (maxL + 11) + rm.locals ≤ R.locals) (hd : decode c.code pc = .ok (.invokevirtual index, 3)) (hc : k + rm.cells ≤ R.cells) (hs : n + rm.slots ≤ R.slots)
    (G : ∀ T h' v, Std p l e R s m args below meth c Z own n0 T h' (k + rm.cells) (n + rm.slots) → Q v h' → Goes p e below s n0 C S P T (mkF m (pc + 3) Ls (v.toList ++ rest))) : Goes p e below s n0 C S P T (mkF m pc Ls st) := by
  obtain ⟨vm0, ⟨L0, X, N⟩, eT, hx, hZ, hown, hB, r⟩ := X
  subst eT
  obtain ⟨v, vm1, T1, L2, X1, hB1, hZ1, hown1, N2, hQ, st1⟩ := Bk.callU X hx hB hZ hown E w1 wsm w2 ho w3 w4 wz wc hpd hlen M hsz hstk hf hl hd hc hs
  exact Goes.by st1 (G T1 _ v ⟨vm1, ⟨_, X1, Fr.app N N2⟩, rfl, hx, hZ1, hown1, hB1, r⟩ hQ)
theorem Std.callN (X : Std p l e R s m args below meth c Z own n0 T h k n) {index : Nat} {y : MethodName} {bytes : ByteArray} {maxL : Nat} {rm : Room} {argsL : List Value} {Q : Option Value → Heap → Prop} {ps : List FieldType} {r : Option FieldType} {b : Addr} (hin : y.name = "<init>") (w1 : (Cond.methodLink own index y).before a0 Z = true) (w4 : (Cond.instanceMethod y).before a0 Z = true) (wz : (Cond.initialized y.cls).before a0 Z = true) (wc : (Cond.code y bytes maxL none).before a0 Z = true) (hy : y.cls ≠ "java/lang/invoke/MethodHandle" ∧ y.cls ≠ "java/lang/invoke/VarHandle")
    (hpd : parseMethodDescriptor y.desc = some ⟨ps, r⟩) (hlen : argsL.length = ps.length) (M : Met l Z n0 y bytes maxL none rm (.ref b :: argsL).toArray h Q) (hsz : Ls.size = c.maxLocals) (hstk : st = argsL.reverse ++ .ref b :: rest) (hf : rm.frames + 1 ≤ R.frames) (hl : (rest.map fun v => v.category).sum + (maxL + 11) + rm.locals ≤ R.locals) (hd : decode c.code pc = .ok (.invokespecial index, 3)) (hc : k + rm.cells ≤ R.cells) (hs : n + rm.slots ≤ R.slots)
    (G : ∀ T h' v, Std p l e R s m args below meth c Z own n0 T h' (k + rm.cells) (n + rm.slots) → Q v h' → Goes p e below s n0 C S P T (mkF m (pc + 3) Ls (v.toList ++ rest))) : Goes p e below s n0 C S P T (mkF m pc Ls st) := by
  obtain ⟨vm0, ⟨L0, X, N⟩, eT, hx, hZ, hown, hB, r⟩ := X
  subst eT
  obtain ⟨v, vm1, T1, L2, X1, hB1, hZ1, hown1, N2, hQ, st1⟩ := Bk.callN X hx hB hZ hown hin w1 w4 wz wc hy hpd hlen M hsz hstk hf hl hd hc hs
  exact Goes.by st1 (G T1 _ v ⟨vm1, ⟨_, X1, Fr.app N N2⟩, rfl, hx, hZ1, hown1, hB1, r⟩ hQ)
theorem fldEq {args : Array Value} {s : State} {t : Term} {a : Addr} {C n d : String} {k : Int32} (ht : t.eval args s none [] s = some (.ref a)) (h : (Jvm.Cond.eq (.field t C n d) (.int k)).value args s none s [] = some true) : Fld s s.heap a C n d (.int k) := by
  obtain ⟨x, y, ex, ey, kx, ky⟩ := cmp_v (Or.inl h)
  have hy : y = .int k := Option.some.inj (ey.symm.trans (Term.int_eval k))
  subst hy
  obtain ⟨z, rfl⟩ : ∃ z, x = .int z := ky
  have q := gotT (Cond.eq_ints ex (Term.int_eval k)) h
  subst q
  exact Fld.start ((fld_at ht).symm.trans ex)
theorem fldEqS {args : Array Value} {s : State} {t u : Term} {a b : Addr} {C n d : String} (ht : t.eval args s none [] s = some (.ref a)) (hu : u.eval args s none [] s = some (.ref b)) (h : (Jvm.Cond.eq (.field t C n d) u).value args s none s [] = some true) : Fld s s.heap a C n d (.ref b) := by
  obtain ⟨x, y, ex, ey, kx, ky⟩ := cmp_v (Or.inl h)
  have hy : y = .ref b := Option.some.inj (ey.symm.trans hu)
  subst hy
  have hx : x.isRef = true := (show (Value.ref b).isRef = true ∧ x.isRef = true from ky).2
  have q := gotT (eq_R ex hu hx rfl) h
  subst q
  exact Fld.start ((fld_at ht).symm.trans ex)
theorem staEq {args : Array Value} {s : State} {C n d : String} {k : Int32} (h : (Jvm.Cond.eq (.static C n d) (.int k)).value args s none s [] = some true) (hi : (Jvm.Cond.initializedFor C n d).before args s = true ∨ ((Jvm.Cond.initialized C).before args s = true ∧ (Jvm.Cond.laysStatic C n d).before args s = true)) : Sta s s.heap C n d (.int k) := by
  obtain ⟨x, y, ex, ey, kx, ky⟩ := cmp_v (Or.inl h)
  have hy : y = .int k := Option.some.inj (ey.symm.trans (Term.int_eval k))
  subst hy
  obtain ⟨z, rfl⟩ : ∃ z, x = .int z := ky
  have q := gotT (Cond.eq_ints ex (Term.int_eval k)) h
  subst q
  exact Sta.start ex hi
/-- the law's masks -/
theorem maskR (x n : Int32) (N : Int) (hn : n.toInt = N) (hp : 0 < N) : 0 ≤ ((x &&& 2147483647) % n).toInt ∧ ((x &&& 2147483647) % n).toInt < N := by
  have h1 := (c_and x 2147483647 (by decide)).1
  have h2 := (c_irem (x &&& 2147483647) n N hn).1 h1
  rw [h2]
  exact ⟨Int.emod_nonneg _ (by omega), Int.emod_lt_of_pos _ hp⟩
theorem i32_eq {x y : Int32} (h : x.toInt = y.toInt) : x = y := Int32.toInt_inj.mp h
theorem Sta.keep' {C nm d : String} {v : Value} {ws : List Addr} (F : Sta Z h C nm d v) (K : Keep h h' ws) (q : ∀ x ∈ ws, ∃ D, Exa Z h x D) : Sta Z h' C nm d v := by
  obtain ⟨cf, i, k, f, st, cell, h1, h2, h3, h4, h5, h6, h7⟩ := F
  refine ⟨cf, i, k, f, st, cell, h1, h2, h3, h4, K.2.1 st cell h5 fun r => ?_, h6, h7⟩
  obtain ⟨D, c2, _, e1, -, -, e4, -⟩ := q st r
  cases h5.symm.trans e1
  rw [h6] at e4
  cases e4
theorem addI {x y : Int32} (h1 : -2147483648 ≤ x.toInt + y.toInt) (h2 : x.toInt + y.toInt < 2147483648) : (x + y).toInt = x.toInt + y.toInt := by
  have q1 := c_iadd x y
  have q2 := rng32 (x + y)
  omega
theorem subI {x y : Int32} (h1 : -2147483648 ≤ x.toInt - y.toInt) (h2 : x.toInt - y.toInt < 2147483648) : (x - y).toInt = x.toInt - y.toInt := by
  have q1 := c_isub x y
  have q2 := rng32 (x - y)
  omega
def cI (x : Int32) : Int32 := x
theorem ltI {x y : Int32} : x < y ↔ x.toInt < y.toInt := Int32.lt_iff_toInt_lt
theorem eqI {x y : Int32} : x = y ↔ x.toInt = y.toInt := Int32.toInt_inj.symm
end OwnKit
section OwnArr
variable {p : Program} {l : Launch} {e : Env} {R : Room} {s : State} {m : MethodId} {args : Array Value} {below : List Frame} {meth : Method} {c : Code} {T T' : State} {Z : State} {own : String} {h h' : Heap} {n0 k n C S : Nat} {a0 : Array Value} {P : Option Value → Heap → Prop} {g g' : JFrame} {pc : Nat} {Ls : Array Slot} {st rest : List Value}
/-- an array of N values -/
def PArr (Z : State) (h : Heap) (a : Addr) (ty : FieldType) (N : Nat) (f : Nat → Value) : Prop := ∃ c : Cell, Arr Z h a c ty ∧ c.slots.size = N ∧ N < 2 ^ 31 ∧ ∀ i, i < N → c.slots[i]? = some (f i)
variable {a b : Addr} {ty : FieldType} {N sl : Nat} {f : Nat → Value} {v : Value} {ws : List Addr}
theorem PArr.lt (F : PArr Z h a ty N f) : a < h.size := by obtain ⟨c, A, -⟩ := F; exact A.lt
theorem PArr.ext (F : PArr Z h a ty N f) (E : Ext h h') : PArr Z h' a ty N f := by obtain ⟨c, A, r⟩ := F; exact ⟨c, A.ext E, r⟩
theorem PArr.other (F : PArr Z h b ty N f) (W : Wr h h' a sl v) (q : b ≠ a) : PArr Z h' b ty N f := by obtain ⟨c, A, r⟩ := F; exact ⟨c, A.other W q, r⟩
theorem PArr.keep (F : PArr Z h a ty N f) (K : Keep h h' ws) (q : a ∉ ws) : PArr Z h' a ty N f := by obtain ⟨c, A, r⟩ := F; exact ⟨c, ⟨K.2.1 a c A.1 q, A.2⟩, r⟩
theorem PArr.congr {f' : Nat → Value} (F : PArr Z h a ty N f) (q : ∀ i, i < N → f i = f' i) : PArr Z h a ty N f' := by obtain ⟨c, A, r1, r2, r3⟩ := F; exact ⟨c, A, r1, r2, fun i hi => by rw [← q i hi]; exact r3 i hi⟩
theorem PArr.small (F : PArr Z h a ty N f) : N < 2 ^ 31 := by obtain ⟨c, A, r1, r2, r3⟩ := F; exact r2
theorem PArr.set (F : PArr Z h a ty N f) (W : Wr h h' a sl v) : PArr Z h' a ty N (fun i => if i = sl then v else f i) := by
  obtain ⟨c, A, r1, r2, r3⟩ := F
  obtain ⟨cell, q1, q2, q3, q4⟩ := id W
  cases q1.symm.trans A.1
  refine ⟨_, A.same W, by rw [sz_set]; exact r1, r2, fun i hi => ?_⟩
  show (c.slots.setIfInBounds sl v)[i]? = some (if i = sl then v else f i)
  by_cases e : i = sl
  · subst e
    rw [if_pos rfl]
    simp [q3]
  · rw [if_neg e, Array.getElem?_setIfInBounds_ne (Ne.symm e)]
    exact r3 i hi
theorem idxN {j : Int32} {i : Nat} (hj : j.toInt = i) : j.toNatClampNeg = i ∧ ¬ j < 0 := by
  constructor
  · show j.toInt.toNat = i
    omega
  · rw [Int32.lt_iff_toInt_lt]
    show ¬ j.toInt < 0
    omega
theorem idxI {c : Cell} {j : Int32} {i : Nat} (hs : c.slots.size = N) (hj : j.toInt = i) (hi : i < N) : ¬ (j < 0 ∨ c.slots.size ≤ j.toNatClampNeg) := by
  rw [(idxN hj).1, hs]
  rintro (q | q)
  · exact (idxN hj).2 q
  · omega
theorem Std.iaload (X : Std p l e R s m args below meth c Z own n0 T h k n) (F : PArr Z h a .int N f) {j : Int32} {i : Nat} (hj : j.toInt = i) (hi : i < N) (hd : decode c.code pc = .ok (.iaload, 1)) (G : Goes p e below s n0 C S P T (mkF m (pc + 1) Ls (f i :: rest))) : Goes p e below s n0 C S P T (mkF m pc Ls (.int j :: .ref a :: rest)) := by
  obtain ⟨vm0, ⟨L, X, -⟩, eT, hx, hZ, -⟩ := X
  obtain ⟨cl, A, r1, r2, r3⟩ := F
  exact Goes.by (fun t q => X.iaload hx (g := mkF m pc Ls (.int j :: .ref a :: rest)) (by rw [eT]; exact A.1) (State.isArrayOf_alike hZ.alike A.2.1) A.2.2 (idxI r1 hj hi) (v := f i) (by rw [(idxN hj).1]; exact r3 i hi) rfl rfl hd t q) G
theorem Std.laload (X : Std p l e R s m args below meth c Z own n0 T h k n) (F : PArr Z h a .long N f) {j : Int32} {i : Nat} (hj : j.toInt = i) (hi : i < N) (hd : decode c.code pc = .ok (.laload, 1)) (G : Goes p e below s n0 C S P T (mkF m (pc + 1) Ls (f i :: rest))) : Goes p e below s n0 C S P T (mkF m pc Ls (.int j :: .ref a :: rest)) := by
  obtain ⟨vm0, ⟨L, X, -⟩, eT, hx, hZ, -⟩ := X
  obtain ⟨cl, A, r1, r2, r3⟩ := F
  exact Goes.by (fun t q => X.laload hx (g := mkF m pc Ls (.int j :: .ref a :: rest)) (by rw [eT]; exact A.1) (State.isArrayOf_alike hZ.alike A.2.1) A.2.2 (idxI r1 hj hi) (v := f i) (by rw [(idxN hj).1]; exact r3 i hi) rfl rfl hd t q) G
theorem Std.baloadB (X : Std p l e R s m args below meth c Z own n0 T h k n) (F : PArr Z h a .byte N f) {j : Int32} {i : Nat} (hj : j.toInt = i) (hi : i < N) (hd : decode c.code pc = .ok (.baload, 1)) (G : Goes p e below s n0 C S P T (mkF m (pc + 1) Ls (f i :: rest))) : Goes p e below s n0 C S P T (mkF m pc Ls (.int j :: .ref a :: rest)) := by
  obtain ⟨vm0, ⟨L, X, -⟩, eT, hx, hZ, -⟩ := X
  obtain ⟨cl, A, r1, r2, r3⟩ := F
  exact Goes.by (fun t q => X.baloadBytes hx (g := mkF m pc Ls (.int j :: .ref a :: rest)) (by rw [eT]; exact A.1) (State.isArrayOf_alike hZ.alike A.2.1) A.2.2 (idxI r1 hj hi) (v := f i) (by rw [(idxN hj).1]; exact r3 i hi) rfl rfl hd t q) G
theorem Std.baloadZ (X : Std p l e R s m args below meth c Z own n0 T h k n) (F : PArr Z h a .boolean N f) {j : Int32} {i : Nat} (hj : j.toInt = i) (hi : i < N) (hd : decode c.code pc = .ok (.baload, 1)) (G : Goes p e below s n0 C S P T (mkF m (pc + 1) Ls (f i :: rest))) : Goes p e below s n0 C S P T (mkF m pc Ls (.int j :: .ref a :: rest)) := by
  obtain ⟨vm0, ⟨L, X, -⟩, eT, hx, hZ, -⟩ := X
  obtain ⟨cl, A, r1, r2, r3⟩ := F
  exact Goes.by (fun t q => X.baloadBooleans hx (g := mkF m pc Ls (.int j :: .ref a :: rest)) (by rw [eT]; exact A.1) (State.isArrayOf_alike hZ.alike A.2.1) A.2.2 (idxI r1 hj hi) (v := f i) (by rw [(idxN hj).1]; exact r3 i hi) rfl rfl hd t q) G
theorem Std.alen (X : Std p l e R s m args below meth c Z own n0 T h k n) (F : PArr Z h a ty N f) {z : Int32} (hz : z.toInt = N) (hd : decode c.code pc = .ok (.arraylength, 1)) (G : Goes p e below s n0 C S P T (mkF m (pc + 1) Ls (.int z :: rest))) : Goes p e below s n0 C S P T (mkF m pc Ls (.ref a :: rest)) := by
  obtain ⟨vm0, ⟨L, X, -⟩, eT, hx, hZ, -⟩ := X
  obtain ⟨cl, A, r1, r2, r3⟩ := F
  have q : cl.slots.size.toInt32 = z := Int32.toInt_inj.mp (by rw [r1, hz]; exact len_toInt r2)
  refine Goes.by (fun t q => X.arraylength hx (g := mkF m pc Ls (.ref a :: rest)) (by rw [eT]; exact A.1) (State.isArrayOf_alike hZ.alike A.2.1) rfl rfl hd t q) ?_
  rw [q]
  exact G
theorem Std.iastore (X : Std p l e R s m args below meth c Z own n0 T h k n) (F : PArr Z h a .int N f) {j x : Int32} {i : Nat} (hj : j.toInt = i) (hi : i < N) (ha : n0 ≤ a) (hd : decode c.code pc = .ok (.iastore, 1))
    (G : ∀ T h', Std p l e R s m args below meth c Z own n0 T h' k n → Wr h h' a i (.int x) → Goes p e below s n0 C S P T (mkF m (pc + 1) Ls rest)) : Goes p e below s n0 C S P T (mkF m pc Ls (.int x :: .int j :: .ref a :: rest)) := by
  obtain ⟨vm0, ⟨L, X, M⟩, eT, hx, hZ, hown, hB, r⟩ := X
  obtain ⟨cl, A, r1, r2, r3⟩ := F
  obtain ⟨T1, h1, X1, e1, W1, st1⟩ := stI X hx hZ eT A (x := x) (idxI r1 hj hi) (g := mkF m pc Ls (.int x :: .int j :: .ref a :: rest)) rfl rfl hd
  refine Goes.by st1 (G T1 h1 ⟨vm0, ⟨_, X1, Fr.snoc X1 M ha⟩, e1, hx, hZ, hown, hB.mono (Nat.le_of_eq W1.size.symm), r⟩ ?_)
  rw [← (idxN hj).1]
  exact W1
theorem Std.bastoreB (X : Std p l e R s m args below meth c Z own n0 T h k n) (F : PArr Z h a .byte N f) {j x : Int32} {i : Nat} (hj : j.toInt = i) (hi : i < N) (ha : n0 ≤ a) (hd : decode c.code pc = .ok (.bastore, 1))
    (G : ∀ T h', Std p l e R s m args below meth c Z own n0 T h' k n → Wr h h' a i (.int (nar .byte x)) → Goes p e below s n0 C S P T (mkF m (pc + 1) Ls rest)) : Goes p e below s n0 C S P T (mkF m pc Ls (.int x :: .int j :: .ref a :: rest)) := by
  obtain ⟨vm0, ⟨L, X, M⟩, eT, hx, hZ, hown, hB, r⟩ := X
  obtain ⟨cl, A, r1, r2, r3⟩ := F
  obtain ⟨T1, h1, X1, e1, W1, st1⟩ := stB X hx hZ eT A (x := x) (idxI r1 hj hi) (g := mkF m pc Ls (.int x :: .int j :: .ref a :: rest)) rfl rfl hd
  refine Goes.by st1 (G T1 h1 ⟨vm0, ⟨_, X1, Fr.snoc X1 M ha⟩, e1, hx, hZ, hown, hB.mono (Nat.le_of_eq W1.size.symm), r⟩ ?_)
  rw [← (idxN hj).1]
  exact W1
theorem Std.bastoreZ (X : Std p l e R s m args below meth c Z own n0 T h k n) (F : PArr Z h a .boolean N f) {j x : Int32} {i : Nat} (hj : j.toInt = i) (hi : i < N) (ha : n0 ≤ a) (hd : decode c.code pc = .ok (.bastore, 1))
    (G : ∀ T h', Std p l e R s m args below meth c Z own n0 T h' k n → Wr h h' a i (.int (nar .boolean x)) → Goes p e below s n0 C S P T (mkF m (pc + 1) Ls rest)) : Goes p e below s n0 C S P T (mkF m pc Ls (.int x :: .int j :: .ref a :: rest)) := by
  obtain ⟨vm0, ⟨L, X, M⟩, eT, hx, hZ, hown, hB, r⟩ := X
  obtain ⟨cl, A, r1, r2, r3⟩ := F
  obtain ⟨T1, h1, X1, e1, W1, st1⟩ := stZ X hx hZ eT A (x := x) (idxI r1 hj hi) (g := mkF m pc Ls (.int x :: .int j :: .ref a :: rest)) rfl rfl hd
  refine Goes.by st1 (G T1 h1 ⟨vm0, ⟨_, X1, Fr.snoc X1 M ha⟩, e1, hx, hZ, hown, hB.mono (Nat.le_of_eq W1.size.symm), r⟩ ?_)
  rw [← (idxN hj).1]
  exact W1
theorem Std.newA (X : Std p l e R s m args below meth c Z own n0 T h k n) {aty : ArrayType} {ad : String} (had : "[" ++ (newarray.typeOf aty).toString = ad) (w : (Cond.arrayClass (newarray.typeOf aty)).before a0 Z = true) (hd : decode c.code pc = .ok (.newarray aty, 2)) {z : Int32} (hz : z.toInt = N) {cap : Nat} (hcap : N ≤ cap) (hb : cap * 8 ≤ 536870912) (hc : k + 1 ≤ R.cells) (hl : n + cap ≤ R.slots)
    (G : ∀ T h' a, Std p l e R s m args below meth c Z own n0 T h' (k + 1) (n + cap) → a = h.size → n0 ≤ a → Ext h h' → Exa Z h' a ad → PArr Z h' a (newarray.typeOf aty) N (fun _ => defaultValue (newarray.typeOf aty)) → Goes p e below s n0 C S P T (mkF m (pc + 2) Ls (.ref a :: rest))) : Goes p e below s n0 C S P T (mkF m pc Ls (.int z :: rest)) := by
  have q := X.n0le
  obtain ⟨vm0, ⟨L0, X, M⟩, eT, hx, hZ, hown, hB, r⟩ := X
  obtain ⟨T1, h1, cA, X1, e1, E1, A1, B1, st1⟩ := newPE X hx hZ w eT (g := mkF m pc Ls (.int z :: rest)) rfl hd rfl (idxN hz).2 (cap := cap) (by rw [(idxN hz).1]; exact hcap) hb hc hl had
  have hN : N < 2 ^ 31 := by have := Int32.toInt_lt z; omega
  refine Goes.by st1 (G T1 h1 h.size ⟨vm0, ⟨_, X1, M⟩, e1, hx, hZ, hown, hB.mono E1.1, r⟩ rfl q E1 B1 ⟨_, A1, by rw [sz_new]; exact (idxN hz).1, hN, fun i hi => ?_⟩)
  show (Array.replicate z.toNatClampNeg _)[i]? = _
  rw [(idxN hz).1]
  simp [hi]
end OwnArr
section OwnMore
variable {p : Program} {l : Launch} {e : Env} {R : Room} {s : State} {m : MethodId} {args : Array Value} {below : List Frame} {meth : Method} {c : Code} {T T' : State} {Z : State} {own : String} {h h' : Heap} {n0 k n C S : Nat} {a0 : Array Value} {P : Option Value → Heap → Prop} {g g' : JFrame} {pc : Nat} {Ls : Array Slot} {st rest : List Value} {a b : Addr} {ty : FieldType} {N sl : Nat} {f : Nat → Value} {v : Value} {ws : List Addr}
theorem Std.castY (X : Std p l e R s m args below meth c Z own n0 T h k n) {index : Nat} {K : String} (w : (Cond.classLink own index K).before a0 Z = true) (F : Ins Z h a K true) (hd : decode c.code pc = .ok (.checkcast index, 3))
    (G : ∀ T, Std p l e R s m args below meth c Z own n0 T h k n → Goes p e below s n0 C S P T (mkF m (pc + 3) Ls (.ref a :: rest))) : Goes p e below s n0 C S P T (mkF m pc Ls (.ref a :: rest)) := by
  obtain ⟨vm0, ⟨L, X, M⟩, eT, hx, hZ, hown, hB, r⟩ := X
  obtain ⟨T1, X1, e1, st1⟩ := Jvm.RoadKit.castY X hx hZ hown w eT F (g := mkF m pc Ls (.ref a :: rest)) rfl rfl hd
  exact Goes.by st1 (G T1 ⟨vm0, ⟨L, X1, M⟩, e1, hx, hZ, hown, hB, r⟩)
theorem Std.instY (X : Std p l e R s m args below meth c Z own n0 T h k n) {index : Nat} {K : String} (w : (Cond.classLink own index K).before a0 Z = true) (F : Ins Z h a K true) (hd : decode c.code pc = .ok (.instanceof index, 3))
    (G : ∀ T, Std p l e R s m args below meth c Z own n0 T h k n → Goes p e below s n0 C S P T (mkF m (pc + 3) Ls (.int 1 :: rest))) : Goes p e below s n0 C S P T (mkF m pc Ls (.ref a :: rest)) := by
  obtain ⟨vm0, ⟨L, X, M⟩, eT, hx, hZ, hown, hB, r⟩ := X
  obtain ⟨T1, X1, e1, st1⟩ := Jvm.RoadKit.instY X hx hZ hown w eT F (g := mkF m pc Ls (.ref a :: rest)) rfl rfl hd
  exact Goes.by st1 (G T1 ⟨vm0, ⟨L, X1, M⟩, e1, hx, hZ, hown, hB, r⟩)
theorem Std.more (X : Std p l e R s m args below meth c Z own n0 T h k n) {k' n' : Nat} (hk : k ≤ k') (hn : n ≤ n') : Std p l e R s m args below meth c Z own n0 T h k' n' := by
  obtain ⟨vm0, ⟨L, X, M⟩, r⟩ := X
  exact ⟨vm0, ⟨L, X.more hk hn, M⟩, r⟩
theorem Std.clone (X : Std p l e R s m args below meth c Z own n0 T h k n) {ad : String} {index : Nat} (w1 : (Cond.methodLink own index ⟨ad, "clone", "()Ljava/lang/Object;"⟩).before a0 Z = true) (w2 : (Cond.sameMethod ad "java/lang/Object" "clone" "()Ljava/lang/Object;").before a0 Z = true) (w3 : (Cond.native ⟨"java/lang/Object", "clone", "()Ljava/lang/Object;"⟩).before a0 Z = true)
    (w4 : (Cond.instanceMethod ⟨"java/lang/Object", "clone", "()Ljava/lang/Object;"⟩).before a0 Z = true) (w5 : (Cond.selects ad ⟨ad, "clone", "()Ljava/lang/Object;"⟩ ⟨"java/lang/Object", "clone", "()Ljava/lang/Object;"⟩).before a0 Z = true) (w6 : (Cond.castable ad "java/lang/Cloneable").before a0 Z = true)
    (F : PArr Z h a ty N f) (hfit : ∀ i, i < N → fits ty (f i) = true) (E : Exa Z h a ad) (hsz : Ls.size = c.maxLocals) (hd : decode c.code pc = .ok (.invokevirtual index, 3)) (hf : 1 ≤ R.frames) (hl : (rest.map fun v => v.category).sum + 14 ≤ R.locals) {cap : Nat} (hcap : N ≤ cap) (hc : k + 1 ≤ R.cells) (hs : n + cap ≤ R.slots)
    (G : ∀ T h' b, Std p l e R s m args below meth c Z own n0 T h' (k + 1) (n + cap) → b = h.size → n0 ≤ b → Ext h h' → Exa Z h' b ad → PArr Z h' b ty N f → Goes p e below s n0 C S P T (mkF m (pc + 3) Ls (.ref b :: rest))) : Goes p e below s n0 C S P T (mkF m pc Ls (.ref a :: rest)) := by
  have q := X.n0le
  obtain ⟨vm0, ⟨L, X, M⟩, eT, hx, hZ, hown, hB, r⟩ := X
  obtain ⟨cl, A, r1, r2, r3⟩ := F
  have FC : FitC Z cl := fitC_of A fun i hi v hv => by rw [r1] at hi; rw [r3 i hi] at hv; cases hv; exact hfit i hi
  obtain ⟨T1, h1, X1, e1, E1, A1, B1, st1⟩ := cloneA X hx hZ hown w1 w2 w3 w4 w5 w6 eT A E FC (g := mkF m pc Ls (.ref a :: rest)) rfl hsz rfl hd hf (W := (rest.map fun v => v.category).sum) (cap := cap) (by show 2 * 0 + _ ≤ _; omega) hl (by rw [r1]; exact hcap) hc hs
  exact Goes.by st1 (G T1 h1 h.size ⟨vm0, ⟨_, X1, M⟩, e1, hx, hZ, hown, hB.mono E1.1, r⟩ rfl q E1 B1 ⟨cloneOf cl, A1, r1, r2, r3⟩)
theorem Std.grid (X : Std p l e R s m args below meth c Z own n0 T h k n) {K ad : String} {index : Nat} (hC : (FieldType.array ty).toString = K) (had : "[" ++ K = ad) (w1 : (Cond.classLink own index ad).before a0 Z = true) (w2 : (Cond.arrayOver (.array ty)).before a0 Z = true) (w3 : (Cond.arrayClass ty).before a0 Z = true) (hd : decode c.code pc = .ok (.multianewarray index 2, 4)) {z y : Int32} {Y : Nat} (hz : z.toInt = N) (hy : y.toInt = Y) {capN cap : Nat} (hcN : N ≤ capN) (hcap : Y ≤ cap) (hb : cap * 8 ≤ 536870912) (hb1 : capN ≤ 1000) (hdf : fits ty (defaultValue ty) = true) (hdd : (defaultValue ty).isDefault = true) (hc : k + (1 + capN) ≤ R.cells) (hl : n + (capN + capN * cap) ≤ R.slots)
    (G : ∀ T h' b, Std p l e R s m args below meth c Z own n0 T h' (k + (1 + capN)) (n + (capN + capN * cap)) → b = h.size → n0 ≤ b → Ext h h' → Exa Z h' b ad → Goes p e below s n0 C S P T (mkF m (pc + 4) Ls (.ref b :: rest))) : Goes p e below s n0 C S P T (mkF m pc Ls (.int y :: .int z :: rest)) := by
  have q := X.n0le
  have m1 : N * cap ≤ capN * cap := Nat.mul_le_mul_right _ hcN
  obtain ⟨vm0, ⟨L, X, M⟩, eT, hx, hZ, hown, hB, r⟩ := X
  obtain ⟨T1, h1, cA, comp, X1, e1, E1, A1, O1, B1, I1, st1⟩ := gridM X hx hZ hown hC had w1 w2 w3 eT (g := mkF m pc Ls (.int y :: .int z :: rest)) rfl hd rfl (idxN hz).2 (idxN hy).2 (N := N) (idxN hz).1 rfl (cap := cap) (by rw [(idxN hy).1]; exact hcap) hb (by omega) hdf hdd (by omega) (by omega)
  exact Goes.by st1 (G T1 h1 h.size ⟨vm0, ⟨_, X1.more (by omega) (by omega), M⟩, e1, hx, hZ, hown, hB.mono E1.1, r⟩ rfl q E1 B1)
end OwnMore
theorem pf_1 : plainFor (⟨"com/example/objects_to_rows/objectstorows/query/OperatorOrdersPinLaw", "pick", "(I)Lcom/example/objects_to_rows/objectstorows/query/QueryModel$Operator;"⟩ : MethodName) = true := by first | exact plainFor_of_name (by first | (simp [plainName, overriddenIn]; done) | decide +kernel) | decide +kernel
theorem d1_0 : decode method_3_code 0 = .ok (.iload_n 0, 1) := by decide +kernel
theorem d1_1 : decode method_3_code 1 = .ok (.ifCond .ne 7, 3) := by decide +kernel
theorem d1_4 : decode method_3_code 4 = .ok (.getstatic 20, 3) := by decide +kernel
theorem d1_7 : decode method_3_code 7 = .ok (.areturn, 1) := by decide +kernel
theorem d1_8 : decode method_3_code 8 = .ok (.iload_n 0, 1) := by decide +kernel
theorem d1_9 : decode method_3_code 9 = .ok (.iconst 1, 1) := by decide +kernel
theorem d1_10 : decode method_3_code 10 = .ok (.if_icmp .ne 7, 3) := by decide +kernel
theorem d1_13 : decode method_3_code 13 = .ok (.getstatic 24, 3) := by decide +kernel
theorem d1_16 : decode method_3_code 16 = .ok (.areturn, 1) := by decide +kernel
theorem d1_17 : decode method_3_code 17 = .ok (.iload_n 0, 1) := by decide +kernel
theorem d1_18 : decode method_3_code 18 = .ok (.iconst 2, 1) := by decide +kernel
theorem d1_19 : decode method_3_code 19 = .ok (.if_icmp .ne 7, 3) := by decide +kernel
theorem d1_22 : decode method_3_code 22 = .ok (.getstatic 27, 3) := by decide +kernel
theorem d1_25 : decode method_3_code 25 = .ok (.areturn, 1) := by decide +kernel
theorem d1_26 : decode method_3_code 26 = .ok (.iload_n 0, 1) := by decide +kernel
theorem d1_27 : decode method_3_code 27 = .ok (.iconst 3, 1) := by decide +kernel
theorem d1_28 : decode method_3_code 28 = .ok (.if_icmp .ne 7, 3) := by decide +kernel
theorem d1_31 : decode method_3_code 31 = .ok (.getstatic 30, 3) := by decide +kernel
theorem d1_34 : decode method_3_code 34 = .ok (.areturn, 1) := by decide +kernel
theorem d1_35 : decode method_3_code 35 = .ok (.iload_n 0, 1) := by decide +kernel
theorem d1_36 : decode method_3_code 36 = .ok (.iconst 4, 1) := by decide +kernel
theorem d1_37 : decode method_3_code 37 = .ok (.if_icmp .ne 7, 3) := by decide +kernel
theorem d1_40 : decode method_3_code 40 = .ok (.getstatic 33, 3) := by decide +kernel
theorem d1_43 : decode method_3_code 43 = .ok (.areturn, 1) := by decide +kernel
theorem d1_44 : decode method_3_code 44 = .ok (.getstatic 36, 3) := by decide +kernel
theorem d1_47 : decode method_3_code 47 = .ok (.areturn, 1) := by decide +kernel
theorem pf_2 : plainFor (⟨"com/example/objects_to_rows/objectstorows/query/QueryModel$Operator", "orders", "()Z"⟩ : MethodName) = true := by first | exact plainFor_of_name (by first | (simp [plainName, overriddenIn]; done) | decide +kernel) | decide +kernel
theorem d2_0 : decode prog_55_method_5_code 0 = .ok (.aload_n 0, 1) := by decide +kernel
theorem d2_1 : decode prog_55_method_5_code 1 = .ok (.getstatic 3, 3) := by decide +kernel
theorem d2_4 : decode prog_55_method_5_code 4 = .ok (.if_acmp .eq 14, 3) := by decide +kernel
theorem d2_18 : decode prog_55_method_5_code 18 = .ok (.iconst 0, 1) := by decide +kernel
theorem d2_19 : decode prog_55_method_5_code 19 = .ok (.ireturn, 1) := by decide +kernel
theorem d2_7 : decode prog_55_method_5_code 7 = .ok (.aload_n 0, 1) := by decide +kernel
theorem d2_8 : decode prog_55_method_5_code 8 = .ok (.getstatic 7, 3) := by decide +kernel
theorem d2_11 : decode prog_55_method_5_code 11 = .ok (.if_acmp .eq 7, 3) := by decide +kernel
theorem d2_14 : decode prog_55_method_5_code 14 = .ok (.iconst 1, 1) := by decide +kernel
theorem d2_15 : decode prog_55_method_5_code 15 = .ok (.goto 4, 3) := by decide +kernel
theorem pf_0 : plainFor (⟨"com/example/objects_to_rows/objectstorows/query/OperatorOrdersPinLaw", "law", "(I)Z"⟩ : MethodName) = true := by first | exact plainFor_of_name (by first | (simp [plainName, overriddenIn]; done) | decide +kernel) | decide +kernel
theorem pd_3333759383 : parseMethodDescriptor "(I)Lcom/example/objects_to_rows/objectstorows/query/QueryModel$Operator;" = some ⟨[.int], some (.object "com/example/objects_to_rows/objectstorows/query/QueryModel$Operator")⟩ := by decide +kernel
theorem pd_193422000 : parseMethodDescriptor "()Z" = some ⟨[], some .boolean⟩ := by decide +kernel
set_option maxRecDepth 65536 in
set_option maxHeartbeats 40000000 in
theorem rm1 (l : Launch) (Z : State) (a0 : Array Value) (hw : ∀ d ∈ tables_1, d.before a0 Z = true) (n0 : Nat) (h0 : Heap) (hn0 : n0 ≤ h0.size) (i : Int32) (a_EQUAL : Addr) (S_EQUAL : Sta Z h0 "com/example/objects_to_rows/objectstorows/query/QueryModel$Operator" "EQUAL" "Lcom/example/objects_to_rows/objectstorows/query/QueryModel$Operator;" (.ref a_EQUAL)) (a_NOT_EQUAL : Addr) (S_NOT_EQUAL : Sta Z h0 "com/example/objects_to_rows/objectstorows/query/QueryModel$Operator" "NOT_EQUAL" "Lcom/example/objects_to_rows/objectstorows/query/QueryModel$Operator;" (.ref a_NOT_EQUAL)) (a_LESS : Addr) (S_LESS : Sta Z h0 "com/example/objects_to_rows/objectstorows/query/QueryModel$Operator" "LESS" "Lcom/example/objects_to_rows/objectstorows/query/QueryModel$Operator;" (.ref a_LESS)) (a_LESS_OR_EQUAL : Addr) (S_LESS_OR_EQUAL : Sta Z h0 "com/example/objects_to_rows/objectstorows/query/QueryModel$Operator" "LESS_OR_EQUAL" "Lcom/example/objects_to_rows/objectstorows/query/QueryModel$Operator;" (.ref a_LESS_OR_EQUAL)) (a_GREATER : Addr) (S_GREATER : Sta Z h0 "com/example/objects_to_rows/objectstorows/query/QueryModel$Operator" "GREATER" "Lcom/example/objects_to_rows/objectstorows/query/QueryModel$Operator;" (.ref a_GREATER)) (a_GREATER_OR_EQUAL : Addr) (S_GREATER_OR_EQUAL : Sta Z h0 "com/example/objects_to_rows/objectstorows/query/QueryModel$Operator" "GREATER_OR_EQUAL" "Lcom/example/objects_to_rows/objectstorows/query/QueryModel$Operator;" (.ref a_GREATER_OR_EQUAL)) :
    Met l Z n0 (⟨"com/example/objects_to_rows/objectstorows/query/OperatorOrdersPinLaw", "pick", "(I)Lcom/example/objects_to_rows/objectstorows/query/QueryModel$Operator;"⟩ : MethodName) method_3_code 1 (Option.some (.object "com/example/objects_to_rows/objectstorows/query/QueryModel$Operator")) ({ frames := 0, cells := 0, slots := 0, locals := 0 } : Room) #[(.int i)] h0 (fun (v : Option Value) (h' : Heap) => v = some (.ref (if i = 0 then a_EQUAL else if i = 1 then a_NOT_EQUAL else if i = 2 then a_LESS else if i = 3 then a_LESS_OR_EQUAL else if i = 4 then a_GREATER else a_GREATER_OR_EQUAL)) ∧ h' = h0) := by
  refine metW (Q := fun (v : Option Value) (h' : Heap) => v = some (.ref (if i = 0 then a_EQUAL else if i = 1 then a_NOT_EQUAL else if i = 2 then a_LESS else if i = 3 then a_LESS_OR_EQUAL else if i = 4 then a_GREATER else a_GREATER_OR_EQUAL)) ∧ h' = h0) pf_1 hn0 ?_
  intro p e s m below meth c T X hby hml hret hnm
  refine Goes.by (g' := (mkF m 0 #[.val (.int i)] [])) (fun _ q => castTop (by first | rfl | (simp [entryFrame, mkF, argsToLocals, Value.category]; done)) q) ?_
  refine Goes.by (g' := (mkF m 1 #[.val (.int i)] [(.int i)])) (fun _ q => XS.iloadN X.here X.hx rfl (hb hby d1_0) rfl q) ?_
  by_cases hB1 : i = (0 : Int32)
  · skip
    refine Goes.by (g' := (mkF m 4 #[.val (.int i)] [])) (fun _ q => XS.ifNo X.here X.hx rfl (hb hby d1_1) rfl ((if0 _ _).trans (teq hB1).2) q) ?_
    refine X.getS (Or.inl (hw _ (List.mem_of_getElem? (i := 5) rfl))) (host := "") Via.refl S_EQUAL (hb hby d1_4) (fun T X => ?_)
    show Goes _ _ _ _ _ _ _ _ T (mkF m 7 #[.val (.int i)] [(.ref a_EQUAL)])
    exact X.retA hret rfl rfl (hb hby d1_7) (by decide) (by decide) ⟨by simp [hB1], rfl⟩
  · skip
    refine Goes.by (g' := (mkF m 8 #[.val (.int i)] [])) (fun _ q => XS.ifYes X.here X.hx rfl (pc0 := 1) (pc' := 8) rfl (hb hby d1_1) rfl ((if0 _ _).trans (feq hB1).2) (by decide) (by decide) q) ?_
    refine Goes.by (g' := (mkF m 9 #[.val (.int i)] [(.int i)])) (fun _ q => XS.iloadN X.here X.hx rfl (hb hby d1_8) rfl q) ?_
    refine Goes.by (g' := (mkF m 10 #[.val (.int i)] [(.int (1 : Int32)), (.int i)])) (fun _ q => XS.iconst X.here X.hx rfl (hb hby d1_9) q) ?_
    by_cases hB2 : i = (1 : Int32)
    · skip
      refine Goes.by (g' := (mkF m 13 #[.val (.int i)] [])) (fun _ q => XS.icmpNo X.here X.hx rfl (hb hby d1_10) rfl (teq hB2).2 q) ?_
      refine X.getS (Or.inl (hw _ (List.mem_of_getElem? (i := 20) rfl))) (host := "") Via.refl S_NOT_EQUAL (hb hby d1_13) (fun T X => ?_)
      show Goes _ _ _ _ _ _ _ _ T (mkF m 16 #[.val (.int i)] [(.ref a_NOT_EQUAL)])
      exact X.retA hret rfl rfl (hb hby d1_16) (by decide) (by decide) ⟨by simp [hB1, hB2], rfl⟩
    · skip
      refine Goes.by (g' := (mkF m 17 #[.val (.int i)] [])) (fun _ q => XS.icmpYes X.here X.hx rfl (pc0 := 10) (pc' := 17) rfl (hb hby d1_10) rfl (feq hB2).2 (by decide) (by decide) q) ?_
      refine Goes.by (g' := (mkF m 18 #[.val (.int i)] [(.int i)])) (fun _ q => XS.iloadN X.here X.hx rfl (hb hby d1_17) rfl q) ?_
      refine Goes.by (g' := (mkF m 19 #[.val (.int i)] [(.int (2 : Int32)), (.int i)])) (fun _ q => XS.iconst X.here X.hx rfl (hb hby d1_18) q) ?_
      by_cases hB3 : i = (2 : Int32)
      · skip
        refine Goes.by (g' := (mkF m 22 #[.val (.int i)] [])) (fun _ q => XS.icmpNo X.here X.hx rfl (hb hby d1_19) rfl (teq hB3).2 q) ?_
        refine X.getS (Or.inl (hw _ (List.mem_of_getElem? (i := 18) rfl))) (host := "") Via.refl S_LESS (hb hby d1_22) (fun T X => ?_)
        show Goes _ _ _ _ _ _ _ _ T (mkF m 25 #[.val (.int i)] [(.ref a_LESS)])
        exact X.retA hret rfl rfl (hb hby d1_25) (by decide) (by decide) ⟨by simp [hB1, hB2, hB3], rfl⟩
      · skip
        refine Goes.by (g' := (mkF m 26 #[.val (.int i)] [])) (fun _ q => XS.icmpYes X.here X.hx rfl (pc0 := 19) (pc' := 26) rfl (hb hby d1_19) rfl (feq hB3).2 (by decide) (by decide) q) ?_
        refine Goes.by (g' := (mkF m 27 #[.val (.int i)] [(.int i)])) (fun _ q => XS.iloadN X.here X.hx rfl (hb hby d1_26) rfl q) ?_
        refine Goes.by (g' := (mkF m 28 #[.val (.int i)] [(.int (3 : Int32)), (.int i)])) (fun _ q => XS.iconst X.here X.hx rfl (hb hby d1_27) q) ?_
        by_cases hB4 : i = (3 : Int32)
        · skip
          refine Goes.by (g' := (mkF m 31 #[.val (.int i)] [])) (fun _ q => XS.icmpNo X.here X.hx rfl (hb hby d1_28) rfl (teq hB4).2 q) ?_
          refine X.getS (Or.inl (hw _ (List.mem_of_getElem? (i := 14) rfl))) (host := "") Via.refl S_LESS_OR_EQUAL (hb hby d1_31) (fun T X => ?_)
          show Goes _ _ _ _ _ _ _ _ T (mkF m 34 #[.val (.int i)] [(.ref a_LESS_OR_EQUAL)])
          exact X.retA hret rfl rfl (hb hby d1_34) (by decide) (by decide) ⟨by simp [hB1, hB2, hB3, hB4], rfl⟩
        · skip
          refine Goes.by (g' := (mkF m 35 #[.val (.int i)] [])) (fun _ q => XS.icmpYes X.here X.hx rfl (pc0 := 28) (pc' := 35) rfl (hb hby d1_28) rfl (feq hB4).2 (by decide) (by decide) q) ?_
          refine Goes.by (g' := (mkF m 36 #[.val (.int i)] [(.int i)])) (fun _ q => XS.iloadN X.here X.hx rfl (hb hby d1_35) rfl q) ?_
          refine Goes.by (g' := (mkF m 37 #[.val (.int i)] [(.int (4 : Int32)), (.int i)])) (fun _ q => XS.iconst X.here X.hx rfl (hb hby d1_36) q) ?_
          by_cases hB5 : i = (4 : Int32)
          · skip
            refine Goes.by (g' := (mkF m 40 #[.val (.int i)] [])) (fun _ q => XS.icmpNo X.here X.hx rfl (hb hby d1_37) rfl (teq hB5).2 q) ?_
            refine X.getS (Or.inl (hw _ (List.mem_of_getElem? (i := 23) rfl))) (host := "") Via.refl S_GREATER (hb hby d1_40) (fun T X => ?_)
            show Goes _ _ _ _ _ _ _ _ T (mkF m 43 #[.val (.int i)] [(.ref a_GREATER)])
            exact X.retA hret rfl rfl (hb hby d1_43) (by decide) (by decide) ⟨by simp [hB1, hB2, hB3, hB4, hB5], rfl⟩
          · skip
            refine Goes.by (g' := (mkF m 44 #[.val (.int i)] [])) (fun _ q => XS.icmpYes X.here X.hx rfl (pc0 := 37) (pc' := 44) rfl (hb hby d1_37) rfl (feq hB5).2 (by decide) (by decide) q) ?_
            refine X.getS (Or.inl (hw _ (List.mem_of_getElem? (i := 21) rfl))) (host := "") Via.refl S_GREATER_OR_EQUAL (hb hby d1_44) (fun T X => ?_)
            show Goes _ _ _ _ _ _ _ _ T (mkF m 47 #[.val (.int i)] [(.ref a_GREATER_OR_EQUAL)])
            exact X.retA hret rfl rfl (hb hby d1_47) (by decide) (by decide) ⟨by simp [hB1, hB2, hB3, hB4, hB5], rfl⟩
set_option maxRecDepth 65536 in
set_option maxHeartbeats 40000000 in
theorem rm2 (l : Launch) (Z : State) (a0 : Array Value) (hw : ∀ d ∈ tables_1, d.before a0 Z = true) (n0 : Nat) (h0 : Heap) (hn0 : n0 ≤ h0.size) (a : Addr) (a_EQUAL : Addr) (S_EQUAL : Sta Z h0 "com/example/objects_to_rows/objectstorows/query/QueryModel$Operator" "EQUAL" "Lcom/example/objects_to_rows/objectstorows/query/QueryModel$Operator;" (.ref a_EQUAL)) (a_NOT_EQUAL : Addr) (S_NOT_EQUAL : Sta Z h0 "com/example/objects_to_rows/objectstorows/query/QueryModel$Operator" "NOT_EQUAL" "Lcom/example/objects_to_rows/objectstorows/query/QueryModel$Operator;" (.ref a_NOT_EQUAL)) (a_LESS : Addr) (S_LESS : Sta Z h0 "com/example/objects_to_rows/objectstorows/query/QueryModel$Operator" "LESS" "Lcom/example/objects_to_rows/objectstorows/query/QueryModel$Operator;" (.ref a_LESS)) (a_LESS_OR_EQUAL : Addr) (S_LESS_OR_EQUAL : Sta Z h0 "com/example/objects_to_rows/objectstorows/query/QueryModel$Operator" "LESS_OR_EQUAL" "Lcom/example/objects_to_rows/objectstorows/query/QueryModel$Operator;" (.ref a_LESS_OR_EQUAL)) (a_GREATER : Addr) (S_GREATER : Sta Z h0 "com/example/objects_to_rows/objectstorows/query/QueryModel$Operator" "GREATER" "Lcom/example/objects_to_rows/objectstorows/query/QueryModel$Operator;" (.ref a_GREATER)) (a_GREATER_OR_EQUAL : Addr) (S_GREATER_OR_EQUAL : Sta Z h0 "com/example/objects_to_rows/objectstorows/query/QueryModel$Operator" "GREATER_OR_EQUAL" "Lcom/example/objects_to_rows/objectstorows/query/QueryModel$Operator;" (.ref a_GREATER_OR_EQUAL)) :
    Met l Z n0 (⟨"com/example/objects_to_rows/objectstorows/query/QueryModel$Operator", "orders", "()Z"⟩ : MethodName) prog_55_method_5_code 1 (Option.some .boolean) ({ frames := 0, cells := 0, slots := 0, locals := 0 } : Room) #[(.ref a)] h0 (fun (v : Option Value) (h' : Heap) => v = some (.int (if a = a_EQUAL then 0 else if a = a_NOT_EQUAL then 0 else 1)) ∧ h' = h0) := by
  refine metW (Q := fun (v : Option Value) (h' : Heap) => v = some (.int (if a = a_EQUAL then 0 else if a = a_NOT_EQUAL then 0 else 1)) ∧ h' = h0) pf_2 hn0 ?_
  intro p e s m below meth c T X hby hml hret hnm
  refine Goes.by (g' := (mkF m 0 #[.val (.ref a)] [])) (fun _ q => castTop (by first | rfl | (simp [entryFrame, mkF, argsToLocals, Value.category]; done)) q) ?_
  refine Goes.by (g' := (mkF m 1 #[.val (.ref a)] [(.ref a)])) (fun _ q => XS.aloadN X.here X.hx rfl (hb hby d2_0) rfl rfl q) ?_
  refine X.getS (Or.inl (hw _ (List.mem_of_getElem? (i := 13) rfl))) (host := "") Via.refl S_EQUAL (hb hby d2_1) (fun T X => ?_)
  show Goes _ _ _ _ _ _ _ _ T (mkF m 4 #[.val (.ref a)] [(.ref a_EQUAL), (.ref a)])
  by_cases hB6 : a = a_EQUAL
  · skip
    refine X.acmp rfl rfl (cd := .eq) (x := (.ref a)) (y := (.ref a_EQUAL)) (same := true) (pc' := 18) (hb hby d2_4) (decide_eq_true (congrArg Value.ref hB6)) (by decide) (by decide) ?_
    show Goes _ _ _ _ _ _ _ _ T (mkF m 18 #[.val (.ref a)] [])
    refine Goes.by (g' := (mkF m 19 #[.val (.ref a)] [(.int (0 : Int32))])) (fun _ q => XS.iconst X.here X.hx rfl (hb hby d2_18) q) ?_
    exact X.retZ hret (hb hby d2_19) (by decide) (by decide) ⟨by simp [hB6]; rfl, rfl⟩
  · skip
    refine X.acmp rfl rfl (cd := .eq) (x := (.ref a)) (y := (.ref a_EQUAL)) (same := false) (pc' := 7) (hb hby d2_4) (decide_eq_false fun q => hB6 (Value.ref.inj q)) (by decide) (by decide) ?_
    show Goes _ _ _ _ _ _ _ _ T (mkF m 7 #[.val (.ref a)] [])
    refine Goes.by (g' := (mkF m 8 #[.val (.ref a)] [(.ref a)])) (fun _ q => XS.aloadN X.here X.hx rfl (hb hby d2_7) rfl rfl q) ?_
    refine X.getS (Or.inl (hw _ (List.mem_of_getElem? (i := 16) rfl))) (host := "") Via.refl S_NOT_EQUAL (hb hby d2_8) (fun T X => ?_)
    show Goes _ _ _ _ _ _ _ _ T (mkF m 11 #[.val (.ref a)] [(.ref a_NOT_EQUAL), (.ref a)])
    by_cases hB7 : a = a_NOT_EQUAL
    · skip
      refine X.acmp rfl rfl (cd := .eq) (x := (.ref a)) (y := (.ref a_NOT_EQUAL)) (same := true) (pc' := 18) (hb hby d2_11) (decide_eq_true (congrArg Value.ref hB7)) (by decide) (by decide) ?_
      show Goes _ _ _ _ _ _ _ _ T (mkF m 18 #[.val (.ref a)] [])
      refine Goes.by (g' := (mkF m 19 #[.val (.ref a)] [(.int (0 : Int32))])) (fun _ q => XS.iconst X.here X.hx rfl (hb hby d2_18) q) ?_
      exact X.retZ hret (hb hby d2_19) (by decide) (by decide) ⟨by simp [hB6, hB7]; rfl, rfl⟩
    · skip
      refine X.acmp rfl rfl (cd := .eq) (x := (.ref a)) (y := (.ref a_NOT_EQUAL)) (same := false) (pc' := 14) (hb hby d2_11) (decide_eq_false fun q => hB7 (Value.ref.inj q)) (by decide) (by decide) ?_
      show Goes _ _ _ _ _ _ _ _ T (mkF m 14 #[.val (.ref a)] [])
      refine Goes.by (g' := (mkF m 15 #[.val (.ref a)] [(.int (1 : Int32))])) (fun _ q => XS.iconst X.here X.hx rfl (hb hby d2_14) q) ?_
      refine Goes.by (g' := (mkF m 19 #[.val (.ref a)] [(.int (1 : Int32))])) (fun _ q => XS.goto X.here X.hx rfl (pc0 := 15) (pc' := 19) rfl (hb hby d2_15) (by decide) (by decide) q) ?_
      exact X.retZ hret (hb hby d2_19) (by decide) (by decide) ⟨by simp [hB6, hB7]; rfl, rfl⟩
set_option maxRecDepth 65536 in
set_option maxHeartbeats 40000000 in
theorem rm0 (l : Launch) (Z : State) (a0 : Array Value) (hw : ∀ d ∈ tables_1, d.before a0 Z = true) (n0 : Nat) (h0 : Heap) (hn0 : n0 ≤ h0.size) (ws : List Jvm.Cond) (p0 : Int32) (a_EQUAL : Addr) (S_EQUAL : Sta Z h0 "com/example/objects_to_rows/objectstorows/query/QueryModel$Operator" "EQUAL" "Lcom/example/objects_to_rows/objectstorows/query/QueryModel$Operator;" (.ref a_EQUAL)) (a_NOT_EQUAL : Addr) (S_NOT_EQUAL : Sta Z h0 "com/example/objects_to_rows/objectstorows/query/QueryModel$Operator" "NOT_EQUAL" "Lcom/example/objects_to_rows/objectstorows/query/QueryModel$Operator;" (.ref a_NOT_EQUAL)) (a_LESS : Addr) (S_LESS : Sta Z h0 "com/example/objects_to_rows/objectstorows/query/QueryModel$Operator" "LESS" "Lcom/example/objects_to_rows/objectstorows/query/QueryModel$Operator;" (.ref a_LESS)) (a_LESS_OR_EQUAL : Addr) (S_LESS_OR_EQUAL : Sta Z h0 "com/example/objects_to_rows/objectstorows/query/QueryModel$Operator" "LESS_OR_EQUAL" "Lcom/example/objects_to_rows/objectstorows/query/QueryModel$Operator;" (.ref a_LESS_OR_EQUAL)) (a_GREATER : Addr) (S_GREATER : Sta Z h0 "com/example/objects_to_rows/objectstorows/query/QueryModel$Operator" "GREATER" "Lcom/example/objects_to_rows/objectstorows/query/QueryModel$Operator;" (.ref a_GREATER)) (a_GREATER_OR_EQUAL : Addr) (S_GREATER_OR_EQUAL : Sta Z h0 "com/example/objects_to_rows/objectstorows/query/QueryModel$Operator" "GREATER_OR_EQUAL" "Lcom/example/objects_to_rows/objectstorows/query/QueryModel$Operator;" (.ref a_GREATER_OR_EQUAL)) (E_EQUAL : Exa Z h0 a_EQUAL "com/example/objects_to_rows/objectstorows/query/QueryModel$Operator") (E_NOT_EQUAL : Exa Z h0 a_NOT_EQUAL "com/example/objects_to_rows/objectstorows/query/QueryModel$Operator") (E_LESS : Exa Z h0 a_LESS "com/example/objects_to_rows/objectstorows/query/QueryModel$Operator") (E_LESS_OR_EQUAL : Exa Z h0 a_LESS_OR_EQUAL "com/example/objects_to_rows/objectstorows/query/QueryModel$Operator") (E_GREATER : Exa Z h0 a_GREATER "com/example/objects_to_rows/objectstorows/query/QueryModel$Operator") (E_GREATER_OR_EQUAL : Exa Z h0 a_GREATER_OR_EQUAL "com/example/objects_to_rows/objectstorows/query/QueryModel$Operator") (n_EQUAL_NOT_EQUAL : a_EQUAL ≠ a_NOT_EQUAL) (n_EQUAL_LESS : a_EQUAL ≠ a_LESS) (n_EQUAL_LESS_OR_EQUAL : a_EQUAL ≠ a_LESS_OR_EQUAL) (n_EQUAL_GREATER : a_EQUAL ≠ a_GREATER) (n_EQUAL_GREATER_OR_EQUAL : a_EQUAL ≠ a_GREATER_OR_EQUAL) (n_NOT_EQUAL_LESS : a_NOT_EQUAL ≠ a_LESS) (n_NOT_EQUAL_LESS_OR_EQUAL : a_NOT_EQUAL ≠ a_LESS_OR_EQUAL) (n_NOT_EQUAL_GREATER : a_NOT_EQUAL ≠ a_GREATER) (n_NOT_EQUAL_GREATER_OR_EQUAL : a_NOT_EQUAL ≠ a_GREATER_OR_EQUAL) :
    MetFree l x (head1 (Jvm.Cond.code x code maxLocals ret :: ws) room_1) (fun a U => a = #[(.int p0)] ∧ Z.Warmed39 U.vm ∧ U.heap = h0) (fun _ _ _ _ _ => True) (fun _ U o U' => ∃ v L, o = .returned v ∧ (Fr n0 L ∧ (fun (v : Option Value) (h' : Heap) => v = some (.int 1)) v U'.heap) ∧ EndF U o U' L room_1.cells room_1.slots) := by
  refine metW (Q := fun (v : Option Value) (h' : Heap) => v = some (.int 1)) pf_0 hn0 ?_
  intro p e s m below meth c T X hby hml hret hnm
  refine Goes.by (g' := (mkF m 0 #[.val (.int p0), .unset, .unset, .unset] [])) (fun _ q => castTop (by first | rfl | (simp [entryFrame, mkF, argsToLocals, Value.category, maxLocals]; done)) q) ?_
  refine Goes.by (g' := (mkF m 1 #[.val (.int p0), .unset, .unset, .unset] [(.int p0)])) (fun _ q => XS.iloadN X.here X.hx rfl (hb hby at_0) rfl q) ?_
  refine X.ldcI (hw _ (List.mem_of_getElem? (i := 0) rfl)) (hb hby at_1) ?_
  show Goes _ _ _ _ _ _ _ _ T (mkF m 3 #[.val (.int p0), .unset, .unset, .unset] [(.int (2147483647 : Int32)), (.int p0)])
  refine Goes.by (g' := (mkF m 4 #[.val (.int p0), .unset, .unset, .unset] [(.int (p0 &&& (2147483647 : Int32)))])) (fun _ q => XS.iand X.here X.hx rfl (hb hby at_3) rfl q) ?_
  refine Goes.by (g' := (mkF m 6 #[.val (.int p0), .unset, .unset, .unset] [(.int (6 : Int32)), (.int (p0 &&& (2147483647 : Int32)))])) (fun _ q => XS.bipush X.here X.hx rfl (hb hby at_4) q) ?_
  refine X.irem (hb hby at_6) (by decide) ?_
  show Goes _ _ _ _ _ _ _ _ T (mkF m 7 #[.val (.int p0), .unset, .unset, .unset] [(.int ((p0 &&& (2147483647 : Int32)) % (6 : Int32)))])
  generalize h_i : ((p0 &&& (2147483647 : Int32)) % (6 : Int32)) = i
  have hi : i = 0 ∨ i = 1 ∨ i = 2 ∨ i = 3 ∨ i = 4 ∨ i = 5 := by
    have q := maskR p0 6 6 (by decide) (by decide)
    rw [h_i] at q
    have q2 : i.toInt = 0 ∨ i.toInt = 1 ∨ i.toInt = 2 ∨ i.toInt = 3 ∨ i.toInt = 4 ∨ i.toInt = 5 := by omega
    rcases q2 with q | q | q | q | q | q
    · exact Or.inl (i32_eq q)
    · exact Or.inr (Or.inl (i32_eq q))
    · exact Or.inr (Or.inr (Or.inl (i32_eq q)))
    · exact Or.inr (Or.inr (Or.inr (Or.inl (i32_eq q))))
    · exact Or.inr (Or.inr (Or.inr (Or.inr (Or.inl (i32_eq q)))))
    · exact Or.inr (Or.inr (Or.inr (Or.inr (Or.inr (i32_eq q)))))
  clear h_i
  rcases hi with rfl | rfl | rfl | rfl | rfl | rfl
  · skip
    refine Goes.by (g' := (mkF m 8 #[.val (.int p0), .val (.int (0 : Int32)), .unset, .unset] [])) (fun _ q => XS.istoreN X.here X.hx rfl (hb hby at_7) rfl (l' := #[.val (.int p0), .val (.int (0 : Int32)), .unset, .unset]) rfl q) ?_
    refine Goes.by (g' := (mkF m 9 #[.val (.int p0), .val (.int (0 : Int32)), .unset, .unset] [(.int (0 : Int32))])) (fun _ q => XS.iloadN X.here X.hx rfl (hb hby at_8) rfl q) ?_
    have X_o := X
    refine X.callS (hw _ (List.mem_of_getElem? (i := 1) rfl)) (hw _ (List.mem_of_getElem? (i := 2) rfl)) (hw _ (List.mem_of_getElem? (i := 3) rfl)) (hw _ (List.mem_of_getElem? (i := 4) rfl)) (by decide) pd_3333759383 (argsL := [(.int (0 : Int32))]) rfl (rm1 l Z a0 hw n0 h0 hn0 (0 : Int32) a_EQUAL S_EQUAL a_NOT_EQUAL S_NOT_EQUAL a_LESS S_LESS a_LESS_OR_EQUAL S_LESS_OR_EQUAL a_GREATER S_GREATER a_GREATER_OR_EQUAL S_GREATER_OR_EQUAL) (by rw [hml]; rfl) rfl (by decide) (by decide) (hb hby at_9) (by decide) (by decide) (fun T h8 v X hQ => ?_)
    obtain ⟨rfl, hh⟩ := hQ
    rw [hh] at X
    clear hh
    show Goes _ _ _ _ _ _ _ _ T (mkF m 12 #[.val (.int p0), .val (.int (0 : Int32)), .unset, .unset] [(.ref a_EQUAL)])
    refine Goes.by (g' := (mkF m 13 #[.val (.int p0), .val (.int (0 : Int32)), .val (.ref a_EQUAL), .unset] [])) (fun _ q => XS.astoreN X.here X.hx rfl (hb hby at_12) rfl rfl (l' := #[.val (.int p0), .val (.int (0 : Int32)), .val (.ref a_EQUAL), .unset]) rfl q) ?_
    refine Goes.by (g' := (mkF m 14 #[.val (.int p0), .val (.int (0 : Int32)), .val (.ref a_EQUAL), .unset] [(.int (0 : Int32))])) (fun _ q => XS.iloadN X.here X.hx rfl (hb hby at_13) rfl q) ?_
    refine Goes.by (g' := (mkF m 15 #[.val (.int p0), .val (.int (0 : Int32)), .val (.ref a_EQUAL), .unset] [(.int (2 : Int32)), (.int (0 : Int32))])) (fun _ q => XS.iconst X.here X.hx rfl (hb hby at_14) q) ?_
    refine Goes.by (g' := (mkF m 22 #[.val (.int p0), .val (.int (0 : Int32)), .val (.ref a_EQUAL), .unset] [])) (fun _ q => XS.icmpYes X.here X.hx rfl (pc0 := 15) (pc' := 22) rfl (hb hby at_15) rfl (tlt (show (0 : Int32) < (2 : Int32) from (by decide))).1 (by decide) (by decide) q) ?_
    refine Goes.by (g' := (mkF m 23 #[.val (.int p0), .val (.int (0 : Int32)), .val (.ref a_EQUAL), .unset] [(.int (0 : Int32))])) (fun _ q => XS.iconst X.here X.hx rfl (hb hby at_22) q) ?_
    refine Goes.by (g' := (mkF m 24 #[.val (.int p0), .val (.int (0 : Int32)), .val (.ref a_EQUAL), .val (.int (0 : Int32))] [])) (fun _ q => XS.istoreN X.here X.hx rfl (hb hby at_23) rfl (l' := #[.val (.int p0), .val (.int (0 : Int32)), .val (.ref a_EQUAL), .val (.int (0 : Int32))]) rfl q) ?_
    refine Goes.by (g' := (mkF m 25 #[.val (.int p0), .val (.int (0 : Int32)), .val (.ref a_EQUAL), .val (.int (0 : Int32))] [(.ref a_EQUAL)])) (fun _ q => XS.aloadN X.here X.hx rfl (hb hby at_24) rfl rfl q) ?_
    have X_o := X
    refine X.callV E_EQUAL (hw _ (List.mem_of_getElem? (i := 8) rfl)) (hw _ (List.mem_of_getElem? (i := 9) rfl)) (hw _ (List.mem_of_getElem? (i := 11) rfl)) (hw _ (List.mem_of_getElem? (i := 11) rfl)) rfl (hw _ (List.mem_of_getElem? (i := 10) rfl)) (hw _ (List.mem_of_getElem? (i := 6) rfl)) (hw _ (List.mem_of_getElem? (i := 12) rfl)) (by decide) pd_193422000 (argsL := []) rfl (rm2 l Z a0 hw n0 h0 hn0 a_EQUAL a_EQUAL S_EQUAL a_NOT_EQUAL S_NOT_EQUAL a_LESS S_LESS a_LESS_OR_EQUAL S_LESS_OR_EQUAL a_GREATER S_GREATER a_GREATER_OR_EQUAL S_GREATER_OR_EQUAL) (by rw [hml]; rfl) rfl (by decide) (by decide) (hb hby at_25) (by decide) (by decide) (fun T h9 v X hQ => ?_)
    obtain ⟨rfl, hh⟩ := hQ
    rw [hh] at X
    clear hh
    rw [show (if a_EQUAL = a_EQUAL then (0 : Int32) else if a_EQUAL = a_NOT_EQUAL then 0 else 1) = 0 from if_pos rfl]
    show Goes _ _ _ _ _ _ _ _ T (mkF m 28 #[.val (.int p0), .val (.int (0 : Int32)), .val (.ref a_EQUAL), .val (.int (0 : Int32))] [(.int (0 : Int32))])
    refine Goes.by (g' := (mkF m 29 #[.val (.int p0), .val (.int (0 : Int32)), .val (.ref a_EQUAL), .val (.int (0 : Int32))] [(.int (0 : Int32)), (.int (0 : Int32))])) (fun _ q => XS.iloadN X.here X.hx rfl (hb hby at_28) rfl q) ?_
    refine Goes.by (g' := (mkF m 32 #[.val (.int p0), .val (.int (0 : Int32)), .val (.ref a_EQUAL), .val (.int (0 : Int32))] [])) (fun _ q => XS.icmpNo X.here X.hx rfl (hb hby at_29) rfl (teq (show (0 : Int32) = (0 : Int32) from (by decide))).2 q) ?_
    refine Goes.by (g' := (mkF m 33 #[.val (.int p0), .val (.int (0 : Int32)), .val (.ref a_EQUAL), .val (.int (0 : Int32))] [(.int (1 : Int32))])) (fun _ q => XS.iconst X.here X.hx rfl (hb hby at_32) q) ?_
    refine Goes.by (g' := (mkF m 37 #[.val (.int p0), .val (.int (0 : Int32)), .val (.ref a_EQUAL), .val (.int (0 : Int32))] [(.int (1 : Int32))])) (fun _ q => XS.goto X.here X.hx rfl (pc0 := 33) (pc' := 37) rfl (hb hby at_33) (by decide) (by decide) q) ?_
    exact X.retZ hret (hb hby at_37) (by decide) (by decide) rfl
  · skip
    refine Goes.by (g' := (mkF m 8 #[.val (.int p0), .val (.int (1 : Int32)), .unset, .unset] [])) (fun _ q => XS.istoreN X.here X.hx rfl (hb hby at_7) rfl (l' := #[.val (.int p0), .val (.int (1 : Int32)), .unset, .unset]) rfl q) ?_
    refine Goes.by (g' := (mkF m 9 #[.val (.int p0), .val (.int (1 : Int32)), .unset, .unset] [(.int (1 : Int32))])) (fun _ q => XS.iloadN X.here X.hx rfl (hb hby at_8) rfl q) ?_
    have X_o := X
    refine X.callS (hw _ (List.mem_of_getElem? (i := 1) rfl)) (hw _ (List.mem_of_getElem? (i := 2) rfl)) (hw _ (List.mem_of_getElem? (i := 3) rfl)) (hw _ (List.mem_of_getElem? (i := 4) rfl)) (by decide) pd_3333759383 (argsL := [(.int (1 : Int32))]) rfl (rm1 l Z a0 hw n0 h0 hn0 (1 : Int32) a_EQUAL S_EQUAL a_NOT_EQUAL S_NOT_EQUAL a_LESS S_LESS a_LESS_OR_EQUAL S_LESS_OR_EQUAL a_GREATER S_GREATER a_GREATER_OR_EQUAL S_GREATER_OR_EQUAL) (by rw [hml]; rfl) rfl (by decide) (by decide) (hb hby at_9) (by decide) (by decide) (fun T h10 v X hQ => ?_)
    obtain ⟨rfl, hh⟩ := hQ
    rw [hh] at X
    clear hh
    show Goes _ _ _ _ _ _ _ _ T (mkF m 12 #[.val (.int p0), .val (.int (1 : Int32)), .unset, .unset] [(.ref a_NOT_EQUAL)])
    refine Goes.by (g' := (mkF m 13 #[.val (.int p0), .val (.int (1 : Int32)), .val (.ref a_NOT_EQUAL), .unset] [])) (fun _ q => XS.astoreN X.here X.hx rfl (hb hby at_12) rfl rfl (l' := #[.val (.int p0), .val (.int (1 : Int32)), .val (.ref a_NOT_EQUAL), .unset]) rfl q) ?_
    refine Goes.by (g' := (mkF m 14 #[.val (.int p0), .val (.int (1 : Int32)), .val (.ref a_NOT_EQUAL), .unset] [(.int (1 : Int32))])) (fun _ q => XS.iloadN X.here X.hx rfl (hb hby at_13) rfl q) ?_
    refine Goes.by (g' := (mkF m 15 #[.val (.int p0), .val (.int (1 : Int32)), .val (.ref a_NOT_EQUAL), .unset] [(.int (2 : Int32)), (.int (1 : Int32))])) (fun _ q => XS.iconst X.here X.hx rfl (hb hby at_14) q) ?_
    refine Goes.by (g' := (mkF m 22 #[.val (.int p0), .val (.int (1 : Int32)), .val (.ref a_NOT_EQUAL), .unset] [])) (fun _ q => XS.icmpYes X.here X.hx rfl (pc0 := 15) (pc' := 22) rfl (hb hby at_15) rfl (tlt (show (1 : Int32) < (2 : Int32) from (by decide))).1 (by decide) (by decide) q) ?_
    refine Goes.by (g' := (mkF m 23 #[.val (.int p0), .val (.int (1 : Int32)), .val (.ref a_NOT_EQUAL), .unset] [(.int (0 : Int32))])) (fun _ q => XS.iconst X.here X.hx rfl (hb hby at_22) q) ?_
    refine Goes.by (g' := (mkF m 24 #[.val (.int p0), .val (.int (1 : Int32)), .val (.ref a_NOT_EQUAL), .val (.int (0 : Int32))] [])) (fun _ q => XS.istoreN X.here X.hx rfl (hb hby at_23) rfl (l' := #[.val (.int p0), .val (.int (1 : Int32)), .val (.ref a_NOT_EQUAL), .val (.int (0 : Int32))]) rfl q) ?_
    refine Goes.by (g' := (mkF m 25 #[.val (.int p0), .val (.int (1 : Int32)), .val (.ref a_NOT_EQUAL), .val (.int (0 : Int32))] [(.ref a_NOT_EQUAL)])) (fun _ q => XS.aloadN X.here X.hx rfl (hb hby at_24) rfl rfl q) ?_
    have X_o := X
    refine X.callV E_NOT_EQUAL (hw _ (List.mem_of_getElem? (i := 8) rfl)) (hw _ (List.mem_of_getElem? (i := 9) rfl)) (hw _ (List.mem_of_getElem? (i := 11) rfl)) (hw _ (List.mem_of_getElem? (i := 11) rfl)) rfl (hw _ (List.mem_of_getElem? (i := 10) rfl)) (hw _ (List.mem_of_getElem? (i := 6) rfl)) (hw _ (List.mem_of_getElem? (i := 12) rfl)) (by decide) pd_193422000 (argsL := []) rfl (rm2 l Z a0 hw n0 h0 hn0 a_NOT_EQUAL a_EQUAL S_EQUAL a_NOT_EQUAL S_NOT_EQUAL a_LESS S_LESS a_LESS_OR_EQUAL S_LESS_OR_EQUAL a_GREATER S_GREATER a_GREATER_OR_EQUAL S_GREATER_OR_EQUAL) (by rw [hml]; rfl) rfl (by decide) (by decide) (hb hby at_25) (by decide) (by decide) (fun T h11 v X hQ => ?_)
    obtain ⟨rfl, hh⟩ := hQ
    rw [hh] at X
    clear hh
    rw [show (if a_NOT_EQUAL = a_EQUAL then (0 : Int32) else if a_NOT_EQUAL = a_NOT_EQUAL then 0 else 1) = 0 from by rw [if_neg (Ne.symm n_EQUAL_NOT_EQUAL), if_pos rfl]]
    show Goes _ _ _ _ _ _ _ _ T (mkF m 28 #[.val (.int p0), .val (.int (1 : Int32)), .val (.ref a_NOT_EQUAL), .val (.int (0 : Int32))] [(.int (0 : Int32))])
    refine Goes.by (g' := (mkF m 29 #[.val (.int p0), .val (.int (1 : Int32)), .val (.ref a_NOT_EQUAL), .val (.int (0 : Int32))] [(.int (0 : Int32)), (.int (0 : Int32))])) (fun _ q => XS.iloadN X.here X.hx rfl (hb hby at_28) rfl q) ?_
    refine Goes.by (g' := (mkF m 32 #[.val (.int p0), .val (.int (1 : Int32)), .val (.ref a_NOT_EQUAL), .val (.int (0 : Int32))] [])) (fun _ q => XS.icmpNo X.here X.hx rfl (hb hby at_29) rfl (teq (show (0 : Int32) = (0 : Int32) from (by decide))).2 q) ?_
    refine Goes.by (g' := (mkF m 33 #[.val (.int p0), .val (.int (1 : Int32)), .val (.ref a_NOT_EQUAL), .val (.int (0 : Int32))] [(.int (1 : Int32))])) (fun _ q => XS.iconst X.here X.hx rfl (hb hby at_32) q) ?_
    refine Goes.by (g' := (mkF m 37 #[.val (.int p0), .val (.int (1 : Int32)), .val (.ref a_NOT_EQUAL), .val (.int (0 : Int32))] [(.int (1 : Int32))])) (fun _ q => XS.goto X.here X.hx rfl (pc0 := 33) (pc' := 37) rfl (hb hby at_33) (by decide) (by decide) q) ?_
    exact X.retZ hret (hb hby at_37) (by decide) (by decide) rfl
  · skip
    refine Goes.by (g' := (mkF m 8 #[.val (.int p0), .val (.int (2 : Int32)), .unset, .unset] [])) (fun _ q => XS.istoreN X.here X.hx rfl (hb hby at_7) rfl (l' := #[.val (.int p0), .val (.int (2 : Int32)), .unset, .unset]) rfl q) ?_
    refine Goes.by (g' := (mkF m 9 #[.val (.int p0), .val (.int (2 : Int32)), .unset, .unset] [(.int (2 : Int32))])) (fun _ q => XS.iloadN X.here X.hx rfl (hb hby at_8) rfl q) ?_
    have X_o := X
    refine X.callS (hw _ (List.mem_of_getElem? (i := 1) rfl)) (hw _ (List.mem_of_getElem? (i := 2) rfl)) (hw _ (List.mem_of_getElem? (i := 3) rfl)) (hw _ (List.mem_of_getElem? (i := 4) rfl)) (by decide) pd_3333759383 (argsL := [(.int (2 : Int32))]) rfl (rm1 l Z a0 hw n0 h0 hn0 (2 : Int32) a_EQUAL S_EQUAL a_NOT_EQUAL S_NOT_EQUAL a_LESS S_LESS a_LESS_OR_EQUAL S_LESS_OR_EQUAL a_GREATER S_GREATER a_GREATER_OR_EQUAL S_GREATER_OR_EQUAL) (by rw [hml]; rfl) rfl (by decide) (by decide) (hb hby at_9) (by decide) (by decide) (fun T h12 v X hQ => ?_)
    obtain ⟨rfl, hh⟩ := hQ
    rw [hh] at X
    clear hh
    show Goes _ _ _ _ _ _ _ _ T (mkF m 12 #[.val (.int p0), .val (.int (2 : Int32)), .unset, .unset] [(.ref a_LESS)])
    refine Goes.by (g' := (mkF m 13 #[.val (.int p0), .val (.int (2 : Int32)), .val (.ref a_LESS), .unset] [])) (fun _ q => XS.astoreN X.here X.hx rfl (hb hby at_12) rfl rfl (l' := #[.val (.int p0), .val (.int (2 : Int32)), .val (.ref a_LESS), .unset]) rfl q) ?_
    refine Goes.by (g' := (mkF m 14 #[.val (.int p0), .val (.int (2 : Int32)), .val (.ref a_LESS), .unset] [(.int (2 : Int32))])) (fun _ q => XS.iloadN X.here X.hx rfl (hb hby at_13) rfl q) ?_
    refine Goes.by (g' := (mkF m 15 #[.val (.int p0), .val (.int (2 : Int32)), .val (.ref a_LESS), .unset] [(.int (2 : Int32)), (.int (2 : Int32))])) (fun _ q => XS.iconst X.here X.hx rfl (hb hby at_14) q) ?_
    refine Goes.by (g' := (mkF m 18 #[.val (.int p0), .val (.int (2 : Int32)), .val (.ref a_LESS), .unset] [])) (fun _ q => XS.icmpNo X.here X.hx rfl (hb hby at_15) rfl (flt (show ¬ (2 : Int32) < (2 : Int32) from (by decide))).1 q) ?_
    refine Goes.by (g' := (mkF m 19 #[.val (.int p0), .val (.int (2 : Int32)), .val (.ref a_LESS), .unset] [(.int (1 : Int32))])) (fun _ q => XS.iconst X.here X.hx rfl (hb hby at_18) q) ?_
    refine Goes.by (g' := (mkF m 23 #[.val (.int p0), .val (.int (2 : Int32)), .val (.ref a_LESS), .unset] [(.int (1 : Int32))])) (fun _ q => XS.goto X.here X.hx rfl (pc0 := 19) (pc' := 23) rfl (hb hby at_19) (by decide) (by decide) q) ?_
    refine Goes.by (g' := (mkF m 24 #[.val (.int p0), .val (.int (2 : Int32)), .val (.ref a_LESS), .val (.int (1 : Int32))] [])) (fun _ q => XS.istoreN X.here X.hx rfl (hb hby at_23) rfl (l' := #[.val (.int p0), .val (.int (2 : Int32)), .val (.ref a_LESS), .val (.int (1 : Int32))]) rfl q) ?_
    refine Goes.by (g' := (mkF m 25 #[.val (.int p0), .val (.int (2 : Int32)), .val (.ref a_LESS), .val (.int (1 : Int32))] [(.ref a_LESS)])) (fun _ q => XS.aloadN X.here X.hx rfl (hb hby at_24) rfl rfl q) ?_
    have X_o := X
    refine X.callV E_LESS (hw _ (List.mem_of_getElem? (i := 8) rfl)) (hw _ (List.mem_of_getElem? (i := 9) rfl)) (hw _ (List.mem_of_getElem? (i := 11) rfl)) (hw _ (List.mem_of_getElem? (i := 11) rfl)) rfl (hw _ (List.mem_of_getElem? (i := 10) rfl)) (hw _ (List.mem_of_getElem? (i := 6) rfl)) (hw _ (List.mem_of_getElem? (i := 12) rfl)) (by decide) pd_193422000 (argsL := []) rfl (rm2 l Z a0 hw n0 h0 hn0 a_LESS a_EQUAL S_EQUAL a_NOT_EQUAL S_NOT_EQUAL a_LESS S_LESS a_LESS_OR_EQUAL S_LESS_OR_EQUAL a_GREATER S_GREATER a_GREATER_OR_EQUAL S_GREATER_OR_EQUAL) (by rw [hml]; rfl) rfl (by decide) (by decide) (hb hby at_25) (by decide) (by decide) (fun T h13 v X hQ => ?_)
    obtain ⟨rfl, hh⟩ := hQ
    rw [hh] at X
    clear hh
    rw [show (if a_LESS = a_EQUAL then (0 : Int32) else if a_LESS = a_NOT_EQUAL then 0 else 1) = 1 from by rw [if_neg (Ne.symm n_EQUAL_LESS), if_neg (Ne.symm n_NOT_EQUAL_LESS)]]
    show Goes _ _ _ _ _ _ _ _ T (mkF m 28 #[.val (.int p0), .val (.int (2 : Int32)), .val (.ref a_LESS), .val (.int (1 : Int32))] [(.int (1 : Int32))])
    refine Goes.by (g' := (mkF m 29 #[.val (.int p0), .val (.int (2 : Int32)), .val (.ref a_LESS), .val (.int (1 : Int32))] [(.int (1 : Int32)), (.int (1 : Int32))])) (fun _ q => XS.iloadN X.here X.hx rfl (hb hby at_28) rfl q) ?_
    refine Goes.by (g' := (mkF m 32 #[.val (.int p0), .val (.int (2 : Int32)), .val (.ref a_LESS), .val (.int (1 : Int32))] [])) (fun _ q => XS.icmpNo X.here X.hx rfl (hb hby at_29) rfl (teq (show (1 : Int32) = (1 : Int32) from (by decide))).2 q) ?_
    refine Goes.by (g' := (mkF m 33 #[.val (.int p0), .val (.int (2 : Int32)), .val (.ref a_LESS), .val (.int (1 : Int32))] [(.int (1 : Int32))])) (fun _ q => XS.iconst X.here X.hx rfl (hb hby at_32) q) ?_
    refine Goes.by (g' := (mkF m 37 #[.val (.int p0), .val (.int (2 : Int32)), .val (.ref a_LESS), .val (.int (1 : Int32))] [(.int (1 : Int32))])) (fun _ q => XS.goto X.here X.hx rfl (pc0 := 33) (pc' := 37) rfl (hb hby at_33) (by decide) (by decide) q) ?_
    exact X.retZ hret (hb hby at_37) (by decide) (by decide) rfl
  · skip
    refine Goes.by (g' := (mkF m 8 #[.val (.int p0), .val (.int (3 : Int32)), .unset, .unset] [])) (fun _ q => XS.istoreN X.here X.hx rfl (hb hby at_7) rfl (l' := #[.val (.int p0), .val (.int (3 : Int32)), .unset, .unset]) rfl q) ?_
    refine Goes.by (g' := (mkF m 9 #[.val (.int p0), .val (.int (3 : Int32)), .unset, .unset] [(.int (3 : Int32))])) (fun _ q => XS.iloadN X.here X.hx rfl (hb hby at_8) rfl q) ?_
    have X_o := X
    refine X.callS (hw _ (List.mem_of_getElem? (i := 1) rfl)) (hw _ (List.mem_of_getElem? (i := 2) rfl)) (hw _ (List.mem_of_getElem? (i := 3) rfl)) (hw _ (List.mem_of_getElem? (i := 4) rfl)) (by decide) pd_3333759383 (argsL := [(.int (3 : Int32))]) rfl (rm1 l Z a0 hw n0 h0 hn0 (3 : Int32) a_EQUAL S_EQUAL a_NOT_EQUAL S_NOT_EQUAL a_LESS S_LESS a_LESS_OR_EQUAL S_LESS_OR_EQUAL a_GREATER S_GREATER a_GREATER_OR_EQUAL S_GREATER_OR_EQUAL) (by rw [hml]; rfl) rfl (by decide) (by decide) (hb hby at_9) (by decide) (by decide) (fun T h14 v X hQ => ?_)
    obtain ⟨rfl, hh⟩ := hQ
    rw [hh] at X
    clear hh
    show Goes _ _ _ _ _ _ _ _ T (mkF m 12 #[.val (.int p0), .val (.int (3 : Int32)), .unset, .unset] [(.ref a_LESS_OR_EQUAL)])
    refine Goes.by (g' := (mkF m 13 #[.val (.int p0), .val (.int (3 : Int32)), .val (.ref a_LESS_OR_EQUAL), .unset] [])) (fun _ q => XS.astoreN X.here X.hx rfl (hb hby at_12) rfl rfl (l' := #[.val (.int p0), .val (.int (3 : Int32)), .val (.ref a_LESS_OR_EQUAL), .unset]) rfl q) ?_
    refine Goes.by (g' := (mkF m 14 #[.val (.int p0), .val (.int (3 : Int32)), .val (.ref a_LESS_OR_EQUAL), .unset] [(.int (3 : Int32))])) (fun _ q => XS.iloadN X.here X.hx rfl (hb hby at_13) rfl q) ?_
    refine Goes.by (g' := (mkF m 15 #[.val (.int p0), .val (.int (3 : Int32)), .val (.ref a_LESS_OR_EQUAL), .unset] [(.int (2 : Int32)), (.int (3 : Int32))])) (fun _ q => XS.iconst X.here X.hx rfl (hb hby at_14) q) ?_
    refine Goes.by (g' := (mkF m 18 #[.val (.int p0), .val (.int (3 : Int32)), .val (.ref a_LESS_OR_EQUAL), .unset] [])) (fun _ q => XS.icmpNo X.here X.hx rfl (hb hby at_15) rfl (flt (show ¬ (3 : Int32) < (2 : Int32) from (by decide))).1 q) ?_
    refine Goes.by (g' := (mkF m 19 #[.val (.int p0), .val (.int (3 : Int32)), .val (.ref a_LESS_OR_EQUAL), .unset] [(.int (1 : Int32))])) (fun _ q => XS.iconst X.here X.hx rfl (hb hby at_18) q) ?_
    refine Goes.by (g' := (mkF m 23 #[.val (.int p0), .val (.int (3 : Int32)), .val (.ref a_LESS_OR_EQUAL), .unset] [(.int (1 : Int32))])) (fun _ q => XS.goto X.here X.hx rfl (pc0 := 19) (pc' := 23) rfl (hb hby at_19) (by decide) (by decide) q) ?_
    refine Goes.by (g' := (mkF m 24 #[.val (.int p0), .val (.int (3 : Int32)), .val (.ref a_LESS_OR_EQUAL), .val (.int (1 : Int32))] [])) (fun _ q => XS.istoreN X.here X.hx rfl (hb hby at_23) rfl (l' := #[.val (.int p0), .val (.int (3 : Int32)), .val (.ref a_LESS_OR_EQUAL), .val (.int (1 : Int32))]) rfl q) ?_
    refine Goes.by (g' := (mkF m 25 #[.val (.int p0), .val (.int (3 : Int32)), .val (.ref a_LESS_OR_EQUAL), .val (.int (1 : Int32))] [(.ref a_LESS_OR_EQUAL)])) (fun _ q => XS.aloadN X.here X.hx rfl (hb hby at_24) rfl rfl q) ?_
    have X_o := X
    refine X.callV E_LESS_OR_EQUAL (hw _ (List.mem_of_getElem? (i := 8) rfl)) (hw _ (List.mem_of_getElem? (i := 9) rfl)) (hw _ (List.mem_of_getElem? (i := 11) rfl)) (hw _ (List.mem_of_getElem? (i := 11) rfl)) rfl (hw _ (List.mem_of_getElem? (i := 10) rfl)) (hw _ (List.mem_of_getElem? (i := 6) rfl)) (hw _ (List.mem_of_getElem? (i := 12) rfl)) (by decide) pd_193422000 (argsL := []) rfl (rm2 l Z a0 hw n0 h0 hn0 a_LESS_OR_EQUAL a_EQUAL S_EQUAL a_NOT_EQUAL S_NOT_EQUAL a_LESS S_LESS a_LESS_OR_EQUAL S_LESS_OR_EQUAL a_GREATER S_GREATER a_GREATER_OR_EQUAL S_GREATER_OR_EQUAL) (by rw [hml]; rfl) rfl (by decide) (by decide) (hb hby at_25) (by decide) (by decide) (fun T h15 v X hQ => ?_)
    obtain ⟨rfl, hh⟩ := hQ
    rw [hh] at X
    clear hh
    rw [show (if a_LESS_OR_EQUAL = a_EQUAL then (0 : Int32) else if a_LESS_OR_EQUAL = a_NOT_EQUAL then 0 else 1) = 1 from by rw [if_neg (Ne.symm n_EQUAL_LESS_OR_EQUAL), if_neg (Ne.symm n_NOT_EQUAL_LESS_OR_EQUAL)]]
    show Goes _ _ _ _ _ _ _ _ T (mkF m 28 #[.val (.int p0), .val (.int (3 : Int32)), .val (.ref a_LESS_OR_EQUAL), .val (.int (1 : Int32))] [(.int (1 : Int32))])
    refine Goes.by (g' := (mkF m 29 #[.val (.int p0), .val (.int (3 : Int32)), .val (.ref a_LESS_OR_EQUAL), .val (.int (1 : Int32))] [(.int (1 : Int32)), (.int (1 : Int32))])) (fun _ q => XS.iloadN X.here X.hx rfl (hb hby at_28) rfl q) ?_
    refine Goes.by (g' := (mkF m 32 #[.val (.int p0), .val (.int (3 : Int32)), .val (.ref a_LESS_OR_EQUAL), .val (.int (1 : Int32))] [])) (fun _ q => XS.icmpNo X.here X.hx rfl (hb hby at_29) rfl (teq (show (1 : Int32) = (1 : Int32) from (by decide))).2 q) ?_
    refine Goes.by (g' := (mkF m 33 #[.val (.int p0), .val (.int (3 : Int32)), .val (.ref a_LESS_OR_EQUAL), .val (.int (1 : Int32))] [(.int (1 : Int32))])) (fun _ q => XS.iconst X.here X.hx rfl (hb hby at_32) q) ?_
    refine Goes.by (g' := (mkF m 37 #[.val (.int p0), .val (.int (3 : Int32)), .val (.ref a_LESS_OR_EQUAL), .val (.int (1 : Int32))] [(.int (1 : Int32))])) (fun _ q => XS.goto X.here X.hx rfl (pc0 := 33) (pc' := 37) rfl (hb hby at_33) (by decide) (by decide) q) ?_
    exact X.retZ hret (hb hby at_37) (by decide) (by decide) rfl
  · skip
    refine Goes.by (g' := (mkF m 8 #[.val (.int p0), .val (.int (4 : Int32)), .unset, .unset] [])) (fun _ q => XS.istoreN X.here X.hx rfl (hb hby at_7) rfl (l' := #[.val (.int p0), .val (.int (4 : Int32)), .unset, .unset]) rfl q) ?_
    refine Goes.by (g' := (mkF m 9 #[.val (.int p0), .val (.int (4 : Int32)), .unset, .unset] [(.int (4 : Int32))])) (fun _ q => XS.iloadN X.here X.hx rfl (hb hby at_8) rfl q) ?_
    have X_o := X
    refine X.callS (hw _ (List.mem_of_getElem? (i := 1) rfl)) (hw _ (List.mem_of_getElem? (i := 2) rfl)) (hw _ (List.mem_of_getElem? (i := 3) rfl)) (hw _ (List.mem_of_getElem? (i := 4) rfl)) (by decide) pd_3333759383 (argsL := [(.int (4 : Int32))]) rfl (rm1 l Z a0 hw n0 h0 hn0 (4 : Int32) a_EQUAL S_EQUAL a_NOT_EQUAL S_NOT_EQUAL a_LESS S_LESS a_LESS_OR_EQUAL S_LESS_OR_EQUAL a_GREATER S_GREATER a_GREATER_OR_EQUAL S_GREATER_OR_EQUAL) (by rw [hml]; rfl) rfl (by decide) (by decide) (hb hby at_9) (by decide) (by decide) (fun T h16 v X hQ => ?_)
    obtain ⟨rfl, hh⟩ := hQ
    rw [hh] at X
    clear hh
    show Goes _ _ _ _ _ _ _ _ T (mkF m 12 #[.val (.int p0), .val (.int (4 : Int32)), .unset, .unset] [(.ref a_GREATER)])
    refine Goes.by (g' := (mkF m 13 #[.val (.int p0), .val (.int (4 : Int32)), .val (.ref a_GREATER), .unset] [])) (fun _ q => XS.astoreN X.here X.hx rfl (hb hby at_12) rfl rfl (l' := #[.val (.int p0), .val (.int (4 : Int32)), .val (.ref a_GREATER), .unset]) rfl q) ?_
    refine Goes.by (g' := (mkF m 14 #[.val (.int p0), .val (.int (4 : Int32)), .val (.ref a_GREATER), .unset] [(.int (4 : Int32))])) (fun _ q => XS.iloadN X.here X.hx rfl (hb hby at_13) rfl q) ?_
    refine Goes.by (g' := (mkF m 15 #[.val (.int p0), .val (.int (4 : Int32)), .val (.ref a_GREATER), .unset] [(.int (2 : Int32)), (.int (4 : Int32))])) (fun _ q => XS.iconst X.here X.hx rfl (hb hby at_14) q) ?_
    refine Goes.by (g' := (mkF m 18 #[.val (.int p0), .val (.int (4 : Int32)), .val (.ref a_GREATER), .unset] [])) (fun _ q => XS.icmpNo X.here X.hx rfl (hb hby at_15) rfl (flt (show ¬ (4 : Int32) < (2 : Int32) from (by decide))).1 q) ?_
    refine Goes.by (g' := (mkF m 19 #[.val (.int p0), .val (.int (4 : Int32)), .val (.ref a_GREATER), .unset] [(.int (1 : Int32))])) (fun _ q => XS.iconst X.here X.hx rfl (hb hby at_18) q) ?_
    refine Goes.by (g' := (mkF m 23 #[.val (.int p0), .val (.int (4 : Int32)), .val (.ref a_GREATER), .unset] [(.int (1 : Int32))])) (fun _ q => XS.goto X.here X.hx rfl (pc0 := 19) (pc' := 23) rfl (hb hby at_19) (by decide) (by decide) q) ?_
    refine Goes.by (g' := (mkF m 24 #[.val (.int p0), .val (.int (4 : Int32)), .val (.ref a_GREATER), .val (.int (1 : Int32))] [])) (fun _ q => XS.istoreN X.here X.hx rfl (hb hby at_23) rfl (l' := #[.val (.int p0), .val (.int (4 : Int32)), .val (.ref a_GREATER), .val (.int (1 : Int32))]) rfl q) ?_
    refine Goes.by (g' := (mkF m 25 #[.val (.int p0), .val (.int (4 : Int32)), .val (.ref a_GREATER), .val (.int (1 : Int32))] [(.ref a_GREATER)])) (fun _ q => XS.aloadN X.here X.hx rfl (hb hby at_24) rfl rfl q) ?_
    have X_o := X
    refine X.callV E_GREATER (hw _ (List.mem_of_getElem? (i := 8) rfl)) (hw _ (List.mem_of_getElem? (i := 9) rfl)) (hw _ (List.mem_of_getElem? (i := 11) rfl)) (hw _ (List.mem_of_getElem? (i := 11) rfl)) rfl (hw _ (List.mem_of_getElem? (i := 10) rfl)) (hw _ (List.mem_of_getElem? (i := 6) rfl)) (hw _ (List.mem_of_getElem? (i := 12) rfl)) (by decide) pd_193422000 (argsL := []) rfl (rm2 l Z a0 hw n0 h0 hn0 a_GREATER a_EQUAL S_EQUAL a_NOT_EQUAL S_NOT_EQUAL a_LESS S_LESS a_LESS_OR_EQUAL S_LESS_OR_EQUAL a_GREATER S_GREATER a_GREATER_OR_EQUAL S_GREATER_OR_EQUAL) (by rw [hml]; rfl) rfl (by decide) (by decide) (hb hby at_25) (by decide) (by decide) (fun T h17 v X hQ => ?_)
    obtain ⟨rfl, hh⟩ := hQ
    rw [hh] at X
    clear hh
    rw [show (if a_GREATER = a_EQUAL then (0 : Int32) else if a_GREATER = a_NOT_EQUAL then 0 else 1) = 1 from by rw [if_neg (Ne.symm n_EQUAL_GREATER), if_neg (Ne.symm n_NOT_EQUAL_GREATER)]]
    show Goes _ _ _ _ _ _ _ _ T (mkF m 28 #[.val (.int p0), .val (.int (4 : Int32)), .val (.ref a_GREATER), .val (.int (1 : Int32))] [(.int (1 : Int32))])
    refine Goes.by (g' := (mkF m 29 #[.val (.int p0), .val (.int (4 : Int32)), .val (.ref a_GREATER), .val (.int (1 : Int32))] [(.int (1 : Int32)), (.int (1 : Int32))])) (fun _ q => XS.iloadN X.here X.hx rfl (hb hby at_28) rfl q) ?_
    refine Goes.by (g' := (mkF m 32 #[.val (.int p0), .val (.int (4 : Int32)), .val (.ref a_GREATER), .val (.int (1 : Int32))] [])) (fun _ q => XS.icmpNo X.here X.hx rfl (hb hby at_29) rfl (teq (show (1 : Int32) = (1 : Int32) from (by decide))).2 q) ?_
    refine Goes.by (g' := (mkF m 33 #[.val (.int p0), .val (.int (4 : Int32)), .val (.ref a_GREATER), .val (.int (1 : Int32))] [(.int (1 : Int32))])) (fun _ q => XS.iconst X.here X.hx rfl (hb hby at_32) q) ?_
    refine Goes.by (g' := (mkF m 37 #[.val (.int p0), .val (.int (4 : Int32)), .val (.ref a_GREATER), .val (.int (1 : Int32))] [(.int (1 : Int32))])) (fun _ q => XS.goto X.here X.hx rfl (pc0 := 33) (pc' := 37) rfl (hb hby at_33) (by decide) (by decide) q) ?_
    exact X.retZ hret (hb hby at_37) (by decide) (by decide) rfl
  · skip
    refine Goes.by (g' := (mkF m 8 #[.val (.int p0), .val (.int (5 : Int32)), .unset, .unset] [])) (fun _ q => XS.istoreN X.here X.hx rfl (hb hby at_7) rfl (l' := #[.val (.int p0), .val (.int (5 : Int32)), .unset, .unset]) rfl q) ?_
    refine Goes.by (g' := (mkF m 9 #[.val (.int p0), .val (.int (5 : Int32)), .unset, .unset] [(.int (5 : Int32))])) (fun _ q => XS.iloadN X.here X.hx rfl (hb hby at_8) rfl q) ?_
    have X_o := X
    refine X.callS (hw _ (List.mem_of_getElem? (i := 1) rfl)) (hw _ (List.mem_of_getElem? (i := 2) rfl)) (hw _ (List.mem_of_getElem? (i := 3) rfl)) (hw _ (List.mem_of_getElem? (i := 4) rfl)) (by decide) pd_3333759383 (argsL := [(.int (5 : Int32))]) rfl (rm1 l Z a0 hw n0 h0 hn0 (5 : Int32) a_EQUAL S_EQUAL a_NOT_EQUAL S_NOT_EQUAL a_LESS S_LESS a_LESS_OR_EQUAL S_LESS_OR_EQUAL a_GREATER S_GREATER a_GREATER_OR_EQUAL S_GREATER_OR_EQUAL) (by rw [hml]; rfl) rfl (by decide) (by decide) (hb hby at_9) (by decide) (by decide) (fun T h18 v X hQ => ?_)
    obtain ⟨rfl, hh⟩ := hQ
    rw [hh] at X
    clear hh
    show Goes _ _ _ _ _ _ _ _ T (mkF m 12 #[.val (.int p0), .val (.int (5 : Int32)), .unset, .unset] [(.ref a_GREATER_OR_EQUAL)])
    refine Goes.by (g' := (mkF m 13 #[.val (.int p0), .val (.int (5 : Int32)), .val (.ref a_GREATER_OR_EQUAL), .unset] [])) (fun _ q => XS.astoreN X.here X.hx rfl (hb hby at_12) rfl rfl (l' := #[.val (.int p0), .val (.int (5 : Int32)), .val (.ref a_GREATER_OR_EQUAL), .unset]) rfl q) ?_
    refine Goes.by (g' := (mkF m 14 #[.val (.int p0), .val (.int (5 : Int32)), .val (.ref a_GREATER_OR_EQUAL), .unset] [(.int (5 : Int32))])) (fun _ q => XS.iloadN X.here X.hx rfl (hb hby at_13) rfl q) ?_
    refine Goes.by (g' := (mkF m 15 #[.val (.int p0), .val (.int (5 : Int32)), .val (.ref a_GREATER_OR_EQUAL), .unset] [(.int (2 : Int32)), (.int (5 : Int32))])) (fun _ q => XS.iconst X.here X.hx rfl (hb hby at_14) q) ?_
    refine Goes.by (g' := (mkF m 18 #[.val (.int p0), .val (.int (5 : Int32)), .val (.ref a_GREATER_OR_EQUAL), .unset] [])) (fun _ q => XS.icmpNo X.here X.hx rfl (hb hby at_15) rfl (flt (show ¬ (5 : Int32) < (2 : Int32) from (by decide))).1 q) ?_
    refine Goes.by (g' := (mkF m 19 #[.val (.int p0), .val (.int (5 : Int32)), .val (.ref a_GREATER_OR_EQUAL), .unset] [(.int (1 : Int32))])) (fun _ q => XS.iconst X.here X.hx rfl (hb hby at_18) q) ?_
    refine Goes.by (g' := (mkF m 23 #[.val (.int p0), .val (.int (5 : Int32)), .val (.ref a_GREATER_OR_EQUAL), .unset] [(.int (1 : Int32))])) (fun _ q => XS.goto X.here X.hx rfl (pc0 := 19) (pc' := 23) rfl (hb hby at_19) (by decide) (by decide) q) ?_
    refine Goes.by (g' := (mkF m 24 #[.val (.int p0), .val (.int (5 : Int32)), .val (.ref a_GREATER_OR_EQUAL), .val (.int (1 : Int32))] [])) (fun _ q => XS.istoreN X.here X.hx rfl (hb hby at_23) rfl (l' := #[.val (.int p0), .val (.int (5 : Int32)), .val (.ref a_GREATER_OR_EQUAL), .val (.int (1 : Int32))]) rfl q) ?_
    refine Goes.by (g' := (mkF m 25 #[.val (.int p0), .val (.int (5 : Int32)), .val (.ref a_GREATER_OR_EQUAL), .val (.int (1 : Int32))] [(.ref a_GREATER_OR_EQUAL)])) (fun _ q => XS.aloadN X.here X.hx rfl (hb hby at_24) rfl rfl q) ?_
    have X_o := X
    refine X.callV E_GREATER_OR_EQUAL (hw _ (List.mem_of_getElem? (i := 8) rfl)) (hw _ (List.mem_of_getElem? (i := 9) rfl)) (hw _ (List.mem_of_getElem? (i := 11) rfl)) (hw _ (List.mem_of_getElem? (i := 11) rfl)) rfl (hw _ (List.mem_of_getElem? (i := 10) rfl)) (hw _ (List.mem_of_getElem? (i := 6) rfl)) (hw _ (List.mem_of_getElem? (i := 12) rfl)) (by decide) pd_193422000 (argsL := []) rfl (rm2 l Z a0 hw n0 h0 hn0 a_GREATER_OR_EQUAL a_EQUAL S_EQUAL a_NOT_EQUAL S_NOT_EQUAL a_LESS S_LESS a_LESS_OR_EQUAL S_LESS_OR_EQUAL a_GREATER S_GREATER a_GREATER_OR_EQUAL S_GREATER_OR_EQUAL) (by rw [hml]; rfl) rfl (by decide) (by decide) (hb hby at_25) (by decide) (by decide) (fun T h19 v X hQ => ?_)
    obtain ⟨rfl, hh⟩ := hQ
    rw [hh] at X
    clear hh
    rw [show (if a_GREATER_OR_EQUAL = a_EQUAL then (0 : Int32) else if a_GREATER_OR_EQUAL = a_NOT_EQUAL then 0 else 1) = 1 from by rw [if_neg (Ne.symm n_EQUAL_GREATER_OR_EQUAL), if_neg (Ne.symm n_NOT_EQUAL_GREATER_OR_EQUAL)]]
    show Goes _ _ _ _ _ _ _ _ T (mkF m 28 #[.val (.int p0), .val (.int (5 : Int32)), .val (.ref a_GREATER_OR_EQUAL), .val (.int (1 : Int32))] [(.int (1 : Int32))])
    refine Goes.by (g' := (mkF m 29 #[.val (.int p0), .val (.int (5 : Int32)), .val (.ref a_GREATER_OR_EQUAL), .val (.int (1 : Int32))] [(.int (1 : Int32)), (.int (1 : Int32))])) (fun _ q => XS.iloadN X.here X.hx rfl (hb hby at_28) rfl q) ?_
    refine Goes.by (g' := (mkF m 32 #[.val (.int p0), .val (.int (5 : Int32)), .val (.ref a_GREATER_OR_EQUAL), .val (.int (1 : Int32))] [])) (fun _ q => XS.icmpNo X.here X.hx rfl (hb hby at_29) rfl (teq (show (1 : Int32) = (1 : Int32) from (by decide))).2 q) ?_
    refine Goes.by (g' := (mkF m 33 #[.val (.int p0), .val (.int (5 : Int32)), .val (.ref a_GREATER_OR_EQUAL), .val (.int (1 : Int32))] [(.int (1 : Int32))])) (fun _ q => XS.iconst X.here X.hx rfl (hb hby at_32) q) ?_
    refine Goes.by (g' := (mkF m 37 #[.val (.int p0), .val (.int (5 : Int32)), .val (.ref a_GREATER_OR_EQUAL), .val (.int (1 : Int32))] [(.int (1 : Int32))])) (fun _ q => XS.goto X.here X.hx rfl (pc0 := 33) (pc' := 37) rfl (hb hby at_33) (by decide) (by decide) q) ?_
    exact X.retZ hret (hb hby at_37) (by decide) (by decide) rfl
set_option maxRecDepth 65536 in
set_option maxHeartbeats 40000000 in
theorem comes_1 {Post : Tables → Env → Array Value → State → Outcome → State → Prop} (hpost : ∀ tb e args s v u, (limb_1_1.after args s (.returned v) u = true ∧ limb_1_2.after args s (.returned v) u = true ∧ True) → EndF s (.returned v) u (Jvm.fieldLocs frame_1_writes args s ++ Jvm.arrayLocs frame_1_arrays args s ++ Jvm.staticLocs frame_1_statics s) 0 0 → Post tb e args s (.returned v) u) :
    ArmFor flags0 classFile x code maxLocals ret World_1 tables_1 room_1 Calls_1 rest_1 Pre_1 Post := by
  intro l hfl _ _ p e ha hc hk s m args below hf hA hF happ hP
  obtain ⟨hcalls, hrest, hpre⟩ := hP
  obtain ⟨-, -, -, hnamed, -, -, -, hat⟩ := (Spec.applies_iff hf).mp happ
  obtain ⟨hg, hn⟩ := and_e (Cond.before_iff.mp (show (Jvm.Cond.and given_1 narrow_1).before args s = true from hpre))
  obtain ⟨hcount, hg⟩ := and_e hg
  obtain ⟨w0, rfl⟩ : ∃ w0 : Value, args = #[w0] := by
    have hs : args.size = 1 := by simpa [Cond.value, given_1] using hcount
    obtain ⟨L⟩ := args
    match L, hs with
    | [w0], _ => exact ⟨w0, rfl⟩
  have hg0 := hg
  obtain ⟨p0, ep0⟩ := is_v hg0
  obtain rfl : w0 = (.int p0) := Option.some.inj ep0
  have hw := fun d (hd : d ∈ tables_1) => atoms_spec (ws := Jvm.Cond.code x code maxLocals ret :: tables_1) hat d (List.mem_cons_of_mem _ hd)
  have hfit : Fit s := fun {y c} hc i hi => by
    obtain ⟨ha, rfl⟩ := Array.getElem?_eq_some_iff.mp hc
    have q := List.all_eq_true.mp ((Array.all_eq_true_iff_forall_mem.mp hF) _ (Array.getElem_mem ha)) i (List.mem_range.mpr hi)
    simpa [Array.getElem?_eq_getElem hi] using q
  obtain ⟨c0, hn⟩ := and_e hn
  obtain ⟨c1, hn⟩ := and_e hn
  obtain ⟨c2, hn⟩ := and_e hn
  obtain ⟨c3, hn⟩ := and_e hn
  obtain ⟨c4, hn⟩ := and_e hn
  obtain ⟨c5, hn⟩ := and_e hn
  obtain ⟨c6, hn⟩ := and_e hn
  obtain ⟨c7, hn⟩ := and_e hn
  obtain ⟨c8, hn⟩ := and_e hn
  obtain ⟨c9, hn⟩ := and_e hn
  obtain ⟨c10, hn⟩ := and_e hn
  have c11 := hn
  obtain ⟨a_EQUAL, e_EQUAL⟩ := exa_v c0
  have E_EQUAL := Exa.start e_EQUAL c0
  have S_EQUAL : Sta s s.heap "com/example/objects_to_rows/objectstorows/query/QueryModel$Operator" "EQUAL" "Lcom/example/objects_to_rows/objectstorows/query/QueryModel$Operator;" (.ref a_EQUAL) := Sta.start e_EQUAL (Or.inr ⟨(hw _ (List.mem_of_getElem? (i := 6) rfl)), (hw _ (List.mem_of_getElem? (i := 7) rfl))⟩)
  obtain ⟨a_LESS_OR_EQUAL, e_LESS_OR_EQUAL⟩ := exa_v c1
  have E_LESS_OR_EQUAL := Exa.start e_LESS_OR_EQUAL c1
  have S_LESS_OR_EQUAL : Sta s s.heap "com/example/objects_to_rows/objectstorows/query/QueryModel$Operator" "LESS_OR_EQUAL" "Lcom/example/objects_to_rows/objectstorows/query/QueryModel$Operator;" (.ref a_LESS_OR_EQUAL) := Sta.start e_LESS_OR_EQUAL (Or.inr ⟨(hw _ (List.mem_of_getElem? (i := 6) rfl)), (hw _ (List.mem_of_getElem? (i := 15) rfl))⟩)
  obtain ⟨a_NOT_EQUAL, e_NOT_EQUAL⟩ := exa_v c4
  have E_NOT_EQUAL := Exa.start e_NOT_EQUAL c4
  have S_NOT_EQUAL : Sta s s.heap "com/example/objects_to_rows/objectstorows/query/QueryModel$Operator" "NOT_EQUAL" "Lcom/example/objects_to_rows/objectstorows/query/QueryModel$Operator;" (.ref a_NOT_EQUAL) := Sta.start e_NOT_EQUAL (Or.inr ⟨(hw _ (List.mem_of_getElem? (i := 6) rfl)), (hw _ (List.mem_of_getElem? (i := 17) rfl))⟩)
  obtain ⟨a_LESS, e_LESS⟩ := exa_v c6
  have E_LESS := Exa.start e_LESS c6
  have S_LESS : Sta s s.heap "com/example/objects_to_rows/objectstorows/query/QueryModel$Operator" "LESS" "Lcom/example/objects_to_rows/objectstorows/query/QueryModel$Operator;" (.ref a_LESS) := Sta.start e_LESS (Or.inr ⟨(hw _ (List.mem_of_getElem? (i := 6) rfl)), (hw _ (List.mem_of_getElem? (i := 19) rfl))⟩)
  obtain ⟨a_GREATER_OR_EQUAL, e_GREATER_OR_EQUAL⟩ := exa_v c8
  have E_GREATER_OR_EQUAL := Exa.start e_GREATER_OR_EQUAL c8
  have S_GREATER_OR_EQUAL : Sta s s.heap "com/example/objects_to_rows/objectstorows/query/QueryModel$Operator" "GREATER_OR_EQUAL" "Lcom/example/objects_to_rows/objectstorows/query/QueryModel$Operator;" (.ref a_GREATER_OR_EQUAL) := Sta.start e_GREATER_OR_EQUAL (Or.inr ⟨(hw _ (List.mem_of_getElem? (i := 6) rfl)), (hw _ (List.mem_of_getElem? (i := 22) rfl))⟩)
  obtain ⟨a_GREATER, e_GREATER⟩ := exa_v c10
  have E_GREATER := Exa.start e_GREATER c10
  have S_GREATER : Sta s s.heap "com/example/objects_to_rows/objectstorows/query/QueryModel$Operator" "GREATER" "Lcom/example/objects_to_rows/objectstorows/query/QueryModel$Operator;" (.ref a_GREATER) := Sta.start e_GREATER (Or.inr ⟨(hw _ (List.mem_of_getElem? (i := 6) rfl)), (hw _ (List.mem_of_getElem? (i := 24) rfl))⟩)
  have F_LESS_OR_EQUAL_ordinal := fldEq e_LESS_OR_EQUAL c2
  have F_EQUAL_ordinal := fldEq e_EQUAL c3
  have F_NOT_EQUAL_ordinal := fldEq e_NOT_EQUAL c5
  have F_LESS_ordinal := fldEq e_LESS c7
  have F_GREATER_OR_EQUAL_ordinal := fldEq e_GREATER_OR_EQUAL c9
  have F_GREATER_ordinal := fldEq e_GREATER c11
  have n_EQUAL_NOT_EQUAL := F_EQUAL_ordinal.ne F_NOT_EQUAL_ordinal (by decide)
  have n_EQUAL_LESS := F_EQUAL_ordinal.ne F_LESS_ordinal (by decide)
  have n_EQUAL_LESS_OR_EQUAL := F_EQUAL_ordinal.ne F_LESS_OR_EQUAL_ordinal (by decide)
  have n_EQUAL_GREATER := F_EQUAL_ordinal.ne F_GREATER_ordinal (by decide)
  have n_EQUAL_GREATER_OR_EQUAL := F_EQUAL_ordinal.ne F_GREATER_OR_EQUAL_ordinal (by decide)
  have n_NOT_EQUAL_LESS := F_NOT_EQUAL_ordinal.ne F_LESS_ordinal (by decide)
  have n_NOT_EQUAL_LESS_OR_EQUAL := F_NOT_EQUAL_ordinal.ne F_LESS_OR_EQUAL_ordinal (by decide)
  have n_NOT_EQUAL_GREATER := F_NOT_EQUAL_ordinal.ne F_GREATER_ordinal (by decide)
  have n_NOT_EQUAL_GREATER_OR_EQUAL := F_NOT_EQUAL_ordinal.ne F_GREATER_OR_EQUAL_ordinal (by decide)
  obtain ⟨n, o, h1, h2, h3, _, L, rfl, ⟨N, rfl⟩, hq⟩ := rm0 l s _ hw s.heap.size s.heap (Nat.le_refl _) tables_1 p0 a_EQUAL S_EQUAL a_NOT_EQUAL S_NOT_EQUAL a_LESS S_LESS a_LESS_OR_EQUAL S_LESS_OR_EQUAL a_GREATER S_GREATER a_GREATER_OR_EQUAL S_GREATER_OR_EQUAL E_EQUAL E_NOT_EQUAL E_LESS E_LESS_OR_EQUAL E_GREATER E_GREATER_OR_EQUAL n_EQUAL_NOT_EQUAL n_EQUAL_LESS n_EQUAL_LESS_OR_EQUAL n_EQUAL_GREATER n_EQUAL_GREATER_OR_EQUAL n_NOT_EQUAL_LESS n_NOT_EQUAL_LESS_OR_EQUAL n_NOT_EQUAL_GREATER n_NOT_EQUAL_GREATER_OR_EQUAL p e ha hc hk s m _ below hf ((Spec.applies_iff_loose hf).mp happ).1 ⟨rfl, State.Warmed39.refl s, rfl⟩ trivial
  refine ⟨n, _, h1, h2, h3, hpost _ _ _ _ _ _ ⟨Cond.after_iff.mpr rfl, Cond.after_iff.mpr (eq_i res_at (Term.int_eval (1)) rfl), trivial⟩ ⟨hq.1, hq.2.1, (hq.2.2.sift fun y hy => Or.inr (N y hy)).mono (by decide) (by decide)⟩⟩
theorem main_1_1 : Claimed_1_1 := comes_1 fun _ _ _ _ _ _ h hF => ⟨h.1, hF⟩
theorem main_1_2 : Claimed_1_2 := comes_1 fun _ _ _ _ _ _ h hF => ⟨h.2.1, hF⟩
end Jvm.Pilot.@@N@@
namespace Jvm.Pilot.@@N@@
open Jvm Jvm.ClassFile Sem Op Lib Jvm.Free Jvm.Stand Jvm.Pilot.@@N@@.Jvm.D
/-! MADE BY PROGRAM (witnessworld.py) out of the Statement's table words and the real class files: 12 classes; the members and pool entries that the words name. The judged class is class 1, her method 1. -/
namespace start1
open Jvm.ClassFile
def u (s : String) : CpInfo := .utf8 (stringToUtf16 s)
/-- a pool by its gaps: so many unusable entries, then the entry; so many at the end -/
def gap : Nat → List CpInfo → List CpInfo
  | 0, r => r
  | n + 1, r => .unusable :: gap n r
def poolList (es : List (Nat × CpInfo)) (last : Nat) : List CpInfo := es.foldr (fun e r => gap e.1 (e.2 :: r)) (gap last [])
def pool (es : List (Nat × CpInfo)) (last : Nat) : Array CpInfo := ⟨poolList es last⟩
def fileOf (pool : Array CpInfo) (this : Nat) (attrs : Array Attribute := #[]) (ms : Array MethodInfo := #[]) (fl : Nat := 33) (sup : Nat := 0) (ifs : Array Nat := #[]) (fds : Array FieldInfo := #[]) : ClassFile where
  minorVersion := 0
  majorVersion := 65
  constantPool := pool
  accessFlags := fl
  thisClass := this
  superClass := sup
  interfaces := ifs
  fields := fds
  methods := ms
  attributes := attrs
def plain (name : String) (sup : Option ClassId) : Class where
  name := name
  kind := .ordinary
  loader := none
  accessFlags := 33
  super := sup
  interfaces := #[]
  cf := none
  fields := #[]
  methods := #[]
  instanceTypes := #[]
  staticTypes := #[]
  resolved := #[]
  callSites := []
  init := .initialized
  statics := none
  mirror := none

def pool0 : Array CpInfo := pool [(5, u "<init>"), (0, u "()V"), (1, .class_ 10), (1, u "java/lang/Object")] 113

def k0m0 : Method := { name := "<init>", desc := "()V", sig := { parameters := [], returnType := none }, accessFlags := 1, code := none }
/-- java/lang/Object -/
def k0 : Class := { plain "java/lang/Object" none with
  accessFlags := 33
  interfaces := #[]
  cf := some (fileOf pool0 8 #[] #[{ accessFlags := 1, nameIndex := 5, descriptorIndex := 6, attributes := #[] }] 33 0 #[] #[])
  fields := #[]
  methods := #[k0m0]
  instanceTypes := #[]
  staticTypes := #[]
  resolved := Array.replicate 124 none
  statics := none }

def pool1 : Array CpInfo := pool [(2, .class_ 4), (1, u "java/lang/Object"), (0, u "<init>"), (0, u "()V"), (0, .integer 2147483647), (0, .methodref 9 10), (0, .class_ 11), (0, .nameAndType 12 13), (0, u "com/example/objects_to_rows/objectstorows/query/OperatorOrdersPinLaw"), (0, u "pick"), (0, u "(I)Lcom/example/objects_to_rows/objectstorows/query/QueryModel$Operator;"), (0, .methodref 15 16), (0, .class_ 17), (0, .nameAndType 18 19), (0, u "com/example/objects_to_rows/objectstorows/query/QueryModel$Operator"), (0, u "orders"), (0, u "()Z"), (0, .fieldref 15 21), (0, .nameAndType 22 23), (0, u "EQUAL"), (0, u "Lcom/example/objects_to_rows/objectstorows/query/QueryModel$Operator;"), (0, .fieldref 15 25), (0, .nameAndType 26 23), (0, u "NOT_EQUAL"), (0, .fieldref 15 28), (0, .nameAndType 29 23), (0, u "LESS"), (0, .fieldref 15 31), (0, .nameAndType 32 23), (0, u "LESS_OR_EQUAL"), (0, .fieldref 15 34), (0, .nameAndType 35 23), (0, u "GREATER"), (0, .fieldref 15 37), (0, .nameAndType 38 23), (0, u "GREATER_OR_EQUAL"), (2, u "law"), (0, u "(I)Z")] 7

def k1m0 : Method := { name := "<init>", desc := "()V", sig := { parameters := [], returnType := none }, accessFlags := 2, code := none }
def k1c1 : Code := { maxStack := 2, maxLocals := 4, code := code, exceptionTable := #[], attributes := #[] }
def k1m1 : Method := { name := "law", desc := "(I)Z", sig := { parameters := [.int], returnType := some .boolean }, accessFlags := 9, code := some k1c1 }
def k1c2 : Code := { maxStack := 2, maxLocals := 1, code := method_3_code, exceptionTable := #[], attributes := #[] }
def k1m2 : Method := { name := "pick", desc := "(I)Lcom/example/objects_to_rows/objectstorows/query/QueryModel$Operator;", sig := { parameters := [.int], returnType := some (.object "com/example/objects_to_rows/objectstorows/query/QueryModel$Operator") }, accessFlags := 10, code := some k1c2 }
/-- com/example/objects_to_rows/objectstorows/query/OperatorOrdersPinLaw -/
def k1 : Class := { plain "com/example/objects_to_rows/objectstorows/query/OperatorOrdersPinLaw" (some 0) with
  accessFlags := 49
  interfaces := #[]
  cf := some (fileOf pool1 9 #[] #[{ accessFlags := 2, nameIndex := 5, descriptorIndex := 6, attributes := #[] }, { accessFlags := 9, nameIndex := 41, descriptorIndex := 42, attributes := #[] }, { accessFlags := 10, nameIndex := 12, descriptorIndex := 13, attributes := #[] }] 49 2 #[] #[])
  fields := #[]
  methods := #[k1m0, k1m1, k1m2]
  instanceTypes := #[]
  staticTypes := #[]
  resolved := Array.replicate 50 none
  statics := none }

def pool2 : Array CpInfo := pool [(1, .class_ 2), (0, u "java/lang/constant/Constable"), (0, .class_ 4), (0, u "java/lang/Object")] 6

/-- java/lang/constant/Constable -/
def k2 : Class := { plain "java/lang/constant/Constable" (some 0) with
  accessFlags := 1537
  interfaces := #[]
  cf := some (fileOf pool2 1 #[] #[] 1537 3 #[] #[])
  fields := #[]
  methods := #[]
  instanceTypes := #[]
  staticTypes := #[]
  resolved := Array.replicate 11 none
  statics := none }

def pool3 : Array CpInfo := pool [(1, .class_ 2), (0, u "java/lang/Comparable"), (0, .class_ 4), (0, u "java/lang/Object")] 7

/-- java/lang/Comparable -/
def k3 : Class := { plain "java/lang/Comparable" (some 0) with
  accessFlags := 1537
  interfaces := #[]
  cf := some (fileOf pool3 1 #[] #[] 1537 3 #[] #[])
  fields := #[]
  methods := #[]
  instanceTypes := #[]
  staticTypes := #[]
  resolved := Array.replicate 12 none
  statics := none }

def pool4 : Array CpInfo := pool [(1, .class_ 2), (0, u "java/io/Serializable"), (0, .class_ 4), (0, u "java/lang/Object")] 2

/-- java/io/Serializable -/
def k4 : Class := { plain "java/io/Serializable" (some 0) with
  accessFlags := 1537
  interfaces := #[]
  cf := some (fileOf pool4 1 #[] #[] 1537 3 #[] #[])
  fields := #[]
  methods := #[]
  instanceTypes := #[]
  staticTypes := #[]
  resolved := Array.replicate 7 none
  statics := none }

def pool5 : Array CpInfo := pool [(2, .class_ 4), (1, u "java/lang/Enum"), (0, u "name"), (0, u "Ljava/lang/String;"), (2, u "ordinal"), (0, u "I"), (1, .class_ 14), (1, u "java/lang/Object"), (4, u "hash"), (86, .class_ 108), (1, u "java/lang/Enum$EnumDesc"), (2, .class_ 112), (0, u "java/lang/constant/Constable"), (0, .class_ 114), (0, u "java/lang/Comparable"), (0, .class_ 116), (0, u "java/io/Serializable")] 87

/-- java/lang/Enum -/
def k5 : Class := { plain "java/lang/Enum" (some 0) with
  accessFlags := 1057
  interfaces := #[2, 3, 4]
  cf := some (fileOf pool5 2 #[.nestMembers #[106]] #[] 1057 12 #[111, 113, 115] #[{ accessFlags := 18, nameIndex := 5, descriptorIndex := 6, attributes := #[] }, { accessFlags := 18, nameIndex := 9, descriptorIndex := 10, attributes := #[] }, { accessFlags := 2, nameIndex := 19, descriptorIndex := 10, attributes := #[] }])
  fields := #[{ name := "name", type := (.object "java/lang/String"), accessFlags := 18, slot := 0, constantValue := 0 }, { name := "ordinal", type := .int, accessFlags := 18, slot := 1, constantValue := 0 }, { name := "hash", type := .int, accessFlags := 2, slot := 2, constantValue := 0 }]
  methods := #[]
  instanceTypes := #[(.object "java/lang/String"), .int, .int]
  staticTypes := #[]
  resolved := Array.replicate 204 none
  statics := none }

def pool6 : Array CpInfo := pool [(1, .class_ 2), (0, u "com/example/objects_to_rows/objectstorows/query/QueryModel$Operator"), (0, .fieldref 1 4), (0, .nameAndType 5 6), (0, u "EQUAL"), (0, u "Lcom/example/objects_to_rows/objectstorows/query/QueryModel$Operator;"), (0, .fieldref 1 8), (0, .nameAndType 9 6), (0, u "NOT_EQUAL"), (2, u "LESS"), (2, u "LESS_OR_EQUAL"), (2, u "GREATER"), (2, u "GREATER_OR_EQUAL"), (2, u "$VALUES"), (0, u "[Lcom/example/objects_to_rows/objectstorows/query/QueryModel$Operator;"), (6, .class_ 34), (1, u "java/lang/Enum"), (8, u "sql"), (0, u "Ljava/lang/String;"), (33, u "orders"), (0, u "()Z"), (7, .class_ 88), (0, u "com/example/objects_to_rows/objectstorows/query/QueryModel")] 2

def k6c0 : Code := { maxStack := 2, maxLocals := 1, code := prog_55_method_5_code, exceptionTable := #[], attributes := #[] }
def k6m0 : Method := { name := "orders", desc := "()Z", sig := { parameters := [], returnType := some .boolean }, accessFlags := 0, code := some k6c0 }
/-- com/example/objects_to_rows/objectstorows/query/QueryModel$Operator -/
def k6 : Class := { plain "com/example/objects_to_rows/objectstorows/query/QueryModel$Operator" (some 5) with
  accessFlags := 16433
  interfaces := #[]
  cf := some (fileOf pool6 1 #[.nestHost 87] #[{ accessFlags := 0, nameIndex := 78, descriptorIndex := 79, attributes := #[] }] 16433 32 #[] #[{ accessFlags := 16409, nameIndex := 5, descriptorIndex := 6, attributes := #[] }, { accessFlags := 16409, nameIndex := 9, descriptorIndex := 6, attributes := #[] }, { accessFlags := 16409, nameIndex := 12, descriptorIndex := 6, attributes := #[] }, { accessFlags := 16409, nameIndex := 15, descriptorIndex := 6, attributes := #[] }, { accessFlags := 16409, nameIndex := 18, descriptorIndex := 6, attributes := #[] }, { accessFlags := 16409, nameIndex := 21, descriptorIndex := 6, attributes := #[] }, { accessFlags := 18, nameIndex := 43, descriptorIndex := 44, attributes := #[] }, { accessFlags := 4122, nameIndex := 24, descriptorIndex := 25, attributes := #[] }])
  fields := #[{ name := "EQUAL", type := (.object "com/example/objects_to_rows/objectstorows/query/QueryModel$Operator"), accessFlags := 16409, slot := 0, constantValue := 0 }, { name := "NOT_EQUAL", type := (.object "com/example/objects_to_rows/objectstorows/query/QueryModel$Operator"), accessFlags := 16409, slot := 1, constantValue := 0 }, { name := "LESS", type := (.object "com/example/objects_to_rows/objectstorows/query/QueryModel$Operator"), accessFlags := 16409, slot := 2, constantValue := 0 }, { name := "LESS_OR_EQUAL", type := (.object "com/example/objects_to_rows/objectstorows/query/QueryModel$Operator"), accessFlags := 16409, slot := 3, constantValue := 0 }, { name := "GREATER", type := (.object "com/example/objects_to_rows/objectstorows/query/QueryModel$Operator"), accessFlags := 16409, slot := 4, constantValue := 0 }, { name := "GREATER_OR_EQUAL", type := (.object "com/example/objects_to_rows/objectstorows/query/QueryModel$Operator"), accessFlags := 16409, slot := 5, constantValue := 0 }, { name := "sql", type := (.object "java/lang/String"), accessFlags := 18, slot := 3, constantValue := 0 }, { name := "$VALUES", type := (.array (.object "com/example/objects_to_rows/objectstorows/query/QueryModel$Operator")), accessFlags := 4122, slot := 6, constantValue := 0 }]
  methods := #[k6m0]
  instanceTypes := #[(.object "java/lang/String"), .int, .int, (.object "java/lang/String")]
  staticTypes := #[(.object "com/example/objects_to_rows/objectstorows/query/QueryModel$Operator"), (.object "com/example/objects_to_rows/objectstorows/query/QueryModel$Operator"), (.object "com/example/objects_to_rows/objectstorows/query/QueryModel$Operator"), (.object "com/example/objects_to_rows/objectstorows/query/QueryModel$Operator"), (.object "com/example/objects_to_rows/objectstorows/query/QueryModel$Operator"), (.object "com/example/objects_to_rows/objectstorows/query/QueryModel$Operator"), (.array (.object "com/example/objects_to_rows/objectstorows/query/QueryModel$Operator"))]
  resolved := Array.replicate 91 none
  statics := some 0 }

def pool7 : Array CpInfo := pool [(1, u "java/lang/Cloneable"), (0, .class_ 1), (0, u "java/lang/Object"), (0, .class_ 3)] 3

/-- java/lang/Cloneable -/
def k7 : Class := { plain "java/lang/Cloneable" (some 0) with
  accessFlags := 1537
  interfaces := #[]
  cf := some (fileOf pool7 2 #[] #[] 1537 4 #[] #[])
  fields := #[]
  methods := #[]
  instanceTypes := #[]
  staticTypes := #[]
  resolved := Array.replicate 8 none
  statics := none }

/-- the primitive byte -/
def k8 : Class := { plain "byte" none with kind := .primitive 'B', accessFlags := 0x411 }
/-- [B -/
def k9 : Class := { plain "[B" (some 0) with kind := .array 8 .byte, interfaces := #[7, 4], accessFlags := 1041 }

/-- the primitive int -/
def k10 : Class := { plain "int" none with kind := .primitive 'I', accessFlags := 0x411 }
/-- [I -/
def k11 : Class := { plain "[I" (some 0) with kind := .array 10 .int, interfaces := #[7, 4], accessFlags := 1041 }

def heap : Heap := #[{ cls := 6, slots := #[.ref 1, .ref 3, .ref 4, .ref 2, .ref 6, .ref 5, .null], vm := .statics 6 },
  { cls := 6, slots := #[.null, .int 0, .int 0, .null], vm := .none },
  { cls := 6, slots := #[.null, .int 3, .int 0, .null], vm := .none },
  { cls := 6, slots := #[.null, .int 1, .int 0, .null], vm := .none },
  { cls := 6, slots := #[.null, .int 2, .int 0, .null], vm := .none },
  { cls := 6, slots := #[.null, .int 5, .int 0, .null], vm := .none },
  { cls := 6, slots := #[.null, .int 4, .int 0, .null], vm := .none }]
def classes : Array Class := #[k0, k1, k2, k3, k4, k5, k6, k7, k8, k9, k10, k11]
def interned : List (Array UInt16 × Addr) := []
def slotsUsed : Nat := 31
def theMethod : MethodId := ⟨1, 1⟩
def args0 : Array Value := #[.int 5]
def aboutOver (below : List Frame) : State where
  vm := { classes := classes, interned := interned.toArray }
  heap := heap
  slotsUsed := slotsUsed
  threads := #[{ frames := .invoking theMethod args0 :: below }]
def below0 : List Frame := [.native { method := ⟨0, 0⟩, args := #[] }]
def about1 : State := aboutOver below0
def p0 : Program := .bare "" "" ""
def e0 : Env := launch0.env 0 0 0
theorem w_frames : about1.frames = Frame.invoking theMethod args0 :: below0 := rfl
set_option maxRecDepth 65536 in
theorem w_args : argsFit about1.vm theMethod args0 = true := by decide +kernel
set_option maxRecDepth 65536 in
theorem w_heap : heapFits about1 = true := by decide +kernel
set_option maxRecDepth 65536 in
theorem w_runnable : about1.curStatus? = some .runnable := by decide +kernel
set_option maxRecDepth 65536 in
theorem w_alone : about1.alone = true := by decide +kernel
set_option maxRecDepth 65536 in
theorem w_named : about1.methodNamed? x = some theMethod := by decide +kernel
set_option maxRecDepth 65536 in
theorem w_hears : about1.hears theMethod below0 = true := by decide +kernel
set_option maxRecDepth 65536 in
theorem w_ripe : about1.ripe theMethod args0 below0 = true := by decide +kernel
theorem w_running : about1.status = .running := rfl
set_option maxRecDepth 65536 in
theorem w_room : about1.hasRoom e0.platform room_1 = true :=
  launch0.hasRoom_least _ room_1 (by decide +kernel) (by decide +kernel) (by decide +kernel) (by decide +kernel) (by decide +kernel) (by decide +kernel)
theorem allAtoms_all (ts : List Jvm.Cond) (a : Array Jvm.Value) (st : Jvm.State) : (allAtoms ts).before a st = ts.all (fun c => c.before a st) := by
  induction ts with
  | nil => rfl
  | cons c t ih =>
    show (Jvm.Cond.and c (allAtoms t)).before a st = _
    rw [Jvm.Cond.before_and, ih, List.all_cons]
def words1 : List Jvm.Cond := Jvm.Cond.code x code maxLocals ret :: tables_1
/-- a 'code' word, met by the world's own term for the bytes: nothing is compared byte by byte -/
theorem code_word {y : MethodName} {bytes : ByteArray} {mx : Nat} {rt : Option FieldType} {a : Array Value} {s : State} {m : MethodId} {meth : Method} {c : Code} (h1 : s.methodNamed? y = some m) (h2 : s.vm.method? m = some meth) (h3 : meth.code = some c) (h4 : c.code = bytes)
    (h5 : (c.maxLocals == mx && c.exceptionTable.isEmpty && decide (c.maxStack ≤ mostOperands) && decide (meth.sig.returnType = rt) && !meth.locks && decide (parseMethodDescriptor y.desc = some meth.sig)) = true) : (Jvm.Cond.code y bytes mx rt).before a s = true := by
  simp only [Bool.and_eq_true, beq_iff_eq, Bool.not_eq_true', decide_eq_true_eq] at h5
  obtain ⟨⟨⟨⟨⟨g1, g2⟩, g3⟩, g4⟩, g5⟩, g6⟩ := h5
  simp [Cond.before, Cond.holds, Cond.value, h1, h2, h3, h4, g1, g2, g3, g4, g5, g6]
def isCode : Jvm.Cond → Bool
  | .code _ _ _ _ => true
  | _ => false
theorem all_split {L : List Jvm.Cond} {P : Jvm.Cond → Bool} (h1 : L.all (fun c => isCode c || P c) = true) (h2 : ∀ c ∈ L.filter isCode, P c = true) : L.all P = true := by
  refine List.all_eq_true.mpr fun c hc => ?_
  have h := List.all_eq_true.mp h1 c hc
  rcases Bool.eq_false_or_eq_true (isCode c) with hi | hi
  · exact h2 c (List.mem_filter.mpr ⟨hc, hi⟩)
  · simpa [hi] using h
set_option maxRecDepth 65536 in
theorem w_c0 : (Jvm.Cond.code x code maxLocals ret).before args0 about1 = true := code_word (m := ⟨1, 1⟩) (meth := k1m1) (c := k1c1) (by decide +kernel) rfl rfl rfl (by decide +kernel)
set_option maxRecDepth 65536 in
theorem w_c1 : (Jvm.Cond.code ({ cls := "com/example/objects_to_rows/objectstorows/query/OperatorOrdersPinLaw", name := "pick", desc := "(I)Lcom/example/objects_to_rows/objectstorows/query/QueryModel$Operator;" } : Jvm.MethodName) method_3_code (1 : Nat) (Option.some (Jvm.ClassFile.FieldType.object "com/example/objects_to_rows/objectstorows/query/QueryModel$Operator"))).before args0 about1 = true := code_word (m := ⟨1, 2⟩) (meth := k1m2) (c := k1c2) (by decide +kernel) rfl rfl rfl (by decide +kernel)
set_option maxRecDepth 65536 in
theorem w_c2 : (Jvm.Cond.code ({ cls := "com/example/objects_to_rows/objectstorows/query/QueryModel$Operator", name := "orders", desc := "()Z" } : Jvm.MethodName) prog_55_method_5_code (1 : Nat) (Option.some Jvm.ClassFile.FieldType.boolean)).before args0 about1 = true := code_word (m := ⟨6, 0⟩) (meth := k6m0) (c := k6c0) (by decide +kernel) rfl rfl rfl (by decide +kernel)
def codes1 : List Jvm.Cond := [Jvm.Cond.code x code maxLocals ret, Jvm.Cond.code ({ cls := "com/example/objects_to_rows/objectstorows/query/OperatorOrdersPinLaw", name := "pick", desc := "(I)Lcom/example/objects_to_rows/objectstorows/query/QueryModel$Operator;" } : Jvm.MethodName) method_3_code (1 : Nat) (Option.some (Jvm.ClassFile.FieldType.object "com/example/objects_to_rows/objectstorows/query/QueryModel$Operator")), Jvm.Cond.code ({ cls := "com/example/objects_to_rows/objectstorows/query/QueryModel$Operator", name := "orders", desc := "()Z" } : Jvm.MethodName) prog_55_method_5_code (1 : Nat) (Option.some Jvm.ClassFile.FieldType.boolean)]
set_option maxRecDepth 65536 in
theorem codes_eq : words1.filter isCode = codes1 := rfl
theorem w_codes : ∀ c ∈ words1.filter isCode, c.before args0 about1 = true := by
  rw [codes_eq]
  intro c hc
  simp only [codes1, List.mem_cons, List.not_mem_nil, or_false] at hc
  rcases hc with rfl | rfl | rfl
  · exact w_c0
  · exact w_c1
  · exact w_c2
set_option maxRecDepth 65536 in
theorem w_t1 : (words1.take 24).all (fun c => isCode c || c.before args0 about1) = true := by decide +kernel
set_option maxRecDepth 65536 in
theorem w_t2 : (words1.drop 24).all (fun c => isCode c || c.before args0 about1) = true := by decide +kernel
theorem w_tables : (allAtoms (Jvm.Cond.code x code maxLocals ret :: tables_1)).before args0 about1 = true := by
  rw [allAtoms_all]
  show words1.all (fun c => c.before args0 about1) = true
  refine all_split ?_ w_codes
  rw [← List.take_append_drop 24 words1, List.all_append, w_t1, w_t2]
  rfl
set_option maxRecDepth 65536 in
theorem w_case : (Jvm.Cond.and given_1 narrow_1).before args0 about1 = true := by decide +kernel
theorem w_applies : (headSpec (Jvm.Cond.code x code maxLocals ret :: tables_1) room_1).applies x e0.platform about1 = true :=
  (Spec.applies_iff w_frames).mpr ⟨w_running, w_runnable, w_alone, w_named, w_hears, w_ripe, w_room, w_tables⟩
theorem atStart : AtStart classFile x code maxLocals ret World_1 tables_1 room_1 Calls_1 rest_1 Pre_1 launch0 p0 e0 about1 theMethod args0 below0 :=
  ⟨lists_1, trivial, launch0.admits_env _ _ _, launch0.least_env, fairChoices_fair.cas, fairChoices_fair.clock, w_frames, w_args, w_heap, w_applies, trivial, trivial, w_case⟩
end start1
theorem witness_1 : WitnessClaimed_1 := ⟨start1.p0, start1.e0, start1.about1, start1.theMethod, start1.args0, start1.below0, start1.atStart⟩
end Jvm.Pilot.@@N@@
