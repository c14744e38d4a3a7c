import JvmDerived
import JvmDerived.Pilot.@@N@@Statement
import JvmDerived.Pilot.@@N@@Code
set_option linter.unusedVariables false
set_option linter.unusedSimpArgs false
namespace Jvm.Pilot.@@N@@
open Jvm Jvm.ClassFile Sem Op Lib Jvm.Free Jvm.Stand Jvm.LawKit Jvm.RoadKit Bundle Jvm.Pilot.@@N@@.Jvm.D
section OwnHead
variable {p : Program} {l : Launch} {e : Env} {R : Room} {s : State} {m : MethodId} {args : Array Value} {below : List Frame} {meth : Method} {c : Code} {T T' : State} {Z : State} {own : String} {h h' : Heap} {n0 k n C S : Nat} {a0 : Array Value} {P : Option Value → Heap → Prop} {g g' : JFrame} {pc : Nat} {Ls : Array Slot} {st rest : List Value} {vm0 : Vm} {locs : List Loc}
theorem nfOf {args : Array Value} {s : State} {D : String} {x' z' y : MethodName} (h : (Cond.selects D x' z').before args s = true) (hc : z'.cls = y.cls) : NotFace s y := fun r0 h0 => by
  obtain ⟨c2, r2, m2, q1, q2, q3, q4, kP, hkP, hkPi⟩ := Cond.selects_spec h
  have e1 := findClass_of_methodNamed q3
  have e2 := findClass_of_methodNamed h0
  rw [hc] at e1
  have e3 : m2.cls = r0.cls := Option.some.inj (e1.symm.trans e2)
  exact ⟨kP, e3 ▸ hkP, hkPi⟩
/-- the tables over which the walk stands, and how it ends: narrow (nothing interned) -/
def Bk (s : State) (vm : Vm) (n : Nat) : Prop := vm = s.vm
theorem Bk.mono {vm : Vm} {n n' : Nat} (h : Bk s vm n) (_ : n ≤ n') : Bk s vm n' := h
theorem Bk.start : Bk s s.vm n := rfl
abbrev EndF (s : State) (o : Outcome) (t : State) (L : List Loc) (k n : Nat) : Prop := FrameEnd s o t L k n
theorem EndF.mono {o : Outcome} {t : State} {L : List Loc} {k' n' : Nat} (h : EndF s o t L k n) (hk : k ≤ k') (hn : n ≤ n') : EndF s o t L k' n' := ⟨h.1, h.2.1, h.2.2.mono hk hn⟩
theorem Bk.leave (X : Stand p l e R (s.setVm vm0) m args below meth c T locs k n) (hB : Bk s vm0 T.heap.size) {v : Option Value} (hv : meth.sig.returnType = none → v = none) (hlk : meth.locks = false) :
    ∃ fs, (∀ (f : JFrame) (acts : List Action), f.method = m → f.locked = none → f.entered = [] → (doReturn e (T.setTop f) acts v).1 = T.setFrames fs) ∧ (T.setFrames fs).status = .running ∧ Ended (T.setFrames fs) below (.returned v) ∧ EndF s (.returned v) (T.setFrames fs) locs k n := by
  cases hB
  have X : Stand p l e R s m args below meth c T locs k n := X
  obtain ⟨fs, hr, hrun, hended, hW, hsame⟩ := X.leave hv hlk
  exact ⟨fs, hr, hrun, hended, ⟨_, rfl⟩, hW, hsame⟩
/-- a body's contract -/
def Met (l : Launch) (Z : State) (n0 : Nat) (y : MethodName) (bytes : ByteArray) (maxL : Nat) (ret : Option FieldType) (rm : Room) (as' : Array Value) (h0 : Heap) (Q : Option Value → Heap → Prop) : Prop :=
  MetFree l y (head1 [Cond.code y bytes maxL ret] rm) (fun a U => a = as' ∧ Z.Warmed39 U.vm ∧ U.heap = h0) (fun _ _ _ _ _ => True) (fun _ U o U' => ∃ v L, o = .returned v ∧ (Fr n0 L ∧ Q v U'.heap) ∧ EndF U o U' L rm.cells rm.slots)
theorem Bk.callS (X : Stand p l e R (s.setVm vm0) m args below meth c T locs k n) (hx : p.tables.exec = Jvm.exec) (hB : Bk s vm0 T.heap.size) (hZ : Z.Warmed39 vm0) (hown : vm0.findClass own = some m.cls) {index : Nat} {y : MethodName} {bytes : ByteArray} {maxL : Nat} {ret : Option FieldType} {rm : Room} {argsL : List Value} {Q : Option Value → Heap → Prop} {ps : List FieldType} {r : Option FieldType} (w1 : (Cond.methodLink own index y).before a0 Z = true) (w2 : (Cond.static y).before a0 Z = true) (wz : (Cond.initialized y.cls).before a0 Z = true) (wc : (Cond.code y bytes maxL ret).before a0 Z = true) (hy : y.cls ≠ "java/lang/invoke/MethodHandle" ∧ y.cls ≠ "java/lang/invoke/VarHandle")
    (hpd : parseMethodDescriptor y.desc = some ⟨ps, r⟩) (hlen : argsL.length = ps.length) (M : Met l Z n0 y bytes maxL ret rm argsL.toArray T.heap Q) (hsz : Ls.size = c.maxLocals) (hstk : st = argsL.reverse ++ rest) (hf : rm.frames + 1 ≤ R.frames) (hl : (rest.map fun v => v.category).sum + (maxL + 11) + rm.locals ≤ R.locals) (hd : decode c.code pc = .ok (.invokestatic index, 3)) (hc : k + rm.cells ≤ R.cells) (hs : n + rm.slots ≤ R.slots) :
    ∃ (v : Option Value) (vm1 : Vm) (T1 : State) (L2 : List Loc), Stand p l e R (s.setVm vm1) m args below meth c T1 (locs ++ L2) (k + rm.cells) (n + rm.slots) ∧ Bk s vm1 T1.heap.size ∧ Z.Warmed39 vm1 ∧ vm1.findClass own = some m.cls ∧ Fr n0 L2 ∧ Q v T1.heap ∧ ∀ t, Steps p.tables e below (T1.setTop (mkF m (pc + 3) Ls (v.toList ++ rest))) t → Steps p.tables e below (T.setTop (mkF m pc Ls st)) t := by
  cases hB
  have X : Stand p l e R s m args below meth c T locs k n := X
  have hZ' : Z.Warmed39 s.vm := hZ
  obtain ⟨v, vm1, ⟨T1, L1, k1, n1⟩, -, X1, ⟨L2, ⟨N2, hQ⟩, l1, y1, z1⟩, st1⟩ := Jvm.LawKit.callS X hx (y := y) hown (mvT (s := s) hZ w1) (mvT (s := s) hZ w2) (mvT (s := s) hZ wz) (mvT (s := s) hZ wc) hy (backOf (Q := fun v h' L => Fr n0 L ∧ Q v h') (W := (rest.map fun v => v.category).sum) M hZ' wc wz hf hl) (g := mkF m pc Ls st) rfl hsz (argsL := argsL) (rest := rest) (lenOf hpd hlen) hstk (by show 2 * 0 + _ ≤ _; omega) hd (fun _ _ => ⟨rfl, rfl, hc, hs⟩)
  dsimp only [Pt.U, Pt.locs, Pt.cells, Pt.slots] at X1 l1 y1 z1 st1 hQ
  subst l1 y1 z1
  exact ⟨v, s.vm, T1, L2, X1, rfl, hZ, hown, N2, hQ, st1⟩
theorem Bk.callSN (X : Stand p l e R (s.setVm vm0) m args below meth c T locs k n) (hx : p.tables.exec = Jvm.exec) (hB : Bk s vm0 T.heap.size) (hZ : Z.Warmed39 vm0) (hown : vm0.findClass own = some m.cls) {index : Nat} {y : MethodName} {bytes : ByteArray} {maxL : Nat} {ret : Option FieldType} {rm : Room} {argsL : List Value} {Q : Option Value → Heap → Prop} {ps : List FieldType} {r : Option FieldType} {host : String} (w1 : (Cond.methodLinkNest own index y host).before a0 Z = true) (w2 : (Cond.static y).before a0 Z = true) (wz : (Cond.initialized y.cls).before a0 Z = true) (wc : (Cond.code y bytes maxL ret).before a0 Z = true) (hy : y.cls ≠ "java/lang/invoke/MethodHandle" ∧ y.cls ≠ "java/lang/invoke/VarHandle")
    (hpd : parseMethodDescriptor y.desc = some ⟨ps, r⟩) (hlen : argsL.length = ps.length) (M : Met l Z n0 y bytes maxL ret rm argsL.toArray T.heap Q) (hsz : Ls.size = c.maxLocals) (hstk : st = argsL.reverse ++ rest) (hf : rm.frames + 1 ≤ R.frames) (hl : (rest.map fun v => v.category).sum + (maxL + 11) + rm.locals ≤ R.locals) (hd : decode c.code pc = .ok (.invokestatic index, 3)) (hc : k + rm.cells ≤ R.cells) (hs : n + rm.slots ≤ R.slots) :
    ∃ (v : Option Value) (vm1 : Vm) (T1 : State) (L2 : List Loc), Stand p l e R (s.setVm vm1) m args below meth c T1 (locs ++ L2) (k + rm.cells) (n + rm.slots) ∧ Bk s vm1 T1.heap.size ∧ Z.Warmed39 vm1 ∧ vm1.findClass own = some m.cls ∧ Fr n0 L2 ∧ Q v T1.heap ∧ ∀ t, Steps p.tables e below (T1.setTop (mkF m (pc + 3) Ls (v.toList ++ rest))) t → Steps p.tables e below (T.setTop (mkF m pc Ls st)) t := by
  cases hB
  have X : Stand p l e R s m args below meth c T locs k n := X
  have hZ' : Z.Warmed39 s.vm := hZ
  obtain ⟨v, vm1, ⟨T1, L1, k1, n1⟩, -, X1, ⟨L2, ⟨N2, hQ⟩, l1, y1, z1⟩, st1⟩ := Jvm.RoadKit.callSN X hx (y := y) (host := host) hown ((Cond.methodLinkNest_wide hZ w1 :)) (mvT (s := s) hZ w2) (mvT (s := s) hZ wz) (mvT (s := s) hZ wc) hy (backOf (Q := fun v h' L => Fr n0 L ∧ Q v h') (W := (rest.map fun v => v.category).sum) M hZ' wc wz hf hl) (g := mkF m pc Ls st) rfl hsz (argsL := argsL) (rest := rest) (lenOf hpd hlen) hstk (by show 2 * 0 + _ ≤ _; omega) hd (fun _ _ => ⟨rfl, rfl, hc, hs⟩)
  dsimp only [Pt.U, Pt.locs, Pt.cells, Pt.slots] at X1 l1 y1 z1 st1 hQ
  subst l1 y1 z1
  exact ⟨v, s.vm, T1, L2, X1, rfl, hZ, hown, N2, hQ, fun _ q => st1.trans q⟩
theorem Bk.callV (X : Stand p l e R (s.setVm vm0) m args below meth c T locs k n) (hx : p.tables.exec = Jvm.exec) (hB : Bk s vm0 T.heap.size) (hZ : Z.Warmed39 vm0) (hown : vm0.findClass own = some m.cls) {index : Nat} {y : MethodName} {bytes : ByteArray} {maxL : Nat} {ret : Option FieldType} {rm : Room} {argsL : List Value} {Q : Option Value → Heap → Prop} {ps : List FieldType} {r : Option FieldType} {z : MethodName} {K : String} {b : Addr} (E : Exa Z T.heap b K) (w1 : (Cond.methodLink own index y).before a0 Z = true) (w2 : (Cond.declares y).before a0 Z = true) (w3 : (Cond.selects K y z).before a0 Z = true) {D : String} {x' z' : MethodName} (w5 : (Cond.selects D x' z').before a0 Z = true) (h5 : z'.cls = y.cls) (w4 : (Cond.instanceMethod z).before a0 Z = true) (wz : (Cond.initialized z.cls).before a0 Z = true) (wc : (Cond.code z bytes maxL ret).before a0 Z = true) (hy : y.cls ≠ "java/lang/invoke/MethodHandle" ∧ y.cls ≠ "java/lang/invoke/VarHandle")
    (hpd : parseMethodDescriptor y.desc = some ⟨ps, r⟩) (hlen : argsL.length = ps.length) (M : Met l Z n0 z bytes maxL ret rm (.ref b :: argsL).toArray T.heap Q) (hsz : Ls.size = c.maxLocals) (hstk : st = argsL.reverse ++ .ref b :: rest) (hf : rm.frames + 1 ≤ R.frames) (hl : (rest.map fun v => v.category).sum + (maxL + 11) + rm.locals ≤ R.locals) (hd : decode c.code pc = .ok (.invokevirtual index, 3)) (hc : k + rm.cells ≤ R.cells) (hs : n + rm.slots ≤ R.slots) :
    ∃ (v : Option Value) (vm1 : Vm) (T1 : State) (L2 : List Loc), Stand p l e R (s.setVm vm1) m args below meth c T1 (locs ++ L2) (k + rm.cells) (n + rm.slots) ∧ Bk s vm1 T1.heap.size ∧ Z.Warmed39 vm1 ∧ vm1.findClass own = some m.cls ∧ Fr n0 L2 ∧ Q v T1.heap ∧ ∀ t, Steps p.tables e below (T1.setTop (mkF m (pc + 3) Ls (v.toList ++ rest))) t → Steps p.tables e below (T.setTop (mkF m pc Ls st)) t := by
  cases hB
  have X : Stand p l e R s m args below meth c T locs k n := X
  have hZ' : Z.Warmed39 s.vm := hZ
  obtain ⟨cq, kq, qa, qb, qc⟩ := isOf (s := s) hZ' rfl E
  obtain ⟨v, vm1, ⟨T1, L1, k1, n1⟩, -, X1, ⟨L2, ⟨N2, hQ⟩, l1, y1, z1⟩, st1⟩ := X.virtualBack hx (y := y) (z := z) hown (mvT (s := s) hZ w1) (mvT (s := s) hZ w2) (nfOf (args := #[]) (mvT (s := s) hZ w5) h5) (mvT (s := s) hZ w3) (mvT (s := s) hZ w4) hy (backOf (Q := fun v h' L => Fr n0 L ∧ Q v h') (W := (rest.map fun v => v.category).sum) M hZ' wc wz hf hl) qa qc (g := mkF m pc Ls st) rfl hsz (Steps.refl _) (argsL := argsL) (rest := rest) (lenOf hpd hlen) hstk (by show 2 * 0 + _ ≤ _; omega) hd (fun _ _ => ⟨rfl, rfl, hc, hs⟩)
  dsimp only [Pt.U, Pt.locs, Pt.cells, Pt.slots] at X1 l1 y1 z1 st1 hQ
  subst l1 y1 z1
  exact ⟨v, s.vm, T1, L2, X1, rfl, hZ, hown, N2, hQ, fun _ q => st1.trans q⟩
theorem Bk.callU (X : Stand p l e R (s.setVm vm0) m args below meth c T locs k n) (hx : p.tables.exec = Jvm.exec) (hB : Bk s vm0 T.heap.size) (hZ : Z.Warmed39 vm0) (hown : vm0.findClass own = some m.cls) {index : Nat} {y : MethodName} {bytes : ByteArray} {maxL : Nat} {ret : Option FieldType} {rm : Room} {argsL : List Value} {Q : Option Value → Heap → Prop} {ps : List FieldType} {r : Option FieldType} {z : MethodName} {owner K : String} {b : Addr} (E : Exa Z T.heap b K) (w1 : (Cond.methodLink own index y).before a0 Z = true) (wsm : (Cond.sameMethod y.cls owner y.name y.desc).before a0 Z = true) (w2 : (Cond.declares ⟨owner, y.name, y.desc⟩).before a0 Z = true) (ho : owner ≠ "java/lang/invoke/MethodHandle" ∧ owner ≠ "java/lang/invoke/VarHandle") (w3 : (Cond.selects K y z).before a0 Z = true) (w4 : (Cond.instanceMethod z).before a0 Z = true) (wz : (Cond.initialized z.cls).before a0 Z = true) (wc : (Cond.code z bytes maxL ret).before a0 Z = true)
    (hpd : parseMethodDescriptor y.desc = some ⟨ps, r⟩) (hlen : argsL.length = ps.length) (M : Met l Z n0 z bytes maxL ret rm (.ref b :: argsL).toArray T.heap Q) (hsz : Ls.size = c.maxLocals) (hstk : st = argsL.reverse ++ .ref b :: rest) (hf : rm.frames + 1 ≤ R.frames) (hl : (rest.map fun v => v.category).sum + (maxL + 11) + rm.locals ≤ R.locals) (hd : decode c.code pc = .ok (.invokevirtual index, 3)) (hc : k + rm.cells ≤ R.cells) (hs : n + rm.slots ≤ R.slots) :
    ∃ (v : Option Value) (vm1 : Vm) (T1 : State) (L2 : List Loc), Stand p l e R (s.setVm vm1) m args below meth c T1 (locs ++ L2) (k + rm.cells) (n + rm.slots) ∧ Bk s vm1 T1.heap.size ∧ Z.Warmed39 vm1 ∧ vm1.findClass own = some m.cls ∧ Fr n0 L2 ∧ Q v T1.heap ∧ ∀ t, Steps p.tables e below (T1.setTop (mkF m (pc + 3) Ls (v.toList ++ rest))) t → Steps p.tables e below (T.setTop (mkF m pc Ls st)) t := by
  cases hB
  have X : Stand p l e R s m args below meth c T locs k n := X
  have hZ' : Z.Warmed39 s.vm := hZ
  obtain ⟨cq, kq, qa, qb, qc⟩ := isOf (s := s) hZ' rfl E
  obtain ⟨v, vm1, ⟨T1, L1, k1, n1⟩, -, X1, ⟨L2, ⟨N2, hQ⟩, l1, y1, z1⟩, st1⟩ := X.virtualBackUp hx (x := y) (y := z) hown (mvT (s := s) hZ w1) (mvT (s := s) hZ wsm) (mvT (s := s) hZ w2) ho (mvT (s := s) hZ w3) (mvT (s := s) hZ w4) (backOf (Q := fun v h' L => Fr n0 L ∧ Q v h') (W := (rest.map fun v => v.category).sum) M hZ' wc wz hf hl) qa qc (g := mkF m pc Ls st) rfl hsz (Steps.refl _) (argsL := argsL) (rest := rest) (lenOf hpd hlen) hstk (by show 2 * 0 + _ ≤ _; omega) hd (fun _ _ => ⟨rfl, rfl, hc, hs⟩)
  dsimp only [Pt.U, Pt.locs, Pt.cells, Pt.slots] at X1 l1 y1 z1 st1 hQ
  subst l1 y1 z1
  exact ⟨v, s.vm, T1, L2, X1, rfl, hZ, hown, N2, hQ, fun _ q => st1.trans q⟩
theorem Bk.callN (X : Stand p l e R (s.setVm vm0) m args below meth c T locs k n) (hx : p.tables.exec = Jvm.exec) (hB : Bk s vm0 T.heap.size) (hZ : Z.Warmed39 vm0) (hown : vm0.findClass own = some m.cls) {index : Nat} {y : MethodName} {bytes : ByteArray} {maxL : Nat} {rm : Room} {argsL : List Value} {Q : Option Value → Heap → Prop} {ps : List FieldType} {r : Option FieldType} {b : Addr} (hin : y.name = "<init>") (w1 : (Cond.methodLink own index y).before a0 Z = true) (w4 : (Cond.instanceMethod y).before a0 Z = true) (wz : (Cond.initialized y.cls).before a0 Z = true) (wc : (Cond.code y bytes maxL none).before a0 Z = true) (hy : y.cls ≠ "java/lang/invoke/MethodHandle" ∧ y.cls ≠ "java/lang/invoke/VarHandle")
    (hpd : parseMethodDescriptor y.desc = some ⟨ps, r⟩) (hlen : argsL.length = ps.length) (M : Met l Z n0 y bytes maxL none rm (.ref b :: argsL).toArray T.heap Q) (hsz : Ls.size = c.maxLocals) (hstk : st = argsL.reverse ++ .ref b :: rest) (hf : rm.frames + 1 ≤ R.frames) (hl : (rest.map fun v => v.category).sum + (maxL + 11) + rm.locals ≤ R.locals) (hd : decode c.code pc = .ok (.invokespecial index, 3)) (hc : k + rm.cells ≤ R.cells) (hs : n + rm.slots ≤ R.slots) :
    ∃ (v : Option Value) (vm1 : Vm) (T1 : State) (L2 : List Loc), Stand p l e R (s.setVm vm1) m args below meth c T1 (locs ++ L2) (k + rm.cells) (n + rm.slots) ∧ Bk s vm1 T1.heap.size ∧ Z.Warmed39 vm1 ∧ vm1.findClass own = some m.cls ∧ Fr n0 L2 ∧ Q v T1.heap ∧ ∀ t, Steps p.tables e below (T1.setTop (mkF m (pc + 3) Ls (v.toList ++ rest))) t → Steps p.tables e below (T.setTop (mkF m pc Ls st)) t := by
  cases hB
  have X : Stand p l e R s m args below meth c T locs k n := X
  have hZ' : Z.Warmed39 s.vm := hZ
  obtain ⟨v, vm1, ⟨T1, L1, k1, n1⟩, -, X1, ⟨L2, ⟨N2, hQ⟩, l1, y1, z1⟩, st1⟩ := X.specialBack hx (y := y) hin hown (mvT (s := s) hZ w1) (mvT (s := s) hZ w4) (mvT (s := s) hZ wc) hy (backOf (Q := fun v h' L => Fr n0 L ∧ Q v h') (W := (rest.map fun v => v.category).sum) M hZ' wc wz hf hl) (g := mkF m pc Ls st) rfl hsz (Steps.refl _) (a := b) (argsL := argsL) (rest := rest) (lenOf hpd hlen) hstk (by show 2 * 0 + _ ≤ _; omega) hd (fun _ _ => ⟨rfl, rfl, hc, hs⟩)
  dsimp only [Pt.U, Pt.locs, Pt.cells, Pt.slots] at X1 l1 y1 z1 st1 hQ
  subst l1 y1 z1
  exact ⟨v, s.vm, T1, L2, X1, rfl, hZ, hown, N2, hQ, fun _ q => st1.trans q⟩
end OwnHead
/-! own layer: a walk in continuation form over the library's laws -/
section OwnKit
variable {p : Program} {l : Launch} {e : Env} {R : Room} {s : State} {m : MethodId} {args : Array Value} {below : List Frame} {meth : Method} {c : Code} {T T' : State} {Z : State} {own : String} {h h' : Heap} {n0 k n C S : Nat} {a0 : Array Value} {P : Option Value → Heap → Prop} {g g' : JFrame} {pc : Nat} {Ls : Array Slot} {st rest : List Value}
/-- where the walk stands: nothing but new cells written, n0 the first new address -/
def Std (p : Program) (l : Launch) (e : Env) (R : Room) (s : State) (m : MethodId) (args : Array Value) (below : List Frame) (meth : Method) (c : Code) (Z : State) (own : String) (n0 : Nat) (T : State) (h : Heap) (k n : Nat) : Prop :=
  ∃ vm0, (∃ locs, Stand p l e R (s.setVm vm0) m args below meth c T locs k n ∧ Fr n0 locs) ∧ T.heap = h ∧ p.tables.exec = Jvm.exec ∧ Z.Warmed39 vm0 ∧ vm0.findClass own = some m.cls ∧ Bk s vm0 h.size ∧ n0 ≤ s.heap.size ∧ meth.locks = false
/-- from here the method returns, and P holds of what it returns and of the heap -/
def Goes (p : Program) (e : Env) (below : List Frame) (s : State) (n0 C S : Nat) (P : Option Value → Heap → Prop) (T : State) (g : JFrame) : Prop :=
  ∃ (s₂ : State) (v : Option Value) (L : List Loc), Steps p.tables e below (T.setTop g) s₂ ∧ s₂.status = .running ∧ Ended s₂ below (.returned v) ∧ (Fr n0 L ∧ P v s₂.heap) ∧ EndF s (.returned v) s₂ L C S
theorem Std.here (X : Std p l e R s m args below meth c Z own n0 T h k n) : At T m c below := by obtain ⟨vm0, ⟨L, X, -⟩, -⟩ := X; exact X.here
theorem Std.hx (X : Std p l e R s m args below meth c Z own n0 T h k n) : p.tables.exec = Jvm.exec := by obtain ⟨vm0, -, -, h, -⟩ := X; exact h
theorem Std.n0le (X : Std p l e R s m args below meth c Z own n0 T h k n) : n0 ≤ h.size := by
  obtain ⟨vm0, ⟨L, X, -⟩, rfl, -, -, -, -, q, -⟩ := X
  exact Nat.le_trans q X.same.2.1
theorem Goes.by (st : ∀ t, Steps p.tables e below (T'.setTop g') t → Steps p.tables e below (T.setTop g) t) (G : Goes p e below s n0 C S P T' g') : Goes p e below s n0 C S P T g := by
  obtain ⟨s₂, v, L, h1, r⟩ := G
  exact ⟨s₂, v, L, st _ h1, r⟩
theorem Goes.mono {P' : Option Value → Heap → Prop} (G : Goes p e below s n0 C S P T g) (q : ∀ v h, P v h → P' v h) : Goes p e below s n0 C S P' T g := by
  obtain ⟨s₂, v, L, h1, h2, h3, ⟨h4, h5⟩, h6⟩ := G
  exact ⟨s₂, v, L, h1, h2, h3, ⟨h4, q _ _ h5⟩, h6⟩
theorem Std.retOut (X : Std p l e R s m args below meth c Z own n0 T h k n) {w : Value} {t : FieldType} {i : Instr} (hret : meth.sig.returnType = some t) (hn : narrow t w = w)
    (hi : (i = .ireturn ∧ (t = .int ∨ t = .boolean ∨ t = .byte ∨ t = .char ∨ t = .short) ∧ ∃ z, w = .int z) ∨ (i = .lreturn ∧ t = .long ∧ ∃ z, w = .long z) ∨ (i = .dreturn ∧ t = .double ∧ ∃ z, w = .double z) ∨ (i = .freturn ∧ t = .float ∧ ∃ z, w = .float z) ∨ (i = .areturn ∧ t.isReference = true ∧ w.isRef = true))
    (hd : decode c.code pc = .ok (i, 1)) (hc : k ≤ C) (hs : n ≤ S) (hP : P (some w) h) : Goes p e below s n0 C S P T (mkF m pc Ls (w :: rest)) := by
  obtain ⟨vm0, ⟨L, X, N⟩, rfl, hx, -, -, hB, -, hlk⟩ := X
  obtain ⟨fs, hr, hrun, hended, hE⟩ := Bk.leave X hB (v := some w) (fun q => by rw [hret] at q; cases q) hlk
  exact ⟨_, _, L, Jvm.RoadKit.retOut X hx hret hn hi hd hr, hrun, hended, ⟨N, hP⟩, EndF.mono hE hc hs⟩
theorem Std.retI (X : Std p l e R s m args below meth c Z own n0 T h k n) {z : Int32} (hret : meth.sig.returnType = some .int) (hd : decode c.code pc = .ok (.ireturn, 1)) (hc : k ≤ C) (hs : n ≤ S) (hP : P (some (.int z)) h) : Goes p e below s n0 C S P T (mkF m pc Ls (.int z :: rest)) :=
  X.retOut hret rfl (Or.inl ⟨rfl, Or.inl rfl, z, rfl⟩) hd hc hs hP
theorem Std.retA (X : Std p l e R s m args below meth c Z own n0 T h k n) {w : Value} {t : FieldType} (hret : meth.sig.returnType = some t) (ht : t.isReference = true) (hw : w.isRef = true) (hd : decode c.code pc = .ok (.areturn, 1)) (hc : k ≤ C) (hs : n ≤ S) (hP : P (some w) h) : Goes p e below s n0 C S P T (mkF m pc Ls (w :: rest)) :=
  X.retOut hret (by rcases ref_cases hw with rfl | ⟨a, rfl⟩ <;> cases t <;> rfl) (Or.inr (Or.inr (Or.inr (Or.inr ⟨rfl, ht, hw⟩)))) hd hc hs hP
theorem Std.retJ (X : Std p l e R s m args below meth c Z own n0 T h k n) {z : Int64} (hret : meth.sig.returnType = some .long) (hd : decode c.code pc = .ok (.lreturn, 1)) (hc : k ≤ C) (hs : n ≤ S) (hP : P (some (.long z)) h) : Goes p e below s n0 C S P T (mkF m pc Ls (.long z :: rest)) :=
  X.retOut hret rfl (Or.inr (Or.inl ⟨rfl, rfl, z, rfl⟩)) hd hc hs hP
theorem Std.retN (X : Std p l e R s m args below meth c Z own n0 T h k n) {z : Int32} {t : FieldType} (hret : meth.sig.returnType = some t) (ht : t = .boolean ∨ t = .byte ∨ t = .char ∨ t = .short) (hd : decode c.code pc = .ok (.ireturn, 1)) (hc : k ≤ C) (hs : n ≤ S) (hP : P (some (.int (nar t z))) h) : Goes p e below s n0 C S P T (mkF m pc Ls (.int z :: rest)) := by
  obtain ⟨vm0, ⟨L, X, N⟩, rfl, hx, -, -, hB, -, hlk⟩ := X
  obtain ⟨fs, hr, hrun, hended, hE⟩ := Bk.leave X hB (v := some (.int (nar t z))) (fun q => by rw [hret] at q; cases q) hlk
  exact ⟨_, _, L, Jvm.RoadKit.retN X hx hret ht hd hr, hrun, hended, ⟨N, hP⟩, EndF.mono hE hc hs⟩
theorem Std.retZ (X : Std p l e R s m args below meth c Z own n0 T h k n) {z : Int32} (hret : meth.sig.returnType = some .boolean) (hd : decode c.code pc = .ok (.ireturn, 1)) (hc : k ≤ C) (hs : n ≤ S) (hP : P (some (.int (nar .boolean z))) h) : Goes p e below s n0 C S P T (mkF m pc Ls (.int z :: rest)) :=
  X.retN hret (Or.inl rfl) hd hc hs hP
theorem Std.retV (X : Std p l e R s m args below meth c Z own n0 T h k n) (hret : meth.sig.returnType = none) (hd : decode c.code pc = .ok (.return_, 1)) (hc : k ≤ C) (hs : n ≤ S) (hP : P none h) : Goes p e below s n0 C S P T (mkF m pc Ls []) := by
  obtain ⟨vm0, ⟨L, X, N⟩, rfl, hx, -, -, hB, -, hlk⟩ := X
  obtain ⟨fs, hr, hrun, hended, hE⟩ := Bk.leave X hB (v := none) (fun _ => rfl) hlk
  exact ⟨_, _, L, X.returnOut hx hret hd hr, hrun, hended, ⟨N, hP⟩, EndF.mono hE hc hs⟩
theorem Std.ldcI (X : Std p l e R s m args below meth c Z own n0 T h k n) {index : Nat} {v : Int32} (w : (Cond.constant own index v).before a0 Z = true) (hd : decode c.code pc = .ok (.ldc index, 2)) (G : Goes p e below s n0 C S P T (mkF m (pc + 2) Ls (.int v :: st))) : Goes p e below s n0 C S P T (mkF m pc Ls st) := by
  obtain ⟨vm0, ⟨L, X, N⟩, -, hx, hZ, hown, -⟩ := X
  exact Goes.by (fun _ q => X.ldcI hx hown (mvT (s := s.setVm vm0) hZ w) rfl hd q) G
theorem Std.ldcWI (X : Std p l e R s m args below meth c Z own n0 T h k n) {index : Nat} {v : Int32} (w : (Cond.constant own index v).before a0 Z = true) (hd : decode c.code pc = .ok (.ldc_w index, 3)) (G : Goes p e below s n0 C S P T (mkF m (pc + 3) Ls (.int v :: st))) : Goes p e below s n0 C S P T (mkF m pc Ls st) := by
  obtain ⟨vm0, ⟨L, X, N⟩, -, hx, hZ, hown, -⟩ := X
  exact Goes.by (fun _ q => X.ldcWI hx hown (mvT (s := s.setVm vm0) hZ w) rfl hd q) G
theorem Std.getS (X : Std p l e R s m args below meth c Z own n0 T h k n) {index : Nat} {R0 O nm d host : String} {v : Value} (w : (Cond.fieldLink own index R0 nm d).before a0 Z = true ∨ (Cond.fieldLinkNest own index R0 nm d host).before a0 Z = true) (via : Via Z R0 O nm d) (F : Sta Z h O nm d v) (hd : decode c.code pc = .ok (.getstatic index, 3))
    (G : ∀ T, Std p l e R s m args below meth c Z own n0 T h k n → Goes p e below s n0 C S P T (mkF m (pc + 3) Ls (v :: st))) : Goes p e below s n0 C S P T (mkF m pc Ls st) := by
  obtain ⟨vm0, ⟨L, X, N⟩, eT, hx, hZ, hown, r⟩ := X
  obtain ⟨T1, X1, e1, st1⟩ := Jvm.RoadKit.getS2 X hx hZ hown w via eT F (g := mkF m pc Ls st) rfl hd
  exact Goes.by st1 (G T1 ⟨vm0, ⟨L, X1, N⟩, e1, hx, hZ, hown, r⟩)
theorem Std.getF (X : Std p l e R s m args below meth c Z own n0 T h k n) {index : Nat} {R0 O nm d host : String} {a : Addr} {v : Value} (w : (Cond.fieldLink own index R0 nm d).before a0 Z = true ∨ (Cond.fieldLinkNest own index R0 nm d host).before a0 Z = true) (via : Via Z R0 O nm d) (F : Fld Z h a O nm d v) (hd : decode c.code pc = .ok (.getfield index, 3))
    (G : ∀ T, Std p l e R s m args below meth c Z own n0 T h k n → Goes p e below s n0 C S P T (mkF m (pc + 3) Ls (v :: rest))) : Goes p e below s n0 C S P T (mkF m pc Ls (.ref a :: rest)) := by
  obtain ⟨vm0, ⟨L, X, N⟩, eT, hx, hZ, hown, r⟩ := X
  obtain ⟨T1, X1, e1, st1⟩ := Jvm.RoadKit.getF X hx hZ hown w via eT F (g := mkF m pc Ls (.ref a :: rest)) rfl rfl hd
  exact Goes.by st1 (G T1 ⟨vm0, ⟨L, X1, N⟩, e1, hx, hZ, hown, r⟩)
theorem Std.putF (X : Std p l e R s m args below meth c Z own n0 T h k n) {index kk : Nat} {R0 O nm d host K : String} {ty : FieldType} {a : Addr} {v old : Value} (w : (Cond.fieldLink own index R0 nm d).before a0 Z = true ∨ (Cond.fieldLinkNest own index R0 nm d host).before a0 Z = true) (via : Via Z R0 O nm d) (F : Fld Z h a O nm d old) (E : Exa Z h a K)
    (L : (Cond.lays K O nm d).before a0 Z = true ∨ ((Cond.laysFinal K O nm d).before a0 Z = true ∧ own = O ∧ meth.name = "<init>")) (wi : (Cond.instantiable K kk).before a0 Z = true) (hty : parseFieldDescriptor d = some ty) (hn : narrow ty v = v) (hf : fits ty v = true) (ha : n0 ≤ a) (hd : decode c.code pc = .ok (.putfield index, 3))
    (G : ∀ T h', Std p l e R s m args below meth c Z own n0 T h' k n → Wr h h' a (Jvm.RoadKit.slotOf Z O nm d) v → Goes p e below s n0 C S P T (mkF m (pc + 3) Ls rest)) : Goes p e below s n0 C S P T (mkF m pc Ls (v :: .ref a :: rest)) := by
  obtain ⟨vm0, ⟨L0, X, N⟩, eT, hx, hZ, hown, hB, r⟩ := X
  obtain ⟨T1, h1, X1, e1, W1, st1⟩ := Jvm.RoadKit.putF X hx hZ hown w via eT F E L wi hty hn hf (g := mkF m pc Ls (v :: .ref a :: rest)) rfl rfl hd
  exact Goes.by st1 (G T1 h1 ⟨vm0, ⟨_, X1, Fr.snoc X1 N ha⟩, e1, hx, hZ, hown, hB.mono (Nat.le_of_eq W1.size.symm), r⟩ W1)
theorem Std.newO (X : Std p l e R s m args below meth c Z own n0 T h k n) {index j : Nat} {K : String} (w : (Cond.classLink own index K).before a0 Z = true) (wi : (Cond.instantiable K j).before a0 Z = true) (wz : (Cond.initialized K).before a0 Z = true) (hd : decode c.code pc = .ok (.new index, 3)) (hc : k + 1 ≤ R.cells) (hl : n + j ≤ R.slots)
    (G : ∀ T h' a, Std p l e R s m args below meth c Z own n0 T h' (k + 1) (n + j) → a = h.size → n0 ≤ a → Ext h h' → Exa Z h' a K → (∀ {O nm d : String} {ty : FieldType}, Laid Z a0 K O nm d → parseFieldDescriptor d = some ty → Fld Z h' a O nm d (defaultValue ty)) → Goes p e below s n0 C S P T (mkF m (pc + 3) Ls (.ref a :: st))) : Goes p e below s n0 C S P T (mkF m pc Ls st) := by
  have q := X.n0le
  obtain ⟨vm0, ⟨L0, X, N⟩, eT, hx, hZ, hown, hB, r⟩ := X
  obtain ⟨T1, h1, X1, e1, E1, A1, D1, -, st1⟩ := Jvm.RoadKit.newO X hx hZ hown w wi wz eT (g := mkF m pc Ls st) rfl hd hc hl
  exact Goes.by st1 (G T1 h1 h.size ⟨vm0, ⟨_, X1, N⟩, e1, hx, hZ, hown, hB.mono E1.1, r⟩ rfl q E1 A1 D1)
theorem Std.initO (X : Std p l e R s m args below meth c Z own n0 T h k n) {index : Nat} {a : Addr} (w1 : (Cond.methodLink own index Lib.objectInit).before a0 Z = true) (w2 : (Cond.instanceMethod Lib.objectInit).before a0 Z = true) (w3 : (Cond.code Lib.objectInit object_method_1_code 1 none).before a0 Z = true) (hsz : Ls.size = c.maxLocals) (hd : decode c.code pc = .ok (.invokespecial index, 3)) (hf : 1 ≤ R.frames) (hl : (rest.map fun v => v.category).sum + 12 ≤ R.locals)
    (G : ∀ T, Std p l e R s m args below meth c Z own n0 T h k n → Goes p e below s n0 C S P T (mkF m (pc + 3) Ls rest)) : Goes p e below s n0 C S P T (mkF m pc Ls (.ref a :: rest)) := by
  obtain ⟨vm0, ⟨L, X, N⟩, eT, hx, hZ, hown, r⟩ := X
  obtain ⟨T1, X1, e1, st1⟩ := Jvm.RoadKit.initO X hx hZ hown w1 w2 w3 eT (g := mkF m pc Ls (.ref a :: rest)) rfl hsz rfl hd hf (W := (rest.map fun v => v.category).sum) (by show 2 * 0 + _ ≤ _; omega) hl
  exact Goes.by st1 (G T1 ⟨vm0, ⟨L, X1, N⟩, e1, hx, hZ, hown, r⟩)
theorem Std.irem (X : Std p l e R s m args below meth c Z own n0 T h k n) {x y : Int32} (hd : decode c.code pc = .ok (.irem, 1)) (hy : y ≠ 0) (G : Goes p e below s n0 C S P T (mkF m (pc + 1) Ls (.int (x % y) :: rest))) : Goes p e below s n0 C S P T (mkF m pc Ls (.int y :: .int x :: rest)) := by
  obtain ⟨vm0, ⟨L, X, N⟩, eT, hx, r⟩ := X
  exact Goes.by (fun _ q => iremM X hx rfl hd rfl hy q) G
theorem Std.acmp (X : Std p l e R s m args below meth c Z own n0 T h k n) {cd : ACond} {x y : Value} (h1 : x.isRef = true) (h2 : y.isRef = true) {o : Int} {pc' : Nat} {same : Bool} (hd : decode c.code pc = .ok (.if_acmp cd o, 3)) (hq : decide (x = y) = same) (ho : 0 ≤ (pc : Int) + o) (hp : pc' = if acV cd same = true then ((pc : Int) + o).toNat else pc + 3) (G : Goes p e below s n0 C S P T (mkF m pc' Ls rest)) : Goes p e below s n0 C S P T (mkF m pc Ls (y :: x :: rest)) := by
  obtain ⟨vm0, ⟨L, X, N⟩, eT, hx, r⟩ := X
  exact Goes.by (fun _ q => Jvm.RoadKit.acmp X hx rfl h1 h2 rfl hd rfl hq ho hp q) G
theorem metW {ws : List Jvm.Cond} {y : MethodName} {bytes : ByteArray} {maxL : Nat} {ret : Option FieldType} {rm : Room} {as' : Array Value} {h0 : Heap} {Q : Option Value → Heap → Prop} (hpl : plainFor y = true) (hn0 : n0 ≤ h0.size)
    (body : ∀ p e s m below meth c s₁, Std p l e rm s m as' below meth c Z y.cls n0 s₁ h0 0 0 → c.code = bytes → c.maxLocals = maxL → meth.sig.returnType = ret → meth.name = y.name → Goes p e below s n0 rm.cells rm.slots Q s₁ (entryFrame m as' maxL)) :
    MetFree l y (head1 (Cond.code y bytes maxL ret :: ws) rm) (fun a U => a = as' ∧ Z.Warmed39 U.vm ∧ U.heap = h0) (fun _ _ _ _ _ => True) (fun _ U o U' => ∃ v L, o = .returned v ∧ (Fr n0 L ∧ Q v U'.heap) ∧ EndF U o U' L rm.cells rm.slots) := by
  refine MetFree.of_bodySF hpl hisR ?_
  intro p e s m args below meth c s₁ Bd hml hP hK
  obtain ⟨rfl, hZ, hh⟩ := hP
  have e0 : s₁.heap = h0 := by rw [← hh, Bd.state]; rfl
  obtain ⟨s₂, v, L, h1, h2, h3, h4, h5⟩ := body p e s m below meth c s₁ ⟨s.vm, ⟨[], Stand.of_body Bd, Fr.nil n0⟩, e0, Bd.exec, hZ, findClass_of_methodNamed Bd.named, Bk.start, by rw [hh]; exact hn0, Bd.notSynchronized⟩ Bd.bytes hml Bd.returns (name_of_methodNamed Bd.named Bd.method).1
  exact ⟨s₂, _, h1, h2, h3, v, L, rfl, h4, h5⟩
theorem Std.callS (X : Std p l e R s m args below meth c Z own n0 T h k n) {index : Nat} {y : MethodName} {bytes : ByteArray} {maxL : Nat} {ret : Option FieldType} {rm : Room} {argsL : List Value} {Q : Option Value → Heap → Prop} {ps : List FieldType} {r : Option FieldType} (w1 : (Cond.methodLink own index y).before a0 Z = true) (w2 : (Cond.static y).before a0 Z = true) (wz : (Cond.initialized y.cls).before a0 Z = true) (wc : (Cond.code y bytes maxL ret).before a0 Z = true) (hy : y.cls ≠ "java/lang/invoke/MethodHandle" ∧ y.cls ≠ "java/lang/invoke/VarHandle")
    (hpd : parseMethodDescriptor y.desc = some ⟨ps, r⟩) (hlen : argsL.length = ps.length) (M : Met l Z n0 y bytes maxL ret rm argsL.toArray h Q) (hsz : Ls.size = c.maxLocals) (hstk : st = argsL.reverse ++ rest) (hf : rm.frames + 1 ≤ R.frames) (hl : (rest.map fun v => v.category).sum + (maxL + 11) + rm.locals ≤ R.locals) (hd : decode c.code pc = .ok (.invokestatic index, 3)) (hc : k + rm.cells ≤ R.cells) (hs : n + rm.slots ≤ R.slots)
    (G : ∀ T h' v, Std p l e R s m args below meth c Z own n0 T h' (k + rm.cells) (n + rm.slots) → Q v h' → Goes p e below s n0 C S P T (mkF m (pc + 3) Ls (v.toList ++ rest))) : Goes p e below s n0 C S P T (mkF m pc Ls st) := by
  obtain ⟨vm0, ⟨L0, X, N⟩, eT, hx, hZ, hown, hB, r⟩ := X
  subst eT
  obtain ⟨v, vm1, T1, L2, X1, hB1, hZ1, hown1, N2, hQ, st1⟩ := Bk.callS X hx hB hZ hown w1 w2 wz wc hy hpd hlen M hsz hstk hf hl hd hc hs
  exact Goes.by st1 (G T1 _ v ⟨vm1, ⟨_, X1, Fr.app N N2⟩, rfl, hx, hZ1, hown1, hB1, r⟩ hQ)
theorem Std.callSN (X : Std p l e R s m args below meth c Z own n0 T h k n) {index : Nat} {y : MethodName} {bytes : ByteArray} {maxL : Nat} {ret : Option FieldType} {rm : Room} {argsL : List Value} {Q : Option Value → Heap → Prop} {ps : List FieldType} {r : Option FieldType} {host : String} (w1 : (Cond.methodLinkNest own index y host).before a0 Z = true) (w2 : (Cond.static y).before a0 Z = true) (wz : (Cond.initialized y.cls).before a0 Z = true) (wc : (Cond.code y bytes maxL ret).before a0 Z = true) (hy : y.cls ≠ "java/lang/invoke/MethodHandle" ∧ y.cls ≠ "java/lang/invoke/VarHandle")
    (hpd : parseMethodDescriptor y.desc = some ⟨ps, r⟩) (hlen : argsL.length = ps.length) (M : Met l Z n0 y bytes maxL ret rm argsL.toArray h Q) (hsz : Ls.size = c.maxLocals) (hstk : st = argsL.reverse ++ rest) (hf : rm.frames + 1 ≤ R.frames) (hl : (rest.map fun v => v.category).sum + (maxL + 11) + rm.locals ≤ R.locals) (hd : decode c.code pc = .ok (.invokestatic index, 3)) (hc : k + rm.cells ≤ R.cells) (hs : n + rm.slots ≤ R.slots)
    (G : ∀ T h' v, Std p l e R s m args below meth c Z own n0 T h' (k + rm.cells) (n + rm.slots) → Q v h' → Goes p e below s n0 C S P T (mkF m (pc + 3) Ls (v.toList ++ rest))) : Goes p e below s n0 C S P T (mkF m pc Ls st) := by
  obtain ⟨vm0, ⟨L0, X, N⟩, eT, hx, hZ, hown, hB, r⟩ := X
  subst eT
  obtain ⟨v, vm1, T1, L2, X1, hB1, hZ1, hown1, N2, hQ, st1⟩ := Bk.callSN X hx hB hZ hown w1 w2 wz wc hy hpd hlen M hsz hstk hf hl hd hc hs
  exact Goes.by st1 (G T1 _ v ⟨vm1, ⟨_, X1, Fr.app N N2⟩, rfl, hx, hZ1, hown1, hB1, r⟩ hQ)
theorem Std.callV (X : Std p l e R s m args below meth c Z own n0 T h k n) {index : Nat} {y : MethodName} {bytes : ByteArray} {maxL : Nat} {ret : Option FieldType} {rm : Room} {argsL : List Value} {Q : Option Value → Heap → Prop} {ps : List FieldType} {r : Option FieldType} {z : MethodName} {K : String} {b : Addr} (E : Exa Z h b K) (w1 : (Cond.methodLink own index y).before a0 Z = true) (w2 : (Cond.declares y).before a0 Z = true) (w3 : (Cond.selects K y z).before a0 Z = true) {D : String} {x' z' : MethodName} (w5 : (Cond.selects D x' z').before a0 Z = true) (h5 : z'.cls = y.cls) (w4 : (Cond.instanceMethod z).before a0 Z = true) (wz : (Cond.initialized z.cls).before a0 Z = true) (wc : (Cond.code z bytes maxL ret).before a0 Z = true) (hy : y.cls ≠ "java/lang/invoke/MethodHandle" ∧ y.cls ≠ "java/lang/invoke/VarHandle")
    (hpd : parseMethodDescriptor y.desc = some ⟨ps, r⟩) (hlen : argsL.length = ps.length) (M : Met l Z n0 z bytes maxL ret rm (.ref b :: argsL).toArray h Q) (hsz : Ls.size = c.maxLocals) (hstk : st = argsL.reverse ++ .ref b :: rest) (hf : rm.frames + 1 ≤ R.frames) (hl : (rest.map fun v => v.category).sum + (maxL + 11) + rm.locals ≤ R.locals) (hd : decode c.code pc = .ok (.invokevirtual index, 3)) (hc : k + rm.cells ≤ R.cells) (hs : n + rm.slots ≤ R.slots)
    (G : ∀ T h' v, Std p l e R s m args below meth c Z own n0 T h' (k + rm.cells) (n + rm.slots) → Q v h' → Goes p e below s n0 C S P T (mkF m (pc + 3) Ls (v.toList ++ rest))) : Goes p e below s n0 C S P T (mkF m pc Ls st) := by
  obtain ⟨vm0, ⟨L0, X, N⟩, eT, hx, hZ, hown, hB, r⟩ := X
  subst eT
  obtain ⟨v, vm1, T1, L2, X1, hB1, hZ1, hown1, N2, hQ, st1⟩ := Bk.callV X hx hB hZ hown E w1 w2 w3 w5 h5 w4 wz wc hy hpd hlen M hsz hstk hf hl hd hc hs
  exact Goes.by st1 (G T1 _ v ⟨vm1, ⟨_, X1, Fr.app N N2⟩, rfl, hx, hZ1, hown1, hB1, r⟩ hQ)
theorem Std.callU (X : Std p l e R s m args below meth c Z own n0 T h k n) {index : Nat} {y : MethodName} {bytes : ByteArray} {maxL : Nat} {ret : Option FieldType} {rm : Room} {argsL : List Value} {Q : Option Value → Heap → Prop} {ps : List FieldType} {r : Option FieldType} {z : MethodName} {owner K : String} {b : Addr} (E : Exa Z h b K) (w1 : (Cond.methodLink own index y).before a0 Z = true) (wsm : (Cond.sameMethod y.cls owner y.name y.desc).before a0 Z = true) (w2 : (Cond.declares ⟨owner, y.name, y.desc⟩).before a0 Z = true) (ho : owner ≠ "java/lang/invoke/MethodHandle" ∧ owner ≠ "java/lang/invoke/VarHandle") (w3 : (Cond.selects K y z).before a0 Z = true) (w4 : (Cond.instanceMethod z).before a0 Z = true) (wz : (Cond.initialized z.cls).before a0 Z = true) (wc : (Cond.code z bytes maxL ret).before a0 Z = true)
    (hpd : parseMethodDescriptor y.desc = some ⟨ps, r⟩) (hlen : argsL.length = ps.length) (M : Met l Z n0 z bytes maxL ret rm (.ref b :: argsL).toArray h Q) (hsz : Ls.size = c.maxLocals) (hstk : st = argsL.reverse ++ .ref b :: rest) (hf : rm.frames + 1 ≤ R.frames) (hl : (rest.map fun v => v.category).sum + (maxL + 11) + rm.locals ≤ R.locals) (hd : decode c.code pc = .ok (.invokevirtual index, 3)) (hc : k + rm.cells ≤ R.cells) (hs : n + rm.slots ≤ R.slots)
    (G : ∀ T h' v, Std p l e R s m args below meth c Z own n0 T h' (k + rm.cells) (n + rm.slots) → Q v h' → Goes p e below s n0 C S P T (mkF m (pc + 3) Ls (v.toList ++ rest))) : Goes p e below s n0 C S P T (mkF m pc Ls st) := by
  obtain ⟨vm0, ⟨L0, X, N⟩, eT, hx, hZ, hown, hB, r⟩ := X
  subst eT
  obtain ⟨v, vm1, T1, L2, X1, hB1, hZ1, hown1, N2, hQ, st1⟩ := Bk.callU X hx hB hZ hown E w1 wsm w2 ho w3 w4 wz wc hpd hlen M hsz hstk hf hl hd hc hs
  exact Goes.by st1 (G T1 _ v ⟨vm1, ⟨_, X1, Fr.app N N2⟩, rfl, hx, hZ1, hown1, hB1, r⟩ hQ)
theorem Std.callN (X : Std p l e R s m args below meth c Z own n0 T h k n) {index : Nat} {y : MethodName} {bytes : ByteArray} {maxL : Nat} {rm : Room} {argsL : List Value} {Q : Option Value → Heap → Prop} {ps : List FieldType} {r : Option FieldType} {b : Addr} (hin : y.name = "<init>") (w1 : (Cond.methodLink own index y).before a0 Z = true) (w4 : (Cond.instanceMethod y).before a0 Z = true) (wz : (Cond.initialized y.cls).before a0 Z = true) (wc : (Cond.code y bytes maxL none).before a0 Z = true) (hy : y.cls ≠ "java/lang/invoke/MethodHandle" ∧ y.cls ≠ "java/lang/invoke/VarHandle")
    (hpd : parseMethodDescriptor y.desc = some ⟨ps, r⟩) (hlen : argsL.length = ps.length) (M : Met l Z n0 y bytes maxL none rm (.ref b :: argsL).toArray h Q) (hsz : Ls.size = c.maxLocals) (hstk : st = argsL.reverse ++ .ref b :: rest) (hf : rm.frames + 1 ≤ R.frames) (hl : (rest.map fun v => v.category).sum + (maxL + 11) + rm.locals ≤ R.locals) (hd : decode c.code pc = .ok (.invokespecial index, 3)) (hc : k + rm.cells ≤ R.cells) (hs : n + rm.slots ≤ R.slots)
    (G : ∀ T h' v, Std p l e R s m args below meth c Z own n0 T h' (k + rm.cells) (n + rm.slots) → Q v h' → Goes p e below s n0 C S P T (mkF m (pc + 3) Ls (v.toList ++ rest))) : Goes p e below s n0 C S P T (mkF m pc Ls st) := by
  obtain ⟨vm0, ⟨L0, X, N⟩, eT, hx, hZ, hown, hB, r⟩ := X
  subst eT
  obtain ⟨v, vm1, T1, L2, X1, hB1, hZ1, hown1, N2, hQ, st1⟩ := Bk.callN X hx hB hZ hown hin w1 w4 wz wc hy hpd hlen M hsz hstk hf hl hd hc hs
  exact Goes.by st1 (G T1 _ v ⟨vm1, ⟨_, X1, Fr.app N N2⟩, rfl, hx, hZ1, hown1, hB1, r⟩ hQ)
theorem fldEq {args : Array Value} {s : State} {t : Term} {a : Addr} {C n d : String} {k : Int32} (ht : t.eval args s none [] s = some (.ref a)) (h : (Jvm.Cond.eq (.field t C n d) (.int k)).value args s none s [] = some true) : Fld s s.heap a C n d (.int k) := by
  obtain ⟨x, y, ex, ey, kx, ky⟩ := cmp_v (Or.inl h)
  have hy : y = .int k := Option.some.inj (ey.symm.trans (Term.int_eval k))
  subst hy
  obtain ⟨z, rfl⟩ : ∃ z, x = .int z := ky
  have q := gotT (Cond.eq_ints ex (Term.int_eval k)) h
  subst q
  exact Fld.start ((fld_at ht).symm.trans ex)
theorem fldEqS {args : Array Value} {s : State} {t u : Term} {a b : Addr} {C n d : String} (ht : t.eval args s none [] s = some (.ref a)) (hu : u.eval args s none [] s = some (.ref b)) (h : (Jvm.Cond.eq (.field t C n d) u).value args s none s [] = some true) : Fld s s.heap a C n d (.ref b) := by
  obtain ⟨x, y, ex, ey, kx, ky⟩ := cmp_v (Or.inl h)
  have hy : y = .ref b := Option.some.inj (ey.symm.trans hu)
  subst hy
  have hx : x.isRef = true := (show (Value.ref b).isRef = true ∧ x.isRef = true from ky).2
  have q := gotT (eq_R ex hu hx rfl) h
  subst q
  exact Fld.start ((fld_at ht).symm.trans ex)
theorem staEq {args : Array Value} {s : State} {C n d : String} {k : Int32} (h : (Jvm.Cond.eq (.static C n d) (.int k)).value args s none s [] = some true) (hi : (Jvm.Cond.initializedFor C n d).before args s = true ∨ ((Jvm.Cond.initialized C).before args s = true ∧ (Jvm.Cond.laysStatic C n d).before args s = true)) : Sta s s.heap C n d (.int k) := by
  obtain ⟨x, y, ex, ey, kx, ky⟩ := cmp_v (Or.inl h)
  have hy : y = .int k := Option.some.inj (ey.symm.trans (Term.int_eval k))
  subst hy
  obtain ⟨z, rfl⟩ : ∃ z, x = .int z := ky
  have q := gotT (Cond.eq_ints ex (Term.int_eval k)) h
  subst q
  exact Sta.start ex hi
/-- the law's masks -/
theorem maskR (x n : Int32) (N : Int) (hn : n.toInt = N) (hp : 0 < N) : 0 ≤ ((x &&& 2147483647) % n).toInt ∧ ((x &&& 2147483647) % n).toInt < N := by
  have h1 := (c_and x 2147483647 (by decide)).1
  have h2 := (c_irem (x &&& 2147483647) n N hn).1 h1
  rw [h2]
  exact ⟨Int.emod_nonneg _ (by omega), Int.emod_lt_of_pos _ hp⟩
theorem i32_eq {x y : Int32} (h : x.toInt = y.toInt) : x = y := Int32.toInt_inj.mp h
theorem Sta.keep' {C nm d : String} {v : Value} {ws : List Addr} (F : Sta Z h C nm d v) (K : Keep h h' ws) (q : ∀ x ∈ ws, ∃ D, Exa Z h x D) : Sta Z h' C nm d v := by
  obtain ⟨cf, i, k, f, st, cell, h1, h2, h3, h4, h5, h6, h7⟩ := F
  refine ⟨cf, i, k, f, st, cell, h1, h2, h3, h4, K.2.1 st cell h5 fun r => ?_, h6, h7⟩
  obtain ⟨D, c2, _, e1, -, -, e4, -⟩ := q st r
  cases h5.symm.trans e1
  rw [h6] at e4
  cases e4
theorem leB {a b : Nat} (h : Nat.ble a b = true) : a ≤ b := Nat.le_of_ble_eq_true h
theorem addI {x y : Int32} (h1 : -2147483648 ≤ x.toInt + y.toInt) (h2 : x.toInt + y.toInt < 2147483648) : (x + y).toInt = x.toInt + y.toInt := by
  have q1 := c_iadd x y
  have q2 := rng32 (x + y)
  omega
theorem subI {x y : Int32} (h1 : -2147483648 ≤ x.toInt - y.toInt) (h2 : x.toInt - y.toInt < 2147483648) : (x - y).toInt = x.toInt - y.toInt := by
  have q1 := c_isub x y
  have q2 := rng32 (x - y)
  omega
def cI (x : Int32) : Int32 := x
theorem ltI {x y : Int32} : x < y ↔ x.toInt < y.toInt := Int32.lt_iff_toInt_lt
theorem eqI {x y : Int32} : x = y ↔ x.toInt = y.toInt := Int32.toInt_inj.symm
end OwnKit
section OwnArr
variable {p : Program} {l : Launch} {e : Env} {R : Room} {s : State} {m : MethodId} {args : Array Value} {below : List Frame} {meth : Method} {c : Code} {T T' : State} {Z : State} {own : String} {h h' : Heap} {n0 k n C S : Nat} {a0 : Array Value} {P : Option Value → Heap → Prop} {g g' : JFrame} {pc : Nat} {Ls : Array Slot} {st rest : List Value}
/-- an array of N values -/
def PArr (Z : State) (h : Heap) (a : Addr) (ty : FieldType) (N : Nat) (f : Nat → Value) : Prop := ∃ c : Cell, Arr Z h a c ty ∧ c.slots.size = N ∧ N < 2 ^ 31 ∧ ∀ i, i < N → c.slots[i]? = some (f i)
variable {a b : Addr} {ty : FieldType} {N sl : Nat} {f : Nat → Value} {v : Value} {ws : List Addr}
theorem PArr.lt (F : PArr Z h a ty N f) : a < h.size := by obtain ⟨c, A, -⟩ := F; exact A.lt
theorem PArr.ext (F : PArr Z h a ty N f) (E : Ext h h') : PArr Z h' a ty N f := by obtain ⟨c, A, r⟩ := F; exact ⟨c, A.ext E, r⟩
theorem PArr.other (F : PArr Z h b ty N f) (W : Wr h h' a sl v) (q : b ≠ a) : PArr Z h' b ty N f := by obtain ⟨c, A, r⟩ := F; exact ⟨c, A.other W q, r⟩
theorem PArr.keep (F : PArr Z h a ty N f) (K : Keep h h' ws) (q : a ∉ ws) : PArr Z h' a ty N f := by obtain ⟨c, A, r⟩ := F; exact ⟨c, ⟨K.2.1 a c A.1 q, A.2⟩, r⟩
theorem PArr.congr {f' : Nat → Value} (F : PArr Z h a ty N f) (q : ∀ i, i < N → f i = f' i) : PArr Z h a ty N f' := by obtain ⟨c, A, r1, r2, r3⟩ := F; exact ⟨c, A, r1, r2, fun i hi => by rw [← q i hi]; exact r3 i hi⟩
theorem PArr.small (F : PArr Z h a ty N f) : N < 2 ^ 31 := by obtain ⟨c, A, r1, r2, r3⟩ := F; exact r2
theorem PArr.set (F : PArr Z h a ty N f) (W : Wr h h' a sl v) : PArr Z h' a ty N (fun i => if i = sl then v else f i) := by
  obtain ⟨c, A, r1, r2, r3⟩ := F
  obtain ⟨cell, q1, q2, q3, q4⟩ := id W
  cases q1.symm.trans A.1
  refine ⟨_, A.same W, by rw [sz_set]; exact r1, r2, fun i hi => ?_⟩
  show (c.slots.setIfInBounds sl v)[i]? = some (if i = sl then v else f i)
  by_cases e : i = sl
  · subst e
    rw [if_pos rfl]
    simp [q3]
  · rw [if_neg e, Array.getElem?_setIfInBounds_ne (Ne.symm e)]
    exact r3 i hi
theorem idxN {j : Int32} {i : Nat} (hj : j.toInt = i) : j.toNatClampNeg = i ∧ ¬ j < 0 := by
  constructor
  · show j.toInt.toNat = i
    omega
  · rw [Int32.lt_iff_toInt_lt]
    show ¬ j.toInt < 0
    omega
theorem idxI {c : Cell} {j : Int32} {i : Nat} (hs : c.slots.size = N) (hj : j.toInt = i) (hi : i < N) : ¬ (j < 0 ∨ c.slots.size ≤ j.toNatClampNeg) := by
  rw [(idxN hj).1, hs]
  rintro (q | q)
  · exact (idxN hj).2 q
  · omega
theorem Std.iaload (X : Std p l e R s m args below meth c Z own n0 T h k n) (F : PArr Z h a .int N f) {j : Int32} {i : Nat} (hj : j.toInt = i) (hi : i < N) (hd : decode c.code pc = .ok (.iaload, 1)) (G : Goes p e below s n0 C S P T (mkF m (pc + 1) Ls (f i :: rest))) : Goes p e below s n0 C S P T (mkF m pc Ls (.int j :: .ref a :: rest)) := by
  obtain ⟨vm0, ⟨L, X, -⟩, eT, hx, hZ, -⟩ := X
  obtain ⟨cl, A, r1, r2, r3⟩ := F
  exact Goes.by (fun t q => X.iaload hx (g := mkF m pc Ls (.int j :: .ref a :: rest)) (by rw [eT]; exact A.1) (State.isArrayOf_alike hZ.alike A.2.1) A.2.2 (idxI r1 hj hi) (v := f i) (by rw [(idxN hj).1]; exact r3 i hi) rfl rfl hd t q) G
theorem Std.laload (X : Std p l e R s m args below meth c Z own n0 T h k n) (F : PArr Z h a .long N f) {j : Int32} {i : Nat} (hj : j.toInt = i) (hi : i < N) (hd : decode c.code pc = .ok (.laload, 1)) (G : Goes p e below s n0 C S P T (mkF m (pc + 1) Ls (f i :: rest))) : Goes p e below s n0 C S P T (mkF m pc Ls (.int j :: .ref a :: rest)) := by
  obtain ⟨vm0, ⟨L, X, -⟩, eT, hx, hZ, -⟩ := X
  obtain ⟨cl, A, r1, r2, r3⟩ := F
  exact Goes.by (fun t q => X.laload hx (g := mkF m pc Ls (.int j :: .ref a :: rest)) (by rw [eT]; exact A.1) (State.isArrayOf_alike hZ.alike A.2.1) A.2.2 (idxI r1 hj hi) (v := f i) (by rw [(idxN hj).1]; exact r3 i hi) rfl rfl hd t q) G
theorem Std.baloadB (X : Std p l e R s m args below meth c Z own n0 T h k n) (F : PArr Z h a .byte N f) {j : Int32} {i : Nat} (hj : j.toInt = i) (hi : i < N) (hd : decode c.code pc = .ok (.baload, 1)) (G : Goes p e below s n0 C S P T (mkF m (pc + 1) Ls (f i :: rest))) : Goes p e below s n0 C S P T (mkF m pc Ls (.int j :: .ref a :: rest)) := by
  obtain ⟨vm0, ⟨L, X, -⟩, eT, hx, hZ, -⟩ := X
  obtain ⟨cl, A, r1, r2, r3⟩ := F
  exact Goes.by (fun t q => X.baloadBytes hx (g := mkF m pc Ls (.int j :: .ref a :: rest)) (by rw [eT]; exact A.1) (State.isArrayOf_alike hZ.alike A.2.1) A.2.2 (idxI r1 hj hi) (v := f i) (by rw [(idxN hj).1]; exact r3 i hi) rfl rfl hd t q) G
theorem Std.baloadZ (X : Std p l e R s m args below meth c Z own n0 T h k n) (F : PArr Z h a .boolean N f) {j : Int32} {i : Nat} (hj : j.toInt = i) (hi : i < N) (hd : decode c.code pc = .ok (.baload, 1)) (G : Goes p e below s n0 C S P T (mkF m (pc + 1) Ls (f i :: rest))) : Goes p e below s n0 C S P T (mkF m pc Ls (.int j :: .ref a :: rest)) := by
  obtain ⟨vm0, ⟨L, X, -⟩, eT, hx, hZ, -⟩ := X
  obtain ⟨cl, A, r1, r2, r3⟩ := F
  exact Goes.by (fun t q => X.baloadBooleans hx (g := mkF m pc Ls (.int j :: .ref a :: rest)) (by rw [eT]; exact A.1) (State.isArrayOf_alike hZ.alike A.2.1) A.2.2 (idxI r1 hj hi) (v := f i) (by rw [(idxN hj).1]; exact r3 i hi) rfl rfl hd t q) G
theorem Std.alen (X : Std p l e R s m args below meth c Z own n0 T h k n) (F : PArr Z h a ty N f) {z : Int32} (hz : z.toInt = N) (hd : decode c.code pc = .ok (.arraylength, 1)) (G : Goes p e below s n0 C S P T (mkF m (pc + 1) Ls (.int z :: rest))) : Goes p e below s n0 C S P T (mkF m pc Ls (.ref a :: rest)) := by
  obtain ⟨vm0, ⟨L, X, -⟩, eT, hx, hZ, -⟩ := X
  obtain ⟨cl, A, r1, r2, r3⟩ := F
  have q : cl.slots.size.toInt32 = z := Int32.toInt_inj.mp (by rw [r1, hz]; exact len_toInt r2)
  refine Goes.by (fun t q => X.arraylength hx (g := mkF m pc Ls (.ref a :: rest)) (by rw [eT]; exact A.1) (State.isArrayOf_alike hZ.alike A.2.1) rfl rfl hd t q) ?_
  rw [q]
  exact G
theorem Std.iastore (X : Std p l e R s m args below meth c Z own n0 T h k n) (F : PArr Z h a .int N f) {j x : Int32} {i : Nat} (hj : j.toInt = i) (hi : i < N) (ha : n0 ≤ a) (hd : decode c.code pc = .ok (.iastore, 1))
    (G : ∀ T h', Std p l e R s m args below meth c Z own n0 T h' k n → Wr h h' a i (.int x) → Goes p e below s n0 C S P T (mkF m (pc + 1) Ls rest)) : Goes p e below s n0 C S P T (mkF m pc Ls (.int x :: .int j :: .ref a :: rest)) := by
  obtain ⟨vm0, ⟨L, X, M⟩, eT, hx, hZ, hown, hB, r⟩ := X
  obtain ⟨cl, A, r1, r2, r3⟩ := F
  obtain ⟨T1, h1, X1, e1, W1, st1⟩ := stI X hx hZ eT A (x := x) (idxI r1 hj hi) (g := mkF m pc Ls (.int x :: .int j :: .ref a :: rest)) rfl rfl hd
  refine Goes.by st1 (G T1 h1 ⟨vm0, ⟨_, X1, Fr.snoc X1 M ha⟩, e1, hx, hZ, hown, hB.mono (Nat.le_of_eq W1.size.symm), r⟩ ?_)
  rw [← (idxN hj).1]
  exact W1
theorem Std.bastoreB (X : Std p l e R s m args below meth c Z own n0 T h k n) (F : PArr Z h a .byte N f) {j x : Int32} {i : Nat} (hj : j.toInt = i) (hi : i < N) (ha : n0 ≤ a) (hd : decode c.code pc = .ok (.bastore, 1))
    (G : ∀ T h', Std p l e R s m args below meth c Z own n0 T h' k n → Wr h h' a i (.int (nar .byte x)) → Goes p e below s n0 C S P T (mkF m (pc + 1) Ls rest)) : Goes p e below s n0 C S P T (mkF m pc Ls (.int x :: .int j :: .ref a :: rest)) := by
  obtain ⟨vm0, ⟨L, X, M⟩, eT, hx, hZ, hown, hB, r⟩ := X
  obtain ⟨cl, A, r1, r2, r3⟩ := F
  obtain ⟨T1, h1, X1, e1, W1, st1⟩ := stB X hx hZ eT A (x := x) (idxI r1 hj hi) (g := mkF m pc Ls (.int x :: .int j :: .ref a :: rest)) rfl rfl hd
  refine Goes.by st1 (G T1 h1 ⟨vm0, ⟨_, X1, Fr.snoc X1 M ha⟩, e1, hx, hZ, hown, hB.mono (Nat.le_of_eq W1.size.symm), r⟩ ?_)
  rw [← (idxN hj).1]
  exact W1
theorem Std.bastoreZ (X : Std p l e R s m args below meth c Z own n0 T h k n) (F : PArr Z h a .boolean N f) {j x : Int32} {i : Nat} (hj : j.toInt = i) (hi : i < N) (ha : n0 ≤ a) (hd : decode c.code pc = .ok (.bastore, 1))
    (G : ∀ T h', Std p l e R s m args below meth c Z own n0 T h' k n → Wr h h' a i (.int (nar .boolean x)) → Goes p e below s n0 C S P T (mkF m (pc + 1) Ls rest)) : Goes p e below s n0 C S P T (mkF m pc Ls (.int x :: .int j :: .ref a :: rest)) := by
  obtain ⟨vm0, ⟨L, X, M⟩, eT, hx, hZ, hown, hB, r⟩ := X
  obtain ⟨cl, A, r1, r2, r3⟩ := F
  obtain ⟨T1, h1, X1, e1, W1, st1⟩ := stZ X hx hZ eT A (x := x) (idxI r1 hj hi) (g := mkF m pc Ls (.int x :: .int j :: .ref a :: rest)) rfl rfl hd
  refine Goes.by st1 (G T1 h1 ⟨vm0, ⟨_, X1, Fr.snoc X1 M ha⟩, e1, hx, hZ, hown, hB.mono (Nat.le_of_eq W1.size.symm), r⟩ ?_)
  rw [← (idxN hj).1]
  exact W1
theorem Std.newA (X : Std p l e R s m args below meth c Z own n0 T h k n) {aty : ArrayType} {ad : String} (had : "[" ++ (newarray.typeOf aty).toString = ad) (w : (Cond.arrayClass (newarray.typeOf aty)).before a0 Z = true) (hd : decode c.code pc = .ok (.newarray aty, 2)) {z : Int32} (hz : z.toInt = N) {cap : Nat} (hcap : N ≤ cap) (hb : cap * 8 ≤ 536870912) (hc : k + 1 ≤ R.cells) (hl : n + cap ≤ R.slots)
    (G : ∀ T h' a, Std p l e R s m args below meth c Z own n0 T h' (k + 1) (n + cap) → a = h.size → n0 ≤ a → Ext h h' → Exa Z h' a ad → PArr Z h' a (newarray.typeOf aty) N (fun _ => defaultValue (newarray.typeOf aty)) → Goes p e below s n0 C S P T (mkF m (pc + 2) Ls (.ref a :: rest))) : Goes p e below s n0 C S P T (mkF m pc Ls (.int z :: rest)) := by
  have q := X.n0le
  obtain ⟨vm0, ⟨L0, X, M⟩, eT, hx, hZ, hown, hB, r⟩ := X
  obtain ⟨T1, h1, cA, X1, e1, E1, A1, B1, st1⟩ := newPE X hx hZ w eT (g := mkF m pc Ls (.int z :: rest)) rfl hd rfl (idxN hz).2 (cap := cap) (by rw [(idxN hz).1]; exact hcap) hb hc hl had
  have hN : N < 2 ^ 31 := by have := Int32.toInt_lt z; omega
  refine Goes.by st1 (G T1 h1 h.size ⟨vm0, ⟨_, X1, M⟩, e1, hx, hZ, hown, hB.mono E1.1, r⟩ rfl q E1 B1 ⟨_, A1, by rw [sz_new]; exact (idxN hz).1, hN, fun i hi => ?_⟩)
  show (Array.replicate z.toNatClampNeg _)[i]? = _
  rw [(idxN hz).1]
  simp [hi]
end OwnArr
section OwnMore
variable {p : Program} {l : Launch} {e : Env} {R : Room} {s : State} {m : MethodId} {args : Array Value} {below : List Frame} {meth : Method} {c : Code} {T T' : State} {Z : State} {own : String} {h h' : Heap} {n0 k n C S : Nat} {a0 : Array Value} {P : Option Value → Heap → Prop} {g g' : JFrame} {pc : Nat} {Ls : Array Slot} {st rest : List Value} {a b : Addr} {ty : FieldType} {N sl : Nat} {f : Nat → Value} {v : Value} {ws : List Addr}
theorem Std.castY (X : Std p l e R s m args below meth c Z own n0 T h k n) {index : Nat} {K : String} (w : (Cond.classLink own index K).before a0 Z = true) (F : Ins Z h a K true) (hd : decode c.code pc = .ok (.checkcast index, 3))
    (G : ∀ T, Std p l e R s m args below meth c Z own n0 T h k n → Goes p e below s n0 C S P T (mkF m (pc + 3) Ls (.ref a :: rest))) : Goes p e below s n0 C S P T (mkF m pc Ls (.ref a :: rest)) := by
  obtain ⟨vm0, ⟨L, X, M⟩, eT, hx, hZ, hown, hB, r⟩ := X
  obtain ⟨T1, X1, e1, st1⟩ := Jvm.RoadKit.castY X hx hZ hown w eT F (g := mkF m pc Ls (.ref a :: rest)) rfl rfl hd
  exact Goes.by st1 (G T1 ⟨vm0, ⟨L, X1, M⟩, e1, hx, hZ, hown, hB, r⟩)
theorem Std.instY (X : Std p l e R s m args below meth c Z own n0 T h k n) {index : Nat} {K : String} (w : (Cond.classLink own index K).before a0 Z = true) (F : Ins Z h a K true) (hd : decode c.code pc = .ok (.instanceof index, 3))
    (G : ∀ T, Std p l e R s m args below meth c Z own n0 T h k n → Goes p e below s n0 C S P T (mkF m (pc + 3) Ls (.int 1 :: rest))) : Goes p e below s n0 C S P T (mkF m pc Ls (.ref a :: rest)) := by
  obtain ⟨vm0, ⟨L, X, M⟩, eT, hx, hZ, hown, hB, r⟩ := X
  obtain ⟨T1, X1, e1, st1⟩ := Jvm.RoadKit.instY X hx hZ hown w eT F (g := mkF m pc Ls (.ref a :: rest)) rfl rfl hd
  exact Goes.by st1 (G T1 ⟨vm0, ⟨L, X1, M⟩, e1, hx, hZ, hown, hB, r⟩)
theorem Std.more (X : Std p l e R s m args below meth c Z own n0 T h k n) {k' n' : Nat} (hk : k ≤ k') (hn : n ≤ n') : Std p l e R s m args below meth c Z own n0 T h k' n' := by
  obtain ⟨vm0, ⟨L, X, M⟩, r⟩ := X
  exact ⟨vm0, ⟨L, X.more hk hn, M⟩, r⟩
theorem Std.clone (X : Std p l e R s m args below meth c Z own n0 T h k n) {ad : String} {index : Nat} (w1 : (Cond.methodLink own index ⟨ad, "clone", "()Ljava/lang/Object;"⟩).before a0 Z = true) (w2 : (Cond.sameMethod ad "java/lang/Object" "clone" "()Ljava/lang/Object;").before a0 Z = true) (w3 : (Cond.native ⟨"java/lang/Object", "clone", "()Ljava/lang/Object;"⟩).before a0 Z = true)
    (w4 : (Cond.instanceMethod ⟨"java/lang/Object", "clone", "()Ljava/lang/Object;"⟩).before a0 Z = true) (w5 : (Cond.selects ad ⟨ad, "clone", "()Ljava/lang/Object;"⟩ ⟨"java/lang/Object", "clone", "()Ljava/lang/Object;"⟩).before a0 Z = true) (w6 : (Cond.castable ad "java/lang/Cloneable").before a0 Z = true)
    (F : PArr Z h a ty N f) (hfit : ∀ i, i < N → fits ty (f i) = true) (E : Exa Z h a ad) (hsz : Ls.size = c.maxLocals) (hd : decode c.code pc = .ok (.invokevirtual index, 3)) (hf : 1 ≤ R.frames) (hl : (rest.map fun v => v.category).sum + 14 ≤ R.locals) {cap : Nat} (hcap : N ≤ cap) (hc : k + 1 ≤ R.cells) (hs : n + cap ≤ R.slots)
    (G : ∀ T h' b, Std p l e R s m args below meth c Z own n0 T h' (k + 1) (n + cap) → b = h.size → n0 ≤ b → Ext h h' → Exa Z h' b ad → PArr Z h' b ty N f → Goes p e below s n0 C S P T (mkF m (pc + 3) Ls (.ref b :: rest))) : Goes p e below s n0 C S P T (mkF m pc Ls (.ref a :: rest)) := by
  have q := X.n0le
  obtain ⟨vm0, ⟨L, X, M⟩, eT, hx, hZ, hown, hB, r⟩ := X
  obtain ⟨cl, A, r1, r2, r3⟩ := F
  have FC : FitC Z cl := fitC_of A fun i hi v hv => by rw [r1] at hi; rw [r3 i hi] at hv; cases hv; exact hfit i hi
  obtain ⟨T1, h1, X1, e1, E1, A1, B1, st1⟩ := cloneA X hx hZ hown w1 w2 w3 w4 w5 w6 eT A E FC (g := mkF m pc Ls (.ref a :: rest)) rfl hsz rfl hd hf (W := (rest.map fun v => v.category).sum) (cap := cap) (by show 2 * 0 + _ ≤ _; omega) hl (by rw [r1]; exact hcap) hc hs
  exact Goes.by st1 (G T1 h1 h.size ⟨vm0, ⟨_, X1, M⟩, e1, hx, hZ, hown, hB.mono E1.1, r⟩ rfl q E1 B1 ⟨cloneOf cl, A1, r1, r2, r3⟩)
theorem Std.grid (X : Std p l e R s m args below meth c Z own n0 T h k n) {K ad : String} {index : Nat} (hC : (FieldType.array ty).toString = K) (had : "[" ++ K = ad) (w1 : (Cond.classLink own index ad).before a0 Z = true) (w2 : (Cond.arrayOver (.array ty)).before a0 Z = true) (w3 : (Cond.arrayClass ty).before a0 Z = true) (hd : decode c.code pc = .ok (.multianewarray index 2, 4)) {z y : Int32} {Y : Nat} (hz : z.toInt = N) (hy : y.toInt = Y) {capN cap : Nat} (hcN : N ≤ capN) (hcap : Y ≤ cap) (hb : cap * 8 ≤ 536870912) (hb1 : capN ≤ 1000) (hdf : fits ty (defaultValue ty) = true) (hdd : (defaultValue ty).isDefault = true) (hc : k + (1 + capN) ≤ R.cells) (hl : n + (capN + capN * cap) ≤ R.slots)
    (G : ∀ T h' b, Std p l e R s m args below meth c Z own n0 T h' (k + (1 + capN)) (n + (capN + capN * cap)) → b = h.size → n0 ≤ b → Ext h h' → Exa Z h' b ad → Goes p e below s n0 C S P T (mkF m (pc + 4) Ls (.ref b :: rest))) : Goes p e below s n0 C S P T (mkF m pc Ls (.int y :: .int z :: rest)) := by
  have q := X.n0le
  have m1 : N * cap ≤ capN * cap := Nat.mul_le_mul_right _ hcN
  obtain ⟨vm0, ⟨L, X, M⟩, eT, hx, hZ, hown, hB, r⟩ := X
  obtain ⟨T1, h1, cA, comp, X1, e1, E1, A1, O1, B1, I1, st1⟩ := gridM X hx hZ hown hC had w1 w2 w3 eT (g := mkF m pc Ls (.int y :: .int z :: rest)) rfl hd rfl (idxN hz).2 (idxN hy).2 (N := N) (idxN hz).1 rfl (cap := cap) (by rw [(idxN hy).1]; exact hcap) hb (by omega) hdf hdd (by omega) (by omega)
  exact Goes.by st1 (G T1 h1 h.size ⟨vm0, ⟨_, X1.more (by omega) (by omega), M⟩, e1, hx, hZ, hown, hB.mono E1.1, r⟩ rfl q E1 B1)
end OwnMore
theorem pf_3 : plainFor (⟨"com/example/riskweave/riskweave/rare/LossSampler", "words", "(I)I"⟩ : MethodName) = true := by first | exact plainFor_of_name (by first | (simp [plainName, overriddenIn]; done) | decide +kernel) | decide +kernel
theorem d3_0 : decode prog_58_method_9_code 0 = .ok (.iload_n 0, 1) := by decide +kernel
theorem d3_1 : decode prog_58_method_9_code 1 = .ok (.bipush 64, 2) := by decide +kernel
theorem d3_3 : decode prog_58_method_9_code 3 = .ok (.iadd, 1) := by decide +kernel
theorem d3_4 : decode prog_58_method_9_code 4 = .ok (.iconst 1, 1) := by decide +kernel
theorem d3_5 : decode prog_58_method_9_code 5 = .ok (.isub, 1) := by decide +kernel
theorem d3_6 : decode prog_58_method_9_code 6 = .ok (.bipush 64, 2) := by decide +kernel
theorem d3_8 : decode prog_58_method_9_code 8 = .ok (.idiv, 1) := by decide +kernel
theorem d3_9 : decode prog_58_method_9_code 9 = .ok (.ireturn, 1) := by decide +kernel
theorem pf_4 : plainFor (⟨"java/lang/Math", "multiplyExact", "(II)I"⟩ : MethodName) = true := by first | exact plainFor_of_name (by first | (simp [plainName, overriddenIn]; done) | decide +kernel) | decide +kernel
theorem d4_0 : decode jdk_29_method_28_code 0 = .ok (.iload_n 0, 1) := by decide +kernel
theorem d4_1 : decode jdk_29_method_28_code 1 = .ok (.i2l, 1) := by decide +kernel
theorem d4_2 : decode jdk_29_method_28_code 2 = .ok (.iload_n 1, 1) := by decide +kernel
theorem d4_3 : decode jdk_29_method_28_code 3 = .ok (.i2l, 1) := by decide +kernel
theorem d4_4 : decode jdk_29_method_28_code 4 = .ok (.lmul, 1) := by decide +kernel
theorem d4_5 : decode jdk_29_method_28_code 5 = .ok (.lstore_n 2, 1) := by decide +kernel
theorem d4_6 : decode jdk_29_method_28_code 6 = .ok (.lload_n 2, 1) := by decide +kernel
theorem d4_7 : decode jdk_29_method_28_code 7 = .ok (.l2i, 1) := by decide +kernel
theorem d4_8 : decode jdk_29_method_28_code 8 = .ok (.i2l, 1) := by decide +kernel
theorem d4_9 : decode jdk_29_method_28_code 9 = .ok (.lload_n 2, 1) := by decide +kernel
theorem d4_10 : decode jdk_29_method_28_code 10 = .ok (.lcmp, 1) := by decide +kernel
theorem d4_11 : decode jdk_29_method_28_code 11 = .ok (.ifCond .eq 13, 3) := by decide +kernel
theorem d4_24 : decode jdk_29_method_28_code 24 = .ok (.lload_n 2, 1) := by decide +kernel
theorem d4_25 : decode jdk_29_method_28_code 25 = .ok (.l2i, 1) := by decide +kernel
theorem d4_26 : decode jdk_29_method_28_code 26 = .ok (.ireturn, 1) := by decide +kernel
theorem pf_1 : plainFor (⟨"com/example/riskweave/riskweave/rare/LossSampler$Draws", "<init>", "(III)V"⟩ : MethodName) = true := by first | exact plainFor_of_name (by first | (simp [plainName, overriddenIn]; done) | decide +kernel) | decide +kernel
theorem d1_0 : decode prog_60_method_1_code 0 = .ok (.aload_n 0, 1) := by decide +kernel
theorem d1_1 : decode prog_60_method_1_code 1 = .ok (.invokespecial 1, 3) := by decide +kernel
theorem d1_4 : decode prog_60_method_1_code 4 = .ok (.aload_n 0, 1) := by decide +kernel
theorem d1_5 : decode prog_60_method_1_code 5 = .ok (.iload_n 1, 1) := by decide +kernel
theorem d1_6 : decode prog_60_method_1_code 6 = .ok (.newarray .double, 2) := by decide +kernel
theorem d1_8 : decode prog_60_method_1_code 8 = .ok (.putfield 7, 3) := by decide +kernel
theorem d1_11 : decode prog_60_method_1_code 11 = .ok (.aload_n 0, 1) := by decide +kernel
theorem d1_12 : decode prog_60_method_1_code 12 = .ok (.iload_n 1, 1) := by decide +kernel
theorem d1_13 : decode prog_60_method_1_code 13 = .ok (.newarray .double, 2) := by decide +kernel
theorem d1_15 : decode prog_60_method_1_code 15 = .ok (.putfield 13, 3) := by decide +kernel
theorem d1_18 : decode prog_60_method_1_code 18 = .ok (.aload_n 0, 1) := by decide +kernel
theorem d1_19 : decode prog_60_method_1_code 19 = .ok (.iload_n 1, 1) := by decide +kernel
theorem d1_20 : decode prog_60_method_1_code 20 = .ok (.iload_n 2, 1) := by decide +kernel
theorem d1_21 : decode prog_60_method_1_code 21 = .ok (.multianewarray 16 2, 4) := by decide +kernel
theorem d1_25 : decode prog_60_method_1_code 25 = .ok (.putfield 18, 3) := by decide +kernel
theorem d1_28 : decode prog_60_method_1_code 28 = .ok (.aload_n 0, 1) := by decide +kernel
theorem d1_29 : decode prog_60_method_1_code 29 = .ok (.iload_n 3, 1) := by decide +kernel
theorem pd_2087992008 : parseMethodDescriptor "(I)I" = some ⟨[.int], some .int⟩ := by decide +kernel
theorem d1_30 : decode prog_60_method_1_code 30 = .ok (.invokestatic 21, 3) := by decide +kernel
theorem d1_33 : decode prog_60_method_1_code 33 = .ok (.putfield 27, 3) := by decide +kernel
theorem d1_36 : decode prog_60_method_1_code 36 = .ok (.aload_n 0, 1) := by decide +kernel
theorem d1_37 : decode prog_60_method_1_code 37 = .ok (.iload_n 1, 1) := by decide +kernel
theorem d1_38 : decode prog_60_method_1_code 38 = .ok (.aload_n 0, 1) := by decide +kernel
theorem d1_39 : decode prog_60_method_1_code 39 = .ok (.getfield 27, 3) := by decide +kernel
theorem pd_184293393 : parseMethodDescriptor "(II)I" = some ⟨[.int, .int], some .int⟩ := by decide +kernel
theorem d1_42 : decode prog_60_method_1_code 42 = .ok (.invokestatic 30, 3) := by decide +kernel
theorem d1_45 : decode prog_60_method_1_code 45 = .ok (.newarray .long, 2) := by decide +kernel
theorem d1_47 : decode prog_60_method_1_code 47 = .ok (.putfield 36, 3) := by decide +kernel
theorem d1_50 : decode prog_60_method_1_code 50 = .ok (.return_, 1) := by decide +kernel
theorem pf_5 : plainFor (⟨"com/example/riskweave/riskweave/rare/LossSampler$Draws", "samples", "()I"⟩ : MethodName) = true := by first | exact plainFor_of_name (by first | (simp [plainName, overriddenIn]; done) | decide +kernel) | decide +kernel
theorem d5_0 : decode prog_60_method_2_code 0 = .ok (.aload_n 0, 1) := by decide +kernel
theorem d5_1 : decode prog_60_method_2_code 1 = .ok (.getfield 7, 3) := by decide +kernel
theorem d5_4 : decode prog_60_method_2_code 4 = .ok (.arraylength, 1) := by decide +kernel
theorem d5_5 : decode prog_60_method_2_code 5 = .ok (.ireturn, 1) := by decide +kernel
theorem pf_6 : plainFor (⟨"com/example/riskweave/riskweave/rare/LossSampler$Draws", "isDown", "(II)Z"⟩ : MethodName) = true := by first | exact plainFor_of_name (by first | (simp [plainName, overriddenIn]; done) | decide +kernel) | decide +kernel
theorem d6_0 : decode prog_60_method_3_code 0 = .ok (.aload_n 0, 1) := by decide +kernel
theorem d6_1 : decode prog_60_method_3_code 1 = .ok (.getfield 36, 3) := by decide +kernel
theorem d6_4 : decode prog_60_method_3_code 4 = .ok (.iload_n 1, 1) := by decide +kernel
theorem d6_5 : decode prog_60_method_3_code 5 = .ok (.aload_n 0, 1) := by decide +kernel
theorem d6_6 : decode prog_60_method_3_code 6 = .ok (.getfield 27, 3) := by decide +kernel
theorem d6_9 : decode prog_60_method_3_code 9 = .ok (.imul, 1) := by decide +kernel
theorem d6_10 : decode prog_60_method_3_code 10 = .ok (.iload_n 2, 1) := by decide +kernel
theorem d6_11 : decode prog_60_method_3_code 11 = .ok (.bipush 64, 2) := by decide +kernel
theorem d6_13 : decode prog_60_method_3_code 13 = .ok (.idiv, 1) := by decide +kernel
theorem d6_14 : decode prog_60_method_3_code 14 = .ok (.iadd, 1) := by decide +kernel
theorem d6_15 : decode prog_60_method_3_code 15 = .ok (.laload, 1) := by decide +kernel
theorem d6_16 : decode prog_60_method_3_code 16 = .ok (.lconst 1, 1) := by decide +kernel
theorem d6_17 : decode prog_60_method_3_code 17 = .ok (.iload_n 2, 1) := by decide +kernel
theorem d6_18 : decode prog_60_method_3_code 18 = .ok (.lshl, 1) := by decide +kernel
theorem d6_19 : decode prog_60_method_3_code 19 = .ok (.land, 1) := by decide +kernel
theorem d6_20 : decode prog_60_method_3_code 20 = .ok (.lconst 0, 1) := by decide +kernel
theorem d6_21 : decode prog_60_method_3_code 21 = .ok (.lcmp, 1) := by decide +kernel
theorem d6_22 : decode prog_60_method_3_code 22 = .ok (.ifCond .eq 7, 3) := by decide +kernel
theorem d6_29 : decode prog_60_method_3_code 29 = .ok (.iconst 0, 1) := by decide +kernel
theorem d6_30 : decode prog_60_method_3_code 30 = .ok (.ireturn, 1) := by decide +kernel
theorem pf_0 : plainFor (⟨"com/example/riskweave/riskweave/rare/DrawsIsDownPinLaw", "law", "(IIIII)Z"⟩ : MethodName) = true := by first | exact plainFor_of_name (by first | (simp [plainName, overriddenIn]; done) | decide +kernel) | decide +kernel
theorem pd_1786748551 : parseMethodDescriptor "(III)V" = some ⟨[.int, .int, .int], none⟩ := by decide +kernel
theorem pd_193421983 : parseMethodDescriptor "()I" = some ⟨[], some .int⟩ := by decide +kernel
theorem pd_184293410 : parseMethodDescriptor "(II)Z" = some ⟨[.int, .int], some .boolean⟩ := by decide +kernel
theorem mulI {x y : Int32} (h1 : -2147483648 ≤ x.toInt * y.toInt) (h2 : x.toInt * y.toInt < 2147483648) : (x * y).toInt = x.toInt * y.toInt := by
  have q1 := c_imul x y
  have q2 := rng32 (x * y)
  omega
theorem gridLt {sp sm W lk L : Int} (h1 : 0 ≤ sp) (h2 : sp < sm) (h3 : sm ≤ 8) (h4 : 0 ≤ L) (h5 : L < lk) (h6 : lk ≤ 256) (hW : W = (lk + 63) / 64) : 0 ≤ sp * W ∧ sp * W + L / 64 < sm * W ∧ sm * W ≤ 32 ∧ 0 ≤ sm * W ∧ 1 ≤ W ∧ W ≤ 4 := by
  have q : W = 1 ∨ W = 2 ∨ W = 3 ∨ W = 4 := by omega
  rcases q with rfl | rfl | rfl | rfl <;> omega
theorem prodL {x y : Int32} (h1 : 0 ≤ x.toInt * y.toInt) (h2 : x.toInt * y.toInt ≤ 32) : (x.toInt64 * y.toInt64).toInt = x.toInt * y.toInt ∧ (x.toInt64 * y.toInt64).toInt32.toInt = x.toInt * y.toInt ∧ (x.toInt64 * y.toInt64).toInt32.toInt64 = x.toInt64 * y.toInt64 := by
  have q1 := c_lmul x.toInt64 y.toInt64
  rw [c_i2l, c_i2l] at q1
  have q2 := rng64 (x.toInt64 * y.toInt64)
  have q3 : (x.toInt64 * y.toInt64).toInt = x.toInt * y.toInt := by omega
  have q4 := c_l2i (x.toInt64 * y.toInt64)
  have q5 := rng32 (x.toInt64 * y.toInt64).toInt32
  have q6 : (x.toInt64 * y.toInt64).toInt32.toInt = x.toInt * y.toInt := by omega
  refine ⟨q3, q6, Int64.toInt_inj.mp ?_⟩
  rw [c_i2l, q6, q3]
theorem divI {x : Int32} (h : 0 ≤ x.toInt) : (x / 64).toInt = x.toInt / 64 := (c_idiv x 64 64 (by decide) (by decide)).1 h
theorem oneI : (1 : Int32).toInt = 1 := by decide
theorem i64I : (64 : Int32).toInt = 64 := by decide
theorem zeroI : (0 : Int32).toInt = 0 := by decide
theorem idxD {sp ln ww sm lk : Int32} (hww : ww.toInt = (lk.toInt + 63) / 64) (h1 : 0 ≤ sp.toInt) (h2 : sp.toInt < sm.toInt) (h3 : sm.toInt ≤ 8) (h4 : 0 ≤ ln.toInt) (h5 : ln.toInt < lk.toInt) (h6 : lk.toInt ≤ 256) : ∃ i : Nat, (sp * ww + ln / 64).toInt = i ∧ i < (sm.toInt * ww.toInt).toNat := by
  obtain ⟨g1, g2, g3, g4, g5, g6⟩ := gridLt h1 h2 h3 h4 h5 h6 hww
  have q1 : (sp * ww).toInt = sp.toInt * ww.toInt := mulI (by omega) (by omega)
  have q2 := divI h4
  have q3 : (sp * ww + ln / 64).toInt = sp.toInt * ww.toInt + ln.toInt / 64 := by rw [addI (by omega) (by omega), q1, q2]
  exact ⟨(sp.toInt * ww.toInt + ln.toInt / 64).toNat, by rw [q3]; omega, by omega⟩
set_option maxRecDepth 65536 in
set_option maxHeartbeats 40000000 in
theorem rmW (l : Launch) (Z : State) (a0 : Array Value) (hw : ∀ d ∈ tables_1, d.before a0 Z = true) (n0 : Nat) (h0 : Heap) (hn0 : n0 ≤ h0.size) (x : Int32) (h1 : 1 ≤ x.toInt) (h2 : x.toInt ≤ 256) :
    Met l Z n0 (⟨"com/example/riskweave/riskweave/rare/LossSampler", "words", "(I)I"⟩ : MethodName) prog_58_method_9_code 1 (Option.some .int) ({ frames := 0, cells := 0, slots := 0, locals := 0 } : Room) #[(.int x)] h0 (fun (v : Option Value) (h' : Heap) => ∃ r, v = some (.int r) ∧ r.toInt = (x.toInt + 63) / 64 ∧ h' = h0) := by
  refine metW (Q := fun (v : Option Value) (h' : Heap) => ∃ r, v = some (.int r) ∧ r.toInt = (x.toInt + 63) / 64 ∧ h' = h0) pf_3 hn0 ?_
  intro p e s m below meth c T X hby hml hret hnm
  refine Goes.by (g' := (mkF m 0 #[.val (.int x)] [])) (fun _ q => castTop (by first | rfl | (simp [entryFrame, mkF, argsToLocals, Value.category]; done)) q) ?_
  refine Goes.by (g' := (mkF m 1 #[.val (.int x)] [(.int x)])) (fun _ q => XS.iloadN X.here X.hx rfl (hb hby d3_0) rfl q) ?_
  refine Goes.by (g' := (mkF m 3 #[.val (.int x)] [(.int (64 : Int32)), (.int x)])) (fun _ q => XS.bipush X.here X.hx rfl (hb hby d3_1) q) ?_
  refine Goes.by (g' := (mkF m 4 #[.val (.int x)] [(.int (x + (64 : Int32)))])) (fun _ q => XS.iadd X.here X.hx rfl (hb hby d3_3) rfl q) ?_
  refine Goes.by (g' := (mkF m 5 #[.val (.int x)] [(.int (1 : Int32)), (.int (x + (64 : Int32)))])) (fun _ q => XS.iconst X.here X.hx rfl (hb hby d3_4) q) ?_
  refine Goes.by (g' := (mkF m 6 #[.val (.int x)] [(.int ((x + (64 : Int32)) - (1 : Int32)))])) (fun _ q => XS.isub X.here X.hx rfl (hb hby d3_5) rfl q) ?_
  refine Goes.by (g' := (mkF m 8 #[.val (.int x)] [(.int (64 : Int32)), (.int ((x + (64 : Int32)) - (1 : Int32)))])) (fun _ q => XS.bipush X.here X.hx rfl (hb hby d3_6) q) ?_
  refine Goes.by (g' := (mkF m 9 #[.val (.int x)] [(.int (((x + (64 : Int32)) - (1 : Int32)) / (64 : Int32)))])) (fun _ q => XS.idiv X.here X.hx rfl (hb hby d3_8) rfl (by decide) q) ?_
  exact X.retI hret (hb hby d3_9) (by decide) (by decide) ⟨_, rfl, by
      have o1 := oneI
      have o2 := i64I
      have q1 : (x + 64).toInt = x.toInt + 64 := by rw [addI (by omega) (by omega), o2]
      have q2 : (x + 64 - 1).toInt = x.toInt + 63 := by rw [subI (by omega) (by omega), q1, o1]; omega
      rw [divI (by omega), q2], rfl⟩
set_option maxRecDepth 65536 in
set_option maxHeartbeats 40000000 in
theorem rmM (l : Launch) (Z : State) (a0 : Array Value) (hw : ∀ d ∈ tables_1, d.before a0 Z = true) (n0 : Nat) (h0 : Heap) (hn0 : n0 ≤ h0.size) (x y : Int32) (h1 : 0 ≤ x.toInt * y.toInt) (h2 : x.toInt * y.toInt ≤ 32) :
    Met l Z n0 (⟨"java/lang/Math", "multiplyExact", "(II)I"⟩ : MethodName) jdk_29_method_28_code 4 (Option.some .int) ({ frames := 0, cells := 0, slots := 0, locals := 0 } : Room) #[(.int x), (.int y)] h0 (fun (v : Option Value) (h' : Heap) => ∃ r, v = some (.int r) ∧ r.toInt = x.toInt * y.toInt ∧ h' = h0) := by
  refine metW (Q := fun (v : Option Value) (h' : Heap) => ∃ r, v = some (.int r) ∧ r.toInt = x.toInt * y.toInt ∧ h' = h0) pf_4 hn0 ?_
  intro p e s m below meth c T X hby hml hret hnm
  refine Goes.by (g' := (mkF m 0 #[.val (.int x), .val (.int y), .unset, .unset] [])) (fun _ q => castTop (by first | rfl | (simp [entryFrame, mkF, argsToLocals, Value.category]; done)) q) ?_
  refine Goes.by (g' := (mkF m 1 #[.val (.int x), .val (.int y), .unset, .unset] [(.int x)])) (fun _ q => XS.iloadN X.here X.hx rfl (hb hby d4_0) rfl q) ?_
  refine Goes.by (g' := (mkF m 2 #[.val (.int x), .val (.int y), .unset, .unset] [(.long (x.toInt64))])) (fun _ q => XS.i2l X.here X.hx rfl (hb hby d4_1) rfl q) ?_
  refine Goes.by (g' := (mkF m 3 #[.val (.int x), .val (.int y), .unset, .unset] [(.int y), (.long (x.toInt64))])) (fun _ q => XS.iloadN X.here X.hx rfl (hb hby d4_2) rfl q) ?_
  refine Goes.by (g' := (mkF m 4 #[.val (.int x), .val (.int y), .unset, .unset] [(.long (y.toInt64)), (.long (x.toInt64))])) (fun _ q => XS.i2l X.here X.hx rfl (hb hby d4_3) rfl q) ?_
  refine Goes.by (g' := (mkF m 5 #[.val (.int x), .val (.int y), .unset, .unset] [(.long ((x.toInt64) * (y.toInt64)))])) (fun _ q => XS.lmul X.here X.hx rfl (hb hby d4_4) rfl q) ?_
  refine Goes.by (g' := (mkF m 6 #[.val (.int x), .val (.int y), .val (.long ((x.toInt64) * (y.toInt64))), .second] [])) (fun _ q => XS.lstoreN X.here X.hx rfl (hb hby d4_5) rfl (l' := #[.val (.int x), .val (.int y), .val (.long ((x.toInt64) * (y.toInt64))), .second]) rfl q) ?_
  refine Goes.by (g' := (mkF m 7 #[.val (.int x), .val (.int y), .val (.long ((x.toInt64) * (y.toInt64))), .second] [(.long ((x.toInt64) * (y.toInt64)))])) (fun _ q => XS.lloadN X.here X.hx rfl (hb hby d4_6) rfl q) ?_
  refine Goes.by (g' := (mkF m 8 #[.val (.int x), .val (.int y), .val (.long ((x.toInt64) * (y.toInt64))), .second] [(.int (((x.toInt64) * (y.toInt64)).toInt32))])) (fun _ q => XS.l2i X.here X.hx rfl (hb hby d4_7) rfl q) ?_
  refine Goes.by (g' := (mkF m 9 #[.val (.int x), .val (.int y), .val (.long ((x.toInt64) * (y.toInt64))), .second] [(.long ((((x.toInt64) * (y.toInt64)).toInt32).toInt64))])) (fun _ q => XS.i2l X.here X.hx rfl (hb hby d4_8) rfl q) ?_
  refine Goes.by (g' := (mkF m 10 #[.val (.int x), .val (.int y), .val (.long ((x.toInt64) * (y.toInt64))), .second] [(.long ((x.toInt64) * (y.toInt64))), (.long ((((x.toInt64) * (y.toInt64)).toInt32).toInt64))])) (fun _ q => XS.lloadN X.here X.hx rfl (hb hby d4_9) rfl q) ?_
  refine Goes.by (g' := (mkF m 11 #[.val (.int x), .val (.int y), .val (.long ((x.toInt64) * (y.toInt64))), .second] [(.int (lcmpW ((((x.toInt64) * (y.toInt64)).toInt32).toInt64) ((x.toInt64) * (y.toInt64))))])) (fun _ q => XS.lcmp X.here X.hx rfl (hb hby d4_10) rfl q) ?_
  refine Goes.by (g' := (mkF m 24 #[.val (.int x), .val (.int y), .val (.long ((x.toInt64) * (y.toInt64))), .second] [])) (fun _ q => XS.ifYes X.here X.hx rfl (pc0 := 11) (pc' := 24) rfl (hb hby d4_11) rfl ((if0 _ _).trans (teq (show (lcmpW ((((x.toInt64) * (y.toInt64)).toInt32).toInt64) ((x.toInt64) * (y.toInt64))) = (0 : Int32) from ((lw_eq _ _).mpr (prodL h1 h2).2.2))).1) (by decide) (by decide) q) ?_
  refine Goes.by (g' := (mkF m 25 #[.val (.int x), .val (.int y), .val (.long ((x.toInt64) * (y.toInt64))), .second] [(.long ((x.toInt64) * (y.toInt64)))])) (fun _ q => XS.lloadN X.here X.hx rfl (hb hby d4_24) rfl q) ?_
  refine Goes.by (g' := (mkF m 26 #[.val (.int x), .val (.int y), .val (.long ((x.toInt64) * (y.toInt64))), .second] [(.int (((x.toInt64) * (y.toInt64)).toInt32))])) (fun _ q => XS.l2i X.here X.hx rfl (hb hby d4_25) rfl q) ?_
  exact X.retI hret (hb hby d4_26) (by decide) (by decide) ⟨_, rfl, (prodL h1 h2).2.1, rfl⟩
set_option maxRecDepth 65536 in
set_option maxHeartbeats 40000000 in
theorem rmC (l : Launch) (Z : State) (a0 : Array Value) (hw : ∀ d ∈ tables_1, d.before a0 Z = true) (n0 : Nat) (h0 : Heap) (hn0 : n0 ≤ h0.size) (a : Addr) (sm fc lk : Int32) (hs1 : 1 ≤ sm.toInt) (hs2 : sm.toInt ≤ 8) (hf1 : 0 ≤ fc.toInt) (hf2 : fc.toInt ≤ 3) (hl1 : 1 ≤ lk.toInt) (hl2 : lk.toInt ≤ 256) (ga_a : n0 ≤ a) (E_a : Exa Z h0 a "com/example/riskweave/riskweave/rare/LossSampler$Draws") (F_a_loss : Fld Z h0 a "com/example/riskweave/riskweave/rare/LossSampler$Draws" "loss" "[D" .null) (F_a_logRatio : Fld Z h0 a "com/example/riskweave/riskweave/rare/LossSampler$Draws" "logRatio" "[D" .null) (F_a_factorValues : Fld Z h0 a "com/example/riskweave/riskweave/rare/LossSampler$Draws" "factorValues" "[[D" .null) (F_a_words : Fld Z h0 a "com/example/riskweave/riskweave/rare/LossSampler$Draws" "words" "I" (.int 0)) (F_a_downBits : Fld Z h0 a "com/example/riskweave/riskweave/rare/LossSampler$Draws" "downBits" "[J" .null) :
    Met l Z n0 (⟨"com/example/riskweave/riskweave/rare/LossSampler$Draws", "<init>", "(III)V"⟩ : MethodName) prog_60_method_1_code 4 (Option.none : Option FieldType) ({ frames := 1, cells := 12, slots := 80, locals := 16 } : Room) #[(.ref a), (.int sm), (.int fc), (.int lk)] h0 (fun (v : Option Value) (h' : Heap) => v = none ∧ Keep h0 h' [a] ∧ ∃ (ls db : Addr) (ww : Int32), ww.toInt = (lk.toInt + 63) / 64 ∧ Fld Z h' a "com/example/riskweave/riskweave/rare/LossSampler$Draws" "loss" "[D" (.ref ls) ∧ Fld Z h' a "com/example/riskweave/riskweave/rare/LossSampler$Draws" "words" "I" (.int ww) ∧ Fld Z h' a "com/example/riskweave/riskweave/rare/LossSampler$Draws" "downBits" "[J" (.ref db) ∧ PArr Z h' ls .double sm.toInt.toNat (fun _ => defaultValue .double) ∧ PArr Z h' db .long (sm.toInt * ww.toInt).toNat (fun _ => .long 0)) := by
  refine metW (Q := fun (v : Option Value) (h' : Heap) => v = none ∧ Keep h0 h' [a] ∧ ∃ (ls db : Addr) (ww : Int32), ww.toInt = (lk.toInt + 63) / 64 ∧ Fld Z h' a "com/example/riskweave/riskweave/rare/LossSampler$Draws" "loss" "[D" (.ref ls) ∧ Fld Z h' a "com/example/riskweave/riskweave/rare/LossSampler$Draws" "words" "I" (.int ww) ∧ Fld Z h' a "com/example/riskweave/riskweave/rare/LossSampler$Draws" "downBits" "[J" (.ref db) ∧ PArr Z h' ls .double sm.toInt.toNat (fun _ => defaultValue .double) ∧ PArr Z h' db .long (sm.toInt * ww.toInt).toNat (fun _ => .long 0)) pf_1 hn0 ?_
  intro p e s m below meth c T X hby hml hret hnm
  refine Goes.by (g' := (mkF m 0 #[.val (.ref a), .val (.int sm), .val (.int fc), .val (.int lk)] [])) (fun _ q => castTop (by first | rfl | (simp [entryFrame, mkF, argsToLocals, Value.category]; done)) q) ?_
  have K0 := Keep.refl h0 [a]
  refine Goes.by (g' := (mkF m 1 #[.val (.ref a), .val (.int sm), .val (.int fc), .val (.int lk)] [(.ref a)])) (fun _ q => XS.aloadN X.here X.hx rfl (hb hby d1_0) rfl rfl q) ?_
  refine X.initO (hw _ (List.mem_of_getElem? (i := 7) rfl)) (hw _ (List.mem_of_getElem? (i := 8) rfl)) (hw _ (List.mem_of_getElem? (i := 9) rfl)) (by rw [hml]; rfl) (hb hby d1_1) (by decide) (leB rfl) (fun T X => ?_)
  show Goes _ _ _ _ _ _ _ _ T (mkF m 4 #[.val (.ref a), .val (.int sm), .val (.int fc), .val (.int lk)] [])
  refine Goes.by (g' := (mkF m 5 #[.val (.ref a), .val (.int sm), .val (.int fc), .val (.int lk)] [(.ref a)])) (fun _ q => XS.aloadN X.here X.hx rfl (hb hby d1_4) rfl rfl q) ?_
  refine Goes.by (g' := (mkF m 6 #[.val (.ref a), .val (.int sm), .val (.int fc), .val (.int lk)] [(.int sm), (.ref a)])) (fun _ q => XS.iloadN X.here X.hx rfl (hb hby d1_5) rfl q) ?_
  refine X.newA (N := sm.toInt.toNat) (ad := "[D") (by decide) (hw _ (List.mem_of_getElem? (i := 10) rfl)) (hb hby d1_6) (by omega) (cap := 8) (by omega) (by decide) (by decide) (by decide) (fun T h2 b1 X g_b1 ga_b1 E E_b1 A_b1 => ?_)
  have gz_b1 : h0.size ≤ b1 := by rw [g_b1]; exact K0.1
  have ne_a_b1 : a ≠ b1 := by rw [g_b1]; exact Nat.ne_of_lt E_a.lt
  have K0 := K0.ext E
  have E_a := E_a.ext E
  have F_a_loss := F_a_loss.ext E
  have F_a_logRatio := F_a_logRatio.ext E
  have F_a_factorValues := F_a_factorValues.ext E
  have F_a_words := F_a_words.ext E
  have F_a_downBits := F_a_downBits.ext E
  show Goes _ _ _ _ _ _ _ _ T (mkF m 8 #[.val (.ref a), .val (.int sm), .val (.int fc), .val (.int lk)] [(.ref b1), (.ref a)])
  refine X.putF (host := "") (Or.inl (hw _ (List.mem_of_getElem? (i := 11) rfl))) Via.refl F_a_loss E_a (Or.inr ⟨(hw _ (List.mem_of_getElem? (i := 12) rfl)), rfl, hnm⟩) (hw _ (List.mem_of_getElem? (i := 2) rfl)) (ty := (.array .double)) (by decide) rfl rfl ga_a (hb hby d1_8) (fun T h3 X W => ?_)
  have K0 := K0.wr W (Or.inl (by simp))
  have E_a := E_a.wr W
  have F_a_loss := F_a_loss.same W
  have F_a_logRatio := F_a_logRatio.other W (Or.inr (slot_ne (Or.inr (hw _ (List.mem_of_getElem? (i := 14) rfl))) (Or.inr (hw _ (List.mem_of_getElem? (i := 12) rfl))) (by decide) (t := (.array .double)) (t' := (.array .double)) (by decide) (by decide)))
  have F_a_factorValues := F_a_factorValues.other W (Or.inr (slot_ne (Or.inr (hw _ (List.mem_of_getElem? (i := 18) rfl))) (Or.inr (hw _ (List.mem_of_getElem? (i := 12) rfl))) (by decide) (t := (.array (.array .double))) (t' := (.array .double)) (by decide) (by decide)))
  have F_a_words := F_a_words.other W (Or.inr (slot_ne (Or.inr (hw _ (List.mem_of_getElem? (i := 24) rfl))) (Or.inr (hw _ (List.mem_of_getElem? (i := 12) rfl))) (by decide) (t := .int) (t' := (.array .double)) (by decide) (by decide)))
  have F_a_downBits := F_a_downBits.other W (Or.inr (slot_ne (Or.inr (hw _ (List.mem_of_getElem? (i := 31) rfl))) (Or.inr (hw _ (List.mem_of_getElem? (i := 12) rfl))) (by decide) (t := (.array .long)) (t' := (.array .double)) (by decide) (by decide)))
  have E_b1 := E_b1.wr W
  have A_b1 := PArr.other A_b1 W (Ne.symm ne_a_b1)
  show Goes _ _ _ _ _ _ _ _ T (mkF m 11 #[.val (.ref a), .val (.int sm), .val (.int fc), .val (.int lk)] [])
  refine Goes.by (g' := (mkF m 12 #[.val (.ref a), .val (.int sm), .val (.int fc), .val (.int lk)] [(.ref a)])) (fun _ q => XS.aloadN X.here X.hx rfl (hb hby d1_11) rfl rfl q) ?_
  refine Goes.by (g' := (mkF m 13 #[.val (.ref a), .val (.int sm), .val (.int fc), .val (.int lk)] [(.int sm), (.ref a)])) (fun _ q => XS.iloadN X.here X.hx rfl (hb hby d1_12) rfl q) ?_
  refine X.newA (N := sm.toInt.toNat) (ad := "[D") (by decide) (hw _ (List.mem_of_getElem? (i := 10) rfl)) (hb hby d1_13) (by omega) (cap := 8) (by omega) (by decide) (by decide) (by decide) (fun T h5 b4 X g_b4 ga_b4 E E_b4 A_b4 => ?_)
  have gz_b4 : h0.size ≤ b4 := by rw [g_b4]; exact K0.1
  have ne_a_b4 : a ≠ b4 := by rw [g_b4]; exact Nat.ne_of_lt E_a.lt
  have ne_b1_b4 : b1 ≠ b4 := by rw [g_b4]; exact Nat.ne_of_lt E_b1.lt
  have K0 := K0.ext E
  have E_a := E_a.ext E
  have F_a_loss := F_a_loss.ext E
  have F_a_logRatio := F_a_logRatio.ext E
  have F_a_factorValues := F_a_factorValues.ext E
  have F_a_words := F_a_words.ext E
  have F_a_downBits := F_a_downBits.ext E
  have E_b1 := E_b1.ext E
  have A_b1 := PArr.ext A_b1 E
  show Goes _ _ _ _ _ _ _ _ T (mkF m 15 #[.val (.ref a), .val (.int sm), .val (.int fc), .val (.int lk)] [(.ref b4), (.ref a)])
  refine X.putF (host := "") (Or.inl (hw _ (List.mem_of_getElem? (i := 13) rfl))) Via.refl F_a_logRatio E_a (Or.inr ⟨(hw _ (List.mem_of_getElem? (i := 14) rfl)), rfl, hnm⟩) (hw _ (List.mem_of_getElem? (i := 2) rfl)) (ty := (.array .double)) (by decide) rfl rfl ga_a (hb hby d1_15) (fun T h6 X W => ?_)
  have K0 := K0.wr W (Or.inl (by simp))
  have E_a := E_a.wr W
  have F_a_loss := F_a_loss.other W (Or.inr (slot_ne (Or.inr (hw _ (List.mem_of_getElem? (i := 12) rfl))) (Or.inr (hw _ (List.mem_of_getElem? (i := 14) rfl))) (by decide) (t := (.array .double)) (t' := (.array .double)) (by decide) (by decide)))
  have F_a_logRatio := F_a_logRatio.same W
  have F_a_factorValues := F_a_factorValues.other W (Or.inr (slot_ne (Or.inr (hw _ (List.mem_of_getElem? (i := 18) rfl))) (Or.inr (hw _ (List.mem_of_getElem? (i := 14) rfl))) (by decide) (t := (.array (.array .double))) (t' := (.array .double)) (by decide) (by decide)))
  have F_a_words := F_a_words.other W (Or.inr (slot_ne (Or.inr (hw _ (List.mem_of_getElem? (i := 24) rfl))) (Or.inr (hw _ (List.mem_of_getElem? (i := 14) rfl))) (by decide) (t := .int) (t' := (.array .double)) (by decide) (by decide)))
  have F_a_downBits := F_a_downBits.other W (Or.inr (slot_ne (Or.inr (hw _ (List.mem_of_getElem? (i := 31) rfl))) (Or.inr (hw _ (List.mem_of_getElem? (i := 14) rfl))) (by decide) (t := (.array .long)) (t' := (.array .double)) (by decide) (by decide)))
  have E_b1 := E_b1.wr W
  have A_b1 := PArr.other A_b1 W (Ne.symm ne_a_b1)
  have E_b4 := E_b4.wr W
  have A_b4 := PArr.other A_b4 W (Ne.symm ne_a_b4)
  show Goes _ _ _ _ _ _ _ _ T (mkF m 18 #[.val (.ref a), .val (.int sm), .val (.int fc), .val (.int lk)] [])
  refine Goes.by (g' := (mkF m 19 #[.val (.ref a), .val (.int sm), .val (.int fc), .val (.int lk)] [(.ref a)])) (fun _ q => XS.aloadN X.here X.hx rfl (hb hby d1_18) rfl rfl q) ?_
  refine Goes.by (g' := (mkF m 20 #[.val (.ref a), .val (.int sm), .val (.int fc), .val (.int lk)] [(.int sm), (.ref a)])) (fun _ q => XS.iloadN X.here X.hx rfl (hb hby d1_19) rfl q) ?_
  refine Goes.by (g' := (mkF m 21 #[.val (.ref a), .val (.int sm), .val (.int fc), .val (.int lk)] [(.int fc), (.int sm), (.ref a)])) (fun _ q => XS.iloadN X.here X.hx rfl (hb hby d1_20) rfl q) ?_
  refine X.grid (ty := .double) (K := "[D") (ad := "[[D") (N := sm.toInt.toNat) (Y := fc.toInt.toNat) (by decide) (by decide) (hw _ (List.mem_of_getElem? (i := 15) rfl)) (hw _ (List.mem_of_getElem? (i := 16) rfl)) (hw _ (List.mem_of_getElem? (i := 10) rfl)) (hb hby d1_21) (by omega) (by omega) (capN := 8) (cap := 3) (by omega) (by omega) (by decide) (by decide) (by decide) (by decide) (by decide) (by decide) (fun T h8 b7 X g_b7 ga_b7 E E_b7 => ?_)
  have gz_b7 : h0.size ≤ b7 := by rw [g_b7]; exact K0.1
  have ne_a_b7 : a ≠ b7 := by rw [g_b7]; exact Nat.ne_of_lt E_a.lt
  have ne_b1_b7 : b1 ≠ b7 := by rw [g_b7]; exact Nat.ne_of_lt E_b1.lt
  have ne_b4_b7 : b4 ≠ b7 := by rw [g_b7]; exact Nat.ne_of_lt E_b4.lt
  have K0 := K0.ext E
  have E_a := E_a.ext E
  have F_a_loss := F_a_loss.ext E
  have F_a_logRatio := F_a_logRatio.ext E
  have F_a_factorValues := F_a_factorValues.ext E
  have F_a_words := F_a_words.ext E
  have F_a_downBits := F_a_downBits.ext E
  have E_b1 := E_b1.ext E
  have A_b1 := PArr.ext A_b1 E
  have E_b4 := E_b4.ext E
  have A_b4 := PArr.ext A_b4 E
  show Goes _ _ _ _ _ _ _ _ T (mkF m 25 #[.val (.ref a), .val (.int sm), .val (.int fc), .val (.int lk)] [(.ref b7), (.ref a)])
  refine X.putF (host := "") (Or.inl (hw _ (List.mem_of_getElem? (i := 17) rfl))) Via.refl F_a_factorValues E_a (Or.inr ⟨(hw _ (List.mem_of_getElem? (i := 18) rfl)), rfl, hnm⟩) (hw _ (List.mem_of_getElem? (i := 2) rfl)) (ty := (.array (.array .double))) (by decide) rfl rfl ga_a (hb hby d1_25) (fun T h9 X W => ?_)
  have K0 := K0.wr W (Or.inl (by simp))
  have E_a := E_a.wr W
  have F_a_loss := F_a_loss.other W (Or.inr (slot_ne (Or.inr (hw _ (List.mem_of_getElem? (i := 12) rfl))) (Or.inr (hw _ (List.mem_of_getElem? (i := 18) rfl))) (by decide) (t := (.array .double)) (t' := (.array (.array .double))) (by decide) (by decide)))
  have F_a_logRatio := F_a_logRatio.other W (Or.inr (slot_ne (Or.inr (hw _ (List.mem_of_getElem? (i := 14) rfl))) (Or.inr (hw _ (List.mem_of_getElem? (i := 18) rfl))) (by decide) (t := (.array .double)) (t' := (.array (.array .double))) (by decide) (by decide)))
  have F_a_factorValues := F_a_factorValues.same W
  have F_a_words := F_a_words.other W (Or.inr (slot_ne (Or.inr (hw _ (List.mem_of_getElem? (i := 24) rfl))) (Or.inr (hw _ (List.mem_of_getElem? (i := 18) rfl))) (by decide) (t := .int) (t' := (.array (.array .double))) (by decide) (by decide)))
  have F_a_downBits := F_a_downBits.other W (Or.inr (slot_ne (Or.inr (hw _ (List.mem_of_getElem? (i := 31) rfl))) (Or.inr (hw _ (List.mem_of_getElem? (i := 18) rfl))) (by decide) (t := (.array .long)) (t' := (.array (.array .double))) (by decide) (by decide)))
  have E_b1 := E_b1.wr W
  have A_b1 := PArr.other A_b1 W (Ne.symm ne_a_b1)
  have E_b4 := E_b4.wr W
  have A_b4 := PArr.other A_b4 W (Ne.symm ne_a_b4)
  have E_b7 := E_b7.wr W
  show Goes _ _ _ _ _ _ _ _ T (mkF m 28 #[.val (.ref a), .val (.int sm), .val (.int fc), .val (.int lk)] [])
  refine Goes.by (g' := (mkF m 29 #[.val (.ref a), .val (.int sm), .val (.int fc), .val (.int lk)] [(.ref a)])) (fun _ q => XS.aloadN X.here X.hx rfl (hb hby d1_28) rfl rfl q) ?_
  refine Goes.by (g' := (mkF m 30 #[.val (.ref a), .val (.int sm), .val (.int fc), .val (.int lk)] [(.int lk), (.ref a)])) (fun _ q => XS.iloadN X.here X.hx rfl (hb hby d1_29) rfl q) ?_
  have X_o := X
  refine X.callSN (hw _ (List.mem_of_getElem? (i := 19) rfl)) (hw _ (List.mem_of_getElem? (i := 20) rfl)) (hw _ (List.mem_of_getElem? (i := 21) rfl)) (hw _ (List.mem_of_getElem? (i := 22) rfl)) (by decide) pd_2087992008 (argsL := [(.int lk)]) rfl (rmW l Z a0 hw n0 h9 X.n0le lk (by omega) (by omega)) (by rw [hml]; rfl) rfl (by decide) (leB rfl) (hb hby d1_30) (by decide) (by decide) (fun T h10 v X hQ => ?_)
  obtain ⟨ww, rfl, hww, hh⟩ := hQ
  rw [hh] at X
  clear hh
  show Goes _ _ _ _ _ _ _ _ T (mkF m 33 #[.val (.ref a), .val (.int sm), .val (.int fc), .val (.int lk)] [(.int ww), (.ref a)])
  refine X.putF (host := "") (Or.inl (hw _ (List.mem_of_getElem? (i := 23) rfl))) Via.refl F_a_words E_a (Or.inr ⟨(hw _ (List.mem_of_getElem? (i := 24) rfl)), rfl, hnm⟩) (hw _ (List.mem_of_getElem? (i := 2) rfl)) (ty := .int) (by decide) rfl rfl ga_a (hb hby d1_33) (fun T h11 X W => ?_)
  have K0 := K0.wr W (Or.inl (by simp))
  have E_a := E_a.wr W
  have F_a_loss := F_a_loss.other W (Or.inr (slot_ne (Or.inr (hw _ (List.mem_of_getElem? (i := 12) rfl))) (Or.inr (hw _ (List.mem_of_getElem? (i := 24) rfl))) (by decide) (t := (.array .double)) (t' := .int) (by decide) (by decide)))
  have F_a_logRatio := F_a_logRatio.other W (Or.inr (slot_ne (Or.inr (hw _ (List.mem_of_getElem? (i := 14) rfl))) (Or.inr (hw _ (List.mem_of_getElem? (i := 24) rfl))) (by decide) (t := (.array .double)) (t' := .int) (by decide) (by decide)))
  have F_a_factorValues := F_a_factorValues.other W (Or.inr (slot_ne (Or.inr (hw _ (List.mem_of_getElem? (i := 18) rfl))) (Or.inr (hw _ (List.mem_of_getElem? (i := 24) rfl))) (by decide) (t := (.array (.array .double))) (t' := .int) (by decide) (by decide)))
  have F_a_words := F_a_words.same W
  have F_a_downBits := F_a_downBits.other W (Or.inr (slot_ne (Or.inr (hw _ (List.mem_of_getElem? (i := 31) rfl))) (Or.inr (hw _ (List.mem_of_getElem? (i := 24) rfl))) (by decide) (t := (.array .long)) (t' := .int) (by decide) (by decide)))
  have E_b1 := E_b1.wr W
  have A_b1 := PArr.other A_b1 W (Ne.symm ne_a_b1)
  have E_b4 := E_b4.wr W
  have A_b4 := PArr.other A_b4 W (Ne.symm ne_a_b4)
  have E_b7 := E_b7.wr W
  show Goes _ _ _ _ _ _ _ _ T (mkF m 36 #[.val (.ref a), .val (.int sm), .val (.int fc), .val (.int lk)] [])
  have hg := gridLt (sp := 0) (sm := sm.toInt) (W := ww.toInt) (lk := lk.toInt) (L := 0) (by omega) (by omega) (by omega) (by omega) (by omega) (by omega) hww
  refine Goes.by (g' := (mkF m 37 #[.val (.ref a), .val (.int sm), .val (.int fc), .val (.int lk)] [(.ref a)])) (fun _ q => XS.aloadN X.here X.hx rfl (hb hby d1_36) rfl rfl q) ?_
  refine Goes.by (g' := (mkF m 38 #[.val (.ref a), .val (.int sm), .val (.int fc), .val (.int lk)] [(.int sm), (.ref a)])) (fun _ q => XS.iloadN X.here X.hx rfl (hb hby d1_37) rfl q) ?_
  refine Goes.by (g' := (mkF m 39 #[.val (.ref a), .val (.int sm), .val (.int fc), .val (.int lk)] [(.ref a), (.int sm), (.ref a)])) (fun _ q => XS.aloadN X.here X.hx rfl (hb hby d1_38) rfl rfl q) ?_
  refine X.getF (host := "") (Or.inl (hw _ (List.mem_of_getElem? (i := 23) rfl))) Via.refl F_a_words (hb hby d1_39) (fun T X => ?_)
  show Goes _ _ _ _ _ _ _ _ T (mkF m 42 #[.val (.ref a), .val (.int sm), .val (.int fc), .val (.int lk)] [(.int ww), (.int sm), (.ref a)])
  have X_o := X
  refine X.callS (hw _ (List.mem_of_getElem? (i := 25) rfl)) (hw _ (List.mem_of_getElem? (i := 26) rfl)) (hw _ (List.mem_of_getElem? (i := 27) rfl)) (hw _ (List.mem_of_getElem? (i := 28) rfl)) (by decide) pd_184293393 (argsL := [(.int sm), (.int ww)]) rfl (rmM l Z a0 hw n0 h11 X.n0le sm ww hg.2.2.2.1 hg.2.2.1) (by rw [hml]; rfl) rfl (by decide) (leB rfl) (hb hby d1_42) (by decide) (by decide) (fun T h12 v X hQ => ?_)
  obtain ⟨pr, rfl, hpr, hh⟩ := hQ
  rw [hh] at X
  clear hh
  show Goes _ _ _ _ _ _ _ _ T (mkF m 45 #[.val (.ref a), .val (.int sm), .val (.int fc), .val (.int lk)] [(.int pr), (.ref a)])
  refine X.newA (N := (sm.toInt * ww.toInt).toNat) (ad := "[J") (by decide) (hw _ (List.mem_of_getElem? (i := 29) rfl)) (hb hby d1_45) (by rw [hpr]; omega) (cap := 32) (by omega) (by decide) (by decide) (by decide) (fun T h14 b13 X g_b13 ga_b13 E E_b13 A_b13 => ?_)
  have gz_b13 : h0.size ≤ b13 := by rw [g_b13]; exact K0.1
  have ne_a_b13 : a ≠ b13 := by rw [g_b13]; exact Nat.ne_of_lt E_a.lt
  have ne_b1_b13 : b1 ≠ b13 := by rw [g_b13]; exact Nat.ne_of_lt E_b1.lt
  have ne_b4_b13 : b4 ≠ b13 := by rw [g_b13]; exact Nat.ne_of_lt E_b4.lt
  have ne_b7_b13 : b7 ≠ b13 := by rw [g_b13]; exact Nat.ne_of_lt E_b7.lt
  have K0 := K0.ext E
  have E_a := E_a.ext E
  have F_a_loss := F_a_loss.ext E
  have F_a_logRatio := F_a_logRatio.ext E
  have F_a_factorValues := F_a_factorValues.ext E
  have F_a_words := F_a_words.ext E
  have F_a_downBits := F_a_downBits.ext E
  have E_b1 := E_b1.ext E
  have A_b1 := PArr.ext A_b1 E
  have E_b4 := E_b4.ext E
  have A_b4 := PArr.ext A_b4 E
  have E_b7 := E_b7.ext E
  show Goes _ _ _ _ _ _ _ _ T (mkF m 47 #[.val (.ref a), .val (.int sm), .val (.int fc), .val (.int lk)] [(.ref b13), (.ref a)])
  refine X.putF (host := "") (Or.inl (hw _ (List.mem_of_getElem? (i := 30) rfl))) Via.refl F_a_downBits E_a (Or.inr ⟨(hw _ (List.mem_of_getElem? (i := 31) rfl)), rfl, hnm⟩) (hw _ (List.mem_of_getElem? (i := 2) rfl)) (ty := (.array .long)) (by decide) rfl rfl ga_a (hb hby d1_47) (fun T h15 X W => ?_)
  have K0 := K0.wr W (Or.inl (by simp))
  have E_a := E_a.wr W
  have F_a_loss := F_a_loss.other W (Or.inr (slot_ne (Or.inr (hw _ (List.mem_of_getElem? (i := 12) rfl))) (Or.inr (hw _ (List.mem_of_getElem? (i := 31) rfl))) (by decide) (t := (.array .double)) (t' := (.array .long)) (by decide) (by decide)))
  have F_a_logRatio := F_a_logRatio.other W (Or.inr (slot_ne (Or.inr (hw _ (List.mem_of_getElem? (i := 14) rfl))) (Or.inr (hw _ (List.mem_of_getElem? (i := 31) rfl))) (by decide) (t := (.array .double)) (t' := (.array .long)) (by decide) (by decide)))
  have F_a_factorValues := F_a_factorValues.other W (Or.inr (slot_ne (Or.inr (hw _ (List.mem_of_getElem? (i := 18) rfl))) (Or.inr (hw _ (List.mem_of_getElem? (i := 31) rfl))) (by decide) (t := (.array (.array .double))) (t' := (.array .long)) (by decide) (by decide)))
  have F_a_words := F_a_words.other W (Or.inr (slot_ne (Or.inr (hw _ (List.mem_of_getElem? (i := 24) rfl))) (Or.inr (hw _ (List.mem_of_getElem? (i := 31) rfl))) (by decide) (t := .int) (t' := (.array .long)) (by decide) (by decide)))
  have F_a_downBits := F_a_downBits.same W
  have E_b1 := E_b1.wr W
  have A_b1 := PArr.other A_b1 W (Ne.symm ne_a_b1)
  have E_b4 := E_b4.wr W
  have A_b4 := PArr.other A_b4 W (Ne.symm ne_a_b4)
  have E_b7 := E_b7.wr W
  have E_b13 := E_b13.wr W
  have A_b13 := PArr.other A_b13 W (Ne.symm ne_a_b13)
  show Goes _ _ _ _ _ _ _ _ T (mkF m 50 #[.val (.ref a), .val (.int sm), .val (.int fc), .val (.int lk)] [])
  exact X.retV hret (hb hby d1_50) (by decide) (by decide) ⟨rfl, K0, b1, b13, ww, hww, F_a_loss, F_a_words, F_a_downBits, A_b1, A_b13⟩
set_option maxRecDepth 65536 in
set_option maxHeartbeats 40000000 in
theorem rmS (l : Launch) (Z : State) (a0 : Array Value) (hw : ∀ d ∈ tables_1, d.before a0 Z = true) (n0 : Nat) (h0 : Heap) (hn0 : n0 ≤ h0.size) (a ls : Addr) (sm : Int32) (hs1 : 1 ≤ sm.toInt) (F_loss : Fld Z h0 a "com/example/riskweave/riskweave/rare/LossSampler$Draws" "loss" "[D" (.ref ls)) (A_ls : PArr Z h0 ls .double sm.toInt.toNat (fun _ => defaultValue .double)) :
    Met l Z n0 (⟨"com/example/riskweave/riskweave/rare/LossSampler$Draws", "samples", "()I"⟩ : MethodName) prog_60_method_2_code 1 (Option.some .int) ({ frames := 0, cells := 0, slots := 0, locals := 0 } : Room) #[(.ref a)] h0 (fun (v : Option Value) (h' : Heap) => v = some (.int sm) ∧ h' = h0) := by
  refine metW (Q := fun (v : Option Value) (h' : Heap) => v = some (.int sm) ∧ h' = h0) pf_5 hn0 ?_
  intro p e s m below meth c T X hby hml hret hnm
  refine Goes.by (g' := (mkF m 0 #[.val (.ref a)] [])) (fun _ q => castTop (by first | rfl | (simp [entryFrame, mkF, argsToLocals, Value.category]; done)) q) ?_
  refine Goes.by (g' := (mkF m 1 #[.val (.ref a)] [(.ref a)])) (fun _ q => XS.aloadN X.here X.hx rfl (hb hby d5_0) rfl rfl q) ?_
  refine X.getF (host := "") (Or.inl (hw _ (List.mem_of_getElem? (i := 11) rfl))) Via.refl F_loss (hb hby d5_1) (fun T X => ?_)
  show Goes _ _ _ _ _ _ _ _ T (mkF m 4 #[.val (.ref a)] [(.ref ls)])
  refine X.alen A_ls (z := sm) (by omega) (hb hby d5_4) ?_
  show Goes _ _ _ _ _ _ _ _ T (mkF m 5 #[.val (.ref a)] [(.int sm)])
  exact X.retI hret (hb hby d5_5) (by decide) (by decide) ⟨rfl, rfl⟩
set_option maxRecDepth 65536 in
set_option maxHeartbeats 40000000 in
theorem rmD (l : Launch) (Z : State) (a0 : Array Value) (hw : ∀ d ∈ tables_1, d.before a0 Z = true) (n0 : Nat) (h0 : Heap) (hn0 : n0 ≤ h0.size) (a db : Addr) (sp ln ww : Int32) (N i : Nat) (hi : (sp * ww + ln / 64).toInt = i) (hN : i < N) (F_db : Fld Z h0 a "com/example/riskweave/riskweave/rare/LossSampler$Draws" "downBits" "[J" (.ref db)) (F_words : Fld Z h0 a "com/example/riskweave/riskweave/rare/LossSampler$Draws" "words" "I" (.int ww)) (A_db : PArr Z h0 db .long N (fun _ => .long 0)) :
    Met l Z n0 (⟨"com/example/riskweave/riskweave/rare/LossSampler$Draws", "isDown", "(II)Z"⟩ : MethodName) prog_60_method_3_code 3 (Option.some .boolean) ({ frames := 0, cells := 0, slots := 0, locals := 0 } : Room) #[(.ref a), (.int sp), (.int ln)] h0 (fun (v : Option Value) (h' : Heap) => v = some (.int 0) ∧ h' = h0) := by
  refine metW (Q := fun (v : Option Value) (h' : Heap) => v = some (.int 0) ∧ h' = h0) pf_6 hn0 ?_
  intro p e s m below meth c T X hby hml hret hnm
  refine Goes.by (g' := (mkF m 0 #[.val (.ref a), .val (.int sp), .val (.int ln)] [])) (fun _ q => castTop (by first | rfl | (simp [entryFrame, mkF, argsToLocals, Value.category]; done)) q) ?_
  refine Goes.by (g' := (mkF m 1 #[.val (.ref a), .val (.int sp), .val (.int ln)] [(.ref a)])) (fun _ q => XS.aloadN X.here X.hx rfl (hb hby d6_0) rfl rfl q) ?_
  refine X.getF (host := "") (Or.inl (hw _ (List.mem_of_getElem? (i := 30) rfl))) Via.refl F_db (hb hby d6_1) (fun T X => ?_)
  show Goes _ _ _ _ _ _ _ _ T (mkF m 4 #[.val (.ref a), .val (.int sp), .val (.int ln)] [(.ref db)])
  refine Goes.by (g' := (mkF m 5 #[.val (.ref a), .val (.int sp), .val (.int ln)] [(.int sp), (.ref db)])) (fun _ q => XS.iloadN X.here X.hx rfl (hb hby d6_4) rfl q) ?_
  refine Goes.by (g' := (mkF m 6 #[.val (.ref a), .val (.int sp), .val (.int ln)] [(.ref a), (.int sp), (.ref db)])) (fun _ q => XS.aloadN X.here X.hx rfl (hb hby d6_5) rfl rfl q) ?_
  refine X.getF (host := "") (Or.inl (hw _ (List.mem_of_getElem? (i := 23) rfl))) Via.refl F_words (hb hby d6_6) (fun T X => ?_)
  show Goes _ _ _ _ _ _ _ _ T (mkF m 9 #[.val (.ref a), .val (.int sp), .val (.int ln)] [(.int ww), (.int sp), (.ref db)])
  refine Goes.by (g' := (mkF m 10 #[.val (.ref a), .val (.int sp), .val (.int ln)] [(.int (sp * ww)), (.ref db)])) (fun _ q => XS.imul X.here X.hx rfl (hb hby d6_9) rfl q) ?_
  refine Goes.by (g' := (mkF m 11 #[.val (.ref a), .val (.int sp), .val (.int ln)] [(.int ln), (.int (sp * ww)), (.ref db)])) (fun _ q => XS.iloadN X.here X.hx rfl (hb hby d6_10) rfl q) ?_
  refine Goes.by (g' := (mkF m 13 #[.val (.ref a), .val (.int sp), .val (.int ln)] [(.int (64 : Int32)), (.int ln), (.int (sp * ww)), (.ref db)])) (fun _ q => XS.bipush X.here X.hx rfl (hb hby d6_11) q) ?_
  refine Goes.by (g' := (mkF m 14 #[.val (.ref a), .val (.int sp), .val (.int ln)] [(.int (ln / (64 : Int32))), (.int (sp * ww)), (.ref db)])) (fun _ q => XS.idiv X.here X.hx rfl (hb hby d6_13) rfl (by decide) q) ?_
  refine Goes.by (g' := (mkF m 15 #[.val (.ref a), .val (.int sp), .val (.int ln)] [(.int ((sp * ww) + (ln / (64 : Int32)))), (.ref db)])) (fun _ q => XS.iadd X.here X.hx rfl (hb hby d6_14) rfl q) ?_
  refine X.laload A_db (i := i) hi hN (hb hby d6_15) ?_
  show Goes _ _ _ _ _ _ _ _ T (mkF m 16 #[.val (.ref a), .val (.int sp), .val (.int ln)] [(.long (0 : Int64))])
  refine Goes.by (g' := (mkF m 17 #[.val (.ref a), .val (.int sp), .val (.int ln)] [(.long (1 : Int64)), (.long (0 : Int64))])) (fun _ q => XS.lconst X.here X.hx rfl (hb hby d6_16) q) ?_
  refine Goes.by (g' := (mkF m 18 #[.val (.ref a), .val (.int sp), .val (.int ln)] [(.int ln), (.long (1 : Int64)), (.long (0 : Int64))])) (fun _ q => XS.iloadN X.here X.hx rfl (hb hby d6_17) rfl q) ?_
  refine Goes.by (g' := (mkF m 19 #[.val (.ref a), .val (.int sp), .val (.int ln)] [(.long ((1 : Int64) <<< (ln &&& 0x3f).toInt64)), (.long (0 : Int64))])) (fun _ q => XS.lshl X.here X.hx rfl (hb hby d6_18) rfl q) ?_
  refine Goes.by (g' := (mkF m 20 #[.val (.ref a), .val (.int sp), .val (.int ln)] [(.long ((0 : Int64) &&& ((1 : Int64) <<< (ln &&& 0x3f).toInt64)))])) (fun _ q => XS.land X.here X.hx rfl (hb hby d6_19) rfl q) ?_
  refine Goes.by (g' := (mkF m 21 #[.val (.ref a), .val (.int sp), .val (.int ln)] [(.long (0 : Int64)), (.long ((0 : Int64) &&& ((1 : Int64) <<< (ln &&& 0x3f).toInt64)))])) (fun _ q => XS.lconst X.here X.hx rfl (hb hby d6_20) q) ?_
  refine Goes.by (g' := (mkF m 22 #[.val (.ref a), .val (.int sp), .val (.int ln)] [(.int (lcmpW ((0 : Int64) &&& ((1 : Int64) <<< (ln &&& 0x3f).toInt64)) (0 : Int64)))])) (fun _ q => XS.lcmp X.here X.hx rfl (hb hby d6_21) rfl q) ?_
  refine Goes.by (g' := (mkF m 29 #[.val (.ref a), .val (.int sp), .val (.int ln)] [])) (fun _ q => XS.ifYes X.here X.hx rfl (pc0 := 22) (pc' := 29) rfl (hb hby d6_22) rfl ((if0 _ _).trans (teq (show (lcmpW ((0 : Int64) &&& ((1 : Int64) <<< (ln &&& 0x3f).toInt64)) (0 : Int64)) = (0 : Int32) from (by rw [Int64.zero_and]; decide))).1) (by decide) (by decide) q) ?_
  refine Goes.by (g' := (mkF m 30 #[.val (.ref a), .val (.int sp), .val (.int ln)] [(.int (0 : Int32))])) (fun _ q => XS.iconst X.here X.hx rfl (hb hby d6_29) q) ?_
  exact X.retZ hret (hb hby d6_30) (by decide) (by decide) ⟨rfl, rfl⟩
set_option maxRecDepth 65536 in
set_option maxHeartbeats 40000000 in
theorem rm0 (l : Launch) (Z : State) (a0 : Array Value) (hw : ∀ d ∈ tables_1, d.before a0 Z = true) (n0 : Nat) (h0 : Heap) (hn0 : n0 ≤ h0.size) (ws : List Jvm.Cond) (p0 p1 p2 p3 p4 : Int32) :
    MetFree l x (head1 (Jvm.Cond.code x code maxLocals ret :: ws) room_1) (fun a U => a = #[(.int p0), (.int p1), (.int p2), (.int p3), (.int p4)] ∧ Z.Warmed39 U.vm ∧ U.heap = h0) (fun _ _ _ _ _ => True) (fun _ U o U' => ∃ v L, o = .returned v ∧ (Fr n0 L ∧ (fun (v : Option Value) (h' : Heap) => v = some (.int 1)) v U'.heap) ∧ EndF U o U' L room_1.cells room_1.slots) := by
  refine metW (Q := fun (v : Option Value) (h' : Heap) => v = some (.int 1)) pf_0 hn0 ?_
  intro p e s m below meth c T X hby hml hret hnm
  refine Goes.by (g' := (mkF m 0 #[.val (.int p0), .val (.int p1), .val (.int p2), .val (.int p3), .val (.int p4), .unset, .unset, .unset, .unset, .unset, .unset, .unset, .unset, .unset, .unset, .unset, .unset] [])) (fun _ q => castTop (by first | rfl | (simp [entryFrame, mkF, argsToLocals, Value.category, maxLocals]; done)) q) ?_
  refine Goes.by (g' := (mkF m 1 #[.val (.int p0), .val (.int p1), .val (.int p2), .val (.int p3), .val (.int p4), .unset, .unset, .unset, .unset, .unset, .unset, .unset, .unset, .unset, .unset, .unset, .unset] [(.int p0)])) (fun _ q => XS.iloadN X.here X.hx rfl (hb hby at_0) rfl q) ?_
  refine Goes.by (g' := (mkF m 3 #[.val (.int p0), .val (.int p1), .val (.int p2), .val (.int p3), .val (.int p4), .unset, .unset, .unset, .unset, .unset, .unset, .unset, .unset, .unset, .unset, .unset, .unset] [(.int (7 : Int32)), (.int p0)])) (fun _ q => XS.bipush X.here X.hx rfl (hb hby at_1) q) ?_
  refine Goes.by (g' := (mkF m 4 #[.val (.int p0), .val (.int p1), .val (.int p2), .val (.int p3), .val (.int p4), .unset, .unset, .unset, .unset, .unset, .unset, .unset, .unset, .unset, .unset, .unset, .unset] [(.int (p0 &&& (7 : Int32)))])) (fun _ q => XS.iand X.here X.hx rfl (hb hby at_3) rfl q) ?_
  refine Goes.by (g' := (mkF m 5 #[.val (.int p0), .val (.int p1), .val (.int p2), .val (.int p3), .val (.int p4), .unset, .unset, .unset, .unset, .unset, .unset, .unset, .unset, .unset, .unset, .unset, .unset] [(.int (1 : Int32)), (.int (p0 &&& (7 : Int32)))])) (fun _ q => XS.iconst X.here X.hx rfl (hb hby at_4) q) ?_
  refine Goes.by (g' := (mkF m 6 #[.val (.int p0), .val (.int p1), .val (.int p2), .val (.int p3), .val (.int p4), .unset, .unset, .unset, .unset, .unset, .unset, .unset, .unset, .unset, .unset, .unset, .unset] [(.int ((p0 &&& (7 : Int32)) + (1 : Int32)))])) (fun _ q => XS.iadd X.here X.hx rfl (hb hby at_5) rfl q) ?_
  generalize h_sm : ((p0 &&& (7 : Int32)) + (1 : Int32)) = sm
  have hsm : 1 ≤ sm.toInt ∧ sm.toInt ≤ 8 := by
    have q := c_mask p0 7 3 (by decide) (by decide)
    have q1 := oneI
    rw [← h_sm, addI (by omega) (by omega)]
    omega
  clear h_sm
  refine Goes.by (g' := (mkF m 8 #[.val (.int p0), .val (.int p1), .val (.int p2), .val (.int p3), .val (.int p4), .val (.int sm), .unset, .unset, .unset, .unset, .unset, .unset, .unset, .unset, .unset, .unset, .unset] [])) (fun _ q => XS.istore X.here X.hx rfl (hb hby at_6) rfl (l' := #[.val (.int p0), .val (.int p1), .val (.int p2), .val (.int p3), .val (.int p4), .val (.int sm), .unset, .unset, .unset, .unset, .unset, .unset, .unset, .unset, .unset, .unset, .unset]) rfl q) ?_
  refine Goes.by (g' := (mkF m 9 #[.val (.int p0), .val (.int p1), .val (.int p2), .val (.int p3), .val (.int p4), .val (.int sm), .unset, .unset, .unset, .unset, .unset, .unset, .unset, .unset, .unset, .unset, .unset] [(.int p1)])) (fun _ q => XS.iloadN X.here X.hx rfl (hb hby at_8) rfl q) ?_
  refine Goes.by (g' := (mkF m 12 #[.val (.int p0), .val (.int p1), .val (.int p2), .val (.int p3), .val (.int p4), .val (.int sm), .unset, .unset, .unset, .unset, .unset, .unset, .unset, .unset, .unset, .unset, .unset] [(.int (255 : Int32)), (.int p1)])) (fun _ q => XS.sipush X.here X.hx rfl (hb hby at_9) q) ?_
  refine Goes.by (g' := (mkF m 13 #[.val (.int p0), .val (.int p1), .val (.int p2), .val (.int p3), .val (.int p4), .val (.int sm), .unset, .unset, .unset, .unset, .unset, .unset, .unset, .unset, .unset, .unset, .unset] [(.int (p1 &&& (255 : Int32)))])) (fun _ q => XS.iand X.here X.hx rfl (hb hby at_12) rfl q) ?_
  refine Goes.by (g' := (mkF m 14 #[.val (.int p0), .val (.int p1), .val (.int p2), .val (.int p3), .val (.int p4), .val (.int sm), .unset, .unset, .unset, .unset, .unset, .unset, .unset, .unset, .unset, .unset, .unset] [(.int (1 : Int32)), (.int (p1 &&& (255 : Int32)))])) (fun _ q => XS.iconst X.here X.hx rfl (hb hby at_13) q) ?_
  refine Goes.by (g' := (mkF m 15 #[.val (.int p0), .val (.int p1), .val (.int p2), .val (.int p3), .val (.int p4), .val (.int sm), .unset, .unset, .unset, .unset, .unset, .unset, .unset, .unset, .unset, .unset, .unset] [(.int ((p1 &&& (255 : Int32)) + (1 : Int32)))])) (fun _ q => XS.iadd X.here X.hx rfl (hb hby at_14) rfl q) ?_
  generalize h_lk : ((p1 &&& (255 : Int32)) + (1 : Int32)) = lk
  have hlk : 1 ≤ lk.toInt ∧ lk.toInt ≤ 256 := by
    have q := c_mask p1 255 8 (by decide) (by decide)
    have q1 := oneI
    rw [← h_lk, addI (by omega) (by omega)]
    omega
  clear h_lk
  refine Goes.by (g' := (mkF m 17 #[.val (.int p0), .val (.int p1), .val (.int p2), .val (.int p3), .val (.int p4), .val (.int sm), .val (.int lk), .unset, .unset, .unset, .unset, .unset, .unset, .unset, .unset, .unset, .unset] [])) (fun _ q => XS.istore X.here X.hx rfl (hb hby at_15) rfl (l' := #[.val (.int p0), .val (.int p1), .val (.int p2), .val (.int p3), .val (.int p4), .val (.int sm), .val (.int lk), .unset, .unset, .unset, .unset, .unset, .unset, .unset, .unset, .unset, .unset]) rfl q) ?_
  refine Goes.by (g' := (mkF m 18 #[.val (.int p0), .val (.int p1), .val (.int p2), .val (.int p3), .val (.int p4), .val (.int sm), .val (.int lk), .unset, .unset, .unset, .unset, .unset, .unset, .unset, .unset, .unset, .unset] [(.int p2)])) (fun _ q => XS.iloadN X.here X.hx rfl (hb hby at_17) rfl q) ?_
  refine Goes.by (g' := (mkF m 19 #[.val (.int p0), .val (.int p1), .val (.int p2), .val (.int p3), .val (.int p4), .val (.int sm), .val (.int lk), .unset, .unset, .unset, .unset, .unset, .unset, .unset, .unset, .unset, .unset] [(.int (3 : Int32)), (.int p2)])) (fun _ q => XS.iconst X.here X.hx rfl (hb hby at_18) q) ?_
  refine Goes.by (g' := (mkF m 20 #[.val (.int p0), .val (.int p1), .val (.int p2), .val (.int p3), .val (.int p4), .val (.int sm), .val (.int lk), .unset, .unset, .unset, .unset, .unset, .unset, .unset, .unset, .unset, .unset] [(.int (p2 &&& (3 : Int32)))])) (fun _ q => XS.iand X.here X.hx rfl (hb hby at_19) rfl q) ?_
  generalize h_fc : (p2 &&& (3 : Int32)) = fc
  have hfc : 0 ≤ fc.toInt ∧ fc.toInt ≤ 3 := by
    have q := c_mask p2 3 2 (by decide) (by decide)
    rw [← h_fc]
    omega
  clear h_fc
  refine Goes.by (g' := (mkF m 22 #[.val (.int p0), .val (.int p1), .val (.int p2), .val (.int p3), .val (.int p4), .val (.int sm), .val (.int lk), .val (.int fc), .unset, .unset, .unset, .unset, .unset, .unset, .unset, .unset, .unset] [])) (fun _ q => XS.istore X.here X.hx rfl (hb hby at_20) rfl (l' := #[.val (.int p0), .val (.int p1), .val (.int p2), .val (.int p3), .val (.int p4), .val (.int sm), .val (.int lk), .val (.int fc), .unset, .unset, .unset, .unset, .unset, .unset, .unset, .unset, .unset]) rfl q) ?_
  refine Goes.by (g' := (mkF m 23 #[.val (.int p0), .val (.int p1), .val (.int p2), .val (.int p3), .val (.int p4), .val (.int sm), .val (.int lk), .val (.int fc), .unset, .unset, .unset, .unset, .unset, .unset, .unset, .unset, .unset] [(.int p3)])) (fun _ q => XS.iloadN X.here X.hx rfl (hb hby at_22) rfl q) ?_
  refine X.ldcI (hw _ (List.mem_of_getElem? (i := 0) rfl)) (hb hby at_23) ?_
  show Goes _ _ _ _ _ _ _ _ T (mkF m 25 #[.val (.int p0), .val (.int p1), .val (.int p2), .val (.int p3), .val (.int p4), .val (.int sm), .val (.int lk), .val (.int fc), .unset, .unset, .unset, .unset, .unset, .unset, .unset, .unset, .unset] [(.int (2147483647 : Int32)), (.int p3)])
  refine Goes.by (g' := (mkF m 26 #[.val (.int p0), .val (.int p1), .val (.int p2), .val (.int p3), .val (.int p4), .val (.int sm), .val (.int lk), .val (.int fc), .unset, .unset, .unset, .unset, .unset, .unset, .unset, .unset, .unset] [(.int (p3 &&& (2147483647 : Int32)))])) (fun _ q => XS.iand X.here X.hx rfl (hb hby at_25) rfl q) ?_
  refine Goes.by (g' := (mkF m 28 #[.val (.int p0), .val (.int p1), .val (.int p2), .val (.int p3), .val (.int p4), .val (.int sm), .val (.int lk), .val (.int fc), .unset, .unset, .unset, .unset, .unset, .unset, .unset, .unset, .unset] [(.int sm), (.int (p3 &&& (2147483647 : Int32)))])) (fun _ q => XS.iload X.here X.hx rfl (hb hby at_26) rfl q) ?_
  refine X.irem (hb hby at_28) (by intro q; rw [eqI] at q; have := zeroI; omega) ?_
  show Goes _ _ _ _ _ _ _ _ T (mkF m 29 #[.val (.int p0), .val (.int p1), .val (.int p2), .val (.int p3), .val (.int p4), .val (.int sm), .val (.int lk), .val (.int fc), .unset, .unset, .unset, .unset, .unset, .unset, .unset, .unset, .unset] [(.int ((p3 &&& (2147483647 : Int32)) % sm))])
  generalize h_sp : ((p3 &&& (2147483647 : Int32)) % sm) = sp
  have hsp : 0 ≤ sp.toInt ∧ sp.toInt < sm.toInt := by rw [← h_sp]; exact maskR p3 sm _ rfl (by omega)
  clear h_sp
  refine Goes.by (g' := (mkF m 31 #[.val (.int p0), .val (.int p1), .val (.int p2), .val (.int p3), .val (.int p4), .val (.int sm), .val (.int lk), .val (.int fc), .val (.int sp), .unset, .unset, .unset, .unset, .unset, .unset, .unset, .unset] [])) (fun _ q => XS.istore X.here X.hx rfl (hb hby at_29) rfl (l' := #[.val (.int p0), .val (.int p1), .val (.int p2), .val (.int p3), .val (.int p4), .val (.int sm), .val (.int lk), .val (.int fc), .val (.int sp), .unset, .unset, .unset, .unset, .unset, .unset, .unset, .unset]) rfl q) ?_
  refine Goes.by (g' := (mkF m 33 #[.val (.int p0), .val (.int p1), .val (.int p2), .val (.int p3), .val (.int p4), .val (.int sm), .val (.int lk), .val (.int fc), .val (.int sp), .unset, .unset, .unset, .unset, .unset, .unset, .unset, .unset] [(.int p4)])) (fun _ q => XS.iload X.here X.hx rfl (hb hby at_31) rfl q) ?_
  refine X.ldcI (hw _ (List.mem_of_getElem? (i := 0) rfl)) (hb hby at_33) ?_
  show Goes _ _ _ _ _ _ _ _ T (mkF m 35 #[.val (.int p0), .val (.int p1), .val (.int p2), .val (.int p3), .val (.int p4), .val (.int sm), .val (.int lk), .val (.int fc), .val (.int sp), .unset, .unset, .unset, .unset, .unset, .unset, .unset, .unset] [(.int (2147483647 : Int32)), (.int p4)])
  refine Goes.by (g' := (mkF m 36 #[.val (.int p0), .val (.int p1), .val (.int p2), .val (.int p3), .val (.int p4), .val (.int sm), .val (.int lk), .val (.int fc), .val (.int sp), .unset, .unset, .unset, .unset, .unset, .unset, .unset, .unset] [(.int (p4 &&& (2147483647 : Int32)))])) (fun _ q => XS.iand X.here X.hx rfl (hb hby at_35) rfl q) ?_
  refine Goes.by (g' := (mkF m 38 #[.val (.int p0), .val (.int p1), .val (.int p2), .val (.int p3), .val (.int p4), .val (.int sm), .val (.int lk), .val (.int fc), .val (.int sp), .unset, .unset, .unset, .unset, .unset, .unset, .unset, .unset] [(.int lk), (.int (p4 &&& (2147483647 : Int32)))])) (fun _ q => XS.iload X.here X.hx rfl (hb hby at_36) rfl q) ?_
  refine X.irem (hb hby at_38) (by intro q; rw [eqI] at q; have := zeroI; omega) ?_
  show Goes _ _ _ _ _ _ _ _ T (mkF m 39 #[.val (.int p0), .val (.int p1), .val (.int p2), .val (.int p3), .val (.int p4), .val (.int sm), .val (.int lk), .val (.int fc), .val (.int sp), .unset, .unset, .unset, .unset, .unset, .unset, .unset, .unset] [(.int ((p4 &&& (2147483647 : Int32)) % lk))])
  generalize h_ln : ((p4 &&& (2147483647 : Int32)) % lk) = ln
  have hln : 0 ≤ ln.toInt ∧ ln.toInt < lk.toInt := by rw [← h_ln]; exact maskR p4 lk _ rfl (by omega)
  clear h_ln
  refine Goes.by (g' := (mkF m 41 #[.val (.int p0), .val (.int p1), .val (.int p2), .val (.int p3), .val (.int p4), .val (.int sm), .val (.int lk), .val (.int fc), .val (.int sp), .val (.int ln), .unset, .unset, .unset, .unset, .unset, .unset, .unset] [])) (fun _ q => XS.istore X.here X.hx rfl (hb hby at_39) rfl (l' := #[.val (.int p0), .val (.int p1), .val (.int p2), .val (.int p3), .val (.int p4), .val (.int sm), .val (.int lk), .val (.int fc), .val (.int sp), .val (.int ln), .unset, .unset, .unset, .unset, .unset, .unset, .unset]) rfl q) ?_
  refine X.newO (hw _ (List.mem_of_getElem? (i := 1) rfl)) (hw _ (List.mem_of_getElem? (i := 2) rfl)) (hw _ (List.mem_of_getElem? (i := 3) rfl)) (hb hby at_41) (by decide) (by decide) (fun T h17 b16 X g_b16 ga_b16 E E_b16 D_b16 => ?_)
  have F_b16_loss : Fld Z h17 b16 "com/example/riskweave/riskweave/rare/LossSampler$Draws" "loss" "[D" .null := D_b16 (Or.inr (hw _ (List.mem_of_getElem? (i := 12) rfl))) (ty := (.array .double)) (by decide)
  have F_b16_logRatio : Fld Z h17 b16 "com/example/riskweave/riskweave/rare/LossSampler$Draws" "logRatio" "[D" .null := D_b16 (Or.inr (hw _ (List.mem_of_getElem? (i := 14) rfl))) (ty := (.array .double)) (by decide)
  have F_b16_factorValues : Fld Z h17 b16 "com/example/riskweave/riskweave/rare/LossSampler$Draws" "factorValues" "[[D" .null := D_b16 (Or.inr (hw _ (List.mem_of_getElem? (i := 18) rfl))) (ty := (.array (.array .double))) (by decide)
  have F_b16_words : Fld Z h17 b16 "com/example/riskweave/riskweave/rare/LossSampler$Draws" "words" "I" (.int (0 : Int32)) := D_b16 (Or.inr (hw _ (List.mem_of_getElem? (i := 24) rfl))) (ty := .int) (by decide)
  have F_b16_downBits : Fld Z h17 b16 "com/example/riskweave/riskweave/rare/LossSampler$Draws" "downBits" "[J" .null := D_b16 (Or.inr (hw _ (List.mem_of_getElem? (i := 31) rfl))) (ty := (.array .long)) (by decide)
  show Goes _ _ _ _ _ _ _ _ T (mkF m 44 #[.val (.int p0), .val (.int p1), .val (.int p2), .val (.int p3), .val (.int p4), .val (.int sm), .val (.int lk), .val (.int fc), .val (.int sp), .val (.int ln), .unset, .unset, .unset, .unset, .unset, .unset, .unset] [(.ref b16)])
  refine Goes.by (g' := (mkF m 45 #[.val (.int p0), .val (.int p1), .val (.int p2), .val (.int p3), .val (.int p4), .val (.int sm), .val (.int lk), .val (.int fc), .val (.int sp), .val (.int ln), .unset, .unset, .unset, .unset, .unset, .unset, .unset] [(.ref b16), (.ref b16)])) (fun _ q => XS.dup X.here X.hx rfl (hb hby at_44) rfl rfl q) ?_
  refine Goes.by (g' := (mkF m 47 #[.val (.int p0), .val (.int p1), .val (.int p2), .val (.int p3), .val (.int p4), .val (.int sm), .val (.int lk), .val (.int fc), .val (.int sp), .val (.int ln), .unset, .unset, .unset, .unset, .unset, .unset, .unset] [(.int sm), (.ref b16), (.ref b16)])) (fun _ q => XS.iload X.here X.hx rfl (hb hby at_45) rfl q) ?_
  refine Goes.by (g' := (mkF m 49 #[.val (.int p0), .val (.int p1), .val (.int p2), .val (.int p3), .val (.int p4), .val (.int sm), .val (.int lk), .val (.int fc), .val (.int sp), .val (.int ln), .unset, .unset, .unset, .unset, .unset, .unset, .unset] [(.int fc), (.int sm), (.ref b16), (.ref b16)])) (fun _ q => XS.iload X.here X.hx rfl (hb hby at_47) rfl q) ?_
  refine Goes.by (g' := (mkF m 51 #[.val (.int p0), .val (.int p1), .val (.int p2), .val (.int p3), .val (.int p4), .val (.int sm), .val (.int lk), .val (.int fc), .val (.int sp), .val (.int ln), .unset, .unset, .unset, .unset, .unset, .unset, .unset] [(.int lk), (.int fc), (.int sm), (.ref b16), (.ref b16)])) (fun _ q => XS.iload X.here X.hx rfl (hb hby at_49) rfl q) ?_
  have X_o := X
  refine X.callN rfl (hw _ (List.mem_of_getElem? (i := 4) rfl)) (hw _ (List.mem_of_getElem? (i := 5) rfl)) (hw _ (List.mem_of_getElem? (i := 3) rfl)) (hw _ (List.mem_of_getElem? (i := 6) rfl)) (by decide) pd_1786748551 (argsL := [(.int sm), (.int fc), (.int lk)]) rfl (rmC l Z a0 hw n0 h17 X.n0le b16 sm fc lk (by omega) (by omega) (by omega) (by omega) (by omega) (by omega) ga_b16 E_b16 F_b16_loss F_b16_logRatio F_b16_factorValues F_b16_words F_b16_downBits) (by rw [hml]; rfl) rfl (by decide) (leB rfl) (hb hby at_51) (by decide) (by decide) (fun T h18 v X hQ => ?_)
  obtain ⟨rfl, K, ls, db, ww, hww, F_b16_loss, F_b16_words, F_b16_downBits, A_ls, A_db⟩ := hQ
  have E_b16 := E_b16.keep K
  show Goes _ _ _ _ _ _ _ _ T (mkF m 54 #[.val (.int p0), .val (.int p1), .val (.int p2), .val (.int p3), .val (.int p4), .val (.int sm), .val (.int lk), .val (.int fc), .val (.int sp), .val (.int ln), .unset, .unset, .unset, .unset, .unset, .unset, .unset] [(.ref b16)])
  refine Goes.by (g' := (mkF m 56 #[.val (.int p0), .val (.int p1), .val (.int p2), .val (.int p3), .val (.int p4), .val (.int sm), .val (.int lk), .val (.int fc), .val (.int sp), .val (.int ln), .val (.ref b16), .unset, .unset, .unset, .unset, .unset, .unset] [])) (fun _ q => XS.astore X.here X.hx rfl (hb hby at_54) rfl rfl (l' := #[.val (.int p0), .val (.int p1), .val (.int p2), .val (.int p3), .val (.int p4), .val (.int sm), .val (.int lk), .val (.int fc), .val (.int sp), .val (.int ln), .val (.ref b16), .unset, .unset, .unset, .unset, .unset, .unset]) rfl q) ?_
  refine Goes.by (g' := (mkF m 58 #[.val (.int p0), .val (.int p1), .val (.int p2), .val (.int p3), .val (.int p4), .val (.int sm), .val (.int lk), .val (.int fc), .val (.int sp), .val (.int ln), .val (.ref b16), .unset, .unset, .unset, .unset, .unset, .unset] [(.int sm)])) (fun _ q => XS.iload X.here X.hx rfl (hb hby at_56) rfl q) ?_
  refine Goes.by (g' := (mkF m 59 #[.val (.int p0), .val (.int p1), .val (.int p2), .val (.int p3), .val (.int p4), .val (.int sm), .val (.int lk), .val (.int fc), .val (.int sp), .val (.int ln), .val (.ref b16), .unset, .unset, .unset, .unset, .unset, .unset] [(.int (1 : Int32)), (.int sm)])) (fun _ q => XS.iconst X.here X.hx rfl (hb hby at_58) q) ?_
  refine Goes.by (g' := (mkF m 60 #[.val (.int p0), .val (.int p1), .val (.int p2), .val (.int p3), .val (.int p4), .val (.int sm), .val (.int lk), .val (.int fc), .val (.int sp), .val (.int ln), .val (.ref b16), .unset, .unset, .unset, .unset, .unset, .unset] [(.int (sm - (1 : Int32)))])) (fun _ q => XS.isub X.here X.hx rfl (hb hby at_59) rfl q) ?_
  generalize h_ls1 : (sm - (1 : Int32)) = ls1
  have hls1 : ls1.toInt = sm.toInt - 1 := by
    have q1 := oneI
    rw [← h_ls1, subI (by omega) (by omega), q1]
  clear h_ls1
  refine Goes.by (g' := (mkF m 62 #[.val (.int p0), .val (.int p1), .val (.int p2), .val (.int p3), .val (.int p4), .val (.int sm), .val (.int lk), .val (.int fc), .val (.int sp), .val (.int ln), .val (.ref b16), .val (.int ls1), .unset, .unset, .unset, .unset, .unset] [])) (fun _ q => XS.istore X.here X.hx rfl (hb hby at_60) rfl (l' := #[.val (.int p0), .val (.int p1), .val (.int p2), .val (.int p3), .val (.int p4), .val (.int sm), .val (.int lk), .val (.int fc), .val (.int sp), .val (.int ln), .val (.ref b16), .val (.int ls1), .unset, .unset, .unset, .unset, .unset]) rfl q) ?_
  refine Goes.by (g' := (mkF m 64 #[.val (.int p0), .val (.int p1), .val (.int p2), .val (.int p3), .val (.int p4), .val (.int sm), .val (.int lk), .val (.int fc), .val (.int sp), .val (.int ln), .val (.ref b16), .val (.int ls1), .unset, .unset, .unset, .unset, .unset] [(.int lk)])) (fun _ q => XS.iload X.here X.hx rfl (hb hby at_62) rfl q) ?_
  refine Goes.by (g' := (mkF m 65 #[.val (.int p0), .val (.int p1), .val (.int p2), .val (.int p3), .val (.int p4), .val (.int sm), .val (.int lk), .val (.int fc), .val (.int sp), .val (.int ln), .val (.ref b16), .val (.int ls1), .unset, .unset, .unset, .unset, .unset] [(.int (1 : Int32)), (.int lk)])) (fun _ q => XS.iconst X.here X.hx rfl (hb hby at_64) q) ?_
  refine Goes.by (g' := (mkF m 66 #[.val (.int p0), .val (.int p1), .val (.int p2), .val (.int p3), .val (.int p4), .val (.int sm), .val (.int lk), .val (.int fc), .val (.int sp), .val (.int ln), .val (.ref b16), .val (.int ls1), .unset, .unset, .unset, .unset, .unset] [(.int (lk - (1 : Int32)))])) (fun _ q => XS.isub X.here X.hx rfl (hb hby at_65) rfl q) ?_
  generalize h_ll1 : (lk - (1 : Int32)) = ll1
  have hll1 : ll1.toInt = lk.toInt - 1 := by
    have q1 := oneI
    rw [← h_ll1, subI (by omega) (by omega), q1]
  have hz0 := zeroI
  clear h_ll1
  refine Goes.by (g' := (mkF m 68 #[.val (.int p0), .val (.int p1), .val (.int p2), .val (.int p3), .val (.int p4), .val (.int sm), .val (.int lk), .val (.int fc), .val (.int sp), .val (.int ln), .val (.ref b16), .val (.int ls1), .val (.int ll1), .unset, .unset, .unset, .unset] [])) (fun _ q => XS.istore X.here X.hx rfl (hb hby at_66) rfl (l' := #[.val (.int p0), .val (.int p1), .val (.int p2), .val (.int p3), .val (.int p4), .val (.int sm), .val (.int lk), .val (.int fc), .val (.int sp), .val (.int ln), .val (.ref b16), .val (.int ls1), .val (.int ll1), .unset, .unset, .unset, .unset]) rfl q) ?_
  refine Goes.by (g' := (mkF m 70 #[.val (.int p0), .val (.int p1), .val (.int p2), .val (.int p3), .val (.int p4), .val (.int sm), .val (.int lk), .val (.int fc), .val (.int sp), .val (.int ln), .val (.ref b16), .val (.int ls1), .val (.int ll1), .unset, .unset, .unset, .unset] [(.ref b16)])) (fun _ q => XS.aload X.here X.hx rfl (hb hby at_68) rfl rfl q) ?_
  have X_o := X
  refine X.callV E_b16 (hw _ (List.mem_of_getElem? (i := 32) rfl)) (hw _ (List.mem_of_getElem? (i := 33) rfl)) (hw _ (List.mem_of_getElem? (i := 35) rfl)) (hw _ (List.mem_of_getElem? (i := 35) rfl)) rfl (hw _ (List.mem_of_getElem? (i := 34) rfl)) (hw _ (List.mem_of_getElem? (i := 3) rfl)) (hw _ (List.mem_of_getElem? (i := 36) rfl)) (by decide) pd_193421983 (argsL := []) rfl (rmS l Z a0 hw n0 h18 X.n0le b16 ls sm (by omega) F_b16_loss A_ls) (by rw [hml]; rfl) rfl (by decide) (leB rfl) (hb hby at_70) (by decide) (by decide) (fun T h19 v X hQ => ?_)
  obtain ⟨rfl, hh⟩ := hQ
  rw [hh] at X
  clear hh
  show Goes _ _ _ _ _ _ _ _ T (mkF m 73 #[.val (.int p0), .val (.int p1), .val (.int p2), .val (.int p3), .val (.int p4), .val (.int sm), .val (.int lk), .val (.int fc), .val (.int sp), .val (.int ln), .val (.ref b16), .val (.int ls1), .val (.int ll1), .unset, .unset, .unset, .unset] [(.int sm)])
  refine Goes.by (g' := (mkF m 75 #[.val (.int p0), .val (.int p1), .val (.int p2), .val (.int p3), .val (.int p4), .val (.int sm), .val (.int lk), .val (.int fc), .val (.int sp), .val (.int ln), .val (.ref b16), .val (.int ls1), .val (.int ll1), .unset, .unset, .unset, .unset] [(.int sm), (.int sm)])) (fun _ q => XS.iload X.here X.hx rfl (hb hby at_73) rfl q) ?_
  refine Goes.by (g' := (mkF m 78 #[.val (.int p0), .val (.int p1), .val (.int p2), .val (.int p3), .val (.int p4), .val (.int sm), .val (.int lk), .val (.int fc), .val (.int sp), .val (.int ln), .val (.ref b16), .val (.int ls1), .val (.int ll1), .unset, .unset, .unset, .unset] [])) (fun _ q => XS.icmpNo X.here X.hx rfl (hb hby at_75) rfl (teq (show sm = sm from rfl)).2 q) ?_
  refine Goes.by (g' := (mkF m 79 #[.val (.int p0), .val (.int p1), .val (.int p2), .val (.int p3), .val (.int p4), .val (.int sm), .val (.int lk), .val (.int fc), .val (.int sp), .val (.int ln), .val (.ref b16), .val (.int ls1), .val (.int ll1), .unset, .unset, .unset, .unset] [(.int (1 : Int32))])) (fun _ q => XS.iconst X.here X.hx rfl (hb hby at_78) q) ?_
  refine Goes.by (g' := (mkF m 83 #[.val (.int p0), .val (.int p1), .val (.int p2), .val (.int p3), .val (.int p4), .val (.int sm), .val (.int lk), .val (.int fc), .val (.int sp), .val (.int ln), .val (.ref b16), .val (.int ls1), .val (.int ll1), .unset, .unset, .unset, .unset] [(.int (1 : Int32))])) (fun _ q => XS.goto X.here X.hx rfl (pc0 := 79) (pc' := 83) rfl (hb hby at_79) (by decide) (by decide) q) ?_
  refine Goes.by (g' := (mkF m 85 #[.val (.int p0), .val (.int p1), .val (.int p2), .val (.int p3), .val (.int p4), .val (.int sm), .val (.int lk), .val (.int fc), .val (.int sp), .val (.int ln), .val (.ref b16), .val (.int ls1), .val (.int ll1), .val (.int (1 : Int32)), .unset, .unset, .unset] [])) (fun _ q => XS.istore X.here X.hx rfl (hb hby at_83) rfl (l' := #[.val (.int p0), .val (.int p1), .val (.int p2), .val (.int p3), .val (.int p4), .val (.int sm), .val (.int lk), .val (.int fc), .val (.int sp), .val (.int ln), .val (.ref b16), .val (.int ls1), .val (.int ll1), .val (.int (1 : Int32)), .unset, .unset, .unset]) rfl q) ?_
  refine Goes.by (g' := (mkF m 87 #[.val (.int p0), .val (.int p1), .val (.int p2), .val (.int p3), .val (.int p4), .val (.int sm), .val (.int lk), .val (.int fc), .val (.int sp), .val (.int ln), .val (.ref b16), .val (.int ls1), .val (.int ll1), .val (.int (1 : Int32)), .unset, .unset, .unset] [(.ref b16)])) (fun _ q => XS.aload X.here X.hx rfl (hb hby at_85) rfl rfl q) ?_
  refine Goes.by (g' := (mkF m 89 #[.val (.int p0), .val (.int p1), .val (.int p2), .val (.int p3), .val (.int p4), .val (.int sm), .val (.int lk), .val (.int fc), .val (.int sp), .val (.int ln), .val (.ref b16), .val (.int ls1), .val (.int ll1), .val (.int (1 : Int32)), .unset, .unset, .unset] [(.int sp), (.ref b16)])) (fun _ q => XS.iload X.here X.hx rfl (hb hby at_87) rfl q) ?_
  refine Goes.by (g' := (mkF m 91 #[.val (.int p0), .val (.int p1), .val (.int p2), .val (.int p3), .val (.int p4), .val (.int sm), .val (.int lk), .val (.int fc), .val (.int sp), .val (.int ln), .val (.ref b16), .val (.int ls1), .val (.int ll1), .val (.int (1 : Int32)), .unset, .unset, .unset] [(.int ln), (.int sp), (.ref b16)])) (fun _ q => XS.iload X.here X.hx rfl (hb hby at_89) rfl q) ?_
  obtain ⟨ix, hix, hixN⟩ : ∃ i : Nat, (sp * ww + ln / 64).toInt = i ∧ i < (sm.toInt * ww.toInt).toNat := idxD hww (by omega) (by omega) (by omega) (by omega) (by omega) (by omega)
  have X_o := X
  refine X.callV E_b16 (hw _ (List.mem_of_getElem? (i := 37) rfl)) (hw _ (List.mem_of_getElem? (i := 38) rfl)) (hw _ (List.mem_of_getElem? (i := 40) rfl)) (hw _ (List.mem_of_getElem? (i := 35) rfl)) rfl (hw _ (List.mem_of_getElem? (i := 39) rfl)) (hw _ (List.mem_of_getElem? (i := 3) rfl)) (hw _ (List.mem_of_getElem? (i := 41) rfl)) (by decide) pd_184293410 (argsL := [(.int sp), (.int ln)]) rfl (rmD l Z a0 hw n0 h18 X.n0le b16 db sp ln ww _ ix hix hixN F_b16_downBits F_b16_words A_db) (by rw [hml]; rfl) rfl (by decide) (leB rfl) (hb hby at_91) (by decide) (by decide) (fun T h20 v X hQ => ?_)
  obtain ⟨rfl, hh⟩ := hQ
  rw [hh] at X
  clear hh
  show Goes _ _ _ _ _ _ _ _ T (mkF m 94 #[.val (.int p0), .val (.int p1), .val (.int p2), .val (.int p3), .val (.int p4), .val (.int sm), .val (.int lk), .val (.int fc), .val (.int sp), .val (.int ln), .val (.ref b16), .val (.int ls1), .val (.int ll1), .val (.int (1 : Int32)), .unset, .unset, .unset] [(.int (0 : Int32))])
  refine Goes.by (g' := (mkF m 97 #[.val (.int p0), .val (.int p1), .val (.int p2), .val (.int p3), .val (.int p4), .val (.int sm), .val (.int lk), .val (.int fc), .val (.int sp), .val (.int ln), .val (.ref b16), .val (.int ls1), .val (.int ll1), .val (.int (1 : Int32)), .unset, .unset, .unset] [])) (fun _ q => XS.ifNo X.here X.hx rfl (hb hby at_94) rfl ((if0 _ _).trans (teq (show (0 : Int32) = (0 : Int32) from (by decide))).2) q) ?_
  refine Goes.by (g' := (mkF m 98 #[.val (.int p0), .val (.int p1), .val (.int p2), .val (.int p3), .val (.int p4), .val (.int sm), .val (.int lk), .val (.int fc), .val (.int sp), .val (.int ln), .val (.ref b16), .val (.int ls1), .val (.int ll1), .val (.int (1 : Int32)), .unset, .unset, .unset] [(.int (1 : Int32))])) (fun _ q => XS.iconst X.here X.hx rfl (hb hby at_97) q) ?_
  refine Goes.by (g' := (mkF m 102 #[.val (.int p0), .val (.int p1), .val (.int p2), .val (.int p3), .val (.int p4), .val (.int sm), .val (.int lk), .val (.int fc), .val (.int sp), .val (.int ln), .val (.ref b16), .val (.int ls1), .val (.int ll1), .val (.int (1 : Int32)), .unset, .unset, .unset] [(.int (1 : Int32))])) (fun _ q => XS.goto X.here X.hx rfl (pc0 := 98) (pc' := 102) rfl (hb hby at_98) (by decide) (by decide) q) ?_
  refine Goes.by (g' := (mkF m 104 #[.val (.int p0), .val (.int p1), .val (.int p2), .val (.int p3), .val (.int p4), .val (.int sm), .val (.int lk), .val (.int fc), .val (.int sp), .val (.int ln), .val (.ref b16), .val (.int ls1), .val (.int ll1), .val (.int (1 : Int32)), .val (.int (1 : Int32)), .unset, .unset] [])) (fun _ q => XS.istore X.here X.hx rfl (hb hby at_102) rfl (l' := #[.val (.int p0), .val (.int p1), .val (.int p2), .val (.int p3), .val (.int p4), .val (.int sm), .val (.int lk), .val (.int fc), .val (.int sp), .val (.int ln), .val (.ref b16), .val (.int ls1), .val (.int ll1), .val (.int (1 : Int32)), .val (.int (1 : Int32)), .unset, .unset]) rfl q) ?_
  refine Goes.by (g' := (mkF m 106 #[.val (.int p0), .val (.int p1), .val (.int p2), .val (.int p3), .val (.int p4), .val (.int sm), .val (.int lk), .val (.int fc), .val (.int sp), .val (.int ln), .val (.ref b16), .val (.int ls1), .val (.int ll1), .val (.int (1 : Int32)), .val (.int (1 : Int32)), .unset, .unset] [(.ref b16)])) (fun _ q => XS.aload X.here X.hx rfl (hb hby at_104) rfl rfl q) ?_
  refine Goes.by (g' := (mkF m 108 #[.val (.int p0), .val (.int p1), .val (.int p2), .val (.int p3), .val (.int p4), .val (.int sm), .val (.int lk), .val (.int fc), .val (.int sp), .val (.int ln), .val (.ref b16), .val (.int ls1), .val (.int ll1), .val (.int (1 : Int32)), .val (.int (1 : Int32)), .unset, .unset] [(.int ls1), (.ref b16)])) (fun _ q => XS.iload X.here X.hx rfl (hb hby at_106) rfl q) ?_
  refine Goes.by (g' := (mkF m 110 #[.val (.int p0), .val (.int p1), .val (.int p2), .val (.int p3), .val (.int p4), .val (.int sm), .val (.int lk), .val (.int fc), .val (.int sp), .val (.int ln), .val (.ref b16), .val (.int ls1), .val (.int ll1), .val (.int (1 : Int32)), .val (.int (1 : Int32)), .unset, .unset] [(.int ll1), (.int ls1), (.ref b16)])) (fun _ q => XS.iload X.here X.hx rfl (hb hby at_108) rfl q) ?_
  obtain ⟨ix, hix, hixN⟩ : ∃ i : Nat, (ls1 * ww + ll1 / 64).toInt = i ∧ i < (sm.toInt * ww.toInt).toNat := idxD hww (by omega) (by omega) (by omega) (by omega) (by omega) (by omega)
  have X_o := X
  refine X.callV E_b16 (hw _ (List.mem_of_getElem? (i := 37) rfl)) (hw _ (List.mem_of_getElem? (i := 38) rfl)) (hw _ (List.mem_of_getElem? (i := 40) rfl)) (hw _ (List.mem_of_getElem? (i := 35) rfl)) rfl (hw _ (List.mem_of_getElem? (i := 39) rfl)) (hw _ (List.mem_of_getElem? (i := 3) rfl)) (hw _ (List.mem_of_getElem? (i := 41) rfl)) (by decide) pd_184293410 (argsL := [(.int ls1), (.int ll1)]) rfl (rmD l Z a0 hw n0 h18 X.n0le b16 db ls1 ll1 ww _ ix hix hixN F_b16_downBits F_b16_words A_db) (by rw [hml]; rfl) rfl (by decide) (leB rfl) (hb hby at_110) (by decide) (by decide) (fun T h21 v X hQ => ?_)
  obtain ⟨rfl, hh⟩ := hQ
  rw [hh] at X
  clear hh
  show Goes _ _ _ _ _ _ _ _ T (mkF m 113 #[.val (.int p0), .val (.int p1), .val (.int p2), .val (.int p3), .val (.int p4), .val (.int sm), .val (.int lk), .val (.int fc), .val (.int sp), .val (.int ln), .val (.ref b16), .val (.int ls1), .val (.int ll1), .val (.int (1 : Int32)), .val (.int (1 : Int32)), .unset, .unset] [(.int (0 : Int32))])
  refine Goes.by (g' := (mkF m 116 #[.val (.int p0), .val (.int p1), .val (.int p2), .val (.int p3), .val (.int p4), .val (.int sm), .val (.int lk), .val (.int fc), .val (.int sp), .val (.int ln), .val (.ref b16), .val (.int ls1), .val (.int ll1), .val (.int (1 : Int32)), .val (.int (1 : Int32)), .unset, .unset] [])) (fun _ q => XS.ifNo X.here X.hx rfl (hb hby at_113) rfl ((if0 _ _).trans (teq (show (0 : Int32) = (0 : Int32) from (by decide))).2) q) ?_
  refine Goes.by (g' := (mkF m 117 #[.val (.int p0), .val (.int p1), .val (.int p2), .val (.int p3), .val (.int p4), .val (.int sm), .val (.int lk), .val (.int fc), .val (.int sp), .val (.int ln), .val (.ref b16), .val (.int ls1), .val (.int ll1), .val (.int (1 : Int32)), .val (.int (1 : Int32)), .unset, .unset] [(.int (1 : Int32))])) (fun _ q => XS.iconst X.here X.hx rfl (hb hby at_116) q) ?_
  refine Goes.by (g' := (mkF m 121 #[.val (.int p0), .val (.int p1), .val (.int p2), .val (.int p3), .val (.int p4), .val (.int sm), .val (.int lk), .val (.int fc), .val (.int sp), .val (.int ln), .val (.ref b16), .val (.int ls1), .val (.int ll1), .val (.int (1 : Int32)), .val (.int (1 : Int32)), .unset, .unset] [(.int (1 : Int32))])) (fun _ q => XS.goto X.here X.hx rfl (pc0 := 117) (pc' := 121) rfl (hb hby at_117) (by decide) (by decide) q) ?_
  refine Goes.by (g' := (mkF m 123 #[.val (.int p0), .val (.int p1), .val (.int p2), .val (.int p3), .val (.int p4), .val (.int sm), .val (.int lk), .val (.int fc), .val (.int sp), .val (.int ln), .val (.ref b16), .val (.int ls1), .val (.int ll1), .val (.int (1 : Int32)), .val (.int (1 : Int32)), .val (.int (1 : Int32)), .unset] [])) (fun _ q => XS.istore X.here X.hx rfl (hb hby at_121) rfl (l' := #[.val (.int p0), .val (.int p1), .val (.int p2), .val (.int p3), .val (.int p4), .val (.int sm), .val (.int lk), .val (.int fc), .val (.int sp), .val (.int ln), .val (.ref b16), .val (.int ls1), .val (.int ll1), .val (.int (1 : Int32)), .val (.int (1 : Int32)), .val (.int (1 : Int32)), .unset]) rfl q) ?_
  refine Goes.by (g' := (mkF m 125 #[.val (.int p0), .val (.int p1), .val (.int p2), .val (.int p3), .val (.int p4), .val (.int sm), .val (.int lk), .val (.int fc), .val (.int sp), .val (.int ln), .val (.ref b16), .val (.int ls1), .val (.int ll1), .val (.int (1 : Int32)), .val (.int (1 : Int32)), .val (.int (1 : Int32)), .unset] [(.ref b16)])) (fun _ q => XS.aload X.here X.hx rfl (hb hby at_123) rfl rfl q) ?_
  refine Goes.by (g' := (mkF m 126 #[.val (.int p0), .val (.int p1), .val (.int p2), .val (.int p3), .val (.int p4), .val (.int sm), .val (.int lk), .val (.int fc), .val (.int sp), .val (.int ln), .val (.ref b16), .val (.int ls1), .val (.int ll1), .val (.int (1 : Int32)), .val (.int (1 : Int32)), .val (.int (1 : Int32)), .unset] [(.int (0 : Int32)), (.ref b16)])) (fun _ q => XS.iconst X.here X.hx rfl (hb hby at_125) q) ?_
  refine Goes.by (g' := (mkF m 127 #[.val (.int p0), .val (.int p1), .val (.int p2), .val (.int p3), .val (.int p4), .val (.int sm), .val (.int lk), .val (.int fc), .val (.int sp), .val (.int ln), .val (.ref b16), .val (.int ls1), .val (.int ll1), .val (.int (1 : Int32)), .val (.int (1 : Int32)), .val (.int (1 : Int32)), .unset] [(.int (0 : Int32)), (.int (0 : Int32)), (.ref b16)])) (fun _ q => XS.iconst X.here X.hx rfl (hb hby at_126) q) ?_
  obtain ⟨ix, hix, hixN⟩ : ∃ i : Nat, ((0 : Int32) * ww + (0 : Int32) / 64).toInt = i ∧ i < (sm.toInt * ww.toInt).toNat := idxD hww (by omega) (by omega) (by omega) (by omega) (by omega) (by omega)
  have X_o := X
  refine X.callV E_b16 (hw _ (List.mem_of_getElem? (i := 37) rfl)) (hw _ (List.mem_of_getElem? (i := 38) rfl)) (hw _ (List.mem_of_getElem? (i := 40) rfl)) (hw _ (List.mem_of_getElem? (i := 35) rfl)) rfl (hw _ (List.mem_of_getElem? (i := 39) rfl)) (hw _ (List.mem_of_getElem? (i := 3) rfl)) (hw _ (List.mem_of_getElem? (i := 41) rfl)) (by decide) pd_184293410 (argsL := [(.int (0 : Int32)), (.int (0 : Int32))]) rfl (rmD l Z a0 hw n0 h18 X.n0le b16 db (0 : Int32) (0 : Int32) ww _ ix hix hixN F_b16_downBits F_b16_words A_db) (by rw [hml]; rfl) rfl (by decide) (leB rfl) (hb hby at_127) (by decide) (by decide) (fun T h22 v X hQ => ?_)
  obtain ⟨rfl, hh⟩ := hQ
  rw [hh] at X
  clear hh
  show Goes _ _ _ _ _ _ _ _ T (mkF m 130 #[.val (.int p0), .val (.int p1), .val (.int p2), .val (.int p3), .val (.int p4), .val (.int sm), .val (.int lk), .val (.int fc), .val (.int sp), .val (.int ln), .val (.ref b16), .val (.int ls1), .val (.int ll1), .val (.int (1 : Int32)), .val (.int (1 : Int32)), .val (.int (1 : Int32)), .unset] [(.int (0 : Int32))])
  refine Goes.by (g' := (mkF m 133 #[.val (.int p0), .val (.int p1), .val (.int p2), .val (.int p3), .val (.int p4), .val (.int sm), .val (.int lk), .val (.int fc), .val (.int sp), .val (.int ln), .val (.ref b16), .val (.int ls1), .val (.int ll1), .val (.int (1 : Int32)), .val (.int (1 : Int32)), .val (.int (1 : Int32)), .unset] [])) (fun _ q => XS.ifNo X.here X.hx rfl (hb hby at_130) rfl ((if0 _ _).trans (teq (show (0 : Int32) = (0 : Int32) from (by decide))).2) q) ?_
  refine Goes.by (g' := (mkF m 134 #[.val (.int p0), .val (.int p1), .val (.int p2), .val (.int p3), .val (.int p4), .val (.int sm), .val (.int lk), .val (.int fc), .val (.int sp), .val (.int ln), .val (.ref b16), .val (.int ls1), .val (.int ll1), .val (.int (1 : Int32)), .val (.int (1 : Int32)), .val (.int (1 : Int32)), .unset] [(.int (1 : Int32))])) (fun _ q => XS.iconst X.here X.hx rfl (hb hby at_133) q) ?_
  refine Goes.by (g' := (mkF m 138 #[.val (.int p0), .val (.int p1), .val (.int p2), .val (.int p3), .val (.int p4), .val (.int sm), .val (.int lk), .val (.int fc), .val (.int sp), .val (.int ln), .val (.ref b16), .val (.int ls1), .val (.int ll1), .val (.int (1 : Int32)), .val (.int (1 : Int32)), .val (.int (1 : Int32)), .unset] [(.int (1 : Int32))])) (fun _ q => XS.goto X.here X.hx rfl (pc0 := 134) (pc' := 138) rfl (hb hby at_134) (by decide) (by decide) q) ?_
  refine Goes.by (g' := (mkF m 140 #[.val (.int p0), .val (.int p1), .val (.int p2), .val (.int p3), .val (.int p4), .val (.int sm), .val (.int lk), .val (.int fc), .val (.int sp), .val (.int ln), .val (.ref b16), .val (.int ls1), .val (.int ll1), .val (.int (1 : Int32)), .val (.int (1 : Int32)), .val (.int (1 : Int32)), .val (.int (1 : Int32))] [])) (fun _ q => XS.istore X.here X.hx rfl (hb hby at_138) rfl (l' := #[.val (.int p0), .val (.int p1), .val (.int p2), .val (.int p3), .val (.int p4), .val (.int sm), .val (.int lk), .val (.int fc), .val (.int sp), .val (.int ln), .val (.ref b16), .val (.int ls1), .val (.int ll1), .val (.int (1 : Int32)), .val (.int (1 : Int32)), .val (.int (1 : Int32)), .val (.int (1 : Int32))]) rfl q) ?_
  refine Goes.by (g' := (mkF m 142 #[.val (.int p0), .val (.int p1), .val (.int p2), .val (.int p3), .val (.int p4), .val (.int sm), .val (.int lk), .val (.int fc), .val (.int sp), .val (.int ln), .val (.ref b16), .val (.int ls1), .val (.int ll1), .val (.int (1 : Int32)), .val (.int (1 : Int32)), .val (.int (1 : Int32)), .val (.int (1 : Int32))] [(.int (1 : Int32))])) (fun _ q => XS.iload X.here X.hx rfl (hb hby at_140) rfl q) ?_
  refine Goes.by (g' := (mkF m 145 #[.val (.int p0), .val (.int p1), .val (.int p2), .val (.int p3), .val (.int p4), .val (.int sm), .val (.int lk), .val (.int fc), .val (.int sp), .val (.int ln), .val (.ref b16), .val (.int ls1), .val (.int ll1), .val (.int (1 : Int32)), .val (.int (1 : Int32)), .val (.int (1 : Int32)), .val (.int (1 : Int32))] [])) (fun _ q => XS.ifNo X.here X.hx rfl (hb hby at_142) rfl ((if0 _ _).trans (feq (show ¬ (1 : Int32) = (0 : Int32) from (by decide))).1) q) ?_
  refine Goes.by (g' := (mkF m 147 #[.val (.int p0), .val (.int p1), .val (.int p2), .val (.int p3), .val (.int p4), .val (.int sm), .val (.int lk), .val (.int fc), .val (.int sp), .val (.int ln), .val (.ref b16), .val (.int ls1), .val (.int ll1), .val (.int (1 : Int32)), .val (.int (1 : Int32)), .val (.int (1 : Int32)), .val (.int (1 : Int32))] [(.int (1 : Int32))])) (fun _ q => XS.iload X.here X.hx rfl (hb hby at_145) rfl q) ?_
  refine Goes.by (g' := (mkF m 150 #[.val (.int p0), .val (.int p1), .val (.int p2), .val (.int p3), .val (.int p4), .val (.int sm), .val (.int lk), .val (.int fc), .val (.int sp), .val (.int ln), .val (.ref b16), .val (.int ls1), .val (.int ll1), .val (.int (1 : Int32)), .val (.int (1 : Int32)), .val (.int (1 : Int32)), .val (.int (1 : Int32))] [])) (fun _ q => XS.ifNo X.here X.hx rfl (hb hby at_147) rfl ((if0 _ _).trans (feq (show ¬ (1 : Int32) = (0 : Int32) from (by decide))).1) q) ?_
  refine Goes.by (g' := (mkF m 152 #[.val (.int p0), .val (.int p1), .val (.int p2), .val (.int p3), .val (.int p4), .val (.int sm), .val (.int lk), .val (.int fc), .val (.int sp), .val (.int ln), .val (.ref b16), .val (.int ls1), .val (.int ll1), .val (.int (1 : Int32)), .val (.int (1 : Int32)), .val (.int (1 : Int32)), .val (.int (1 : Int32))] [(.int (1 : Int32))])) (fun _ q => XS.iload X.here X.hx rfl (hb hby at_150) rfl q) ?_
  refine Goes.by (g' := (mkF m 155 #[.val (.int p0), .val (.int p1), .val (.int p2), .val (.int p3), .val (.int p4), .val (.int sm), .val (.int lk), .val (.int fc), .val (.int sp), .val (.int ln), .val (.ref b16), .val (.int ls1), .val (.int ll1), .val (.int (1 : Int32)), .val (.int (1 : Int32)), .val (.int (1 : Int32)), .val (.int (1 : Int32))] [])) (fun _ q => XS.ifNo X.here X.hx rfl (hb hby at_152) rfl ((if0 _ _).trans (feq (show ¬ (1 : Int32) = (0 : Int32) from (by decide))).1) q) ?_
  refine Goes.by (g' := (mkF m 157 #[.val (.int p0), .val (.int p1), .val (.int p2), .val (.int p3), .val (.int p4), .val (.int sm), .val (.int lk), .val (.int fc), .val (.int sp), .val (.int ln), .val (.ref b16), .val (.int ls1), .val (.int ll1), .val (.int (1 : Int32)), .val (.int (1 : Int32)), .val (.int (1 : Int32)), .val (.int (1 : Int32))] [(.int (1 : Int32))])) (fun _ q => XS.iload X.here X.hx rfl (hb hby at_155) rfl q) ?_
  refine Goes.by (g' := (mkF m 160 #[.val (.int p0), .val (.int p1), .val (.int p2), .val (.int p3), .val (.int p4), .val (.int sm), .val (.int lk), .val (.int fc), .val (.int sp), .val (.int ln), .val (.ref b16), .val (.int ls1), .val (.int ll1), .val (.int (1 : Int32)), .val (.int (1 : Int32)), .val (.int (1 : Int32)), .val (.int (1 : Int32))] [])) (fun _ q => XS.ifNo X.here X.hx rfl (hb hby at_157) rfl ((if0 _ _).trans (feq (show ¬ (1 : Int32) = (0 : Int32) from (by decide))).1) q) ?_
  refine Goes.by (g' := (mkF m 161 #[.val (.int p0), .val (.int p1), .val (.int p2), .val (.int p3), .val (.int p4), .val (.int sm), .val (.int lk), .val (.int fc), .val (.int sp), .val (.int ln), .val (.ref b16), .val (.int ls1), .val (.int ll1), .val (.int (1 : Int32)), .val (.int (1 : Int32)), .val (.int (1 : Int32)), .val (.int (1 : Int32))] [(.int (1 : Int32))])) (fun _ q => XS.iconst X.here X.hx rfl (hb hby at_160) q) ?_
  refine Goes.by (g' := (mkF m 165 #[.val (.int p0), .val (.int p1), .val (.int p2), .val (.int p3), .val (.int p4), .val (.int sm), .val (.int lk), .val (.int fc), .val (.int sp), .val (.int ln), .val (.ref b16), .val (.int ls1), .val (.int ll1), .val (.int (1 : Int32)), .val (.int (1 : Int32)), .val (.int (1 : Int32)), .val (.int (1 : Int32))] [(.int (1 : Int32))])) (fun _ q => XS.goto X.here X.hx rfl (pc0 := 161) (pc' := 165) rfl (hb hby at_161) (by decide) (by decide) q) ?_
  exact X.retZ hret (hb hby at_165) (by decide) (by decide) rfl
set_option maxRecDepth 65536 in
set_option maxHeartbeats 40000000 in
theorem comes_1 {Post : Tables → Env → Array Value → State → Outcome → State → Prop} (hpost : ∀ tb e args s v u, (limb_1_1.after args s (.returned v) u = true ∧ limb_1_2.after args s (.returned v) u = true ∧ True) → EndF s (.returned v) u (Jvm.fieldLocs frame_1_writes args s ++ Jvm.arrayLocs frame_1_arrays args s ++ Jvm.staticLocs frame_1_statics s) 40 256 → Post tb e args s (.returned v) u) :
    ArmFor flags0 classFile x code maxLocals ret World_1 tables_1 room_1 Calls_1 rest_1 Pre_1 Post := by
  intro l hfl _ _ p e ha hc hk s m args below hf hA hF happ hP
  obtain ⟨hcalls, hrest, hpre⟩ := hP
  obtain ⟨-, -, -, hnamed, -, -, -, hat⟩ := (Spec.applies_iff hf).mp happ
  obtain ⟨hg, hn⟩ := and_e (Cond.before_iff.mp (show (Jvm.Cond.and given_1 narrow_1).before args s = true from hpre))
  obtain ⟨hcount, hg⟩ := and_e hg
  obtain ⟨w0, w1, w2, w3, w4, rfl⟩ : ∃ w0 w1 w2 w3 w4 : Value, args = #[w0, w1, w2, w3, w4] := by
    have hs : args.size = 5 := by simpa [Cond.value, given_1] using hcount
    obtain ⟨L⟩ := args
    match L, hs with
    | [w0, w1, w2, w3, w4], _ => exact ⟨w0, w1, w2, w3, w4, rfl⟩
  obtain ⟨hg0, hg⟩ := and_e hg
  obtain ⟨p0, ep0⟩ := is_v hg0
  obtain rfl : w0 = (.int p0) := Option.some.inj ep0
  obtain ⟨hg1, hg⟩ := and_e hg
  obtain ⟨p1, ep1⟩ := is_v hg1
  obtain rfl : w1 = (.int p1) := Option.some.inj ep1
  obtain ⟨hg2, hg⟩ := and_e hg
  obtain ⟨p2, ep2⟩ := is_v hg2
  obtain rfl : w2 = (.int p2) := Option.some.inj ep2
  obtain ⟨hg3, hg⟩ := and_e hg
  obtain ⟨p3, ep3⟩ := is_v hg3
  obtain rfl : w3 = (.int p3) := Option.some.inj ep3
  have hg4 := hg
  obtain ⟨p4, ep4⟩ := is_v hg4
  obtain rfl : w4 = (.int p4) := Option.some.inj ep4
  have hw := fun d (hd : d ∈ tables_1) => atoms_spec (ws := Jvm.Cond.code x code maxLocals ret :: tables_1) hat d (List.mem_cons_of_mem _ hd)
  have hfit : Fit s := fun {y c} hc i hi => by
    obtain ⟨ha, rfl⟩ := Array.getElem?_eq_some_iff.mp hc
    have q := List.all_eq_true.mp ((Array.all_eq_true_iff_forall_mem.mp hF) _ (Array.getElem_mem ha)) i (List.mem_range.mpr hi)
    simpa [Array.getElem?_eq_getElem hi] using q
  have c0 := hn
  obtain ⟨n, o, h1, h2, h3, _, L, rfl, ⟨N, rfl⟩, hq⟩ := rm0 l s _ hw s.heap.size s.heap (Nat.le_refl _) tables_1 p0 p1 p2 p3 p4 p e ha hc hk s m _ below hf ((Spec.applies_iff_loose hf).mp happ).1 ⟨rfl, State.Warmed39.refl s, rfl⟩ trivial
  refine ⟨n, _, h1, h2, h3, hpost _ _ _ _ _ _ ⟨Cond.after_iff.mpr rfl, Cond.after_iff.mpr (eq_i res_at (Term.int_eval (1)) rfl), trivial⟩ ⟨hq.1, hq.2.1, (hq.2.2.sift fun y hy => Or.inr (N y hy)).mono (by decide) (by decide)⟩⟩
theorem main_1_1 : Claimed_1_1 := comes_1 fun _ _ _ _ _ _ h hF => ⟨h.1, hF⟩
theorem main_1_2 : Claimed_1_2 := comes_1 fun _ _ _ _ _ _ h hF => ⟨h.2.1, hF⟩
end Jvm.Pilot.@@N@@
namespace Jvm.Pilot.@@N@@
open Jvm Jvm.ClassFile Sem Op Lib Jvm.Free Jvm.Stand Jvm.Pilot.@@N@@.Jvm.D
/-! MADE BY PROGRAM (witnessworld.py) out of the Statement's table words and the real class files: 15 classes; the members and pool entries that the words name. The judged class is class 1, her method 1. -/
namespace start1
open Jvm.ClassFile
def u (s : String) : CpInfo := .utf8 (stringToUtf16 s)
/-- a pool by its gaps: so many unusable entries, then the entry; so many at the end -/
def gap : Nat → List CpInfo → List CpInfo
  | 0, r => r
  | n + 1, r => .unusable :: gap n r
def poolList (es : List (Nat × CpInfo)) (last : Nat) : List CpInfo := es.foldr (fun e r => gap e.1 (e.2 :: r)) (gap last [])
def pool (es : List (Nat × CpInfo)) (last : Nat) : Array CpInfo := ⟨poolList es last⟩
def fileOf (pool : Array CpInfo) (this : Nat) (attrs : Array Attribute := #[]) (ms : Array MethodInfo := #[]) (fl : Nat := 33) (sup : Nat := 0) (ifs : Array Nat := #[]) (fds : Array FieldInfo := #[]) : ClassFile where
  minorVersion := 0
  majorVersion := 65
  constantPool := pool
  accessFlags := fl
  thisClass := this
  superClass := sup
  interfaces := ifs
  fields := fds
  methods := ms
  attributes := attrs
def plain (name : String) (sup : Option ClassId) : Class where
  name := name
  kind := .ordinary
  loader := none
  accessFlags := 33
  super := sup
  interfaces := #[]
  cf := none
  fields := #[]
  methods := #[]
  instanceTypes := #[]
  staticTypes := #[]
  resolved := #[]
  callSites := []
  init := .initialized
  statics := none
  mirror := none

def pool0 : Array CpInfo := pool [(5, u "<init>"), (0, u "()V"), (1, .class_ 10), (1, u "java/lang/Object")] 113

def k0c0 : Code := { maxStack := 0, maxLocals := 1, code := object_method_1_code, exceptionTable := #[], attributes := #[] }
def k0m0 : Method := { name := "<init>", desc := "()V", sig := { parameters := [], returnType := none }, accessFlags := 1, code := some k0c0 }
/-- java/lang/Object -/
def k0 : Class := { plain "java/lang/Object" none with
  accessFlags := 33
  interfaces := #[]
  cf := some (fileOf pool0 8 #[] #[{ accessFlags := 1, nameIndex := 5, descriptorIndex := 6, attributes := #[] }] 33 0 #[] #[])
  fields := #[]
  methods := #[k0m0]
  instanceTypes := #[]
  staticTypes := #[]
  resolved := Array.replicate 124 none
  statics := none }

def pool1 : Array CpInfo := pool [(2, .class_ 4), (1, u "java/lang/Object"), (0, u "<init>"), (0, u "()V"), (0, .integer 2147483647), (0, .class_ 9), (0, u "com/example/riskweave/riskweave/rare/LossSampler$Draws"), (0, .methodref 8 11), (0, .nameAndType 5 12), (0, u "(III)V"), (0, .methodref 8 14), (0, .nameAndType 15 16), (0, u "samples"), (0, u "()I"), (0, .methodref 8 18), (0, .nameAndType 19 20), (0, u "isDown"), (0, u "(II)Z"), (0, .class_ 22), (0, u "com/example/riskweave/riskweave/rare/DrawsIsDownPinLaw"), (2, u "law"), (0, u "(IIIII)Z")] 7

def k1m0 : Method := { name := "<init>", desc := "()V", sig := { parameters := [], returnType := none }, accessFlags := 1, code := none }
def k1c1 : Code := { maxStack := 5, maxLocals := 17, code := code, exceptionTable := #[], attributes := #[] }
def k1m1 : Method := { name := "law", desc := "(IIIII)Z", sig := { parameters := [.int, .int, .int, .int, .int], returnType := some .boolean }, accessFlags := 9, code := some k1c1 }
/-- com/example/riskweave/riskweave/rare/DrawsIsDownPinLaw -/
def k1 : Class := { plain "com/example/riskweave/riskweave/rare/DrawsIsDownPinLaw" (some 0) with
  accessFlags := 49
  interfaces := #[]
  cf := some (fileOf pool1 21 #[] #[{ accessFlags := 1, nameIndex := 5, descriptorIndex := 6, attributes := #[] }, { accessFlags := 9, nameIndex := 25, descriptorIndex := 26, attributes := #[] }] 49 2 #[] #[])
  fields := #[]
  methods := #[k1m0, k1m1]
  instanceTypes := #[]
  staticTypes := #[]
  resolved := Array.replicate 34 none
  statics := none }

def pool2 : Array CpInfo := pool [(1, .methodref 2 3), (0, .class_ 4), (0, .nameAndType 5 6), (0, u "java/lang/Object"), (0, u "<init>"), (0, u "()V"), (0, .fieldref 8 9), (0, .class_ 10), (0, .nameAndType 11 12), (0, u "com/example/riskweave/riskweave/rare/LossSampler$Draws"), (0, u "loss"), (0, u "[D"), (0, .fieldref 8 14), (0, .nameAndType 15 12), (0, u "logRatio"), (0, .class_ 17), (0, u "[[D"), (0, .fieldref 8 19), (0, .nameAndType 20 17), (0, u "factorValues"), (0, .methodref 22 23), (0, .class_ 24), (0, .nameAndType 25 26), (0, u "com/example/riskweave/riskweave/rare/LossSampler"), (0, u "words"), (0, u "(I)I"), (0, .fieldref 8 28), (0, .nameAndType 25 29), (0, u "I"), (0, .methodref 31 32), (0, .class_ 33), (0, .nameAndType 34 35), (0, u "java/lang/Math"), (0, u "multiplyExact"), (0, u "(II)I"), (0, .fieldref 8 37), (0, .nameAndType 38 39), (0, u "downBits"), (0, u "[J"), (18, u "(III)V"), (2, u "samples"), (0, u "()I"), (0, u "isDown"), (0, u "(II)Z")] 9

def k2c0 : Code := { maxStack := 3, maxLocals := 4, code := prog_60_method_1_code, exceptionTable := #[], attributes := #[] }
def k2m0 : Method := { name := "<init>", desc := "(III)V", sig := { parameters := [.int, .int, .int], returnType := none }, accessFlags := 0, code := some k2c0 }
def k2c1 : Code := { maxStack := 1, maxLocals := 1, code := prog_60_method_2_code, exceptionTable := #[], attributes := #[] }
def k2m1 : Method := { name := "samples", desc := "()I", sig := { parameters := [], returnType := some .int }, accessFlags := 0, code := some k2c1 }
def k2c2 : Code := { maxStack := 5, maxLocals := 3, code := prog_60_method_3_code, exceptionTable := #[], attributes := #[] }
def k2m2 : Method := { name := "isDown", desc := "(II)Z", sig := { parameters := [.int, .int], returnType := some .boolean }, accessFlags := 0, code := some k2c2 }
/-- com/example/riskweave/riskweave/rare/LossSampler$Draws -/
def k2 : Class := { plain "com/example/riskweave/riskweave/rare/LossSampler$Draws" (some 0) with
  accessFlags := 48
  interfaces := #[]
  cf := some (fileOf pool2 8 #[.nestHost 22] #[{ accessFlags := 0, nameIndex := 5, descriptorIndex := 58, attributes := #[] }, { accessFlags := 0, nameIndex := 61, descriptorIndex := 62, attributes := #[] }, { accessFlags := 0, nameIndex := 63, descriptorIndex := 64, attributes := #[] }] 48 2 #[] #[{ accessFlags := 16, nameIndex := 11, descriptorIndex := 12, attributes := #[] }, { accessFlags := 16, nameIndex := 15, descriptorIndex := 12, attributes := #[] }, { accessFlags := 16, nameIndex := 20, descriptorIndex := 17, attributes := #[] }, { accessFlags := 18, nameIndex := 25, descriptorIndex := 29, attributes := #[] }, { accessFlags := 18, nameIndex := 38, descriptorIndex := 39, attributes := #[] }])
  fields := #[{ name := "loss", type := (.array .double), accessFlags := 16, slot := 0, constantValue := 0 }, { name := "logRatio", type := (.array .double), accessFlags := 16, slot := 1, constantValue := 0 }, { name := "factorValues", type := (.array (.array .double)), accessFlags := 16, slot := 2, constantValue := 0 }, { name := "words", type := .int, accessFlags := 18, slot := 3, constantValue := 0 }, { name := "downBits", type := (.array .long), accessFlags := 18, slot := 4, constantValue := 0 }]
  methods := #[k2m0, k2m1, k2m2]
  instanceTypes := #[(.array .double), (.array .double), (.array (.array .double)), .int, (.array .long)]
  staticTypes := #[]
  resolved := Array.replicate 74 none
  statics := none }

def pool3 : Array CpInfo := pool [(2, .class_ 4), (1, u "java/lang/Object"), (3, .class_ 10), (1, u "com/example/riskweave/riskweave/rare/LossSampler"), (0, u "scenario"), (0, u "Lcom/example/riskweave/riskweave/scenario/Scenario;"), (6, u "copula"), (0, u "Lcom/example/riskweave/riskweave/scenario/NormalCopula;"), (4, u "factors"), (3, u "I"), (2, u "links"), (15, u "volumes"), (0, u "[D"), (17, u "twistWeights"), (19, u "twistedLinks"), (0, u "[I"), (53, .class_ 143), (0, u "com/example/riskweave/riskweave/rare/LossSampler$Draw"), (3, .class_ 148), (0, u "com/example/riskweave/riskweave/rare/LossSampler$Draws"), (32, u "LN_2"), (0, u "D"), (10, u "words"), (0, u "(I)I")] 27

def k3c0 : Code := { maxStack := 2, maxLocals := 1, code := prog_58_method_9_code, exceptionTable := #[], attributes := #[] }
def k3m0 : Method := { name := "words", desc := "(I)I", sig := { parameters := [.int], returnType := some .int }, accessFlags := 10, code := some k3c0 }
/-- com/example/riskweave/riskweave/rare/LossSampler -/
def k3 : Class := { plain "com/example/riskweave/riskweave/rare/LossSampler" (some 0) with
  accessFlags := 48
  interfaces := #[]
  cf := some (fileOf pool3 8 #[.nestMembers #[147, 142]] #[{ accessFlags := 10, nameIndex := 193, descriptorIndex := 194, attributes := #[] }] 48 2 #[] #[{ accessFlags := 26, nameIndex := 181, descriptorIndex := 182, attributes := #[] }, { accessFlags := 18, nameIndex := 11, descriptorIndex := 12, attributes := #[] }, { accessFlags := 18, nameIndex := 19, descriptorIndex := 20, attributes := #[] }, { accessFlags := 18, nameIndex := 25, descriptorIndex := 29, attributes := #[] }, { accessFlags := 18, nameIndex := 32, descriptorIndex := 29, attributes := #[] }, { accessFlags := 18, nameIndex := 48, descriptorIndex := 49, attributes := #[] }, { accessFlags := 18, nameIndex := 67, descriptorIndex := 49, attributes := #[] }, { accessFlags := 18, nameIndex := 87, descriptorIndex := 88, attributes := #[] }])
  fields := #[{ name := "LN_2", type := .double, accessFlags := 26, slot := 0, constantValue := 0 }, { name := "scenario", type := (.object "com/example/riskweave/riskweave/scenario/Scenario"), accessFlags := 18, slot := 0, constantValue := 0 }, { name := "copula", type := (.object "com/example/riskweave/riskweave/scenario/NormalCopula"), accessFlags := 18, slot := 1, constantValue := 0 }, { name := "factors", type := .int, accessFlags := 18, slot := 2, constantValue := 0 }, { name := "links", type := .int, accessFlags := 18, slot := 3, constantValue := 0 }, { name := "volumes", type := (.array .double), accessFlags := 18, slot := 4, constantValue := 0 }, { name := "twistWeights", type := (.array .double), accessFlags := 18, slot := 5, constantValue := 0 }, { name := "twistedLinks", type := (.array .int), accessFlags := 18, slot := 6, constantValue := 0 }]
  methods := #[k3m0]
  instanceTypes := #[(.object "com/example/riskweave/riskweave/scenario/Scenario"), (.object "com/example/riskweave/riskweave/scenario/NormalCopula"), .int, .int, (.array .double), (.array .double), (.array .int)]
  staticTypes := #[.double]
  resolved := Array.replicate 222 none
  statics := none }

def pool4 : Array CpInfo := pool [(1, .class_ 2), (0, u "java/lang/Math"), (1, .class_ 6), (1, u "java/lang/Object"), (0, u "<init>"), (0, u "()V"), (89, .class_ 100), (1, u "java/lang/Math$RandomNumberGeneratorHolder"), (19, u "multiplyExact"), (51, u "negativeZeroFloatBits"), (0, u "J"), (2, u "negativeZeroDoubleBits"), (68, u "$assertionsDisabled"), (0, u "Z"), (88, u "(II)I"), (2, u "twoToTheDoubleScaleDown"), (0, u "D"), (4, u "twoToTheDoubleScaleUp"), (9, u "E"), (3, u "PI"), (2, u "TAU"), (2, u "DEGREES_TO_RADIANS"), (0, u "RADIANS_TO_DEGREES")] 94

def k4m0 : Method := { name := "<init>", desc := "()V", sig := { parameters := [], returnType := none }, accessFlags := 2, code := none }
def k4c1 : Code := { maxStack := 4, maxLocals := 4, code := jdk_29_method_28_code, exceptionTable := #[], attributes := #[] }
def k4m1 : Method := { name := "multiplyExact", desc := "(II)I", sig := { parameters := [.int, .int], returnType := some .int }, accessFlags := 9, code := some k4c1 }
/-- java/lang/Math -/
def k4 : Class := { plain "java/lang/Math" (some 0) with
  accessFlags := 49
  interfaces := #[]
  cf := some (fileOf pool4 1 #[.nestMembers #[98]] #[{ accessFlags := 2, nameIndex := 7, descriptorIndex := 8, attributes := #[] }, { accessFlags := 9, nameIndex := 120, descriptorIndex := 335, attributes := #[] }] 49 4 #[] #[{ accessFlags := 25, nameIndex := 354, descriptorIndex := 339, attributes := #[] }, { accessFlags := 25, nameIndex := 358, descriptorIndex := 339, attributes := #[] }, { accessFlags := 25, nameIndex := 361, descriptorIndex := 339, attributes := #[] }, { accessFlags := 26, nameIndex := 364, descriptorIndex := 339, attributes := #[] }, { accessFlags := 26, nameIndex := 365, descriptorIndex := 339, attributes := #[] }, { accessFlags := 26, nameIndex := 172, descriptorIndex := 173, attributes := #[] }, { accessFlags := 26, nameIndex := 176, descriptorIndex := 173, attributes := #[] }, { accessFlags := 8, nameIndex := 344, descriptorIndex := 339, attributes := #[] }, { accessFlags := 8, nameIndex := 338, descriptorIndex := 339, attributes := #[] }, { accessFlags := 4120, nameIndex := 245, descriptorIndex := 246, attributes := #[] }])
  fields := #[{ name := "E", type := .double, accessFlags := 25, slot := 0, constantValue := 0 }, { name := "PI", type := .double, accessFlags := 25, slot := 1, constantValue := 0 }, { name := "TAU", type := .double, accessFlags := 25, slot := 2, constantValue := 0 }, { name := "DEGREES_TO_RADIANS", type := .double, accessFlags := 26, slot := 3, constantValue := 0 }, { name := "RADIANS_TO_DEGREES", type := .double, accessFlags := 26, slot := 4, constantValue := 0 }, { name := "negativeZeroFloatBits", type := .long, accessFlags := 26, slot := 5, constantValue := 0 }, { name := "negativeZeroDoubleBits", type := .long, accessFlags := 26, slot := 6, constantValue := 0 }, { name := "twoToTheDoubleScaleUp", type := .double, accessFlags := 8, slot := 7, constantValue := 0 }, { name := "twoToTheDoubleScaleDown", type := .double, accessFlags := 8, slot := 8, constantValue := 0 }, { name := "$assertionsDisabled", type := .boolean, accessFlags := 4120, slot := 9, constantValue := 0 }]
  methods := #[k4m0, k4m1]
  instanceTypes := #[]
  staticTypes := #[.double, .double, .double, .double, .double, .long, .long, .double, .double, .boolean]
  resolved := Array.replicate 460 none
  statics := none }

def pool5 : Array CpInfo := pool [(1, u "java/lang/Cloneable"), (0, .class_ 1), (0, u "java/lang/Object"), (0, .class_ 3)] 3

/-- java/lang/Cloneable -/
def k5 : Class := { plain "java/lang/Cloneable" (some 0) with
  accessFlags := 1537
  interfaces := #[]
  cf := some (fileOf pool5 2 #[] #[] 1537 4 #[] #[])
  fields := #[]
  methods := #[]
  instanceTypes := #[]
  staticTypes := #[]
  resolved := Array.replicate 8 none
  statics := none }

def pool6 : Array CpInfo := pool [(1, u "java/io/Serializable"), (0, .class_ 1), (0, u "java/lang/Object"), (0, .class_ 3)] 3

/-- java/io/Serializable -/
def k6 : Class := { plain "java/io/Serializable" (some 0) with
  accessFlags := 1537
  interfaces := #[]
  cf := some (fileOf pool6 2 #[] #[] 1537 4 #[] #[])
  fields := #[]
  methods := #[]
  instanceTypes := #[]
  staticTypes := #[]
  resolved := Array.replicate 8 none
  statics := none }

/-- the primitive byte -/
def k7 : Class := { plain "byte" none with kind := .primitive 'B', accessFlags := 0x411 }
/-- [B -/
def k8 : Class := { plain "[B" (some 0) with kind := .array 7 .byte, interfaces := #[5, 6], accessFlags := 1041 }

/-- the primitive double -/
def k9 : Class := { plain "double" none with kind := .primitive 'D', accessFlags := 0x411 }
/-- [D -/
def k10 : Class := { plain "[D" (some 0) with kind := .array 9 .double, interfaces := #[5, 6], accessFlags := 1041 }
def k15 : Class := { plain "[[D" (some 0) with kind := .array 10 (.array .double), interfaces := #[5, 6], accessFlags := 1041 }

/-- the primitive int -/
def k11 : Class := { plain "int" none with kind := .primitive 'I', accessFlags := 0x411 }
/-- [I -/
def k12 : Class := { plain "[I" (some 0) with kind := .array 11 .int, interfaces := #[5, 6], accessFlags := 1041 }

/-- the primitive long -/
def k13 : Class := { plain "long" none with kind := .primitive 'J', accessFlags := 0x411 }
/-- [J -/
def k14 : Class := { plain "[J" (some 0) with kind := .array 13 .long, interfaces := #[5, 6], accessFlags := 1041 }

def heap : Heap := #[]
def classes : Array Class := #[k0, k1, k2, k3, k4, k5, k6, k7, k8, k9, k10, k11, k12, k13, k14, k15]
def interned : List (Array UInt16 × Addr) := []
def slotsUsed : Nat := 0
def theMethod : MethodId := ⟨1, 1⟩
def args0 : Array Value := #[.int 5, .int 1, .int 2, .int 3, .int 4]
def aboutOver (below : List Frame) : State where
  vm := { classes := classes, interned := interned.toArray }
  heap := heap
  slotsUsed := slotsUsed
  threads := #[{ frames := .invoking theMethod args0 :: below }]
def below0 : List Frame := [.native { method := ⟨0, 0⟩, args := #[] }]
def about1 : State := aboutOver below0
def p0 : Program := .bare "" "" ""
def e0 : Env := launch0.env 0 0 0
theorem w_frames : about1.frames = Frame.invoking theMethod args0 :: below0 := rfl
set_option maxRecDepth 65536 in
theorem w_args : argsFit about1.vm theMethod args0 = true := by decide +kernel
set_option maxRecDepth 65536 in
theorem w_heap : heapFits about1 = true := by decide +kernel
set_option maxRecDepth 65536 in
theorem w_runnable : about1.curStatus? = some .runnable := by decide +kernel
set_option maxRecDepth 65536 in
theorem w_alone : about1.alone = true := by decide +kernel
set_option maxRecDepth 65536 in
theorem w_named : about1.methodNamed? x = some theMethod := by decide +kernel
set_option maxRecDepth 65536 in
theorem w_hears : about1.hears theMethod below0 = true := by decide +kernel
set_option maxRecDepth 65536 in
theorem w_ripe : about1.ripe theMethod args0 below0 = true := by decide +kernel
theorem w_running : about1.status = .running := rfl
set_option maxRecDepth 65536 in
theorem w_room : about1.hasRoom e0.platform room_1 = true :=
  launch0.hasRoom_least _ room_1 (by decide +kernel) (by decide +kernel) (by decide +kernel) (by decide +kernel) (by decide +kernel) (by decide +kernel)
theorem allAtoms_all (ts : List Jvm.Cond) (a : Array Jvm.Value) (st : Jvm.State) : (allAtoms ts).before a st = ts.all (fun c => c.before a st) := by
  induction ts with
  | nil => rfl
  | cons c t ih =>
    show (Jvm.Cond.and c (allAtoms t)).before a st = _
    rw [Jvm.Cond.before_and, ih, List.all_cons]
def words1 : List Jvm.Cond := Jvm.Cond.code x code maxLocals ret :: tables_1
/-- a 'code' word, met by the world's own term for the bytes: nothing is compared byte by byte -/
theorem code_word {y : MethodName} {bytes : ByteArray} {mx : Nat} {rt : Option FieldType} {a : Array Value} {s : State} {m : MethodId} {meth : Method} {c : Code} (h1 : s.methodNamed? y = some m) (h2 : s.vm.method? m = some meth) (h3 : meth.code = some c) (h4 : c.code = bytes)
    (h5 : (c.maxLocals == mx && c.exceptionTable.isEmpty && decide (c.maxStack ≤ mostOperands) && decide (meth.sig.returnType = rt) && !meth.locks && decide (parseMethodDescriptor y.desc = some meth.sig)) = true) : (Jvm.Cond.code y bytes mx rt).before a s = true := by
  simp only [Bool.and_eq_true, beq_iff_eq, Bool.not_eq_true', decide_eq_true_eq] at h5
  obtain ⟨⟨⟨⟨⟨g1, g2⟩, g3⟩, g4⟩, g5⟩, g6⟩ := h5
  simp [Cond.before, Cond.holds, Cond.value, h1, h2, h3, h4, g1, g2, g3, g4, g5, g6]
def isCode : Jvm.Cond → Bool
  | .code _ _ _ _ => true
  | _ => false
theorem all_split {L : List Jvm.Cond} {P : Jvm.Cond → Bool} (h1 : L.all (fun c => isCode c || P c) = true) (h2 : ∀ c ∈ L.filter isCode, P c = true) : L.all P = true := by
  refine List.all_eq_true.mpr fun c hc => ?_
  have h := List.all_eq_true.mp h1 c hc
  rcases Bool.eq_false_or_eq_true (isCode c) with hi | hi
  · exact h2 c (List.mem_filter.mpr ⟨hc, hi⟩)
  · simpa [hi] using h
set_option maxRecDepth 65536 in
theorem w_c0 : (Jvm.Cond.code x code maxLocals ret).before args0 about1 = true := code_word (m := ⟨1, 1⟩) (meth := k1m1) (c := k1c1) (by decide +kernel) rfl rfl rfl (by decide +kernel)
set_option maxRecDepth 65536 in
theorem w_c1 : (Jvm.Cond.code ({ cls := "com/example/riskweave/riskweave/rare/LossSampler$Draws", name := "<init>", desc := "(III)V" } : Jvm.MethodName) prog_60_method_1_code (4 : Nat) (Option.none : Option Jvm.ClassFile.FieldType)).before args0 about1 = true := code_word (m := ⟨2, 0⟩) (meth := k2m0) (c := k2c0) (by decide +kernel) rfl rfl rfl (by decide +kernel)
set_option maxRecDepth 65536 in
theorem w_c2 : (Jvm.Cond.code ({ cls := "java/lang/Object", name := "<init>", desc := "()V" } : Jvm.MethodName) object_method_1_code (1 : Nat) (Option.none : Option Jvm.ClassFile.FieldType)).before args0 about1 = true := code_word (m := ⟨0, 0⟩) (meth := k0m0) (c := k0c0) (by decide +kernel) rfl rfl rfl (by decide +kernel)
set_option maxRecDepth 65536 in
theorem w_c3 : (Jvm.Cond.code ({ cls := "com/example/riskweave/riskweave/rare/LossSampler", name := "words", desc := "(I)I" } : Jvm.MethodName) prog_58_method_9_code (1 : Nat) (Option.some Jvm.ClassFile.FieldType.int)).before args0 about1 = true := code_word (m := ⟨3, 0⟩) (meth := k3m0) (c := k3c0) (by decide +kernel) rfl rfl rfl (by decide +kernel)
set_option maxRecDepth 65536 in
theorem w_c4 : (Jvm.Cond.code ({ cls := "java/lang/Math", name := "multiplyExact", desc := "(II)I" } : Jvm.MethodName) jdk_29_method_28_code (4 : Nat) (Option.some Jvm.ClassFile.FieldType.int)).before args0 about1 = true := code_word (m := ⟨4, 1⟩) (meth := k4m1) (c := k4c1) (by decide +kernel) rfl rfl rfl (by decide +kernel)
set_option maxRecDepth 65536 in
theorem w_c5 : (Jvm.Cond.code ({ cls := "com/example/riskweave/riskweave/rare/LossSampler$Draws", name := "samples", desc := "()I" } : Jvm.MethodName) prog_60_method_2_code (1 : Nat) (Option.some Jvm.ClassFile.FieldType.int)).before args0 about1 = true := code_word (m := ⟨2, 1⟩) (meth := k2m1) (c := k2c1) (by decide +kernel) rfl rfl rfl (by decide +kernel)
set_option maxRecDepth 65536 in
theorem w_c6 : (Jvm.Cond.code ({ cls := "com/example/riskweave/riskweave/rare/LossSampler$Draws", name := "isDown", desc := "(II)Z" } : Jvm.MethodName) prog_60_method_3_code (3 : Nat) (Option.some Jvm.ClassFile.FieldType.boolean)).before args0 about1 = true := code_word (m := ⟨2, 2⟩) (meth := k2m2) (c := k2c2) (by decide +kernel) rfl rfl rfl (by decide +kernel)
def codes1 : List Jvm.Cond := [Jvm.Cond.code x code maxLocals ret, Jvm.Cond.code ({ cls := "com/example/riskweave/riskweave/rare/LossSampler$Draws", name := "<init>", desc := "(III)V" } : Jvm.MethodName) prog_60_method_1_code (4 : Nat) (Option.none : Option Jvm.ClassFile.FieldType), Jvm.Cond.code ({ cls := "java/lang/Object", name := "<init>", desc := "()V" } : Jvm.MethodName) object_method_1_code (1 : Nat) (Option.none : Option Jvm.ClassFile.FieldType), Jvm.Cond.code ({ cls := "com/example/riskweave/riskweave/rare/LossSampler", name := "words", desc := "(I)I" } : Jvm.MethodName) prog_58_method_9_code (1 : Nat) (Option.some Jvm.ClassFile.FieldType.int), Jvm.Cond.code ({ cls := "java/lang/Math", name := "multiplyExact", desc := "(II)I" } : Jvm.MethodName) jdk_29_method_28_code (4 : Nat) (Option.some Jvm.ClassFile.FieldType.int), Jvm.Cond.code ({ cls := "com/example/riskweave/riskweave/rare/LossSampler$Draws", name := "samples", desc := "()I" } : Jvm.MethodName) prog_60_method_2_code (1 : Nat) (Option.some Jvm.ClassFile.FieldType.int), Jvm.Cond.code ({ cls := "com/example/riskweave/riskweave/rare/LossSampler$Draws", name := "isDown", desc := "(II)Z" } : Jvm.MethodName) prog_60_method_3_code (3 : Nat) (Option.some Jvm.ClassFile.FieldType.boolean)]
set_option maxRecDepth 65536 in
theorem codes_eq : words1.filter isCode = codes1 := rfl
theorem w_codes : ∀ c ∈ words1.filter isCode, c.before args0 about1 = true := by
  rw [codes_eq]
  intro c hc
  simp only [codes1, List.mem_cons, List.not_mem_nil, or_false] at hc
  rcases hc with rfl | rfl | rfl | rfl | rfl | rfl | rfl
  · exact w_c0
  · exact w_c1
  · exact w_c2
  · exact w_c3
  · exact w_c4
  · exact w_c5
  · exact w_c6
set_option maxRecDepth 65536 in
theorem w_t1 : (words1.take 24).all (fun c => isCode c || c.before args0 about1) = true := by decide +kernel
set_option maxRecDepth 65536 in
theorem w_t2 : (words1.drop 24).all (fun c => isCode c || c.before args0 about1) = true := by decide +kernel
theorem w_tables : (allAtoms (Jvm.Cond.code x code maxLocals ret :: tables_1)).before args0 about1 = true := by
  rw [allAtoms_all]
  show words1.all (fun c => c.before args0 about1) = true
  refine all_split ?_ w_codes
  rw [← List.take_append_drop 24 words1, List.all_append, w_t1, w_t2]
  rfl
set_option maxRecDepth 65536 in
theorem w_case : (Jvm.Cond.and given_1 narrow_1).before args0 about1 = true := by decide +kernel
theorem w_applies : (headSpec (Jvm.Cond.code x code maxLocals ret :: tables_1) room_1).applies x e0.platform about1 = true :=
  (Spec.applies_iff w_frames).mpr ⟨w_running, w_runnable, w_alone, w_named, w_hears, w_ripe, w_room, w_tables⟩
theorem atStart : AtStart classFile x code maxLocals ret World_1 tables_1 room_1 Calls_1 rest_1 Pre_1 launch0 p0 e0 about1 theMethod args0 below0 :=
  ⟨lists_1, trivial, launch0.admits_env _ _ _, launch0.least_env, fairChoices_fair.cas, fairChoices_fair.clock, w_frames, w_args, w_heap, w_applies, trivial, trivial, w_case⟩
end start1
theorem witness_1 : WitnessClaimed_1 := ⟨start1.p0, start1.e0, start1.about1, start1.theMethod, start1.args0, start1.below0, start1.atStart⟩
end Jvm.Pilot.@@N@@
