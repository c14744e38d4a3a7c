import JvmDerived
import JvmDerived.Pilot.@@N@@Statement
import JvmDerived.Pilot.@@N@@Code
set_option linter.unusedVariables false
set_option linter.unusedSimpArgs false
namespace Jvm.Pilot.@@N@@
open Jvm Jvm.ClassFile Sem Op Lib Jvm.Free Jvm.Stand Jvm.LawKit Jvm.RoadKit Bundle Jvm.Pilot.@@N@@.Jvm.D
section OwnHead
variable {p : Program} {l : Launch} {e : Env} {R : Room} {s : State} {m : MethodId} {args : Array Value} {below : List Frame} {meth : Method} {c : Code} {T T' : State} {Z : State} {own : String} {h h' : Heap} {n0 k n C S : Nat} {a0 : Array Value} {P : Option Value → Heap → Prop} {g g' : JFrame} {pc : Nat} {Ls : Array Slot} {st rest : List Value} {vm0 : Vm} {locs : List Loc}
theorem nfOf {args : Array Value} {s : State} {D : String} {x' z' y : MethodName} (h : (Cond.selects D x' z').before args s = true) (hc : z'.cls = y.cls) : NotFace s y := fun r0 h0 => by
  obtain ⟨c2, r2, m2, q1, q2, q3, q4, kP, hkP, hkPi⟩ := Cond.selects_spec h
  have e1 := findClass_of_methodNamed q3
  have e2 := findClass_of_methodNamed h0
  rw [hc] at e1
  have e3 : m2.cls = r0.cls := Option.some.inj (e1.symm.trans e2)
  exact ⟨kP, e3 ▸ hkP, hkPi⟩
/-- the tables over which the walk stands, and how it ends: narrow (nothing interned) -/
def Bk (s : State) (vm : Vm) (n : Nat) : Prop := vm = s.vm
theorem Bk.mono {vm : Vm} {n n' : Nat} (h : Bk s vm n) (_ : n ≤ n') : Bk s vm n' := h
theorem Bk.start : Bk s s.vm n := rfl
abbrev EndF (s : State) (o : Outcome) (t : State) (L : List Loc) (k n : Nat) : Prop := FrameEnd s o t L k n
theorem EndF.mono {o : Outcome} {t : State} {L : List Loc} {k' n' : Nat} (h : EndF s o t L k n) (hk : k ≤ k') (hn : n ≤ n') : EndF s o t L k' n' := ⟨h.1, h.2.1, h.2.2.mono hk hn⟩
theorem Bk.leave (X : Stand p l e R (s.setVm vm0) m args below meth c T locs k n) (hB : Bk s vm0 T.heap.size) {v : Option Value} (hv : meth.sig.returnType = none → v = none) (hlk : meth.locks = false) :
    ∃ fs, (∀ (f : JFrame) (acts : List Action), f.method = m → f.locked = none → f.entered = [] → (doReturn e (T.setTop f) acts v).1 = T.setFrames fs) ∧ (T.setFrames fs).status = .running ∧ Ended (T.setFrames fs) below (.returned v) ∧ EndF s (.returned v) (T.setFrames fs) locs k n := by
  cases hB
  have X : Stand p l e R s m args below meth c T locs k n := X
  obtain ⟨fs, hr, hrun, hended, hW, hsame⟩ := X.leave hv hlk
  exact ⟨fs, hr, hrun, hended, ⟨_, rfl⟩, hW, hsame⟩
/-- a body's contract -/
def Met (l : Launch) (Z : State) (n0 : Nat) (y : MethodName) (bytes : ByteArray) (maxL : Nat) (ret : Option FieldType) (rm : Room) (as' : Array Value) (h0 : Heap) (Q : Option Value → Heap → Prop) : Prop :=
  MetFree l y (head1 [Cond.code y bytes maxL ret] rm) (fun a U => a = as' ∧ Z.Warmed39 U.vm ∧ U.heap = h0) (fun _ _ _ _ _ => True) (fun _ U o U' => ∃ v L, o = .returned v ∧ (Fr n0 L ∧ Q v U'.heap) ∧ EndF U o U' L rm.cells rm.slots)
theorem Bk.callS (X : Stand p l e R (s.setVm vm0) m args below meth c T locs k n) (hx : p.tables.exec = Jvm.exec) (hB : Bk s vm0 T.heap.size) (hZ : Z.Warmed39 vm0) (hown : vm0.findClass own = some m.cls) {index : Nat} {y : MethodName} {bytes : ByteArray} {maxL : Nat} {ret : Option FieldType} {rm : Room} {argsL : List Value} {Q : Option Value → Heap → Prop} {ps : List FieldType} {r : Option FieldType} (w1 : (Cond.methodLink own index y).before a0 Z = true) (w2 : (Cond.static y).before a0 Z = true) (wz : (Cond.initialized y.cls).before a0 Z = true) (wc : (Cond.code y bytes maxL ret).before a0 Z = true) (hy : y.cls ≠ "java/lang/invoke/MethodHandle" ∧ y.cls ≠ "java/lang/invoke/VarHandle")
    (hpd : parseMethodDescriptor y.desc = some ⟨ps, r⟩) (hlen : argsL.length = ps.length) (M : Met l Z n0 y bytes maxL ret rm argsL.toArray T.heap Q) (hsz : Ls.size = c.maxLocals) (hstk : st = argsL.reverse ++ rest) (hf : rm.frames + 1 ≤ R.frames) (hl : (rest.map fun v => v.category).sum + (maxL + 11) + rm.locals ≤ R.locals) (hd : decode c.code pc = .ok (.invokestatic index, 3)) (hc : k + rm.cells ≤ R.cells) (hs : n + rm.slots ≤ R.slots) :
    ∃ (v : Option Value) (vm1 : Vm) (T1 : State) (L2 : List Loc), Stand p l e R (s.setVm vm1) m args below meth c T1 (locs ++ L2) (k + rm.cells) (n + rm.slots) ∧ Bk s vm1 T1.heap.size ∧ Z.Warmed39 vm1 ∧ vm1.findClass own = some m.cls ∧ Fr n0 L2 ∧ Q v T1.heap ∧ ∀ t, Steps p.tables e below (T1.setTop (mkF m (pc + 3) Ls (v.toList ++ rest))) t → Steps p.tables e below (T.setTop (mkF m pc Ls st)) t := by
  cases hB
  have X : Stand p l e R s m args below meth c T locs k n := X
  have hZ' : Z.Warmed39 s.vm := hZ
  obtain ⟨v, vm1, ⟨T1, L1, k1, n1⟩, -, X1, ⟨L2, ⟨N2, hQ⟩, l1, y1, z1⟩, st1⟩ := Jvm.LawKit.callS X hx (y := y) hown (mvT (s := s) hZ w1) (mvT (s := s) hZ w2) (mvT (s := s) hZ wz) (mvT (s := s) hZ wc) hy (backOf (Q := fun v h' L => Fr n0 L ∧ Q v h') (W := (rest.map fun v => v.category).sum) M hZ' wc wz hf hl) (g := mkF m pc Ls st) rfl hsz (argsL := argsL) (rest := rest) (lenOf hpd hlen) hstk (by show 2 * 0 + _ ≤ _; omega) hd (fun _ _ => ⟨rfl, rfl, hc, hs⟩)
  dsimp only [Pt.U, Pt.locs, Pt.cells, Pt.slots] at X1 l1 y1 z1 st1 hQ
  subst l1 y1 z1
  exact ⟨v, s.vm, T1, L2, X1, rfl, hZ, hown, N2, hQ, st1⟩
theorem Bk.callSN (X : Stand p l e R (s.setVm vm0) m args below meth c T locs k n) (hx : p.tables.exec = Jvm.exec) (hB : Bk s vm0 T.heap.size) (hZ : Z.Warmed39 vm0) (hown : vm0.findClass own = some m.cls) {index : Nat} {y : MethodName} {bytes : ByteArray} {maxL : Nat} {ret : Option FieldType} {rm : Room} {argsL : List Value} {Q : Option Value → Heap → Prop} {ps : List FieldType} {r : Option FieldType} {host : String} (w1 : (Cond.methodLinkNest own index y host).before a0 Z = true) (w2 : (Cond.static y).before a0 Z = true) (wz : (Cond.initialized y.cls).before a0 Z = true) (wc : (Cond.code y bytes maxL ret).before a0 Z = true) (hy : y.cls ≠ "java/lang/invoke/MethodHandle" ∧ y.cls ≠ "java/lang/invoke/VarHandle")
    (hpd : parseMethodDescriptor y.desc = some ⟨ps, r⟩) (hlen : argsL.length = ps.length) (M : Met l Z n0 y bytes maxL ret rm argsL.toArray T.heap Q) (hsz : Ls.size = c.maxLocals) (hstk : st = argsL.reverse ++ rest) (hf : rm.frames + 1 ≤ R.frames) (hl : (rest.map fun v => v.category).sum + (maxL + 11) + rm.locals ≤ R.locals) (hd : decode c.code pc = .ok (.invokestatic index, 3)) (hc : k + rm.cells ≤ R.cells) (hs : n + rm.slots ≤ R.slots) :
    ∃ (v : Option Value) (vm1 : Vm) (T1 : State) (L2 : List Loc), Stand p l e R (s.setVm vm1) m args below meth c T1 (locs ++ L2) (k + rm.cells) (n + rm.slots) ∧ Bk s vm1 T1.heap.size ∧ Z.Warmed39 vm1 ∧ vm1.findClass own = some m.cls ∧ Fr n0 L2 ∧ Q v T1.heap ∧ ∀ t, Steps p.tables e below (T1.setTop (mkF m (pc + 3) Ls (v.toList ++ rest))) t → Steps p.tables e below (T.setTop (mkF m pc Ls st)) t := by
  cases hB
  have X : Stand p l e R s m args below meth c T locs k n := X
  have hZ' : Z.Warmed39 s.vm := hZ
  obtain ⟨v, vm1, ⟨T1, L1, k1, n1⟩, -, X1, ⟨L2, ⟨N2, hQ⟩, l1, y1, z1⟩, st1⟩ := Jvm.RoadKit.callSN X hx (y := y) (host := host) hown ((Cond.methodLinkNest_wide hZ w1 :)) (mvT (s := s) hZ w2) (mvT (s := s) hZ wz) (mvT (s := s) hZ wc) hy (backOf (Q := fun v h' L => Fr n0 L ∧ Q v h') (W := (rest.map fun v => v.category).sum) M hZ' wc wz hf hl) (g := mkF m pc Ls st) rfl hsz (argsL := argsL) (rest := rest) (lenOf hpd hlen) hstk (by show 2 * 0 + _ ≤ _; omega) hd (fun _ _ => ⟨rfl, rfl, hc, hs⟩)
  dsimp only [Pt.U, Pt.locs, Pt.cells, Pt.slots] at X1 l1 y1 z1 st1 hQ
  subst l1 y1 z1
  exact ⟨v, s.vm, T1, L2, X1, rfl, hZ, hown, N2, hQ, fun _ q => st1.trans q⟩
theorem Bk.callV (X : Stand p l e R (s.setVm vm0) m args below meth c T locs k n) (hx : p.tables.exec = Jvm.exec) (hB : Bk s vm0 T.heap.size) (hZ : Z.Warmed39 vm0) (hown : vm0.findClass own = some m.cls) {index : Nat} {y : MethodName} {bytes : ByteArray} {maxL : Nat} {ret : Option FieldType} {rm : Room} {argsL : List Value} {Q : Option Value → Heap → Prop} {ps : List FieldType} {r : Option FieldType} {z : MethodName} {K : String} {b : Addr} (E : Exa Z T.heap b K) (w1 : (Cond.methodLink own index y).before a0 Z = true) (w2 : (Cond.declares y).before a0 Z = true) (w3 : (Cond.selects K y z).before a0 Z = true) {D : String} {x' z' : MethodName} (w5 : (Cond.selects D x' z').before a0 Z = true) (h5 : z'.cls = y.cls) (w4 : (Cond.instanceMethod z).before a0 Z = true) (wz : (Cond.initialized z.cls).before a0 Z = true) (wc : (Cond.code z bytes maxL ret).before a0 Z = true) (hy : y.cls ≠ "java/lang/invoke/MethodHandle" ∧ y.cls ≠ "java/lang/invoke/VarHandle")
    (hpd : parseMethodDescriptor y.desc = some ⟨ps, r⟩) (hlen : argsL.length = ps.length) (M : Met l Z n0 z bytes maxL ret rm (.ref b :: argsL).toArray T.heap Q) (hsz : Ls.size = c.maxLocals) (hstk : st = argsL.reverse ++ .ref b :: rest) (hf : rm.frames + 1 ≤ R.frames) (hl : (rest.map fun v => v.category).sum + (maxL + 11) + rm.locals ≤ R.locals) (hd : decode c.code pc = .ok (.invokevirtual index, 3)) (hc : k + rm.cells ≤ R.cells) (hs : n + rm.slots ≤ R.slots) :
    ∃ (v : Option Value) (vm1 : Vm) (T1 : State) (L2 : List Loc), Stand p l e R (s.setVm vm1) m args below meth c T1 (locs ++ L2) (k + rm.cells) (n + rm.slots) ∧ Bk s vm1 T1.heap.size ∧ Z.Warmed39 vm1 ∧ vm1.findClass own = some m.cls ∧ Fr n0 L2 ∧ Q v T1.heap ∧ ∀ t, Steps p.tables e below (T1.setTop (mkF m (pc + 3) Ls (v.toList ++ rest))) t → Steps p.tables e below (T.setTop (mkF m pc Ls st)) t := by
  cases hB
  have X : Stand p l e R s m args below meth c T locs k n := X
  have hZ' : Z.Warmed39 s.vm := hZ
  obtain ⟨cq, kq, qa, qb, qc⟩ := isOf (s := s) hZ' rfl E
  obtain ⟨v, vm1, ⟨T1, L1, k1, n1⟩, -, X1, ⟨L2, ⟨N2, hQ⟩, l1, y1, z1⟩, st1⟩ := X.virtualBack hx (y := y) (z := z) hown (mvT (s := s) hZ w1) (mvT (s := s) hZ w2) (nfOf (args := #[]) (mvT (s := s) hZ w5) h5) (mvT (s := s) hZ w3) (mvT (s := s) hZ w4) hy (backOf (Q := fun v h' L => Fr n0 L ∧ Q v h') (W := (rest.map fun v => v.category).sum) M hZ' wc wz hf hl) qa qc (g := mkF m pc Ls st) rfl hsz (Steps.refl _) (argsL := argsL) (rest := rest) (lenOf hpd hlen) hstk (by show 2 * 0 + _ ≤ _; omega) hd (fun _ _ => ⟨rfl, rfl, hc, hs⟩)
  dsimp only [Pt.U, Pt.locs, Pt.cells, Pt.slots] at X1 l1 y1 z1 st1 hQ
  subst l1 y1 z1
  exact ⟨v, s.vm, T1, L2, X1, rfl, hZ, hown, N2, hQ, fun _ q => st1.trans q⟩
theorem Bk.callU (X : Stand p l e R (s.setVm vm0) m args below meth c T locs k n) (hx : p.tables.exec = Jvm.exec) (hB : Bk s vm0 T.heap.size) (hZ : Z.Warmed39 vm0) (hown : vm0.findClass own = some m.cls) {index : Nat} {y : MethodName} {bytes : ByteArray} {maxL : Nat} {ret : Option FieldType} {rm : Room} {argsL : List Value} {Q : Option Value → Heap → Prop} {ps : List FieldType} {r : Option FieldType} {z : MethodName} {owner K : String} {b : Addr} (E : Exa Z T.heap b K) (w1 : (Cond.methodLink own index y).before a0 Z = true) (wsm : (Cond.sameMethod y.cls owner y.name y.desc).before a0 Z = true) (w2 : (Cond.declares ⟨owner, y.name, y.desc⟩).before a0 Z = true) (ho : owner ≠ "java/lang/invoke/MethodHandle" ∧ owner ≠ "java/lang/invoke/VarHandle") (w3 : (Cond.selects K y z).before a0 Z = true) (w4 : (Cond.instanceMethod z).before a0 Z = true) (wz : (Cond.initialized z.cls).before a0 Z = true) (wc : (Cond.code z bytes maxL ret).before a0 Z = true)
    (hpd : parseMethodDescriptor y.desc = some ⟨ps, r⟩) (hlen : argsL.length = ps.length) (M : Met l Z n0 z bytes maxL ret rm (.ref b :: argsL).toArray T.heap Q) (hsz : Ls.size = c.maxLocals) (hstk : st = argsL.reverse ++ .ref b :: rest) (hf : rm.frames + 1 ≤ R.frames) (hl : (rest.map fun v => v.category).sum + (maxL + 11) + rm.locals ≤ R.locals) (hd : decode c.code pc = .ok (.invokevirtual index, 3)) (hc : k + rm.cells ≤ R.cells) (hs : n + rm.slots ≤ R.slots) :
    ∃ (v : Option Value) (vm1 : Vm) (T1 : State) (L2 : List Loc), Stand p l e R (s.setVm vm1) m args below meth c T1 (locs ++ L2) (k + rm.cells) (n + rm.slots) ∧ Bk s vm1 T1.heap.size ∧ Z.Warmed39 vm1 ∧ vm1.findClass own = some m.cls ∧ Fr n0 L2 ∧ Q v T1.heap ∧ ∀ t, Steps p.tables e below (T1.setTop (mkF m (pc + 3) Ls (v.toList ++ rest))) t → Steps p.tables e below (T.setTop (mkF m pc Ls st)) t := by
  cases hB
  have X : Stand p l e R s m args below meth c T locs k n := X
  have hZ' : Z.Warmed39 s.vm := hZ
  obtain ⟨cq, kq, qa, qb, qc⟩ := isOf (s := s) hZ' rfl E
  obtain ⟨v, vm1, ⟨T1, L1, k1, n1⟩, -, X1, ⟨L2, ⟨N2, hQ⟩, l1, y1, z1⟩, st1⟩ := X.virtualBackUp hx (x := y) (y := z) hown (mvT (s := s) hZ w1) (mvT (s := s) hZ wsm) (mvT (s := s) hZ w2) ho (mvT (s := s) hZ w3) (mvT (s := s) hZ w4) (backOf (Q := fun v h' L => Fr n0 L ∧ Q v h') (W := (rest.map fun v => v.category).sum) M hZ' wc wz hf hl) qa qc (g := mkF m pc Ls st) rfl hsz (Steps.refl _) (argsL := argsL) (rest := rest) (lenOf hpd hlen) hstk (by show 2 * 0 + _ ≤ _; omega) hd (fun _ _ => ⟨rfl, rfl, hc, hs⟩)
  dsimp only [Pt.U, Pt.locs, Pt.cells, Pt.slots] at X1 l1 y1 z1 st1 hQ
  subst l1 y1 z1
  exact ⟨v, s.vm, T1, L2, X1, rfl, hZ, hown, N2, hQ, fun _ q => st1.trans q⟩
theorem Bk.callN (X : Stand p l e R (s.setVm vm0) m args below meth c T locs k n) (hx : p.tables.exec = Jvm.exec) (hB : Bk s vm0 T.heap.size) (hZ : Z.Warmed39 vm0) (hown : vm0.findClass own = some m.cls) {index : Nat} {y : MethodName} {bytes : ByteArray} {maxL : Nat} {rm : Room} {argsL : List Value} {Q : Option Value → Heap → Prop} {ps : List FieldType} {r : Option FieldType} {b : Addr} (hin : y.name = "<init>") (w1 : (Cond.methodLink own index y).before a0 Z = true) (w4 : (Cond.instanceMethod y).before a0 Z = true) (wz : (Cond.initialized y.cls).before a0 Z = true) (wc : (Cond.code y bytes maxL none).before a0 Z = true) (hy : y.cls ≠ "java/lang/invoke/MethodHandle" ∧ y.cls ≠ "java/lang/invoke/VarHandle")
    (hpd : parseMethodDescriptor y.desc = some ⟨ps, r⟩) (hlen : argsL.length = ps.length) (M : Met l Z n0 y bytes maxL none rm (.ref b :: argsL).toArray T.heap Q) (hsz : Ls.size = c.maxLocals) (hstk : st = argsL.reverse ++ .ref b :: rest) (hf : rm.frames + 1 ≤ R.frames) (hl : (rest.map fun v => v.category).sum + (maxL + 11) + rm.locals ≤ R.locals) (hd : decode c.code pc = .ok (.invokespecial index, 3)) (hc : k + rm.cells ≤ R.cells) (hs : n + rm.slots ≤ R.slots) :
    ∃ (v : Option Value) (vm1 : Vm) (T1 : State) (L2 : List Loc), Stand p l e R (s.setVm vm1) m args below meth c T1 (locs ++ L2) (k + rm.cells) (n + rm.slots) ∧ Bk s vm1 T1.heap.size ∧ Z.Warmed39 vm1 ∧ vm1.findClass own = some m.cls ∧ Fr n0 L2 ∧ Q v T1.heap ∧ ∀ t, Steps p.tables e below (T1.setTop (mkF m (pc + 3) Ls (v.toList ++ rest))) t → Steps p.tables e below (T.setTop (mkF m pc Ls st)) t := by
  cases hB
  have X : Stand p l e R s m args below meth c T locs k n := X
  have hZ' : Z.Warmed39 s.vm := hZ
  obtain ⟨v, vm1, ⟨T1, L1, k1, n1⟩, -, X1, ⟨L2, ⟨N2, hQ⟩, l1, y1, z1⟩, st1⟩ := X.specialBack hx (y := y) hin hown (mvT (s := s) hZ w1) (mvT (s := s) hZ w4) (mvT (s := s) hZ wc) hy (backOf (Q := fun v h' L => Fr n0 L ∧ Q v h') (W := (rest.map fun v => v.category).sum) M hZ' wc wz hf hl) (g := mkF m pc Ls st) rfl hsz (Steps.refl _) (a := b) (argsL := argsL) (rest := rest) (lenOf hpd hlen) hstk (by show 2 * 0 + _ ≤ _; omega) hd (fun _ _ => ⟨rfl, rfl, hc, hs⟩)
  dsimp only [Pt.U, Pt.locs, Pt.cells, Pt.slots] at X1 l1 y1 z1 st1 hQ
  subst l1 y1 z1
  exact ⟨v, s.vm, T1, L2, X1, rfl, hZ, hown, N2, hQ, fun _ q => st1.trans q⟩
end OwnHead
/-! own layer: a walk in continuation form over the library's laws -/
section OwnKit
variable {p : Program} {l : Launch} {e : Env} {R : Room} {s : State} {m : MethodId} {args : Array Value} {below : List Frame} {meth : Method} {c : Code} {T T' : State} {Z : State} {own : String} {h h' : Heap} {n0 k n C S : Nat} {a0 : Array Value} {P : Option Value → Heap → Prop} {g g' : JFrame} {pc : Nat} {Ls : Array Slot} {st rest : List Value}
/-- where the walk stands: nothing but new cells written, n0 the first new address -/
def Std (p : Program) (l : Launch) (e : Env) (R : Room) (s : State) (m : MethodId) (args : Array Value) (below : List Frame) (meth : Method) (c : Code) (Z : State) (own : String) (n0 : Nat) (T : State) (h : Heap) (k n : Nat) : Prop :=
  ∃ vm0, (∃ locs, Stand p l e R (s.setVm vm0) m args below meth c T locs k n ∧ Fr n0 locs) ∧ T.heap = h ∧ p.tables.exec = Jvm.exec ∧ Z.Warmed39 vm0 ∧ vm0.findClass own = some m.cls ∧ Bk s vm0 h.size ∧ n0 ≤ s.heap.size ∧ meth.locks = false
/-- from here the method returns, and P holds of what it returns and of the heap -/
def Goes (p : Program) (e : Env) (below : List Frame) (s : State) (n0 C S : Nat) (P : Option Value → Heap → Prop) (T : State) (g : JFrame) : Prop :=
  ∃ (s₂ : State) (v : Option Value) (L : List Loc), Steps p.tables e below (T.setTop g) s₂ ∧ s₂.status = .running ∧ Ended s₂ below (.returned v) ∧ (Fr n0 L ∧ P v s₂.heap) ∧ EndF s (.returned v) s₂ L C S
theorem Std.here (X : Std p l e R s m args below meth c Z own n0 T h k n) : At T m c below := by obtain ⟨vm0, ⟨L, X, -⟩, -⟩ := X; exact X.here
theorem Std.hx (X : Std p l e R s m args below meth c Z own n0 T h k n) : p.tables.exec = Jvm.exec := by obtain ⟨vm0, -, -, h, -⟩ := X; exact h
theorem Std.n0le (X : Std p l e R s m args below meth c Z own n0 T h k n) : n0 ≤ h.size := by
  obtain ⟨vm0, ⟨L, X, -⟩, rfl, -, -, -, -, q, -⟩ := X
  exact Nat.le_trans q X.same.2.1
theorem Goes.by (st : ∀ t, Steps p.tables e below (T'.setTop g') t → Steps p.tables e below (T.setTop g) t) (G : Goes p e below s n0 C S P T' g') : Goes p e below s n0 C S P T g := by
  obtain ⟨s₂, v, L, h1, r⟩ := G
  exact ⟨s₂, v, L, st _ h1, r⟩
theorem Goes.mono {P' : Option Value → Heap → Prop} (G : Goes p e below s n0 C S P T g) (q : ∀ v h, P v h → P' v h) : Goes p e below s n0 C S P' T g := by
  obtain ⟨s₂, v, L, h1, h2, h3, ⟨h4, h5⟩, h6⟩ := G
  exact ⟨s₂, v, L, h1, h2, h3, ⟨h4, q _ _ h5⟩, h6⟩
theorem Std.retOut (X : Std p l e R s m args below meth c Z own n0 T h k n) {w : Value} {t : FieldType} {i : Instr} (hret : meth.sig.returnType = some t) (hn : narrow t w = w)
    (hi : (i = .ireturn ∧ (t = .int ∨ t = .boolean ∨ t = .byte ∨ t = .char ∨ t = .short) ∧ ∃ z, w = .int z) ∨ (i = .lreturn ∧ t = .long ∧ ∃ z, w = .long z) ∨ (i = .dreturn ∧ t = .double ∧ ∃ z, w = .double z) ∨ (i = .freturn ∧ t = .float ∧ ∃ z, w = .float z) ∨ (i = .areturn ∧ t.isReference = true ∧ w.isRef = true))
    (hd : decode c.code pc = .ok (i, 1)) (hc : k ≤ C) (hs : n ≤ S) (hP : P (some w) h) : Goes p e below s n0 C S P T (mkF m pc Ls (w :: rest)) := by
  obtain ⟨vm0, ⟨L, X, N⟩, rfl, hx, -, -, hB, -, hlk⟩ := X
  obtain ⟨fs, hr, hrun, hended, hE⟩ := Bk.leave X hB (v := some w) (fun q => by rw [hret] at q; cases q) hlk
  exact ⟨_, _, L, Jvm.RoadKit.retOut X hx hret hn hi hd hr, hrun, hended, ⟨N, hP⟩, EndF.mono hE hc hs⟩
theorem Std.retI (X : Std p l e R s m args below meth c Z own n0 T h k n) {z : Int32} (hret : meth.sig.returnType = some .int) (hd : decode c.code pc = .ok (.ireturn, 1)) (hc : k ≤ C) (hs : n ≤ S) (hP : P (some (.int z)) h) : Goes p e below s n0 C S P T (mkF m pc Ls (.int z :: rest)) :=
  X.retOut hret rfl (Or.inl ⟨rfl, Or.inl rfl, z, rfl⟩) hd hc hs hP
theorem Std.retA (X : Std p l e R s m args below meth c Z own n0 T h k n) {w : Value} {t : FieldType} (hret : meth.sig.returnType = some t) (ht : t.isReference = true) (hw : w.isRef = true) (hd : decode c.code pc = .ok (.areturn, 1)) (hc : k ≤ C) (hs : n ≤ S) (hP : P (some w) h) : Goes p e below s n0 C S P T (mkF m pc Ls (w :: rest)) :=
  X.retOut hret (by rcases ref_cases hw with rfl | ⟨a, rfl⟩ <;> cases t <;> rfl) (Or.inr (Or.inr (Or.inr (Or.inr ⟨rfl, ht, hw⟩)))) hd hc hs hP
theorem Std.retJ (X : Std p l e R s m args below meth c Z own n0 T h k n) {z : Int64} (hret : meth.sig.returnType = some .long) (hd : decode c.code pc = .ok (.lreturn, 1)) (hc : k ≤ C) (hs : n ≤ S) (hP : P (some (.long z)) h) : Goes p e below s n0 C S P T (mkF m pc Ls (.long z :: rest)) :=
  X.retOut hret rfl (Or.inr (Or.inl ⟨rfl, rfl, z, rfl⟩)) hd hc hs hP
theorem Std.retN (X : Std p l e R s m args below meth c Z own n0 T h k n) {z : Int32} {t : FieldType} (hret : meth.sig.returnType = some t) (ht : t = .boolean ∨ t = .byte ∨ t = .char ∨ t = .short) (hd : decode c.code pc = .ok (.ireturn, 1)) (hc : k ≤ C) (hs : n ≤ S) (hP : P (some (.int (nar t z))) h) : Goes p e below s n0 C S P T (mkF m pc Ls (.int z :: rest)) := by
  obtain ⟨vm0, ⟨L, X, N⟩, rfl, hx, -, -, hB, -, hlk⟩ := X
  obtain ⟨fs, hr, hrun, hended, hE⟩ := Bk.leave X hB (v := some (.int (nar t z))) (fun q => by rw [hret] at q; cases q) hlk
  exact ⟨_, _, L, Jvm.RoadKit.retN X hx hret ht hd hr, hrun, hended, ⟨N, hP⟩, EndF.mono hE hc hs⟩
theorem Std.retZ (X : Std p l e R s m args below meth c Z own n0 T h k n) {z : Int32} (hret : meth.sig.returnType = some .boolean) (hd : decode c.code pc = .ok (.ireturn, 1)) (hc : k ≤ C) (hs : n ≤ S) (hP : P (some (.int (nar .boolean z))) h) : Goes p e below s n0 C S P T (mkF m pc Ls (.int z :: rest)) :=
  X.retN hret (Or.inl rfl) hd hc hs hP
theorem Std.retV (X : Std p l e R s m args below meth c Z own n0 T h k n) (hret : meth.sig.returnType = none) (hd : decode c.code pc = .ok (.return_, 1)) (hc : k ≤ C) (hs : n ≤ S) (hP : P none h) : Goes p e below s n0 C S P T (mkF m pc Ls []) := by
  obtain ⟨vm0, ⟨L, X, N⟩, rfl, hx, -, -, hB, -, hlk⟩ := X
  obtain ⟨fs, hr, hrun, hended, hE⟩ := Bk.leave X hB (v := none) (fun _ => rfl) hlk
  exact ⟨_, _, L, X.returnOut hx hret hd hr, hrun, hended, ⟨N, hP⟩, EndF.mono hE hc hs⟩
theorem Std.ldcI (X : Std p l e R s m args below meth c Z own n0 T h k n) {index : Nat} {v : Int32} (w : (Cond.constant own index v).before a0 Z = true) (hd : decode c.code pc = .ok (.ldc index, 2)) (G : Goes p e below s n0 C S P T (mkF m (pc + 2) Ls (.int v :: st))) : Goes p e below s n0 C S P T (mkF m pc Ls st) := by
  obtain ⟨vm0, ⟨L, X, N⟩, -, hx, hZ, hown, -⟩ := X
  exact Goes.by (fun _ q => X.ldcI hx hown (mvT (s := s.setVm vm0) hZ w) rfl hd q) G
theorem Std.ldcWI (X : Std p l e R s m args below meth c Z own n0 T h k n) {index : Nat} {v : Int32} (w : (Cond.constant own index v).before a0 Z = true) (hd : decode c.code pc = .ok (.ldc_w index, 3)) (G : Goes p e below s n0 C S P T (mkF m (pc + 3) Ls (.int v :: st))) : Goes p e below s n0 C S P T (mkF m pc Ls st) := by
  obtain ⟨vm0, ⟨L, X, N⟩, -, hx, hZ, hown, -⟩ := X
  exact Goes.by (fun _ q => X.ldcWI hx hown (mvT (s := s.setVm vm0) hZ w) rfl hd q) G
theorem Std.getS (X : Std p l e R s m args below meth c Z own n0 T h k n) {index : Nat} {R0 O nm d host : String} {v : Value} (w : (Cond.fieldLink own index R0 nm d).before a0 Z = true ∨ (Cond.fieldLinkNest own index R0 nm d host).before a0 Z = true) (via : Via Z R0 O nm d) (F : Sta Z h O nm d v) (hd : decode c.code pc = .ok (.getstatic index, 3))
    (G : ∀ T, Std p l e R s m args below meth c Z own n0 T h k n → Goes p e below s n0 C S P T (mkF m (pc + 3) Ls (v :: st))) : Goes p e below s n0 C S P T (mkF m pc Ls st) := by
  obtain ⟨vm0, ⟨L, X, N⟩, eT, hx, hZ, hown, r⟩ := X
  obtain ⟨T1, X1, e1, st1⟩ := Jvm.RoadKit.getS2 X hx hZ hown w via eT F (g := mkF m pc Ls st) rfl hd
  exact Goes.by st1 (G T1 ⟨vm0, ⟨L, X1, N⟩, e1, hx, hZ, hown, r⟩)
theorem Std.getF (X : Std p l e R s m args below meth c Z own n0 T h k n) {index : Nat} {R0 O nm d host : String} {a : Addr} {v : Value} (w : (Cond.fieldLink own index R0 nm d).before a0 Z = true ∨ (Cond.fieldLinkNest own index R0 nm d host).before a0 Z = true) (via : Via Z R0 O nm d) (F : Fld Z h a O nm d v) (hd : decode c.code pc = .ok (.getfield index, 3))
    (G : ∀ T, Std p l e R s m args below meth c Z own n0 T h k n → Goes p e below s n0 C S P T (mkF m (pc + 3) Ls (v :: rest))) : Goes p e below s n0 C S P T (mkF m pc Ls (.ref a :: rest)) := by
  obtain ⟨vm0, ⟨L, X, N⟩, eT, hx, hZ, hown, r⟩ := X
  obtain ⟨T1, X1, e1, st1⟩ := Jvm.RoadKit.getF X hx hZ hown w via eT F (g := mkF m pc Ls (.ref a :: rest)) rfl rfl hd
  exact Goes.by st1 (G T1 ⟨vm0, ⟨L, X1, N⟩, e1, hx, hZ, hown, r⟩)
theorem Std.putF (X : Std p l e R s m args below meth c Z own n0 T h k n) {index kk : Nat} {R0 O nm d host K : String} {ty : FieldType} {a : Addr} {v old : Value} (w : (Cond.fieldLink own index R0 nm d).before a0 Z = true ∨ (Cond.fieldLinkNest own index R0 nm d host).before a0 Z = true) (via : Via Z R0 O nm d) (F : Fld Z h a O nm d old) (E : Exa Z h a K)
    (L : (Cond.lays K O nm d).before a0 Z = true ∨ ((Cond.laysFinal K O nm d).before a0 Z = true ∧ own = O ∧ meth.name = "<init>")) (wi : (Cond.instantiable K kk).before a0 Z = true) (hty : parseFieldDescriptor d = some ty) (hn : narrow ty v = v) (hf : fits ty v = true) (ha : n0 ≤ a) (hd : decode c.code pc = .ok (.putfield index, 3))
    (G : ∀ T h', Std p l e R s m args below meth c Z own n0 T h' k n → Wr h h' a (Jvm.RoadKit.slotOf Z O nm d) v → Goes p e below s n0 C S P T (mkF m (pc + 3) Ls rest)) : Goes p e below s n0 C S P T (mkF m pc Ls (v :: .ref a :: rest)) := by
  obtain ⟨vm0, ⟨L0, X, N⟩, eT, hx, hZ, hown, hB, r⟩ := X
  obtain ⟨T1, h1, X1, e1, W1, st1⟩ := Jvm.RoadKit.putF X hx hZ hown w via eT F E L wi hty hn hf (g := mkF m pc Ls (v :: .ref a :: rest)) rfl rfl hd
  exact Goes.by st1 (G T1 h1 ⟨vm0, ⟨_, X1, Fr.snoc X1 N ha⟩, e1, hx, hZ, hown, hB.mono (Nat.le_of_eq W1.size.symm), r⟩ W1)
theorem Std.newO (X : Std p l e R s m args below meth c Z own n0 T h k n) {index j : Nat} {K : String} (w : (Cond.classLink own index K).before a0 Z = true) (wi : (Cond.instantiable K j).before a0 Z = true) (wz : (Cond.initialized K).before a0 Z = true) (hd : decode c.code pc = .ok (.new index, 3)) (hc : k + 1 ≤ R.cells) (hl : n + j ≤ R.slots)
    (G : ∀ T h' a, Std p l e R s m args below meth c Z own n0 T h' (k + 1) (n + j) → a = h.size → n0 ≤ a → Ext h h' → Exa Z h' a K → (∀ {O nm d : String} {ty : FieldType}, Laid Z a0 K O nm d → parseFieldDescriptor d = some ty → Fld Z h' a O nm d (defaultValue ty)) → Goes p e below s n0 C S P T (mkF m (pc + 3) Ls (.ref a :: st))) : Goes p e below s n0 C S P T (mkF m pc Ls st) := by
  have q := X.n0le
  obtain ⟨vm0, ⟨L0, X, N⟩, eT, hx, hZ, hown, hB, r⟩ := X
  obtain ⟨T1, h1, X1, e1, E1, A1, D1, -, st1⟩ := Jvm.RoadKit.newO X hx hZ hown w wi wz eT (g := mkF m pc Ls st) rfl hd hc hl
  exact Goes.by st1 (G T1 h1 h.size ⟨vm0, ⟨_, X1, N⟩, e1, hx, hZ, hown, hB.mono E1.1, r⟩ rfl q E1 A1 D1)
theorem Std.initO (X : Std p l e R s m args below meth c Z own n0 T h k n) {index : Nat} {a : Addr} (w1 : (Cond.methodLink own index Lib.objectInit).before a0 Z = true) (w2 : (Cond.instanceMethod Lib.objectInit).before a0 Z = true) (w3 : (Cond.code Lib.objectInit object_method_1_code 1 none).before a0 Z = true) (hsz : Ls.size = c.maxLocals) (hd : decode c.code pc = .ok (.invokespecial index, 3)) (hf : 1 ≤ R.frames) (hl : (rest.map fun v => v.category).sum + 12 ≤ R.locals)
    (G : ∀ T, Std p l e R s m args below meth c Z own n0 T h k n → Goes p e below s n0 C S P T (mkF m (pc + 3) Ls rest)) : Goes p e below s n0 C S P T (mkF m pc Ls (.ref a :: rest)) := by
  obtain ⟨vm0, ⟨L, X, N⟩, eT, hx, hZ, hown, r⟩ := X
  obtain ⟨T1, X1, e1, st1⟩ := Jvm.RoadKit.initO X hx hZ hown w1 w2 w3 eT (g := mkF m pc Ls (.ref a :: rest)) rfl hsz rfl hd hf (W := (rest.map fun v => v.category).sum) (by show 2 * 0 + _ ≤ _; omega) hl
  exact Goes.by st1 (G T1 ⟨vm0, ⟨L, X1, N⟩, e1, hx, hZ, hown, r⟩)
theorem Std.irem (X : Std p l e R s m args below meth c Z own n0 T h k n) {x y : Int32} (hd : decode c.code pc = .ok (.irem, 1)) (hy : y ≠ 0) (G : Goes p e below s n0 C S P T (mkF m (pc + 1) Ls (.int (x % y) :: rest))) : Goes p e below s n0 C S P T (mkF m pc Ls (.int y :: .int x :: rest)) := by
  obtain ⟨vm0, ⟨L, X, N⟩, eT, hx, r⟩ := X
  exact Goes.by (fun _ q => iremM X hx rfl hd rfl hy q) G
theorem Std.acmp (X : Std p l e R s m args below meth c Z own n0 T h k n) {cd : ACond} {x y : Value} (h1 : x.isRef = true) (h2 : y.isRef = true) {o : Int} {pc' : Nat} {same : Bool} (hd : decode c.code pc = .ok (.if_acmp cd o, 3)) (hq : decide (x = y) = same) (ho : 0 ≤ (pc : Int) + o) (hp : pc' = if acV cd same = true then ((pc : Int) + o).toNat else pc + 3) (G : Goes p e below s n0 C S P T (mkF m pc' Ls rest)) : Goes p e below s n0 C S P T (mkF m pc Ls (y :: x :: rest)) := by
  obtain ⟨vm0, ⟨L, X, N⟩, eT, hx, r⟩ := X
  exact Goes.by (fun _ q => Jvm.RoadKit.acmp X hx rfl h1 h2 rfl hd rfl hq ho hp q) G
theorem metW {ws : List Jvm.Cond} {y : MethodName} {bytes : ByteArray} {maxL : Nat} {ret : Option FieldType} {rm : Room} {as' : Array Value} {h0 : Heap} {Q : Option Value → Heap → Prop} (hpl : plainFor y = true) (hn0 : n0 ≤ h0.size)
    (body : ∀ p e s m below meth c s₁, Std p l e rm s m as' below meth c Z y.cls n0 s₁ h0 0 0 → c.code = bytes → c.maxLocals = maxL → meth.sig.returnType = ret → meth.name = y.name → Goes p e below s n0 rm.cells rm.slots Q s₁ (entryFrame m as' maxL)) :
    MetFree l y (head1 (Cond.code y bytes maxL ret :: ws) rm) (fun a U => a = as' ∧ Z.Warmed39 U.vm ∧ U.heap = h0) (fun _ _ _ _ _ => True) (fun _ U o U' => ∃ v L, o = .returned v ∧ (Fr n0 L ∧ Q v U'.heap) ∧ EndF U o U' L rm.cells rm.slots) := by
  refine MetFree.of_bodySF hpl hisR ?_
  intro p e s m args below meth c s₁ Bd hml hP hK
  obtain ⟨rfl, hZ, hh⟩ := hP
  have e0 : s₁.heap = h0 := by rw [← hh, Bd.state]; rfl
  obtain ⟨s₂, v, L, h1, h2, h3, h4, h5⟩ := body p e s m below meth c s₁ ⟨s.vm, ⟨[], Stand.of_body Bd, Fr.nil n0⟩, e0, Bd.exec, hZ, findClass_of_methodNamed Bd.named, Bk.start, by rw [hh]; exact hn0, Bd.notSynchronized⟩ Bd.bytes hml Bd.returns (name_of_methodNamed Bd.named Bd.method).1
  exact ⟨s₂, _, h1, h2, h3, v, L, rfl, h4, h5⟩
theorem Std.callS (X : Std p l e R s m args below meth c Z own n0 T h k n) {index : Nat} {y : MethodName} {bytes : ByteArray} {maxL : Nat} {ret : Option FieldType} {rm : Room} {argsL : List Value} {Q : Option Value → Heap → Prop} {ps : List FieldType} {r : Option FieldType} (w1 : (Cond.methodLink own index y).before a0 Z = true) (w2 : (Cond.static y).before a0 Z = true) (wz : (Cond.initialized y.cls).before a0 Z = true) (wc : (Cond.code y bytes maxL ret).before a0 Z = true) (hy : y.cls ≠ "java/lang/invoke/MethodHandle" ∧ y.cls ≠ "java/lang/invoke/VarHandle")
    (hpd : parseMethodDescriptor y.desc = some ⟨ps, r⟩) (hlen : argsL.length = ps.length) (M : Met l Z n0 y bytes maxL ret rm argsL.toArray h Q) (hsz : Ls.size = c.maxLocals) (hstk : st = argsL.reverse ++ rest) (hf : rm.frames + 1 ≤ R.frames) (hl : (rest.map fun v => v.category).sum + (maxL + 11) + rm.locals ≤ R.locals) (hd : decode c.code pc = .ok (.invokestatic index, 3)) (hc : k + rm.cells ≤ R.cells) (hs : n + rm.slots ≤ R.slots)
    (G : ∀ T h' v, Std p l e R s m args below meth c Z own n0 T h' (k + rm.cells) (n + rm.slots) → Q v h' → Goes p e below s n0 C S P T (mkF m (pc + 3) Ls (v.toList ++ rest))) : Goes p e below s n0 C S P T (mkF m pc Ls st) := by
  obtain ⟨vm0, ⟨L0, X, N⟩, eT, hx, hZ, hown, hB, r⟩ := X
  subst eT
  obtain ⟨v, vm1, T1, L2, X1, hB1, hZ1, hown1, N2, hQ, st1⟩ := Bk.callS X hx hB hZ hown w1 w2 wz wc hy hpd hlen M hsz hstk hf hl hd hc hs
  exact Goes.by st1 (G T1 _ v ⟨vm1, ⟨_, X1, Fr.app N N2⟩, rfl, hx, hZ1, hown1, hB1, r⟩ hQ)
theorem Std.callSN (X : Std p l e R s m args below meth c Z own n0 T h k n) {index : Nat} {y : MethodName} {bytes : ByteArray} {maxL : Nat} {ret : Option FieldType} {rm : Room} {argsL : List Value} {Q : Option Value → Heap → Prop} {ps : List FieldType} {r : Option FieldType} {host : String} (w1 : (Cond.methodLinkNest own index y host).before a0 Z = true) (w2 : (Cond.static y).before a0 Z = true) (wz : (Cond.initialized y.cls).before a0 Z = true) (wc : (Cond.code y bytes maxL ret).before a0 Z = true) (hy : y.cls ≠ "java/lang/invoke/MethodHandle" ∧ y.cls ≠ "java/lang/invoke/VarHandle")
    (hpd : parseMethodDescriptor y.desc = some ⟨ps, r⟩) (hlen : argsL.length = ps.length) (M : Met l Z n0 y bytes maxL ret rm argsL.toArray h Q) (hsz : Ls.size = c.maxLocals) (hstk : st = argsL.reverse ++ rest) (hf : rm.frames + 1 ≤ R.frames) (hl : (rest.map fun v => v.category).sum + (maxL + 11) + rm.locals ≤ R.locals) (hd : decode c.code pc = .ok (.invokestatic index, 3)) (hc : k + rm.cells ≤ R.cells) (hs : n + rm.slots ≤ R.slots)
    (G : ∀ T h' v, Std p l e R s m args below meth c Z own n0 T h' (k + rm.cells) (n + rm.slots) → Q v h' → Goes p e below s n0 C S P T (mkF m (pc + 3) Ls (v.toList ++ rest))) : Goes p e below s n0 C S P T (mkF m pc Ls st) := by
  obtain ⟨vm0, ⟨L0, X, N⟩, eT, hx, hZ, hown, hB, r⟩ := X
  subst eT
  obtain ⟨v, vm1, T1, L2, X1, hB1, hZ1, hown1, N2, hQ, st1⟩ := Bk.callSN X hx hB hZ hown w1 w2 wz wc hy hpd hlen M hsz hstk hf hl hd hc hs
  exact Goes.by st1 (G T1 _ v ⟨vm1, ⟨_, X1, Fr.app N N2⟩, rfl, hx, hZ1, hown1, hB1, r⟩ hQ)
theorem Std.callV (X : Std p l e R s m args below meth c Z own n0 T h k n) {index : Nat} {y : MethodName} {bytes : ByteArray} {maxL : Nat} {ret : Option FieldType} {rm : Room} {argsL : List Value} {Q : Option Value → Heap → Prop} {ps : List FieldType} {r : Option FieldType} {z : MethodName} {K : String} {b : Addr} (E : Exa Z h b K) (w1 : (Cond.methodLink own index y).before a0 Z = true) (w2 : (Cond.declares y).before a0 Z = true) (w3 : (Cond.selects K y z).before a0 Z = true) {D : String} {x' z' : MethodName} (w5 : (Cond.selects D x' z').before a0 Z = true) (h5 : z'.cls = y.cls) (w4 : (Cond.instanceMethod z).before a0 Z = true) (wz : (Cond.initialized z.cls).before a0 Z = true) (wc : (Cond.code z bytes maxL ret).before a0 Z = true) (hy : y.cls ≠ "java/lang/invoke/MethodHandle" ∧ y.cls ≠ "java/lang/invoke/VarHandle")
    (hpd : parseMethodDescriptor y.desc = some ⟨ps, r⟩) (hlen : argsL.length = ps.length) (M : Met l Z n0 z bytes maxL ret rm (.ref b :: argsL).toArray h Q) (hsz : Ls.size = c.maxLocals) (hstk : st = argsL.reverse ++ .ref b :: rest) (hf : rm.frames + 1 ≤ R.frames) (hl : (rest.map fun v => v.category).sum + (maxL + 11) + rm.locals ≤ R.locals) (hd : decode c.code pc = .ok (.invokevirtual index, 3)) (hc : k + rm.cells ≤ R.cells) (hs : n + rm.slots ≤ R.slots)
    (G : ∀ T h' v, Std p l e R s m args below meth c Z own n0 T h' (k + rm.cells) (n + rm.slots) → Q v h' → Goes p e below s n0 C S P T (mkF m (pc + 3) Ls (v.toList ++ rest))) : Goes p e below s n0 C S P T (mkF m pc Ls st) := by
  obtain ⟨vm0, ⟨L0, X, N⟩, eT, hx, hZ, hown, hB, r⟩ := X
  subst eT
  obtain ⟨v, vm1, T1, L2, X1, hB1, hZ1, hown1, N2, hQ, st1⟩ := Bk.callV X hx hB hZ hown E w1 w2 w3 w5 h5 w4 wz wc hy hpd hlen M hsz hstk hf hl hd hc hs
  exact Goes.by st1 (G T1 _ v ⟨vm1, ⟨_, X1, Fr.app N N2⟩, rfl, hx, hZ1, hown1, hB1, r⟩ hQ)
theorem Std.callU (X : Std p l e R s m args below meth c Z own n0 T h k n) {index : Nat} {y : MethodName} {bytes : ByteArray} {maxL : Nat} {ret : Option FieldType} {rm : Room} {argsL : List Value} {Q : Option Value → Heap → Prop} {ps : List FieldType} {r : Option FieldType} {z : MethodName} {owner K : String} {b : Addr} (E : Exa Z h b K) (w1 : (Cond.methodLink own index y).before a0 Z = true) (wsm : (Cond.sameMethod y.cls owner y.name y.desc).before a0 Z = true) (w2 : (Cond.declares ⟨owner, y.name, y.desc⟩).before a0 Z = true) (ho : owner ≠ "java/lang/invoke/MethodHandle" ∧ owner ≠ "java/lang/invoke/VarHandle") (w3 : (Cond.selects K y z).before a0 Z = true) (w4 : (Cond.instanceMethod z).before a0 Z = true) (wz : (Cond.initialized z.cls).before a0 Z = true) (wc : (Cond.code z bytes maxL ret).before a0 Z = true)
    (hpd : parseMethodDescriptor y.desc = some ⟨ps, r⟩) (hlen : argsL.length = ps.length) (M : Met l Z n0 z bytes maxL ret rm (.ref b :: argsL).toArray h Q) (hsz : Ls.size = c.maxLocals) (hstk : st = argsL.reverse ++ .ref b :: rest) (hf : rm.frames + 1 ≤ R.frames) (hl : (rest.map fun v => v.category).sum + (maxL + 11) + rm.locals ≤ R.locals) (hd : decode c.code pc = .ok (.invokevirtual index, 3)) (hc : k + rm.cells ≤ R.cells) (hs : n + rm.slots ≤ R.slots)
    (G : ∀ T h' v, Std p l e R s m args below meth c Z own n0 T h' (k + rm.cells) (n + rm.slots) → Q v h' → Goes p e below s n0 C S P T (mkF m (pc + 3) Ls (v.toList ++ rest))) : Goes p e below s n0 C S P T (mkF m pc Ls st) := by
  obtain ⟨vm0, ⟨L0, X, N⟩, eT, hx, hZ, hown, hB, r⟩ := X
  subst eT
  obtain ⟨v, vm1, T1, L2, X1, hB1, hZ1, hown1, N2, hQ, st1⟩ := Bk.callU X hx hB hZ hown E w1 wsm w2 ho w3 w4 wz wc hpd hlen M hsz hstk hf hl hd hc hs
  exact Goes.by st1 (G T1 _ v ⟨vm1, ⟨_, X1, Fr.app N N2⟩, rfl, hx, hZ1, hown1, hB1, r⟩ hQ)
theorem Std.callN (X : Std p l e R s m args below meth c Z own n0 T h k n) {index : Nat} {y : MethodName} {bytes : ByteArray} {maxL : Nat} {rm : Room} {argsL : List Value} {Q : Option Value → Heap → Prop} {ps : List FieldType} {r : Option FieldType} {b : Addr} (hin : y.name = "<init>") (w1 : (Cond.methodLink own index y).before a0 Z = true) (w4 : (Cond.instanceMethod y).before a0 Z = true) (wz : (Cond.initialized y.cls).before a0 Z = true) (wc : (Cond.code y bytes maxL none).before a0 Z = true) (hy : y.cls ≠ "java/lang/invoke/MethodHandle" ∧ y.cls ≠ "java/lang/invoke/VarHandle")
    (hpd : parseMethodDescriptor y.desc = some ⟨ps, r⟩) (hlen : argsL.length = ps.length) (M : Met l Z n0 y bytes maxL none rm (.ref b :: argsL).toArray h Q) (hsz : Ls.size = c.maxLocals) (hstk : st = argsL.reverse ++ .ref b :: rest) (hf : rm.frames + 1 ≤ R.frames) (hl : (rest.map fun v => v.category).sum + (maxL + 11) + rm.locals ≤ R.locals) (hd : decode c.code pc = .ok (.invokespecial index, 3)) (hc : k + rm.cells ≤ R.cells) (hs : n + rm.slots ≤ R.slots)
    (G : ∀ T h' v, Std p l e R s m args below meth c Z own n0 T h' (k + rm.cells) (n + rm.slots) → Q v h' → Goes p e below s n0 C S P T (mkF m (pc + 3) Ls (v.toList ++ rest))) : Goes p e below s n0 C S P T (mkF m pc Ls st) := by
  obtain ⟨vm0, ⟨L0, X, N⟩, eT, hx, hZ, hown, hB, r⟩ := X
  subst eT
  obtain ⟨v, vm1, T1, L2, X1, hB1, hZ1, hown1, N2, hQ, st1⟩ := Bk.callN X hx hB hZ hown hin w1 w4 wz wc hy hpd hlen M hsz hstk hf hl hd hc hs
  exact Goes.by st1 (G T1 _ v ⟨vm1, ⟨_, X1, Fr.app N N2⟩, rfl, hx, hZ1, hown1, hB1, r⟩ hQ)
theorem fldEq {args : Array Value} {s : State} {t : Term} {a : Addr} {C n d : String} {k : Int32} (ht : t.eval args s none [] s = some (.ref a)) (h : (Jvm.Cond.eq (.field t C n d) (.int k)).value args s none s [] = some true) : Fld s s.heap a C n d (.int k) := by
  obtain ⟨x, y, ex, ey, kx, ky⟩ := cmp_v (Or.inl h)
  have hy : y = .int k := Option.some.inj (ey.symm.trans (Term.int_eval k))
  subst hy
  obtain ⟨z, rfl⟩ : ∃ z, x = .int z := ky
  have q := gotT (Cond.eq_ints ex (Term.int_eval k)) h
  subst q
  exact Fld.start ((fld_at ht).symm.trans ex)
theorem fldEqS {args : Array Value} {s : State} {t u : Term} {a b : Addr} {C n d : String} (ht : t.eval args s none [] s = some (.ref a)) (hu : u.eval args s none [] s = some (.ref b)) (h : (Jvm.Cond.eq (.field t C n d) u).value args s none s [] = some true) : Fld s s.heap a C n d (.ref b) := by
  obtain ⟨x, y, ex, ey, kx, ky⟩ := cmp_v (Or.inl h)
  have hy : y = .ref b := Option.some.inj (ey.symm.trans hu)
  subst hy
  have hx : x.isRef = true := (show (Value.ref b).isRef = true ∧ x.isRef = true from ky).2
  have q := gotT (eq_R ex hu hx rfl) h
  subst q
  exact Fld.start ((fld_at ht).symm.trans ex)
theorem staEq {args : Array Value} {s : State} {C n d : String} {k : Int32} (h : (Jvm.Cond.eq (.static C n d) (.int k)).value args s none s [] = some true) (hi : (Jvm.Cond.initializedFor C n d).before args s = true ∨ ((Jvm.Cond.initialized C).before args s = true ∧ (Jvm.Cond.laysStatic C n d).before args s = true)) : Sta s s.heap C n d (.int k) := by
  obtain ⟨x, y, ex, ey, kx, ky⟩ := cmp_v (Or.inl h)
  have hy : y = .int k := Option.some.inj (ey.symm.trans (Term.int_eval k))
  subst hy
  obtain ⟨z, rfl⟩ : ∃ z, x = .int z := ky
  have q := gotT (Cond.eq_ints ex (Term.int_eval k)) h
  subst q
  exact Sta.start ex hi
/-- the law's masks -/
theorem maskR (x n : Int32) (N : Int) (hn : n.toInt = N) (hp : 0 < N) : 0 ≤ ((x &&& 2147483647) % n).toInt ∧ ((x &&& 2147483647) % n).toInt < N := by
  have h1 := (c_and x 2147483647 (by decide)).1
  have h2 := (c_irem (x &&& 2147483647) n N hn).1 h1
  rw [h2]
  exact ⟨Int.emod_nonneg _ (by omega), Int.emod_lt_of_pos _ hp⟩
theorem i32_eq {x y : Int32} (h : x.toInt = y.toInt) : x = y := Int32.toInt_inj.mp h
theorem Sta.keep' {C nm d : String} {v : Value} {ws : List Addr} (F : Sta Z h C nm d v) (K : Keep h h' ws) (q : ∀ x ∈ ws, ∃ D, Exa Z h x D) : Sta Z h' C nm d v := by
  obtain ⟨cf, i, k, f, st, cell, h1, h2, h3, h4, h5, h6, h7⟩ := F
  refine ⟨cf, i, k, f, st, cell, h1, h2, h3, h4, K.2.1 st cell h5 fun r => ?_, h6, h7⟩
  obtain ⟨D, c2, _, e1, -, -, e4, -⟩ := q st r
  cases h5.symm.trans e1
  rw [h6] at e4
  cases e4
theorem leB {a b : Nat} (h : Nat.ble a b = true) : a ≤ b := Nat.le_of_ble_eq_true h
theorem addI {x y : Int32} (h1 : -2147483648 ≤ x.toInt + y.toInt) (h2 : x.toInt + y.toInt < 2147483648) : (x + y).toInt = x.toInt + y.toInt := by
  have q1 := c_iadd x y
  have q2 := rng32 (x + y)
  omega
theorem subI {x y : Int32} (h1 : -2147483648 ≤ x.toInt - y.toInt) (h2 : x.toInt - y.toInt < 2147483648) : (x - y).toInt = x.toInt - y.toInt := by
  have q1 := c_isub x y
  have q2 := rng32 (x - y)
  omega
def cI (x : Int32) : Int32 := x
theorem ltI {x y : Int32} : x < y ↔ x.toInt < y.toInt := Int32.lt_iff_toInt_lt
theorem eqI {x y : Int32} : x = y ↔ x.toInt = y.toInt := Int32.toInt_inj.symm
end OwnKit
section OwnArr
variable {p : Program} {l : Launch} {e : Env} {R : Room} {s : State} {m : MethodId} {args : Array Value} {below : List Frame} {meth : Method} {c : Code} {T T' : State} {Z : State} {own : String} {h h' : Heap} {n0 k n C S : Nat} {a0 : Array Value} {P : Option Value → Heap → Prop} {g g' : JFrame} {pc : Nat} {Ls : Array Slot} {st rest : List Value}
/-- an array of N values -/
def PArr (Z : State) (h : Heap) (a : Addr) (ty : FieldType) (N : Nat) (f : Nat → Value) : Prop := ∃ c : Cell, Arr Z h a c ty ∧ c.slots.size = N ∧ N < 2 ^ 31 ∧ ∀ i, i < N → c.slots[i]? = some (f i)
variable {a b : Addr} {ty : FieldType} {N sl : Nat} {f : Nat → Value} {v : Value} {ws : List Addr}
theorem PArr.lt (F : PArr Z h a ty N f) : a < h.size := by obtain ⟨c, A, -⟩ := F; exact A.lt
theorem PArr.ext (F : PArr Z h a ty N f) (E : Ext h h') : PArr Z h' a ty N f := by obtain ⟨c, A, r⟩ := F; exact ⟨c, A.ext E, r⟩
theorem PArr.other (F : PArr Z h b ty N f) (W : Wr h h' a sl v) (q : b ≠ a) : PArr Z h' b ty N f := by obtain ⟨c, A, r⟩ := F; exact ⟨c, A.other W q, r⟩
theorem PArr.keep (F : PArr Z h a ty N f) (K : Keep h h' ws) (q : a ∉ ws) : PArr Z h' a ty N f := by obtain ⟨c, A, r⟩ := F; exact ⟨c, ⟨K.2.1 a c A.1 q, A.2⟩, r⟩
theorem PArr.congr {f' : Nat → Value} (F : PArr Z h a ty N f) (q : ∀ i, i < N → f i = f' i) : PArr Z h a ty N f' := by obtain ⟨c, A, r1, r2, r3⟩ := F; exact ⟨c, A, r1, r2, fun i hi => by rw [← q i hi]; exact r3 i hi⟩
theorem PArr.small (F : PArr Z h a ty N f) : N < 2 ^ 31 := by obtain ⟨c, A, r1, r2, r3⟩ := F; exact r2
theorem PArr.set (F : PArr Z h a ty N f) (W : Wr h h' a sl v) : PArr Z h' a ty N (fun i => if i = sl then v else f i) := by
  obtain ⟨c, A, r1, r2, r3⟩ := F
  obtain ⟨cell, q1, q2, q3, q4⟩ := id W
  cases q1.symm.trans A.1
  refine ⟨_, A.same W, by rw [sz_set]; exact r1, r2, fun i hi => ?_⟩
  show (c.slots.setIfInBounds sl v)[i]? = some (if i = sl then v else f i)
  by_cases e : i = sl
  · subst e
    rw [if_pos rfl]
    simp [q3]
  · rw [if_neg e, Array.getElem?_setIfInBounds_ne (Ne.symm e)]
    exact r3 i hi
theorem idxN {j : Int32} {i : Nat} (hj : j.toInt = i) : j.toNatClampNeg = i ∧ ¬ j < 0 := by
  constructor
  · show j.toInt.toNat = i
    omega
  · rw [Int32.lt_iff_toInt_lt]
    show ¬ j.toInt < 0
    omega
theorem idxI {c : Cell} {j : Int32} {i : Nat} (hs : c.slots.size = N) (hj : j.toInt = i) (hi : i < N) : ¬ (j < 0 ∨ c.slots.size ≤ j.toNatClampNeg) := by
  rw [(idxN hj).1, hs]
  rintro (q | q)
  · exact (idxN hj).2 q
  · omega
theorem Std.iaload (X : Std p l e R s m args below meth c Z own n0 T h k n) (F : PArr Z h a .int N f) {j : Int32} {i : Nat} (hj : j.toInt = i) (hi : i < N) (hd : decode c.code pc = .ok (.iaload, 1)) (G : Goes p e below s n0 C S P T (mkF m (pc + 1) Ls (f i :: rest))) : Goes p e below s n0 C S P T (mkF m pc Ls (.int j :: .ref a :: rest)) := by
  obtain ⟨vm0, ⟨L, X, -⟩, eT, hx, hZ, -⟩ := X
  obtain ⟨cl, A, r1, r2, r3⟩ := F
  exact Goes.by (fun t q => X.iaload hx (g := mkF m pc Ls (.int j :: .ref a :: rest)) (by rw [eT]; exact A.1) (State.isArrayOf_alike hZ.alike A.2.1) A.2.2 (idxI r1 hj hi) (v := f i) (by rw [(idxN hj).1]; exact r3 i hi) rfl rfl hd t q) G
theorem Std.laload (X : Std p l e R s m args below meth c Z own n0 T h k n) (F : PArr Z h a .long N f) {j : Int32} {i : Nat} (hj : j.toInt = i) (hi : i < N) (hd : decode c.code pc = .ok (.laload, 1)) (G : Goes p e below s n0 C S P T (mkF m (pc + 1) Ls (f i :: rest))) : Goes p e below s n0 C S P T (mkF m pc Ls (.int j :: .ref a :: rest)) := by
  obtain ⟨vm0, ⟨L, X, -⟩, eT, hx, hZ, -⟩ := X
  obtain ⟨cl, A, r1, r2, r3⟩ := F
  exact Goes.by (fun t q => X.laload hx (g := mkF m pc Ls (.int j :: .ref a :: rest)) (by rw [eT]; exact A.1) (State.isArrayOf_alike hZ.alike A.2.1) A.2.2 (idxI r1 hj hi) (v := f i) (by rw [(idxN hj).1]; exact r3 i hi) rfl rfl hd t q) G
theorem Std.baloadB (X : Std p l e R s m args below meth c Z own n0 T h k n) (F : PArr Z h a .byte N f) {j : Int32} {i : Nat} (hj : j.toInt = i) (hi : i < N) (hd : decode c.code pc = .ok (.baload, 1)) (G : Goes p e below s n0 C S P T (mkF m (pc + 1) Ls (f i :: rest))) : Goes p e below s n0 C S P T (mkF m pc Ls (.int j :: .ref a :: rest)) := by
  obtain ⟨vm0, ⟨L, X, -⟩, eT, hx, hZ, -⟩ := X
  obtain ⟨cl, A, r1, r2, r3⟩ := F
  exact Goes.by (fun t q => X.baloadBytes hx (g := mkF m pc Ls (.int j :: .ref a :: rest)) (by rw [eT]; exact A.1) (State.isArrayOf_alike hZ.alike A.2.1) A.2.2 (idxI r1 hj hi) (v := f i) (by rw [(idxN hj).1]; exact r3 i hi) rfl rfl hd t q) G
theorem Std.baloadZ (X : Std p l e R s m args below meth c Z own n0 T h k n) (F : PArr Z h a .boolean N f) {j : Int32} {i : Nat} (hj : j.toInt = i) (hi : i < N) (hd : decode c.code pc = .ok (.baload, 1)) (G : Goes p e below s n0 C S P T (mkF m (pc + 1) Ls (f i :: rest))) : Goes p e below s n0 C S P T (mkF m pc Ls (.int j :: .ref a :: rest)) := by
  obtain ⟨vm0, ⟨L, X, -⟩, eT, hx, hZ, -⟩ := X
  obtain ⟨cl, A, r1, r2, r3⟩ := F
  exact Goes.by (fun t q => X.baloadBooleans hx (g := mkF m pc Ls (.int j :: .ref a :: rest)) (by rw [eT]; exact A.1) (State.isArrayOf_alike hZ.alike A.2.1) A.2.2 (idxI r1 hj hi) (v := f i) (by rw [(idxN hj).1]; exact r3 i hi) rfl rfl hd t q) G
theorem Std.alen (X : Std p l e R s m args below meth c Z own n0 T h k n) (F : PArr Z h a ty N f) {z : Int32} (hz : z.toInt = N) (hd : decode c.code pc = .ok (.arraylength, 1)) (G : Goes p e below s n0 C S P T (mkF m (pc + 1) Ls (.int z :: rest))) : Goes p e below s n0 C S P T (mkF m pc Ls (.ref a :: rest)) := by
  obtain ⟨vm0, ⟨L, X, -⟩, eT, hx, hZ, -⟩ := X
  obtain ⟨cl, A, r1, r2, r3⟩ := F
  have q : cl.slots.size.toInt32 = z := Int32.toInt_inj.mp (by rw [r1, hz]; exact len_toInt r2)
  refine Goes.by (fun t q => X.arraylength hx (g := mkF m pc Ls (.ref a :: rest)) (by rw [eT]; exact A.1) (State.isArrayOf_alike hZ.alike A.2.1) rfl rfl hd t q) ?_
  rw [q]
  exact G
theorem Std.iastore (X : Std p l e R s m args below meth c Z own n0 T h k n) (F : PArr Z h a .int N f) {j x : Int32} {i : Nat} (hj : j.toInt = i) (hi : i < N) (ha : n0 ≤ a) (hd : decode c.code pc = .ok (.iastore, 1))
    (G : ∀ T h', Std p l e R s m args below meth c Z own n0 T h' k n → Wr h h' a i (.int x) → Goes p e below s n0 C S P T (mkF m (pc + 1) Ls rest)) : Goes p e below s n0 C S P T (mkF m pc Ls (.int x :: .int j :: .ref a :: rest)) := by
  obtain ⟨vm0, ⟨L, X, M⟩, eT, hx, hZ, hown, hB, r⟩ := X
  obtain ⟨cl, A, r1, r2, r3⟩ := F
  obtain ⟨T1, h1, X1, e1, W1, st1⟩ := stI X hx hZ eT A (x := x) (idxI r1 hj hi) (g := mkF m pc Ls (.int x :: .int j :: .ref a :: rest)) rfl rfl hd
  refine Goes.by st1 (G T1 h1 ⟨vm0, ⟨_, X1, Fr.snoc X1 M ha⟩, e1, hx, hZ, hown, hB.mono (Nat.le_of_eq W1.size.symm), r⟩ ?_)
  rw [← (idxN hj).1]
  exact W1
theorem Std.bastoreB (X : Std p l e R s m args below meth c Z own n0 T h k n) (F : PArr Z h a .byte N f) {j x : Int32} {i : Nat} (hj : j.toInt = i) (hi : i < N) (ha : n0 ≤ a) (hd : decode c.code pc = .ok (.bastore, 1))
    (G : ∀ T h', Std p l e R s m args below meth c Z own n0 T h' k n → Wr h h' a i (.int (nar .byte x)) → Goes p e below s n0 C S P T (mkF m (pc + 1) Ls rest)) : Goes p e below s n0 C S P T (mkF m pc Ls (.int x :: .int j :: .ref a :: rest)) := by
  obtain ⟨vm0, ⟨L, X, M⟩, eT, hx, hZ, hown, hB, r⟩ := X
  obtain ⟨cl, A, r1, r2, r3⟩ := F
  obtain ⟨T1, h1, X1, e1, W1, st1⟩ := stB X hx hZ eT A (x := x) (idxI r1 hj hi) (g := mkF m pc Ls (.int x :: .int j :: .ref a :: rest)) rfl rfl hd
  refine Goes.by st1 (G T1 h1 ⟨vm0, ⟨_, X1, Fr.snoc X1 M ha⟩, e1, hx, hZ, hown, hB.mono (Nat.le_of_eq W1.size.symm), r⟩ ?_)
  rw [← (idxN hj).1]
  exact W1
theorem Std.bastoreZ (X : Std p l e R s m args below meth c Z own n0 T h k n) (F : PArr Z h a .boolean N f) {j x : Int32} {i : Nat} (hj : j.toInt = i) (hi : i < N) (ha : n0 ≤ a) (hd : decode c.code pc = .ok (.bastore, 1))
    (G : ∀ T h', Std p l e R s m args below meth c Z own n0 T h' k n → Wr h h' a i (.int (nar .boolean x)) → Goes p e below s n0 C S P T (mkF m (pc + 1) Ls rest)) : Goes p e below s n0 C S P T (mkF m pc Ls (.int x :: .int j :: .ref a :: rest)) := by
  obtain ⟨vm0, ⟨L, X, M⟩, eT, hx, hZ, hown, hB, r⟩ := X
  obtain ⟨cl, A, r1, r2, r3⟩ := F
  obtain ⟨T1, h1, X1, e1, W1, st1⟩ := stZ X hx hZ eT A (x := x) (idxI r1 hj hi) (g := mkF m pc Ls (.int x :: .int j :: .ref a :: rest)) rfl rfl hd
  refine Goes.by st1 (G T1 h1 ⟨vm0, ⟨_, X1, Fr.snoc X1 M ha⟩, e1, hx, hZ, hown, hB.mono (Nat.le_of_eq W1.size.symm), r⟩ ?_)
  rw [← (idxN hj).1]
  exact W1
theorem Std.newA (X : Std p l e R s m args below meth c Z own n0 T h k n) {aty : ArrayType} {ad : String} (had : "[" ++ (newarray.typeOf aty).toString = ad) (w : (Cond.arrayClass (newarray.typeOf aty)).before a0 Z = true) (hd : decode c.code pc = .ok (.newarray aty, 2)) {z : Int32} (hz : z.toInt = N) {cap : Nat} (hcap : N ≤ cap) (hb : cap * 8 ≤ 536870912) (hc : k + 1 ≤ R.cells) (hl : n + cap ≤ R.slots)
    (G : ∀ T h' a, Std p l e R s m args below meth c Z own n0 T h' (k + 1) (n + cap) → a = h.size → n0 ≤ a → Ext h h' → Exa Z h' a ad → PArr Z h' a (newarray.typeOf aty) N (fun _ => defaultValue (newarray.typeOf aty)) → Goes p e below s n0 C S P T (mkF m (pc + 2) Ls (.ref a :: rest))) : Goes p e below s n0 C S P T (mkF m pc Ls (.int z :: rest)) := by
  have q := X.n0le
  obtain ⟨vm0, ⟨L0, X, M⟩, eT, hx, hZ, hown, hB, r⟩ := X
  obtain ⟨T1, h1, cA, X1, e1, E1, A1, B1, st1⟩ := newPE X hx hZ w eT (g := mkF m pc Ls (.int z :: rest)) rfl hd rfl (idxN hz).2 (cap := cap) (by rw [(idxN hz).1]; exact hcap) hb hc hl had
  have hN : N < 2 ^ 31 := by have := Int32.toInt_lt z; omega
  refine Goes.by st1 (G T1 h1 h.size ⟨vm0, ⟨_, X1, M⟩, e1, hx, hZ, hown, hB.mono E1.1, r⟩ rfl q E1 B1 ⟨_, A1, by rw [sz_new]; exact (idxN hz).1, hN, fun i hi => ?_⟩)
  show (Array.replicate z.toNatClampNeg _)[i]? = _
  rw [(idxN hz).1]
  simp [hi]
end OwnArr
section OwnMore
variable {p : Program} {l : Launch} {e : Env} {R : Room} {s : State} {m : MethodId} {args : Array Value} {below : List Frame} {meth : Method} {c : Code} {T T' : State} {Z : State} {own : String} {h h' : Heap} {n0 k n C S : Nat} {a0 : Array Value} {P : Option Value → Heap → Prop} {g g' : JFrame} {pc : Nat} {Ls : Array Slot} {st rest : List Value} {a b : Addr} {ty : FieldType} {N sl : Nat} {f : Nat → Value} {v : Value} {ws : List Addr}
theorem Std.castY (X : Std p l e R s m args below meth c Z own n0 T h k n) {index : Nat} {K : String} (w : (Cond.classLink own index K).before a0 Z = true) (F : Ins Z h a K true) (hd : decode c.code pc = .ok (.checkcast index, 3))
    (G : ∀ T, Std p l e R s m args below meth c Z own n0 T h k n → Goes p e below s n0 C S P T (mkF m (pc + 3) Ls (.ref a :: rest))) : Goes p e below s n0 C S P T (mkF m pc Ls (.ref a :: rest)) := by
  obtain ⟨vm0, ⟨L, X, M⟩, eT, hx, hZ, hown, hB, r⟩ := X
  obtain ⟨T1, X1, e1, st1⟩ := Jvm.RoadKit.castY X hx hZ hown w eT F (g := mkF m pc Ls (.ref a :: rest)) rfl rfl hd
  exact Goes.by st1 (G T1 ⟨vm0, ⟨L, X1, M⟩, e1, hx, hZ, hown, hB, r⟩)
theorem Std.instY (X : Std p l e R s m args below meth c Z own n0 T h k n) {index : Nat} {K : String} (w : (Cond.classLink own index K).before a0 Z = true) (F : Ins Z h a K true) (hd : decode c.code pc = .ok (.instanceof index, 3))
    (G : ∀ T, Std p l e R s m args below meth c Z own n0 T h k n → Goes p e below s n0 C S P T (mkF m (pc + 3) Ls (.int 1 :: rest))) : Goes p e below s n0 C S P T (mkF m pc Ls (.ref a :: rest)) := by
  obtain ⟨vm0, ⟨L, X, M⟩, eT, hx, hZ, hown, hB, r⟩ := X
  obtain ⟨T1, X1, e1, st1⟩ := Jvm.RoadKit.instY X hx hZ hown w eT F (g := mkF m pc Ls (.ref a :: rest)) rfl rfl hd
  exact Goes.by st1 (G T1 ⟨vm0, ⟨L, X1, M⟩, e1, hx, hZ, hown, hB, r⟩)
theorem Std.more (X : Std p l e R s m args below meth c Z own n0 T h k n) {k' n' : Nat} (hk : k ≤ k') (hn : n ≤ n') : Std p l e R s m args below meth c Z own n0 T h k' n' := by
  obtain ⟨vm0, ⟨L, X, M⟩, r⟩ := X
  exact ⟨vm0, ⟨L, X.more hk hn, M⟩, r⟩
theorem Std.clone (X : Std p l e R s m args below meth c Z own n0 T h k n) {ad : String} {index : Nat} (w1 : (Cond.methodLink own index ⟨ad, "clone", "()Ljava/lang/Object;"⟩).before a0 Z = true) (w2 : (Cond.sameMethod ad "java/lang/Object" "clone" "()Ljava/lang/Object;").before a0 Z = true) (w3 : (Cond.native ⟨"java/lang/Object", "clone", "()Ljava/lang/Object;"⟩).before a0 Z = true)
    (w4 : (Cond.instanceMethod ⟨"java/lang/Object", "clone", "()Ljava/lang/Object;"⟩).before a0 Z = true) (w5 : (Cond.selects ad ⟨ad, "clone", "()Ljava/lang/Object;"⟩ ⟨"java/lang/Object", "clone", "()Ljava/lang/Object;"⟩).before a0 Z = true) (w6 : (Cond.castable ad "java/lang/Cloneable").before a0 Z = true)
    (F : PArr Z h a ty N f) (hfit : ∀ i, i < N → fits ty (f i) = true) (E : Exa Z h a ad) (hsz : Ls.size = c.maxLocals) (hd : decode c.code pc = .ok (.invokevirtual index, 3)) (hf : 1 ≤ R.frames) (hl : (rest.map fun v => v.category).sum + 14 ≤ R.locals) {cap : Nat} (hcap : N ≤ cap) (hc : k + 1 ≤ R.cells) (hs : n + cap ≤ R.slots)
    (G : ∀ T h' b, Std p l e R s m args below meth c Z own n0 T h' (k + 1) (n + cap) → b = h.size → n0 ≤ b → Ext h h' → Exa Z h' b ad → PArr Z h' b ty N f → Goes p e below s n0 C S P T (mkF m (pc + 3) Ls (.ref b :: rest))) : Goes p e below s n0 C S P T (mkF m pc Ls (.ref a :: rest)) := by
  have q := X.n0le
  obtain ⟨vm0, ⟨L, X, M⟩, eT, hx, hZ, hown, hB, r⟩ := X
  obtain ⟨cl, A, r1, r2, r3⟩ := F
  have FC : FitC Z cl := fitC_of A fun i hi v hv => by rw [r1] at hi; rw [r3 i hi] at hv; cases hv; exact hfit i hi
  obtain ⟨T1, h1, X1, e1, E1, A1, B1, st1⟩ := cloneA X hx hZ hown w1 w2 w3 w4 w5 w6 eT A E FC (g := mkF m pc Ls (.ref a :: rest)) rfl hsz rfl hd hf (W := (rest.map fun v => v.category).sum) (cap := cap) (by show 2 * 0 + _ ≤ _; omega) hl (by rw [r1]; exact hcap) hc hs
  exact Goes.by st1 (G T1 h1 h.size ⟨vm0, ⟨_, X1, M⟩, e1, hx, hZ, hown, hB.mono E1.1, r⟩ rfl q E1 B1 ⟨cloneOf cl, A1, r1, r2, r3⟩)
theorem Std.grid (X : Std p l e R s m args below meth c Z own n0 T h k n) {K ad : String} {index : Nat} (hC : (FieldType.array ty).toString = K) (had : "[" ++ K = ad) (w1 : (Cond.classLink own index ad).before a0 Z = true) (w2 : (Cond.arrayOver (.array ty)).before a0 Z = true) (w3 : (Cond.arrayClass ty).before a0 Z = true) (hd : decode c.code pc = .ok (.multianewarray index 2, 4)) {z y : Int32} {Y : Nat} (hz : z.toInt = N) (hy : y.toInt = Y) {capN cap : Nat} (hcN : N ≤ capN) (hcap : Y ≤ cap) (hb : cap * 8 ≤ 536870912) (hb1 : capN ≤ 1000) (hdf : fits ty (defaultValue ty) = true) (hdd : (defaultValue ty).isDefault = true) (hc : k + (1 + capN) ≤ R.cells) (hl : n + (capN + capN * cap) ≤ R.slots)
    (G : ∀ T h' b, Std p l e R s m args below meth c Z own n0 T h' (k + (1 + capN)) (n + (capN + capN * cap)) → b = h.size → n0 ≤ b → Ext h h' → Exa Z h' b ad → Goes p e below s n0 C S P T (mkF m (pc + 4) Ls (.ref b :: rest))) : Goes p e below s n0 C S P T (mkF m pc Ls (.int y :: .int z :: rest)) := by
  have q := X.n0le
  have m1 : N * cap ≤ capN * cap := Nat.mul_le_mul_right _ hcN
  obtain ⟨vm0, ⟨L, X, M⟩, eT, hx, hZ, hown, hB, r⟩ := X
  obtain ⟨T1, h1, cA, comp, X1, e1, E1, A1, O1, B1, I1, st1⟩ := gridM X hx hZ hown hC had w1 w2 w3 eT (g := mkF m pc Ls (.int y :: .int z :: rest)) rfl hd rfl (idxN hz).2 (idxN hy).2 (N := N) (idxN hz).1 rfl (cap := cap) (by rw [(idxN hy).1]; exact hcap) hb (by omega) hdf hdd (by omega) (by omega)
  exact Goes.by st1 (G T1 h1 h.size ⟨vm0, ⟨_, X1.more (by omega) (by omega), M⟩, e1, hx, hZ, hown, hB.mono E1.1, r⟩ rfl q E1 B1)
end OwnMore
theorem pf_2 : plainFor (⟨"java/lang/Math", "min", "(II)I"⟩ : MethodName) = true := by first | exact plainFor_of_name (by first | (simp [plainName, overriddenIn]; done) | decide +kernel) | decide +kernel
theorem d2_0 : decode jdk_29_method_69_code 0 = .ok (.iload_n 0, 1) := by decide +kernel
theorem d2_1 : decode jdk_29_method_69_code 1 = .ok (.iload_n 1, 1) := by decide +kernel
theorem d2_2 : decode jdk_29_method_69_code 2 = .ok (.if_icmp .gt 7, 3) := by decide +kernel
theorem d2_9 : decode jdk_29_method_69_code 9 = .ok (.iload_n 1, 1) := by decide +kernel
theorem d2_10 : decode jdk_29_method_69_code 10 = .ok (.ireturn, 1) := by decide +kernel
theorem d2_5 : decode jdk_29_method_69_code 5 = .ok (.iload_n 0, 1) := by decide +kernel
theorem d2_6 : decode jdk_29_method_69_code 6 = .ok (.goto 4, 3) := by decide +kernel
theorem pf_1 : plainFor (⟨"com/example/riskweave/riskweave/bound/PenaltyDistributionValueAtRiskPinLaw", "prob", "(I)D"⟩ : MethodName) = true := by first | exact plainFor_of_name (by first | (simp [plainName, overriddenIn]; done) | decide +kernel) | decide +kernel
theorem d1_0 : decode method_2_code 0 = .ok (.iload_n 0, 1) := by decide +kernel
theorem d1_1 : decode method_2_code 1 = .ok (.bipush 16, 2) := by decide +kernel
theorem pd_184293393 : parseMethodDescriptor "(II)I" = some ⟨[.int, .int], some .int⟩ := by decide +kernel
theorem d1_3 : decode method_2_code 3 = .ok (.invokestatic 7, 3) := by decide +kernel
theorem d1_6 : decode method_2_code 6 = .ok (.i2d, 1) := by decide +kernel
theorem d1_7 : decode method_2_code 7 = .ok (.ldc2_w 13, 3) := by decide +kernel
theorem d1_10 : decode method_2_code 10 = .ok (.ddiv, 1) := by decide +kernel
theorem d1_11 : decode method_2_code 11 = .ok (.dreturn, 1) := by decide +kernel
theorem pf_3 : plainFor (⟨"com/example/riskweave/riskweave/bound/PenaltyDistribution", "<init>", "(D[DDD)V"⟩ : MethodName) = true := by first | exact plainFor_of_name (by first | (simp [plainName, overriddenIn]; done) | decide +kernel) | decide +kernel
theorem d3_0 : decode prog_4_method_1_code 0 = .ok (.aload_n 0, 1) := by decide +kernel
theorem d3_1 : decode prog_4_method_1_code 1 = .ok (.invokespecial 1, 3) := by decide +kernel
theorem d3_4 : decode prog_4_method_1_code 4 = .ok (.aload_n 0, 1) := by decide +kernel
theorem d3_5 : decode prog_4_method_1_code 5 = .ok (.dload_n 1, 1) := by decide +kernel
theorem d3_6 : decode prog_4_method_1_code 6 = .ok (.putfield 7, 3) := by decide +kernel
theorem d3_9 : decode prog_4_method_1_code 9 = .ok (.aload_n 0, 1) := by decide +kernel
theorem d3_10 : decode prog_4_method_1_code 10 = .ok (.aload_n 3, 1) := by decide +kernel
theorem d3_11 : decode prog_4_method_1_code 11 = .ok (.putfield 13, 3) := by decide +kernel
theorem d3_14 : decode prog_4_method_1_code 14 = .ok (.aload_n 0, 1) := by decide +kernel
theorem d3_15 : decode prog_4_method_1_code 15 = .ok (.dload 4, 2) := by decide +kernel
theorem d3_17 : decode prog_4_method_1_code 17 = .ok (.putfield 17, 3) := by decide +kernel
theorem d3_20 : decode prog_4_method_1_code 20 = .ok (.aload_n 0, 1) := by decide +kernel
theorem d3_21 : decode prog_4_method_1_code 21 = .ok (.dload 6, 2) := by decide +kernel
theorem d3_23 : decode prog_4_method_1_code 23 = .ok (.putfield 20, 3) := by decide +kernel
theorem d3_26 : decode prog_4_method_1_code 26 = .ok (.return_, 1) := by decide +kernel
theorem pf_5 : plainFor (⟨"com/example/riskweave/riskweave/bound/PenaltyDistribution", "valueAtRisk", "(D)D"⟩ : MethodName) = true := by first | exact plainFor_of_name (by first | (simp [plainName, overriddenIn]; done) | decide +kernel) | decide +kernel
theorem d5_0 : decode prog_4_method_5_code 0 = .ok (.dload_n 1, 1) := by decide +kernel
theorem d5_1 : decode prog_4_method_5_code 1 = .ok (.dconst 0, 1) := by decide +kernel
theorem d5_2 : decode prog_4_method_5_code 2 = .ok (.dcmp .l, 1) := by decide +kernel
theorem d5_3 : decode prog_4_method_5_code 3 = .ok (.ifCond .le 9, 3) := by decide +kernel
theorem d5_6 : decode prog_4_method_5_code 6 = .ok (.dload_n 1, 1) := by decide +kernel
theorem d5_7 : decode prog_4_method_5_code 7 = .ok (.dconst 1, 1) := by decide +kernel
theorem d5_8 : decode prog_4_method_5_code 8 = .ok (.dcmp .g, 1) := by decide +kernel
theorem d5_9 : decode prog_4_method_5_code 9 = .ok (.ifCond .lt 17, 3) := by decide +kernel
theorem d5_26 : decode prog_4_method_5_code 26 = .ok (.iconst 0, 1) := by decide +kernel
theorem d5_27 : decode prog_4_method_5_code 27 = .ok (.istore_n 3, 1) := by decide +kernel
theorem d5_28 : decode prog_4_method_5_code 28 = .ok (.aload_n 0, 1) := by decide +kernel
theorem d5_29 : decode prog_4_method_5_code 29 = .ok (.getfield 13, 3) := by decide +kernel
theorem d5_32 : decode prog_4_method_5_code 32 = .ok (.arraylength, 1) := by decide +kernel
theorem d5_33 : decode prog_4_method_5_code 33 = .ok (.iconst 1, 1) := by decide +kernel
theorem d5_34 : decode prog_4_method_5_code 34 = .ok (.isub, 1) := by decide +kernel
theorem d5_35 : decode prog_4_method_5_code 35 = .ok (.istore 4, 2) := by decide +kernel
theorem d5_37 : decode prog_4_method_5_code 37 = .ok (.iload_n 3, 1) := by decide +kernel
theorem d5_38 : decode prog_4_method_5_code 38 = .ok (.iload 4, 2) := by decide +kernel
theorem d5_40 : decode prog_4_method_5_code 40 = .ok (.if_icmp .ge 38, 3) := by decide +kernel
theorem d5_43 : decode prog_4_method_5_code 43 = .ok (.iload_n 3, 1) := by decide +kernel
theorem d5_44 : decode prog_4_method_5_code 44 = .ok (.iload 4, 2) := by decide +kernel
theorem d5_46 : decode prog_4_method_5_code 46 = .ok (.iadd, 1) := by decide +kernel
theorem d5_47 : decode prog_4_method_5_code 47 = .ok (.iconst 1, 1) := by decide +kernel
theorem d5_48 : decode prog_4_method_5_code 48 = .ok (.iushr, 1) := by decide +kernel
theorem d5_49 : decode prog_4_method_5_code 49 = .ok (.istore 5, 2) := by decide +kernel
theorem d5_51 : decode prog_4_method_5_code 51 = .ok (.aload_n 0, 1) := by decide +kernel
theorem d5_52 : decode prog_4_method_5_code 52 = .ok (.getfield 13, 3) := by decide +kernel
theorem d5_55 : decode prog_4_method_5_code 55 = .ok (.iload 5, 2) := by decide +kernel
theorem d5_57 : decode prog_4_method_5_code 57 = .ok (.daload, 1) := by decide +kernel
theorem d5_58 : decode prog_4_method_5_code 58 = .ok (.dload_n 1, 1) := by decide +kernel
theorem d5_59 : decode prog_4_method_5_code 59 = .ok (.dcmp .l, 1) := by decide +kernel
theorem d5_60 : decode prog_4_method_5_code 60 = .ok (.ifCond .lt 10, 3) := by decide +kernel
theorem d5_70 : decode prog_4_method_5_code 70 = .ok (.iload 5, 2) := by decide +kernel
theorem d5_72 : decode prog_4_method_5_code 72 = .ok (.iconst 1, 1) := by decide +kernel
theorem d5_73 : decode prog_4_method_5_code 73 = .ok (.iadd, 1) := by decide +kernel
theorem d5_74 : decode prog_4_method_5_code 74 = .ok (.istore_n 3, 1) := by decide +kernel
theorem d5_75 : decode prog_4_method_5_code 75 = .ok (.goto (-38), 3) := by decide +kernel
theorem d5_78 : decode prog_4_method_5_code 78 = .ok (.iload_n 3, 1) := by decide +kernel
theorem d5_79 : decode prog_4_method_5_code 79 = .ok (.i2d, 1) := by decide +kernel
theorem d5_80 : decode prog_4_method_5_code 80 = .ok (.aload_n 0, 1) := by decide +kernel
theorem d5_81 : decode prog_4_method_5_code 81 = .ok (.getfield 7, 3) := by decide +kernel
theorem d5_84 : decode prog_4_method_5_code 84 = .ok (.dmul, 1) := by decide +kernel
theorem d5_85 : decode prog_4_method_5_code 85 = .ok (.dreturn, 1) := by decide +kernel
theorem d5_63 : decode prog_4_method_5_code 63 = .ok (.iload 5, 2) := by decide +kernel
theorem d5_65 : decode prog_4_method_5_code 65 = .ok (.istore 4, 2) := by decide +kernel
theorem d5_67 : decode prog_4_method_5_code 67 = .ok (.goto 8, 3) := by decide +kernel
theorem pf_0 : plainFor (⟨"com/example/riskweave/riskweave/bound/PenaltyDistributionValueAtRiskPinLaw", "law", "(III)Z"⟩ : MethodName) = true := by first | exact plainFor_of_name (by first | (simp [plainName, overriddenIn]; done) | decide +kernel) | decide +kernel
theorem pd_2087992003 : parseMethodDescriptor "(I)D" = some ⟨[.int], some .double⟩ := by decide +kernel
theorem pd_2981041303 : parseMethodDescriptor "(D[DDD)V" = some ⟨[.double, (.array .double), .double, .double], none⟩ := by decide +kernel
theorem pd_2087986558 : parseMethodDescriptor "(D)D" = some ⟨[.double], some .double⟩ := by decide +kernel
section OwnDbl
variable {p : Program} {l : Launch} {e : Env} {R : Room} {s : State} {m : MethodId} {args : Array Value} {below : List Frame} {meth : Method} {c : Code} {T T' : State} {Z : State} {own : String} {h h' : Heap} {n0 k n C S : Nat} {a0 : Array Value} {P : Option Value → Heap → Prop} {pc : Nat} {Ls : Array Slot} {st rest : List Value} {a : Addr} {N : Nat} {f : Nat → Value}
theorem Std.ldc2D (X : Std p l e R s m args below meth c Z own n0 T h k n) {index : Nat} {b : UInt64} (w : (Cond.constantDouble own index b).before a0 Z = true) (hd : decode c.code pc = .ok (.ldc2_w index, 3)) (G : Goes p e below s n0 C S P T (mkF m (pc + 3) Ls (.double b :: st))) : Goes p e below s n0 C S P T (mkF m pc Ls st) := by
  obtain ⟨vm0, ⟨L, X, N⟩, -, hx, hZ, hown, -⟩ := X
  exact Goes.by (fun t q => X.ldc2DoubleC hx (g := mkF m pc Ls st) hown (mvT (s := s.setVm vm0) hZ w) rfl hd t q) G
theorem Std.daload (X : Std p l e R s m args below meth c Z own n0 T h k n) (F : PArr Z h a .double N f) {j : Int32} {i : Nat} (hj : j.toInt = i) (hi : i < N) (hd : decode c.code pc = .ok (.daload, 1)) (G : Goes p e below s n0 C S P T (mkF m (pc + 1) Ls (f i :: rest))) : Goes p e below s n0 C S P T (mkF m pc Ls (.int j :: .ref a :: rest)) := by
  obtain ⟨vm0, ⟨L, X, -⟩, eT, hx, hZ, -⟩ := X
  obtain ⟨cl, A, r1, r2, r3⟩ := F
  exact Goes.by (fun t q => X.daload hx (g := mkF m pc Ls (.int j :: .ref a :: rest)) (by rw [eT]; exact A.1) (State.isArrayOf_alike (s := Z) hZ.alike A.2.1) A.2.2 (idxI r1 hj hi) (v := f i) (by rw [(idxN hj).1]; exact r3 i hi) rfl rfl hd t q) G
theorem Std.dastore (X : Std p l e R s m args below meth c Z own n0 T h k n) (F : PArr Z h a .double N f) {j : Int32} {x : UInt64} {i : Nat} (hj : j.toInt = i) (hi : i < N) (ha : n0 ≤ a) (hd : decode c.code pc = .ok (.dastore, 1))
    (G : ∀ T h', Std p l e R s m args below meth c Z own n0 T h' k n → Wr h h' a i (.double x) → Goes p e below s n0 C S P T (mkF m (pc + 1) Ls rest)) : Goes p e below s n0 C S P T (mkF m pc Ls (.double x :: .int j :: .ref a :: rest)) := by
  obtain ⟨vm0, ⟨L, X, M⟩, eT, hx, hZ, hown, hB, r⟩ := X
  obtain ⟨cl, A, r1, r2, r3⟩ := F
  obtain ⟨T1, h1, X1, e1, W1, st1⟩ := stD X hx hZ eT A (x := x) (idxI r1 hj hi) (g := mkF m pc Ls (.double x :: .int j :: .ref a :: rest)) rfl rfl hd
  refine Goes.by st1 (G T1 h1 ⟨vm0, ⟨_, X1, Fr.snoc X1 M ha⟩, e1, hx, hZ, hown, hB.mono (Nat.le_of_eq W1.size.symm), r⟩ ?_)
  rw [← (idxN hj).1]
  exact W1
theorem Std.retD (X : Std p l e R s m args below meth c Z own n0 T h k n) {z : UInt64} (hret : meth.sig.returnType = some .double) (hd : decode c.code pc = .ok (.dreturn, 1)) (hc : k ≤ C) (hs : n ≤ S) (hP : P (some (.double z)) h) : Goes p e below s n0 C S P T (mkF m pc Ls (.double z :: rest)) :=
  X.retOut hret rfl (Or.inr (Or.inr (Or.inl ⟨rfl, rfl, z, rfl⟩))) hd hc hs hP
end OwnDbl
def pqI (x : Int32) : UInt64 := FP.ddiv (FP.i2d x) 4625196817309499392
def cmpI (x y : Int32) : Int32 := if x < y then -1 else if x = y then 0 else 1
theorem of17 {x : Int32} (h1 : 0 ≤ x.toInt) (h2 : x.toInt ≤ 16) : ∃ a : Fin 17, x = Int32.ofNat a := ⟨⟨x.toInt.toNat, by omega⟩, i32_eq (by rw [show (Int32.ofNat x.toInt.toNat).toInt = (x.toInt.toNat : Int) from len_toInt (by omega)]; omega)⟩
theorem pcmpF : ∀ a b : Fin 17, cmpValue (FP.dcmp (pqI (Int32.ofNat a)) (pqI (Int32.ofNat b))) .l = cmpI (Int32.ofNat a) (Int32.ofNat b) := by decide +kernel
theorem pnanF : ∀ a : Fin 17, (FP.ddiv (FP.i2d (Int32.ofNat a)) 4625196817309499392) &&& 0x7fffffffffffffff ≤ 0x7ff0000000000000 := by decide +kernel
theorem plowF : ∀ a : Fin 17, (a : Nat) ≠ 0 → (a : Nat) ≠ 16 → cmpValue (FP.dcmp (pqI (Int32.ofNat a)) 0) .l = 1 ∧ cmpValue (FP.dcmp (pqI (Int32.ofNat a)) 4607182418800017408) .g = -1 := by decide +kernel
theorem pcmp {x y : Int32} (h1 : 0 ≤ x.toInt) (h2 : x.toInt ≤ 16) (h3 : 0 ≤ y.toInt) (h4 : y.toInt ≤ 16) : cmpValue (FP.dcmp (pqI x) (pqI y)) .l = cmpI x y := by
  obtain ⟨a, rfl⟩ := of17 h1 h2
  obtain ⟨b, rfl⟩ := of17 h3 h4
  exact pcmpF a b
theorem pnan {x : Int32} (h1 : 0 ≤ x.toInt) (h2 : x.toInt ≤ 16) : Jvm.Free.Fl.NoNaN64 (FP.ddiv (FP.i2d x) 4625196817309499392) := by
  obtain ⟨a, rfl⟩ := of17 h1 h2
  exact pnanF a
theorem plow {x : Int32} (h1 : 1 ≤ x.toInt) (h2 : x.toInt ≤ 15) : cmpValue (FP.dcmp (pqI x) 0) .l = 1 ∧ cmpValue (FP.dcmp (pqI x) 4607182418800017408) .g = -1 := by
  obtain ⟨a, rfl⟩ := of17 (x := x) (by omega) (by omega)
  have q : (Int32.ofNat a).toInt = ((a : Nat) : Int) := len_toInt (by have := a.2; omega)
  exact plowF a (by omega) (by omega)
theorem cmpI_lt {x y : Int32} : cmpI x y < 0 ↔ x.toInt < y.toInt := by
  unfold cmpI
  by_cases q : x < y
  · rw [if_pos q]; rw [ltI] at q; exact ⟨fun _ => q, fun _ => by decide⟩
  · rw [if_neg q]
    rw [ltI] at q
    by_cases q2 : x = y
    · rw [if_pos q2]; exact ⟨fun h => absurd h (by decide), fun h => absurd h q⟩
    · rw [if_neg q2]; exact ⟨fun h => absurd h (by decide), fun h => absurd h q⟩
theorem mulNN (a b : Int32) : Jvm.Free.Fl.NoNaN64 (FP.dmul (FP.i2d a) (FP.i2d b)) := Jvm.Free.Fl.dmul_out (Jvm.Free.Fl.i2d_fin a) (Jvm.Free.Fl.i2d_fin b)

def rfn (r0 r1 r2 r3 r4 : Int32) (j : Nat) : Int32 := if j = 0 then r0 else if j = 1 then r1 else if j = 2 then r2 else if j = 3 then r3 else r4
set_option maxRecDepth 65536 in
set_option maxHeartbeats 40000000 in
theorem rmMn (l : Launch) (Z : State) (a0 : Array Value) (hw : ∀ d ∈ tables_1, d.before a0 Z = true) (n0 : Nat) (h0 : Heap) (hn0 : n0 ≤ h0.size) (x y : Int32) :
    Met l Z n0 (⟨"java/lang/Math", "min", "(II)I"⟩ : MethodName) jdk_29_method_69_code 2 (Option.some .int) ({ frames := 0, cells := 0, slots := 0, locals := 0 } : Room) #[(.int x), (.int y)] h0 (fun (v : Option Value) (h' : Heap) => v = some (.int (if y < x then y else x)) ∧ h' = h0) := by
  refine metW (Q := fun (v : Option Value) (h' : Heap) => v = some (.int (if y < x then y else x)) ∧ h' = h0) pf_2 hn0 ?_
  intro p e s m below meth c T X hby hml hret hnm
  refine Goes.by (g' := (mkF m 0 #[.val (.int x), .val (.int y)] [])) (fun _ q => castTop (by first | rfl | (simp [entryFrame, mkF, argsToLocals, Value.category]; done)) q) ?_
  refine Goes.by (g' := (mkF m 1 #[.val (.int x), .val (.int y)] [(.int x)])) (fun _ q => XS.iloadN X.here X.hx rfl (hb hby d2_0) rfl q) ?_
  refine Goes.by (g' := (mkF m 2 #[.val (.int x), .val (.int y)] [(.int y), (.int x)])) (fun _ q => XS.iloadN X.here X.hx rfl (hb hby d2_1) rfl q) ?_
  by_cases hB1 : y < x
  · skip
    refine Goes.by (g' := (mkF m 9 #[.val (.int x), .val (.int y)] [])) (fun _ q => XS.icmpYes X.here X.hx rfl (pc0 := 2) (pc' := 9) rfl (hb hby d2_2) rfl (tlt hB1).2.2.1 (by decide) (by decide) q) ?_
    refine Goes.by (g' := (mkF m 10 #[.val (.int x), .val (.int y)] [(.int y)])) (fun _ q => XS.iloadN X.here X.hx rfl (hb hby d2_9) rfl q) ?_
    exact X.retI hret (hb hby d2_10) (by decide) (by decide) ⟨by simp [hB1], rfl⟩
  · skip
    refine Goes.by (g' := (mkF m 5 #[.val (.int x), .val (.int y)] [])) (fun _ q => XS.icmpNo X.here X.hx rfl (hb hby d2_2) rfl (flt hB1).2.2.1 q) ?_
    refine Goes.by (g' := (mkF m 6 #[.val (.int x), .val (.int y)] [(.int x)])) (fun _ q => XS.iloadN X.here X.hx rfl (hb hby d2_5) rfl q) ?_
    refine Goes.by (g' := (mkF m 10 #[.val (.int x), .val (.int y)] [(.int x)])) (fun _ q => XS.goto X.here X.hx rfl (pc0 := 6) (pc' := 10) rfl (hb hby d2_6) (by decide) (by decide) q) ?_
    exact X.retI hret (hb hby d2_10) (by decide) (by decide) ⟨by simp [hB1], rfl⟩
set_option maxRecDepth 65536 in
set_option maxHeartbeats 40000000 in
theorem rmPr (l : Launch) (Z : State) (a0 : Array Value) (hw : ∀ d ∈ tables_1, d.before a0 Z = true) (n0 : Nat) (h0 : Heap) (hn0 : n0 ≤ h0.size) (c_ : Int32) (hc0 : 0 ≤ c_.toInt) :
    Met l Z n0 (⟨"com/example/riskweave/riskweave/bound/PenaltyDistributionValueAtRiskPinLaw", "prob", "(I)D"⟩ : MethodName) method_2_code 1 (Option.some .double) ({ frames := 1, cells := 0, slots := 0, locals := 13 } : Room) #[(.int c_)] h0 (fun (v : Option Value) (h' : Heap) => ∃ r, v = some (.double (pqI r)) ∧ (0 ≤ r.toInt ∧ r.toInt ≤ 16 ∧ (c_.toInt ≤ 16 → r.toInt = c_.toInt) ∧ (16 ≤ c_.toInt → r.toInt = 16)) ∧ h' = h0) := by
  refine metW (Q := fun (v : Option Value) (h' : Heap) => ∃ r, v = some (.double (pqI r)) ∧ (0 ≤ r.toInt ∧ r.toInt ≤ 16 ∧ (c_.toInt ≤ 16 → r.toInt = c_.toInt) ∧ (16 ≤ c_.toInt → r.toInt = 16)) ∧ h' = h0) pf_1 hn0 ?_
  intro p e s m below meth c T X hby hml hret hnm
  refine Goes.by (g' := (mkF m 0 #[.val (.int c_)] [])) (fun _ q => castTop (by first | rfl | (simp [entryFrame, mkF, argsToLocals, Value.category]; done)) q) ?_
  refine Goes.by (g' := (mkF m 1 #[.val (.int c_)] [(.int c_)])) (fun _ q => XS.iloadN X.here X.hx rfl (hb hby d1_0) rfl q) ?_
  refine Goes.by (g' := (mkF m 3 #[.val (.int c_)] [(.int (16 : Int32)), (.int c_)])) (fun _ q => XS.bipush X.here X.hx rfl (hb hby d1_1) q) ?_
  have X_o := X
  refine X.callS (hw _ (List.mem_of_getElem? (i := 5) rfl)) (hw _ (List.mem_of_getElem? (i := 6) rfl)) (hw _ (List.mem_of_getElem? (i := 7) rfl)) (hw _ (List.mem_of_getElem? (i := 8) rfl)) (by decide) pd_184293393 (argsL := [(.int c_), (.int (16 : Int32))]) rfl (rmMn l Z a0 hw n0 h0 X.n0le c_ (16 : Int32)) (by rw [hml]; rfl) rfl (by decide) (leB rfl) (hb hby d1_3) (by decide) (by decide) (fun T h2 v X hQ => ?_)
  obtain ⟨rfl, hh⟩ := hQ
  rw [hh] at X
  clear hh
  generalize hrr : (if (16 : Int32) < c_ then (16 : Int32) else c_) = rr
  have hr1 : 0 ≤ rr.toInt ∧ rr.toInt ≤ 16 ∧ (c_.toInt ≤ 16 → rr.toInt = c_.toInt) ∧ (16 ≤ c_.toInt → rr.toInt = 16) := by
    have o : (16 : Int32).toInt = 16 := by decide
    rw [← hrr]
    by_cases q : (16 : Int32) < c_
    · rw [if_pos q]; rw [ltI] at q; omega
    · rw [if_neg q]; rw [ltI] at q; omega
  show Goes _ _ _ _ _ _ _ _ T (mkF m 6 #[.val (.int c_)] [(.int rr)])
  refine Goes.by (g' := (mkF m 7 #[.val (.int c_)] [(.double (FP.i2d rr))])) (fun _ q => XS.i2dS X.here X.hx rfl (hb hby d1_6) rfl rfl q) ?_
  refine X.ldc2D (hw _ (List.mem_of_getElem? (i := 9) rfl)) (hb hby d1_7) ?_
  show Goes _ _ _ _ _ _ _ _ T (mkF m 10 #[.val (.int c_)] [(.double (4625196817309499392 : UInt64)), (.double (FP.i2d rr))])
  refine Goes.by (g' := (mkF m 11 #[.val (.int c_)] [(.double (pqI rr))])) (fun _ q => XS.ddivS X.here X.hx rfl (hb hby d1_10) rfl (pnan hr1.1 hr1.2.1) rfl q) ?_
  exact X.retD hret (hb hby d1_11) (by decide) (by decide) ⟨rr, rfl, hr1, rfl⟩
set_option maxRecDepth 65536 in
set_option maxHeartbeats 40000000 in
theorem rmI (l : Launch) (Z : State) (a0 : Array Value) (hw : ∀ d ∈ tables_1, d.before a0 Z = true) (n0 : Nat) (h0 : Heap) (hn0 : n0 ≤ h0.size) (a b : Addr) (st_ : UInt64) (ga_a : n0 ≤ a) (E_a : Exa Z h0 a "com/example/riskweave/riskweave/bound/PenaltyDistribution") (F_a_step : Fld Z h0 a "com/example/riskweave/riskweave/bound/PenaltyDistribution" "step" "D" (.double 0)) (F_a_atMost : Fld Z h0 a "com/example/riskweave/riskweave/bound/PenaltyDistribution" "atMost" "[D" .null) (F_a_mean : Fld Z h0 a "com/example/riskweave/riskweave/bound/PenaltyDistribution" "mean" "D" (.double 0)) (F_a_variance : Fld Z h0 a "com/example/riskweave/riskweave/bound/PenaltyDistribution" "variance" "D" (.double 0)) :
    Met l Z n0 (⟨"com/example/riskweave/riskweave/bound/PenaltyDistribution", "<init>", "(D[DDD)V"⟩ : MethodName) prog_4_method_1_code 8 (Option.none : Option FieldType) ({ frames := 1, cells := 0, slots := 0, locals := 12 } : Room) #[(.ref a), (.double st_), (.ref b), (.double (0 : UInt64)), (.double (0 : UInt64))] h0 (fun (v : Option Value) (h' : Heap) => v = none ∧ Keep h0 h' [a] ∧ Fld Z h' a "com/example/riskweave/riskweave/bound/PenaltyDistribution" "step" "D" (.double st_) ∧ Fld Z h' a "com/example/riskweave/riskweave/bound/PenaltyDistribution" "atMost" "[D" (.ref b)) := by
  refine metW (Q := fun (v : Option Value) (h' : Heap) => v = none ∧ Keep h0 h' [a] ∧ Fld Z h' a "com/example/riskweave/riskweave/bound/PenaltyDistribution" "step" "D" (.double st_) ∧ Fld Z h' a "com/example/riskweave/riskweave/bound/PenaltyDistribution" "atMost" "[D" (.ref b)) pf_3 hn0 ?_
  intro p e s m below meth c T X hby hml hret hnm
  refine Goes.by (g' := (mkF m 0 #[.val (.ref a), .val (.double st_), .second, .val (.ref b), .val (.double (0 : UInt64)), .second, .val (.double (0 : UInt64)), .second] [])) (fun _ q => castTop (by first | rfl | (simp [entryFrame, mkF, argsToLocals, Value.category]; done)) q) ?_
  have K0 := Keep.refl h0 [a]
  refine Goes.by (g' := (mkF m 1 #[.val (.ref a), .val (.double st_), .second, .val (.ref b), .val (.double (0 : UInt64)), .second, .val (.double (0 : UInt64)), .second] [(.ref a)])) (fun _ q => XS.aloadN X.here X.hx rfl (hb hby d3_0) rfl rfl q) ?_
  refine X.initO (hw _ (List.mem_of_getElem? (i := 17) rfl)) (hw _ (List.mem_of_getElem? (i := 18) rfl)) (hw _ (List.mem_of_getElem? (i := 19) rfl)) (by rw [hml]; rfl) (hb hby d3_1) (by decide) (leB rfl) (fun T X => ?_)
  show Goes _ _ _ _ _ _ _ _ T (mkF m 4 #[.val (.ref a), .val (.double st_), .second, .val (.ref b), .val (.double (0 : UInt64)), .second, .val (.double (0 : UInt64)), .second] [])
  refine Goes.by (g' := (mkF m 5 #[.val (.ref a), .val (.double st_), .second, .val (.ref b), .val (.double (0 : UInt64)), .second, .val (.double (0 : UInt64)), .second] [(.ref a)])) (fun _ q => XS.aloadN X.here X.hx rfl (hb hby d3_4) rfl rfl q) ?_
  refine Goes.by (g' := (mkF m 6 #[.val (.ref a), .val (.double st_), .second, .val (.ref b), .val (.double (0 : UInt64)), .second, .val (.double (0 : UInt64)), .second] [(.double st_), (.ref a)])) (fun _ q => XS.dloadN X.here X.hx rfl (hb hby d3_5) rfl q) ?_
  refine X.putF (host := "") (Or.inl (hw _ (List.mem_of_getElem? (i := 20) rfl))) Via.refl F_a_step E_a (Or.inr ⟨(hw _ (List.mem_of_getElem? (i := 21) rfl)), rfl, hnm⟩) (hw _ (List.mem_of_getElem? (i := 12) rfl)) (ty := .double) (by decide) rfl rfl ga_a (hb hby d3_6) (fun T h3 X W => ?_)
  have K0 := K0.wr W (Or.inl (by simp))
  have E_a := E_a.wr W
  have F_a_step := F_a_step.same W
  have F_a_atMost := F_a_atMost.other W (Or.inr (slot_ne (Or.inr (hw _ (List.mem_of_getElem? (i := 23) rfl))) (Or.inr (hw _ (List.mem_of_getElem? (i := 21) rfl))) (by decide) (t := (.array .double)) (t' := .double) (by decide) (by decide)))
  have F_a_mean := F_a_mean.other W (Or.inr (slot_ne (Or.inr (hw _ (List.mem_of_getElem? (i := 25) rfl))) (Or.inr (hw _ (List.mem_of_getElem? (i := 21) rfl))) (by decide) (t := .double) (t' := .double) (by decide) (by decide)))
  have F_a_variance := F_a_variance.other W (Or.inr (slot_ne (Or.inr (hw _ (List.mem_of_getElem? (i := 27) rfl))) (Or.inr (hw _ (List.mem_of_getElem? (i := 21) rfl))) (by decide) (t := .double) (t' := .double) (by decide) (by decide)))
  show Goes _ _ _ _ _ _ _ _ T (mkF m 9 #[.val (.ref a), .val (.double st_), .second, .val (.ref b), .val (.double (0 : UInt64)), .second, .val (.double (0 : UInt64)), .second] [])
  refine Goes.by (g' := (mkF m 10 #[.val (.ref a), .val (.double st_), .second, .val (.ref b), .val (.double (0 : UInt64)), .second, .val (.double (0 : UInt64)), .second] [(.ref a)])) (fun _ q => XS.aloadN X.here X.hx rfl (hb hby d3_9) rfl rfl q) ?_
  refine Goes.by (g' := (mkF m 11 #[.val (.ref a), .val (.double st_), .second, .val (.ref b), .val (.double (0 : UInt64)), .second, .val (.double (0 : UInt64)), .second] [(.ref b), (.ref a)])) (fun _ q => XS.aloadN X.here X.hx rfl (hb hby d3_10) rfl rfl q) ?_
  refine X.putF (host := "") (Or.inl (hw _ (List.mem_of_getElem? (i := 22) rfl))) Via.refl F_a_atMost E_a (Or.inr ⟨(hw _ (List.mem_of_getElem? (i := 23) rfl)), rfl, hnm⟩) (hw _ (List.mem_of_getElem? (i := 12) rfl)) (ty := (.array .double)) (by decide) rfl rfl ga_a (hb hby d3_11) (fun T h4 X W => ?_)
  have K0 := K0.wr W (Or.inl (by simp))
  have E_a := E_a.wr W
  have F_a_step := F_a_step.other W (Or.inr (slot_ne (Or.inr (hw _ (List.mem_of_getElem? (i := 21) rfl))) (Or.inr (hw _ (List.mem_of_getElem? (i := 23) rfl))) (by decide) (t := .double) (t' := (.array .double)) (by decide) (by decide)))
  have F_a_atMost := F_a_atMost.same W
  have F_a_mean := F_a_mean.other W (Or.inr (slot_ne (Or.inr (hw _ (List.mem_of_getElem? (i := 25) rfl))) (Or.inr (hw _ (List.mem_of_getElem? (i := 23) rfl))) (by decide) (t := .double) (t' := (.array .double)) (by decide) (by decide)))
  have F_a_variance := F_a_variance.other W (Or.inr (slot_ne (Or.inr (hw _ (List.mem_of_getElem? (i := 27) rfl))) (Or.inr (hw _ (List.mem_of_getElem? (i := 23) rfl))) (by decide) (t := .double) (t' := (.array .double)) (by decide) (by decide)))
  show Goes _ _ _ _ _ _ _ _ T (mkF m 14 #[.val (.ref a), .val (.double st_), .second, .val (.ref b), .val (.double (0 : UInt64)), .second, .val (.double (0 : UInt64)), .second] [])
  refine Goes.by (g' := (mkF m 15 #[.val (.ref a), .val (.double st_), .second, .val (.ref b), .val (.double (0 : UInt64)), .second, .val (.double (0 : UInt64)), .second] [(.ref a)])) (fun _ q => XS.aloadN X.here X.hx rfl (hb hby d3_14) rfl rfl q) ?_
  refine Goes.by (g' := (mkF m 17 #[.val (.ref a), .val (.double st_), .second, .val (.ref b), .val (.double (0 : UInt64)), .second, .val (.double (0 : UInt64)), .second] [(.double (0 : UInt64)), (.ref a)])) (fun _ q => XS.dload X.here X.hx rfl (hb hby d3_15) rfl q) ?_
  refine X.putF (host := "") (Or.inl (hw _ (List.mem_of_getElem? (i := 24) rfl))) Via.refl F_a_mean E_a (Or.inr ⟨(hw _ (List.mem_of_getElem? (i := 25) rfl)), rfl, hnm⟩) (hw _ (List.mem_of_getElem? (i := 12) rfl)) (ty := .double) (by decide) rfl rfl ga_a (hb hby d3_17) (fun T h5 X W => ?_)
  have K0 := K0.wr W (Or.inl (by simp))
  have E_a := E_a.wr W
  have F_a_step := F_a_step.other W (Or.inr (slot_ne (Or.inr (hw _ (List.mem_of_getElem? (i := 21) rfl))) (Or.inr (hw _ (List.mem_of_getElem? (i := 25) rfl))) (by decide) (t := .double) (t' := .double) (by decide) (by decide)))
  have F_a_atMost := F_a_atMost.other W (Or.inr (slot_ne (Or.inr (hw _ (List.mem_of_getElem? (i := 23) rfl))) (Or.inr (hw _ (List.mem_of_getElem? (i := 25) rfl))) (by decide) (t := (.array .double)) (t' := .double) (by decide) (by decide)))
  have F_a_mean := F_a_mean.same W
  have F_a_variance := F_a_variance.other W (Or.inr (slot_ne (Or.inr (hw _ (List.mem_of_getElem? (i := 27) rfl))) (Or.inr (hw _ (List.mem_of_getElem? (i := 25) rfl))) (by decide) (t := .double) (t' := .double) (by decide) (by decide)))
  show Goes _ _ _ _ _ _ _ _ T (mkF m 20 #[.val (.ref a), .val (.double st_), .second, .val (.ref b), .val (.double (0 : UInt64)), .second, .val (.double (0 : UInt64)), .second] [])
  refine Goes.by (g' := (mkF m 21 #[.val (.ref a), .val (.double st_), .second, .val (.ref b), .val (.double (0 : UInt64)), .second, .val (.double (0 : UInt64)), .second] [(.ref a)])) (fun _ q => XS.aloadN X.here X.hx rfl (hb hby d3_20) rfl rfl q) ?_
  refine Goes.by (g' := (mkF m 23 #[.val (.ref a), .val (.double st_), .second, .val (.ref b), .val (.double (0 : UInt64)), .second, .val (.double (0 : UInt64)), .second] [(.double (0 : UInt64)), (.ref a)])) (fun _ q => XS.dload X.here X.hx rfl (hb hby d3_21) rfl q) ?_
  refine X.putF (host := "") (Or.inl (hw _ (List.mem_of_getElem? (i := 26) rfl))) Via.refl F_a_variance E_a (Or.inr ⟨(hw _ (List.mem_of_getElem? (i := 27) rfl)), rfl, hnm⟩) (hw _ (List.mem_of_getElem? (i := 12) rfl)) (ty := .double) (by decide) rfl rfl ga_a (hb hby d3_23) (fun T h6 X W => ?_)
  have K0 := K0.wr W (Or.inl (by simp))
  have E_a := E_a.wr W
  have F_a_step := F_a_step.other W (Or.inr (slot_ne (Or.inr (hw _ (List.mem_of_getElem? (i := 21) rfl))) (Or.inr (hw _ (List.mem_of_getElem? (i := 27) rfl))) (by decide) (t := .double) (t' := .double) (by decide) (by decide)))
  have F_a_atMost := F_a_atMost.other W (Or.inr (slot_ne (Or.inr (hw _ (List.mem_of_getElem? (i := 23) rfl))) (Or.inr (hw _ (List.mem_of_getElem? (i := 27) rfl))) (by decide) (t := (.array .double)) (t' := .double) (by decide) (by decide)))
  have F_a_mean := F_a_mean.other W (Or.inr (slot_ne (Or.inr (hw _ (List.mem_of_getElem? (i := 25) rfl))) (Or.inr (hw _ (List.mem_of_getElem? (i := 27) rfl))) (by decide) (t := .double) (t' := .double) (by decide) (by decide)))
  have F_a_variance := F_a_variance.same W
  show Goes _ _ _ _ _ _ _ _ T (mkF m 26 #[.val (.ref a), .val (.double st_), .second, .val (.ref b), .val (.double (0 : UInt64)), .second, .val (.double (0 : UInt64)), .second] [])
  exact X.retV hret (hb hby d3_26) (by decide) (by decide) ⟨rfl, K0, F_a_step, F_a_atMost⟩
set_option maxRecDepth 65536 in
set_option maxHeartbeats 40000000 in
theorem rmV (l : Launch) (Z : State) (a0 : Array Value) (hw : ∀ d ∈ tables_1, d.before a0 Z = true) (n0 : Nat) (h0 : Heap) (hn0 : n0 ≤ h0.size) (a b : Addr) (m_ sv : Int32) (r : Nat → Int32) (hm1 : 1 ≤ m_.toInt) (hm2 : m_.toInt ≤ 15) (hm : ∀ j, j < 5 → 0 ≤ (r j).toInt ∧ (r j).toInt ≤ 16) (hmono : ∀ j, j < 4 → (r j).toInt ≤ (r (j + 1)).toInt) (F_step : Fld Z h0 a "com/example/riskweave/riskweave/bound/PenaltyDistribution" "step" "D" (.double (FP.i2d sv))) (F_atMost : Fld Z h0 a "com/example/riskweave/riskweave/bound/PenaltyDistribution" "atMost" "[D" (.ref b)) (A_b : PArr Z h0 b .double 5 (fun j => .double (pqI (r j)))) :
    Met l Z n0 (⟨"com/example/riskweave/riskweave/bound/PenaltyDistribution", "valueAtRisk", "(D)D"⟩ : MethodName) prog_4_method_5_code 6 (Option.some .double) ({ frames := 0, cells := 0, slots := 0, locals := 0 } : Room) #[(.ref a), (.double (pqI m_))] h0 (fun (v : Option Value) (h' : Heap) => ∃ kk : Nat, v = some (.double (FP.dmul (FP.i2d (Int32.ofNat kk)) (FP.i2d sv))) ∧ kk ≤ 4 ∧ (∀ i, i < kk → (r i).toInt < m_.toInt) ∧ (kk = 4 ∨ m_.toInt ≤ (r kk).toInt) ∧ h' = h0) := by
  refine metW (Q := fun (v : Option Value) (h' : Heap) => ∃ kk : Nat, v = some (.double (FP.dmul (FP.i2d (Int32.ofNat kk)) (FP.i2d sv))) ∧ kk ≤ 4 ∧ (∀ i, i < kk → (r i).toInt < m_.toInt) ∧ (kk = 4 ∨ m_.toInt ≤ (r kk).toInt) ∧ h' = h0) pf_5 hn0 ?_
  intro p e s m below meth c T X hby hml hret hnm
  refine Goes.by (g' := (mkF m 0 #[.val (.ref a), .val (.double (pqI m_)), .second, .unset, .unset, .unset] [])) (fun _ q => castTop (by first | rfl | (simp [entryFrame, mkF, argsToLocals, Value.category]; done)) q) ?_
  have m0 := hm 0 (by omega); have m1 := hm 1 (by omega); have m2 := hm 2 (by omega); have m3 := hm 3 (by omega); have m4 := hm 4 (by omega)
  have q0 : (r 0).toInt ≤ (r 1).toInt := hmono 0 (by omega); have q1 : (r 1).toInt ≤ (r 2).toInt := hmono 1 (by omega); have q2 : (r 2).toInt ≤ (r 3).toInt := hmono 2 (by omega); have q3 : (r 3).toInt ≤ (r 4).toInt := hmono 3 (by omega)
  refine Goes.by (g' := (mkF m 1 #[.val (.ref a), .val (.double (pqI m_)), .second, .unset, .unset, .unset] [(.double (pqI m_))])) (fun _ q => XS.dloadN X.here X.hx rfl (hb hby d5_0) rfl q) ?_
  refine Goes.by (g' := (mkF m 2 #[.val (.ref a), .val (.double (pqI m_)), .second, .unset, .unset, .unset] [(.double (0 : UInt64)), (.double (pqI m_))])) (fun _ q => XS.dconst0 X.here X.hx rfl (hb hby d5_1) rfl q) ?_
  refine Goes.by (g' := (mkF m 3 #[.val (.ref a), .val (.double (pqI m_)), .second, .unset, .unset, .unset] [(.int (1 : Int32))])) (fun _ q => XS.dcmpS X.here X.hx rfl (hb hby d5_2) rfl (plow hm1 hm2).1 q) ?_
  refine Goes.by (g' := (mkF m 6 #[.val (.ref a), .val (.double (pqI m_)), .second, .unset, .unset, .unset] [])) (fun _ q => XS.ifNo X.here X.hx rfl (hb hby d5_3) rfl ((if0 _ _).trans (tlt (show (0 : Int32) < (1 : Int32) from (by decide))).2.2.2) q) ?_
  refine Goes.by (g' := (mkF m 7 #[.val (.ref a), .val (.double (pqI m_)), .second, .unset, .unset, .unset] [(.double (pqI m_))])) (fun _ q => XS.dloadN X.here X.hx rfl (hb hby d5_6) rfl q) ?_
  refine Goes.by (g' := (mkF m 8 #[.val (.ref a), .val (.double (pqI m_)), .second, .unset, .unset, .unset] [(.double (4607182418800017408 : UInt64)), (.double (pqI m_))])) (fun _ q => XS.dconst1 X.here X.hx rfl (hb hby d5_7) rfl q) ?_
  refine Goes.by (g' := (mkF m 9 #[.val (.ref a), .val (.double (pqI m_)), .second, .unset, .unset, .unset] [(.int (-1 : Int32))])) (fun _ q => XS.dcmpS X.here X.hx rfl (hb hby d5_8) rfl (plow hm1 hm2).2 q) ?_
  refine Goes.by (g' := (mkF m 26 #[.val (.ref a), .val (.double (pqI m_)), .second, .unset, .unset, .unset] [])) (fun _ q => XS.ifYes X.here X.hx rfl (pc0 := 9) (pc' := 26) rfl (hb hby d5_9) rfl ((if0 _ _).trans (tlt (show (-1 : Int32) < (0 : Int32) from (by decide))).1) (by decide) (by decide) q) ?_
  refine Goes.by (g' := (mkF m 27 #[.val (.ref a), .val (.double (pqI m_)), .second, .unset, .unset, .unset] [(.int (0 : Int32))])) (fun _ q => XS.iconst X.here X.hx rfl (hb hby d5_26) q) ?_
  refine Goes.by (g' := (mkF m 28 #[.val (.ref a), .val (.double (pqI m_)), .second, .val (.int (0 : Int32)), .unset, .unset] [])) (fun _ q => XS.istoreN X.here X.hx rfl (hb hby d5_27) rfl (l' := #[.val (.ref a), .val (.double (pqI m_)), .second, .val (.int (0 : Int32)), .unset, .unset]) rfl q) ?_
  refine Goes.by (g' := (mkF m 29 #[.val (.ref a), .val (.double (pqI m_)), .second, .val (.int (0 : Int32)), .unset, .unset] [(.ref a)])) (fun _ q => XS.aloadN X.here X.hx rfl (hb hby d5_28) rfl rfl q) ?_
  refine X.getF (host := "") (Or.inl (hw _ (List.mem_of_getElem? (i := 22) rfl))) Via.refl F_atMost (hb hby d5_29) (fun T X => ?_)
  show Goes _ _ _ _ _ _ _ _ T (mkF m 32 #[.val (.ref a), .val (.double (pqI m_)), .second, .val (.int (0 : Int32)), .unset, .unset] [(.ref b)])
  refine X.alen A_b (z := (5 : Int32)) (by decide) (hb hby d5_32) ?_
  show Goes _ _ _ _ _ _ _ _ T (mkF m 33 #[.val (.ref a), .val (.double (pqI m_)), .second, .val (.int (0 : Int32)), .unset, .unset] [(.int (5 : Int32))])
  refine Goes.by (g' := (mkF m 34 #[.val (.ref a), .val (.double (pqI m_)), .second, .val (.int (0 : Int32)), .unset, .unset] [(.int (1 : Int32)), (.int (5 : Int32))])) (fun _ q => XS.iconst X.here X.hx rfl (hb hby d5_33) q) ?_
  refine Goes.by (g' := (mkF m 35 #[.val (.ref a), .val (.double (pqI m_)), .second, .val (.int (0 : Int32)), .unset, .unset] [(.int (4 : Int32))])) (fun _ q => XS.isub X.here X.hx rfl (hb hby d5_34) rfl q) ?_
  refine Goes.by (g' := (mkF m 37 #[.val (.ref a), .val (.double (pqI m_)), .second, .val (.int (0 : Int32)), .val (.int (4 : Int32)), .unset] [])) (fun _ q => XS.istore X.here X.hx rfl (hb hby d5_35) rfl (l' := #[.val (.ref a), .val (.double (pqI m_)), .second, .val (.int (0 : Int32)), .val (.int (4 : Int32)), .unset]) rfl q) ?_
  refine Goes.by (g' := (mkF m 38 #[.val (.ref a), .val (.double (pqI m_)), .second, .val (.int (0 : Int32)), .val (.int (4 : Int32)), .unset] [(.int (0 : Int32))])) (fun _ q => XS.iloadN X.here X.hx rfl (hb hby d5_37) rfl q) ?_
  refine Goes.by (g' := (mkF m 40 #[.val (.ref a), .val (.double (pqI m_)), .second, .val (.int (0 : Int32)), .val (.int (4 : Int32)), .unset] [(.int (4 : Int32)), (.int (0 : Int32))])) (fun _ q => XS.iload X.here X.hx rfl (hb hby d5_38) rfl q) ?_
  refine Goes.by (g' := (mkF m 43 #[.val (.ref a), .val (.double (pqI m_)), .second, .val (.int (0 : Int32)), .val (.int (4 : Int32)), .unset] [])) (fun _ q => XS.icmpNo X.here X.hx rfl (hb hby d5_40) rfl (tlt (show (0 : Int32) < (4 : Int32) from (by decide))).2.1 q) ?_
  refine Goes.by (g' := (mkF m 44 #[.val (.ref a), .val (.double (pqI m_)), .second, .val (.int (0 : Int32)), .val (.int (4 : Int32)), .unset] [(.int (0 : Int32))])) (fun _ q => XS.iloadN X.here X.hx rfl (hb hby d5_43) rfl q) ?_
  refine Goes.by (g' := (mkF m 46 #[.val (.ref a), .val (.double (pqI m_)), .second, .val (.int (0 : Int32)), .val (.int (4 : Int32)), .unset] [(.int (4 : Int32)), (.int (0 : Int32))])) (fun _ q => XS.iload X.here X.hx rfl (hb hby d5_44) rfl q) ?_
  refine Goes.by (g' := (mkF m 47 #[.val (.ref a), .val (.double (pqI m_)), .second, .val (.int (0 : Int32)), .val (.int (4 : Int32)), .unset] [(.int (4 : Int32))])) (fun _ q => XS.iadd X.here X.hx rfl (hb hby d5_46) rfl q) ?_
  refine Goes.by (g' := (mkF m 48 #[.val (.ref a), .val (.double (pqI m_)), .second, .val (.int (0 : Int32)), .val (.int (4 : Int32)), .unset] [(.int (1 : Int32)), (.int (4 : Int32))])) (fun _ q => XS.iconst X.here X.hx rfl (hb hby d5_47) q) ?_
  refine Goes.by (g' := (mkF m 49 #[.val (.ref a), .val (.double (pqI m_)), .second, .val (.int (0 : Int32)), .val (.int (4 : Int32)), .unset] [(.int (2 : Int32))])) (fun _ q => XS.iushr X.here X.hx rfl (hb hby d5_48) rfl q) ?_
  refine Goes.by (g' := (mkF m 51 #[.val (.ref a), .val (.double (pqI m_)), .second, .val (.int (0 : Int32)), .val (.int (4 : Int32)), .val (.int (2 : Int32))] [])) (fun _ q => XS.istore X.here X.hx rfl (hb hby d5_49) rfl (l' := #[.val (.ref a), .val (.double (pqI m_)), .second, .val (.int (0 : Int32)), .val (.int (4 : Int32)), .val (.int (2 : Int32))]) rfl q) ?_
  refine Goes.by (g' := (mkF m 52 #[.val (.ref a), .val (.double (pqI m_)), .second, .val (.int (0 : Int32)), .val (.int (4 : Int32)), .val (.int (2 : Int32))] [(.ref a)])) (fun _ q => XS.aloadN X.here X.hx rfl (hb hby d5_51) rfl rfl q) ?_
  refine X.getF (host := "") (Or.inl (hw _ (List.mem_of_getElem? (i := 22) rfl))) Via.refl F_atMost (hb hby d5_52) (fun T X => ?_)
  show Goes _ _ _ _ _ _ _ _ T (mkF m 55 #[.val (.ref a), .val (.double (pqI m_)), .second, .val (.int (0 : Int32)), .val (.int (4 : Int32)), .val (.int (2 : Int32))] [(.ref b)])
  refine Goes.by (g' := (mkF m 57 #[.val (.ref a), .val (.double (pqI m_)), .second, .val (.int (0 : Int32)), .val (.int (4 : Int32)), .val (.int (2 : Int32))] [(.int (2 : Int32)), (.ref b)])) (fun _ q => XS.iload X.here X.hx rfl (hb hby d5_55) rfl q) ?_
  refine X.daload A_b (i := 2) (by decide) (by decide) (hb hby d5_57) ?_
  show Goes _ _ _ _ _ _ _ _ T (mkF m 58 #[.val (.ref a), .val (.double (pqI m_)), .second, .val (.int (0 : Int32)), .val (.int (4 : Int32)), .val (.int (2 : Int32))] [(.double (pqI (r 2)))])
  refine Goes.by (g' := (mkF m 59 #[.val (.ref a), .val (.double (pqI m_)), .second, .val (.int (0 : Int32)), .val (.int (4 : Int32)), .val (.int (2 : Int32))] [(.double (pqI m_)), (.double (pqI (r 2)))])) (fun _ q => XS.dloadN X.here X.hx rfl (hb hby d5_58) rfl q) ?_
  refine Goes.by (g' := (mkF m 60 #[.val (.ref a), .val (.double (pqI m_)), .second, .val (.int (0 : Int32)), .val (.int (4 : Int32)), .val (.int (2 : Int32))] [(.int (cmpI (r 2) m_))])) (fun _ q => XS.dcmpS X.here X.hx rfl (hb hby d5_59) rfl (pcmp m2.1 m2.2 (by omega) (by omega)) q) ?_
  by_cases hB7 : (cmpI (r 2) m_) < (0 : Int32)
  · skip
    refine Goes.by (g' := (mkF m 70 #[.val (.ref a), .val (.double (pqI m_)), .second, .val (.int (0 : Int32)), .val (.int (4 : Int32)), .val (.int (2 : Int32))] [])) (fun _ q => XS.ifYes X.here X.hx rfl (pc0 := 60) (pc' := 70) rfl (hb hby d5_60) rfl ((if0 _ _).trans (tlt hB7).1) (by decide) (by decide) q) ?_
    refine Goes.by (g' := (mkF m 72 #[.val (.ref a), .val (.double (pqI m_)), .second, .val (.int (0 : Int32)), .val (.int (4 : Int32)), .val (.int (2 : Int32))] [(.int (2 : Int32))])) (fun _ q => XS.iload X.here X.hx rfl (hb hby d5_70) rfl q) ?_
    refine Goes.by (g' := (mkF m 73 #[.val (.ref a), .val (.double (pqI m_)), .second, .val (.int (0 : Int32)), .val (.int (4 : Int32)), .val (.int (2 : Int32))] [(.int (1 : Int32)), (.int (2 : Int32))])) (fun _ q => XS.iconst X.here X.hx rfl (hb hby d5_72) q) ?_
    refine Goes.by (g' := (mkF m 74 #[.val (.ref a), .val (.double (pqI m_)), .second, .val (.int (0 : Int32)), .val (.int (4 : Int32)), .val (.int (2 : Int32))] [(.int (3 : Int32))])) (fun _ q => XS.iadd X.here X.hx rfl (hb hby d5_73) rfl q) ?_
    refine Goes.by (g' := (mkF m 75 #[.val (.ref a), .val (.double (pqI m_)), .second, .val (.int (3 : Int32)), .val (.int (4 : Int32)), .val (.int (2 : Int32))] [])) (fun _ q => XS.istoreN X.here X.hx rfl (hb hby d5_74) rfl (l' := #[.val (.ref a), .val (.double (pqI m_)), .second, .val (.int (3 : Int32)), .val (.int (4 : Int32)), .val (.int (2 : Int32))]) rfl q) ?_
    refine Goes.by (g' := (mkF m 37 #[.val (.ref a), .val (.double (pqI m_)), .second, .val (.int (3 : Int32)), .val (.int (4 : Int32)), .val (.int (2 : Int32))] [])) (fun _ q => XS.goto X.here X.hx rfl (pc0 := 75) (pc' := 37) rfl (hb hby d5_75) (by decide) (by decide) q) ?_
    refine Goes.by (g' := (mkF m 38 #[.val (.ref a), .val (.double (pqI m_)), .second, .val (.int (3 : Int32)), .val (.int (4 : Int32)), .val (.int (2 : Int32))] [(.int (3 : Int32))])) (fun _ q => XS.iloadN X.here X.hx rfl (hb hby d5_37) rfl q) ?_
    refine Goes.by (g' := (mkF m 40 #[.val (.ref a), .val (.double (pqI m_)), .second, .val (.int (3 : Int32)), .val (.int (4 : Int32)), .val (.int (2 : Int32))] [(.int (4 : Int32)), (.int (3 : Int32))])) (fun _ q => XS.iload X.here X.hx rfl (hb hby d5_38) rfl q) ?_
    refine Goes.by (g' := (mkF m 43 #[.val (.ref a), .val (.double (pqI m_)), .second, .val (.int (3 : Int32)), .val (.int (4 : Int32)), .val (.int (2 : Int32))] [])) (fun _ q => XS.icmpNo X.here X.hx rfl (hb hby d5_40) rfl (tlt (show (3 : Int32) < (4 : Int32) from (by decide))).2.1 q) ?_
    refine Goes.by (g' := (mkF m 44 #[.val (.ref a), .val (.double (pqI m_)), .second, .val (.int (3 : Int32)), .val (.int (4 : Int32)), .val (.int (2 : Int32))] [(.int (3 : Int32))])) (fun _ q => XS.iloadN X.here X.hx rfl (hb hby d5_43) rfl q) ?_
    refine Goes.by (g' := (mkF m 46 #[.val (.ref a), .val (.double (pqI m_)), .second, .val (.int (3 : Int32)), .val (.int (4 : Int32)), .val (.int (2 : Int32))] [(.int (4 : Int32)), (.int (3 : Int32))])) (fun _ q => XS.iload X.here X.hx rfl (hb hby d5_44) rfl q) ?_
    refine Goes.by (g' := (mkF m 47 #[.val (.ref a), .val (.double (pqI m_)), .second, .val (.int (3 : Int32)), .val (.int (4 : Int32)), .val (.int (2 : Int32))] [(.int (7 : Int32))])) (fun _ q => XS.iadd X.here X.hx rfl (hb hby d5_46) rfl q) ?_
    refine Goes.by (g' := (mkF m 48 #[.val (.ref a), .val (.double (pqI m_)), .second, .val (.int (3 : Int32)), .val (.int (4 : Int32)), .val (.int (2 : Int32))] [(.int (1 : Int32)), (.int (7 : Int32))])) (fun _ q => XS.iconst X.here X.hx rfl (hb hby d5_47) q) ?_
    refine Goes.by (g' := (mkF m 49 #[.val (.ref a), .val (.double (pqI m_)), .second, .val (.int (3 : Int32)), .val (.int (4 : Int32)), .val (.int (2 : Int32))] [(.int (3 : Int32))])) (fun _ q => XS.iushr X.here X.hx rfl (hb hby d5_48) rfl q) ?_
    refine Goes.by (g' := (mkF m 51 #[.val (.ref a), .val (.double (pqI m_)), .second, .val (.int (3 : Int32)), .val (.int (4 : Int32)), .val (.int (3 : Int32))] [])) (fun _ q => XS.istore X.here X.hx rfl (hb hby d5_49) rfl (l' := #[.val (.ref a), .val (.double (pqI m_)), .second, .val (.int (3 : Int32)), .val (.int (4 : Int32)), .val (.int (3 : Int32))]) rfl q) ?_
    refine Goes.by (g' := (mkF m 52 #[.val (.ref a), .val (.double (pqI m_)), .second, .val (.int (3 : Int32)), .val (.int (4 : Int32)), .val (.int (3 : Int32))] [(.ref a)])) (fun _ q => XS.aloadN X.here X.hx rfl (hb hby d5_51) rfl rfl q) ?_
    refine X.getF (host := "") (Or.inl (hw _ (List.mem_of_getElem? (i := 22) rfl))) Via.refl F_atMost (hb hby d5_52) (fun T X => ?_)
    show Goes _ _ _ _ _ _ _ _ T (mkF m 55 #[.val (.ref a), .val (.double (pqI m_)), .second, .val (.int (3 : Int32)), .val (.int (4 : Int32)), .val (.int (3 : Int32))] [(.ref b)])
    refine Goes.by (g' := (mkF m 57 #[.val (.ref a), .val (.double (pqI m_)), .second, .val (.int (3 : Int32)), .val (.int (4 : Int32)), .val (.int (3 : Int32))] [(.int (3 : Int32)), (.ref b)])) (fun _ q => XS.iload X.here X.hx rfl (hb hby d5_55) rfl q) ?_
    refine X.daload A_b (i := 3) (by decide) (by decide) (hb hby d5_57) ?_
    show Goes _ _ _ _ _ _ _ _ T (mkF m 58 #[.val (.ref a), .val (.double (pqI m_)), .second, .val (.int (3 : Int32)), .val (.int (4 : Int32)), .val (.int (3 : Int32))] [(.double (pqI (r 3)))])
    refine Goes.by (g' := (mkF m 59 #[.val (.ref a), .val (.double (pqI m_)), .second, .val (.int (3 : Int32)), .val (.int (4 : Int32)), .val (.int (3 : Int32))] [(.double (pqI m_)), (.double (pqI (r 3)))])) (fun _ q => XS.dloadN X.here X.hx rfl (hb hby d5_58) rfl q) ?_
    refine Goes.by (g' := (mkF m 60 #[.val (.ref a), .val (.double (pqI m_)), .second, .val (.int (3 : Int32)), .val (.int (4 : Int32)), .val (.int (3 : Int32))] [(.int (cmpI (r 3) m_))])) (fun _ q => XS.dcmpS X.here X.hx rfl (hb hby d5_59) rfl (pcmp m3.1 m3.2 (by omega) (by omega)) q) ?_
    by_cases hB8 : (cmpI (r 3) m_) < (0 : Int32)
    · skip
      refine Goes.by (g' := (mkF m 70 #[.val (.ref a), .val (.double (pqI m_)), .second, .val (.int (3 : Int32)), .val (.int (4 : Int32)), .val (.int (3 : Int32))] [])) (fun _ q => XS.ifYes X.here X.hx rfl (pc0 := 60) (pc' := 70) rfl (hb hby d5_60) rfl ((if0 _ _).trans (tlt hB8).1) (by decide) (by decide) q) ?_
      refine Goes.by (g' := (mkF m 72 #[.val (.ref a), .val (.double (pqI m_)), .second, .val (.int (3 : Int32)), .val (.int (4 : Int32)), .val (.int (3 : Int32))] [(.int (3 : Int32))])) (fun _ q => XS.iload X.here X.hx rfl (hb hby d5_70) rfl q) ?_
      refine Goes.by (g' := (mkF m 73 #[.val (.ref a), .val (.double (pqI m_)), .second, .val (.int (3 : Int32)), .val (.int (4 : Int32)), .val (.int (3 : Int32))] [(.int (1 : Int32)), (.int (3 : Int32))])) (fun _ q => XS.iconst X.here X.hx rfl (hb hby d5_72) q) ?_
      refine Goes.by (g' := (mkF m 74 #[.val (.ref a), .val (.double (pqI m_)), .second, .val (.int (3 : Int32)), .val (.int (4 : Int32)), .val (.int (3 : Int32))] [(.int (4 : Int32))])) (fun _ q => XS.iadd X.here X.hx rfl (hb hby d5_73) rfl q) ?_
      refine Goes.by (g' := (mkF m 75 #[.val (.ref a), .val (.double (pqI m_)), .second, .val (.int (4 : Int32)), .val (.int (4 : Int32)), .val (.int (3 : Int32))] [])) (fun _ q => XS.istoreN X.here X.hx rfl (hb hby d5_74) rfl (l' := #[.val (.ref a), .val (.double (pqI m_)), .second, .val (.int (4 : Int32)), .val (.int (4 : Int32)), .val (.int (3 : Int32))]) rfl q) ?_
      refine Goes.by (g' := (mkF m 37 #[.val (.ref a), .val (.double (pqI m_)), .second, .val (.int (4 : Int32)), .val (.int (4 : Int32)), .val (.int (3 : Int32))] [])) (fun _ q => XS.goto X.here X.hx rfl (pc0 := 75) (pc' := 37) rfl (hb hby d5_75) (by decide) (by decide) q) ?_
      refine Goes.by (g' := (mkF m 38 #[.val (.ref a), .val (.double (pqI m_)), .second, .val (.int (4 : Int32)), .val (.int (4 : Int32)), .val (.int (3 : Int32))] [(.int (4 : Int32))])) (fun _ q => XS.iloadN X.here X.hx rfl (hb hby d5_37) rfl q) ?_
      refine Goes.by (g' := (mkF m 40 #[.val (.ref a), .val (.double (pqI m_)), .second, .val (.int (4 : Int32)), .val (.int (4 : Int32)), .val (.int (3 : Int32))] [(.int (4 : Int32)), (.int (4 : Int32))])) (fun _ q => XS.iload X.here X.hx rfl (hb hby d5_38) rfl q) ?_
      refine Goes.by (g' := (mkF m 78 #[.val (.ref a), .val (.double (pqI m_)), .second, .val (.int (4 : Int32)), .val (.int (4 : Int32)), .val (.int (3 : Int32))] [])) (fun _ q => XS.icmpYes X.here X.hx rfl (pc0 := 40) (pc' := 78) rfl (hb hby d5_40) rfl (flt (show ¬ (4 : Int32) < (4 : Int32) from (by decide))).2.1 (by decide) (by decide) q) ?_
      refine Goes.by (g' := (mkF m 79 #[.val (.ref a), .val (.double (pqI m_)), .second, .val (.int (4 : Int32)), .val (.int (4 : Int32)), .val (.int (3 : Int32))] [(.int (4 : Int32))])) (fun _ q => XS.iloadN X.here X.hx rfl (hb hby d5_78) rfl q) ?_
      refine Goes.by (g' := (mkF m 80 #[.val (.ref a), .val (.double (pqI m_)), .second, .val (.int (4 : Int32)), .val (.int (4 : Int32)), .val (.int (3 : Int32))] [(.double (FP.i2d (4 : Int32)))])) (fun _ q => XS.i2dS X.here X.hx rfl (hb hby d5_79) rfl rfl q) ?_
      refine Goes.by (g' := (mkF m 81 #[.val (.ref a), .val (.double (pqI m_)), .second, .val (.int (4 : Int32)), .val (.int (4 : Int32)), .val (.int (3 : Int32))] [(.ref a), (.double (FP.i2d (4 : Int32)))])) (fun _ q => XS.aloadN X.here X.hx rfl (hb hby d5_80) rfl rfl q) ?_
      refine X.getF (host := "") (Or.inl (hw _ (List.mem_of_getElem? (i := 20) rfl))) Via.refl F_step (hb hby d5_81) (fun T X => ?_)
      show Goes _ _ _ _ _ _ _ _ T (mkF m 84 #[.val (.ref a), .val (.double (pqI m_)), .second, .val (.int (4 : Int32)), .val (.int (4 : Int32)), .val (.int (3 : Int32))] [(.double (FP.i2d sv)), (.double (FP.i2d (4 : Int32)))])
      refine Goes.by (g' := (mkF m 85 #[.val (.ref a), .val (.double (pqI m_)), .second, .val (.int (4 : Int32)), .val (.int (4 : Int32)), .val (.int (3 : Int32))] [(.double (FP.dmul (FP.i2d (4 : Int32)) (FP.i2d sv)))])) (fun _ q => XS.dmulS X.here X.hx rfl (hb hby d5_84) rfl (mulNN _ _) rfl q) ?_
      simp only [cmpI_lt] at hB7 hB8
      exact X.retD hret (hb hby d5_85) (by decide) (by decide) ⟨4, rfl, by decide, fun i hi => by
          have q : i = 0 ∨ i = 1 ∨ i = 2 ∨ i = 3 := by omega
          rcases q with rfl | rfl | rfl | rfl <;> omega, Or.inl rfl, rfl⟩
    · skip
      refine Goes.by (g' := (mkF m 63 #[.val (.ref a), .val (.double (pqI m_)), .second, .val (.int (3 : Int32)), .val (.int (4 : Int32)), .val (.int (3 : Int32))] [])) (fun _ q => XS.ifNo X.here X.hx rfl (hb hby d5_60) rfl ((if0 _ _).trans (flt hB8).1) q) ?_
      refine Goes.by (g' := (mkF m 65 #[.val (.ref a), .val (.double (pqI m_)), .second, .val (.int (3 : Int32)), .val (.int (4 : Int32)), .val (.int (3 : Int32))] [(.int (3 : Int32))])) (fun _ q => XS.iload X.here X.hx rfl (hb hby d5_63) rfl q) ?_
      refine Goes.by (g' := (mkF m 67 #[.val (.ref a), .val (.double (pqI m_)), .second, .val (.int (3 : Int32)), .val (.int (3 : Int32)), .val (.int (3 : Int32))] [])) (fun _ q => XS.istore X.here X.hx rfl (hb hby d5_65) rfl (l' := #[.val (.ref a), .val (.double (pqI m_)), .second, .val (.int (3 : Int32)), .val (.int (3 : Int32)), .val (.int (3 : Int32))]) rfl q) ?_
      refine Goes.by (g' := (mkF m 75 #[.val (.ref a), .val (.double (pqI m_)), .second, .val (.int (3 : Int32)), .val (.int (3 : Int32)), .val (.int (3 : Int32))] [])) (fun _ q => XS.goto X.here X.hx rfl (pc0 := 67) (pc' := 75) rfl (hb hby d5_67) (by decide) (by decide) q) ?_
      refine Goes.by (g' := (mkF m 37 #[.val (.ref a), .val (.double (pqI m_)), .second, .val (.int (3 : Int32)), .val (.int (3 : Int32)), .val (.int (3 : Int32))] [])) (fun _ q => XS.goto X.here X.hx rfl (pc0 := 75) (pc' := 37) rfl (hb hby d5_75) (by decide) (by decide) q) ?_
      refine Goes.by (g' := (mkF m 38 #[.val (.ref a), .val (.double (pqI m_)), .second, .val (.int (3 : Int32)), .val (.int (3 : Int32)), .val (.int (3 : Int32))] [(.int (3 : Int32))])) (fun _ q => XS.iloadN X.here X.hx rfl (hb hby d5_37) rfl q) ?_
      refine Goes.by (g' := (mkF m 40 #[.val (.ref a), .val (.double (pqI m_)), .second, .val (.int (3 : Int32)), .val (.int (3 : Int32)), .val (.int (3 : Int32))] [(.int (3 : Int32)), (.int (3 : Int32))])) (fun _ q => XS.iload X.here X.hx rfl (hb hby d5_38) rfl q) ?_
      refine Goes.by (g' := (mkF m 78 #[.val (.ref a), .val (.double (pqI m_)), .second, .val (.int (3 : Int32)), .val (.int (3 : Int32)), .val (.int (3 : Int32))] [])) (fun _ q => XS.icmpYes X.here X.hx rfl (pc0 := 40) (pc' := 78) rfl (hb hby d5_40) rfl (flt (show ¬ (3 : Int32) < (3 : Int32) from (by decide))).2.1 (by decide) (by decide) q) ?_
      refine Goes.by (g' := (mkF m 79 #[.val (.ref a), .val (.double (pqI m_)), .second, .val (.int (3 : Int32)), .val (.int (3 : Int32)), .val (.int (3 : Int32))] [(.int (3 : Int32))])) (fun _ q => XS.iloadN X.here X.hx rfl (hb hby d5_78) rfl q) ?_
      refine Goes.by (g' := (mkF m 80 #[.val (.ref a), .val (.double (pqI m_)), .second, .val (.int (3 : Int32)), .val (.int (3 : Int32)), .val (.int (3 : Int32))] [(.double (FP.i2d (3 : Int32)))])) (fun _ q => XS.i2dS X.here X.hx rfl (hb hby d5_79) rfl rfl q) ?_
      refine Goes.by (g' := (mkF m 81 #[.val (.ref a), .val (.double (pqI m_)), .second, .val (.int (3 : Int32)), .val (.int (3 : Int32)), .val (.int (3 : Int32))] [(.ref a), (.double (FP.i2d (3 : Int32)))])) (fun _ q => XS.aloadN X.here X.hx rfl (hb hby d5_80) rfl rfl q) ?_
      refine X.getF (host := "") (Or.inl (hw _ (List.mem_of_getElem? (i := 20) rfl))) Via.refl F_step (hb hby d5_81) (fun T X => ?_)
      show Goes _ _ _ _ _ _ _ _ T (mkF m 84 #[.val (.ref a), .val (.double (pqI m_)), .second, .val (.int (3 : Int32)), .val (.int (3 : Int32)), .val (.int (3 : Int32))] [(.double (FP.i2d sv)), (.double (FP.i2d (3 : Int32)))])
      refine Goes.by (g' := (mkF m 85 #[.val (.ref a), .val (.double (pqI m_)), .second, .val (.int (3 : Int32)), .val (.int (3 : Int32)), .val (.int (3 : Int32))] [(.double (FP.dmul (FP.i2d (3 : Int32)) (FP.i2d sv)))])) (fun _ q => XS.dmulS X.here X.hx rfl (hb hby d5_84) rfl (mulNN _ _) rfl q) ?_
      simp only [cmpI_lt] at hB7 hB8
      exact X.retD hret (hb hby d5_85) (by decide) (by decide) ⟨3, rfl, by decide, fun i hi => by
          have q : i = 0 ∨ i = 1 ∨ i = 2 := by omega
          rcases q with rfl | rfl | rfl <;> omega, Or.inr (by omega), rfl⟩
  · skip
    refine Goes.by (g' := (mkF m 63 #[.val (.ref a), .val (.double (pqI m_)), .second, .val (.int (0 : Int32)), .val (.int (4 : Int32)), .val (.int (2 : Int32))] [])) (fun _ q => XS.ifNo X.here X.hx rfl (hb hby d5_60) rfl ((if0 _ _).trans (flt hB7).1) q) ?_
    refine Goes.by (g' := (mkF m 65 #[.val (.ref a), .val (.double (pqI m_)), .second, .val (.int (0 : Int32)), .val (.int (4 : Int32)), .val (.int (2 : Int32))] [(.int (2 : Int32))])) (fun _ q => XS.iload X.here X.hx rfl (hb hby d5_63) rfl q) ?_
    refine Goes.by (g' := (mkF m 67 #[.val (.ref a), .val (.double (pqI m_)), .second, .val (.int (0 : Int32)), .val (.int (2 : Int32)), .val (.int (2 : Int32))] [])) (fun _ q => XS.istore X.here X.hx rfl (hb hby d5_65) rfl (l' := #[.val (.ref a), .val (.double (pqI m_)), .second, .val (.int (0 : Int32)), .val (.int (2 : Int32)), .val (.int (2 : Int32))]) rfl q) ?_
    refine Goes.by (g' := (mkF m 75 #[.val (.ref a), .val (.double (pqI m_)), .second, .val (.int (0 : Int32)), .val (.int (2 : Int32)), .val (.int (2 : Int32))] [])) (fun _ q => XS.goto X.here X.hx rfl (pc0 := 67) (pc' := 75) rfl (hb hby d5_67) (by decide) (by decide) q) ?_
    refine Goes.by (g' := (mkF m 37 #[.val (.ref a), .val (.double (pqI m_)), .second, .val (.int (0 : Int32)), .val (.int (2 : Int32)), .val (.int (2 : Int32))] [])) (fun _ q => XS.goto X.here X.hx rfl (pc0 := 75) (pc' := 37) rfl (hb hby d5_75) (by decide) (by decide) q) ?_
    refine Goes.by (g' := (mkF m 38 #[.val (.ref a), .val (.double (pqI m_)), .second, .val (.int (0 : Int32)), .val (.int (2 : Int32)), .val (.int (2 : Int32))] [(.int (0 : Int32))])) (fun _ q => XS.iloadN X.here X.hx rfl (hb hby d5_37) rfl q) ?_
    refine Goes.by (g' := (mkF m 40 #[.val (.ref a), .val (.double (pqI m_)), .second, .val (.int (0 : Int32)), .val (.int (2 : Int32)), .val (.int (2 : Int32))] [(.int (2 : Int32)), (.int (0 : Int32))])) (fun _ q => XS.iload X.here X.hx rfl (hb hby d5_38) rfl q) ?_
    refine Goes.by (g' := (mkF m 43 #[.val (.ref a), .val (.double (pqI m_)), .second, .val (.int (0 : Int32)), .val (.int (2 : Int32)), .val (.int (2 : Int32))] [])) (fun _ q => XS.icmpNo X.here X.hx rfl (hb hby d5_40) rfl (tlt (show (0 : Int32) < (2 : Int32) from (by decide))).2.1 q) ?_
    refine Goes.by (g' := (mkF m 44 #[.val (.ref a), .val (.double (pqI m_)), .second, .val (.int (0 : Int32)), .val (.int (2 : Int32)), .val (.int (2 : Int32))] [(.int (0 : Int32))])) (fun _ q => XS.iloadN X.here X.hx rfl (hb hby d5_43) rfl q) ?_
    refine Goes.by (g' := (mkF m 46 #[.val (.ref a), .val (.double (pqI m_)), .second, .val (.int (0 : Int32)), .val (.int (2 : Int32)), .val (.int (2 : Int32))] [(.int (2 : Int32)), (.int (0 : Int32))])) (fun _ q => XS.iload X.here X.hx rfl (hb hby d5_44) rfl q) ?_
    refine Goes.by (g' := (mkF m 47 #[.val (.ref a), .val (.double (pqI m_)), .second, .val (.int (0 : Int32)), .val (.int (2 : Int32)), .val (.int (2 : Int32))] [(.int (2 : Int32))])) (fun _ q => XS.iadd X.here X.hx rfl (hb hby d5_46) rfl q) ?_
    refine Goes.by (g' := (mkF m 48 #[.val (.ref a), .val (.double (pqI m_)), .second, .val (.int (0 : Int32)), .val (.int (2 : Int32)), .val (.int (2 : Int32))] [(.int (1 : Int32)), (.int (2 : Int32))])) (fun _ q => XS.iconst X.here X.hx rfl (hb hby d5_47) q) ?_
    refine Goes.by (g' := (mkF m 49 #[.val (.ref a), .val (.double (pqI m_)), .second, .val (.int (0 : Int32)), .val (.int (2 : Int32)), .val (.int (2 : Int32))] [(.int (1 : Int32))])) (fun _ q => XS.iushr X.here X.hx rfl (hb hby d5_48) rfl q) ?_
    refine Goes.by (g' := (mkF m 51 #[.val (.ref a), .val (.double (pqI m_)), .second, .val (.int (0 : Int32)), .val (.int (2 : Int32)), .val (.int (1 : Int32))] [])) (fun _ q => XS.istore X.here X.hx rfl (hb hby d5_49) rfl (l' := #[.val (.ref a), .val (.double (pqI m_)), .second, .val (.int (0 : Int32)), .val (.int (2 : Int32)), .val (.int (1 : Int32))]) rfl q) ?_
    refine Goes.by (g' := (mkF m 52 #[.val (.ref a), .val (.double (pqI m_)), .second, .val (.int (0 : Int32)), .val (.int (2 : Int32)), .val (.int (1 : Int32))] [(.ref a)])) (fun _ q => XS.aloadN X.here X.hx rfl (hb hby d5_51) rfl rfl q) ?_
    refine X.getF (host := "") (Or.inl (hw _ (List.mem_of_getElem? (i := 22) rfl))) Via.refl F_atMost (hb hby d5_52) (fun T X => ?_)
    show Goes _ _ _ _ _ _ _ _ T (mkF m 55 #[.val (.ref a), .val (.double (pqI m_)), .second, .val (.int (0 : Int32)), .val (.int (2 : Int32)), .val (.int (1 : Int32))] [(.ref b)])
    refine Goes.by (g' := (mkF m 57 #[.val (.ref a), .val (.double (pqI m_)), .second, .val (.int (0 : Int32)), .val (.int (2 : Int32)), .val (.int (1 : Int32))] [(.int (1 : Int32)), (.ref b)])) (fun _ q => XS.iload X.here X.hx rfl (hb hby d5_55) rfl q) ?_
    refine X.daload A_b (i := 1) (by decide) (by decide) (hb hby d5_57) ?_
    show Goes _ _ _ _ _ _ _ _ T (mkF m 58 #[.val (.ref a), .val (.double (pqI m_)), .second, .val (.int (0 : Int32)), .val (.int (2 : Int32)), .val (.int (1 : Int32))] [(.double (pqI (r 1)))])
    refine Goes.by (g' := (mkF m 59 #[.val (.ref a), .val (.double (pqI m_)), .second, .val (.int (0 : Int32)), .val (.int (2 : Int32)), .val (.int (1 : Int32))] [(.double (pqI m_)), (.double (pqI (r 1)))])) (fun _ q => XS.dloadN X.here X.hx rfl (hb hby d5_58) rfl q) ?_
    refine Goes.by (g' := (mkF m 60 #[.val (.ref a), .val (.double (pqI m_)), .second, .val (.int (0 : Int32)), .val (.int (2 : Int32)), .val (.int (1 : Int32))] [(.int (cmpI (r 1) m_))])) (fun _ q => XS.dcmpS X.here X.hx rfl (hb hby d5_59) rfl (pcmp m1.1 m1.2 (by omega) (by omega)) q) ?_
    by_cases hB9 : (cmpI (r 1) m_) < (0 : Int32)
    · skip
      refine Goes.by (g' := (mkF m 70 #[.val (.ref a), .val (.double (pqI m_)), .second, .val (.int (0 : Int32)), .val (.int (2 : Int32)), .val (.int (1 : Int32))] [])) (fun _ q => XS.ifYes X.here X.hx rfl (pc0 := 60) (pc' := 70) rfl (hb hby d5_60) rfl ((if0 _ _).trans (tlt hB9).1) (by decide) (by decide) q) ?_
      refine Goes.by (g' := (mkF m 72 #[.val (.ref a), .val (.double (pqI m_)), .second, .val (.int (0 : Int32)), .val (.int (2 : Int32)), .val (.int (1 : Int32))] [(.int (1 : Int32))])) (fun _ q => XS.iload X.here X.hx rfl (hb hby d5_70) rfl q) ?_
      refine Goes.by (g' := (mkF m 73 #[.val (.ref a), .val (.double (pqI m_)), .second, .val (.int (0 : Int32)), .val (.int (2 : Int32)), .val (.int (1 : Int32))] [(.int (1 : Int32)), (.int (1 : Int32))])) (fun _ q => XS.iconst X.here X.hx rfl (hb hby d5_72) q) ?_
      refine Goes.by (g' := (mkF m 74 #[.val (.ref a), .val (.double (pqI m_)), .second, .val (.int (0 : Int32)), .val (.int (2 : Int32)), .val (.int (1 : Int32))] [(.int (2 : Int32))])) (fun _ q => XS.iadd X.here X.hx rfl (hb hby d5_73) rfl q) ?_
      refine Goes.by (g' := (mkF m 75 #[.val (.ref a), .val (.double (pqI m_)), .second, .val (.int (2 : Int32)), .val (.int (2 : Int32)), .val (.int (1 : Int32))] [])) (fun _ q => XS.istoreN X.here X.hx rfl (hb hby d5_74) rfl (l' := #[.val (.ref a), .val (.double (pqI m_)), .second, .val (.int (2 : Int32)), .val (.int (2 : Int32)), .val (.int (1 : Int32))]) rfl q) ?_
      refine Goes.by (g' := (mkF m 37 #[.val (.ref a), .val (.double (pqI m_)), .second, .val (.int (2 : Int32)), .val (.int (2 : Int32)), .val (.int (1 : Int32))] [])) (fun _ q => XS.goto X.here X.hx rfl (pc0 := 75) (pc' := 37) rfl (hb hby d5_75) (by decide) (by decide) q) ?_
      refine Goes.by (g' := (mkF m 38 #[.val (.ref a), .val (.double (pqI m_)), .second, .val (.int (2 : Int32)), .val (.int (2 : Int32)), .val (.int (1 : Int32))] [(.int (2 : Int32))])) (fun _ q => XS.iloadN X.here X.hx rfl (hb hby d5_37) rfl q) ?_
      refine Goes.by (g' := (mkF m 40 #[.val (.ref a), .val (.double (pqI m_)), .second, .val (.int (2 : Int32)), .val (.int (2 : Int32)), .val (.int (1 : Int32))] [(.int (2 : Int32)), (.int (2 : Int32))])) (fun _ q => XS.iload X.here X.hx rfl (hb hby d5_38) rfl q) ?_
      refine Goes.by (g' := (mkF m 78 #[.val (.ref a), .val (.double (pqI m_)), .second, .val (.int (2 : Int32)), .val (.int (2 : Int32)), .val (.int (1 : Int32))] [])) (fun _ q => XS.icmpYes X.here X.hx rfl (pc0 := 40) (pc' := 78) rfl (hb hby d5_40) rfl (flt (show ¬ (2 : Int32) < (2 : Int32) from (by decide))).2.1 (by decide) (by decide) q) ?_
      refine Goes.by (g' := (mkF m 79 #[.val (.ref a), .val (.double (pqI m_)), .second, .val (.int (2 : Int32)), .val (.int (2 : Int32)), .val (.int (1 : Int32))] [(.int (2 : Int32))])) (fun _ q => XS.iloadN X.here X.hx rfl (hb hby d5_78) rfl q) ?_
      refine Goes.by (g' := (mkF m 80 #[.val (.ref a), .val (.double (pqI m_)), .second, .val (.int (2 : Int32)), .val (.int (2 : Int32)), .val (.int (1 : Int32))] [(.double (FP.i2d (2 : Int32)))])) (fun _ q => XS.i2dS X.here X.hx rfl (hb hby d5_79) rfl rfl q) ?_
      refine Goes.by (g' := (mkF m 81 #[.val (.ref a), .val (.double (pqI m_)), .second, .val (.int (2 : Int32)), .val (.int (2 : Int32)), .val (.int (1 : Int32))] [(.ref a), (.double (FP.i2d (2 : Int32)))])) (fun _ q => XS.aloadN X.here X.hx rfl (hb hby d5_80) rfl rfl q) ?_
      refine X.getF (host := "") (Or.inl (hw _ (List.mem_of_getElem? (i := 20) rfl))) Via.refl F_step (hb hby d5_81) (fun T X => ?_)
      show Goes _ _ _ _ _ _ _ _ T (mkF m 84 #[.val (.ref a), .val (.double (pqI m_)), .second, .val (.int (2 : Int32)), .val (.int (2 : Int32)), .val (.int (1 : Int32))] [(.double (FP.i2d sv)), (.double (FP.i2d (2 : Int32)))])
      refine Goes.by (g' := (mkF m 85 #[.val (.ref a), .val (.double (pqI m_)), .second, .val (.int (2 : Int32)), .val (.int (2 : Int32)), .val (.int (1 : Int32))] [(.double (FP.dmul (FP.i2d (2 : Int32)) (FP.i2d sv)))])) (fun _ q => XS.dmulS X.here X.hx rfl (hb hby d5_84) rfl (mulNN _ _) rfl q) ?_
      simp only [cmpI_lt] at hB7 hB9
      exact X.retD hret (hb hby d5_85) (by decide) (by decide) ⟨2, rfl, by decide, fun i hi => by
          have q : i = 0 ∨ i = 1 := by omega
          rcases q with rfl | rfl <;> omega, Or.inr (by omega), rfl⟩
    · skip
      refine Goes.by (g' := (mkF m 63 #[.val (.ref a), .val (.double (pqI m_)), .second, .val (.int (0 : Int32)), .val (.int (2 : Int32)), .val (.int (1 : Int32))] [])) (fun _ q => XS.ifNo X.here X.hx rfl (hb hby d5_60) rfl ((if0 _ _).trans (flt hB9).1) q) ?_
      refine Goes.by (g' := (mkF m 65 #[.val (.ref a), .val (.double (pqI m_)), .second, .val (.int (0 : Int32)), .val (.int (2 : Int32)), .val (.int (1 : Int32))] [(.int (1 : Int32))])) (fun _ q => XS.iload X.here X.hx rfl (hb hby d5_63) rfl q) ?_
      refine Goes.by (g' := (mkF m 67 #[.val (.ref a), .val (.double (pqI m_)), .second, .val (.int (0 : Int32)), .val (.int (1 : Int32)), .val (.int (1 : Int32))] [])) (fun _ q => XS.istore X.here X.hx rfl (hb hby d5_65) rfl (l' := #[.val (.ref a), .val (.double (pqI m_)), .second, .val (.int (0 : Int32)), .val (.int (1 : Int32)), .val (.int (1 : Int32))]) rfl q) ?_
      refine Goes.by (g' := (mkF m 75 #[.val (.ref a), .val (.double (pqI m_)), .second, .val (.int (0 : Int32)), .val (.int (1 : Int32)), .val (.int (1 : Int32))] [])) (fun _ q => XS.goto X.here X.hx rfl (pc0 := 67) (pc' := 75) rfl (hb hby d5_67) (by decide) (by decide) q) ?_
      refine Goes.by (g' := (mkF m 37 #[.val (.ref a), .val (.double (pqI m_)), .second, .val (.int (0 : Int32)), .val (.int (1 : Int32)), .val (.int (1 : Int32))] [])) (fun _ q => XS.goto X.here X.hx rfl (pc0 := 75) (pc' := 37) rfl (hb hby d5_75) (by decide) (by decide) q) ?_
      refine Goes.by (g' := (mkF m 38 #[.val (.ref a), .val (.double (pqI m_)), .second, .val (.int (0 : Int32)), .val (.int (1 : Int32)), .val (.int (1 : Int32))] [(.int (0 : Int32))])) (fun _ q => XS.iloadN X.here X.hx rfl (hb hby d5_37) rfl q) ?_
      refine Goes.by (g' := (mkF m 40 #[.val (.ref a), .val (.double (pqI m_)), .second, .val (.int (0 : Int32)), .val (.int (1 : Int32)), .val (.int (1 : Int32))] [(.int (1 : Int32)), (.int (0 : Int32))])) (fun _ q => XS.iload X.here X.hx rfl (hb hby d5_38) rfl q) ?_
      refine Goes.by (g' := (mkF m 43 #[.val (.ref a), .val (.double (pqI m_)), .second, .val (.int (0 : Int32)), .val (.int (1 : Int32)), .val (.int (1 : Int32))] [])) (fun _ q => XS.icmpNo X.here X.hx rfl (hb hby d5_40) rfl (tlt (show (0 : Int32) < (1 : Int32) from (by decide))).2.1 q) ?_
      refine Goes.by (g' := (mkF m 44 #[.val (.ref a), .val (.double (pqI m_)), .second, .val (.int (0 : Int32)), .val (.int (1 : Int32)), .val (.int (1 : Int32))] [(.int (0 : Int32))])) (fun _ q => XS.iloadN X.here X.hx rfl (hb hby d5_43) rfl q) ?_
      refine Goes.by (g' := (mkF m 46 #[.val (.ref a), .val (.double (pqI m_)), .second, .val (.int (0 : Int32)), .val (.int (1 : Int32)), .val (.int (1 : Int32))] [(.int (1 : Int32)), (.int (0 : Int32))])) (fun _ q => XS.iload X.here X.hx rfl (hb hby d5_44) rfl q) ?_
      refine Goes.by (g' := (mkF m 47 #[.val (.ref a), .val (.double (pqI m_)), .second, .val (.int (0 : Int32)), .val (.int (1 : Int32)), .val (.int (1 : Int32))] [(.int (1 : Int32))])) (fun _ q => XS.iadd X.here X.hx rfl (hb hby d5_46) rfl q) ?_
      refine Goes.by (g' := (mkF m 48 #[.val (.ref a), .val (.double (pqI m_)), .second, .val (.int (0 : Int32)), .val (.int (1 : Int32)), .val (.int (1 : Int32))] [(.int (1 : Int32)), (.int (1 : Int32))])) (fun _ q => XS.iconst X.here X.hx rfl (hb hby d5_47) q) ?_
      refine Goes.by (g' := (mkF m 49 #[.val (.ref a), .val (.double (pqI m_)), .second, .val (.int (0 : Int32)), .val (.int (1 : Int32)), .val (.int (1 : Int32))] [(.int (0 : Int32))])) (fun _ q => XS.iushr X.here X.hx rfl (hb hby d5_48) rfl q) ?_
      refine Goes.by (g' := (mkF m 51 #[.val (.ref a), .val (.double (pqI m_)), .second, .val (.int (0 : Int32)), .val (.int (1 : Int32)), .val (.int (0 : Int32))] [])) (fun _ q => XS.istore X.here X.hx rfl (hb hby d5_49) rfl (l' := #[.val (.ref a), .val (.double (pqI m_)), .second, .val (.int (0 : Int32)), .val (.int (1 : Int32)), .val (.int (0 : Int32))]) rfl q) ?_
      refine Goes.by (g' := (mkF m 52 #[.val (.ref a), .val (.double (pqI m_)), .second, .val (.int (0 : Int32)), .val (.int (1 : Int32)), .val (.int (0 : Int32))] [(.ref a)])) (fun _ q => XS.aloadN X.here X.hx rfl (hb hby d5_51) rfl rfl q) ?_
      refine X.getF (host := "") (Or.inl (hw _ (List.mem_of_getElem? (i := 22) rfl))) Via.refl F_atMost (hb hby d5_52) (fun T X => ?_)
      show Goes _ _ _ _ _ _ _ _ T (mkF m 55 #[.val (.ref a), .val (.double (pqI m_)), .second, .val (.int (0 : Int32)), .val (.int (1 : Int32)), .val (.int (0 : Int32))] [(.ref b)])
      refine Goes.by (g' := (mkF m 57 #[.val (.ref a), .val (.double (pqI m_)), .second, .val (.int (0 : Int32)), .val (.int (1 : Int32)), .val (.int (0 : Int32))] [(.int (0 : Int32)), (.ref b)])) (fun _ q => XS.iload X.here X.hx rfl (hb hby d5_55) rfl q) ?_
      refine X.daload A_b (i := 0) (by decide) (by decide) (hb hby d5_57) ?_
      show Goes _ _ _ _ _ _ _ _ T (mkF m 58 #[.val (.ref a), .val (.double (pqI m_)), .second, .val (.int (0 : Int32)), .val (.int (1 : Int32)), .val (.int (0 : Int32))] [(.double (pqI (r 0)))])
      refine Goes.by (g' := (mkF m 59 #[.val (.ref a), .val (.double (pqI m_)), .second, .val (.int (0 : Int32)), .val (.int (1 : Int32)), .val (.int (0 : Int32))] [(.double (pqI m_)), (.double (pqI (r 0)))])) (fun _ q => XS.dloadN X.here X.hx rfl (hb hby d5_58) rfl q) ?_
      refine Goes.by (g' := (mkF m 60 #[.val (.ref a), .val (.double (pqI m_)), .second, .val (.int (0 : Int32)), .val (.int (1 : Int32)), .val (.int (0 : Int32))] [(.int (cmpI (r 0) m_))])) (fun _ q => XS.dcmpS X.here X.hx rfl (hb hby d5_59) rfl (pcmp m0.1 m0.2 (by omega) (by omega)) q) ?_
      by_cases hB10 : (cmpI (r 0) m_) < (0 : Int32)
      · skip
        refine Goes.by (g' := (mkF m 70 #[.val (.ref a), .val (.double (pqI m_)), .second, .val (.int (0 : Int32)), .val (.int (1 : Int32)), .val (.int (0 : Int32))] [])) (fun _ q => XS.ifYes X.here X.hx rfl (pc0 := 60) (pc' := 70) rfl (hb hby d5_60) rfl ((if0 _ _).trans (tlt hB10).1) (by decide) (by decide) q) ?_
        refine Goes.by (g' := (mkF m 72 #[.val (.ref a), .val (.double (pqI m_)), .second, .val (.int (0 : Int32)), .val (.int (1 : Int32)), .val (.int (0 : Int32))] [(.int (0 : Int32))])) (fun _ q => XS.iload X.here X.hx rfl (hb hby d5_70) rfl q) ?_
        refine Goes.by (g' := (mkF m 73 #[.val (.ref a), .val (.double (pqI m_)), .second, .val (.int (0 : Int32)), .val (.int (1 : Int32)), .val (.int (0 : Int32))] [(.int (1 : Int32)), (.int (0 : Int32))])) (fun _ q => XS.iconst X.here X.hx rfl (hb hby d5_72) q) ?_
        refine Goes.by (g' := (mkF m 74 #[.val (.ref a), .val (.double (pqI m_)), .second, .val (.int (0 : Int32)), .val (.int (1 : Int32)), .val (.int (0 : Int32))] [(.int (1 : Int32))])) (fun _ q => XS.iadd X.here X.hx rfl (hb hby d5_73) rfl q) ?_
        refine Goes.by (g' := (mkF m 75 #[.val (.ref a), .val (.double (pqI m_)), .second, .val (.int (1 : Int32)), .val (.int (1 : Int32)), .val (.int (0 : Int32))] [])) (fun _ q => XS.istoreN X.here X.hx rfl (hb hby d5_74) rfl (l' := #[.val (.ref a), .val (.double (pqI m_)), .second, .val (.int (1 : Int32)), .val (.int (1 : Int32)), .val (.int (0 : Int32))]) rfl q) ?_
        refine Goes.by (g' := (mkF m 37 #[.val (.ref a), .val (.double (pqI m_)), .second, .val (.int (1 : Int32)), .val (.int (1 : Int32)), .val (.int (0 : Int32))] [])) (fun _ q => XS.goto X.here X.hx rfl (pc0 := 75) (pc' := 37) rfl (hb hby d5_75) (by decide) (by decide) q) ?_
        refine Goes.by (g' := (mkF m 38 #[.val (.ref a), .val (.double (pqI m_)), .second, .val (.int (1 : Int32)), .val (.int (1 : Int32)), .val (.int (0 : Int32))] [(.int (1 : Int32))])) (fun _ q => XS.iloadN X.here X.hx rfl (hb hby d5_37) rfl q) ?_
        refine Goes.by (g' := (mkF m 40 #[.val (.ref a), .val (.double (pqI m_)), .second, .val (.int (1 : Int32)), .val (.int (1 : Int32)), .val (.int (0 : Int32))] [(.int (1 : Int32)), (.int (1 : Int32))])) (fun _ q => XS.iload X.here X.hx rfl (hb hby d5_38) rfl q) ?_
        refine Goes.by (g' := (mkF m 78 #[.val (.ref a), .val (.double (pqI m_)), .second, .val (.int (1 : Int32)), .val (.int (1 : Int32)), .val (.int (0 : Int32))] [])) (fun _ q => XS.icmpYes X.here X.hx rfl (pc0 := 40) (pc' := 78) rfl (hb hby d5_40) rfl (flt (show ¬ (1 : Int32) < (1 : Int32) from (by decide))).2.1 (by decide) (by decide) q) ?_
        refine Goes.by (g' := (mkF m 79 #[.val (.ref a), .val (.double (pqI m_)), .second, .val (.int (1 : Int32)), .val (.int (1 : Int32)), .val (.int (0 : Int32))] [(.int (1 : Int32))])) (fun _ q => XS.iloadN X.here X.hx rfl (hb hby d5_78) rfl q) ?_
        refine Goes.by (g' := (mkF m 80 #[.val (.ref a), .val (.double (pqI m_)), .second, .val (.int (1 : Int32)), .val (.int (1 : Int32)), .val (.int (0 : Int32))] [(.double (FP.i2d (1 : Int32)))])) (fun _ q => XS.i2dS X.here X.hx rfl (hb hby d5_79) rfl rfl q) ?_
        refine Goes.by (g' := (mkF m 81 #[.val (.ref a), .val (.double (pqI m_)), .second, .val (.int (1 : Int32)), .val (.int (1 : Int32)), .val (.int (0 : Int32))] [(.ref a), (.double (FP.i2d (1 : Int32)))])) (fun _ q => XS.aloadN X.here X.hx rfl (hb hby d5_80) rfl rfl q) ?_
        refine X.getF (host := "") (Or.inl (hw _ (List.mem_of_getElem? (i := 20) rfl))) Via.refl F_step (hb hby d5_81) (fun T X => ?_)
        show Goes _ _ _ _ _ _ _ _ T (mkF m 84 #[.val (.ref a), .val (.double (pqI m_)), .second, .val (.int (1 : Int32)), .val (.int (1 : Int32)), .val (.int (0 : Int32))] [(.double (FP.i2d sv)), (.double (FP.i2d (1 : Int32)))])
        refine Goes.by (g' := (mkF m 85 #[.val (.ref a), .val (.double (pqI m_)), .second, .val (.int (1 : Int32)), .val (.int (1 : Int32)), .val (.int (0 : Int32))] [(.double (FP.dmul (FP.i2d (1 : Int32)) (FP.i2d sv)))])) (fun _ q => XS.dmulS X.here X.hx rfl (hb hby d5_84) rfl (mulNN _ _) rfl q) ?_
        simp only [cmpI_lt] at hB7 hB9 hB10
        exact X.retD hret (hb hby d5_85) (by decide) (by decide) ⟨1, rfl, by decide, fun i hi => by
            have q : i = 0 := by omega
            rcases q with rfl <;> omega, Or.inr (by omega), rfl⟩
      · skip
        refine Goes.by (g' := (mkF m 63 #[.val (.ref a), .val (.double (pqI m_)), .second, .val (.int (0 : Int32)), .val (.int (1 : Int32)), .val (.int (0 : Int32))] [])) (fun _ q => XS.ifNo X.here X.hx rfl (hb hby d5_60) rfl ((if0 _ _).trans (flt hB10).1) q) ?_
        refine Goes.by (g' := (mkF m 65 #[.val (.ref a), .val (.double (pqI m_)), .second, .val (.int (0 : Int32)), .val (.int (1 : Int32)), .val (.int (0 : Int32))] [(.int (0 : Int32))])) (fun _ q => XS.iload X.here X.hx rfl (hb hby d5_63) rfl q) ?_
        refine Goes.by (g' := (mkF m 67 #[.val (.ref a), .val (.double (pqI m_)), .second, .val (.int (0 : Int32)), .val (.int (0 : Int32)), .val (.int (0 : Int32))] [])) (fun _ q => XS.istore X.here X.hx rfl (hb hby d5_65) rfl (l' := #[.val (.ref a), .val (.double (pqI m_)), .second, .val (.int (0 : Int32)), .val (.int (0 : Int32)), .val (.int (0 : Int32))]) rfl q) ?_
        refine Goes.by (g' := (mkF m 75 #[.val (.ref a), .val (.double (pqI m_)), .second, .val (.int (0 : Int32)), .val (.int (0 : Int32)), .val (.int (0 : Int32))] [])) (fun _ q => XS.goto X.here X.hx rfl (pc0 := 67) (pc' := 75) rfl (hb hby d5_67) (by decide) (by decide) q) ?_
        refine Goes.by (g' := (mkF m 37 #[.val (.ref a), .val (.double (pqI m_)), .second, .val (.int (0 : Int32)), .val (.int (0 : Int32)), .val (.int (0 : Int32))] [])) (fun _ q => XS.goto X.here X.hx rfl (pc0 := 75) (pc' := 37) rfl (hb hby d5_75) (by decide) (by decide) q) ?_
        refine Goes.by (g' := (mkF m 38 #[.val (.ref a), .val (.double (pqI m_)), .second, .val (.int (0 : Int32)), .val (.int (0 : Int32)), .val (.int (0 : Int32))] [(.int (0 : Int32))])) (fun _ q => XS.iloadN X.here X.hx rfl (hb hby d5_37) rfl q) ?_
        refine Goes.by (g' := (mkF m 40 #[.val (.ref a), .val (.double (pqI m_)), .second, .val (.int (0 : Int32)), .val (.int (0 : Int32)), .val (.int (0 : Int32))] [(.int (0 : Int32)), (.int (0 : Int32))])) (fun _ q => XS.iload X.here X.hx rfl (hb hby d5_38) rfl q) ?_
        refine Goes.by (g' := (mkF m 78 #[.val (.ref a), .val (.double (pqI m_)), .second, .val (.int (0 : Int32)), .val (.int (0 : Int32)), .val (.int (0 : Int32))] [])) (fun _ q => XS.icmpYes X.here X.hx rfl (pc0 := 40) (pc' := 78) rfl (hb hby d5_40) rfl (flt (show ¬ (0 : Int32) < (0 : Int32) from (by decide))).2.1 (by decide) (by decide) q) ?_
        refine Goes.by (g' := (mkF m 79 #[.val (.ref a), .val (.double (pqI m_)), .second, .val (.int (0 : Int32)), .val (.int (0 : Int32)), .val (.int (0 : Int32))] [(.int (0 : Int32))])) (fun _ q => XS.iloadN X.here X.hx rfl (hb hby d5_78) rfl q) ?_
        refine Goes.by (g' := (mkF m 80 #[.val (.ref a), .val (.double (pqI m_)), .second, .val (.int (0 : Int32)), .val (.int (0 : Int32)), .val (.int (0 : Int32))] [(.double (FP.i2d (0 : Int32)))])) (fun _ q => XS.i2dS X.here X.hx rfl (hb hby d5_79) rfl rfl q) ?_
        refine Goes.by (g' := (mkF m 81 #[.val (.ref a), .val (.double (pqI m_)), .second, .val (.int (0 : Int32)), .val (.int (0 : Int32)), .val (.int (0 : Int32))] [(.ref a), (.double (FP.i2d (0 : Int32)))])) (fun _ q => XS.aloadN X.here X.hx rfl (hb hby d5_80) rfl rfl q) ?_
        refine X.getF (host := "") (Or.inl (hw _ (List.mem_of_getElem? (i := 20) rfl))) Via.refl F_step (hb hby d5_81) (fun T X => ?_)
        show Goes _ _ _ _ _ _ _ _ T (mkF m 84 #[.val (.ref a), .val (.double (pqI m_)), .second, .val (.int (0 : Int32)), .val (.int (0 : Int32)), .val (.int (0 : Int32))] [(.double (FP.i2d sv)), (.double (FP.i2d (0 : Int32)))])
        refine Goes.by (g' := (mkF m 85 #[.val (.ref a), .val (.double (pqI m_)), .second, .val (.int (0 : Int32)), .val (.int (0 : Int32)), .val (.int (0 : Int32))] [(.double (FP.dmul (FP.i2d (0 : Int32)) (FP.i2d sv)))])) (fun _ q => XS.dmulS X.here X.hx rfl (hb hby d5_84) rfl (mulNN _ _) rfl q) ?_
        simp only [cmpI_lt] at hB7 hB9 hB10
        exact X.retD hret (hb hby d5_85) (by decide) (by decide) ⟨0, rfl, by decide, fun i hi => by
            omega, Or.inr (by omega), rfl⟩
set_option maxRecDepth 65536 in
set_option maxHeartbeats 40000000 in
theorem rm0 (l : Launch) (Z : State) (a0 : Array Value) (hw : ∀ d ∈ tables_1, d.before a0 Z = true) (n0 : Nat) (h0 : Heap) (hn0 : n0 ≤ h0.size) (ws : List Jvm.Cond) (p0 p1 p2 : Int32) :
    MetFree l x (head1 (Jvm.Cond.code x code maxLocals ret :: ws) room_1) (fun a U => a = #[(.int p0), (.int p1), (.int p2)] ∧ Z.Warmed39 U.vm ∧ U.heap = h0) (fun _ _ _ _ _ => True) (fun _ U o U' => ∃ v L, o = .returned v ∧ (Fr n0 L ∧ (fun (v : Option Value) (h' : Heap) => v = some (.int 1)) v U'.heap) ∧ EndF U o U' L room_1.cells room_1.slots) := by
  refine metW (Q := fun (v : Option Value) (h' : Heap) => v = some (.int 1)) pf_0 hn0 ?_
  intro p e s m below meth c T X hby hml hret hnm
  refine Goes.by (g' := (mkF m 0 #[.val (.int p0), .val (.int p1), .val (.int p2), .unset, .unset, .unset, .unset, .unset, .unset, .unset, .unset, .unset, .unset, .unset, .unset, .unset] [])) (fun _ q => castTop (by first | rfl | (simp [entryFrame, mkF, argsToLocals, Value.category, maxLocals]; done)) q) ?_
  refine Goes.by (g' := (mkF m 1 #[.val (.int p0), .val (.int p1), .val (.int p2), .unset, .unset, .unset, .unset, .unset, .unset, .unset, .unset, .unset, .unset, .unset, .unset, .unset] [(.int p0)])) (fun _ q => XS.iloadN X.here X.hx rfl (hb hby at_0) rfl q) ?_
  refine Goes.by (g' := (mkF m 3 #[.val (.int p0), .val (.int p1), .val (.int p2), .unset, .unset, .unset, .unset, .unset, .unset, .unset, .unset, .unset, .unset, .unset, .unset, .unset] [(.int (7 : Int32)), (.int p0)])) (fun _ q => XS.bipush X.here X.hx rfl (hb hby at_1) q) ?_
  refine Goes.by (g' := (mkF m 4 #[.val (.int p0), .val (.int p1), .val (.int p2), .unset, .unset, .unset, .unset, .unset, .unset, .unset, .unset, .unset, .unset, .unset, .unset, .unset] [(.int (p0 &&& (7 : Int32)))])) (fun _ q => XS.iand X.here X.hx rfl (hb hby at_3) rfl q) ?_
  generalize h_c0_ : (p0 &&& (7 : Int32)) = c0_
  have hc0 : 0 ≤ c0_.toInt ∧ c0_.toInt ≤ 7 := by
    have q := c_mask p0 7 3 (by decide) (by decide)
    rw [← h_c0_]
    omega
  clear h_c0_
  refine Goes.by (g' := (mkF m 5 #[.val (.int p0), .val (.int p1), .val (.int p2), .val (.int c0_), .unset, .unset, .unset, .unset, .unset, .unset, .unset, .unset, .unset, .unset, .unset, .unset] [])) (fun _ q => XS.istoreN X.here X.hx rfl (hb hby at_4) rfl (l' := #[.val (.int p0), .val (.int p1), .val (.int p2), .val (.int c0_), .unset, .unset, .unset, .unset, .unset, .unset, .unset, .unset, .unset, .unset, .unset, .unset]) rfl q) ?_
  refine Goes.by (g' := (mkF m 6 #[.val (.int p0), .val (.int p1), .val (.int p2), .val (.int c0_), .unset, .unset, .unset, .unset, .unset, .unset, .unset, .unset, .unset, .unset, .unset, .unset] [(.int c0_)])) (fun _ q => XS.iloadN X.here X.hx rfl (hb hby at_5) rfl q) ?_
  refine Goes.by (g' := (mkF m 7 #[.val (.int p0), .val (.int p1), .val (.int p2), .val (.int c0_), .unset, .unset, .unset, .unset, .unset, .unset, .unset, .unset, .unset, .unset, .unset, .unset] [(.int p0), (.int c0_)])) (fun _ q => XS.iloadN X.here X.hx rfl (hb hby at_6) rfl q) ?_
  refine Goes.by (g' := (mkF m 8 #[.val (.int p0), .val (.int p1), .val (.int p2), .val (.int c0_), .unset, .unset, .unset, .unset, .unset, .unset, .unset, .unset, .unset, .unset, .unset, .unset] [(.int (3 : Int32)), (.int p0), (.int c0_)])) (fun _ q => XS.iconst X.here X.hx rfl (hb hby at_7) q) ?_
  refine Goes.by (g' := (mkF m 9 #[.val (.int p0), .val (.int p1), .val (.int p2), .val (.int c0_), .unset, .unset, .unset, .unset, .unset, .unset, .unset, .unset, .unset, .unset, .unset, .unset] [(.int ((p0.toUInt32 >>> ((3 : Int32) &&& 31).toUInt32).toInt32)), (.int c0_)])) (fun _ q => XS.iushr X.here X.hx rfl (hb hby at_8) rfl q) ?_
  refine Goes.by (g' := (mkF m 11 #[.val (.int p0), .val (.int p1), .val (.int p2), .val (.int c0_), .unset, .unset, .unset, .unset, .unset, .unset, .unset, .unset, .unset, .unset, .unset, .unset] [(.int (7 : Int32)), (.int ((p0.toUInt32 >>> ((3 : Int32) &&& 31).toUInt32).toInt32)), (.int c0_)])) (fun _ q => XS.bipush X.here X.hx rfl (hb hby at_9) q) ?_
  refine Goes.by (g' := (mkF m 12 #[.val (.int p0), .val (.int p1), .val (.int p2), .val (.int c0_), .unset, .unset, .unset, .unset, .unset, .unset, .unset, .unset, .unset, .unset, .unset, .unset] [(.int (((p0.toUInt32 >>> ((3 : Int32) &&& 31).toUInt32).toInt32) &&& (7 : Int32))), (.int c0_)])) (fun _ q => XS.iand X.here X.hx rfl (hb hby at_11) rfl q) ?_
  refine Goes.by (g' := (mkF m 13 #[.val (.int p0), .val (.int p1), .val (.int p2), .val (.int c0_), .unset, .unset, .unset, .unset, .unset, .unset, .unset, .unset, .unset, .unset, .unset, .unset] [(.int (c0_ + (((p0.toUInt32 >>> ((3 : Int32) &&& 31).toUInt32).toInt32) &&& (7 : Int32))))])) (fun _ q => XS.iadd X.here X.hx rfl (hb hby at_12) rfl q) ?_
  generalize h_c1_ : (c0_ + (((p0.toUInt32 >>> ((3 : Int32) &&& 31).toUInt32).toInt32) &&& (7 : Int32))) = c1_
  have hc1 : c0_.toInt ≤ c1_.toInt ∧ c1_.toInt ≤ 14 := by
    have q := c_mask ((p0.toUInt32 >>> ((3 : Int32) &&& 31).toUInt32).toInt32) 7 3 (by decide) (by decide)
    rw [← h_c1_, addI (by omega) (by omega)]
    omega
  clear h_c1_
  refine Goes.by (g' := (mkF m 15 #[.val (.int p0), .val (.int p1), .val (.int p2), .val (.int c0_), .val (.int c1_), .unset, .unset, .unset, .unset, .unset, .unset, .unset, .unset, .unset, .unset, .unset] [])) (fun _ q => XS.istore X.here X.hx rfl (hb hby at_13) rfl (l' := #[.val (.int p0), .val (.int p1), .val (.int p2), .val (.int c0_), .val (.int c1_), .unset, .unset, .unset, .unset, .unset, .unset, .unset, .unset, .unset, .unset, .unset]) rfl q) ?_
  refine Goes.by (g' := (mkF m 17 #[.val (.int p0), .val (.int p1), .val (.int p2), .val (.int c0_), .val (.int c1_), .unset, .unset, .unset, .unset, .unset, .unset, .unset, .unset, .unset, .unset, .unset] [(.int c1_)])) (fun _ q => XS.iload X.here X.hx rfl (hb hby at_15) rfl q) ?_
  refine Goes.by (g' := (mkF m 18 #[.val (.int p0), .val (.int p1), .val (.int p2), .val (.int c0_), .val (.int c1_), .unset, .unset, .unset, .unset, .unset, .unset, .unset, .unset, .unset, .unset, .unset] [(.int p0), (.int c1_)])) (fun _ q => XS.iloadN X.here X.hx rfl (hb hby at_17) rfl q) ?_
  refine Goes.by (g' := (mkF m 20 #[.val (.int p0), .val (.int p1), .val (.int p2), .val (.int c0_), .val (.int c1_), .unset, .unset, .unset, .unset, .unset, .unset, .unset, .unset, .unset, .unset, .unset] [(.int (6 : Int32)), (.int p0), (.int c1_)])) (fun _ q => XS.bipush X.here X.hx rfl (hb hby at_18) q) ?_
  refine Goes.by (g' := (mkF m 21 #[.val (.int p0), .val (.int p1), .val (.int p2), .val (.int c0_), .val (.int c1_), .unset, .unset, .unset, .unset, .unset, .unset, .unset, .unset, .unset, .unset, .unset] [(.int ((p0.toUInt32 >>> ((6 : Int32) &&& 31).toUInt32).toInt32)), (.int c1_)])) (fun _ q => XS.iushr X.here X.hx rfl (hb hby at_20) rfl q) ?_
  refine Goes.by (g' := (mkF m 23 #[.val (.int p0), .val (.int p1), .val (.int p2), .val (.int c0_), .val (.int c1_), .unset, .unset, .unset, .unset, .unset, .unset, .unset, .unset, .unset, .unset, .unset] [(.int (7 : Int32)), (.int ((p0.toUInt32 >>> ((6 : Int32) &&& 31).toUInt32).toInt32)), (.int c1_)])) (fun _ q => XS.bipush X.here X.hx rfl (hb hby at_21) q) ?_
  refine Goes.by (g' := (mkF m 24 #[.val (.int p0), .val (.int p1), .val (.int p2), .val (.int c0_), .val (.int c1_), .unset, .unset, .unset, .unset, .unset, .unset, .unset, .unset, .unset, .unset, .unset] [(.int (((p0.toUInt32 >>> ((6 : Int32) &&& 31).toUInt32).toInt32) &&& (7 : Int32))), (.int c1_)])) (fun _ q => XS.iand X.here X.hx rfl (hb hby at_23) rfl q) ?_
  refine Goes.by (g' := (mkF m 25 #[.val (.int p0), .val (.int p1), .val (.int p2), .val (.int c0_), .val (.int c1_), .unset, .unset, .unset, .unset, .unset, .unset, .unset, .unset, .unset, .unset, .unset] [(.int (c1_ + (((p0.toUInt32 >>> ((6 : Int32) &&& 31).toUInt32).toInt32) &&& (7 : Int32))))])) (fun _ q => XS.iadd X.here X.hx rfl (hb hby at_24) rfl q) ?_
  generalize h_c2_ : (c1_ + (((p0.toUInt32 >>> ((6 : Int32) &&& 31).toUInt32).toInt32) &&& (7 : Int32))) = c2_
  have hc2 : c1_.toInt ≤ c2_.toInt ∧ c2_.toInt ≤ 21 := by
    have q := c_mask ((p0.toUInt32 >>> ((6 : Int32) &&& 31).toUInt32).toInt32) 7 3 (by decide) (by decide)
    rw [← h_c2_, addI (by omega) (by omega)]
    omega
  clear h_c2_
  refine Goes.by (g' := (mkF m 27 #[.val (.int p0), .val (.int p1), .val (.int p2), .val (.int c0_), .val (.int c1_), .val (.int c2_), .unset, .unset, .unset, .unset, .unset, .unset, .unset, .unset, .unset, .unset] [])) (fun _ q => XS.istore X.here X.hx rfl (hb hby at_25) rfl (l' := #[.val (.int p0), .val (.int p1), .val (.int p2), .val (.int c0_), .val (.int c1_), .val (.int c2_), .unset, .unset, .unset, .unset, .unset, .unset, .unset, .unset, .unset, .unset]) rfl q) ?_
  refine Goes.by (g' := (mkF m 29 #[.val (.int p0), .val (.int p1), .val (.int p2), .val (.int c0_), .val (.int c1_), .val (.int c2_), .unset, .unset, .unset, .unset, .unset, .unset, .unset, .unset, .unset, .unset] [(.int c2_)])) (fun _ q => XS.iload X.here X.hx rfl (hb hby at_27) rfl q) ?_
  refine Goes.by (g' := (mkF m 30 #[.val (.int p0), .val (.int p1), .val (.int p2), .val (.int c0_), .val (.int c1_), .val (.int c2_), .unset, .unset, .unset, .unset, .unset, .unset, .unset, .unset, .unset, .unset] [(.int p0), (.int c2_)])) (fun _ q => XS.iloadN X.here X.hx rfl (hb hby at_29) rfl q) ?_
  refine Goes.by (g' := (mkF m 32 #[.val (.int p0), .val (.int p1), .val (.int p2), .val (.int c0_), .val (.int c1_), .val (.int c2_), .unset, .unset, .unset, .unset, .unset, .unset, .unset, .unset, .unset, .unset] [(.int (9 : Int32)), (.int p0), (.int c2_)])) (fun _ q => XS.bipush X.here X.hx rfl (hb hby at_30) q) ?_
  refine Goes.by (g' := (mkF m 33 #[.val (.int p0), .val (.int p1), .val (.int p2), .val (.int c0_), .val (.int c1_), .val (.int c2_), .unset, .unset, .unset, .unset, .unset, .unset, .unset, .unset, .unset, .unset] [(.int ((p0.toUInt32 >>> ((9 : Int32) &&& 31).toUInt32).toInt32)), (.int c2_)])) (fun _ q => XS.iushr X.here X.hx rfl (hb hby at_32) rfl q) ?_
  refine Goes.by (g' := (mkF m 35 #[.val (.int p0), .val (.int p1), .val (.int p2), .val (.int c0_), .val (.int c1_), .val (.int c2_), .unset, .unset, .unset, .unset, .unset, .unset, .unset, .unset, .unset, .unset] [(.int (7 : Int32)), (.int ((p0.toUInt32 >>> ((9 : Int32) &&& 31).toUInt32).toInt32)), (.int c2_)])) (fun _ q => XS.bipush X.here X.hx rfl (hb hby at_33) q) ?_
  refine Goes.by (g' := (mkF m 36 #[.val (.int p0), .val (.int p1), .val (.int p2), .val (.int c0_), .val (.int c1_), .val (.int c2_), .unset, .unset, .unset, .unset, .unset, .unset, .unset, .unset, .unset, .unset] [(.int (((p0.toUInt32 >>> ((9 : Int32) &&& 31).toUInt32).toInt32) &&& (7 : Int32))), (.int c2_)])) (fun _ q => XS.iand X.here X.hx rfl (hb hby at_35) rfl q) ?_
  refine Goes.by (g' := (mkF m 37 #[.val (.int p0), .val (.int p1), .val (.int p2), .val (.int c0_), .val (.int c1_), .val (.int c2_), .unset, .unset, .unset, .unset, .unset, .unset, .unset, .unset, .unset, .unset] [(.int (c2_ + (((p0.toUInt32 >>> ((9 : Int32) &&& 31).toUInt32).toInt32) &&& (7 : Int32))))])) (fun _ q => XS.iadd X.here X.hx rfl (hb hby at_36) rfl q) ?_
  generalize h_c3_ : (c2_ + (((p0.toUInt32 >>> ((9 : Int32) &&& 31).toUInt32).toInt32) &&& (7 : Int32))) = c3_
  have hc3 : c2_.toInt ≤ c3_.toInt ∧ c3_.toInt ≤ 28 := by
    have q := c_mask ((p0.toUInt32 >>> ((9 : Int32) &&& 31).toUInt32).toInt32) 7 3 (by decide) (by decide)
    rw [← h_c3_, addI (by omega) (by omega)]
    omega
  clear h_c3_
  refine Goes.by (g' := (mkF m 39 #[.val (.int p0), .val (.int p1), .val (.int p2), .val (.int c0_), .val (.int c1_), .val (.int c2_), .val (.int c3_), .unset, .unset, .unset, .unset, .unset, .unset, .unset, .unset, .unset] [])) (fun _ q => XS.istore X.here X.hx rfl (hb hby at_37) rfl (l' := #[.val (.int p0), .val (.int p1), .val (.int p2), .val (.int c0_), .val (.int c1_), .val (.int c2_), .val (.int c3_), .unset, .unset, .unset, .unset, .unset, .unset, .unset, .unset, .unset]) rfl q) ?_
  refine Goes.by (g' := (mkF m 41 #[.val (.int p0), .val (.int p1), .val (.int p2), .val (.int c0_), .val (.int c1_), .val (.int c2_), .val (.int c3_), .unset, .unset, .unset, .unset, .unset, .unset, .unset, .unset, .unset] [(.int c3_)])) (fun _ q => XS.iload X.here X.hx rfl (hb hby at_39) rfl q) ?_
  refine Goes.by (g' := (mkF m 42 #[.val (.int p0), .val (.int p1), .val (.int p2), .val (.int c0_), .val (.int c1_), .val (.int c2_), .val (.int c3_), .unset, .unset, .unset, .unset, .unset, .unset, .unset, .unset, .unset] [(.int p0), (.int c3_)])) (fun _ q => XS.iloadN X.here X.hx rfl (hb hby at_41) rfl q) ?_
  refine Goes.by (g' := (mkF m 44 #[.val (.int p0), .val (.int p1), .val (.int p2), .val (.int c0_), .val (.int c1_), .val (.int c2_), .val (.int c3_), .unset, .unset, .unset, .unset, .unset, .unset, .unset, .unset, .unset] [(.int (12 : Int32)), (.int p0), (.int c3_)])) (fun _ q => XS.bipush X.here X.hx rfl (hb hby at_42) q) ?_
  refine Goes.by (g' := (mkF m 45 #[.val (.int p0), .val (.int p1), .val (.int p2), .val (.int c0_), .val (.int c1_), .val (.int c2_), .val (.int c3_), .unset, .unset, .unset, .unset, .unset, .unset, .unset, .unset, .unset] [(.int ((p0.toUInt32 >>> ((12 : Int32) &&& 31).toUInt32).toInt32)), (.int c3_)])) (fun _ q => XS.iushr X.here X.hx rfl (hb hby at_44) rfl q) ?_
  refine Goes.by (g' := (mkF m 47 #[.val (.int p0), .val (.int p1), .val (.int p2), .val (.int c0_), .val (.int c1_), .val (.int c2_), .val (.int c3_), .unset, .unset, .unset, .unset, .unset, .unset, .unset, .unset, .unset] [(.int (7 : Int32)), (.int ((p0.toUInt32 >>> ((12 : Int32) &&& 31).toUInt32).toInt32)), (.int c3_)])) (fun _ q => XS.bipush X.here X.hx rfl (hb hby at_45) q) ?_
  refine Goes.by (g' := (mkF m 48 #[.val (.int p0), .val (.int p1), .val (.int p2), .val (.int c0_), .val (.int c1_), .val (.int c2_), .val (.int c3_), .unset, .unset, .unset, .unset, .unset, .unset, .unset, .unset, .unset] [(.int (((p0.toUInt32 >>> ((12 : Int32) &&& 31).toUInt32).toInt32) &&& (7 : Int32))), (.int c3_)])) (fun _ q => XS.iand X.here X.hx rfl (hb hby at_47) rfl q) ?_
  refine Goes.by (g' := (mkF m 49 #[.val (.int p0), .val (.int p1), .val (.int p2), .val (.int c0_), .val (.int c1_), .val (.int c2_), .val (.int c3_), .unset, .unset, .unset, .unset, .unset, .unset, .unset, .unset, .unset] [(.int (c3_ + (((p0.toUInt32 >>> ((12 : Int32) &&& 31).toUInt32).toInt32) &&& (7 : Int32))))])) (fun _ q => XS.iadd X.here X.hx rfl (hb hby at_48) rfl q) ?_
  generalize h_c4_ : (c3_ + (((p0.toUInt32 >>> ((12 : Int32) &&& 31).toUInt32).toInt32) &&& (7 : Int32))) = c4_
  have hc4 : c3_.toInt ≤ c4_.toInt ∧ c4_.toInt ≤ 35 := by
    have q := c_mask ((p0.toUInt32 >>> ((12 : Int32) &&& 31).toUInt32).toInt32) 7 3 (by decide) (by decide)
    rw [← h_c4_, addI (by omega) (by omega)]
    omega
  clear h_c4_
  refine Goes.by (g' := (mkF m 51 #[.val (.int p0), .val (.int p1), .val (.int p2), .val (.int c0_), .val (.int c1_), .val (.int c2_), .val (.int c3_), .val (.int c4_), .unset, .unset, .unset, .unset, .unset, .unset, .unset, .unset] [])) (fun _ q => XS.istore X.here X.hx rfl (hb hby at_49) rfl (l' := #[.val (.int p0), .val (.int p1), .val (.int p2), .val (.int c0_), .val (.int c1_), .val (.int c2_), .val (.int c3_), .val (.int c4_), .unset, .unset, .unset, .unset, .unset, .unset, .unset, .unset]) rfl q) ?_
  refine Goes.by (g' := (mkF m 52 #[.val (.int p0), .val (.int p1), .val (.int p2), .val (.int c0_), .val (.int c1_), .val (.int c2_), .val (.int c3_), .val (.int c4_), .unset, .unset, .unset, .unset, .unset, .unset, .unset, .unset] [(.int (5 : Int32))])) (fun _ q => XS.iconst X.here X.hx rfl (hb hby at_51) q) ?_
  refine X.newA (N := 5) (ad := "[D") (by decide) (hw _ (List.mem_of_getElem? (i := 0) rfl)) (hb hby at_52) (by decide) (cap := 5) (by decide) (by decide) (by decide) (by decide) (fun T h12 b11 X g_b11 ga_b11 E E_b11 A_b11 => ?_)
  show Goes _ _ _ _ _ _ _ _ T (mkF m 54 #[.val (.int p0), .val (.int p1), .val (.int p2), .val (.int c0_), .val (.int c1_), .val (.int c2_), .val (.int c3_), .val (.int c4_), .unset, .unset, .unset, .unset, .unset, .unset, .unset, .unset] [(.ref b11)])
  refine Goes.by (g' := (mkF m 56 #[.val (.int p0), .val (.int p1), .val (.int p2), .val (.int c0_), .val (.int c1_), .val (.int c2_), .val (.int c3_), .val (.int c4_), .val (.ref b11), .unset, .unset, .unset, .unset, .unset, .unset, .unset] [])) (fun _ q => XS.astore X.here X.hx rfl (hb hby at_54) rfl rfl (l' := #[.val (.int p0), .val (.int p1), .val (.int p2), .val (.int c0_), .val (.int c1_), .val (.int c2_), .val (.int c3_), .val (.int c4_), .val (.ref b11), .unset, .unset, .unset, .unset, .unset, .unset, .unset]) rfl q) ?_
  refine Goes.by (g' := (mkF m 58 #[.val (.int p0), .val (.int p1), .val (.int p2), .val (.int c0_), .val (.int c1_), .val (.int c2_), .val (.int c3_), .val (.int c4_), .val (.ref b11), .unset, .unset, .unset, .unset, .unset, .unset, .unset] [(.ref b11)])) (fun _ q => XS.aload X.here X.hx rfl (hb hby at_56) rfl rfl q) ?_
  refine Goes.by (g' := (mkF m 59 #[.val (.int p0), .val (.int p1), .val (.int p2), .val (.int c0_), .val (.int c1_), .val (.int c2_), .val (.int c3_), .val (.int c4_), .val (.ref b11), .unset, .unset, .unset, .unset, .unset, .unset, .unset] [(.int (0 : Int32)), (.ref b11)])) (fun _ q => XS.iconst X.here X.hx rfl (hb hby at_58) q) ?_
  refine Goes.by (g' := (mkF m 60 #[.val (.int p0), .val (.int p1), .val (.int p2), .val (.int c0_), .val (.int c1_), .val (.int c2_), .val (.int c3_), .val (.int c4_), .val (.ref b11), .unset, .unset, .unset, .unset, .unset, .unset, .unset] [(.int c0_), (.int (0 : Int32)), (.ref b11)])) (fun _ q => XS.iloadN X.here X.hx rfl (hb hby at_59) rfl q) ?_
  have X_o := X
  refine X.callS (hw _ (List.mem_of_getElem? (i := 1) rfl)) (hw _ (List.mem_of_getElem? (i := 2) rfl)) (hw _ (List.mem_of_getElem? (i := 3) rfl)) (hw _ (List.mem_of_getElem? (i := 4) rfl)) (by decide) pd_2087992003 (argsL := [(.int c0_)]) rfl (rmPr l Z a0 hw n0 h12 X.n0le c0_ (by omega)) (by rw [hml]; rfl) rfl (by decide) (leB rfl) (hb hby at_60) (by decide) (by decide) (fun T h13 v X hQ => ?_)
  obtain ⟨r0, rfl, hr0, hh⟩ := hQ
  rw [hh] at X
  clear hh
  show Goes _ _ _ _ _ _ _ _ T (mkF m 63 #[.val (.int p0), .val (.int p1), .val (.int p2), .val (.int c0_), .val (.int c1_), .val (.int c2_), .val (.int c3_), .val (.int c4_), .val (.ref b11), .unset, .unset, .unset, .unset, .unset, .unset, .unset] [(.double (pqI r0)), (.int (0 : Int32)), (.ref b11)])
  refine X.dastore A_b11 (i := 0) (by decide) (by decide) ga_b11 (hb hby at_63) (fun T h14 X W => ?_)
  have E_b11 := E_b11.wr W
  have A_b11 := PArr.set A_b11 W
  show Goes _ _ _ _ _ _ _ _ T (mkF m 64 #[.val (.int p0), .val (.int p1), .val (.int p2), .val (.int c0_), .val (.int c1_), .val (.int c2_), .val (.int c3_), .val (.int c4_), .val (.ref b11), .unset, .unset, .unset, .unset, .unset, .unset, .unset] [])
  refine Goes.by (g' := (mkF m 66 #[.val (.int p0), .val (.int p1), .val (.int p2), .val (.int c0_), .val (.int c1_), .val (.int c2_), .val (.int c3_), .val (.int c4_), .val (.ref b11), .unset, .unset, .unset, .unset, .unset, .unset, .unset] [(.ref b11)])) (fun _ q => XS.aload X.here X.hx rfl (hb hby at_64) rfl rfl q) ?_
  refine Goes.by (g' := (mkF m 67 #[.val (.int p0), .val (.int p1), .val (.int p2), .val (.int c0_), .val (.int c1_), .val (.int c2_), .val (.int c3_), .val (.int c4_), .val (.ref b11), .unset, .unset, .unset, .unset, .unset, .unset, .unset] [(.int (1 : Int32)), (.ref b11)])) (fun _ q => XS.iconst X.here X.hx rfl (hb hby at_66) q) ?_
  refine Goes.by (g' := (mkF m 69 #[.val (.int p0), .val (.int p1), .val (.int p2), .val (.int c0_), .val (.int c1_), .val (.int c2_), .val (.int c3_), .val (.int c4_), .val (.ref b11), .unset, .unset, .unset, .unset, .unset, .unset, .unset] [(.int c1_), (.int (1 : Int32)), (.ref b11)])) (fun _ q => XS.iload X.here X.hx rfl (hb hby at_67) rfl q) ?_
  have X_o := X
  refine X.callS (hw _ (List.mem_of_getElem? (i := 1) rfl)) (hw _ (List.mem_of_getElem? (i := 2) rfl)) (hw _ (List.mem_of_getElem? (i := 3) rfl)) (hw _ (List.mem_of_getElem? (i := 4) rfl)) (by decide) pd_2087992003 (argsL := [(.int c1_)]) rfl (rmPr l Z a0 hw n0 h14 X.n0le c1_ (by omega)) (by rw [hml]; rfl) rfl (by decide) (leB rfl) (hb hby at_69) (by decide) (by decide) (fun T h15 v X hQ => ?_)
  obtain ⟨r1, rfl, hr1, hh⟩ := hQ
  rw [hh] at X
  clear hh
  show Goes _ _ _ _ _ _ _ _ T (mkF m 72 #[.val (.int p0), .val (.int p1), .val (.int p2), .val (.int c0_), .val (.int c1_), .val (.int c2_), .val (.int c3_), .val (.int c4_), .val (.ref b11), .unset, .unset, .unset, .unset, .unset, .unset, .unset] [(.double (pqI r1)), (.int (1 : Int32)), (.ref b11)])
  refine X.dastore A_b11 (i := 1) (by decide) (by decide) ga_b11 (hb hby at_72) (fun T h16 X W => ?_)
  have E_b11 := E_b11.wr W
  have A_b11 := PArr.set A_b11 W
  show Goes _ _ _ _ _ _ _ _ T (mkF m 73 #[.val (.int p0), .val (.int p1), .val (.int p2), .val (.int c0_), .val (.int c1_), .val (.int c2_), .val (.int c3_), .val (.int c4_), .val (.ref b11), .unset, .unset, .unset, .unset, .unset, .unset, .unset] [])
  refine Goes.by (g' := (mkF m 75 #[.val (.int p0), .val (.int p1), .val (.int p2), .val (.int c0_), .val (.int c1_), .val (.int c2_), .val (.int c3_), .val (.int c4_), .val (.ref b11), .unset, .unset, .unset, .unset, .unset, .unset, .unset] [(.ref b11)])) (fun _ q => XS.aload X.here X.hx rfl (hb hby at_73) rfl rfl q) ?_
  refine Goes.by (g' := (mkF m 76 #[.val (.int p0), .val (.int p1), .val (.int p2), .val (.int c0_), .val (.int c1_), .val (.int c2_), .val (.int c3_), .val (.int c4_), .val (.ref b11), .unset, .unset, .unset, .unset, .unset, .unset, .unset] [(.int (2 : Int32)), (.ref b11)])) (fun _ q => XS.iconst X.here X.hx rfl (hb hby at_75) q) ?_
  refine Goes.by (g' := (mkF m 78 #[.val (.int p0), .val (.int p1), .val (.int p2), .val (.int c0_), .val (.int c1_), .val (.int c2_), .val (.int c3_), .val (.int c4_), .val (.ref b11), .unset, .unset, .unset, .unset, .unset, .unset, .unset] [(.int c2_), (.int (2 : Int32)), (.ref b11)])) (fun _ q => XS.iload X.here X.hx rfl (hb hby at_76) rfl q) ?_
  have X_o := X
  refine X.callS (hw _ (List.mem_of_getElem? (i := 1) rfl)) (hw _ (List.mem_of_getElem? (i := 2) rfl)) (hw _ (List.mem_of_getElem? (i := 3) rfl)) (hw _ (List.mem_of_getElem? (i := 4) rfl)) (by decide) pd_2087992003 (argsL := [(.int c2_)]) rfl (rmPr l Z a0 hw n0 h16 X.n0le c2_ (by omega)) (by rw [hml]; rfl) rfl (by decide) (leB rfl) (hb hby at_78) (by decide) (by decide) (fun T h17 v X hQ => ?_)
  obtain ⟨r2, rfl, hr2, hh⟩ := hQ
  rw [hh] at X
  clear hh
  show Goes _ _ _ _ _ _ _ _ T (mkF m 81 #[.val (.int p0), .val (.int p1), .val (.int p2), .val (.int c0_), .val (.int c1_), .val (.int c2_), .val (.int c3_), .val (.int c4_), .val (.ref b11), .unset, .unset, .unset, .unset, .unset, .unset, .unset] [(.double (pqI r2)), (.int (2 : Int32)), (.ref b11)])
  refine X.dastore A_b11 (i := 2) (by decide) (by decide) ga_b11 (hb hby at_81) (fun T h18 X W => ?_)
  have E_b11 := E_b11.wr W
  have A_b11 := PArr.set A_b11 W
  show Goes _ _ _ _ _ _ _ _ T (mkF m 82 #[.val (.int p0), .val (.int p1), .val (.int p2), .val (.int c0_), .val (.int c1_), .val (.int c2_), .val (.int c3_), .val (.int c4_), .val (.ref b11), .unset, .unset, .unset, .unset, .unset, .unset, .unset] [])
  refine Goes.by (g' := (mkF m 84 #[.val (.int p0), .val (.int p1), .val (.int p2), .val (.int c0_), .val (.int c1_), .val (.int c2_), .val (.int c3_), .val (.int c4_), .val (.ref b11), .unset, .unset, .unset, .unset, .unset, .unset, .unset] [(.ref b11)])) (fun _ q => XS.aload X.here X.hx rfl (hb hby at_82) rfl rfl q) ?_
  refine Goes.by (g' := (mkF m 85 #[.val (.int p0), .val (.int p1), .val (.int p2), .val (.int c0_), .val (.int c1_), .val (.int c2_), .val (.int c3_), .val (.int c4_), .val (.ref b11), .unset, .unset, .unset, .unset, .unset, .unset, .unset] [(.int (3 : Int32)), (.ref b11)])) (fun _ q => XS.iconst X.here X.hx rfl (hb hby at_84) q) ?_
  refine Goes.by (g' := (mkF m 87 #[.val (.int p0), .val (.int p1), .val (.int p2), .val (.int c0_), .val (.int c1_), .val (.int c2_), .val (.int c3_), .val (.int c4_), .val (.ref b11), .unset, .unset, .unset, .unset, .unset, .unset, .unset] [(.int c3_), (.int (3 : Int32)), (.ref b11)])) (fun _ q => XS.iload X.here X.hx rfl (hb hby at_85) rfl q) ?_
  have X_o := X
  refine X.callS (hw _ (List.mem_of_getElem? (i := 1) rfl)) (hw _ (List.mem_of_getElem? (i := 2) rfl)) (hw _ (List.mem_of_getElem? (i := 3) rfl)) (hw _ (List.mem_of_getElem? (i := 4) rfl)) (by decide) pd_2087992003 (argsL := [(.int c3_)]) rfl (rmPr l Z a0 hw n0 h18 X.n0le c3_ (by omega)) (by rw [hml]; rfl) rfl (by decide) (leB rfl) (hb hby at_87) (by decide) (by decide) (fun T h19 v X hQ => ?_)
  obtain ⟨r3, rfl, hr3, hh⟩ := hQ
  rw [hh] at X
  clear hh
  show Goes _ _ _ _ _ _ _ _ T (mkF m 90 #[.val (.int p0), .val (.int p1), .val (.int p2), .val (.int c0_), .val (.int c1_), .val (.int c2_), .val (.int c3_), .val (.int c4_), .val (.ref b11), .unset, .unset, .unset, .unset, .unset, .unset, .unset] [(.double (pqI r3)), (.int (3 : Int32)), (.ref b11)])
  refine X.dastore A_b11 (i := 3) (by decide) (by decide) ga_b11 (hb hby at_90) (fun T h20 X W => ?_)
  have E_b11 := E_b11.wr W
  have A_b11 := PArr.set A_b11 W
  show Goes _ _ _ _ _ _ _ _ T (mkF m 91 #[.val (.int p0), .val (.int p1), .val (.int p2), .val (.int c0_), .val (.int c1_), .val (.int c2_), .val (.int c3_), .val (.int c4_), .val (.ref b11), .unset, .unset, .unset, .unset, .unset, .unset, .unset] [])
  refine Goes.by (g' := (mkF m 93 #[.val (.int p0), .val (.int p1), .val (.int p2), .val (.int c0_), .val (.int c1_), .val (.int c2_), .val (.int c3_), .val (.int c4_), .val (.ref b11), .unset, .unset, .unset, .unset, .unset, .unset, .unset] [(.ref b11)])) (fun _ q => XS.aload X.here X.hx rfl (hb hby at_91) rfl rfl q) ?_
  refine Goes.by (g' := (mkF m 94 #[.val (.int p0), .val (.int p1), .val (.int p2), .val (.int c0_), .val (.int c1_), .val (.int c2_), .val (.int c3_), .val (.int c4_), .val (.ref b11), .unset, .unset, .unset, .unset, .unset, .unset, .unset] [(.int (4 : Int32)), (.ref b11)])) (fun _ q => XS.iconst X.here X.hx rfl (hb hby at_93) q) ?_
  refine Goes.by (g' := (mkF m 96 #[.val (.int p0), .val (.int p1), .val (.int p2), .val (.int c0_), .val (.int c1_), .val (.int c2_), .val (.int c3_), .val (.int c4_), .val (.ref b11), .unset, .unset, .unset, .unset, .unset, .unset, .unset] [(.int c4_), (.int (4 : Int32)), (.ref b11)])) (fun _ q => XS.iload X.here X.hx rfl (hb hby at_94) rfl q) ?_
  have X_o := X
  refine X.callS (hw _ (List.mem_of_getElem? (i := 1) rfl)) (hw _ (List.mem_of_getElem? (i := 2) rfl)) (hw _ (List.mem_of_getElem? (i := 3) rfl)) (hw _ (List.mem_of_getElem? (i := 4) rfl)) (by decide) pd_2087992003 (argsL := [(.int c4_)]) rfl (rmPr l Z a0 hw n0 h20 X.n0le c4_ (by omega)) (by rw [hml]; rfl) rfl (by decide) (leB rfl) (hb hby at_96) (by decide) (by decide) (fun T h21 v X hQ => ?_)
  obtain ⟨r4, rfl, hr4, hh⟩ := hQ
  rw [hh] at X
  clear hh
  show Goes _ _ _ _ _ _ _ _ T (mkF m 99 #[.val (.int p0), .val (.int p1), .val (.int p2), .val (.int c0_), .val (.int c1_), .val (.int c2_), .val (.int c3_), .val (.int c4_), .val (.ref b11), .unset, .unset, .unset, .unset, .unset, .unset, .unset] [(.double (pqI r4)), (.int (4 : Int32)), (.ref b11)])
  refine X.dastore A_b11 (i := 4) (by decide) (by decide) ga_b11 (hb hby at_99) (fun T h22 X W => ?_)
  have E_b11 := E_b11.wr W
  have A_b11 := PArr.set A_b11 W
  show Goes _ _ _ _ _ _ _ _ T (mkF m 100 #[.val (.int p0), .val (.int p1), .val (.int p2), .val (.int c0_), .val (.int c1_), .val (.int c2_), .val (.int c3_), .val (.int c4_), .val (.ref b11), .unset, .unset, .unset, .unset, .unset, .unset, .unset] [])
  have A_b11 : PArr Z h22 b11 .double 5 (fun j => .double (pqI (rfn r0 r1 r2 r3 r4 j))) := PArr.congr A_b11 (fun j hj => by
    have q : j = 0 ∨ j = 1 ∨ j = 2 ∨ j = 3 ∨ j = 4 := by omega
    rcases q with rfl | rfl | rfl | rfl | rfl <;> rfl)
  refine Goes.by (g' := (mkF m 101 #[.val (.int p0), .val (.int p1), .val (.int p2), .val (.int c0_), .val (.int c1_), .val (.int c2_), .val (.int c3_), .val (.int c4_), .val (.ref b11), .unset, .unset, .unset, .unset, .unset, .unset, .unset] [(.int p1)])) (fun _ q => XS.iloadN X.here X.hx rfl (hb hby at_100) rfl q) ?_
  refine X.ldcI (hw _ (List.mem_of_getElem? (i := 10) rfl)) (hb hby at_101) ?_
  show Goes _ _ _ _ _ _ _ _ T (mkF m 103 #[.val (.int p0), .val (.int p1), .val (.int p2), .val (.int c0_), .val (.int c1_), .val (.int c2_), .val (.int c3_), .val (.int c4_), .val (.ref b11), .unset, .unset, .unset, .unset, .unset, .unset, .unset] [(.int (2147483647 : Int32)), (.int p1)])
  refine Goes.by (g' := (mkF m 104 #[.val (.int p0), .val (.int p1), .val (.int p2), .val (.int c0_), .val (.int c1_), .val (.int c2_), .val (.int c3_), .val (.int c4_), .val (.ref b11), .unset, .unset, .unset, .unset, .unset, .unset, .unset] [(.int (p1 &&& (2147483647 : Int32)))])) (fun _ q => XS.iand X.here X.hx rfl (hb hby at_103) rfl q) ?_
  refine Goes.by (g' := (mkF m 106 #[.val (.int p0), .val (.int p1), .val (.int p2), .val (.int c0_), .val (.int c1_), .val (.int c2_), .val (.int c3_), .val (.int c4_), .val (.ref b11), .unset, .unset, .unset, .unset, .unset, .unset, .unset] [(.int (15 : Int32)), (.int (p1 &&& (2147483647 : Int32)))])) (fun _ q => XS.bipush X.here X.hx rfl (hb hby at_104) q) ?_
  refine X.irem (hb hby at_106) (by decide) ?_
  show Goes _ _ _ _ _ _ _ _ T (mkF m 107 #[.val (.int p0), .val (.int p1), .val (.int p2), .val (.int c0_), .val (.int c1_), .val (.int c2_), .val (.int c3_), .val (.int c4_), .val (.ref b11), .unset, .unset, .unset, .unset, .unset, .unset, .unset] [(.int ((p1 &&& (2147483647 : Int32)) % (15 : Int32)))])
  refine Goes.by (g' := (mkF m 108 #[.val (.int p0), .val (.int p1), .val (.int p2), .val (.int c0_), .val (.int c1_), .val (.int c2_), .val (.int c3_), .val (.int c4_), .val (.ref b11), .unset, .unset, .unset, .unset, .unset, .unset, .unset] [(.int (1 : Int32)), (.int ((p1 &&& (2147483647 : Int32)) % (15 : Int32)))])) (fun _ q => XS.iconst X.here X.hx rfl (hb hby at_107) q) ?_
  refine Goes.by (g' := (mkF m 109 #[.val (.int p0), .val (.int p1), .val (.int p2), .val (.int c0_), .val (.int c1_), .val (.int c2_), .val (.int c3_), .val (.int c4_), .val (.ref b11), .unset, .unset, .unset, .unset, .unset, .unset, .unset] [(.int (((p1 &&& (2147483647 : Int32)) % (15 : Int32)) + (1 : Int32)))])) (fun _ q => XS.iadd X.here X.hx rfl (hb hby at_108) rfl q) ?_
  generalize h_m_ : (((p1 &&& (2147483647 : Int32)) % (15 : Int32)) + (1 : Int32)) = m_
  have hm : 1 ≤ m_.toInt ∧ m_.toInt ≤ 15 := by
    have q := maskR p1 15 15 (by decide) (by decide)
    have o : (1 : Int32).toInt = 1 := by decide
    rw [← h_m_, addI (by omega) (by omega)]
    omega
  clear h_m_
  refine Goes.by (g' := (mkF m 111 #[.val (.int p0), .val (.int p1), .val (.int p2), .val (.int c0_), .val (.int c1_), .val (.int c2_), .val (.int c3_), .val (.int c4_), .val (.ref b11), .val (.int m_), .unset, .unset, .unset, .unset, .unset, .unset] [])) (fun _ q => XS.istore X.here X.hx rfl (hb hby at_109) rfl (l' := #[.val (.int p0), .val (.int p1), .val (.int p2), .val (.int c0_), .val (.int c1_), .val (.int c2_), .val (.int c3_), .val (.int c4_), .val (.ref b11), .val (.int m_), .unset, .unset, .unset, .unset, .unset, .unset]) rfl q) ?_
  refine Goes.by (g' := (mkF m 113 #[.val (.int p0), .val (.int p1), .val (.int p2), .val (.int c0_), .val (.int c1_), .val (.int c2_), .val (.int c3_), .val (.int c4_), .val (.ref b11), .val (.int m_), .unset, .unset, .unset, .unset, .unset, .unset] [(.int m_)])) (fun _ q => XS.iload X.here X.hx rfl (hb hby at_111) rfl q) ?_
  refine Goes.by (g' := (mkF m 114 #[.val (.int p0), .val (.int p1), .val (.int p2), .val (.int c0_), .val (.int c1_), .val (.int c2_), .val (.int c3_), .val (.int c4_), .val (.ref b11), .val (.int m_), .unset, .unset, .unset, .unset, .unset, .unset] [(.double (FP.i2d m_))])) (fun _ q => XS.i2dS X.here X.hx rfl (hb hby at_113) rfl rfl q) ?_
  refine X.ldc2D (hw _ (List.mem_of_getElem? (i := 9) rfl)) (hb hby at_114) ?_
  show Goes _ _ _ _ _ _ _ _ T (mkF m 117 #[.val (.int p0), .val (.int p1), .val (.int p2), .val (.int c0_), .val (.int c1_), .val (.int c2_), .val (.int c3_), .val (.int c4_), .val (.ref b11), .val (.int m_), .unset, .unset, .unset, .unset, .unset, .unset] [(.double (4625196817309499392 : UInt64)), (.double (FP.i2d m_))])
  refine Goes.by (g' := (mkF m 118 #[.val (.int p0), .val (.int p1), .val (.int p2), .val (.int c0_), .val (.int c1_), .val (.int c2_), .val (.int c3_), .val (.int c4_), .val (.ref b11), .val (.int m_), .unset, .unset, .unset, .unset, .unset, .unset] [(.double (pqI m_))])) (fun _ q => XS.ddivS X.here X.hx rfl (hb hby at_117) rfl (pnan (by omega) (by omega)) rfl q) ?_
  refine Goes.by (g' := (mkF m 120 #[.val (.int p0), .val (.int p1), .val (.int p2), .val (.int c0_), .val (.int c1_), .val (.int c2_), .val (.int c3_), .val (.int c4_), .val (.ref b11), .val (.int m_), .val (.double (pqI m_)), .second, .unset, .unset, .unset, .unset] [])) (fun _ q => XS.dstore X.here X.hx rfl (hb hby at_118) rfl (l' := #[.val (.int p0), .val (.int p1), .val (.int p2), .val (.int c0_), .val (.int c1_), .val (.int c2_), .val (.int c3_), .val (.int c4_), .val (.ref b11), .val (.int m_), .val (.double (pqI m_)), .second, .unset, .unset, .unset, .unset]) rfl q) ?_
  refine Goes.by (g' := (mkF m 121 #[.val (.int p0), .val (.int p1), .val (.int p2), .val (.int c0_), .val (.int c1_), .val (.int c2_), .val (.int c3_), .val (.int c4_), .val (.ref b11), .val (.int m_), .val (.double (pqI m_)), .second, .unset, .unset, .unset, .unset] [(.int p2)])) (fun _ q => XS.iloadN X.here X.hx rfl (hb hby at_120) rfl q) ?_
  refine X.ldcI (hw _ (List.mem_of_getElem? (i := 10) rfl)) (hb hby at_121) ?_
  show Goes _ _ _ _ _ _ _ _ T (mkF m 123 #[.val (.int p0), .val (.int p1), .val (.int p2), .val (.int c0_), .val (.int c1_), .val (.int c2_), .val (.int c3_), .val (.int c4_), .val (.ref b11), .val (.int m_), .val (.double (pqI m_)), .second, .unset, .unset, .unset, .unset] [(.int (2147483647 : Int32)), (.int p2)])
  refine Goes.by (g' := (mkF m 124 #[.val (.int p0), .val (.int p1), .val (.int p2), .val (.int c0_), .val (.int c1_), .val (.int c2_), .val (.int c3_), .val (.int c4_), .val (.ref b11), .val (.int m_), .val (.double (pqI m_)), .second, .unset, .unset, .unset, .unset] [(.int (p2 &&& (2147483647 : Int32)))])) (fun _ q => XS.iand X.here X.hx rfl (hb hby at_123) rfl q) ?_
  generalize h_sv : (p2 &&& (2147483647 : Int32)) = sv
  skip
  clear h_sv
  refine Goes.by (g' := (mkF m 125 #[.val (.int p0), .val (.int p1), .val (.int p2), .val (.int c0_), .val (.int c1_), .val (.int c2_), .val (.int c3_), .val (.int c4_), .val (.ref b11), .val (.int m_), .val (.double (pqI m_)), .second, .unset, .unset, .unset, .unset] [(.double (FP.i2d sv))])) (fun _ q => XS.i2dS X.here X.hx rfl (hb hby at_124) rfl rfl q) ?_
  refine Goes.by (g' := (mkF m 127 #[.val (.int p0), .val (.int p1), .val (.int p2), .val (.int c0_), .val (.int c1_), .val (.int c2_), .val (.int c3_), .val (.int c4_), .val (.ref b11), .val (.int m_), .val (.double (pqI m_)), .second, .val (.double (FP.i2d sv)), .second, .unset, .unset] [])) (fun _ q => XS.dstore X.here X.hx rfl (hb hby at_125) rfl (l' := #[.val (.int p0), .val (.int p1), .val (.int p2), .val (.int c0_), .val (.int c1_), .val (.int c2_), .val (.int c3_), .val (.int c4_), .val (.ref b11), .val (.int m_), .val (.double (pqI m_)), .second, .val (.double (FP.i2d sv)), .second, .unset, .unset]) rfl q) ?_
  refine Goes.by (g' := (mkF m 129 #[.val (.int p0), .val (.int p1), .val (.int p2), .val (.int c0_), .val (.int c1_), .val (.int c2_), .val (.int c3_), .val (.int c4_), .val (.ref b11), .val (.int m_), .val (.double (pqI m_)), .second, .val (.double (FP.i2d sv)), .second, .unset, .unset] [(.ref b11)])) (fun _ q => XS.aload X.here X.hx rfl (hb hby at_127) rfl rfl q) ?_
  refine Goes.by (g' := (mkF m 130 #[.val (.int p0), .val (.int p1), .val (.int p2), .val (.int c0_), .val (.int c1_), .val (.int c2_), .val (.int c3_), .val (.int c4_), .val (.ref b11), .val (.int m_), .val (.double (pqI m_)), .second, .val (.double (FP.i2d sv)), .second, .unset, .unset] [(.int (0 : Int32)), (.ref b11)])) (fun _ q => XS.iconst X.here X.hx rfl (hb hby at_129) q) ?_
  refine X.daload A_b11 (i := 0) (by decide) (by decide) (hb hby at_130) ?_
  show Goes _ _ _ _ _ _ _ _ T (mkF m 131 #[.val (.int p0), .val (.int p1), .val (.int p2), .val (.int c0_), .val (.int c1_), .val (.int c2_), .val (.int c3_), .val (.int c4_), .val (.ref b11), .val (.int m_), .val (.double (pqI m_)), .second, .val (.double (FP.i2d sv)), .second, .unset, .unset] [(.double (pqI r0))])
  refine Goes.by (g' := (mkF m 133 #[.val (.int p0), .val (.int p1), .val (.int p2), .val (.int c0_), .val (.int c1_), .val (.int c2_), .val (.int c3_), .val (.int c4_), .val (.ref b11), .val (.int m_), .val (.double (pqI m_)), .second, .val (.double (FP.i2d sv)), .second, .unset, .unset] [(.double (pqI m_)), (.double (pqI r0))])) (fun _ q => XS.dload X.here X.hx rfl (hb hby at_131) rfl q) ?_
  refine Goes.by (g' := (mkF m 134 #[.val (.int p0), .val (.int p1), .val (.int p2), .val (.int c0_), .val (.int c1_), .val (.int c2_), .val (.int c3_), .val (.int c4_), .val (.ref b11), .val (.int m_), .val (.double (pqI m_)), .second, .val (.double (FP.i2d sv)), .second, .unset, .unset] [(.int (cmpI r0 m_))])) (fun _ q => XS.dcmpS X.here X.hx rfl (hb hby at_133) rfl (pcmp hr0.1 hr0.2.1 (by omega) (by omega)) q) ?_
  by_cases hB23 : (cmpI r0 m_) < (0 : Int32)
  · skip
    refine Goes.by (g' := (mkF m 143 #[.val (.int p0), .val (.int p1), .val (.int p2), .val (.int c0_), .val (.int c1_), .val (.int c2_), .val (.int c3_), .val (.int c4_), .val (.ref b11), .val (.int m_), .val (.double (pqI m_)), .second, .val (.double (FP.i2d sv)), .second, .unset, .unset] [])) (fun _ q => XS.ifYes X.here X.hx rfl (pc0 := 134) (pc' := 143) rfl (hb hby at_134) rfl ((if0 _ _).trans (tlt hB23).1) (by decide) (by decide) q) ?_
    refine Goes.by (g' := (mkF m 145 #[.val (.int p0), .val (.int p1), .val (.int p2), .val (.int c0_), .val (.int c1_), .val (.int c2_), .val (.int c3_), .val (.int c4_), .val (.ref b11), .val (.int m_), .val (.double (pqI m_)), .second, .val (.double (FP.i2d sv)), .second, .unset, .unset] [(.ref b11)])) (fun _ q => XS.aload X.here X.hx rfl (hb hby at_143) rfl rfl q) ?_
    refine Goes.by (g' := (mkF m 146 #[.val (.int p0), .val (.int p1), .val (.int p2), .val (.int c0_), .val (.int c1_), .val (.int c2_), .val (.int c3_), .val (.int c4_), .val (.ref b11), .val (.int m_), .val (.double (pqI m_)), .second, .val (.double (FP.i2d sv)), .second, .unset, .unset] [(.int (1 : Int32)), (.ref b11)])) (fun _ q => XS.iconst X.here X.hx rfl (hb hby at_145) q) ?_
    refine X.daload A_b11 (i := 1) (by decide) (by decide) (hb hby at_146) ?_
    show Goes _ _ _ _ _ _ _ _ T (mkF m 147 #[.val (.int p0), .val (.int p1), .val (.int p2), .val (.int c0_), .val (.int c1_), .val (.int c2_), .val (.int c3_), .val (.int c4_), .val (.ref b11), .val (.int m_), .val (.double (pqI m_)), .second, .val (.double (FP.i2d sv)), .second, .unset, .unset] [(.double (pqI r1))])
    refine Goes.by (g' := (mkF m 149 #[.val (.int p0), .val (.int p1), .val (.int p2), .val (.int c0_), .val (.int c1_), .val (.int c2_), .val (.int c3_), .val (.int c4_), .val (.ref b11), .val (.int m_), .val (.double (pqI m_)), .second, .val (.double (FP.i2d sv)), .second, .unset, .unset] [(.double (pqI m_)), (.double (pqI r1))])) (fun _ q => XS.dload X.here X.hx rfl (hb hby at_147) rfl q) ?_
    refine Goes.by (g' := (mkF m 150 #[.val (.int p0), .val (.int p1), .val (.int p2), .val (.int c0_), .val (.int c1_), .val (.int c2_), .val (.int c3_), .val (.int c4_), .val (.ref b11), .val (.int m_), .val (.double (pqI m_)), .second, .val (.double (FP.i2d sv)), .second, .unset, .unset] [(.int (cmpI r1 m_))])) (fun _ q => XS.dcmpS X.here X.hx rfl (hb hby at_149) rfl (pcmp hr1.1 hr1.2.1 (by omega) (by omega)) q) ?_
    by_cases hB24 : (cmpI r1 m_) < (0 : Int32)
    · skip
      refine Goes.by (g' := (mkF m 159 #[.val (.int p0), .val (.int p1), .val (.int p2), .val (.int c0_), .val (.int c1_), .val (.int c2_), .val (.int c3_), .val (.int c4_), .val (.ref b11), .val (.int m_), .val (.double (pqI m_)), .second, .val (.double (FP.i2d sv)), .second, .unset, .unset] [])) (fun _ q => XS.ifYes X.here X.hx rfl (pc0 := 150) (pc' := 159) rfl (hb hby at_150) rfl ((if0 _ _).trans (tlt hB24).1) (by decide) (by decide) q) ?_
      refine Goes.by (g' := (mkF m 161 #[.val (.int p0), .val (.int p1), .val (.int p2), .val (.int c0_), .val (.int c1_), .val (.int c2_), .val (.int c3_), .val (.int c4_), .val (.ref b11), .val (.int m_), .val (.double (pqI m_)), .second, .val (.double (FP.i2d sv)), .second, .unset, .unset] [(.ref b11)])) (fun _ q => XS.aload X.here X.hx rfl (hb hby at_159) rfl rfl q) ?_
      refine Goes.by (g' := (mkF m 162 #[.val (.int p0), .val (.int p1), .val (.int p2), .val (.int c0_), .val (.int c1_), .val (.int c2_), .val (.int c3_), .val (.int c4_), .val (.ref b11), .val (.int m_), .val (.double (pqI m_)), .second, .val (.double (FP.i2d sv)), .second, .unset, .unset] [(.int (2 : Int32)), (.ref b11)])) (fun _ q => XS.iconst X.here X.hx rfl (hb hby at_161) q) ?_
      refine X.daload A_b11 (i := 2) (by decide) (by decide) (hb hby at_162) ?_
      show Goes _ _ _ _ _ _ _ _ T (mkF m 163 #[.val (.int p0), .val (.int p1), .val (.int p2), .val (.int c0_), .val (.int c1_), .val (.int c2_), .val (.int c3_), .val (.int c4_), .val (.ref b11), .val (.int m_), .val (.double (pqI m_)), .second, .val (.double (FP.i2d sv)), .second, .unset, .unset] [(.double (pqI r2))])
      refine Goes.by (g' := (mkF m 165 #[.val (.int p0), .val (.int p1), .val (.int p2), .val (.int c0_), .val (.int c1_), .val (.int c2_), .val (.int c3_), .val (.int c4_), .val (.ref b11), .val (.int m_), .val (.double (pqI m_)), .second, .val (.double (FP.i2d sv)), .second, .unset, .unset] [(.double (pqI m_)), (.double (pqI r2))])) (fun _ q => XS.dload X.here X.hx rfl (hb hby at_163) rfl q) ?_
      refine Goes.by (g' := (mkF m 166 #[.val (.int p0), .val (.int p1), .val (.int p2), .val (.int c0_), .val (.int c1_), .val (.int c2_), .val (.int c3_), .val (.int c4_), .val (.ref b11), .val (.int m_), .val (.double (pqI m_)), .second, .val (.double (FP.i2d sv)), .second, .unset, .unset] [(.int (cmpI r2 m_))])) (fun _ q => XS.dcmpS X.here X.hx rfl (hb hby at_165) rfl (pcmp hr2.1 hr2.2.1 (by omega) (by omega)) q) ?_
      by_cases hB25 : (cmpI r2 m_) < (0 : Int32)
      · skip
        refine Goes.by (g' := (mkF m 175 #[.val (.int p0), .val (.int p1), .val (.int p2), .val (.int c0_), .val (.int c1_), .val (.int c2_), .val (.int c3_), .val (.int c4_), .val (.ref b11), .val (.int m_), .val (.double (pqI m_)), .second, .val (.double (FP.i2d sv)), .second, .unset, .unset] [])) (fun _ q => XS.ifYes X.here X.hx rfl (pc0 := 166) (pc' := 175) rfl (hb hby at_166) rfl ((if0 _ _).trans (tlt hB25).1) (by decide) (by decide) q) ?_
        refine Goes.by (g' := (mkF m 177 #[.val (.int p0), .val (.int p1), .val (.int p2), .val (.int c0_), .val (.int c1_), .val (.int c2_), .val (.int c3_), .val (.int c4_), .val (.ref b11), .val (.int m_), .val (.double (pqI m_)), .second, .val (.double (FP.i2d sv)), .second, .unset, .unset] [(.ref b11)])) (fun _ q => XS.aload X.here X.hx rfl (hb hby at_175) rfl rfl q) ?_
        refine Goes.by (g' := (mkF m 178 #[.val (.int p0), .val (.int p1), .val (.int p2), .val (.int c0_), .val (.int c1_), .val (.int c2_), .val (.int c3_), .val (.int c4_), .val (.ref b11), .val (.int m_), .val (.double (pqI m_)), .second, .val (.double (FP.i2d sv)), .second, .unset, .unset] [(.int (3 : Int32)), (.ref b11)])) (fun _ q => XS.iconst X.here X.hx rfl (hb hby at_177) q) ?_
        refine X.daload A_b11 (i := 3) (by decide) (by decide) (hb hby at_178) ?_
        show Goes _ _ _ _ _ _ _ _ T (mkF m 179 #[.val (.int p0), .val (.int p1), .val (.int p2), .val (.int c0_), .val (.int c1_), .val (.int c2_), .val (.int c3_), .val (.int c4_), .val (.ref b11), .val (.int m_), .val (.double (pqI m_)), .second, .val (.double (FP.i2d sv)), .second, .unset, .unset] [(.double (pqI r3))])
        refine Goes.by (g' := (mkF m 181 #[.val (.int p0), .val (.int p1), .val (.int p2), .val (.int c0_), .val (.int c1_), .val (.int c2_), .val (.int c3_), .val (.int c4_), .val (.ref b11), .val (.int m_), .val (.double (pqI m_)), .second, .val (.double (FP.i2d sv)), .second, .unset, .unset] [(.double (pqI m_)), (.double (pqI r3))])) (fun _ q => XS.dload X.here X.hx rfl (hb hby at_179) rfl q) ?_
        refine Goes.by (g' := (mkF m 182 #[.val (.int p0), .val (.int p1), .val (.int p2), .val (.int c0_), .val (.int c1_), .val (.int c2_), .val (.int c3_), .val (.int c4_), .val (.ref b11), .val (.int m_), .val (.double (pqI m_)), .second, .val (.double (FP.i2d sv)), .second, .unset, .unset] [(.int (cmpI r3 m_))])) (fun _ q => XS.dcmpS X.here X.hx rfl (hb hby at_181) rfl (pcmp hr3.1 hr3.2.1 (by omega) (by omega)) q) ?_
        by_cases hB26 : (cmpI r3 m_) < (0 : Int32)
        · skip
          refine Goes.by (g' := (mkF m 191 #[.val (.int p0), .val (.int p1), .val (.int p2), .val (.int c0_), .val (.int c1_), .val (.int c2_), .val (.int c3_), .val (.int c4_), .val (.ref b11), .val (.int m_), .val (.double (pqI m_)), .second, .val (.double (FP.i2d sv)), .second, .unset, .unset] [])) (fun _ q => XS.ifYes X.here X.hx rfl (pc0 := 182) (pc' := 191) rfl (hb hby at_182) rfl ((if0 _ _).trans (tlt hB26).1) (by decide) (by decide) q) ?_
          refine Goes.by (g' := (mkF m 192 #[.val (.int p0), .val (.int p1), .val (.int p2), .val (.int c0_), .val (.int c1_), .val (.int c2_), .val (.int c3_), .val (.int c4_), .val (.ref b11), .val (.int m_), .val (.double (pqI m_)), .second, .val (.double (FP.i2d sv)), .second, .unset, .unset] [(.int (4 : Int32))])) (fun _ q => XS.iconst X.here X.hx rfl (hb hby at_191) q) ?_
          refine Goes.by (g' := (mkF m 194 #[.val (.int p0), .val (.int p1), .val (.int p2), .val (.int c0_), .val (.int c1_), .val (.int c2_), .val (.int c3_), .val (.int c4_), .val (.ref b11), .val (.int m_), .val (.double (pqI m_)), .second, .val (.double (FP.i2d sv)), .second, .val (.int (4 : Int32)), .unset] [])) (fun _ q => XS.istore X.here X.hx rfl (hb hby at_192) rfl (l' := #[.val (.int p0), .val (.int p1), .val (.int p2), .val (.int c0_), .val (.int c1_), .val (.int c2_), .val (.int c3_), .val (.int c4_), .val (.ref b11), .val (.int m_), .val (.double (pqI m_)), .second, .val (.double (FP.i2d sv)), .second, .val (.int (4 : Int32)), .unset]) rfl q) ?_
          refine X.newO (hw _ (List.mem_of_getElem? (i := 11) rfl)) (hw _ (List.mem_of_getElem? (i := 12) rfl)) (hw _ (List.mem_of_getElem? (i := 13) rfl)) (hb hby at_194) (by decide) (by decide) (fun T h28 b27 X g_b27 ga_b27 E E_b27 D_b27 => ?_)
          have ne_b11_b27 : b11 ≠ b27 := by rw [g_b27]; exact Nat.ne_of_lt E_b11.lt
          have E_b11 := E_b11.ext E
          have A_b11 := PArr.ext A_b11 E
          have F_b27_step : Fld Z h28 b27 "com/example/riskweave/riskweave/bound/PenaltyDistribution" "step" "D" (.double (0 : UInt64)) := D_b27 (Or.inr (hw _ (List.mem_of_getElem? (i := 21) rfl))) (ty := .double) (by decide)
          have F_b27_atMost : Fld Z h28 b27 "com/example/riskweave/riskweave/bound/PenaltyDistribution" "atMost" "[D" .null := D_b27 (Or.inr (hw _ (List.mem_of_getElem? (i := 23) rfl))) (ty := (.array .double)) (by decide)
          have F_b27_mean : Fld Z h28 b27 "com/example/riskweave/riskweave/bound/PenaltyDistribution" "mean" "D" (.double (0 : UInt64)) := D_b27 (Or.inr (hw _ (List.mem_of_getElem? (i := 25) rfl))) (ty := .double) (by decide)
          have F_b27_variance : Fld Z h28 b27 "com/example/riskweave/riskweave/bound/PenaltyDistribution" "variance" "D" (.double (0 : UInt64)) := D_b27 (Or.inr (hw _ (List.mem_of_getElem? (i := 27) rfl))) (ty := .double) (by decide)
          show Goes _ _ _ _ _ _ _ _ T (mkF m 197 #[.val (.int p0), .val (.int p1), .val (.int p2), .val (.int c0_), .val (.int c1_), .val (.int c2_), .val (.int c3_), .val (.int c4_), .val (.ref b11), .val (.int m_), .val (.double (pqI m_)), .second, .val (.double (FP.i2d sv)), .second, .val (.int (4 : Int32)), .unset] [(.ref b27)])
          refine Goes.by (g' := (mkF m 198 #[.val (.int p0), .val (.int p1), .val (.int p2), .val (.int c0_), .val (.int c1_), .val (.int c2_), .val (.int c3_), .val (.int c4_), .val (.ref b11), .val (.int m_), .val (.double (pqI m_)), .second, .val (.double (FP.i2d sv)), .second, .val (.int (4 : Int32)), .unset] [(.ref b27), (.ref b27)])) (fun _ q => XS.dup X.here X.hx rfl (hb hby at_197) rfl rfl q) ?_
          refine Goes.by (g' := (mkF m 200 #[.val (.int p0), .val (.int p1), .val (.int p2), .val (.int c0_), .val (.int c1_), .val (.int c2_), .val (.int c3_), .val (.int c4_), .val (.ref b11), .val (.int m_), .val (.double (pqI m_)), .second, .val (.double (FP.i2d sv)), .second, .val (.int (4 : Int32)), .unset] [(.double (FP.i2d sv)), (.ref b27), (.ref b27)])) (fun _ q => XS.dload X.here X.hx rfl (hb hby at_198) rfl q) ?_
          refine Goes.by (g' := (mkF m 202 #[.val (.int p0), .val (.int p1), .val (.int p2), .val (.int c0_), .val (.int c1_), .val (.int c2_), .val (.int c3_), .val (.int c4_), .val (.ref b11), .val (.int m_), .val (.double (pqI m_)), .second, .val (.double (FP.i2d sv)), .second, .val (.int (4 : Int32)), .unset] [(.ref b11), (.double (FP.i2d sv)), (.ref b27), (.ref b27)])) (fun _ q => XS.aload X.here X.hx rfl (hb hby at_200) rfl rfl q) ?_
          refine Goes.by (g' := (mkF m 203 #[.val (.int p0), .val (.int p1), .val (.int p2), .val (.int c0_), .val (.int c1_), .val (.int c2_), .val (.int c3_), .val (.int c4_), .val (.ref b11), .val (.int m_), .val (.double (pqI m_)), .second, .val (.double (FP.i2d sv)), .second, .val (.int (4 : Int32)), .unset] [(.double (0 : UInt64)), (.ref b11), (.double (FP.i2d sv)), (.ref b27), (.ref b27)])) (fun _ q => XS.dconst0 X.here X.hx rfl (hb hby at_202) rfl q) ?_
          refine Goes.by (g' := (mkF m 204 #[.val (.int p0), .val (.int p1), .val (.int p2), .val (.int c0_), .val (.int c1_), .val (.int c2_), .val (.int c3_), .val (.int c4_), .val (.ref b11), .val (.int m_), .val (.double (pqI m_)), .second, .val (.double (FP.i2d sv)), .second, .val (.int (4 : Int32)), .unset] [(.double (0 : UInt64)), (.double (0 : UInt64)), (.ref b11), (.double (FP.i2d sv)), (.ref b27), (.ref b27)])) (fun _ q => XS.dconst0 X.here X.hx rfl (hb hby at_203) rfl q) ?_
          have X_o := X
          refine X.callN rfl (hw _ (List.mem_of_getElem? (i := 14) rfl)) (hw _ (List.mem_of_getElem? (i := 15) rfl)) (hw _ (List.mem_of_getElem? (i := 13) rfl)) (hw _ (List.mem_of_getElem? (i := 16) rfl)) (by decide) pd_2981041303 (argsL := [(.double (FP.i2d sv)), (.ref b11), (.double (0 : UInt64)), (.double (0 : UInt64))]) rfl (rmI l Z a0 hw n0 h28 X.n0le b27 b11 (FP.i2d sv) ga_b27 E_b27 F_b27_step F_b27_atMost F_b27_mean F_b27_variance) (by rw [hml]; rfl) rfl (by decide) (leB rfl) (hb hby at_204) (by decide) (by decide) (fun T h29 v X hQ => ?_)
          obtain ⟨rfl, K, F_b27_step, F_b27_atMost⟩ := hQ
          have E_b11 := E_b11.keep K
          have A_b11 := PArr.keep A_b11 K (ninS ne_b11_b27 nin0)
          have E_b27 := E_b27.keep K
          show Goes _ _ _ _ _ _ _ _ T (mkF m 207 #[.val (.int p0), .val (.int p1), .val (.int p2), .val (.int c0_), .val (.int c1_), .val (.int c2_), .val (.int c3_), .val (.int c4_), .val (.ref b11), .val (.int m_), .val (.double (pqI m_)), .second, .val (.double (FP.i2d sv)), .second, .val (.int (4 : Int32)), .unset] [(.ref b27)])
          refine Goes.by (g' := (mkF m 209 #[.val (.int p0), .val (.int p1), .val (.int p2), .val (.int c0_), .val (.int c1_), .val (.int c2_), .val (.int c3_), .val (.int c4_), .val (.ref b11), .val (.int m_), .val (.double (pqI m_)), .second, .val (.double (FP.i2d sv)), .second, .val (.int (4 : Int32)), .val (.ref b27)] [])) (fun _ q => XS.astore X.here X.hx rfl (hb hby at_207) rfl rfl (l' := #[.val (.int p0), .val (.int p1), .val (.int p2), .val (.int c0_), .val (.int c1_), .val (.int c2_), .val (.int c3_), .val (.int c4_), .val (.ref b11), .val (.int m_), .val (.double (pqI m_)), .second, .val (.double (FP.i2d sv)), .second, .val (.int (4 : Int32)), .val (.ref b27)]) rfl q) ?_
          refine Goes.by (g' := (mkF m 211 #[.val (.int p0), .val (.int p1), .val (.int p2), .val (.int c0_), .val (.int c1_), .val (.int c2_), .val (.int c3_), .val (.int c4_), .val (.ref b11), .val (.int m_), .val (.double (pqI m_)), .second, .val (.double (FP.i2d sv)), .second, .val (.int (4 : Int32)), .val (.ref b27)] [(.ref b27)])) (fun _ q => XS.aload X.here X.hx rfl (hb hby at_209) rfl rfl q) ?_
          refine Goes.by (g' := (mkF m 213 #[.val (.int p0), .val (.int p1), .val (.int p2), .val (.int c0_), .val (.int c1_), .val (.int c2_), .val (.int c3_), .val (.int c4_), .val (.ref b11), .val (.int m_), .val (.double (pqI m_)), .second, .val (.double (FP.i2d sv)), .second, .val (.int (4 : Int32)), .val (.ref b27)] [(.double (pqI m_)), (.ref b27)])) (fun _ q => XS.dload X.here X.hx rfl (hb hby at_211) rfl q) ?_
          simp only [cmpI_lt] at hB23 hB24 hB25 hB26
          have X_o := X
          refine X.callV E_b27 (hw _ (List.mem_of_getElem? (i := 28) rfl)) (hw _ (List.mem_of_getElem? (i := 29) rfl)) (hw _ (List.mem_of_getElem? (i := 31) rfl)) (hw _ (List.mem_of_getElem? (i := 31) rfl)) rfl (hw _ (List.mem_of_getElem? (i := 30) rfl)) (hw _ (List.mem_of_getElem? (i := 13) rfl)) (hw _ (List.mem_of_getElem? (i := 32) rfl)) (by decide) pd_2087986558 (argsL := [(.double (pqI m_))]) rfl (rmV l Z a0 hw n0 h29 X.n0le b27 b11 m_ sv (rfn r0 r1 r2 r3 r4) (by omega) (by omega) (fun j hj => by
              have q : j = 0 ∨ j = 1 ∨ j = 2 ∨ j = 3 ∨ j = 4 := by omega
              rcases q with rfl | rfl | rfl | rfl | rfl
              · exact ⟨hr0.1, hr0.2.1⟩
              · exact ⟨hr1.1, hr1.2.1⟩
              · exact ⟨hr2.1, hr2.2.1⟩
              · exact ⟨hr3.1, hr3.2.1⟩
              · exact ⟨hr4.1, hr4.2.1⟩) (fun j hj => by
              have q : j = 0 ∨ j = 1 ∨ j = 2 ∨ j = 3 := by omega
              rcases q with rfl | rfl | rfl | rfl
              · show r0.toInt ≤ r1.toInt; omega
              · show r1.toInt ≤ r2.toInt; omega
              · show r2.toInt ≤ r3.toInt; omega
              · show r3.toInt ≤ r4.toInt; omega) F_b27_step F_b27_atMost A_b11) (by rw [hml]; rfl) rfl (by decide) (leB rfl) (hb hby at_213) (by decide) (by decide) (fun T h30 v X hQ => ?_)
          obtain ⟨kk, rfl, hk4, hkl, hkr, hh⟩ := hQ
          rw [hh] at X
          clear hh
          have z0 : (rfn r0 r1 r2 r3 r4 0).toInt = r0.toInt := rfl; have z1 : (rfn r0 r1 r2 r3 r4 1).toInt = r1.toInt := rfl; have z2 : (rfn r0 r1 r2 r3 r4 2).toInt = r2.toInt := rfl; have z3 : (rfn r0 r1 r2 r3 r4 3).toInt = r3.toInt := rfl; have z4 : (rfn r0 r1 r2 r3 r4 4).toInt = r4.toInt := rfl
          obtain rfl : kk = 4 := by
            have q : kk = 0 ∨ kk = 1 ∨ kk = 2 ∨ kk = 3 ∨ kk = 4 := by omega
            rcases q with rfl | rfl | rfl | rfl | rfl
            · exfalso; rcases hkr with t | t <;> omega
            · exfalso; rcases hkr with t | t <;> omega
            · exfalso; rcases hkr with t | t <;> omega
            · exfalso; rcases hkr with t | t <;> omega
            · rfl
          show Goes _ _ _ _ _ _ _ _ T (mkF m 216 #[.val (.int p0), .val (.int p1), .val (.int p2), .val (.int c0_), .val (.int c1_), .val (.int c2_), .val (.int c3_), .val (.int c4_), .val (.ref b11), .val (.int m_), .val (.double (pqI m_)), .second, .val (.double (FP.i2d sv)), .second, .val (.int (4 : Int32)), .val (.ref b27)] [(.double (FP.dmul (FP.i2d (4 : Int32)) (FP.i2d sv)))])
          refine Goes.by (g' := (mkF m 218 #[.val (.int p0), .val (.int p1), .val (.int p2), .val (.int c0_), .val (.int c1_), .val (.int c2_), .val (.int c3_), .val (.int c4_), .val (.ref b11), .val (.int m_), .val (.double (pqI m_)), .second, .val (.double (FP.i2d sv)), .second, .val (.int (4 : Int32)), .val (.ref b27)] [(.int (4 : Int32)), (.double (FP.dmul (FP.i2d (4 : Int32)) (FP.i2d sv)))])) (fun _ q => XS.iload X.here X.hx rfl (hb hby at_216) rfl q) ?_
          refine Goes.by (g' := (mkF m 219 #[.val (.int p0), .val (.int p1), .val (.int p2), .val (.int c0_), .val (.int c1_), .val (.int c2_), .val (.int c3_), .val (.int c4_), .val (.ref b11), .val (.int m_), .val (.double (pqI m_)), .second, .val (.double (FP.i2d sv)), .second, .val (.int (4 : Int32)), .val (.ref b27)] [(.double (FP.i2d (4 : Int32))), (.double (FP.dmul (FP.i2d (4 : Int32)) (FP.i2d sv)))])) (fun _ q => XS.i2dS X.here X.hx rfl (hb hby at_218) rfl rfl q) ?_
          refine Goes.by (g' := (mkF m 221 #[.val (.int p0), .val (.int p1), .val (.int p2), .val (.int c0_), .val (.int c1_), .val (.int c2_), .val (.int c3_), .val (.int c4_), .val (.ref b11), .val (.int m_), .val (.double (pqI m_)), .second, .val (.double (FP.i2d sv)), .second, .val (.int (4 : Int32)), .val (.ref b27)] [(.double (FP.i2d sv)), (.double (FP.i2d (4 : Int32))), (.double (FP.dmul (FP.i2d (4 : Int32)) (FP.i2d sv)))])) (fun _ q => XS.dload X.here X.hx rfl (hb hby at_219) rfl q) ?_
          refine Goes.by (g' := (mkF m 222 #[.val (.int p0), .val (.int p1), .val (.int p2), .val (.int c0_), .val (.int c1_), .val (.int c2_), .val (.int c3_), .val (.int c4_), .val (.ref b11), .val (.int m_), .val (.double (pqI m_)), .second, .val (.double (FP.i2d sv)), .second, .val (.int (4 : Int32)), .val (.ref b27)] [(.double (FP.dmul (FP.i2d (4 : Int32)) (FP.i2d sv))), (.double (FP.dmul (FP.i2d (4 : Int32)) (FP.i2d sv)))])) (fun _ q => XS.dmulS X.here X.hx rfl (hb hby at_221) rfl (mulNN _ _) rfl q) ?_
          refine Goes.by (g' := (mkF m 223 #[.val (.int p0), .val (.int p1), .val (.int p2), .val (.int c0_), .val (.int c1_), .val (.int c2_), .val (.int c3_), .val (.int c4_), .val (.ref b11), .val (.int m_), .val (.double (pqI m_)), .second, .val (.double (FP.i2d sv)), .second, .val (.int (4 : Int32)), .val (.ref b27)] [(.int (0 : Int32))])) (fun _ q => XS.dcmpS X.here X.hx rfl (hb hby at_222) rfl (dcmpV_self (mulNN _ _) _) q) ?_
          refine Goes.by (g' := (mkF m 226 #[.val (.int p0), .val (.int p1), .val (.int p2), .val (.int c0_), .val (.int c1_), .val (.int c2_), .val (.int c3_), .val (.int c4_), .val (.ref b11), .val (.int m_), .val (.double (pqI m_)), .second, .val (.double (FP.i2d sv)), .second, .val (.int (4 : Int32)), .val (.ref b27)] [])) (fun _ q => XS.ifNo X.here X.hx rfl (hb hby at_223) rfl ((if0 _ _).trans (teq (show (0 : Int32) = (0 : Int32) from (by decide))).2) q) ?_
          refine Goes.by (g' := (mkF m 227 #[.val (.int p0), .val (.int p1), .val (.int p2), .val (.int c0_), .val (.int c1_), .val (.int c2_), .val (.int c3_), .val (.int c4_), .val (.ref b11), .val (.int m_), .val (.double (pqI m_)), .second, .val (.double (FP.i2d sv)), .second, .val (.int (4 : Int32)), .val (.ref b27)] [(.int (1 : Int32))])) (fun _ q => XS.iconst X.here X.hx rfl (hb hby at_226) q) ?_
          refine Goes.by (g' := (mkF m 231 #[.val (.int p0), .val (.int p1), .val (.int p2), .val (.int c0_), .val (.int c1_), .val (.int c2_), .val (.int c3_), .val (.int c4_), .val (.ref b11), .val (.int m_), .val (.double (pqI m_)), .second, .val (.double (FP.i2d sv)), .second, .val (.int (4 : Int32)), .val (.ref b27)] [(.int (1 : Int32))])) (fun _ q => XS.goto X.here X.hx rfl (pc0 := 227) (pc' := 231) rfl (hb hby at_227) (by decide) (by decide) q) ?_
          exact X.retZ hret (hb hby at_231) (by decide) (by decide) rfl
        · skip
          refine Goes.by (g' := (mkF m 185 #[.val (.int p0), .val (.int p1), .val (.int p2), .val (.int c0_), .val (.int c1_), .val (.int c2_), .val (.int c3_), .val (.int c4_), .val (.ref b11), .val (.int m_), .val (.double (pqI m_)), .second, .val (.double (FP.i2d sv)), .second, .unset, .unset] [])) (fun _ q => XS.ifNo X.here X.hx rfl (hb hby at_182) rfl ((if0 _ _).trans (flt hB26).1) q) ?_
          refine Goes.by (g' := (mkF m 186 #[.val (.int p0), .val (.int p1), .val (.int p2), .val (.int c0_), .val (.int c1_), .val (.int c2_), .val (.int c3_), .val (.int c4_), .val (.ref b11), .val (.int m_), .val (.double (pqI m_)), .second, .val (.double (FP.i2d sv)), .second, .unset, .unset] [(.int (3 : Int32))])) (fun _ q => XS.iconst X.here X.hx rfl (hb hby at_185) q) ?_
          refine Goes.by (g' := (mkF m 188 #[.val (.int p0), .val (.int p1), .val (.int p2), .val (.int c0_), .val (.int c1_), .val (.int c2_), .val (.int c3_), .val (.int c4_), .val (.ref b11), .val (.int m_), .val (.double (pqI m_)), .second, .val (.double (FP.i2d sv)), .second, .val (.int (3 : Int32)), .unset] [])) (fun _ q => XS.istore X.here X.hx rfl (hb hby at_186) rfl (l' := #[.val (.int p0), .val (.int p1), .val (.int p2), .val (.int c0_), .val (.int c1_), .val (.int c2_), .val (.int c3_), .val (.int c4_), .val (.ref b11), .val (.int m_), .val (.double (pqI m_)), .second, .val (.double (FP.i2d sv)), .second, .val (.int (3 : Int32)), .unset]) rfl q) ?_
          refine Goes.by (g' := (mkF m 194 #[.val (.int p0), .val (.int p1), .val (.int p2), .val (.int c0_), .val (.int c1_), .val (.int c2_), .val (.int c3_), .val (.int c4_), .val (.ref b11), .val (.int m_), .val (.double (pqI m_)), .second, .val (.double (FP.i2d sv)), .second, .val (.int (3 : Int32)), .unset] [])) (fun _ q => XS.goto X.here X.hx rfl (pc0 := 188) (pc' := 194) rfl (hb hby at_188) (by decide) (by decide) q) ?_
          refine X.newO (hw _ (List.mem_of_getElem? (i := 11) rfl)) (hw _ (List.mem_of_getElem? (i := 12) rfl)) (hw _ (List.mem_of_getElem? (i := 13) rfl)) (hb hby at_194) (by decide) (by decide) (fun T h32 b31 X g_b31 ga_b31 E E_b31 D_b31 => ?_)
          have ne_b11_b31 : b11 ≠ b31 := by rw [g_b31]; exact Nat.ne_of_lt E_b11.lt
          have E_b11 := E_b11.ext E
          have A_b11 := PArr.ext A_b11 E
          have F_b31_step : Fld Z h32 b31 "com/example/riskweave/riskweave/bound/PenaltyDistribution" "step" "D" (.double (0 : UInt64)) := D_b31 (Or.inr (hw _ (List.mem_of_getElem? (i := 21) rfl))) (ty := .double) (by decide)
          have F_b31_atMost : Fld Z h32 b31 "com/example/riskweave/riskweave/bound/PenaltyDistribution" "atMost" "[D" .null := D_b31 (Or.inr (hw _ (List.mem_of_getElem? (i := 23) rfl))) (ty := (.array .double)) (by decide)
          have F_b31_mean : Fld Z h32 b31 "com/example/riskweave/riskweave/bound/PenaltyDistribution" "mean" "D" (.double (0 : UInt64)) := D_b31 (Or.inr (hw _ (List.mem_of_getElem? (i := 25) rfl))) (ty := .double) (by decide)
          have F_b31_variance : Fld Z h32 b31 "com/example/riskweave/riskweave/bound/PenaltyDistribution" "variance" "D" (.double (0 : UInt64)) := D_b31 (Or.inr (hw _ (List.mem_of_getElem? (i := 27) rfl))) (ty := .double) (by decide)
          show Goes _ _ _ _ _ _ _ _ T (mkF m 197 #[.val (.int p0), .val (.int p1), .val (.int p2), .val (.int c0_), .val (.int c1_), .val (.int c2_), .val (.int c3_), .val (.int c4_), .val (.ref b11), .val (.int m_), .val (.double (pqI m_)), .second, .val (.double (FP.i2d sv)), .second, .val (.int (3 : Int32)), .unset] [(.ref b31)])
          refine Goes.by (g' := (mkF m 198 #[.val (.int p0), .val (.int p1), .val (.int p2), .val (.int c0_), .val (.int c1_), .val (.int c2_), .val (.int c3_), .val (.int c4_), .val (.ref b11), .val (.int m_), .val (.double (pqI m_)), .second, .val (.double (FP.i2d sv)), .second, .val (.int (3 : Int32)), .unset] [(.ref b31), (.ref b31)])) (fun _ q => XS.dup X.here X.hx rfl (hb hby at_197) rfl rfl q) ?_
          refine Goes.by (g' := (mkF m 200 #[.val (.int p0), .val (.int p1), .val (.int p2), .val (.int c0_), .val (.int c1_), .val (.int c2_), .val (.int c3_), .val (.int c4_), .val (.ref b11), .val (.int m_), .val (.double (pqI m_)), .second, .val (.double (FP.i2d sv)), .second, .val (.int (3 : Int32)), .unset] [(.double (FP.i2d sv)), (.ref b31), (.ref b31)])) (fun _ q => XS.dload X.here X.hx rfl (hb hby at_198) rfl q) ?_
          refine Goes.by (g' := (mkF m 202 #[.val (.int p0), .val (.int p1), .val (.int p2), .val (.int c0_), .val (.int c1_), .val (.int c2_), .val (.int c3_), .val (.int c4_), .val (.ref b11), .val (.int m_), .val (.double (pqI m_)), .second, .val (.double (FP.i2d sv)), .second, .val (.int (3 : Int32)), .unset] [(.ref b11), (.double (FP.i2d sv)), (.ref b31), (.ref b31)])) (fun _ q => XS.aload X.here X.hx rfl (hb hby at_200) rfl rfl q) ?_
          refine Goes.by (g' := (mkF m 203 #[.val (.int p0), .val (.int p1), .val (.int p2), .val (.int c0_), .val (.int c1_), .val (.int c2_), .val (.int c3_), .val (.int c4_), .val (.ref b11), .val (.int m_), .val (.double (pqI m_)), .second, .val (.double (FP.i2d sv)), .second, .val (.int (3 : Int32)), .unset] [(.double (0 : UInt64)), (.ref b11), (.double (FP.i2d sv)), (.ref b31), (.ref b31)])) (fun _ q => XS.dconst0 X.here X.hx rfl (hb hby at_202) rfl q) ?_
          refine Goes.by (g' := (mkF m 204 #[.val (.int p0), .val (.int p1), .val (.int p2), .val (.int c0_), .val (.int c1_), .val (.int c2_), .val (.int c3_), .val (.int c4_), .val (.ref b11), .val (.int m_), .val (.double (pqI m_)), .second, .val (.double (FP.i2d sv)), .second, .val (.int (3 : Int32)), .unset] [(.double (0 : UInt64)), (.double (0 : UInt64)), (.ref b11), (.double (FP.i2d sv)), (.ref b31), (.ref b31)])) (fun _ q => XS.dconst0 X.here X.hx rfl (hb hby at_203) rfl q) ?_
          have X_o := X
          refine X.callN rfl (hw _ (List.mem_of_getElem? (i := 14) rfl)) (hw _ (List.mem_of_getElem? (i := 15) rfl)) (hw _ (List.mem_of_getElem? (i := 13) rfl)) (hw _ (List.mem_of_getElem? (i := 16) rfl)) (by decide) pd_2981041303 (argsL := [(.double (FP.i2d sv)), (.ref b11), (.double (0 : UInt64)), (.double (0 : UInt64))]) rfl (rmI l Z a0 hw n0 h32 X.n0le b31 b11 (FP.i2d sv) ga_b31 E_b31 F_b31_step F_b31_atMost F_b31_mean F_b31_variance) (by rw [hml]; rfl) rfl (by decide) (leB rfl) (hb hby at_204) (by decide) (by decide) (fun T h33 v X hQ => ?_)
          obtain ⟨rfl, K, F_b31_step, F_b31_atMost⟩ := hQ
          have E_b11 := E_b11.keep K
          have A_b11 := PArr.keep A_b11 K (ninS ne_b11_b31 nin0)
          have E_b31 := E_b31.keep K
          show Goes _ _ _ _ _ _ _ _ T (mkF m 207 #[.val (.int p0), .val (.int p1), .val (.int p2), .val (.int c0_), .val (.int c1_), .val (.int c2_), .val (.int c3_), .val (.int c4_), .val (.ref b11), .val (.int m_), .val (.double (pqI m_)), .second, .val (.double (FP.i2d sv)), .second, .val (.int (3 : Int32)), .unset] [(.ref b31)])
          refine Goes.by (g' := (mkF m 209 #[.val (.int p0), .val (.int p1), .val (.int p2), .val (.int c0_), .val (.int c1_), .val (.int c2_), .val (.int c3_), .val (.int c4_), .val (.ref b11), .val (.int m_), .val (.double (pqI m_)), .second, .val (.double (FP.i2d sv)), .second, .val (.int (3 : Int32)), .val (.ref b31)] [])) (fun _ q => XS.astore X.here X.hx rfl (hb hby at_207) rfl rfl (l' := #[.val (.int p0), .val (.int p1), .val (.int p2), .val (.int c0_), .val (.int c1_), .val (.int c2_), .val (.int c3_), .val (.int c4_), .val (.ref b11), .val (.int m_), .val (.double (pqI m_)), .second, .val (.double (FP.i2d sv)), .second, .val (.int (3 : Int32)), .val (.ref b31)]) rfl q) ?_
          refine Goes.by (g' := (mkF m 211 #[.val (.int p0), .val (.int p1), .val (.int p2), .val (.int c0_), .val (.int c1_), .val (.int c2_), .val (.int c3_), .val (.int c4_), .val (.ref b11), .val (.int m_), .val (.double (pqI m_)), .second, .val (.double (FP.i2d sv)), .second, .val (.int (3 : Int32)), .val (.ref b31)] [(.ref b31)])) (fun _ q => XS.aload X.here X.hx rfl (hb hby at_209) rfl rfl q) ?_
          refine Goes.by (g' := (mkF m 213 #[.val (.int p0), .val (.int p1), .val (.int p2), .val (.int c0_), .val (.int c1_), .val (.int c2_), .val (.int c3_), .val (.int c4_), .val (.ref b11), .val (.int m_), .val (.double (pqI m_)), .second, .val (.double (FP.i2d sv)), .second, .val (.int (3 : Int32)), .val (.ref b31)] [(.double (pqI m_)), (.ref b31)])) (fun _ q => XS.dload X.here X.hx rfl (hb hby at_211) rfl q) ?_
          simp only [cmpI_lt] at hB23 hB24 hB25 hB26
          have X_o := X
          refine X.callV E_b31 (hw _ (List.mem_of_getElem? (i := 28) rfl)) (hw _ (List.mem_of_getElem? (i := 29) rfl)) (hw _ (List.mem_of_getElem? (i := 31) rfl)) (hw _ (List.mem_of_getElem? (i := 31) rfl)) rfl (hw _ (List.mem_of_getElem? (i := 30) rfl)) (hw _ (List.mem_of_getElem? (i := 13) rfl)) (hw _ (List.mem_of_getElem? (i := 32) rfl)) (by decide) pd_2087986558 (argsL := [(.double (pqI m_))]) rfl (rmV l Z a0 hw n0 h33 X.n0le b31 b11 m_ sv (rfn r0 r1 r2 r3 r4) (by omega) (by omega) (fun j hj => by
              have q : j = 0 ∨ j = 1 ∨ j = 2 ∨ j = 3 ∨ j = 4 := by omega
              rcases q with rfl | rfl | rfl | rfl | rfl
              · exact ⟨hr0.1, hr0.2.1⟩
              · exact ⟨hr1.1, hr1.2.1⟩
              · exact ⟨hr2.1, hr2.2.1⟩
              · exact ⟨hr3.1, hr3.2.1⟩
              · exact ⟨hr4.1, hr4.2.1⟩) (fun j hj => by
              have q : j = 0 ∨ j = 1 ∨ j = 2 ∨ j = 3 := by omega
              rcases q with rfl | rfl | rfl | rfl
              · show r0.toInt ≤ r1.toInt; omega
              · show r1.toInt ≤ r2.toInt; omega
              · show r2.toInt ≤ r3.toInt; omega
              · show r3.toInt ≤ r4.toInt; omega) F_b31_step F_b31_atMost A_b11) (by rw [hml]; rfl) rfl (by decide) (leB rfl) (hb hby at_213) (by decide) (by decide) (fun T h34 v X hQ => ?_)
          obtain ⟨kk, rfl, hk4, hkl, hkr, hh⟩ := hQ
          rw [hh] at X
          clear hh
          have z0 : (rfn r0 r1 r2 r3 r4 0).toInt = r0.toInt := rfl; have z1 : (rfn r0 r1 r2 r3 r4 1).toInt = r1.toInt := rfl; have z2 : (rfn r0 r1 r2 r3 r4 2).toInt = r2.toInt := rfl; have z3 : (rfn r0 r1 r2 r3 r4 3).toInt = r3.toInt := rfl; have z4 : (rfn r0 r1 r2 r3 r4 4).toInt = r4.toInt := rfl
          obtain rfl : kk = 3 := by
            have q : kk = 0 ∨ kk = 1 ∨ kk = 2 ∨ kk = 3 ∨ kk = 4 := by omega
            rcases q with rfl | rfl | rfl | rfl | rfl
            · exfalso; rcases hkr with t | t <;> omega
            · exfalso; rcases hkr with t | t <;> omega
            · exfalso; rcases hkr with t | t <;> omega
            · rfl
            · exfalso; have t := hkl 3 (by omega); omega
          show Goes _ _ _ _ _ _ _ _ T (mkF m 216 #[.val (.int p0), .val (.int p1), .val (.int p2), .val (.int c0_), .val (.int c1_), .val (.int c2_), .val (.int c3_), .val (.int c4_), .val (.ref b11), .val (.int m_), .val (.double (pqI m_)), .second, .val (.double (FP.i2d sv)), .second, .val (.int (3 : Int32)), .val (.ref b31)] [(.double (FP.dmul (FP.i2d (3 : Int32)) (FP.i2d sv)))])
          refine Goes.by (g' := (mkF m 218 #[.val (.int p0), .val (.int p1), .val (.int p2), .val (.int c0_), .val (.int c1_), .val (.int c2_), .val (.int c3_), .val (.int c4_), .val (.ref b11), .val (.int m_), .val (.double (pqI m_)), .second, .val (.double (FP.i2d sv)), .second, .val (.int (3 : Int32)), .val (.ref b31)] [(.int (3 : Int32)), (.double (FP.dmul (FP.i2d (3 : Int32)) (FP.i2d sv)))])) (fun _ q => XS.iload X.here X.hx rfl (hb hby at_216) rfl q) ?_
          refine Goes.by (g' := (mkF m 219 #[.val (.int p0), .val (.int p1), .val (.int p2), .val (.int c0_), .val (.int c1_), .val (.int c2_), .val (.int c3_), .val (.int c4_), .val (.ref b11), .val (.int m_), .val (.double (pqI m_)), .second, .val (.double (FP.i2d sv)), .second, .val (.int (3 : Int32)), .val (.ref b31)] [(.double (FP.i2d (3 : Int32))), (.double (FP.dmul (FP.i2d (3 : Int32)) (FP.i2d sv)))])) (fun _ q => XS.i2dS X.here X.hx rfl (hb hby at_218) rfl rfl q) ?_
          refine Goes.by (g' := (mkF m 221 #[.val (.int p0), .val (.int p1), .val (.int p2), .val (.int c0_), .val (.int c1_), .val (.int c2_), .val (.int c3_), .val (.int c4_), .val (.ref b11), .val (.int m_), .val (.double (pqI m_)), .second, .val (.double (FP.i2d sv)), .second, .val (.int (3 : Int32)), .val (.ref b31)] [(.double (FP.i2d sv)), (.double (FP.i2d (3 : Int32))), (.double (FP.dmul (FP.i2d (3 : Int32)) (FP.i2d sv)))])) (fun _ q => XS.dload X.here X.hx rfl (hb hby at_219) rfl q) ?_
          refine Goes.by (g' := (mkF m 222 #[.val (.int p0), .val (.int p1), .val (.int p2), .val (.int c0_), .val (.int c1_), .val (.int c2_), .val (.int c3_), .val (.int c4_), .val (.ref b11), .val (.int m_), .val (.double (pqI m_)), .second, .val (.double (FP.i2d sv)), .second, .val (.int (3 : Int32)), .val (.ref b31)] [(.double (FP.dmul (FP.i2d (3 : Int32)) (FP.i2d sv))), (.double (FP.dmul (FP.i2d (3 : Int32)) (FP.i2d sv)))])) (fun _ q => XS.dmulS X.here X.hx rfl (hb hby at_221) rfl (mulNN _ _) rfl q) ?_
          refine Goes.by (g' := (mkF m 223 #[.val (.int p0), .val (.int p1), .val (.int p2), .val (.int c0_), .val (.int c1_), .val (.int c2_), .val (.int c3_), .val (.int c4_), .val (.ref b11), .val (.int m_), .val (.double (pqI m_)), .second, .val (.double (FP.i2d sv)), .second, .val (.int (3 : Int32)), .val (.ref b31)] [(.int (0 : Int32))])) (fun _ q => XS.dcmpS X.here X.hx rfl (hb hby at_222) rfl (dcmpV_self (mulNN _ _) _) q) ?_
          refine Goes.by (g' := (mkF m 226 #[.val (.int p0), .val (.int p1), .val (.int p2), .val (.int c0_), .val (.int c1_), .val (.int c2_), .val (.int c3_), .val (.int c4_), .val (.ref b11), .val (.int m_), .val (.double (pqI m_)), .second, .val (.double (FP.i2d sv)), .second, .val (.int (3 : Int32)), .val (.ref b31)] [])) (fun _ q => XS.ifNo X.here X.hx rfl (hb hby at_223) rfl ((if0 _ _).trans (teq (show (0 : Int32) = (0 : Int32) from (by decide))).2) q) ?_
          refine Goes.by (g' := (mkF m 227 #[.val (.int p0), .val (.int p1), .val (.int p2), .val (.int c0_), .val (.int c1_), .val (.int c2_), .val (.int c3_), .val (.int c4_), .val (.ref b11), .val (.int m_), .val (.double (pqI m_)), .second, .val (.double (FP.i2d sv)), .second, .val (.int (3 : Int32)), .val (.ref b31)] [(.int (1 : Int32))])) (fun _ q => XS.iconst X.here X.hx rfl (hb hby at_226) q) ?_
          refine Goes.by (g' := (mkF m 231 #[.val (.int p0), .val (.int p1), .val (.int p2), .val (.int c0_), .val (.int c1_), .val (.int c2_), .val (.int c3_), .val (.int c4_), .val (.ref b11), .val (.int m_), .val (.double (pqI m_)), .second, .val (.double (FP.i2d sv)), .second, .val (.int (3 : Int32)), .val (.ref b31)] [(.int (1 : Int32))])) (fun _ q => XS.goto X.here X.hx rfl (pc0 := 227) (pc' := 231) rfl (hb hby at_227) (by decide) (by decide) q) ?_
          exact X.retZ hret (hb hby at_231) (by decide) (by decide) rfl
      · skip
        refine Goes.by (g' := (mkF m 169 #[.val (.int p0), .val (.int p1), .val (.int p2), .val (.int c0_), .val (.int c1_), .val (.int c2_), .val (.int c3_), .val (.int c4_), .val (.ref b11), .val (.int m_), .val (.double (pqI m_)), .second, .val (.double (FP.i2d sv)), .second, .unset, .unset] [])) (fun _ q => XS.ifNo X.here X.hx rfl (hb hby at_166) rfl ((if0 _ _).trans (flt hB25).1) q) ?_
        refine Goes.by (g' := (mkF m 170 #[.val (.int p0), .val (.int p1), .val (.int p2), .val (.int c0_), .val (.int c1_), .val (.int c2_), .val (.int c3_), .val (.int c4_), .val (.ref b11), .val (.int m_), .val (.double (pqI m_)), .second, .val (.double (FP.i2d sv)), .second, .unset, .unset] [(.int (2 : Int32))])) (fun _ q => XS.iconst X.here X.hx rfl (hb hby at_169) q) ?_
        refine Goes.by (g' := (mkF m 172 #[.val (.int p0), .val (.int p1), .val (.int p2), .val (.int c0_), .val (.int c1_), .val (.int c2_), .val (.int c3_), .val (.int c4_), .val (.ref b11), .val (.int m_), .val (.double (pqI m_)), .second, .val (.double (FP.i2d sv)), .second, .val (.int (2 : Int32)), .unset] [])) (fun _ q => XS.istore X.here X.hx rfl (hb hby at_170) rfl (l' := #[.val (.int p0), .val (.int p1), .val (.int p2), .val (.int c0_), .val (.int c1_), .val (.int c2_), .val (.int c3_), .val (.int c4_), .val (.ref b11), .val (.int m_), .val (.double (pqI m_)), .second, .val (.double (FP.i2d sv)), .second, .val (.int (2 : Int32)), .unset]) rfl q) ?_
        refine Goes.by (g' := (mkF m 194 #[.val (.int p0), .val (.int p1), .val (.int p2), .val (.int c0_), .val (.int c1_), .val (.int c2_), .val (.int c3_), .val (.int c4_), .val (.ref b11), .val (.int m_), .val (.double (pqI m_)), .second, .val (.double (FP.i2d sv)), .second, .val (.int (2 : Int32)), .unset] [])) (fun _ q => XS.goto X.here X.hx rfl (pc0 := 172) (pc' := 194) rfl (hb hby at_172) (by decide) (by decide) q) ?_
        refine X.newO (hw _ (List.mem_of_getElem? (i := 11) rfl)) (hw _ (List.mem_of_getElem? (i := 12) rfl)) (hw _ (List.mem_of_getElem? (i := 13) rfl)) (hb hby at_194) (by decide) (by decide) (fun T h36 b35 X g_b35 ga_b35 E E_b35 D_b35 => ?_)
        have ne_b11_b35 : b11 ≠ b35 := by rw [g_b35]; exact Nat.ne_of_lt E_b11.lt
        have E_b11 := E_b11.ext E
        have A_b11 := PArr.ext A_b11 E
        have F_b35_step : Fld Z h36 b35 "com/example/riskweave/riskweave/bound/PenaltyDistribution" "step" "D" (.double (0 : UInt64)) := D_b35 (Or.inr (hw _ (List.mem_of_getElem? (i := 21) rfl))) (ty := .double) (by decide)
        have F_b35_atMost : Fld Z h36 b35 "com/example/riskweave/riskweave/bound/PenaltyDistribution" "atMost" "[D" .null := D_b35 (Or.inr (hw _ (List.mem_of_getElem? (i := 23) rfl))) (ty := (.array .double)) (by decide)
        have F_b35_mean : Fld Z h36 b35 "com/example/riskweave/riskweave/bound/PenaltyDistribution" "mean" "D" (.double (0 : UInt64)) := D_b35 (Or.inr (hw _ (List.mem_of_getElem? (i := 25) rfl))) (ty := .double) (by decide)
        have F_b35_variance : Fld Z h36 b35 "com/example/riskweave/riskweave/bound/PenaltyDistribution" "variance" "D" (.double (0 : UInt64)) := D_b35 (Or.inr (hw _ (List.mem_of_getElem? (i := 27) rfl))) (ty := .double) (by decide)
        show Goes _ _ _ _ _ _ _ _ T (mkF m 197 #[.val (.int p0), .val (.int p1), .val (.int p2), .val (.int c0_), .val (.int c1_), .val (.int c2_), .val (.int c3_), .val (.int c4_), .val (.ref b11), .val (.int m_), .val (.double (pqI m_)), .second, .val (.double (FP.i2d sv)), .second, .val (.int (2 : Int32)), .unset] [(.ref b35)])
        refine Goes.by (g' := (mkF m 198 #[.val (.int p0), .val (.int p1), .val (.int p2), .val (.int c0_), .val (.int c1_), .val (.int c2_), .val (.int c3_), .val (.int c4_), .val (.ref b11), .val (.int m_), .val (.double (pqI m_)), .second, .val (.double (FP.i2d sv)), .second, .val (.int (2 : Int32)), .unset] [(.ref b35), (.ref b35)])) (fun _ q => XS.dup X.here X.hx rfl (hb hby at_197) rfl rfl q) ?_
        refine Goes.by (g' := (mkF m 200 #[.val (.int p0), .val (.int p1), .val (.int p2), .val (.int c0_), .val (.int c1_), .val (.int c2_), .val (.int c3_), .val (.int c4_), .val (.ref b11), .val (.int m_), .val (.double (pqI m_)), .second, .val (.double (FP.i2d sv)), .second, .val (.int (2 : Int32)), .unset] [(.double (FP.i2d sv)), (.ref b35), (.ref b35)])) (fun _ q => XS.dload X.here X.hx rfl (hb hby at_198) rfl q) ?_
        refine Goes.by (g' := (mkF m 202 #[.val (.int p0), .val (.int p1), .val (.int p2), .val (.int c0_), .val (.int c1_), .val (.int c2_), .val (.int c3_), .val (.int c4_), .val (.ref b11), .val (.int m_), .val (.double (pqI m_)), .second, .val (.double (FP.i2d sv)), .second, .val (.int (2 : Int32)), .unset] [(.ref b11), (.double (FP.i2d sv)), (.ref b35), (.ref b35)])) (fun _ q => XS.aload X.here X.hx rfl (hb hby at_200) rfl rfl q) ?_
        refine Goes.by (g' := (mkF m 203 #[.val (.int p0), .val (.int p1), .val (.int p2), .val (.int c0_), .val (.int c1_), .val (.int c2_), .val (.int c3_), .val (.int c4_), .val (.ref b11), .val (.int m_), .val (.double (pqI m_)), .second, .val (.double (FP.i2d sv)), .second, .val (.int (2 : Int32)), .unset] [(.double (0 : UInt64)), (.ref b11), (.double (FP.i2d sv)), (.ref b35), (.ref b35)])) (fun _ q => XS.dconst0 X.here X.hx rfl (hb hby at_202) rfl q) ?_
        refine Goes.by (g' := (mkF m 204 #[.val (.int p0), .val (.int p1), .val (.int p2), .val (.int c0_), .val (.int c1_), .val (.int c2_), .val (.int c3_), .val (.int c4_), .val (.ref b11), .val (.int m_), .val (.double (pqI m_)), .second, .val (.double (FP.i2d sv)), .second, .val (.int (2 : Int32)), .unset] [(.double (0 : UInt64)), (.double (0 : UInt64)), (.ref b11), (.double (FP.i2d sv)), (.ref b35), (.ref b35)])) (fun _ q => XS.dconst0 X.here X.hx rfl (hb hby at_203) rfl q) ?_
        have X_o := X
        refine X.callN rfl (hw _ (List.mem_of_getElem? (i := 14) rfl)) (hw _ (List.mem_of_getElem? (i := 15) rfl)) (hw _ (List.mem_of_getElem? (i := 13) rfl)) (hw _ (List.mem_of_getElem? (i := 16) rfl)) (by decide) pd_2981041303 (argsL := [(.double (FP.i2d sv)), (.ref b11), (.double (0 : UInt64)), (.double (0 : UInt64))]) rfl (rmI l Z a0 hw n0 h36 X.n0le b35 b11 (FP.i2d sv) ga_b35 E_b35 F_b35_step F_b35_atMost F_b35_mean F_b35_variance) (by rw [hml]; rfl) rfl (by decide) (leB rfl) (hb hby at_204) (by decide) (by decide) (fun T h37 v X hQ => ?_)
        obtain ⟨rfl, K, F_b35_step, F_b35_atMost⟩ := hQ
        have E_b11 := E_b11.keep K
        have A_b11 := PArr.keep A_b11 K (ninS ne_b11_b35 nin0)
        have E_b35 := E_b35.keep K
        show Goes _ _ _ _ _ _ _ _ T (mkF m 207 #[.val (.int p0), .val (.int p1), .val (.int p2), .val (.int c0_), .val (.int c1_), .val (.int c2_), .val (.int c3_), .val (.int c4_), .val (.ref b11), .val (.int m_), .val (.double (pqI m_)), .second, .val (.double (FP.i2d sv)), .second, .val (.int (2 : Int32)), .unset] [(.ref b35)])
        refine Goes.by (g' := (mkF m 209 #[.val (.int p0), .val (.int p1), .val (.int p2), .val (.int c0_), .val (.int c1_), .val (.int c2_), .val (.int c3_), .val (.int c4_), .val (.ref b11), .val (.int m_), .val (.double (pqI m_)), .second, .val (.double (FP.i2d sv)), .second, .val (.int (2 : Int32)), .val (.ref b35)] [])) (fun _ q => XS.astore X.here X.hx rfl (hb hby at_207) rfl rfl (l' := #[.val (.int p0), .val (.int p1), .val (.int p2), .val (.int c0_), .val (.int c1_), .val (.int c2_), .val (.int c3_), .val (.int c4_), .val (.ref b11), .val (.int m_), .val (.double (pqI m_)), .second, .val (.double (FP.i2d sv)), .second, .val (.int (2 : Int32)), .val (.ref b35)]) rfl q) ?_
        refine Goes.by (g' := (mkF m 211 #[.val (.int p0), .val (.int p1), .val (.int p2), .val (.int c0_), .val (.int c1_), .val (.int c2_), .val (.int c3_), .val (.int c4_), .val (.ref b11), .val (.int m_), .val (.double (pqI m_)), .second, .val (.double (FP.i2d sv)), .second, .val (.int (2 : Int32)), .val (.ref b35)] [(.ref b35)])) (fun _ q => XS.aload X.here X.hx rfl (hb hby at_209) rfl rfl q) ?_
        refine Goes.by (g' := (mkF m 213 #[.val (.int p0), .val (.int p1), .val (.int p2), .val (.int c0_), .val (.int c1_), .val (.int c2_), .val (.int c3_), .val (.int c4_), .val (.ref b11), .val (.int m_), .val (.double (pqI m_)), .second, .val (.double (FP.i2d sv)), .second, .val (.int (2 : Int32)), .val (.ref b35)] [(.double (pqI m_)), (.ref b35)])) (fun _ q => XS.dload X.here X.hx rfl (hb hby at_211) rfl q) ?_
        simp only [cmpI_lt] at hB23 hB24 hB25
        have X_o := X
        refine X.callV E_b35 (hw _ (List.mem_of_getElem? (i := 28) rfl)) (hw _ (List.mem_of_getElem? (i := 29) rfl)) (hw _ (List.mem_of_getElem? (i := 31) rfl)) (hw _ (List.mem_of_getElem? (i := 31) rfl)) rfl (hw _ (List.mem_of_getElem? (i := 30) rfl)) (hw _ (List.mem_of_getElem? (i := 13) rfl)) (hw _ (List.mem_of_getElem? (i := 32) rfl)) (by decide) pd_2087986558 (argsL := [(.double (pqI m_))]) rfl (rmV l Z a0 hw n0 h37 X.n0le b35 b11 m_ sv (rfn r0 r1 r2 r3 r4) (by omega) (by omega) (fun j hj => by
            have q : j = 0 ∨ j = 1 ∨ j = 2 ∨ j = 3 ∨ j = 4 := by omega
            rcases q with rfl | rfl | rfl | rfl | rfl
            · exact ⟨hr0.1, hr0.2.1⟩
            · exact ⟨hr1.1, hr1.2.1⟩
            · exact ⟨hr2.1, hr2.2.1⟩
            · exact ⟨hr3.1, hr3.2.1⟩
            · exact ⟨hr4.1, hr4.2.1⟩) (fun j hj => by
            have q : j = 0 ∨ j = 1 ∨ j = 2 ∨ j = 3 := by omega
            rcases q with rfl | rfl | rfl | rfl
            · show r0.toInt ≤ r1.toInt; omega
            · show r1.toInt ≤ r2.toInt; omega
            · show r2.toInt ≤ r3.toInt; omega
            · show r3.toInt ≤ r4.toInt; omega) F_b35_step F_b35_atMost A_b11) (by rw [hml]; rfl) rfl (by decide) (leB rfl) (hb hby at_213) (by decide) (by decide) (fun T h38 v X hQ => ?_)
        obtain ⟨kk, rfl, hk4, hkl, hkr, hh⟩ := hQ
        rw [hh] at X
        clear hh
        have z0 : (rfn r0 r1 r2 r3 r4 0).toInt = r0.toInt := rfl; have z1 : (rfn r0 r1 r2 r3 r4 1).toInt = r1.toInt := rfl; have z2 : (rfn r0 r1 r2 r3 r4 2).toInt = r2.toInt := rfl; have z3 : (rfn r0 r1 r2 r3 r4 3).toInt = r3.toInt := rfl; have z4 : (rfn r0 r1 r2 r3 r4 4).toInt = r4.toInt := rfl
        obtain rfl : kk = 2 := by
          have q : kk = 0 ∨ kk = 1 ∨ kk = 2 ∨ kk = 3 ∨ kk = 4 := by omega
          rcases q with rfl | rfl | rfl | rfl | rfl
          · exfalso; rcases hkr with t | t <;> omega
          · exfalso; rcases hkr with t | t <;> omega
          · rfl
          · exfalso; have t := hkl 2 (by omega); omega
          · exfalso; have t := hkl 2 (by omega); omega
        show Goes _ _ _ _ _ _ _ _ T (mkF m 216 #[.val (.int p0), .val (.int p1), .val (.int p2), .val (.int c0_), .val (.int c1_), .val (.int c2_), .val (.int c3_), .val (.int c4_), .val (.ref b11), .val (.int m_), .val (.double (pqI m_)), .second, .val (.double (FP.i2d sv)), .second, .val (.int (2 : Int32)), .val (.ref b35)] [(.double (FP.dmul (FP.i2d (2 : Int32)) (FP.i2d sv)))])
        refine Goes.by (g' := (mkF m 218 #[.val (.int p0), .val (.int p1), .val (.int p2), .val (.int c0_), .val (.int c1_), .val (.int c2_), .val (.int c3_), .val (.int c4_), .val (.ref b11), .val (.int m_), .val (.double (pqI m_)), .second, .val (.double (FP.i2d sv)), .second, .val (.int (2 : Int32)), .val (.ref b35)] [(.int (2 : Int32)), (.double (FP.dmul (FP.i2d (2 : Int32)) (FP.i2d sv)))])) (fun _ q => XS.iload X.here X.hx rfl (hb hby at_216) rfl q) ?_
        refine Goes.by (g' := (mkF m 219 #[.val (.int p0), .val (.int p1), .val (.int p2), .val (.int c0_), .val (.int c1_), .val (.int c2_), .val (.int c3_), .val (.int c4_), .val (.ref b11), .val (.int m_), .val (.double (pqI m_)), .second, .val (.double (FP.i2d sv)), .second, .val (.int (2 : Int32)), .val (.ref b35)] [(.double (FP.i2d (2 : Int32))), (.double (FP.dmul (FP.i2d (2 : Int32)) (FP.i2d sv)))])) (fun _ q => XS.i2dS X.here X.hx rfl (hb hby at_218) rfl rfl q) ?_
        refine Goes.by (g' := (mkF m 221 #[.val (.int p0), .val (.int p1), .val (.int p2), .val (.int c0_), .val (.int c1_), .val (.int c2_), .val (.int c3_), .val (.int c4_), .val (.ref b11), .val (.int m_), .val (.double (pqI m_)), .second, .val (.double (FP.i2d sv)), .second, .val (.int (2 : Int32)), .val (.ref b35)] [(.double (FP.i2d sv)), (.double (FP.i2d (2 : Int32))), (.double (FP.dmul (FP.i2d (2 : Int32)) (FP.i2d sv)))])) (fun _ q => XS.dload X.here X.hx rfl (hb hby at_219) rfl q) ?_
        refine Goes.by (g' := (mkF m 222 #[.val (.int p0), .val (.int p1), .val (.int p2), .val (.int c0_), .val (.int c1_), .val (.int c2_), .val (.int c3_), .val (.int c4_), .val (.ref b11), .val (.int m_), .val (.double (pqI m_)), .second, .val (.double (FP.i2d sv)), .second, .val (.int (2 : Int32)), .val (.ref b35)] [(.double (FP.dmul (FP.i2d (2 : Int32)) (FP.i2d sv))), (.double (FP.dmul (FP.i2d (2 : Int32)) (FP.i2d sv)))])) (fun _ q => XS.dmulS X.here X.hx rfl (hb hby at_221) rfl (mulNN _ _) rfl q) ?_
        refine Goes.by (g' := (mkF m 223 #[.val (.int p0), .val (.int p1), .val (.int p2), .val (.int c0_), .val (.int c1_), .val (.int c2_), .val (.int c3_), .val (.int c4_), .val (.ref b11), .val (.int m_), .val (.double (pqI m_)), .second, .val (.double (FP.i2d sv)), .second, .val (.int (2 : Int32)), .val (.ref b35)] [(.int (0 : Int32))])) (fun _ q => XS.dcmpS X.here X.hx rfl (hb hby at_222) rfl (dcmpV_self (mulNN _ _) _) q) ?_
        refine Goes.by (g' := (mkF m 226 #[.val (.int p0), .val (.int p1), .val (.int p2), .val (.int c0_), .val (.int c1_), .val (.int c2_), .val (.int c3_), .val (.int c4_), .val (.ref b11), .val (.int m_), .val (.double (pqI m_)), .second, .val (.double (FP.i2d sv)), .second, .val (.int (2 : Int32)), .val (.ref b35)] [])) (fun _ q => XS.ifNo X.here X.hx rfl (hb hby at_223) rfl ((if0 _ _).trans (teq (show (0 : Int32) = (0 : Int32) from (by decide))).2) q) ?_
        refine Goes.by (g' := (mkF m 227 #[.val (.int p0), .val (.int p1), .val (.int p2), .val (.int c0_), .val (.int c1_), .val (.int c2_), .val (.int c3_), .val (.int c4_), .val (.ref b11), .val (.int m_), .val (.double (pqI m_)), .second, .val (.double (FP.i2d sv)), .second, .val (.int (2 : Int32)), .val (.ref b35)] [(.int (1 : Int32))])) (fun _ q => XS.iconst X.here X.hx rfl (hb hby at_226) q) ?_
        refine Goes.by (g' := (mkF m 231 #[.val (.int p0), .val (.int p1), .val (.int p2), .val (.int c0_), .val (.int c1_), .val (.int c2_), .val (.int c3_), .val (.int c4_), .val (.ref b11), .val (.int m_), .val (.double (pqI m_)), .second, .val (.double (FP.i2d sv)), .second, .val (.int (2 : Int32)), .val (.ref b35)] [(.int (1 : Int32))])) (fun _ q => XS.goto X.here X.hx rfl (pc0 := 227) (pc' := 231) rfl (hb hby at_227) (by decide) (by decide) q) ?_
        exact X.retZ hret (hb hby at_231) (by decide) (by decide) rfl
    · skip
      refine Goes.by (g' := (mkF m 153 #[.val (.int p0), .val (.int p1), .val (.int p2), .val (.int c0_), .val (.int c1_), .val (.int c2_), .val (.int c3_), .val (.int c4_), .val (.ref b11), .val (.int m_), .val (.double (pqI m_)), .second, .val (.double (FP.i2d sv)), .second, .unset, .unset] [])) (fun _ q => XS.ifNo X.here X.hx rfl (hb hby at_150) rfl ((if0 _ _).trans (flt hB24).1) q) ?_
      refine Goes.by (g' := (mkF m 154 #[.val (.int p0), .val (.int p1), .val (.int p2), .val (.int c0_), .val (.int c1_), .val (.int c2_), .val (.int c3_), .val (.int c4_), .val (.ref b11), .val (.int m_), .val (.double (pqI m_)), .second, .val (.double (FP.i2d sv)), .second, .unset, .unset] [(.int (1 : Int32))])) (fun _ q => XS.iconst X.here X.hx rfl (hb hby at_153) q) ?_
      refine Goes.by (g' := (mkF m 156 #[.val (.int p0), .val (.int p1), .val (.int p2), .val (.int c0_), .val (.int c1_), .val (.int c2_), .val (.int c3_), .val (.int c4_), .val (.ref b11), .val (.int m_), .val (.double (pqI m_)), .second, .val (.double (FP.i2d sv)), .second, .val (.int (1 : Int32)), .unset] [])) (fun _ q => XS.istore X.here X.hx rfl (hb hby at_154) rfl (l' := #[.val (.int p0), .val (.int p1), .val (.int p2), .val (.int c0_), .val (.int c1_), .val (.int c2_), .val (.int c3_), .val (.int c4_), .val (.ref b11), .val (.int m_), .val (.double (pqI m_)), .second, .val (.double (FP.i2d sv)), .second, .val (.int (1 : Int32)), .unset]) rfl q) ?_
      refine Goes.by (g' := (mkF m 194 #[.val (.int p0), .val (.int p1), .val (.int p2), .val (.int c0_), .val (.int c1_), .val (.int c2_), .val (.int c3_), .val (.int c4_), .val (.ref b11), .val (.int m_), .val (.double (pqI m_)), .second, .val (.double (FP.i2d sv)), .second, .val (.int (1 : Int32)), .unset] [])) (fun _ q => XS.goto X.here X.hx rfl (pc0 := 156) (pc' := 194) rfl (hb hby at_156) (by decide) (by decide) q) ?_
      refine X.newO (hw _ (List.mem_of_getElem? (i := 11) rfl)) (hw _ (List.mem_of_getElem? (i := 12) rfl)) (hw _ (List.mem_of_getElem? (i := 13) rfl)) (hb hby at_194) (by decide) (by decide) (fun T h40 b39 X g_b39 ga_b39 E E_b39 D_b39 => ?_)
      have ne_b11_b39 : b11 ≠ b39 := by rw [g_b39]; exact Nat.ne_of_lt E_b11.lt
      have E_b11 := E_b11.ext E
      have A_b11 := PArr.ext A_b11 E
      have F_b39_step : Fld Z h40 b39 "com/example/riskweave/riskweave/bound/PenaltyDistribution" "step" "D" (.double (0 : UInt64)) := D_b39 (Or.inr (hw _ (List.mem_of_getElem? (i := 21) rfl))) (ty := .double) (by decide)
      have F_b39_atMost : Fld Z h40 b39 "com/example/riskweave/riskweave/bound/PenaltyDistribution" "atMost" "[D" .null := D_b39 (Or.inr (hw _ (List.mem_of_getElem? (i := 23) rfl))) (ty := (.array .double)) (by decide)
      have F_b39_mean : Fld Z h40 b39 "com/example/riskweave/riskweave/bound/PenaltyDistribution" "mean" "D" (.double (0 : UInt64)) := D_b39 (Or.inr (hw _ (List.mem_of_getElem? (i := 25) rfl))) (ty := .double) (by decide)
      have F_b39_variance : Fld Z h40 b39 "com/example/riskweave/riskweave/bound/PenaltyDistribution" "variance" "D" (.double (0 : UInt64)) := D_b39 (Or.inr (hw _ (List.mem_of_getElem? (i := 27) rfl))) (ty := .double) (by decide)
      show Goes _ _ _ _ _ _ _ _ T (mkF m 197 #[.val (.int p0), .val (.int p1), .val (.int p2), .val (.int c0_), .val (.int c1_), .val (.int c2_), .val (.int c3_), .val (.int c4_), .val (.ref b11), .val (.int m_), .val (.double (pqI m_)), .second, .val (.double (FP.i2d sv)), .second, .val (.int (1 : Int32)), .unset] [(.ref b39)])
      refine Goes.by (g' := (mkF m 198 #[.val (.int p0), .val (.int p1), .val (.int p2), .val (.int c0_), .val (.int c1_), .val (.int c2_), .val (.int c3_), .val (.int c4_), .val (.ref b11), .val (.int m_), .val (.double (pqI m_)), .second, .val (.double (FP.i2d sv)), .second, .val (.int (1 : Int32)), .unset] [(.ref b39), (.ref b39)])) (fun _ q => XS.dup X.here X.hx rfl (hb hby at_197) rfl rfl q) ?_
      refine Goes.by (g' := (mkF m 200 #[.val (.int p0), .val (.int p1), .val (.int p2), .val (.int c0_), .val (.int c1_), .val (.int c2_), .val (.int c3_), .val (.int c4_), .val (.ref b11), .val (.int m_), .val (.double (pqI m_)), .second, .val (.double (FP.i2d sv)), .second, .val (.int (1 : Int32)), .unset] [(.double (FP.i2d sv)), (.ref b39), (.ref b39)])) (fun _ q => XS.dload X.here X.hx rfl (hb hby at_198) rfl q) ?_
      refine Goes.by (g' := (mkF m 202 #[.val (.int p0), .val (.int p1), .val (.int p2), .val (.int c0_), .val (.int c1_), .val (.int c2_), .val (.int c3_), .val (.int c4_), .val (.ref b11), .val (.int m_), .val (.double (pqI m_)), .second, .val (.double (FP.i2d sv)), .second, .val (.int (1 : Int32)), .unset] [(.ref b11), (.double (FP.i2d sv)), (.ref b39), (.ref b39)])) (fun _ q => XS.aload X.here X.hx rfl (hb hby at_200) rfl rfl q) ?_
      refine Goes.by (g' := (mkF m 203 #[.val (.int p0), .val (.int p1), .val (.int p2), .val (.int c0_), .val (.int c1_), .val (.int c2_), .val (.int c3_), .val (.int c4_), .val (.ref b11), .val (.int m_), .val (.double (pqI m_)), .second, .val (.double (FP.i2d sv)), .second, .val (.int (1 : Int32)), .unset] [(.double (0 : UInt64)), (.ref b11), (.double (FP.i2d sv)), (.ref b39), (.ref b39)])) (fun _ q => XS.dconst0 X.here X.hx rfl (hb hby at_202) rfl q) ?_
      refine Goes.by (g' := (mkF m 204 #[.val (.int p0), .val (.int p1), .val (.int p2), .val (.int c0_), .val (.int c1_), .val (.int c2_), .val (.int c3_), .val (.int c4_), .val (.ref b11), .val (.int m_), .val (.double (pqI m_)), .second, .val (.double (FP.i2d sv)), .second, .val (.int (1 : Int32)), .unset] [(.double (0 : UInt64)), (.double (0 : UInt64)), (.ref b11), (.double (FP.i2d sv)), (.ref b39), (.ref b39)])) (fun _ q => XS.dconst0 X.here X.hx rfl (hb hby at_203) rfl q) ?_
      have X_o := X
      refine X.callN rfl (hw _ (List.mem_of_getElem? (i := 14) rfl)) (hw _ (List.mem_of_getElem? (i := 15) rfl)) (hw _ (List.mem_of_getElem? (i := 13) rfl)) (hw _ (List.mem_of_getElem? (i := 16) rfl)) (by decide) pd_2981041303 (argsL := [(.double (FP.i2d sv)), (.ref b11), (.double (0 : UInt64)), (.double (0 : UInt64))]) rfl (rmI l Z a0 hw n0 h40 X.n0le b39 b11 (FP.i2d sv) ga_b39 E_b39 F_b39_step F_b39_atMost F_b39_mean F_b39_variance) (by rw [hml]; rfl) rfl (by decide) (leB rfl) (hb hby at_204) (by decide) (by decide) (fun T h41 v X hQ => ?_)
      obtain ⟨rfl, K, F_b39_step, F_b39_atMost⟩ := hQ
      have E_b11 := E_b11.keep K
      have A_b11 := PArr.keep A_b11 K (ninS ne_b11_b39 nin0)
      have E_b39 := E_b39.keep K
      show Goes _ _ _ _ _ _ _ _ T (mkF m 207 #[.val (.int p0), .val (.int p1), .val (.int p2), .val (.int c0_), .val (.int c1_), .val (.int c2_), .val (.int c3_), .val (.int c4_), .val (.ref b11), .val (.int m_), .val (.double (pqI m_)), .second, .val (.double (FP.i2d sv)), .second, .val (.int (1 : Int32)), .unset] [(.ref b39)])
      refine Goes.by (g' := (mkF m 209 #[.val (.int p0), .val (.int p1), .val (.int p2), .val (.int c0_), .val (.int c1_), .val (.int c2_), .val (.int c3_), .val (.int c4_), .val (.ref b11), .val (.int m_), .val (.double (pqI m_)), .second, .val (.double (FP.i2d sv)), .second, .val (.int (1 : Int32)), .val (.ref b39)] [])) (fun _ q => XS.astore X.here X.hx rfl (hb hby at_207) rfl rfl (l' := #[.val (.int p0), .val (.int p1), .val (.int p2), .val (.int c0_), .val (.int c1_), .val (.int c2_), .val (.int c3_), .val (.int c4_), .val (.ref b11), .val (.int m_), .val (.double (pqI m_)), .second, .val (.double (FP.i2d sv)), .second, .val (.int (1 : Int32)), .val (.ref b39)]) rfl q) ?_
      refine Goes.by (g' := (mkF m 211 #[.val (.int p0), .val (.int p1), .val (.int p2), .val (.int c0_), .val (.int c1_), .val (.int c2_), .val (.int c3_), .val (.int c4_), .val (.ref b11), .val (.int m_), .val (.double (pqI m_)), .second, .val (.double (FP.i2d sv)), .second, .val (.int (1 : Int32)), .val (.ref b39)] [(.ref b39)])) (fun _ q => XS.aload X.here X.hx rfl (hb hby at_209) rfl rfl q) ?_
      refine Goes.by (g' := (mkF m 213 #[.val (.int p0), .val (.int p1), .val (.int p2), .val (.int c0_), .val (.int c1_), .val (.int c2_), .val (.int c3_), .val (.int c4_), .val (.ref b11), .val (.int m_), .val (.double (pqI m_)), .second, .val (.double (FP.i2d sv)), .second, .val (.int (1 : Int32)), .val (.ref b39)] [(.double (pqI m_)), (.ref b39)])) (fun _ q => XS.dload X.here X.hx rfl (hb hby at_211) rfl q) ?_
      simp only [cmpI_lt] at hB23 hB24
      have X_o := X
      refine X.callV E_b39 (hw _ (List.mem_of_getElem? (i := 28) rfl)) (hw _ (List.mem_of_getElem? (i := 29) rfl)) (hw _ (List.mem_of_getElem? (i := 31) rfl)) (hw _ (List.mem_of_getElem? (i := 31) rfl)) rfl (hw _ (List.mem_of_getElem? (i := 30) rfl)) (hw _ (List.mem_of_getElem? (i := 13) rfl)) (hw _ (List.mem_of_getElem? (i := 32) rfl)) (by decide) pd_2087986558 (argsL := [(.double (pqI m_))]) rfl (rmV l Z a0 hw n0 h41 X.n0le b39 b11 m_ sv (rfn r0 r1 r2 r3 r4) (by omega) (by omega) (fun j hj => by
          have q : j = 0 ∨ j = 1 ∨ j = 2 ∨ j = 3 ∨ j = 4 := by omega
          rcases q with rfl | rfl | rfl | rfl | rfl
          · exact ⟨hr0.1, hr0.2.1⟩
          · exact ⟨hr1.1, hr1.2.1⟩
          · exact ⟨hr2.1, hr2.2.1⟩
          · exact ⟨hr3.1, hr3.2.1⟩
          · exact ⟨hr4.1, hr4.2.1⟩) (fun j hj => by
          have q : j = 0 ∨ j = 1 ∨ j = 2 ∨ j = 3 := by omega
          rcases q with rfl | rfl | rfl | rfl
          · show r0.toInt ≤ r1.toInt; omega
          · show r1.toInt ≤ r2.toInt; omega
          · show r2.toInt ≤ r3.toInt; omega
          · show r3.toInt ≤ r4.toInt; omega) F_b39_step F_b39_atMost A_b11) (by rw [hml]; rfl) rfl (by decide) (leB rfl) (hb hby at_213) (by decide) (by decide) (fun T h42 v X hQ => ?_)
      obtain ⟨kk, rfl, hk4, hkl, hkr, hh⟩ := hQ
      rw [hh] at X
      clear hh
      have z0 : (rfn r0 r1 r2 r3 r4 0).toInt = r0.toInt := rfl; have z1 : (rfn r0 r1 r2 r3 r4 1).toInt = r1.toInt := rfl; have z2 : (rfn r0 r1 r2 r3 r4 2).toInt = r2.toInt := rfl; have z3 : (rfn r0 r1 r2 r3 r4 3).toInt = r3.toInt := rfl; have z4 : (rfn r0 r1 r2 r3 r4 4).toInt = r4.toInt := rfl
      obtain rfl : kk = 1 := by
        have q : kk = 0 ∨ kk = 1 ∨ kk = 2 ∨ kk = 3 ∨ kk = 4 := by omega
        rcases q with rfl | rfl | rfl | rfl | rfl
        · exfalso; rcases hkr with t | t <;> omega
        · rfl
        · exfalso; have t := hkl 1 (by omega); omega
        · exfalso; have t := hkl 1 (by omega); omega
        · exfalso; have t := hkl 1 (by omega); omega
      show Goes _ _ _ _ _ _ _ _ T (mkF m 216 #[.val (.int p0), .val (.int p1), .val (.int p2), .val (.int c0_), .val (.int c1_), .val (.int c2_), .val (.int c3_), .val (.int c4_), .val (.ref b11), .val (.int m_), .val (.double (pqI m_)), .second, .val (.double (FP.i2d sv)), .second, .val (.int (1 : Int32)), .val (.ref b39)] [(.double (FP.dmul (FP.i2d (1 : Int32)) (FP.i2d sv)))])
      refine Goes.by (g' := (mkF m 218 #[.val (.int p0), .val (.int p1), .val (.int p2), .val (.int c0_), .val (.int c1_), .val (.int c2_), .val (.int c3_), .val (.int c4_), .val (.ref b11), .val (.int m_), .val (.double (pqI m_)), .second, .val (.double (FP.i2d sv)), .second, .val (.int (1 : Int32)), .val (.ref b39)] [(.int (1 : Int32)), (.double (FP.dmul (FP.i2d (1 : Int32)) (FP.i2d sv)))])) (fun _ q => XS.iload X.here X.hx rfl (hb hby at_216) rfl q) ?_
      refine Goes.by (g' := (mkF m 219 #[.val (.int p0), .val (.int p1), .val (.int p2), .val (.int c0_), .val (.int c1_), .val (.int c2_), .val (.int c3_), .val (.int c4_), .val (.ref b11), .val (.int m_), .val (.double (pqI m_)), .second, .val (.double (FP.i2d sv)), .second, .val (.int (1 : Int32)), .val (.ref b39)] [(.double (FP.i2d (1 : Int32))), (.double (FP.dmul (FP.i2d (1 : Int32)) (FP.i2d sv)))])) (fun _ q => XS.i2dS X.here X.hx rfl (hb hby at_218) rfl rfl q) ?_
      refine Goes.by (g' := (mkF m 221 #[.val (.int p0), .val (.int p1), .val (.int p2), .val (.int c0_), .val (.int c1_), .val (.int c2_), .val (.int c3_), .val (.int c4_), .val (.ref b11), .val (.int m_), .val (.double (pqI m_)), .second, .val (.double (FP.i2d sv)), .second, .val (.int (1 : Int32)), .val (.ref b39)] [(.double (FP.i2d sv)), (.double (FP.i2d (1 : Int32))), (.double (FP.dmul (FP.i2d (1 : Int32)) (FP.i2d sv)))])) (fun _ q => XS.dload X.here X.hx rfl (hb hby at_219) rfl q) ?_
      refine Goes.by (g' := (mkF m 222 #[.val (.int p0), .val (.int p1), .val (.int p2), .val (.int c0_), .val (.int c1_), .val (.int c2_), .val (.int c3_), .val (.int c4_), .val (.ref b11), .val (.int m_), .val (.double (pqI m_)), .second, .val (.double (FP.i2d sv)), .second, .val (.int (1 : Int32)), .val (.ref b39)] [(.double (FP.dmul (FP.i2d (1 : Int32)) (FP.i2d sv))), (.double (FP.dmul (FP.i2d (1 : Int32)) (FP.i2d sv)))])) (fun _ q => XS.dmulS X.here X.hx rfl (hb hby at_221) rfl (mulNN _ _) rfl q) ?_
      refine Goes.by (g' := (mkF m 223 #[.val (.int p0), .val (.int p1), .val (.int p2), .val (.int c0_), .val (.int c1_), .val (.int c2_), .val (.int c3_), .val (.int c4_), .val (.ref b11), .val (.int m_), .val (.double (pqI m_)), .second, .val (.double (FP.i2d sv)), .second, .val (.int (1 : Int32)), .val (.ref b39)] [(.int (0 : Int32))])) (fun _ q => XS.dcmpS X.here X.hx rfl (hb hby at_222) rfl (dcmpV_self (mulNN _ _) _) q) ?_
      refine Goes.by (g' := (mkF m 226 #[.val (.int p0), .val (.int p1), .val (.int p2), .val (.int c0_), .val (.int c1_), .val (.int c2_), .val (.int c3_), .val (.int c4_), .val (.ref b11), .val (.int m_), .val (.double (pqI m_)), .second, .val (.double (FP.i2d sv)), .second, .val (.int (1 : Int32)), .val (.ref b39)] [])) (fun _ q => XS.ifNo X.here X.hx rfl (hb hby at_223) rfl ((if0 _ _).trans (teq (show (0 : Int32) = (0 : Int32) from (by decide))).2) q) ?_
      refine Goes.by (g' := (mkF m 227 #[.val (.int p0), .val (.int p1), .val (.int p2), .val (.int c0_), .val (.int c1_), .val (.int c2_), .val (.int c3_), .val (.int c4_), .val (.ref b11), .val (.int m_), .val (.double (pqI m_)), .second, .val (.double (FP.i2d sv)), .second, .val (.int (1 : Int32)), .val (.ref b39)] [(.int (1 : Int32))])) (fun _ q => XS.iconst X.here X.hx rfl (hb hby at_226) q) ?_
      refine Goes.by (g' := (mkF m 231 #[.val (.int p0), .val (.int p1), .val (.int p2), .val (.int c0_), .val (.int c1_), .val (.int c2_), .val (.int c3_), .val (.int c4_), .val (.ref b11), .val (.int m_), .val (.double (pqI m_)), .second, .val (.double (FP.i2d sv)), .second, .val (.int (1 : Int32)), .val (.ref b39)] [(.int (1 : Int32))])) (fun _ q => XS.goto X.here X.hx rfl (pc0 := 227) (pc' := 231) rfl (hb hby at_227) (by decide) (by decide) q) ?_
      exact X.retZ hret (hb hby at_231) (by decide) (by decide) rfl
  · skip
    refine Goes.by (g' := (mkF m 137 #[.val (.int p0), .val (.int p1), .val (.int p2), .val (.int c0_), .val (.int c1_), .val (.int c2_), .val (.int c3_), .val (.int c4_), .val (.ref b11), .val (.int m_), .val (.double (pqI m_)), .second, .val (.double (FP.i2d sv)), .second, .unset, .unset] [])) (fun _ q => XS.ifNo X.here X.hx rfl (hb hby at_134) rfl ((if0 _ _).trans (flt hB23).1) q) ?_
    refine Goes.by (g' := (mkF m 138 #[.val (.int p0), .val (.int p1), .val (.int p2), .val (.int c0_), .val (.int c1_), .val (.int c2_), .val (.int c3_), .val (.int c4_), .val (.ref b11), .val (.int m_), .val (.double (pqI m_)), .second, .val (.double (FP.i2d sv)), .second, .unset, .unset] [(.int (0 : Int32))])) (fun _ q => XS.iconst X.here X.hx rfl (hb hby at_137) q) ?_
    refine Goes.by (g' := (mkF m 140 #[.val (.int p0), .val (.int p1), .val (.int p2), .val (.int c0_), .val (.int c1_), .val (.int c2_), .val (.int c3_), .val (.int c4_), .val (.ref b11), .val (.int m_), .val (.double (pqI m_)), .second, .val (.double (FP.i2d sv)), .second, .val (.int (0 : Int32)), .unset] [])) (fun _ q => XS.istore X.here X.hx rfl (hb hby at_138) rfl (l' := #[.val (.int p0), .val (.int p1), .val (.int p2), .val (.int c0_), .val (.int c1_), .val (.int c2_), .val (.int c3_), .val (.int c4_), .val (.ref b11), .val (.int m_), .val (.double (pqI m_)), .second, .val (.double (FP.i2d sv)), .second, .val (.int (0 : Int32)), .unset]) rfl q) ?_
    refine Goes.by (g' := (mkF m 194 #[.val (.int p0), .val (.int p1), .val (.int p2), .val (.int c0_), .val (.int c1_), .val (.int c2_), .val (.int c3_), .val (.int c4_), .val (.ref b11), .val (.int m_), .val (.double (pqI m_)), .second, .val (.double (FP.i2d sv)), .second, .val (.int (0 : Int32)), .unset] [])) (fun _ q => XS.goto X.here X.hx rfl (pc0 := 140) (pc' := 194) rfl (hb hby at_140) (by decide) (by decide) q) ?_
    refine X.newO (hw _ (List.mem_of_getElem? (i := 11) rfl)) (hw _ (List.mem_of_getElem? (i := 12) rfl)) (hw _ (List.mem_of_getElem? (i := 13) rfl)) (hb hby at_194) (by decide) (by decide) (fun T h44 b43 X g_b43 ga_b43 E E_b43 D_b43 => ?_)
    have ne_b11_b43 : b11 ≠ b43 := by rw [g_b43]; exact Nat.ne_of_lt E_b11.lt
    have E_b11 := E_b11.ext E
    have A_b11 := PArr.ext A_b11 E
    have F_b43_step : Fld Z h44 b43 "com/example/riskweave/riskweave/bound/PenaltyDistribution" "step" "D" (.double (0 : UInt64)) := D_b43 (Or.inr (hw _ (List.mem_of_getElem? (i := 21) rfl))) (ty := .double) (by decide)
    have F_b43_atMost : Fld Z h44 b43 "com/example/riskweave/riskweave/bound/PenaltyDistribution" "atMost" "[D" .null := D_b43 (Or.inr (hw _ (List.mem_of_getElem? (i := 23) rfl))) (ty := (.array .double)) (by decide)
    have F_b43_mean : Fld Z h44 b43 "com/example/riskweave/riskweave/bound/PenaltyDistribution" "mean" "D" (.double (0 : UInt64)) := D_b43 (Or.inr (hw _ (List.mem_of_getElem? (i := 25) rfl))) (ty := .double) (by decide)
    have F_b43_variance : Fld Z h44 b43 "com/example/riskweave/riskweave/bound/PenaltyDistribution" "variance" "D" (.double (0 : UInt64)) := D_b43 (Or.inr (hw _ (List.mem_of_getElem? (i := 27) rfl))) (ty := .double) (by decide)
    show Goes _ _ _ _ _ _ _ _ T (mkF m 197 #[.val (.int p0), .val (.int p1), .val (.int p2), .val (.int c0_), .val (.int c1_), .val (.int c2_), .val (.int c3_), .val (.int c4_), .val (.ref b11), .val (.int m_), .val (.double (pqI m_)), .second, .val (.double (FP.i2d sv)), .second, .val (.int (0 : Int32)), .unset] [(.ref b43)])
    refine Goes.by (g' := (mkF m 198 #[.val (.int p0), .val (.int p1), .val (.int p2), .val (.int c0_), .val (.int c1_), .val (.int c2_), .val (.int c3_), .val (.int c4_), .val (.ref b11), .val (.int m_), .val (.double (pqI m_)), .second, .val (.double (FP.i2d sv)), .second, .val (.int (0 : Int32)), .unset] [(.ref b43), (.ref b43)])) (fun _ q => XS.dup X.here X.hx rfl (hb hby at_197) rfl rfl q) ?_
    refine Goes.by (g' := (mkF m 200 #[.val (.int p0), .val (.int p1), .val (.int p2), .val (.int c0_), .val (.int c1_), .val (.int c2_), .val (.int c3_), .val (.int c4_), .val (.ref b11), .val (.int m_), .val (.double (pqI m_)), .second, .val (.double (FP.i2d sv)), .second, .val (.int (0 : Int32)), .unset] [(.double (FP.i2d sv)), (.ref b43), (.ref b43)])) (fun _ q => XS.dload X.here X.hx rfl (hb hby at_198) rfl q) ?_
    refine Goes.by (g' := (mkF m 202 #[.val (.int p0), .val (.int p1), .val (.int p2), .val (.int c0_), .val (.int c1_), .val (.int c2_), .val (.int c3_), .val (.int c4_), .val (.ref b11), .val (.int m_), .val (.double (pqI m_)), .second, .val (.double (FP.i2d sv)), .second, .val (.int (0 : Int32)), .unset] [(.ref b11), (.double (FP.i2d sv)), (.ref b43), (.ref b43)])) (fun _ q => XS.aload X.here X.hx rfl (hb hby at_200) rfl rfl q) ?_
    refine Goes.by (g' := (mkF m 203 #[.val (.int p0), .val (.int p1), .val (.int p2), .val (.int c0_), .val (.int c1_), .val (.int c2_), .val (.int c3_), .val (.int c4_), .val (.ref b11), .val (.int m_), .val (.double (pqI m_)), .second, .val (.double (FP.i2d sv)), .second, .val (.int (0 : Int32)), .unset] [(.double (0 : UInt64)), (.ref b11), (.double (FP.i2d sv)), (.ref b43), (.ref b43)])) (fun _ q => XS.dconst0 X.here X.hx rfl (hb hby at_202) rfl q) ?_
    refine Goes.by (g' := (mkF m 204 #[.val (.int p0), .val (.int p1), .val (.int p2), .val (.int c0_), .val (.int c1_), .val (.int c2_), .val (.int c3_), .val (.int c4_), .val (.ref b11), .val (.int m_), .val (.double (pqI m_)), .second, .val (.double (FP.i2d sv)), .second, .val (.int (0 : Int32)), .unset] [(.double (0 : UInt64)), (.double (0 : UInt64)), (.ref b11), (.double (FP.i2d sv)), (.ref b43), (.ref b43)])) (fun _ q => XS.dconst0 X.here X.hx rfl (hb hby at_203) rfl q) ?_
    have X_o := X
    refine X.callN rfl (hw _ (List.mem_of_getElem? (i := 14) rfl)) (hw _ (List.mem_of_getElem? (i := 15) rfl)) (hw _ (List.mem_of_getElem? (i := 13) rfl)) (hw _ (List.mem_of_getElem? (i := 16) rfl)) (by decide) pd_2981041303 (argsL := [(.double (FP.i2d sv)), (.ref b11), (.double (0 : UInt64)), (.double (0 : UInt64))]) rfl (rmI l Z a0 hw n0 h44 X.n0le b43 b11 (FP.i2d sv) ga_b43 E_b43 F_b43_step F_b43_atMost F_b43_mean F_b43_variance) (by rw [hml]; rfl) rfl (by decide) (leB rfl) (hb hby at_204) (by decide) (by decide) (fun T h45 v X hQ => ?_)
    obtain ⟨rfl, K, F_b43_step, F_b43_atMost⟩ := hQ
    have E_b11 := E_b11.keep K
    have A_b11 := PArr.keep A_b11 K (ninS ne_b11_b43 nin0)
    have E_b43 := E_b43.keep K
    show Goes _ _ _ _ _ _ _ _ T (mkF m 207 #[.val (.int p0), .val (.int p1), .val (.int p2), .val (.int c0_), .val (.int c1_), .val (.int c2_), .val (.int c3_), .val (.int c4_), .val (.ref b11), .val (.int m_), .val (.double (pqI m_)), .second, .val (.double (FP.i2d sv)), .second, .val (.int (0 : Int32)), .unset] [(.ref b43)])
    refine Goes.by (g' := (mkF m 209 #[.val (.int p0), .val (.int p1), .val (.int p2), .val (.int c0_), .val (.int c1_), .val (.int c2_), .val (.int c3_), .val (.int c4_), .val (.ref b11), .val (.int m_), .val (.double (pqI m_)), .second, .val (.double (FP.i2d sv)), .second, .val (.int (0 : Int32)), .val (.ref b43)] [])) (fun _ q => XS.astore X.here X.hx rfl (hb hby at_207) rfl rfl (l' := #[.val (.int p0), .val (.int p1), .val (.int p2), .val (.int c0_), .val (.int c1_), .val (.int c2_), .val (.int c3_), .val (.int c4_), .val (.ref b11), .val (.int m_), .val (.double (pqI m_)), .second, .val (.double (FP.i2d sv)), .second, .val (.int (0 : Int32)), .val (.ref b43)]) rfl q) ?_
    refine Goes.by (g' := (mkF m 211 #[.val (.int p0), .val (.int p1), .val (.int p2), .val (.int c0_), .val (.int c1_), .val (.int c2_), .val (.int c3_), .val (.int c4_), .val (.ref b11), .val (.int m_), .val (.double (pqI m_)), .second, .val (.double (FP.i2d sv)), .second, .val (.int (0 : Int32)), .val (.ref b43)] [(.ref b43)])) (fun _ q => XS.aload X.here X.hx rfl (hb hby at_209) rfl rfl q) ?_
    refine Goes.by (g' := (mkF m 213 #[.val (.int p0), .val (.int p1), .val (.int p2), .val (.int c0_), .val (.int c1_), .val (.int c2_), .val (.int c3_), .val (.int c4_), .val (.ref b11), .val (.int m_), .val (.double (pqI m_)), .second, .val (.double (FP.i2d sv)), .second, .val (.int (0 : Int32)), .val (.ref b43)] [(.double (pqI m_)), (.ref b43)])) (fun _ q => XS.dload X.here X.hx rfl (hb hby at_211) rfl q) ?_
    simp only [cmpI_lt] at hB23
    have X_o := X
    refine X.callV E_b43 (hw _ (List.mem_of_getElem? (i := 28) rfl)) (hw _ (List.mem_of_getElem? (i := 29) rfl)) (hw _ (List.mem_of_getElem? (i := 31) rfl)) (hw _ (List.mem_of_getElem? (i := 31) rfl)) rfl (hw _ (List.mem_of_getElem? (i := 30) rfl)) (hw _ (List.mem_of_getElem? (i := 13) rfl)) (hw _ (List.mem_of_getElem? (i := 32) rfl)) (by decide) pd_2087986558 (argsL := [(.double (pqI m_))]) rfl (rmV l Z a0 hw n0 h45 X.n0le b43 b11 m_ sv (rfn r0 r1 r2 r3 r4) (by omega) (by omega) (fun j hj => by
        have q : j = 0 ∨ j = 1 ∨ j = 2 ∨ j = 3 ∨ j = 4 := by omega
        rcases q with rfl | rfl | rfl | rfl | rfl
        · exact ⟨hr0.1, hr0.2.1⟩
        · exact ⟨hr1.1, hr1.2.1⟩
        · exact ⟨hr2.1, hr2.2.1⟩
        · exact ⟨hr3.1, hr3.2.1⟩
        · exact ⟨hr4.1, hr4.2.1⟩) (fun j hj => by
        have q : j = 0 ∨ j = 1 ∨ j = 2 ∨ j = 3 := by omega
        rcases q with rfl | rfl | rfl | rfl
        · show r0.toInt ≤ r1.toInt; omega
        · show r1.toInt ≤ r2.toInt; omega
        · show r2.toInt ≤ r3.toInt; omega
        · show r3.toInt ≤ r4.toInt; omega) F_b43_step F_b43_atMost A_b11) (by rw [hml]; rfl) rfl (by decide) (leB rfl) (hb hby at_213) (by decide) (by decide) (fun T h46 v X hQ => ?_)
    obtain ⟨kk, rfl, hk4, hkl, hkr, hh⟩ := hQ
    rw [hh] at X
    clear hh
    have z0 : (rfn r0 r1 r2 r3 r4 0).toInt = r0.toInt := rfl; have z1 : (rfn r0 r1 r2 r3 r4 1).toInt = r1.toInt := rfl; have z2 : (rfn r0 r1 r2 r3 r4 2).toInt = r2.toInt := rfl; have z3 : (rfn r0 r1 r2 r3 r4 3).toInt = r3.toInt := rfl; have z4 : (rfn r0 r1 r2 r3 r4 4).toInt = r4.toInt := rfl
    obtain rfl : kk = 0 := by
      have q : kk = 0 ∨ kk = 1 ∨ kk = 2 ∨ kk = 3 ∨ kk = 4 := by omega
      rcases q with rfl | rfl | rfl | rfl | rfl
      · rfl
      · exfalso; have t := hkl 0 (by omega); omega
      · exfalso; have t := hkl 0 (by omega); omega
      · exfalso; have t := hkl 0 (by omega); omega
      · exfalso; have t := hkl 0 (by omega); omega
    show Goes _ _ _ _ _ _ _ _ T (mkF m 216 #[.val (.int p0), .val (.int p1), .val (.int p2), .val (.int c0_), .val (.int c1_), .val (.int c2_), .val (.int c3_), .val (.int c4_), .val (.ref b11), .val (.int m_), .val (.double (pqI m_)), .second, .val (.double (FP.i2d sv)), .second, .val (.int (0 : Int32)), .val (.ref b43)] [(.double (FP.dmul (FP.i2d (0 : Int32)) (FP.i2d sv)))])
    refine Goes.by (g' := (mkF m 218 #[.val (.int p0), .val (.int p1), .val (.int p2), .val (.int c0_), .val (.int c1_), .val (.int c2_), .val (.int c3_), .val (.int c4_), .val (.ref b11), .val (.int m_), .val (.double (pqI m_)), .second, .val (.double (FP.i2d sv)), .second, .val (.int (0 : Int32)), .val (.ref b43)] [(.int (0 : Int32)), (.double (FP.dmul (FP.i2d (0 : Int32)) (FP.i2d sv)))])) (fun _ q => XS.iload X.here X.hx rfl (hb hby at_216) rfl q) ?_
    refine Goes.by (g' := (mkF m 219 #[.val (.int p0), .val (.int p1), .val (.int p2), .val (.int c0_), .val (.int c1_), .val (.int c2_), .val (.int c3_), .val (.int c4_), .val (.ref b11), .val (.int m_), .val (.double (pqI m_)), .second, .val (.double (FP.i2d sv)), .second, .val (.int (0 : Int32)), .val (.ref b43)] [(.double (FP.i2d (0 : Int32))), (.double (FP.dmul (FP.i2d (0 : Int32)) (FP.i2d sv)))])) (fun _ q => XS.i2dS X.here X.hx rfl (hb hby at_218) rfl rfl q) ?_
    refine Goes.by (g' := (mkF m 221 #[.val (.int p0), .val (.int p1), .val (.int p2), .val (.int c0_), .val (.int c1_), .val (.int c2_), .val (.int c3_), .val (.int c4_), .val (.ref b11), .val (.int m_), .val (.double (pqI m_)), .second, .val (.double (FP.i2d sv)), .second, .val (.int (0 : Int32)), .val (.ref b43)] [(.double (FP.i2d sv)), (.double (FP.i2d (0 : Int32))), (.double (FP.dmul (FP.i2d (0 : Int32)) (FP.i2d sv)))])) (fun _ q => XS.dload X.here X.hx rfl (hb hby at_219) rfl q) ?_
    refine Goes.by (g' := (mkF m 222 #[.val (.int p0), .val (.int p1), .val (.int p2), .val (.int c0_), .val (.int c1_), .val (.int c2_), .val (.int c3_), .val (.int c4_), .val (.ref b11), .val (.int m_), .val (.double (pqI m_)), .second, .val (.double (FP.i2d sv)), .second, .val (.int (0 : Int32)), .val (.ref b43)] [(.double (FP.dmul (FP.i2d (0 : Int32)) (FP.i2d sv))), (.double (FP.dmul (FP.i2d (0 : Int32)) (FP.i2d sv)))])) (fun _ q => XS.dmulS X.here X.hx rfl (hb hby at_221) rfl (mulNN _ _) rfl q) ?_
    refine Goes.by (g' := (mkF m 223 #[.val (.int p0), .val (.int p1), .val (.int p2), .val (.int c0_), .val (.int c1_), .val (.int c2_), .val (.int c3_), .val (.int c4_), .val (.ref b11), .val (.int m_), .val (.double (pqI m_)), .second, .val (.double (FP.i2d sv)), .second, .val (.int (0 : Int32)), .val (.ref b43)] [(.int (0 : Int32))])) (fun _ q => XS.dcmpS X.here X.hx rfl (hb hby at_222) rfl (dcmpV_self (mulNN _ _) _) q) ?_
    refine Goes.by (g' := (mkF m 226 #[.val (.int p0), .val (.int p1), .val (.int p2), .val (.int c0_), .val (.int c1_), .val (.int c2_), .val (.int c3_), .val (.int c4_), .val (.ref b11), .val (.int m_), .val (.double (pqI m_)), .second, .val (.double (FP.i2d sv)), .second, .val (.int (0 : Int32)), .val (.ref b43)] [])) (fun _ q => XS.ifNo X.here X.hx rfl (hb hby at_223) rfl ((if0 _ _).trans (teq (show (0 : Int32) = (0 : Int32) from (by decide))).2) q) ?_
    refine Goes.by (g' := (mkF m 227 #[.val (.int p0), .val (.int p1), .val (.int p2), .val (.int c0_), .val (.int c1_), .val (.int c2_), .val (.int c3_), .val (.int c4_), .val (.ref b11), .val (.int m_), .val (.double (pqI m_)), .second, .val (.double (FP.i2d sv)), .second, .val (.int (0 : Int32)), .val (.ref b43)] [(.int (1 : Int32))])) (fun _ q => XS.iconst X.here X.hx rfl (hb hby at_226) q) ?_
    refine Goes.by (g' := (mkF m 231 #[.val (.int p0), .val (.int p1), .val (.int p2), .val (.int c0_), .val (.int c1_), .val (.int c2_), .val (.int c3_), .val (.int c4_), .val (.ref b11), .val (.int m_), .val (.double (pqI m_)), .second, .val (.double (FP.i2d sv)), .second, .val (.int (0 : Int32)), .val (.ref b43)] [(.int (1 : Int32))])) (fun _ q => XS.goto X.here X.hx rfl (pc0 := 227) (pc' := 231) rfl (hb hby at_227) (by decide) (by decide) q) ?_
    exact X.retZ hret (hb hby at_231) (by decide) (by decide) rfl
set_option maxRecDepth 65536 in
set_option maxHeartbeats 40000000 in
theorem comes_1 {Post : Tables → Env → Array Value → State → Outcome → State → Prop} (hpost : ∀ tb e args s v u, (limb_1_1.after args s (.returned v) u = true ∧ limb_1_2.after args s (.returned v) u = true ∧ True) → EndF s (.returned v) u (Jvm.fieldLocs frame_1_writes args s ++ Jvm.arrayLocs frame_1_arrays args s ++ Jvm.staticLocs frame_1_statics s) 16 128 → Post tb e args s (.returned v) u) :
    ArmFor flags0 classFile x code maxLocals ret World_1 tables_1 room_1 Calls_1 rest_1 Pre_1 Post := by
  intro l hfl _ _ p e ha hc hk s m args below hf hA hF happ hP
  obtain ⟨hcalls, hrest, hpre⟩ := hP
  obtain ⟨-, -, -, hnamed, -, -, -, hat⟩ := (Spec.applies_iff hf).mp happ
  obtain ⟨hg, hn⟩ := and_e (Cond.before_iff.mp (show (Jvm.Cond.and given_1 narrow_1).before args s = true from hpre))
  obtain ⟨hcount, hg⟩ := and_e hg
  obtain ⟨w0, w1, w2, rfl⟩ : ∃ w0 w1 w2 : Value, args = #[w0, w1, w2] := by
    have hs : args.size = 3 := by simpa [Cond.value, given_1] using hcount
    obtain ⟨L⟩ := args
    match L, hs with
    | [w0, w1, w2], _ => exact ⟨w0, w1, w2, rfl⟩
  obtain ⟨hg0, hg⟩ := and_e hg
  obtain ⟨p0, ep0⟩ := is_v hg0
  obtain rfl : w0 = (.int p0) := Option.some.inj ep0
  obtain ⟨hg1, hg⟩ := and_e hg
  obtain ⟨p1, ep1⟩ := is_v hg1
  obtain rfl : w1 = (.int p1) := Option.some.inj ep1
  have hg2 := hg
  obtain ⟨p2, ep2⟩ := is_v hg2
  obtain rfl : w2 = (.int p2) := Option.some.inj ep2
  have hw := fun d (hd : d ∈ tables_1) => atoms_spec (ws := Jvm.Cond.code x code maxLocals ret :: tables_1) hat d (List.mem_cons_of_mem _ hd)
  have hfit : Fit s := fun {y c} hc i hi => by
    obtain ⟨ha, rfl⟩ := Array.getElem?_eq_some_iff.mp hc
    have q := List.all_eq_true.mp ((Array.all_eq_true_iff_forall_mem.mp hF) _ (Array.getElem_mem ha)) i (List.mem_range.mpr hi)
    simpa [Array.getElem?_eq_getElem hi] using q
  have c0 := hn
  obtain ⟨n, o, h1, h2, h3, _, L, rfl, ⟨N, rfl⟩, hq⟩ := rm0 l s _ hw s.heap.size s.heap (Nat.le_refl _) tables_1 p0 p1 p2 p e ha hc hk s m _ below hf ((Spec.applies_iff_loose hf).mp happ).1 ⟨rfl, State.Warmed39.refl s, rfl⟩ trivial
  refine ⟨n, _, h1, h2, h3, hpost _ _ _ _ _ _ ⟨Cond.after_iff.mpr rfl, Cond.after_iff.mpr (eq_i res_at (Term.int_eval (1)) rfl), trivial⟩ ⟨hq.1, hq.2.1, (hq.2.2.sift fun y hy => Or.inr (N y hy)).mono (by decide) (by decide)⟩⟩
theorem main_1_1 : Claimed_1_1 := comes_1 fun _ _ _ _ _ _ h hF => ⟨h.1, hF⟩
theorem main_1_2 : Claimed_1_2 := comes_1 fun _ _ _ _ _ _ h hF => ⟨h.2.1, hF⟩
end Jvm.Pilot.@@N@@
namespace Jvm.Pilot.@@N@@
open Jvm Jvm.ClassFile Sem Op Lib Jvm.Free Jvm.Stand Jvm.Pilot.@@N@@.Jvm.D
/-! MADE BY PROGRAM (witnessworld.py) out of the Statement's table words and the real class files: 13 classes; the members and pool entries that the words name. The judged class is class 1, her method 2. -/
namespace start1
open Jvm.ClassFile
def u (s : String) : CpInfo := .utf8 (stringToUtf16 s)
/-- a pool by its gaps: so many unusable entries, then the entry; so many at the end -/
def gap : Nat → List CpInfo → List CpInfo
  | 0, r => r
  | n + 1, r => .unusable :: gap n r
def poolList (es : List (Nat × CpInfo)) (last : Nat) : List CpInfo := es.foldr (fun e r => gap e.1 (e.2 :: r)) (gap last [])
def pool (es : List (Nat × CpInfo)) (last : Nat) : Array CpInfo := ⟨poolList es last⟩
def fileOf (pool : Array CpInfo) (this : Nat) (attrs : Array Attribute := #[]) (ms : Array MethodInfo := #[]) (fl : Nat := 33) (sup : Nat := 0) (ifs : Array Nat := #[]) (fds : Array FieldInfo := #[]) : ClassFile where
  minorVersion := 0
  majorVersion := 65
  constantPool := pool
  accessFlags := fl
  thisClass := this
  superClass := sup
  interfaces := ifs
  fields := fds
  methods := ms
  attributes := attrs
def plain (name : String) (sup : Option ClassId) : Class where
  name := name
  kind := .ordinary
  loader := none
  accessFlags := 33
  super := sup
  interfaces := #[]
  cf := none
  fields := #[]
  methods := #[]
  instanceTypes := #[]
  staticTypes := #[]
  resolved := #[]
  callSites := []
  init := .initialized
  statics := none
  mirror := none

def pool0 : Array CpInfo := pool [(5, u "<init>"), (0, u "()V"), (1, .class_ 10), (1, u "java/lang/Object")] 113

def k0c0 : Code := { maxStack := 0, maxLocals := 1, code := object_method_1_code, exceptionTable := #[], attributes := #[] }
def k0m0 : Method := { name := "<init>", desc := "()V", sig := { parameters := [], returnType := none }, accessFlags := 1, code := some k0c0 }
/-- java/lang/Object -/
def k0 : Class := { plain "java/lang/Object" none with
  accessFlags := 33
  interfaces := #[]
  cf := some (fileOf pool0 8 #[] #[{ accessFlags := 1, nameIndex := 5, descriptorIndex := 6, attributes := #[] }] 33 0 #[] #[])
  fields := #[]
  methods := #[k0m0]
  instanceTypes := #[]
  staticTypes := #[]
  resolved := Array.replicate 124 none
  statics := none }

def pool1 : Array CpInfo := pool [(2, .class_ 4), (1, u "java/lang/Object"), (0, u "<init>"), (0, u "()V"), (0, .methodref 8 9), (0, .class_ 10), (0, .nameAndType 11 12), (0, u "java/lang/Math"), (0, u "min"), (0, u "(II)I"), (0, .double 4625196817309499392), (1, .methodref 16 17), (0, .class_ 18), (0, .nameAndType 19 20), (0, u "com/example/riskweave/riskweave/bound/PenaltyDistributionValueAtRiskPinLaw"), (0, u "prob"), (0, u "(I)D"), (0, .integer 2147483647), (0, .class_ 23), (0, u "com/example/riskweave/riskweave/bound/PenaltyDistribution"), (0, .methodref 22 25), (0, .nameAndType 5 26), (0, u "(D[DDD)V"), (0, .methodref 22 28), (0, .nameAndType 29 30), (0, u "valueAtRisk"), (0, u "(D)D"), (2, u "law"), (0, u "(III)Z")] 5

def k1m0 : Method := { name := "<init>", desc := "()V", sig := { parameters := [], returnType := none }, accessFlags := 1, code := none }
def k1c1 : Code := { maxStack := 4, maxLocals := 1, code := method_2_code, exceptionTable := #[], attributes := #[] }
def k1m1 : Method := { name := "prob", desc := "(I)D", sig := { parameters := [.int], returnType := some .double }, accessFlags := 10, code := some k1c1 }
def k1c2 : Code := { maxStack := 9, maxLocals := 16, code := code, exceptionTable := #[], attributes := #[] }
def k1m2 : Method := { name := "law", desc := "(III)Z", sig := { parameters := [.int, .int, .int], returnType := some .boolean }, accessFlags := 9, code := some k1c2 }
/-- com/example/riskweave/riskweave/bound/PenaltyDistributionValueAtRiskPinLaw -/
def k1 : Class := { plain "com/example/riskweave/riskweave/bound/PenaltyDistributionValueAtRiskPinLaw" (some 0) with
  accessFlags := 49
  interfaces := #[]
  cf := some (fileOf pool1 16 #[] #[{ accessFlags := 1, nameIndex := 5, descriptorIndex := 6, attributes := #[] }, { accessFlags := 10, nameIndex := 19, descriptorIndex := 20, attributes := #[] }, { accessFlags := 9, nameIndex := 33, descriptorIndex := 34, attributes := #[] }] 49 2 #[] #[])
  fields := #[]
  methods := #[k1m0, k1m1, k1m2]
  instanceTypes := #[]
  staticTypes := #[]
  resolved := Array.replicate 40 none
  statics := none }

def pool2 : Array CpInfo := pool [(1, .class_ 2), (0, u "java/lang/Math"), (1, .class_ 6), (1, u "java/lang/Object"), (0, u "<init>"), (0, u "()V"), (89, .class_ 100), (1, u "java/lang/Math$RandomNumberGeneratorHolder"), (71, u "negativeZeroFloatBits"), (0, u "J"), (2, u "negativeZeroDoubleBits"), (24, u "min"), (43, u "$assertionsDisabled"), (0, u "Z"), (88, u "(II)I"), (2, u "twoToTheDoubleScaleDown"), (0, u "D"), (4, u "twoToTheDoubleScaleUp"), (9, u "E"), (3, u "PI"), (2, u "TAU"), (2, u "DEGREES_TO_RADIANS"), (0, u "RADIANS_TO_DEGREES")] 94

def k2m0 : Method := { name := "<init>", desc := "()V", sig := { parameters := [], returnType := none }, accessFlags := 2, code := none }
def k2c1 : Code := { maxStack := 2, maxLocals := 2, code := jdk_29_method_69_code, exceptionTable := #[], attributes := #[] }
def k2m1 : Method := { name := "min", desc := "(II)I", sig := { parameters := [.int, .int], returnType := some .int }, accessFlags := 9, code := some k2c1 }
/-- java/lang/Math -/
def k2 : Class := { plain "java/lang/Math" (some 0) with
  accessFlags := 49
  interfaces := #[]
  cf := some (fileOf pool2 1 #[.nestMembers #[98]] #[{ accessFlags := 2, nameIndex := 7, descriptorIndex := 8, attributes := #[] }, { accessFlags := 9, nameIndex := 201, descriptorIndex := 335, attributes := #[] }] 49 4 #[] #[{ accessFlags := 25, nameIndex := 354, descriptorIndex := 339, attributes := #[] }, { accessFlags := 25, nameIndex := 358, descriptorIndex := 339, attributes := #[] }, { accessFlags := 25, nameIndex := 361, descriptorIndex := 339, attributes := #[] }, { accessFlags := 26, nameIndex := 364, descriptorIndex := 339, attributes := #[] }, { accessFlags := 26, nameIndex := 365, descriptorIndex := 339, attributes := #[] }, { accessFlags := 26, nameIndex := 172, descriptorIndex := 173, attributes := #[] }, { accessFlags := 26, nameIndex := 176, descriptorIndex := 173, attributes := #[] }, { accessFlags := 8, nameIndex := 344, descriptorIndex := 339, attributes := #[] }, { accessFlags := 8, nameIndex := 338, descriptorIndex := 339, attributes := #[] }, { accessFlags := 4120, nameIndex := 245, descriptorIndex := 246, attributes := #[] }])
  fields := #[{ name := "E", type := .double, accessFlags := 25, slot := 0, constantValue := 0 }, { name := "PI", type := .double, accessFlags := 25, slot := 1, constantValue := 0 }, { name := "TAU", type := .double, accessFlags := 25, slot := 2, constantValue := 0 }, { name := "DEGREES_TO_RADIANS", type := .double, accessFlags := 26, slot := 3, constantValue := 0 }, { name := "RADIANS_TO_DEGREES", type := .double, accessFlags := 26, slot := 4, constantValue := 0 }, { name := "negativeZeroFloatBits", type := .long, accessFlags := 26, slot := 5, constantValue := 0 }, { name := "negativeZeroDoubleBits", type := .long, accessFlags := 26, slot := 6, constantValue := 0 }, { name := "twoToTheDoubleScaleUp", type := .double, accessFlags := 8, slot := 7, constantValue := 0 }, { name := "twoToTheDoubleScaleDown", type := .double, accessFlags := 8, slot := 8, constantValue := 0 }, { name := "$assertionsDisabled", type := .boolean, accessFlags := 4120, slot := 9, constantValue := 0 }]
  methods := #[k2m0, k2m1]
  instanceTypes := #[]
  staticTypes := #[.double, .double, .double, .double, .double, .long, .long, .double, .double, .boolean]
  resolved := Array.replicate 460 none
  statics := none }

def pool3 : Array CpInfo := pool [(2, .class_ 4), (1, u "com/example/riskweave/riskweave/bound/YearlyPenalty"), (11, .class_ 17), (0, u "java/lang/Object")] 8

/-- com/example/riskweave/riskweave/bound/YearlyPenalty -/
def k3 : Class := { plain "com/example/riskweave/riskweave/bound/YearlyPenalty" (some 0) with
  accessFlags := 1537
  interfaces := #[]
  cf := some (fileOf pool3 2 #[] #[] 1537 16 #[] #[])
  fields := #[]
  methods := #[]
  instanceTypes := #[]
  staticTypes := #[]
  resolved := Array.replicate 26 none
  statics := none }

def pool4 : Array CpInfo := pool [(1, .methodref 2 3), (0, .class_ 4), (0, .nameAndType 5 6), (0, u "java/lang/Object"), (0, u "<init>"), (0, u "()V"), (0, .fieldref 8 9), (0, .class_ 10), (0, .nameAndType 11 12), (0, u "com/example/riskweave/riskweave/bound/PenaltyDistribution"), (0, u "step"), (0, u "D"), (0, .fieldref 8 14), (0, .nameAndType 15 16), (0, u "atMost"), (0, u "[D"), (0, .fieldref 8 18), (0, .nameAndType 19 12), (0, u "mean"), (0, .fieldref 8 21), (0, .nameAndType 22 12), (0, u "variance"), (2, u "(D[DDD)V"), (9, .class_ 36), (0, u "com/example/riskweave/riskweave/bound/YearlyPenalty"), (0, u "RESOLVED"), (8, u "valueAtRisk"), (0, u "(D)D")] 20

def k4c0 : Code := { maxStack := 3, maxLocals := 8, code := prog_4_method_1_code, exceptionTable := #[], attributes := #[] }
def k4m0 : Method := { name := "<init>", desc := "(D[DDD)V", sig := { parameters := [.double, (.array .double), .double, .double], returnType := none }, accessFlags := 0, code := some k4c0 }
def k4c1 : Code := { maxStack := 4, maxLocals := 6, code := prog_4_method_5_code, exceptionTable := #[], attributes := #[] }
def k4m1 : Method := { name := "valueAtRisk", desc := "(D)D", sig := { parameters := [.double], returnType := some .double }, accessFlags := 1, code := some k4c1 }
/-- com/example/riskweave/riskweave/bound/PenaltyDistribution -/
def k4 : Class := { plain "com/example/riskweave/riskweave/bound/PenaltyDistribution" (some 0) with
  accessFlags := 49
  interfaces := #[3]
  cf := some (fileOf pool4 8 #[] #[{ accessFlags := 0, nameIndex := 5, descriptorIndex := 25, attributes := #[] }, { accessFlags := 1, nameIndex := 46, descriptorIndex := 47, attributes := #[] }] 49 2 #[35] #[{ accessFlags := 25, nameIndex := 37, descriptorIndex := 12, attributes := #[] }, { accessFlags := 18, nameIndex := 11, descriptorIndex := 12, attributes := #[] }, { accessFlags := 18, nameIndex := 15, descriptorIndex := 16, attributes := #[] }, { accessFlags := 18, nameIndex := 19, descriptorIndex := 12, attributes := #[] }, { accessFlags := 18, nameIndex := 22, descriptorIndex := 12, attributes := #[] }])
  fields := #[{ name := "RESOLVED", type := .double, accessFlags := 25, slot := 0, constantValue := 0 }, { name := "step", type := .double, accessFlags := 18, slot := 0, constantValue := 0 }, { name := "atMost", type := (.array .double), accessFlags := 18, slot := 1, constantValue := 0 }, { name := "mean", type := .double, accessFlags := 18, slot := 2, constantValue := 0 }, { name := "variance", type := .double, accessFlags := 18, slot := 3, constantValue := 0 }]
  methods := #[k4m0, k4m1]
  instanceTypes := #[.double, (.array .double), .double, .double]
  staticTypes := #[.double]
  resolved := Array.replicate 68 none
  statics := none }

def pool5 : Array CpInfo := pool [(1, u "java/lang/Cloneable"), (0, .class_ 1), (0, u "java/lang/Object"), (0, .class_ 3)] 3

/-- java/lang/Cloneable -/
def k5 : Class := { plain "java/lang/Cloneable" (some 0) with
  accessFlags := 1537
  interfaces := #[]
  cf := some (fileOf pool5 2 #[] #[] 1537 4 #[] #[])
  fields := #[]
  methods := #[]
  instanceTypes := #[]
  staticTypes := #[]
  resolved := Array.replicate 8 none
  statics := none }

def pool6 : Array CpInfo := pool [(1, u "java/io/Serializable"), (0, .class_ 1), (0, u "java/lang/Object"), (0, .class_ 3)] 3

/-- java/io/Serializable -/
def k6 : Class := { plain "java/io/Serializable" (some 0) with
  accessFlags := 1537
  interfaces := #[]
  cf := some (fileOf pool6 2 #[] #[] 1537 4 #[] #[])
  fields := #[]
  methods := #[]
  instanceTypes := #[]
  staticTypes := #[]
  resolved := Array.replicate 8 none
  statics := none }

/-- the primitive byte -/
def k7 : Class := { plain "byte" none with kind := .primitive 'B', accessFlags := 0x411 }
/-- [B -/
def k8 : Class := { plain "[B" (some 0) with kind := .array 7 .byte, interfaces := #[5, 6], accessFlags := 1041 }

/-- the primitive double -/
def k9 : Class := { plain "double" none with kind := .primitive 'D', accessFlags := 0x411 }
/-- [D -/
def k10 : Class := { plain "[D" (some 0) with kind := .array 9 .double, interfaces := #[5, 6], accessFlags := 1041 }

/-- the primitive int -/
def k11 : Class := { plain "int" none with kind := .primitive 'I', accessFlags := 0x411 }
/-- [I -/
def k12 : Class := { plain "[I" (some 0) with kind := .array 11 .int, interfaces := #[5, 6], accessFlags := 1041 }

def heap : Heap := #[]
def classes : Array Class := #[k0, k1, k2, k3, k4, k5, k6, k7, k8, k9, k10, k11, k12]
def interned : List (Array UInt16 × Addr) := []
def slotsUsed : Nat := 0
def theMethod : MethodId := ⟨1, 2⟩
def args0 : Array Value := #[.int 5, .int 2, .int 7]
def aboutOver (below : List Frame) : State where
  vm := { classes := classes, interned := interned.toArray }
  heap := heap
  slotsUsed := slotsUsed
  threads := #[{ frames := .invoking theMethod args0 :: below }]
def below0 : List Frame := [.native { method := ⟨0, 0⟩, args := #[] }]
def about1 : State := aboutOver below0
def p0 : Program := .bare "" "" ""
def e0 : Env := launch0.env 0 0 0
theorem w_frames : about1.frames = Frame.invoking theMethod args0 :: below0 := rfl
set_option maxRecDepth 65536 in
theorem w_args : argsFit about1.vm theMethod args0 = true := by decide +kernel
set_option maxRecDepth 65536 in
theorem w_heap : heapFits about1 = true := by decide +kernel
set_option maxRecDepth 65536 in
theorem w_runnable : about1.curStatus? = some .runnable := by decide +kernel
set_option maxRecDepth 65536 in
theorem w_alone : about1.alone = true := by decide +kernel
set_option maxRecDepth 65536 in
theorem w_named : about1.methodNamed? x = some theMethod := by decide +kernel
set_option maxRecDepth 65536 in
theorem w_hears : about1.hears theMethod below0 = true := by decide +kernel
set_option maxRecDepth 65536 in
theorem w_ripe : about1.ripe theMethod args0 below0 = true := by decide +kernel
theorem w_running : about1.status = .running := rfl
set_option maxRecDepth 65536 in
theorem w_room : about1.hasRoom e0.platform room_1 = true :=
  launch0.hasRoom_least _ room_1 (by decide +kernel) (by decide +kernel) (by decide +kernel) (by decide +kernel) (by decide +kernel) (by decide +kernel)
theorem allAtoms_all (ts : List Jvm.Cond) (a : Array Jvm.Value) (st : Jvm.State) : (allAtoms ts).before a st = ts.all (fun c => c.before a st) := by
  induction ts with
  | nil => rfl
  | cons c t ih =>
    show (Jvm.Cond.and c (allAtoms t)).before a st = _
    rw [Jvm.Cond.before_and, ih, List.all_cons]
def words1 : List Jvm.Cond := Jvm.Cond.code x code maxLocals ret :: tables_1
/-- a 'code' word, met by the world's own term for the bytes: nothing is compared byte by byte -/
theorem code_word {y : MethodName} {bytes : ByteArray} {mx : Nat} {rt : Option FieldType} {a : Array Value} {s : State} {m : MethodId} {meth : Method} {c : Code} (h1 : s.methodNamed? y = some m) (h2 : s.vm.method? m = some meth) (h3 : meth.code = some c) (h4 : c.code = bytes)
    (h5 : (c.maxLocals == mx && c.exceptionTable.isEmpty && decide (c.maxStack ≤ mostOperands) && decide (meth.sig.returnType = rt) && !meth.locks && decide (parseMethodDescriptor y.desc = some meth.sig)) = true) : (Jvm.Cond.code y bytes mx rt).before a s = true := by
  simp only [Bool.and_eq_true, beq_iff_eq, Bool.not_eq_true', decide_eq_true_eq] at h5
  obtain ⟨⟨⟨⟨⟨g1, g2⟩, g3⟩, g4⟩, g5⟩, g6⟩ := h5
  simp [Cond.before, Cond.holds, Cond.value, h1, h2, h3, h4, g1, g2, g3, g4, g5, g6]
def isCode : Jvm.Cond → Bool
  | .code _ _ _ _ => true
  | _ => false
theorem all_split {L : List Jvm.Cond} {P : Jvm.Cond → Bool} (h1 : L.all (fun c => isCode c || P c) = true) (h2 : ∀ c ∈ L.filter isCode, P c = true) : L.all P = true := by
  refine List.all_eq_true.mpr fun c hc => ?_
  have h := List.all_eq_true.mp h1 c hc
  rcases Bool.eq_false_or_eq_true (isCode c) with hi | hi
  · exact h2 c (List.mem_filter.mpr ⟨hc, hi⟩)
  · simpa [hi] using h
set_option maxRecDepth 65536 in
theorem w_c0 : (Jvm.Cond.code x code maxLocals ret).before args0 about1 = true := code_word (m := ⟨1, 2⟩) (meth := k1m2) (c := k1c2) (by decide +kernel) rfl rfl rfl (by decide +kernel)
set_option maxRecDepth 65536 in
theorem w_c1 : (Jvm.Cond.code ({ cls := "com/example/riskweave/riskweave/bound/PenaltyDistributionValueAtRiskPinLaw", name := "prob", desc := "(I)D" } : Jvm.MethodName) method_2_code (1 : Nat) (Option.some Jvm.ClassFile.FieldType.double)).before args0 about1 = true := code_word (m := ⟨1, 1⟩) (meth := k1m1) (c := k1c1) (by decide +kernel) rfl rfl rfl (by decide +kernel)
set_option maxRecDepth 65536 in
theorem w_c2 : (Jvm.Cond.code ({ cls := "java/lang/Math", name := "min", desc := "(II)I" } : Jvm.MethodName) jdk_29_method_69_code (2 : Nat) (Option.some Jvm.ClassFile.FieldType.int)).before args0 about1 = true := code_word (m := ⟨2, 1⟩) (meth := k2m1) (c := k2c1) (by decide +kernel) rfl rfl rfl (by decide +kernel)
set_option maxRecDepth 65536 in
theorem w_c3 : (Jvm.Cond.code ({ cls := "com/example/riskweave/riskweave/bound/PenaltyDistribution", name := "<init>", desc := "(D[DDD)V" } : Jvm.MethodName) prog_4_method_1_code (8 : Nat) (Option.none : Option Jvm.ClassFile.FieldType)).before args0 about1 = true := code_word (m := ⟨4, 0⟩) (meth := k4m0) (c := k4c0) (by decide +kernel) rfl rfl rfl (by decide +kernel)
set_option maxRecDepth 65536 in
theorem w_c4 : (Jvm.Cond.code ({ cls := "java/lang/Object", name := "<init>", desc := "()V" } : Jvm.MethodName) object_method_1_code (1 : Nat) (Option.none : Option Jvm.ClassFile.FieldType)).before args0 about1 = true := code_word (m := ⟨0, 0⟩) (meth := k0m0) (c := k0c0) (by decide +kernel) rfl rfl rfl (by decide +kernel)
set_option maxRecDepth 65536 in
theorem w_c5 : (Jvm.Cond.code ({ cls := "com/example/riskweave/riskweave/bound/PenaltyDistribution", name := "valueAtRisk", desc := "(D)D" } : Jvm.MethodName) prog_4_method_5_code (6 : Nat) (Option.some Jvm.ClassFile.FieldType.double)).before args0 about1 = true := code_word (m := ⟨4, 1⟩) (meth := k4m1) (c := k4c1) (by decide +kernel) rfl rfl rfl (by decide +kernel)
def codes1 : List Jvm.Cond := [Jvm.Cond.code x code maxLocals ret, Jvm.Cond.code ({ cls := "com/example/riskweave/riskweave/bound/PenaltyDistributionValueAtRiskPinLaw", name := "prob", desc := "(I)D" } : Jvm.MethodName) method_2_code (1 : Nat) (Option.some Jvm.ClassFile.FieldType.double), Jvm.Cond.code ({ cls := "java/lang/Math", name := "min", desc := "(II)I" } : Jvm.MethodName) jdk_29_method_69_code (2 : Nat) (Option.some Jvm.ClassFile.FieldType.int), Jvm.Cond.code ({ cls := "com/example/riskweave/riskweave/bound/PenaltyDistribution", name := "<init>", desc := "(D[DDD)V" } : Jvm.MethodName) prog_4_method_1_code (8 : Nat) (Option.none : Option Jvm.ClassFile.FieldType), Jvm.Cond.code ({ cls := "java/lang/Object", name := "<init>", desc := "()V" } : Jvm.MethodName) object_method_1_code (1 : Nat) (Option.none : Option Jvm.ClassFile.FieldType), Jvm.Cond.code ({ cls := "com/example/riskweave/riskweave/bound/PenaltyDistribution", name := "valueAtRisk", desc := "(D)D" } : Jvm.MethodName) prog_4_method_5_code (6 : Nat) (Option.some Jvm.ClassFile.FieldType.double)]
set_option maxRecDepth 65536 in
theorem codes_eq : words1.filter isCode = codes1 := rfl
theorem w_codes : ∀ c ∈ words1.filter isCode, c.before args0 about1 = true := by
  rw [codes_eq]
  intro c hc
  simp only [codes1, List.mem_cons, List.not_mem_nil, or_false] at hc
  rcases hc with rfl | rfl | rfl | rfl | rfl | rfl
  · exact w_c0
  · exact w_c1
  · exact w_c2
  · exact w_c3
  · exact w_c4
  · exact w_c5
set_option maxRecDepth 65536 in
theorem w_t1 : (words1.take 24).all (fun c => isCode c || c.before args0 about1) = true := by decide +kernel
set_option maxRecDepth 65536 in
theorem w_t2 : (words1.drop 24).all (fun c => isCode c || c.before args0 about1) = true := by decide +kernel
theorem w_tables : (allAtoms (Jvm.Cond.code x code maxLocals ret :: tables_1)).before args0 about1 = true := by
  rw [allAtoms_all]
  show words1.all (fun c => c.before args0 about1) = true
  refine all_split ?_ w_codes
  rw [← List.take_append_drop 24 words1, List.all_append, w_t1, w_t2]
  rfl
set_option maxRecDepth 65536 in
theorem w_case : (Jvm.Cond.and given_1 narrow_1).before args0 about1 = true := by decide +kernel
theorem w_applies : (headSpec (Jvm.Cond.code x code maxLocals ret :: tables_1) room_1).applies x e0.platform about1 = true :=
  (Spec.applies_iff w_frames).mpr ⟨w_running, w_runnable, w_alone, w_named, w_hears, w_ripe, w_room, w_tables⟩
theorem atStart : AtStart classFile x code maxLocals ret World_1 tables_1 room_1 Calls_1 rest_1 Pre_1 launch0 p0 e0 about1 theMethod args0 below0 :=
  ⟨lists_1, trivial, launch0.admits_env _ _ _, launch0.least_env, fairChoices_fair.cas, fairChoices_fair.clock, w_frames, w_args, w_heap, w_applies, trivial, trivial, w_case⟩
end start1
theorem witness_1 : WitnessClaimed_1 := ⟨start1.p0, start1.e0, start1.about1, start1.theMethod, start1.args0, start1.below0, start1.atStart⟩
end Jvm.Pilot.@@N@@
