import JvmDerived
import JvmDerived.Pilot.@@N@@Statement
import JvmDerived.Pilot.@@N@@Code
set_option linter.unusedVariables false
set_option linter.unusedSimpArgs false
namespace Jvm.Pilot.@@N@@
open Jvm Jvm.ClassFile Sem Op Lib Jvm.Free Jvm.Stand Jvm.LawKit Jvm.RoadKit Bundle Jvm.Pilot.@@N@@.Jvm.D
section OwnHead
variable {p : Program} {l : Launch} {e : Env} {R : Room} {s : State} {m : MethodId} {args : Array Value} {below : List Frame} {meth : Method} {c : Code} {T T' : State} {Z : State} {own : String} {h h' : Heap} {n0 k n C S : Nat} {a0 : Array Value} {P : Option Value → Heap → Prop} {g g' : JFrame} {pc : Nat} {Ls : Array Slot} {st rest : List Value} {vm0 : Vm} {locs : List Loc}
theorem nfOf {args : Array Value} {s : State} {D : String} {x' z' y : MethodName} (h : (Cond.selects D x' z').before args s = true) (hc : z'.cls = y.cls) : NotFace s y := fun r0 h0 => by
  obtain ⟨c2, r2, m2, q1, q2, q3, q4, kP, hkP, hkPi⟩ := Cond.selects_spec h
  have e1 := findClass_of_methodNamed q3
  have e2 := findClass_of_methodNamed h0
  rw [hc] at e1
  have e3 : m2.cls = r0.cls := Option.some.inj (e1.symm.trans e2)
  exact ⟨kP, e3 ▸ hkP, hkPi⟩
/-- the tables over which the walk stands, and how it ends: wide (String constants may have been interned) -/
def Bk (s : State) (vm : Vm) (n : Nat) : Prop := ∃ k0, s.Since vm k0 ∧ k0 ≤ n
theorem Bk.mono {vm : Vm} {n n' : Nat} (h : Bk s vm n) (q : n ≤ n') : Bk s vm n' := by obtain ⟨k0, h1, h2⟩ := h; exact ⟨k0, h1, Nat.le_trans h2 q⟩
theorem Bk.start : Bk s s.vm n := ⟨0, (State.WarmedH.refl s).since 0, Nat.zero_le _⟩
abbrev EndF (s : State) (o : Outcome) (t : State) (L : List Loc) (k n : Nat) : Prop := ReturnedEndW s o t L k n
theorem EndF.mono {o : Outcome} {t : State} {L : List Loc} {k' n' : Nat} (h : EndF s o t L k n) (hk : k ≤ k') (hn : n ≤ n') : EndF s o t L k' n' := ⟨h.1, h.2.1, h.2.2.1, h.2.2.2.mono hk hn⟩
theorem Bk.leave (X : Stand p l e R (s.setVm vm0) m args below meth c T locs k n) (hB : Bk s vm0 T.heap.size) {v : Option Value} (hv : meth.sig.returnType = none → v = none) (hlk : meth.locks = false) :
    ∃ fs, (∀ (f : JFrame) (acts : List Action), f.method = m → f.locked = none → f.entered = [] → (doReturn e (T.setTop f) acts v).1 = T.setFrames fs) ∧ (T.setFrames fs).status = .running ∧ Ended (T.setFrames fs) below (.returned v) ∧ EndF s (.returned v) (T.setFrames fs) locs k n := by
  obtain ⟨k0, hS, hk⟩ := hB
  exact X.leaveW hS hk hv hlk
/-- a body's contract -/
def Met (l : Launch) (Z : State) (n0 : Nat) (y : MethodName) (bytes : ByteArray) (maxL : Nat) (ret : Option FieldType) (rm : Room) (as' : Array Value) (h0 : Heap) (Q : Option Value → Heap → Prop) : Prop :=
  MetFree l y (head1 [Cond.code y bytes maxL ret] rm) (fun a U => a = as' ∧ Z.Warmed39 U.vm ∧ U.heap = h0) (fun _ _ _ _ _ => True) (fun _ U o U' => ∃ v L, o = .returned v ∧ (Fr n0 L ∧ Q v U'.heap) ∧ EndF U o U' L rm.cells rm.slots)
theorem Bk.callS (X : Stand p l e R (s.setVm vm0) m args below meth c T locs k n) (hx : p.tables.exec = Jvm.exec) (hB : Bk s vm0 T.heap.size) (hZ : Z.Warmed39 vm0) (hown : vm0.findClass own = some m.cls) {index : Nat} {y : MethodName} {bytes : ByteArray} {maxL : Nat} {ret : Option FieldType} {rm : Room} {argsL : List Value} {Q : Option Value → Heap → Prop} {ps : List FieldType} {r : Option FieldType} (w1 : (Cond.methodLink own index y).before a0 Z = true) (w2 : (Cond.static y).before a0 Z = true) (wz : (Cond.initialized y.cls).before a0 Z = true) (wc : (Cond.code y bytes maxL ret).before a0 Z = true) (hy : y.cls ≠ "java/lang/invoke/MethodHandle" ∧ y.cls ≠ "java/lang/invoke/VarHandle")
    (hpd : parseMethodDescriptor y.desc = some ⟨ps, r⟩) (hlen : argsL.length = ps.length) (M : Met l Z n0 y bytes maxL ret rm argsL.toArray T.heap Q) (hsz : Ls.size = c.maxLocals) (hstk : st = argsL.reverse ++ rest) (hf : rm.frames + 1 ≤ R.frames) (hl : (rest.map fun v => v.category).sum + (maxL + 11) + rm.locals ≤ R.locals) (hd : decode c.code pc = .ok (.invokestatic index, 3)) (hc : k + rm.cells ≤ R.cells) (hs : n + rm.slots ≤ R.slots) :
    ∃ (v : Option Value) (vm1 : Vm) (T1 : State) (L2 : List Loc), Stand p l e R (s.setVm vm1) m args below meth c T1 (locs ++ L2) (k + rm.cells) (n + rm.slots) ∧ Bk s vm1 T1.heap.size ∧ Z.Warmed39 vm1 ∧ vm1.findClass own = some m.cls ∧ Fr n0 L2 ∧ Q v T1.heap ∧ ∀ t, Steps p.tables e below (T1.setTop (mkF m (pc + 3) Ls (v.toList ++ rest))) t → Steps p.tables e below (T.setTop (mkF m pc Ls st)) t := by
  obtain ⟨k0, hS, hk⟩ := hB
  have hZ' : Z.Warmed39 (s.setVm vm0).vm := hZ
  obtain ⟨v, vm1, ⟨T1, L1, k1, n1⟩, -, X1, hS1, hgr, ⟨L2, ⟨N2, hQ⟩, l1, y1, z1⟩, st1⟩ := Jvm.RoadKit.callSS X hx (y := y) hown (mvT (s := s.setVm vm0) hZ w1) (mvT (s := s.setVm vm0) hZ w2) (mvT (s := s.setVm vm0) hZ wz) (mvT (s := s.setVm vm0) hZ wc) hy (backOfS (Q := fun v h' L => Fr n0 L ∧ Q v h') (W := (rest.map fun v => v.category).sum) M hZ' wc wz hf hl) (g := mkF m pc Ls st) rfl hsz (argsL := argsL) (rest := rest) (lenOf hpd hlen) hstk (by show 2 * 0 + _ ≤ _; omega) hd (fun _ _ => ⟨rfl, rfl, hc, hs⟩)
  dsimp only [Pt.U, Pt.locs, Pt.cells, Pt.slots] at X1 l1 y1 z1 st1 hQ hS1 hgr
  subst l1 y1 z1
  have hA := hS1.1.alike
  exact ⟨v, T1.vm, T1, L2, X1, ⟨_, foldS hS hk hS1 hgr, Nat.le_refl _⟩, State.Warmed39.trans (t := s.setVm vm0) hZ hS1.1, by rw [hA.findClass]; exact hown, N2, hQ, fun _ q => st1.trans q⟩
theorem Bk.callSN (X : Stand p l e R (s.setVm vm0) m args below meth c T locs k n) (hx : p.tables.exec = Jvm.exec) (hB : Bk s vm0 T.heap.size) (hZ : Z.Warmed39 vm0) (hown : vm0.findClass own = some m.cls) {index : Nat} {y : MethodName} {bytes : ByteArray} {maxL : Nat} {ret : Option FieldType} {rm : Room} {argsL : List Value} {Q : Option Value → Heap → Prop} {ps : List FieldType} {r : Option FieldType} {host : String} (w1 : (Cond.methodLinkNest own index y host).before a0 Z = true) (w2 : (Cond.static y).before a0 Z = true) (wz : (Cond.initialized y.cls).before a0 Z = true) (wc : (Cond.code y bytes maxL ret).before a0 Z = true) (hy : y.cls ≠ "java/lang/invoke/MethodHandle" ∧ y.cls ≠ "java/lang/invoke/VarHandle")
    (hpd : parseMethodDescriptor y.desc = some ⟨ps, r⟩) (hlen : argsL.length = ps.length) (M : Met l Z n0 y bytes maxL ret rm argsL.toArray T.heap Q) (hsz : Ls.size = c.maxLocals) (hstk : st = argsL.reverse ++ rest) (hf : rm.frames + 1 ≤ R.frames) (hl : (rest.map fun v => v.category).sum + (maxL + 11) + rm.locals ≤ R.locals) (hd : decode c.code pc = .ok (.invokestatic index, 3)) (hc : k + rm.cells ≤ R.cells) (hs : n + rm.slots ≤ R.slots) :
    ∃ (v : Option Value) (vm1 : Vm) (T1 : State) (L2 : List Loc), Stand p l e R (s.setVm vm1) m args below meth c T1 (locs ++ L2) (k + rm.cells) (n + rm.slots) ∧ Bk s vm1 T1.heap.size ∧ Z.Warmed39 vm1 ∧ vm1.findClass own = some m.cls ∧ Fr n0 L2 ∧ Q v T1.heap ∧ ∀ t, Steps p.tables e below (T1.setTop (mkF m (pc + 3) Ls (v.toList ++ rest))) t → Steps p.tables e below (T.setTop (mkF m pc Ls st)) t := by
  obtain ⟨k0, hS, hk⟩ := hB
  have hZ' : Z.Warmed39 (s.setVm vm0).vm := hZ
  obtain ⟨v, vm1, ⟨T1, L1, k1, n1⟩, -, X1, hS1, hgr, ⟨L2, ⟨N2, hQ⟩, l1, y1, z1⟩, st1⟩ := Jvm.RoadKit.callSNS X hx (y := y) (host := host) hown ((Cond.methodLinkNest_wide hZ w1 :)) (mvT (s := s.setVm vm0) hZ w2) (mvT (s := s.setVm vm0) hZ wz) (mvT (s := s.setVm vm0) hZ wc) hy (backOfS (Q := fun v h' L => Fr n0 L ∧ Q v h') (W := (rest.map fun v => v.category).sum) M hZ' wc wz hf hl) (g := mkF m pc Ls st) rfl hsz (argsL := argsL) (rest := rest) (lenOf hpd hlen) hstk (by show 2 * 0 + _ ≤ _; omega) hd (fun _ _ => ⟨rfl, rfl, hc, hs⟩)
  dsimp only [Pt.U, Pt.locs, Pt.cells, Pt.slots] at X1 l1 y1 z1 st1 hQ hS1 hgr
  subst l1 y1 z1
  have hA := hS1.1.alike
  exact ⟨v, T1.vm, T1, L2, X1, ⟨_, foldS hS hk hS1 hgr, Nat.le_refl _⟩, State.Warmed39.trans (t := s.setVm vm0) hZ hS1.1, by rw [hA.findClass]; exact hown, N2, hQ, fun _ q => st1.trans q⟩
theorem Bk.callV (X : Stand p l e R (s.setVm vm0) m args below meth c T locs k n) (hx : p.tables.exec = Jvm.exec) (hB : Bk s vm0 T.heap.size) (hZ : Z.Warmed39 vm0) (hown : vm0.findClass own = some m.cls) {index : Nat} {y : MethodName} {bytes : ByteArray} {maxL : Nat} {ret : Option FieldType} {rm : Room} {argsL : List Value} {Q : Option Value → Heap → Prop} {ps : List FieldType} {r : Option FieldType} {z : MethodName} {K : String} {b : Addr} (E : Exa Z T.heap b K) (w1 : (Cond.methodLink own index y).before a0 Z = true) (w2 : (Cond.declares y).before a0 Z = true) (w3 : (Cond.selects K y z).before a0 Z = true) {D : String} {x' z' : MethodName} (w5 : (Cond.selects D x' z').before a0 Z = true) (h5 : z'.cls = y.cls) (w4 : (Cond.instanceMethod z).before a0 Z = true) (wz : (Cond.initialized z.cls).before a0 Z = true) (wc : (Cond.code z bytes maxL ret).before a0 Z = true) (hy : y.cls ≠ "java/lang/invoke/MethodHandle" ∧ y.cls ≠ "java/lang/invoke/VarHandle")
    (hpd : parseMethodDescriptor y.desc = some ⟨ps, r⟩) (hlen : argsL.length = ps.length) (M : Met l Z n0 z bytes maxL ret rm (.ref b :: argsL).toArray T.heap Q) (hsz : Ls.size = c.maxLocals) (hstk : st = argsL.reverse ++ .ref b :: rest) (hf : rm.frames + 1 ≤ R.frames) (hl : (rest.map fun v => v.category).sum + (maxL + 11) + rm.locals ≤ R.locals) (hd : decode c.code pc = .ok (.invokevirtual index, 3)) (hc : k + rm.cells ≤ R.cells) (hs : n + rm.slots ≤ R.slots) :
    ∃ (v : Option Value) (vm1 : Vm) (T1 : State) (L2 : List Loc), Stand p l e R (s.setVm vm1) m args below meth c T1 (locs ++ L2) (k + rm.cells) (n + rm.slots) ∧ Bk s vm1 T1.heap.size ∧ Z.Warmed39 vm1 ∧ vm1.findClass own = some m.cls ∧ Fr n0 L2 ∧ Q v T1.heap ∧ ∀ t, Steps p.tables e below (T1.setTop (mkF m (pc + 3) Ls (v.toList ++ rest))) t → Steps p.tables e below (T.setTop (mkF m pc Ls st)) t := by
  obtain ⟨k0, hS, hk⟩ := hB
  have hZ' : Z.Warmed39 (s.setVm vm0).vm := hZ
  obtain ⟨cq, kq, qa, qb, qc⟩ := isOf (s := s.setVm vm0) hZ' rfl E
  obtain ⟨v, vm1, ⟨T1, L1, k1, n1⟩, -, X1, hS1, hgr, ⟨L2, ⟨N2, hQ⟩, l1, y1, z1⟩, st1⟩ := X.virtualBackS hx (y := y) (z := z) hown (mvT (s := s.setVm vm0) hZ w1) (mvT (s := s.setVm vm0) hZ w2) (nfOf (args := #[]) (mvT (s := s.setVm vm0) hZ w5) h5) (mvT (s := s.setVm vm0) hZ w3) (mvT (s := s.setVm vm0) hZ w4) hy (backOfS (Q := fun v h' L => Fr n0 L ∧ Q v h') (W := (rest.map fun v => v.category).sum) M hZ' wc wz hf hl) qa qc (g := mkF m pc Ls st) rfl hsz (Steps.refl _) (argsL := argsL) (rest := rest) (lenOf hpd hlen) hstk (by show 2 * 0 + _ ≤ _; omega) hd (fun _ _ => ⟨rfl, rfl, hc, hs⟩)
  dsimp only [Pt.U, Pt.locs, Pt.cells, Pt.slots] at X1 l1 y1 z1 st1 hQ hS1 hgr
  subst l1 y1 z1
  have hA := hS1.1.alike
  exact ⟨v, T1.vm, T1, L2, X1, ⟨_, foldS hS hk hS1 hgr, Nat.le_refl _⟩, State.Warmed39.trans (t := s.setVm vm0) hZ hS1.1, by rw [hA.findClass]; exact hown, N2, hQ, fun _ q => st1.trans q⟩
theorem Bk.callU (X : Stand p l e R (s.setVm vm0) m args below meth c T locs k n) (hx : p.tables.exec = Jvm.exec) (hB : Bk s vm0 T.heap.size) (hZ : Z.Warmed39 vm0) (hown : vm0.findClass own = some m.cls) {index : Nat} {y : MethodName} {bytes : ByteArray} {maxL : Nat} {ret : Option FieldType} {rm : Room} {argsL : List Value} {Q : Option Value → Heap → Prop} {ps : List FieldType} {r : Option FieldType} {z : MethodName} {owner K : String} {b : Addr} (E : Exa Z T.heap b K) (w1 : (Cond.methodLink own index y).before a0 Z = true) (wsm : (Cond.sameMethod y.cls owner y.name y.desc).before a0 Z = true) (w2 : (Cond.declares ⟨owner, y.name, y.desc⟩).before a0 Z = true) (ho : owner ≠ "java/lang/invoke/MethodHandle" ∧ owner ≠ "java/lang/invoke/VarHandle") (w3 : (Cond.selects K y z).before a0 Z = true) (w4 : (Cond.instanceMethod z).before a0 Z = true) (wz : (Cond.initialized z.cls).before a0 Z = true) (wc : (Cond.code z bytes maxL ret).before a0 Z = true)
    (hpd : parseMethodDescriptor y.desc = some ⟨ps, r⟩) (hlen : argsL.length = ps.length) (M : Met l Z n0 z bytes maxL ret rm (.ref b :: argsL).toArray T.heap Q) (hsz : Ls.size = c.maxLocals) (hstk : st = argsL.reverse ++ .ref b :: rest) (hf : rm.frames + 1 ≤ R.frames) (hl : (rest.map fun v => v.category).sum + (maxL + 11) + rm.locals ≤ R.locals) (hd : decode c.code pc = .ok (.invokevirtual index, 3)) (hc : k + rm.cells ≤ R.cells) (hs : n + rm.slots ≤ R.slots) :
    ∃ (v : Option Value) (vm1 : Vm) (T1 : State) (L2 : List Loc), Stand p l e R (s.setVm vm1) m args below meth c T1 (locs ++ L2) (k + rm.cells) (n + rm.slots) ∧ Bk s vm1 T1.heap.size ∧ Z.Warmed39 vm1 ∧ vm1.findClass own = some m.cls ∧ Fr n0 L2 ∧ Q v T1.heap ∧ ∀ t, Steps p.tables e below (T1.setTop (mkF m (pc + 3) Ls (v.toList ++ rest))) t → Steps p.tables e below (T.setTop (mkF m pc Ls st)) t := by
  obtain ⟨k0, hS, hk⟩ := hB
  have hZ' : Z.Warmed39 (s.setVm vm0).vm := hZ
  obtain ⟨cq, kq, qa, qb, qc⟩ := isOf (s := s.setVm vm0) hZ' rfl E
  obtain ⟨v, vm1, ⟨T1, L1, k1, n1⟩, -, X1, hS1, hgr, ⟨L2, ⟨N2, hQ⟩, l1, y1, z1⟩, st1⟩ := X.virtualBackUpS hx (x := y) (y := z) hown (mvT (s := s.setVm vm0) hZ w1) (mvT (s := s.setVm vm0) hZ wsm) (mvT (s := s.setVm vm0) hZ w2) ho (mvT (s := s.setVm vm0) hZ w3) (mvT (s := s.setVm vm0) hZ w4) (backOfS (Q := fun v h' L => Fr n0 L ∧ Q v h') (W := (rest.map fun v => v.category).sum) M hZ' wc wz hf hl) qa qc (g := mkF m pc Ls st) rfl hsz (Steps.refl _) (argsL := argsL) (rest := rest) (lenOf hpd hlen) hstk (by show 2 * 0 + _ ≤ _; omega) hd (fun _ _ => ⟨rfl, rfl, hc, hs⟩)
  dsimp only [Pt.U, Pt.locs, Pt.cells, Pt.slots] at X1 l1 y1 z1 st1 hQ hS1 hgr
  subst l1 y1 z1
  have hA := hS1.1.alike
  exact ⟨v, T1.vm, T1, L2, X1, ⟨_, foldS hS hk hS1 hgr, Nat.le_refl _⟩, State.Warmed39.trans (t := s.setVm vm0) hZ hS1.1, by rw [hA.findClass]; exact hown, N2, hQ, fun _ q => st1.trans q⟩
theorem Bk.callN (X : Stand p l e R (s.setVm vm0) m args below meth c T locs k n) (hx : p.tables.exec = Jvm.exec) (hB : Bk s vm0 T.heap.size) (hZ : Z.Warmed39 vm0) (hown : vm0.findClass own = some m.cls) {index : Nat} {y : MethodName} {bytes : ByteArray} {maxL : Nat} {rm : Room} {argsL : List Value} {Q : Option Value → Heap → Prop} {ps : List FieldType} {r : Option FieldType} {b : Addr} (hin : y.name = "<init>") (w1 : (Cond.methodLink own index y).before a0 Z = true) (w4 : (Cond.instanceMethod y).before a0 Z = true) (wz : (Cond.initialized y.cls).before a0 Z = true) (wc : (Cond.code y bytes maxL none).before a0 Z = true) (hy : y.cls ≠ "java/lang/invoke/MethodHandle" ∧ y.cls ≠ "java/lang/invoke/VarHandle")
    (hpd : parseMethodDescriptor y.desc = some ⟨ps, r⟩) (hlen : argsL.length = ps.length) (M : Met l Z n0 y bytes maxL none rm (.ref b :: argsL).toArray T.heap Q) (hsz : Ls.size = c.maxLocals) (hstk : st = argsL.reverse ++ .ref b :: rest) (hf : rm.frames + 1 ≤ R.frames) (hl : (rest.map fun v => v.category).sum + (maxL + 11) + rm.locals ≤ R.locals) (hd : decode c.code pc = .ok (.invokespecial index, 3)) (hc : k + rm.cells ≤ R.cells) (hs : n + rm.slots ≤ R.slots) :
    ∃ (v : Option Value) (vm1 : Vm) (T1 : State) (L2 : List Loc), Stand p l e R (s.setVm vm1) m args below meth c T1 (locs ++ L2) (k + rm.cells) (n + rm.slots) ∧ Bk s vm1 T1.heap.size ∧ Z.Warmed39 vm1 ∧ vm1.findClass own = some m.cls ∧ Fr n0 L2 ∧ Q v T1.heap ∧ ∀ t, Steps p.tables e below (T1.setTop (mkF m (pc + 3) Ls (v.toList ++ rest))) t → Steps p.tables e below (T.setTop (mkF m pc Ls st)) t := by
  obtain ⟨k0, hS, hk⟩ := hB
  have hZ' : Z.Warmed39 (s.setVm vm0).vm := hZ
  obtain ⟨v, vm1, ⟨T1, L1, k1, n1⟩, -, X1, hS1, hgr, ⟨L2, ⟨N2, hQ⟩, l1, y1, z1⟩, st1⟩ := X.specialBackS hx (y := y) hin hown (mvT (s := s.setVm vm0) hZ w1) (mvT (s := s.setVm vm0) hZ w4) (mvT (s := s.setVm vm0) hZ wc) hy (backOfS (Q := fun v h' L => Fr n0 L ∧ Q v h') (W := (rest.map fun v => v.category).sum) M hZ' wc wz hf hl) (g := mkF m pc Ls st) rfl hsz (Steps.refl _) (a := b) (argsL := argsL) (rest := rest) (lenOf hpd hlen) hstk (by show 2 * 0 + _ ≤ _; omega) hd (fun _ _ => ⟨rfl, rfl, hc, hs⟩)
  dsimp only [Pt.U, Pt.locs, Pt.cells, Pt.slots] at X1 l1 y1 z1 st1 hQ hS1 hgr
  subst l1 y1 z1
  have hA := hS1.1.alike
  exact ⟨v, T1.vm, T1, L2, X1, ⟨_, foldS hS hk hS1 hgr, Nat.le_refl _⟩, State.Warmed39.trans (t := s.setVm vm0) hZ hS1.1, by rw [hA.findClass]; exact hown, N2, hQ, fun _ q => st1.trans q⟩
end OwnHead
/-! own layer: a walk in continuation form over the library's laws -/
section OwnKit
variable {p : Program} {l : Launch} {e : Env} {R : Room} {s : State} {m : MethodId} {args : Array Value} {below : List Frame} {meth : Method} {c : Code} {T T' : State} {Z : State} {own : String} {h h' : Heap} {n0 k n C S : Nat} {a0 : Array Value} {P : Option Value → Heap → Prop} {g g' : JFrame} {pc : Nat} {Ls : Array Slot} {st rest : List Value}
/-- where the walk stands: nothing but new cells written, n0 the first new address -/
def Std (p : Program) (l : Launch) (e : Env) (R : Room) (s : State) (m : MethodId) (args : Array Value) (below : List Frame) (meth : Method) (c : Code) (Z : State) (own : String) (n0 : Nat) (T : State) (h : Heap) (k n : Nat) : Prop :=
  ∃ vm0, (∃ locs, Stand p l e R (s.setVm vm0) m args below meth c T locs k n ∧ Fr n0 locs) ∧ T.heap = h ∧ p.tables.exec = Jvm.exec ∧ Z.Warmed39 vm0 ∧ vm0.findClass own = some m.cls ∧ Bk s vm0 h.size ∧ n0 ≤ s.heap.size ∧ meth.locks = false
/-- from here the method returns, and P holds of what it returns and of the heap -/
def Goes (p : Program) (e : Env) (below : List Frame) (s : State) (n0 C S : Nat) (P : Option Value → Heap → Prop) (T : State) (g : JFrame) : Prop :=
  ∃ (s₂ : State) (v : Option Value) (L : List Loc), Steps p.tables e below (T.setTop g) s₂ ∧ s₂.status = .running ∧ Ended s₂ below (.returned v) ∧ (Fr n0 L ∧ P v s₂.heap) ∧ EndF s (.returned v) s₂ L C S
theorem Std.here (X : Std p l e R s m args below meth c Z own n0 T h k n) : At T m c below := by obtain ⟨vm0, ⟨L, X, -⟩, -⟩ := X; exact X.here
theorem Std.hx (X : Std p l e R s m args below meth c Z own n0 T h k n) : p.tables.exec = Jvm.exec := by obtain ⟨vm0, -, -, h, -⟩ := X; exact h
theorem Std.n0le (X : Std p l e R s m args below meth c Z own n0 T h k n) : n0 ≤ h.size := by
  obtain ⟨vm0, ⟨L, X, -⟩, rfl, -, -, -, -, q, -⟩ := X
  exact Nat.le_trans q X.same.2.1
theorem Goes.by (st : ∀ t, Steps p.tables e below (T'.setTop g') t → Steps p.tables e below (T.setTop g) t) (G : Goes p e below s n0 C S P T' g') : Goes p e below s n0 C S P T g := by
  obtain ⟨s₂, v, L, h1, r⟩ := G
  exact ⟨s₂, v, L, st _ h1, r⟩
theorem Goes.mono {P' : Option Value → Heap → Prop} (G : Goes p e below s n0 C S P T g) (q : ∀ v h, P v h → P' v h) : Goes p e below s n0 C S P' T g := by
  obtain ⟨s₂, v, L, h1, h2, h3, ⟨h4, h5⟩, h6⟩ := G
  exact ⟨s₂, v, L, h1, h2, h3, ⟨h4, q _ _ h5⟩, h6⟩
theorem Std.retOut (X : Std p l e R s m args below meth c Z own n0 T h k n) {w : Value} {t : FieldType} {i : Instr} (hret : meth.sig.returnType = some t) (hn : narrow t w = w)
    (hi : (i = .ireturn ∧ (t = .int ∨ t = .boolean ∨ t = .byte ∨ t = .char ∨ t = .short) ∧ ∃ z, w = .int z) ∨ (i = .lreturn ∧ t = .long ∧ ∃ z, w = .long z) ∨ (i = .dreturn ∧ t = .double ∧ ∃ z, w = .double z) ∨ (i = .freturn ∧ t = .float ∧ ∃ z, w = .float z) ∨ (i = .areturn ∧ t.isReference = true ∧ w.isRef = true))
    (hd : decode c.code pc = .ok (i, 1)) (hc : k ≤ C) (hs : n ≤ S) (hP : P (some w) h) : Goes p e below s n0 C S P T (mkF m pc Ls (w :: rest)) := by
  obtain ⟨vm0, ⟨L, X, N⟩, rfl, hx, -, -, hB, -, hlk⟩ := X
  obtain ⟨fs, hr, hrun, hended, hE⟩ := Bk.leave X hB (v := some w) (fun q => by rw [hret] at q; cases q) hlk
  exact ⟨_, _, L, Jvm.RoadKit.retOut X hx hret hn hi hd hr, hrun, hended, ⟨N, hP⟩, EndF.mono hE hc hs⟩
theorem Std.retI (X : Std p l e R s m args below meth c Z own n0 T h k n) {z : Int32} (hret : meth.sig.returnType = some .int) (hd : decode c.code pc = .ok (.ireturn, 1)) (hc : k ≤ C) (hs : n ≤ S) (hP : P (some (.int z)) h) : Goes p e below s n0 C S P T (mkF m pc Ls (.int z :: rest)) :=
  X.retOut hret rfl (Or.inl ⟨rfl, Or.inl rfl, z, rfl⟩) hd hc hs hP
theorem Std.retA (X : Std p l e R s m args below meth c Z own n0 T h k n) {w : Value} {t : FieldType} (hret : meth.sig.returnType = some t) (ht : t.isReference = true) (hw : w.isRef = true) (hd : decode c.code pc = .ok (.areturn, 1)) (hc : k ≤ C) (hs : n ≤ S) (hP : P (some w) h) : Goes p e below s n0 C S P T (mkF m pc Ls (w :: rest)) :=
  X.retOut hret (by rcases ref_cases hw with rfl | ⟨a, rfl⟩ <;> cases t <;> rfl) (Or.inr (Or.inr (Or.inr (Or.inr ⟨rfl, ht, hw⟩)))) hd hc hs hP
theorem Std.retJ (X : Std p l e R s m args below meth c Z own n0 T h k n) {z : Int64} (hret : meth.sig.returnType = some .long) (hd : decode c.code pc = .ok (.lreturn, 1)) (hc : k ≤ C) (hs : n ≤ S) (hP : P (some (.long z)) h) : Goes p e below s n0 C S P T (mkF m pc Ls (.long z :: rest)) :=
  X.retOut hret rfl (Or.inr (Or.inl ⟨rfl, rfl, z, rfl⟩)) hd hc hs hP
theorem Std.retN (X : Std p l e R s m args below meth c Z own n0 T h k n) {z : Int32} {t : FieldType} (hret : meth.sig.returnType = some t) (ht : t = .boolean ∨ t = .byte ∨ t = .char ∨ t = .short) (hd : decode c.code pc = .ok (.ireturn, 1)) (hc : k ≤ C) (hs : n ≤ S) (hP : P (some (.int (nar t z))) h) : Goes p e below s n0 C S P T (mkF m pc Ls (.int z :: rest)) := by
  obtain ⟨vm0, ⟨L, X, N⟩, rfl, hx, -, -, hB, -, hlk⟩ := X
  obtain ⟨fs, hr, hrun, hended, hE⟩ := Bk.leave X hB (v := some (.int (nar t z))) (fun q => by rw [hret] at q; cases q) hlk
  exact ⟨_, _, L, Jvm.RoadKit.retN X hx hret ht hd hr, hrun, hended, ⟨N, hP⟩, EndF.mono hE hc hs⟩
theorem Std.retZ (X : Std p l e R s m args below meth c Z own n0 T h k n) {z : Int32} (hret : meth.sig.returnType = some .boolean) (hd : decode c.code pc = .ok (.ireturn, 1)) (hc : k ≤ C) (hs : n ≤ S) (hP : P (some (.int (nar .boolean z))) h) : Goes p e below s n0 C S P T (mkF m pc Ls (.int z :: rest)) :=
  X.retN hret (Or.inl rfl) hd hc hs hP
theorem Std.retV (X : Std p l e R s m args below meth c Z own n0 T h k n) (hret : meth.sig.returnType = none) (hd : decode c.code pc = .ok (.return_, 1)) (hc : k ≤ C) (hs : n ≤ S) (hP : P none h) : Goes p e below s n0 C S P T (mkF m pc Ls []) := by
  obtain ⟨vm0, ⟨L, X, N⟩, rfl, hx, -, -, hB, -, hlk⟩ := X
  obtain ⟨fs, hr, hrun, hended, hE⟩ := Bk.leave X hB (v := none) (fun _ => rfl) hlk
  exact ⟨_, _, L, X.returnOut hx hret hd hr, hrun, hended, ⟨N, hP⟩, EndF.mono hE hc hs⟩
theorem Std.ldcI (X : Std p l e R s m args below meth c Z own n0 T h k n) {index : Nat} {v : Int32} (w : (Cond.constant own index v).before a0 Z = true) (hd : decode c.code pc = .ok (.ldc index, 2)) (G : Goes p e below s n0 C S P T (mkF m (pc + 2) Ls (.int v :: st))) : Goes p e below s n0 C S P T (mkF m pc Ls st) := by
  obtain ⟨vm0, ⟨L, X, N⟩, -, hx, hZ, hown, -⟩ := X
  exact Goes.by (fun _ q => X.ldcI hx hown (mvT (s := s.setVm vm0) hZ w) rfl hd q) G
theorem Std.ldcWI (X : Std p l e R s m args below meth c Z own n0 T h k n) {index : Nat} {v : Int32} (w : (Cond.constant own index v).before a0 Z = true) (hd : decode c.code pc = .ok (.ldc_w index, 3)) (G : Goes p e below s n0 C S P T (mkF m (pc + 3) Ls (.int v :: st))) : Goes p e below s n0 C S P T (mkF m pc Ls st) := by
  obtain ⟨vm0, ⟨L, X, N⟩, -, hx, hZ, hown, -⟩ := X
  exact Goes.by (fun _ q => X.ldcWI hx hown (mvT (s := s.setVm vm0) hZ w) rfl hd q) G
theorem Std.getS (X : Std p l e R s m args below meth c Z own n0 T h k n) {index : Nat} {R0 O nm d host : String} {v : Value} (w : (Cond.fieldLink own index R0 nm d).before a0 Z = true ∨ (Cond.fieldLinkNest own index R0 nm d host).before a0 Z = true) (via : Via Z R0 O nm d) (F : Sta Z h O nm d v) (hd : decode c.code pc = .ok (.getstatic index, 3))
    (G : ∀ T, Std p l e R s m args below meth c Z own n0 T h k n → Goes p e below s n0 C S P T (mkF m (pc + 3) Ls (v :: st))) : Goes p e below s n0 C S P T (mkF m pc Ls st) := by
  obtain ⟨vm0, ⟨L, X, N⟩, eT, hx, hZ, hown, r⟩ := X
  obtain ⟨T1, X1, e1, st1⟩ := Jvm.RoadKit.getS2 X hx hZ hown w via eT F (g := mkF m pc Ls st) rfl hd
  exact Goes.by st1 (G T1 ⟨vm0, ⟨L, X1, N⟩, e1, hx, hZ, hown, r⟩)
theorem Std.getF (X : Std p l e R s m args below meth c Z own n0 T h k n) {index : Nat} {R0 O nm d host : String} {a : Addr} {v : Value} (w : (Cond.fieldLink own index R0 nm d).before a0 Z = true ∨ (Cond.fieldLinkNest own index R0 nm d host).before a0 Z = true) (via : Via Z R0 O nm d) (F : Fld Z h a O nm d v) (hd : decode c.code pc = .ok (.getfield index, 3))
    (G : ∀ T, Std p l e R s m args below meth c Z own n0 T h k n → Goes p e below s n0 C S P T (mkF m (pc + 3) Ls (v :: rest))) : Goes p e below s n0 C S P T (mkF m pc Ls (.ref a :: rest)) := by
  obtain ⟨vm0, ⟨L, X, N⟩, eT, hx, hZ, hown, r⟩ := X
  obtain ⟨T1, X1, e1, st1⟩ := Jvm.RoadKit.getF X hx hZ hown w via eT F (g := mkF m pc Ls (.ref a :: rest)) rfl rfl hd
  exact Goes.by st1 (G T1 ⟨vm0, ⟨L, X1, N⟩, e1, hx, hZ, hown, r⟩)
theorem Std.putF (X : Std p l e R s m args below meth c Z own n0 T h k n) {index kk : Nat} {R0 O nm d host K : String} {ty : FieldType} {a : Addr} {v old : Value} (w : (Cond.fieldLink own index R0 nm d).before a0 Z = true ∨ (Cond.fieldLinkNest own index R0 nm d host).before a0 Z = true) (via : Via Z R0 O nm d) (F : Fld Z h a O nm d old) (E : Exa Z h a K)
    (L : (Cond.lays K O nm d).before a0 Z = true ∨ ((Cond.laysFinal K O nm d).before a0 Z = true ∧ own = O ∧ meth.name = "<init>")) (wi : (Cond.instantiable K kk).before a0 Z = true) (hty : parseFieldDescriptor d = some ty) (hn : narrow ty v = v) (hf : fits ty v = true) (ha : n0 ≤ a) (hd : decode c.code pc = .ok (.putfield index, 3))
    (G : ∀ T h', Std p l e R s m args below meth c Z own n0 T h' k n → Wr h h' a (Jvm.RoadKit.slotOf Z O nm d) v → Goes p e below s n0 C S P T (mkF m (pc + 3) Ls rest)) : Goes p e below s n0 C S P T (mkF m pc Ls (v :: .ref a :: rest)) := by
  obtain ⟨vm0, ⟨L0, X, N⟩, eT, hx, hZ, hown, hB, r⟩ := X
  obtain ⟨T1, h1, X1, e1, W1, st1⟩ := Jvm.RoadKit.putF X hx hZ hown w via eT F E L wi hty hn hf (g := mkF m pc Ls (v :: .ref a :: rest)) rfl rfl hd
  exact Goes.by st1 (G T1 h1 ⟨vm0, ⟨_, X1, Fr.snoc X1 N ha⟩, e1, hx, hZ, hown, hB.mono (Nat.le_of_eq W1.size.symm), r⟩ W1)
theorem Std.newO (X : Std p l e R s m args below meth c Z own n0 T h k n) {index j : Nat} {K : String} (w : (Cond.classLink own index K).before a0 Z = true) (wi : (Cond.instantiable K j).before a0 Z = true) (wz : (Cond.initialized K).before a0 Z = true) (hd : decode c.code pc = .ok (.new index, 3)) (hc : k + 1 ≤ R.cells) (hl : n + j ≤ R.slots)
    (G : ∀ T h' a, Std p l e R s m args below meth c Z own n0 T h' (k + 1) (n + j) → a = h.size → n0 ≤ a → Ext h h' → Exa Z h' a K → (∀ {O nm d : String} {ty : FieldType}, Laid Z a0 K O nm d → parseFieldDescriptor d = some ty → Fld Z h' a O nm d (defaultValue ty)) → Goes p e below s n0 C S P T (mkF m (pc + 3) Ls (.ref a :: st))) : Goes p e below s n0 C S P T (mkF m pc Ls st) := by
  have q := X.n0le
  obtain ⟨vm0, ⟨L0, X, N⟩, eT, hx, hZ, hown, hB, r⟩ := X
  obtain ⟨T1, h1, X1, e1, E1, A1, D1, -, st1⟩ := Jvm.RoadKit.newO X hx hZ hown w wi wz eT (g := mkF m pc Ls st) rfl hd hc hl
  exact Goes.by st1 (G T1 h1 h.size ⟨vm0, ⟨_, X1, N⟩, e1, hx, hZ, hown, hB.mono E1.1, r⟩ rfl q E1 A1 D1)
theorem Std.initO (X : Std p l e R s m args below meth c Z own n0 T h k n) {index : Nat} {a : Addr} (w1 : (Cond.methodLink own index Lib.objectInit).before a0 Z = true) (w2 : (Cond.instanceMethod Lib.objectInit).before a0 Z = true) (w3 : (Cond.code Lib.objectInit object_method_1_code 1 none).before a0 Z = true) (hsz : Ls.size = c.maxLocals) (hd : decode c.code pc = .ok (.invokespecial index, 3)) (hf : 1 ≤ R.frames) (hl : (rest.map fun v => v.category).sum + 12 ≤ R.locals)
    (G : ∀ T, Std p l e R s m args below meth c Z own n0 T h k n → Goes p e below s n0 C S P T (mkF m (pc + 3) Ls rest)) : Goes p e below s n0 C S P T (mkF m pc Ls (.ref a :: rest)) := by
  obtain ⟨vm0, ⟨L, X, N⟩, eT, hx, hZ, hown, r⟩ := X
  obtain ⟨T1, X1, e1, st1⟩ := Jvm.RoadKit.initO X hx hZ hown w1 w2 w3 eT (g := mkF m pc Ls (.ref a :: rest)) rfl hsz rfl hd hf (W := (rest.map fun v => v.category).sum) (by show 2 * 0 + _ ≤ _; omega) hl
  exact Goes.by st1 (G T1 ⟨vm0, ⟨L, X1, N⟩, e1, hx, hZ, hown, r⟩)
theorem Std.irem (X : Std p l e R s m args below meth c Z own n0 T h k n) {x y : Int32} (hd : decode c.code pc = .ok (.irem, 1)) (hy : y ≠ 0) (G : Goes p e below s n0 C S P T (mkF m (pc + 1) Ls (.int (x % y) :: rest))) : Goes p e below s n0 C S P T (mkF m pc Ls (.int y :: .int x :: rest)) := by
  obtain ⟨vm0, ⟨L, X, N⟩, eT, hx, r⟩ := X
  exact Goes.by (fun _ q => iremM X hx rfl hd rfl hy q) G
theorem Std.acmp (X : Std p l e R s m args below meth c Z own n0 T h k n) {cd : ACond} {x y : Value} (h1 : x.isRef = true) (h2 : y.isRef = true) {o : Int} {pc' : Nat} {same : Bool} (hd : decode c.code pc = .ok (.if_acmp cd o, 3)) (hq : decide (x = y) = same) (ho : 0 ≤ (pc : Int) + o) (hp : pc' = if acV cd same = true then ((pc : Int) + o).toNat else pc + 3) (G : Goes p e below s n0 C S P T (mkF m pc' Ls rest)) : Goes p e below s n0 C S P T (mkF m pc Ls (y :: x :: rest)) := by
  obtain ⟨vm0, ⟨L, X, N⟩, eT, hx, r⟩ := X
  exact Goes.by (fun _ q => Jvm.RoadKit.acmp X hx rfl h1 h2 rfl hd rfl hq ho hp q) G
theorem metW {ws : List Jvm.Cond} {y : MethodName} {bytes : ByteArray} {maxL : Nat} {ret : Option FieldType} {rm : Room} {as' : Array Value} {h0 : Heap} {Q : Option Value → Heap → Prop} (hpl : plainFor y = true) (hn0 : n0 ≤ h0.size)
    (body : ∀ p e s m below meth c s₁, Std p l e rm s m as' below meth c Z y.cls n0 s₁ h0 0 0 → c.code = bytes → c.maxLocals = maxL → meth.sig.returnType = ret → meth.name = y.name → Goes p e below s n0 rm.cells rm.slots Q s₁ (entryFrame m as' maxL)) :
    MetFree l y (head1 (Cond.code y bytes maxL ret :: ws) rm) (fun a U => a = as' ∧ Z.Warmed39 U.vm ∧ U.heap = h0) (fun _ _ _ _ _ => True) (fun _ U o U' => ∃ v L, o = .returned v ∧ (Fr n0 L ∧ Q v U'.heap) ∧ EndF U o U' L rm.cells rm.slots) := by
  refine MetFree.of_bodySF hpl hisR ?_
  intro p e s m args below meth c s₁ Bd hml hP hK
  obtain ⟨rfl, hZ, hh⟩ := hP
  have e0 : s₁.heap = h0 := by rw [← hh, Bd.state]; rfl
  obtain ⟨s₂, v, L, h1, h2, h3, h4, h5⟩ := body p e s m below meth c s₁ ⟨s.vm, ⟨[], Stand.of_body Bd, Fr.nil n0⟩, e0, Bd.exec, hZ, findClass_of_methodNamed Bd.named, Bk.start, by rw [hh]; exact hn0, Bd.notSynchronized⟩ Bd.bytes hml Bd.returns (name_of_methodNamed Bd.named Bd.method).1
  exact ⟨s₂, _, h1, h2, h3, v, L, rfl, h4, h5⟩
theorem Std.callS (X : Std p l e R s m args below meth c Z own n0 T h k n) {index : Nat} {y : MethodName} {bytes : ByteArray} {maxL : Nat} {ret : Option FieldType} {rm : Room} {argsL : List Value} {Q : Option Value → Heap → Prop} {ps : List FieldType} {r : Option FieldType} (w1 : (Cond.methodLink own index y).before a0 Z = true) (w2 : (Cond.static y).before a0 Z = true) (wz : (Cond.initialized y.cls).before a0 Z = true) (wc : (Cond.code y bytes maxL ret).before a0 Z = true) (hy : y.cls ≠ "java/lang/invoke/MethodHandle" ∧ y.cls ≠ "java/lang/invoke/VarHandle")
    (hpd : parseMethodDescriptor y.desc = some ⟨ps, r⟩) (hlen : argsL.length = ps.length) (M : Met l Z n0 y bytes maxL ret rm argsL.toArray h Q) (hsz : Ls.size = c.maxLocals) (hstk : st = argsL.reverse ++ rest) (hf : rm.frames + 1 ≤ R.frames) (hl : (rest.map fun v => v.category).sum + (maxL + 11) + rm.locals ≤ R.locals) (hd : decode c.code pc = .ok (.invokestatic index, 3)) (hc : k + rm.cells ≤ R.cells) (hs : n + rm.slots ≤ R.slots)
    (G : ∀ T h' v, Std p l e R s m args below meth c Z own n0 T h' (k + rm.cells) (n + rm.slots) → Q v h' → Goes p e below s n0 C S P T (mkF m (pc + 3) Ls (v.toList ++ rest))) : Goes p e below s n0 C S P T (mkF m pc Ls st) := by
  obtain ⟨vm0, ⟨L0, X, N⟩, eT, hx, hZ, hown, hB, r⟩ := X
  subst eT
  obtain ⟨v, vm1, T1, L2, X1, hB1, hZ1, hown1, N2, hQ, st1⟩ := Bk.callS X hx hB hZ hown w1 w2 wz wc hy hpd hlen M hsz hstk hf hl hd hc hs
  exact Goes.by st1 (G T1 _ v ⟨vm1, ⟨_, X1, Fr.app N N2⟩, rfl, hx, hZ1, hown1, hB1, r⟩ hQ)
theorem Std.callSN (X : Std p l e R s m args below meth c Z own n0 T h k n) {index : Nat} {y : MethodName} {bytes : ByteArray} {maxL : Nat} {ret : Option FieldType} {rm : Room} {argsL : List Value} {Q : Option Value → Heap → Prop} {ps : List FieldType} {r : Option FieldType} {host : String} (w1 : (Cond.methodLinkNest own index y host).before a0 Z = true) (w2 : (Cond.static y).before a0 Z = true) (wz : (Cond.initialized y.cls).before a0 Z = true) (wc : (Cond.code y bytes maxL ret).before a0 Z = true) (hy : y.cls ≠ "java/lang/invoke/MethodHandle" ∧ y.cls ≠ "java/lang/invoke/VarHandle")
    (hpd : parseMethodDescriptor y.desc = some ⟨ps, r⟩) (hlen : argsL.length = ps.length) (M : Met l Z n0 y bytes maxL ret rm argsL.toArray h Q) (hsz : Ls.size = c.maxLocals) (hstk : st = argsL.reverse ++ rest) (hf : rm.frames + 1 ≤ R.frames) (hl : (rest.map fun v => v.category).sum + (maxL + 11) + rm.locals ≤ R.locals) (hd : decode c.code pc = .ok (.invokestatic index, 3)) (hc : k + rm.cells ≤ R.cells) (hs : n + rm.slots ≤ R.slots)
    (G : ∀ T h' v, Std p l e R s m args below meth c Z own n0 T h' (k + rm.cells) (n + rm.slots) → Q v h' → Goes p e below s n0 C S P T (mkF m (pc + 3) Ls (v.toList ++ rest))) : Goes p e below s n0 C S P T (mkF m pc Ls st) := by
  obtain ⟨vm0, ⟨L0, X, N⟩, eT, hx, hZ, hown, hB, r⟩ := X
  subst eT
  obtain ⟨v, vm1, T1, L2, X1, hB1, hZ1, hown1, N2, hQ, st1⟩ := Bk.callSN X hx hB hZ hown w1 w2 wz wc hy hpd hlen M hsz hstk hf hl hd hc hs
  exact Goes.by st1 (G T1 _ v ⟨vm1, ⟨_, X1, Fr.app N N2⟩, rfl, hx, hZ1, hown1, hB1, r⟩ hQ)
theorem Std.callV (X : Std p l e R s m args below meth c Z own n0 T h k n) {index : Nat} {y : MethodName} {bytes : ByteArray} {maxL : Nat} {ret : Option FieldType} {rm : Room} {argsL : List Value} {Q : Option Value → Heap → Prop} {ps : List FieldType} {r : Option FieldType} {z : MethodName} {K : String} {b : Addr} (E : Exa Z h b K) (w1 : (Cond.methodLink own index y).before a0 Z = true) (w2 : (Cond.declares y).before a0 Z = true) (w3 : (Cond.selects K y z).before a0 Z = true) {D : String} {x' z' : MethodName} (w5 : (Cond.selects D x' z').before a0 Z = true) (h5 : z'.cls = y.cls) (w4 : (Cond.instanceMethod z).before a0 Z = true) (wz : (Cond.initialized z.cls).before a0 Z = true) (wc : (Cond.code z bytes maxL ret).before a0 Z = true) (hy : y.cls ≠ "java/lang/invoke/MethodHandle" ∧ y.cls ≠ "java/lang/invoke/VarHandle")
    (hpd : parseMethodDescriptor y.desc = some ⟨ps, r⟩) (hlen : argsL.length = ps.length) (M : Met l Z n0 z bytes maxL ret rm (.ref b :: argsL).toArray h Q) (hsz : Ls.size = c.maxLocals) (hstk : st = argsL.reverse ++ .ref b :: rest) (hf : rm.frames + 1 ≤ R.frames) (hl : (rest.map fun v => v.category).sum + (maxL + 11) + rm.locals ≤ R.locals) (hd : decode c.code pc = .ok (.invokevirtual index, 3)) (hc : k + rm.cells ≤ R.cells) (hs : n + rm.slots ≤ R.slots)
    (G : ∀ T h' v, Std p l e R s m args below meth c Z own n0 T h' (k + rm.cells) (n + rm.slots) → Q v h' → Goes p e below s n0 C S P T (mkF m (pc + 3) Ls (v.toList ++ rest))) : Goes p e below s n0 C S P T (mkF m pc Ls st) := by
  obtain ⟨vm0, ⟨L0, X, N⟩, eT, hx, hZ, hown, hB, r⟩ := X
  subst eT
  obtain ⟨v, vm1, T1, L2, X1, hB1, hZ1, hown1, N2, hQ, st1⟩ := Bk.callV X hx hB hZ hown E w1 w2 w3 w5 h5 w4 wz wc hy hpd hlen M hsz hstk hf hl hd hc hs
  exact Goes.by st1 (G T1 _ v ⟨vm1, ⟨_, X1, Fr.app N N2⟩, rfl, hx, hZ1, hown1, hB1, r⟩ hQ)
theorem Std.callU (X : Std p l e R s m args below meth c Z own n0 T h k n) {index : Nat} {y : MethodName} {bytes : ByteArray} {maxL : Nat} {ret : Option FieldType} {rm : Room} {argsL : List Value} {Q : Option Value → Heap → Prop} {ps : List FieldType} {r : Option FieldType} {z : MethodName} {owner K : String} {b : Addr} (E : Exa Z h b K) (w1 : (Cond.methodLink own index y).before a0 Z = true) (wsm : (Cond.sameMethod y.cls owner y.name y.desc).before a0 Z = true) (w2 : (Cond.declares ⟨owner, y.name, y.desc⟩).before a0 Z = true) (ho : owner ≠ "java/lang/invoke/MethodHandle" ∧ owner ≠ "java/lang/invoke/VarHandle") (w3 : (Cond.selects K y z).before a0 Z = true) (w4 : (Cond.instanceMethod z).before a0 Z = true) (wz : (Cond.initialized z.cls).before a0 Z = true) (wc : (Cond.code z bytes maxL ret).before a0 Z = true)
    (hpd : parseMethodDescriptor y.desc = some ⟨ps, r⟩) (hlen : argsL.length = ps.length) (M : Met l Z n0 z bytes maxL ret rm (.ref b :: argsL).toArray h Q) (hsz : Ls.size = c.maxLocals) (hstk : st = argsL.reverse ++ .ref b :: rest) (hf : rm.frames + 1 ≤ R.frames) (hl : (rest.map fun v => v.category).sum + (maxL + 11) + rm.locals ≤ R.locals) (hd : decode c.code pc = .ok (.invokevirtual index, 3)) (hc : k + rm.cells ≤ R.cells) (hs : n + rm.slots ≤ R.slots)
    (G : ∀ T h' v, Std p l e R s m args below meth c Z own n0 T h' (k + rm.cells) (n + rm.slots) → Q v h' → Goes p e below s n0 C S P T (mkF m (pc + 3) Ls (v.toList ++ rest))) : Goes p e below s n0 C S P T (mkF m pc Ls st) := by
  obtain ⟨vm0, ⟨L0, X, N⟩, eT, hx, hZ, hown, hB, r⟩ := X
  subst eT
  obtain ⟨v, vm1, T1, L2, X1, hB1, hZ1, hown1, N2, hQ, st1⟩ := Bk.callU X hx hB hZ hown E w1 wsm w2 ho w3 w4 wz wc hpd hlen M hsz hstk hf hl hd hc hs
  exact Goes.by st1 (G T1 _ v ⟨vm1, ⟨_, X1, Fr.app N N2⟩, rfl, hx, hZ1, hown1, hB1, r⟩ hQ)
theorem Std.callN (X : Std p l e R s m args below meth c Z own n0 T h k n) {index : Nat} {y : MethodName} {bytes : ByteArray} {maxL : Nat} {rm : Room} {argsL : List Value} {Q : Option Value → Heap → Prop} {ps : List FieldType} {r : Option FieldType} {b : Addr} (hin : y.name = "<init>") (w1 : (Cond.methodLink own index y).before a0 Z = true) (w4 : (Cond.instanceMethod y).before a0 Z = true) (wz : (Cond.initialized y.cls).before a0 Z = true) (wc : (Cond.code y bytes maxL none).before a0 Z = true) (hy : y.cls ≠ "java/lang/invoke/MethodHandle" ∧ y.cls ≠ "java/lang/invoke/VarHandle")
    (hpd : parseMethodDescriptor y.desc = some ⟨ps, r⟩) (hlen : argsL.length = ps.length) (M : Met l Z n0 y bytes maxL none rm (.ref b :: argsL).toArray h Q) (hsz : Ls.size = c.maxLocals) (hstk : st = argsL.reverse ++ .ref b :: rest) (hf : rm.frames + 1 ≤ R.frames) (hl : (rest.map fun v => v.category).sum + (maxL + 11) + rm.locals ≤ R.locals) (hd : decode c.code pc = .ok (.invokespecial index, 3)) (hc : k + rm.cells ≤ R.cells) (hs : n + rm.slots ≤ R.slots)
    (G : ∀ T h' v, Std p l e R s m args below meth c Z own n0 T h' (k + rm.cells) (n + rm.slots) → Q v h' → Goes p e below s n0 C S P T (mkF m (pc + 3) Ls (v.toList ++ rest))) : Goes p e below s n0 C S P T (mkF m pc Ls st) := by
  obtain ⟨vm0, ⟨L0, X, N⟩, eT, hx, hZ, hown, hB, r⟩ := X
  subst eT
  obtain ⟨v, vm1, T1, L2, X1, hB1, hZ1, hown1, N2, hQ, st1⟩ := Bk.callN X hx hB hZ hown hin w1 w4 wz wc hy hpd hlen M hsz hstk hf hl hd hc hs
  exact Goes.by st1 (G T1 _ v ⟨vm1, ⟨_, X1, Fr.app N N2⟩, rfl, hx, hZ1, hown1, hB1, r⟩ hQ)
theorem fldEq {args : Array Value} {s : State} {t : Term} {a : Addr} {C n d : String} {k : Int32} (ht : t.eval args s none [] s = some (.ref a)) (h : (Jvm.Cond.eq (.field t C n d) (.int k)).value args s none s [] = some true) : Fld s s.heap a C n d (.int k) := by
  obtain ⟨x, y, ex, ey, kx, ky⟩ := cmp_v (Or.inl h)
  have hy : y = .int k := Option.some.inj (ey.symm.trans (Term.int_eval k))
  subst hy
  obtain ⟨z, rfl⟩ : ∃ z, x = .int z := ky
  have q := gotT (Cond.eq_ints ex (Term.int_eval k)) h
  subst q
  exact Fld.start ((fld_at ht).symm.trans ex)
theorem fldEqS {args : Array Value} {s : State} {t u : Term} {a b : Addr} {C n d : String} (ht : t.eval args s none [] s = some (.ref a)) (hu : u.eval args s none [] s = some (.ref b)) (h : (Jvm.Cond.eq (.field t C n d) u).value args s none s [] = some true) : Fld s s.heap a C n d (.ref b) := by
  obtain ⟨x, y, ex, ey, kx, ky⟩ := cmp_v (Or.inl h)
  have hy : y = .ref b := Option.some.inj (ey.symm.trans hu)
  subst hy
  have hx : x.isRef = true := (show (Value.ref b).isRef = true ∧ x.isRef = true from ky).2
  have q := gotT (eq_R ex hu hx rfl) h
  subst q
  exact Fld.start ((fld_at ht).symm.trans ex)
theorem staEq {args : Array Value} {s : State} {C n d : String} {k : Int32} (h : (Jvm.Cond.eq (.static C n d) (.int k)).value args s none s [] = some true) (hi : (Jvm.Cond.initializedFor C n d).before args s = true ∨ ((Jvm.Cond.initialized C).before args s = true ∧ (Jvm.Cond.laysStatic C n d).before args s = true)) : Sta s s.heap C n d (.int k) := by
  obtain ⟨x, y, ex, ey, kx, ky⟩ := cmp_v (Or.inl h)
  have hy : y = .int k := Option.some.inj (ey.symm.trans (Term.int_eval k))
  subst hy
  obtain ⟨z, rfl⟩ : ∃ z, x = .int z := ky
  have q := gotT (Cond.eq_ints ex (Term.int_eval k)) h
  subst q
  exact Sta.start ex hi
/-- the law's masks -/
theorem maskR (x n : Int32) (N : Int) (hn : n.toInt = N) (hp : 0 < N) : 0 ≤ ((x &&& 2147483647) % n).toInt ∧ ((x &&& 2147483647) % n).toInt < N := by
  have h1 := (c_and x 2147483647 (by decide)).1
  have h2 := (c_irem (x &&& 2147483647) n N hn).1 h1
  rw [h2]
  exact ⟨Int.emod_nonneg _ (by omega), Int.emod_lt_of_pos _ hp⟩
theorem i32_eq {x y : Int32} (h : x.toInt = y.toInt) : x = y := Int32.toInt_inj.mp h
theorem Sta.keep' {C nm d : String} {v : Value} {ws : List Addr} (F : Sta Z h C nm d v) (K : Keep h h' ws) (q : ∀ x ∈ ws, ∃ D, Exa Z h x D) : Sta Z h' C nm d v := by
  obtain ⟨cf, i, k, f, st, cell, h1, h2, h3, h4, h5, h6, h7⟩ := F
  refine ⟨cf, i, k, f, st, cell, h1, h2, h3, h4, K.2.1 st cell h5 fun r => ?_, h6, h7⟩
  obtain ⟨D, c2, _, e1, -, -, e4, -⟩ := q st r
  cases h5.symm.trans e1
  rw [h6] at e4
  cases e4
theorem leB {a b : Nat} (h : Nat.ble a b = true) : a ≤ b := Nat.le_of_ble_eq_true h
theorem addI {x y : Int32} (h1 : -2147483648 ≤ x.toInt + y.toInt) (h2 : x.toInt + y.toInt < 2147483648) : (x + y).toInt = x.toInt + y.toInt := by
  have q1 := c_iadd x y
  have q2 := rng32 (x + y)
  omega
theorem subI {x y : Int32} (h1 : -2147483648 ≤ x.toInt - y.toInt) (h2 : x.toInt - y.toInt < 2147483648) : (x - y).toInt = x.toInt - y.toInt := by
  have q1 := c_isub x y
  have q2 := rng32 (x - y)
  omega
def cI (x : Int32) : Int32 := x
theorem ltI {x y : Int32} : x < y ↔ x.toInt < y.toInt := Int32.lt_iff_toInt_lt
theorem eqI {x y : Int32} : x = y ↔ x.toInt = y.toInt := Int32.toInt_inj.symm
end OwnKit
section OwnArr
variable {p : Program} {l : Launch} {e : Env} {R : Room} {s : State} {m : MethodId} {args : Array Value} {below : List Frame} {meth : Method} {c : Code} {T T' : State} {Z : State} {own : String} {h h' : Heap} {n0 k n C S : Nat} {a0 : Array Value} {P : Option Value → Heap → Prop} {g g' : JFrame} {pc : Nat} {Ls : Array Slot} {st rest : List Value}
/-- an array of N values -/
def PArr (Z : State) (h : Heap) (a : Addr) (ty : FieldType) (N : Nat) (f : Nat → Value) : Prop := ∃ c : Cell, Arr Z h a c ty ∧ c.slots.size = N ∧ N < 2 ^ 31 ∧ ∀ i, i < N → c.slots[i]? = some (f i)
variable {a b : Addr} {ty : FieldType} {N sl : Nat} {f : Nat → Value} {v : Value} {ws : List Addr}
theorem PArr.lt (F : PArr Z h a ty N f) : a < h.size := by obtain ⟨c, A, -⟩ := F; exact A.lt
theorem PArr.ext (F : PArr Z h a ty N f) (E : Ext h h') : PArr Z h' a ty N f := by obtain ⟨c, A, r⟩ := F; exact ⟨c, A.ext E, r⟩
theorem PArr.other (F : PArr Z h b ty N f) (W : Wr h h' a sl v) (q : b ≠ a) : PArr Z h' b ty N f := by obtain ⟨c, A, r⟩ := F; exact ⟨c, A.other W q, r⟩
theorem PArr.keep (F : PArr Z h a ty N f) (K : Keep h h' ws) (q : a ∉ ws) : PArr Z h' a ty N f := by obtain ⟨c, A, r⟩ := F; exact ⟨c, ⟨K.2.1 a c A.1 q, A.2⟩, r⟩
theorem PArr.congr {f' : Nat → Value} (F : PArr Z h a ty N f) (q : ∀ i, i < N → f i = f' i) : PArr Z h a ty N f' := by obtain ⟨c, A, r1, r2, r3⟩ := F; exact ⟨c, A, r1, r2, fun i hi => by rw [← q i hi]; exact r3 i hi⟩
theorem PArr.small (F : PArr Z h a ty N f) : N < 2 ^ 31 := by obtain ⟨c, A, r1, r2, r3⟩ := F; exact r2
theorem PArr.set (F : PArr Z h a ty N f) (W : Wr h h' a sl v) : PArr Z h' a ty N (fun i => if i = sl then v else f i) := by
  obtain ⟨c, A, r1, r2, r3⟩ := F
  obtain ⟨cell, q1, q2, q3, q4⟩ := id W
  cases q1.symm.trans A.1
  refine ⟨_, A.same W, by rw [sz_set]; exact r1, r2, fun i hi => ?_⟩
  show (c.slots.setIfInBounds sl v)[i]? = some (if i = sl then v else f i)
  by_cases e : i = sl
  · subst e
    rw [if_pos rfl]
    simp [q3]
  · rw [if_neg e, Array.getElem?_setIfInBounds_ne (Ne.symm e)]
    exact r3 i hi
theorem idxN {j : Int32} {i : Nat} (hj : j.toInt = i) : j.toNatClampNeg = i ∧ ¬ j < 0 := by
  constructor
  · show j.toInt.toNat = i
    omega
  · rw [Int32.lt_iff_toInt_lt]
    show ¬ j.toInt < 0
    omega
theorem idxI {c : Cell} {j : Int32} {i : Nat} (hs : c.slots.size = N) (hj : j.toInt = i) (hi : i < N) : ¬ (j < 0 ∨ c.slots.size ≤ j.toNatClampNeg) := by
  rw [(idxN hj).1, hs]
  rintro (q | q)
  · exact (idxN hj).2 q
  · omega
theorem Std.iaload (X : Std p l e R s m args below meth c Z own n0 T h k n) (F : PArr Z h a .int N f) {j : Int32} {i : Nat} (hj : j.toInt = i) (hi : i < N) (hd : decode c.code pc = .ok (.iaload, 1)) (G : Goes p e below s n0 C S P T (mkF m (pc + 1) Ls (f i :: rest))) : Goes p e below s n0 C S P T (mkF m pc Ls (.int j :: .ref a :: rest)) := by
  obtain ⟨vm0, ⟨L, X, -⟩, eT, hx, hZ, -⟩ := X
  obtain ⟨cl, A, r1, r2, r3⟩ := F
  exact Goes.by (fun t q => X.iaload hx (g := mkF m pc Ls (.int j :: .ref a :: rest)) (by rw [eT]; exact A.1) (State.isArrayOf_alike hZ.alike A.2.1) A.2.2 (idxI r1 hj hi) (v := f i) (by rw [(idxN hj).1]; exact r3 i hi) rfl rfl hd t q) G
theorem Std.laload (X : Std p l e R s m args below meth c Z own n0 T h k n) (F : PArr Z h a .long N f) {j : Int32} {i : Nat} (hj : j.toInt = i) (hi : i < N) (hd : decode c.code pc = .ok (.laload, 1)) (G : Goes p e below s n0 C S P T (mkF m (pc + 1) Ls (f i :: rest))) : Goes p e below s n0 C S P T (mkF m pc Ls (.int j :: .ref a :: rest)) := by
  obtain ⟨vm0, ⟨L, X, -⟩, eT, hx, hZ, -⟩ := X
  obtain ⟨cl, A, r1, r2, r3⟩ := F
  exact Goes.by (fun t q => X.laload hx (g := mkF m pc Ls (.int j :: .ref a :: rest)) (by rw [eT]; exact A.1) (State.isArrayOf_alike hZ.alike A.2.1) A.2.2 (idxI r1 hj hi) (v := f i) (by rw [(idxN hj).1]; exact r3 i hi) rfl rfl hd t q) G
theorem Std.baloadB (X : Std p l e R s m args below meth c Z own n0 T h k n) (F : PArr Z h a .byte N f) {j : Int32} {i : Nat} (hj : j.toInt = i) (hi : i < N) (hd : decode c.code pc = .ok (.baload, 1)) (G : Goes p e below s n0 C S P T (mkF m (pc + 1) Ls (f i :: rest))) : Goes p e below s n0 C S P T (mkF m pc Ls (.int j :: .ref a :: rest)) := by
  obtain ⟨vm0, ⟨L, X, -⟩, eT, hx, hZ, -⟩ := X
  obtain ⟨cl, A, r1, r2, r3⟩ := F
  exact Goes.by (fun t q => X.baloadBytes hx (g := mkF m pc Ls (.int j :: .ref a :: rest)) (by rw [eT]; exact A.1) (State.isArrayOf_alike hZ.alike A.2.1) A.2.2 (idxI r1 hj hi) (v := f i) (by rw [(idxN hj).1]; exact r3 i hi) rfl rfl hd t q) G
theorem Std.baloadZ (X : Std p l e R s m args below meth c Z own n0 T h k n) (F : PArr Z h a .boolean N f) {j : Int32} {i : Nat} (hj : j.toInt = i) (hi : i < N) (hd : decode c.code pc = .ok (.baload, 1)) (G : Goes p e below s n0 C S P T (mkF m (pc + 1) Ls (f i :: rest))) : Goes p e below s n0 C S P T (mkF m pc Ls (.int j :: .ref a :: rest)) := by
  obtain ⟨vm0, ⟨L, X, -⟩, eT, hx, hZ, -⟩ := X
  obtain ⟨cl, A, r1, r2, r3⟩ := F
  exact Goes.by (fun t q => X.baloadBooleans hx (g := mkF m pc Ls (.int j :: .ref a :: rest)) (by rw [eT]; exact A.1) (State.isArrayOf_alike hZ.alike A.2.1) A.2.2 (idxI r1 hj hi) (v := f i) (by rw [(idxN hj).1]; exact r3 i hi) rfl rfl hd t q) G
theorem Std.alen (X : Std p l e R s m args below meth c Z own n0 T h k n) (F : PArr Z h a ty N f) {z : Int32} (hz : z.toInt = N) (hd : decode c.code pc = .ok (.arraylength, 1)) (G : Goes p e below s n0 C S P T (mkF m (pc + 1) Ls (.int z :: rest))) : Goes p e below s n0 C S P T (mkF m pc Ls (.ref a :: rest)) := by
  obtain ⟨vm0, ⟨L, X, -⟩, eT, hx, hZ, -⟩ := X
  obtain ⟨cl, A, r1, r2, r3⟩ := F
  have q : cl.slots.size.toInt32 = z := Int32.toInt_inj.mp (by rw [r1, hz]; exact len_toInt r2)
  refine Goes.by (fun t q => X.arraylength hx (g := mkF m pc Ls (.ref a :: rest)) (by rw [eT]; exact A.1) (State.isArrayOf_alike hZ.alike A.2.1) rfl rfl hd t q) ?_
  rw [q]
  exact G
theorem Std.iastore (X : Std p l e R s m args below meth c Z own n0 T h k n) (F : PArr Z h a .int N f) {j x : Int32} {i : Nat} (hj : j.toInt = i) (hi : i < N) (ha : n0 ≤ a) (hd : decode c.code pc = .ok (.iastore, 1))
    (G : ∀ T h', Std p l e R s m args below meth c Z own n0 T h' k n → Wr h h' a i (.int x) → Goes p e below s n0 C S P T (mkF m (pc + 1) Ls rest)) : Goes p e below s n0 C S P T (mkF m pc Ls (.int x :: .int j :: .ref a :: rest)) := by
  obtain ⟨vm0, ⟨L, X, M⟩, eT, hx, hZ, hown, hB, r⟩ := X
  obtain ⟨cl, A, r1, r2, r3⟩ := F
  obtain ⟨T1, h1, X1, e1, W1, st1⟩ := stI X hx hZ eT A (x := x) (idxI r1 hj hi) (g := mkF m pc Ls (.int x :: .int j :: .ref a :: rest)) rfl rfl hd
  refine Goes.by st1 (G T1 h1 ⟨vm0, ⟨_, X1, Fr.snoc X1 M ha⟩, e1, hx, hZ, hown, hB.mono (Nat.le_of_eq W1.size.symm), r⟩ ?_)
  rw [← (idxN hj).1]
  exact W1
theorem Std.bastoreB (X : Std p l e R s m args below meth c Z own n0 T h k n) (F : PArr Z h a .byte N f) {j x : Int32} {i : Nat} (hj : j.toInt = i) (hi : i < N) (ha : n0 ≤ a) (hd : decode c.code pc = .ok (.bastore, 1))
    (G : ∀ T h', Std p l e R s m args below meth c Z own n0 T h' k n → Wr h h' a i (.int (nar .byte x)) → Goes p e below s n0 C S P T (mkF m (pc + 1) Ls rest)) : Goes p e below s n0 C S P T (mkF m pc Ls (.int x :: .int j :: .ref a :: rest)) := by
  obtain ⟨vm0, ⟨L, X, M⟩, eT, hx, hZ, hown, hB, r⟩ := X
  obtain ⟨cl, A, r1, r2, r3⟩ := F
  obtain ⟨T1, h1, X1, e1, W1, st1⟩ := stB X hx hZ eT A (x := x) (idxI r1 hj hi) (g := mkF m pc Ls (.int x :: .int j :: .ref a :: rest)) rfl rfl hd
  refine Goes.by st1 (G T1 h1 ⟨vm0, ⟨_, X1, Fr.snoc X1 M ha⟩, e1, hx, hZ, hown, hB.mono (Nat.le_of_eq W1.size.symm), r⟩ ?_)
  rw [← (idxN hj).1]
  exact W1
theorem Std.bastoreZ (X : Std p l e R s m args below meth c Z own n0 T h k n) (F : PArr Z h a .boolean N f) {j x : Int32} {i : Nat} (hj : j.toInt = i) (hi : i < N) (ha : n0 ≤ a) (hd : decode c.code pc = .ok (.bastore, 1))
    (G : ∀ T h', Std p l e R s m args below meth c Z own n0 T h' k n → Wr h h' a i (.int (nar .boolean x)) → Goes p e below s n0 C S P T (mkF m (pc + 1) Ls rest)) : Goes p e below s n0 C S P T (mkF m pc Ls (.int x :: .int j :: .ref a :: rest)) := by
  obtain ⟨vm0, ⟨L, X, M⟩, eT, hx, hZ, hown, hB, r⟩ := X
  obtain ⟨cl, A, r1, r2, r3⟩ := F
  obtain ⟨T1, h1, X1, e1, W1, st1⟩ := stZ X hx hZ eT A (x := x) (idxI r1 hj hi) (g := mkF m pc Ls (.int x :: .int j :: .ref a :: rest)) rfl rfl hd
  refine Goes.by st1 (G T1 h1 ⟨vm0, ⟨_, X1, Fr.snoc X1 M ha⟩, e1, hx, hZ, hown, hB.mono (Nat.le_of_eq W1.size.symm), r⟩ ?_)
  rw [← (idxN hj).1]
  exact W1
theorem Std.newA (X : Std p l e R s m args below meth c Z own n0 T h k n) {aty : ArrayType} {ad : String} (had : "[" ++ (newarray.typeOf aty).toString = ad) (w : (Cond.arrayClass (newarray.typeOf aty)).before a0 Z = true) (hd : decode c.code pc = .ok (.newarray aty, 2)) {z : Int32} (hz : z.toInt = N) {cap : Nat} (hcap : N ≤ cap) (hb : cap * 8 ≤ 536870912) (hc : k + 1 ≤ R.cells) (hl : n + cap ≤ R.slots)
    (G : ∀ T h' a, Std p l e R s m args below meth c Z own n0 T h' (k + 1) (n + cap) → a = h.size → n0 ≤ a → Ext h h' → Exa Z h' a ad → PArr Z h' a (newarray.typeOf aty) N (fun _ => defaultValue (newarray.typeOf aty)) → Goes p e below s n0 C S P T (mkF m (pc + 2) Ls (.ref a :: rest))) : Goes p e below s n0 C S P T (mkF m pc Ls (.int z :: rest)) := by
  have q := X.n0le
  obtain ⟨vm0, ⟨L0, X, M⟩, eT, hx, hZ, hown, hB, r⟩ := X
  obtain ⟨T1, h1, cA, X1, e1, E1, A1, B1, st1⟩ := newPE X hx hZ w eT (g := mkF m pc Ls (.int z :: rest)) rfl hd rfl (idxN hz).2 (cap := cap) (by rw [(idxN hz).1]; exact hcap) hb hc hl had
  have hN : N < 2 ^ 31 := by have := Int32.toInt_lt z; omega
  refine Goes.by st1 (G T1 h1 h.size ⟨vm0, ⟨_, X1, M⟩, e1, hx, hZ, hown, hB.mono E1.1, r⟩ rfl q E1 B1 ⟨_, A1, by rw [sz_new]; exact (idxN hz).1, hN, fun i hi => ?_⟩)
  show (Array.replicate z.toNatClampNeg _)[i]? = _
  rw [(idxN hz).1]
  simp [hi]
end OwnArr
section OwnMore
variable {p : Program} {l : Launch} {e : Env} {R : Room} {s : State} {m : MethodId} {args : Array Value} {below : List Frame} {meth : Method} {c : Code} {T T' : State} {Z : State} {own : String} {h h' : Heap} {n0 k n C S : Nat} {a0 : Array Value} {P : Option Value → Heap → Prop} {g g' : JFrame} {pc : Nat} {Ls : Array Slot} {st rest : List Value} {a b : Addr} {ty : FieldType} {N sl : Nat} {f : Nat → Value} {v : Value} {ws : List Addr}
theorem Std.castY (X : Std p l e R s m args below meth c Z own n0 T h k n) {index : Nat} {K : String} (w : (Cond.classLink own index K).before a0 Z = true) (F : Ins Z h a K true) (hd : decode c.code pc = .ok (.checkcast index, 3))
    (G : ∀ T, Std p l e R s m args below meth c Z own n0 T h k n → Goes p e below s n0 C S P T (mkF m (pc + 3) Ls (.ref a :: rest))) : Goes p e below s n0 C S P T (mkF m pc Ls (.ref a :: rest)) := by
  obtain ⟨vm0, ⟨L, X, M⟩, eT, hx, hZ, hown, hB, r⟩ := X
  obtain ⟨T1, X1, e1, st1⟩ := Jvm.RoadKit.castY X hx hZ hown w eT F (g := mkF m pc Ls (.ref a :: rest)) rfl rfl hd
  exact Goes.by st1 (G T1 ⟨vm0, ⟨L, X1, M⟩, e1, hx, hZ, hown, hB, r⟩)
theorem Std.instY (X : Std p l e R s m args below meth c Z own n0 T h k n) {index : Nat} {K : String} (w : (Cond.classLink own index K).before a0 Z = true) (F : Ins Z h a K true) (hd : decode c.code pc = .ok (.instanceof index, 3))
    (G : ∀ T, Std p l e R s m args below meth c Z own n0 T h k n → Goes p e below s n0 C S P T (mkF m (pc + 3) Ls (.int 1 :: rest))) : Goes p e below s n0 C S P T (mkF m pc Ls (.ref a :: rest)) := by
  obtain ⟨vm0, ⟨L, X, M⟩, eT, hx, hZ, hown, hB, r⟩ := X
  obtain ⟨T1, X1, e1, st1⟩ := Jvm.RoadKit.instY X hx hZ hown w eT F (g := mkF m pc Ls (.ref a :: rest)) rfl rfl hd
  exact Goes.by st1 (G T1 ⟨vm0, ⟨L, X1, M⟩, e1, hx, hZ, hown, hB, r⟩)
theorem Std.more (X : Std p l e R s m args below meth c Z own n0 T h k n) {k' n' : Nat} (hk : k ≤ k') (hn : n ≤ n') : Std p l e R s m args below meth c Z own n0 T h k' n' := by
  obtain ⟨vm0, ⟨L, X, M⟩, r⟩ := X
  exact ⟨vm0, ⟨L, X.more hk hn, M⟩, r⟩
theorem Std.clone (X : Std p l e R s m args below meth c Z own n0 T h k n) {ad : String} {index : Nat} (w1 : (Cond.methodLink own index ⟨ad, "clone", "()Ljava/lang/Object;"⟩).before a0 Z = true) (w2 : (Cond.sameMethod ad "java/lang/Object" "clone" "()Ljava/lang/Object;").before a0 Z = true) (w3 : (Cond.native ⟨"java/lang/Object", "clone", "()Ljava/lang/Object;"⟩).before a0 Z = true)
    (w4 : (Cond.instanceMethod ⟨"java/lang/Object", "clone", "()Ljava/lang/Object;"⟩).before a0 Z = true) (w5 : (Cond.selects ad ⟨ad, "clone", "()Ljava/lang/Object;"⟩ ⟨"java/lang/Object", "clone", "()Ljava/lang/Object;"⟩).before a0 Z = true) (w6 : (Cond.castable ad "java/lang/Cloneable").before a0 Z = true)
    (F : PArr Z h a ty N f) (hfit : ∀ i, i < N → fits ty (f i) = true) (E : Exa Z h a ad) (hsz : Ls.size = c.maxLocals) (hd : decode c.code pc = .ok (.invokevirtual index, 3)) (hf : 1 ≤ R.frames) (hl : (rest.map fun v => v.category).sum + 14 ≤ R.locals) {cap : Nat} (hcap : N ≤ cap) (hc : k + 1 ≤ R.cells) (hs : n + cap ≤ R.slots)
    (G : ∀ T h' b, Std p l e R s m args below meth c Z own n0 T h' (k + 1) (n + cap) → b = h.size → n0 ≤ b → Ext h h' → Exa Z h' b ad → PArr Z h' b ty N f → Goes p e below s n0 C S P T (mkF m (pc + 3) Ls (.ref b :: rest))) : Goes p e below s n0 C S P T (mkF m pc Ls (.ref a :: rest)) := by
  have q := X.n0le
  obtain ⟨vm0, ⟨L, X, M⟩, eT, hx, hZ, hown, hB, r⟩ := X
  obtain ⟨cl, A, r1, r2, r3⟩ := F
  have FC : FitC Z cl := fitC_of A fun i hi v hv => by rw [r1] at hi; rw [r3 i hi] at hv; cases hv; exact hfit i hi
  obtain ⟨T1, h1, X1, e1, E1, A1, B1, st1⟩ := cloneA X hx hZ hown w1 w2 w3 w4 w5 w6 eT A E FC (g := mkF m pc Ls (.ref a :: rest)) rfl hsz rfl hd hf (W := (rest.map fun v => v.category).sum) (cap := cap) (by show 2 * 0 + _ ≤ _; omega) hl (by rw [r1]; exact hcap) hc hs
  exact Goes.by st1 (G T1 h1 h.size ⟨vm0, ⟨_, X1, M⟩, e1, hx, hZ, hown, hB.mono E1.1, r⟩ rfl q E1 B1 ⟨cloneOf cl, A1, r1, r2, r3⟩)
theorem Std.grid (X : Std p l e R s m args below meth c Z own n0 T h k n) {K ad : String} {index : Nat} (hC : (FieldType.array ty).toString = K) (had : "[" ++ K = ad) (w1 : (Cond.classLink own index ad).before a0 Z = true) (w2 : (Cond.arrayOver (.array ty)).before a0 Z = true) (w3 : (Cond.arrayClass ty).before a0 Z = true) (hd : decode c.code pc = .ok (.multianewarray index 2, 4)) {z y : Int32} {Y : Nat} (hz : z.toInt = N) (hy : y.toInt = Y) {capN cap : Nat} (hcN : N ≤ capN) (hcap : Y ≤ cap) (hb : cap * 8 ≤ 536870912) (hb1 : capN ≤ 1000) (hdf : fits ty (defaultValue ty) = true) (hdd : (defaultValue ty).isDefault = true) (hc : k + (1 + capN) ≤ R.cells) (hl : n + (capN + capN * cap) ≤ R.slots)
    (G : ∀ T h' b, Std p l e R s m args below meth c Z own n0 T h' (k + (1 + capN)) (n + (capN + capN * cap)) → b = h.size → n0 ≤ b → Ext h h' → Exa Z h' b ad → Goes p e below s n0 C S P T (mkF m (pc + 4) Ls (.ref b :: rest))) : Goes p e below s n0 C S P T (mkF m pc Ls (.int y :: .int z :: rest)) := by
  have q := X.n0le
  have m1 : N * cap ≤ capN * cap := Nat.mul_le_mul_right _ hcN
  obtain ⟨vm0, ⟨L, X, M⟩, eT, hx, hZ, hown, hB, r⟩ := X
  obtain ⟨T1, h1, cA, comp, X1, e1, E1, A1, O1, B1, I1, st1⟩ := gridM X hx hZ hown hC had w1 w2 w3 eT (g := mkF m pc Ls (.int y :: .int z :: rest)) rfl hd rfl (idxN hz).2 (idxN hy).2 (N := N) (idxN hz).1 rfl (cap := cap) (by rw [(idxN hy).1]; exact hcap) hb (by omega) hdf hdd (by omega) (by omega)
  exact Goes.by st1 (G T1 h1 h.size ⟨vm0, ⟨_, X1.more (by omega) (by omega), M⟩, e1, hx, hZ, hown, hB.mono E1.1, r⟩ rfl q E1 B1)
end OwnMore
theorem pf_8 : plainFor (⟨"java/util/AbstractCollection", "<init>", "()V"⟩ : MethodName) = true := by first | exact plainFor_of_name (by first | (simp [plainName, overriddenIn]; done) | decide +kernel) | decide +kernel
theorem d8_0 : decode jdk_22_method_1_code 0 = .ok (.aload_n 0, 1) := by decide +kernel
theorem d8_1 : decode jdk_22_method_1_code 1 = .ok (.invokespecial 1, 3) := by decide +kernel
theorem d8_4 : decode jdk_22_method_1_code 4 = .ok (.return_, 1) := by decide +kernel
theorem pf_7 : plainFor (⟨"java/util/AbstractSet", "<init>", "()V"⟩ : MethodName) = true := by first | exact plainFor_of_name (by first | (simp [plainName, overriddenIn]; done) | decide +kernel) | decide +kernel
theorem d7_0 : decode jdk_91_method_1_code 0 = .ok (.aload_n 0, 1) := by decide +kernel
theorem pd_193421996 : parseMethodDescriptor "()V" = some ⟨[], none⟩ := by decide +kernel
theorem d7_1 : decode jdk_91_method_1_code 1 = .ok (.invokespecial 1, 3) := by decide +kernel
theorem d7_4 : decode jdk_91_method_1_code 4 = .ok (.return_, 1) := by decide +kernel
theorem pf_11 : plainFor (⟨"java/util/AbstractMap", "<init>", "()V"⟩ : MethodName) = true := by first | exact plainFor_of_name (by first | (simp [plainName, overriddenIn]; done) | decide +kernel) | decide +kernel
theorem d11_0 : decode jdk_71_method_1_code 0 = .ok (.aload_n 0, 1) := by decide +kernel
theorem d11_1 : decode jdk_71_method_1_code 1 = .ok (.invokespecial 1, 3) := by decide +kernel
theorem d11_4 : decode jdk_71_method_1_code 4 = .ok (.return_, 1) := by decide +kernel
theorem pf_14 : plainFor (⟨"java/lang/Integer", "numberOfLeadingZeros", "(I)I"⟩ : MethodName) = true := by first | exact plainFor_of_name (by first | (simp [plainName, overriddenIn]; done) | decide +kernel) | decide +kernel
theorem d14_0 : decode jdk_33_method_47_code 0 = .ok (.iload_n 0, 1) := by decide +kernel
theorem d14_1 : decode jdk_33_method_47_code 1 = .ok (.ifCond .gt 14, 3) := by decide +kernel
theorem d14_15 : decode jdk_33_method_47_code 15 = .ok (.bipush 31, 2) := by decide +kernel
theorem d14_17 : decode jdk_33_method_47_code 17 = .ok (.istore_n 1, 1) := by decide +kernel
theorem d14_18 : decode jdk_33_method_47_code 18 = .ok (.iload_n 0, 1) := by decide +kernel
theorem d14_19 : decode jdk_33_method_47_code 19 = .ok (.ldc_w 264, 3) := by decide +kernel
theorem d14_22 : decode jdk_33_method_47_code 22 = .ok (.if_icmp .lt 11, 3) := by decide +kernel
theorem d14_33 : decode jdk_33_method_47_code 33 = .ok (.iload_n 0, 1) := by decide +kernel
theorem d14_34 : decode jdk_33_method_47_code 34 = .ok (.sipush 256, 3) := by decide +kernel
theorem d14_37 : decode jdk_33_method_47_code 37 = .ok (.if_icmp .lt 11, 3) := by decide +kernel
theorem d14_48 : decode jdk_33_method_47_code 48 = .ok (.iload_n 0, 1) := by decide +kernel
theorem d14_49 : decode jdk_33_method_47_code 49 = .ok (.bipush 16, 2) := by decide +kernel
theorem d14_51 : decode jdk_33_method_47_code 51 = .ok (.if_icmp .lt 10, 3) := by decide +kernel
theorem d14_61 : decode jdk_33_method_47_code 61 = .ok (.iload_n 0, 1) := by decide +kernel
theorem d14_62 : decode jdk_33_method_47_code 62 = .ok (.iconst 4, 1) := by decide +kernel
theorem d14_63 : decode jdk_33_method_47_code 63 = .ok (.if_icmp .lt 10, 3) := by decide +kernel
theorem d14_66 : decode jdk_33_method_47_code 66 = .ok (.iinc 1 (-2), 3) := by decide +kernel
theorem d14_69 : decode jdk_33_method_47_code 69 = .ok (.iload_n 0, 1) := by decide +kernel
theorem d14_70 : decode jdk_33_method_47_code 70 = .ok (.iconst 2, 1) := by decide +kernel
theorem d14_71 : decode jdk_33_method_47_code 71 = .ok (.iushr, 1) := by decide +kernel
theorem d14_72 : decode jdk_33_method_47_code 72 = .ok (.istore_n 0, 1) := by decide +kernel
theorem d14_73 : decode jdk_33_method_47_code 73 = .ok (.iload_n 1, 1) := by decide +kernel
theorem d14_74 : decode jdk_33_method_47_code 74 = .ok (.iload_n 0, 1) := by decide +kernel
theorem d14_75 : decode jdk_33_method_47_code 75 = .ok (.iconst 1, 1) := by decide +kernel
theorem d14_76 : decode jdk_33_method_47_code 76 = .ok (.iushr, 1) := by decide +kernel
theorem d14_77 : decode jdk_33_method_47_code 77 = .ok (.isub, 1) := by decide +kernel
theorem d14_78 : decode jdk_33_method_47_code 78 = .ok (.ireturn, 1) := by decide +kernel
theorem pf_13 : plainFor (⟨"java/util/HashMap", "tableSizeFor", "(I)I"⟩ : MethodName) = true := by first | exact plainFor_of_name (by first | (simp [plainName, overriddenIn]; done) | decide +kernel) | decide +kernel
theorem d13_0 : decode jdk_69_method_4_code 0 = .ok (.iconst (-1), 1) := by decide +kernel
theorem d13_1 : decode jdk_69_method_4_code 1 = .ok (.iload_n 0, 1) := by decide +kernel
theorem d13_2 : decode jdk_69_method_4_code 2 = .ok (.iconst 1, 1) := by decide +kernel
theorem d13_3 : decode jdk_69_method_4_code 3 = .ok (.isub, 1) := by decide +kernel
theorem pd_2087992008 : parseMethodDescriptor "(I)I" = some ⟨[.int], some .int⟩ := by decide +kernel
theorem d13_4 : decode jdk_69_method_4_code 4 = .ok (.invokestatic 34, 3) := by decide +kernel
theorem d13_7 : decode jdk_69_method_4_code 7 = .ok (.iushr, 1) := by decide +kernel
theorem d13_8 : decode jdk_69_method_4_code 8 = .ok (.istore_n 1, 1) := by decide +kernel
theorem d13_9 : decode jdk_69_method_4_code 9 = .ok (.iload_n 1, 1) := by decide +kernel
theorem d13_10 : decode jdk_69_method_4_code 10 = .ok (.ifCond .ge 7, 3) := by decide +kernel
theorem d13_17 : decode jdk_69_method_4_code 17 = .ok (.iload_n 1, 1) := by decide +kernel
theorem d13_18 : decode jdk_69_method_4_code 18 = .ok (.ldc 42, 2) := by decide +kernel
theorem d13_20 : decode jdk_69_method_4_code 20 = .ok (.if_icmp .lt 8, 3) := by decide +kernel
theorem d13_28 : decode jdk_69_method_4_code 28 = .ok (.iload_n 1, 1) := by decide +kernel
theorem d13_29 : decode jdk_69_method_4_code 29 = .ok (.iconst 1, 1) := by decide +kernel
theorem d13_30 : decode jdk_69_method_4_code 30 = .ok (.iadd, 1) := by decide +kernel
theorem d13_31 : decode jdk_69_method_4_code 31 = .ok (.ireturn, 1) := by decide +kernel
theorem pf_12 : plainFor (⟨"java/lang/Float", "isNaN", "(F)Z"⟩ : MethodName) = true := by first | exact plainFor_of_name (by first | (simp [plainName, overriddenIn]; done) | decide +kernel) | decide +kernel
theorem d12_0 : decode jdk_118_method_6_code 0 = .ok (.fload_n 0, 1) := by decide +kernel
theorem d12_1 : decode jdk_118_method_6_code 1 = .ok (.fload_n 0, 1) := by decide +kernel
theorem d12_2 : decode jdk_118_method_6_code 2 = .ok (.fcmp .l, 1) := by decide +kernel
theorem d12_3 : decode jdk_118_method_6_code 3 = .ok (.ifCond .eq 7, 3) := by decide +kernel
theorem d12_10 : decode jdk_118_method_6_code 10 = .ok (.iconst 0, 1) := by decide +kernel
theorem d12_11 : decode jdk_118_method_6_code 11 = .ok (.ireturn, 1) := by decide +kernel
theorem pf_10 : plainFor (⟨"java/util/HashMap", "<init>", "(IF)V"⟩ : MethodName) = true := by first | exact plainFor_of_name (by first | (simp [plainName, overriddenIn]; done) | decide +kernel) | decide +kernel
theorem d10_0 : decode jdk_69_method_5_code 0 = .ok (.aload_n 0, 1) := by decide +kernel
theorem d10_1 : decode jdk_69_method_5_code 1 = .ok (.invokespecial 43, 3) := by decide +kernel
theorem d10_4 : decode jdk_69_method_5_code 4 = .ok (.iload_n 1, 1) := by decide +kernel
theorem d10_5 : decode jdk_69_method_5_code 5 = .ok (.ifCond .ge 30, 3) := by decide +kernel
theorem d10_35 : decode jdk_69_method_5_code 35 = .ok (.iload_n 1, 1) := by decide +kernel
theorem d10_36 : decode jdk_69_method_5_code 36 = .ok (.ldc 42, 2) := by decide +kernel
theorem d10_38 : decode jdk_69_method_5_code 38 = .ok (.if_icmp .le 6, 3) := by decide +kernel
theorem d10_44 : decode jdk_69_method_5_code 44 = .ok (.fload_n 2, 1) := by decide +kernel
theorem d10_45 : decode jdk_69_method_5_code 45 = .ok (.fconst 0, 1) := by decide +kernel
theorem d10_46 : decode jdk_69_method_5_code 46 = .ok (.fcmp .g, 1) := by decide +kernel
theorem d10_47 : decode jdk_69_method_5_code 47 = .ok (.ifCond .le 10, 3) := by decide +kernel
theorem d10_50 : decode jdk_69_method_5_code 50 = .ok (.fload_n 2, 1) := by decide +kernel
theorem pd_2087988758 : parseMethodDescriptor "(F)Z" = some ⟨[.float], some .boolean⟩ := by decide +kernel
theorem d10_51 : decode jdk_69_method_5_code 51 = .ok (.invokestatic 70, 3) := by decide +kernel
theorem d10_54 : decode jdk_69_method_5_code 54 = .ok (.ifCond .eq 30, 3) := by decide +kernel
theorem d10_84 : decode jdk_69_method_5_code 84 = .ok (.aload_n 0, 1) := by decide +kernel
theorem d10_85 : decode jdk_69_method_5_code 85 = .ok (.fload_n 2, 1) := by decide +kernel
theorem d10_86 : decode jdk_69_method_5_code 86 = .ok (.putfield 81, 3) := by decide +kernel
theorem d10_89 : decode jdk_69_method_5_code 89 = .ok (.aload_n 0, 1) := by decide +kernel
theorem d10_90 : decode jdk_69_method_5_code 90 = .ok (.iload_n 1, 1) := by decide +kernel
theorem d10_91 : decode jdk_69_method_5_code 91 = .ok (.invokestatic 85, 3) := by decide +kernel
theorem d10_94 : decode jdk_69_method_5_code 94 = .ok (.putfield 88, 3) := by decide +kernel
theorem d10_97 : decode jdk_69_method_5_code 97 = .ok (.return_, 1) := by decide +kernel
theorem pf_9 : plainFor (⟨"java/util/LinkedHashMap", "<init>", "(IF)V"⟩ : MethodName) = true := by first | exact plainFor_of_name (by first | (simp [plainName, overriddenIn]; done) | decide +kernel) | decide +kernel
theorem d9_0 : decode jdk_94_method_14_code 0 = .ok (.aload_n 0, 1) := by decide +kernel
theorem d9_1 : decode jdk_94_method_14_code 1 = .ok (.iload_n 1, 1) := by decide +kernel
theorem d9_2 : decode jdk_94_method_14_code 2 = .ok (.fload_n 2, 1) := by decide +kernel
theorem pd_184290139 : parseMethodDescriptor "(IF)V" = some ⟨[.int, .float], none⟩ := by decide +kernel
theorem d9_3 : decode jdk_94_method_14_code 3 = .ok (.invokespecial 81, 3) := by decide +kernel
theorem d9_6 : decode jdk_94_method_14_code 6 = .ok (.aload_n 0, 1) := by decide +kernel
theorem d9_7 : decode jdk_94_method_14_code 7 = .ok (.iconst 0, 1) := by decide +kernel
theorem d9_8 : decode jdk_94_method_14_code 8 = .ok (.putfield 1, 3) := by decide +kernel
theorem d9_11 : decode jdk_94_method_14_code 11 = .ok (.aload_n 0, 1) := by decide +kernel
theorem d9_12 : decode jdk_94_method_14_code 12 = .ok (.iconst 0, 1) := by decide +kernel
theorem d9_13 : decode jdk_94_method_14_code 13 = .ok (.putfield 64, 3) := by decide +kernel
theorem d9_16 : decode jdk_94_method_14_code 16 = .ok (.return_, 1) := by decide +kernel
theorem pf_6 : plainFor (⟨"java/util/HashSet", "<init>", "(IFZ)V"⟩ : MethodName) = true := by first | exact plainFor_of_name (by first | (simp [plainName, overriddenIn]; done) | decide +kernel) | decide +kernel
theorem d6_0 : decode jdk_93_method_5_code 0 = .ok (.aload_n 0, 1) := by decide +kernel
theorem d6_1 : decode jdk_93_method_5_code 1 = .ok (.invokespecial 1, 3) := by decide +kernel
theorem d6_4 : decode jdk_93_method_5_code 4 = .ok (.aload_n 0, 1) := by decide +kernel
theorem d6_5 : decode jdk_93_method_5_code 5 = .ok (.new 42, 3) := by decide +kernel
theorem d6_8 : decode jdk_93_method_5_code 8 = .ok (.dup, 1) := by decide +kernel
theorem d6_9 : decode jdk_93_method_5_code 9 = .ok (.iload_n 1, 1) := by decide +kernel
theorem d6_10 : decode jdk_93_method_5_code 10 = .ok (.fload_n 2, 1) := by decide +kernel
theorem d6_11 : decode jdk_93_method_5_code 11 = .ok (.invokespecial 44, 3) := by decide +kernel
theorem d6_14 : decode jdk_93_method_5_code 14 = .ok (.putfield 10, 3) := by decide +kernel
theorem d6_17 : decode jdk_93_method_5_code 17 = .ok (.return_, 1) := by decide +kernel
theorem pf_5 : plainFor (⟨"java/util/LinkedHashSet", "<init>", "()V"⟩ : MethodName) = true := by first | exact plainFor_of_name (by first | (simp [plainName, overriddenIn]; done) | decide +kernel) | decide +kernel
theorem d5_0 : decode jdk_2620_method_3_code 0 = .ok (.aload_n 0, 1) := by decide +kernel
theorem d5_1 : decode jdk_2620_method_3_code 1 = .ok (.bipush 16, 2) := by decide +kernel
theorem d5_3 : decode jdk_2620_method_3_code 3 = .ok (.ldc 7, 2) := by decide +kernel
theorem d5_5 : decode jdk_2620_method_3_code 5 = .ok (.iconst 1, 1) := by decide +kernel
theorem pd_1786659253 : parseMethodDescriptor "(IFZ)V" = some ⟨[.int, .float, .boolean], none⟩ := by decide +kernel
theorem d5_6 : decode jdk_2620_method_3_code 6 = .ok (.invokespecial 1, 3) := by decide +kernel
theorem d5_9 : decode jdk_2620_method_3_code 9 = .ok (.return_, 1) := by decide +kernel
theorem pf_4 : plainFor (⟨"com/example/hafiza/hafiza/Mutations", "<init>", "()V"⟩ : MethodName) = true := by first | exact plainFor_of_name (by first | (simp [plainName, overriddenIn]; done) | decide +kernel) | decide +kernel
theorem d4_0 : decode prog_16_method_1_code 0 = .ok (.aload_n 0, 1) := by decide +kernel
theorem d4_1 : decode prog_16_method_1_code 1 = .ok (.invokespecial 1, 3) := by decide +kernel
theorem d4_4 : decode prog_16_method_1_code 4 = .ok (.aload_n 0, 1) := by decide +kernel
theorem d4_5 : decode prog_16_method_1_code 5 = .ok (.new 7, 3) := by decide +kernel
theorem d4_8 : decode prog_16_method_1_code 8 = .ok (.dup, 1) := by decide +kernel
theorem d4_9 : decode prog_16_method_1_code 9 = .ok (.invokespecial 9, 3) := by decide +kernel
theorem d4_12 : decode prog_16_method_1_code 12 = .ok (.putfield 10, 3) := by decide +kernel
theorem d4_15 : decode prog_16_method_1_code 15 = .ok (.aload_n 0, 1) := by decide +kernel
theorem d4_16 : decode prog_16_method_1_code 16 = .ok (.new 7, 3) := by decide +kernel
theorem d4_19 : decode prog_16_method_1_code 19 = .ok (.dup, 1) := by decide +kernel
theorem d4_20 : decode prog_16_method_1_code 20 = .ok (.invokespecial 9, 3) := by decide +kernel
theorem d4_23 : decode prog_16_method_1_code 23 = .ok (.putfield 16, 3) := by decide +kernel
theorem d4_26 : decode prog_16_method_1_code 26 = .ok (.aload_n 0, 1) := by decide +kernel
theorem d4_27 : decode prog_16_method_1_code 27 = .ok (.new 7, 3) := by decide +kernel
theorem d4_30 : decode prog_16_method_1_code 30 = .ok (.dup, 1) := by decide +kernel
theorem d4_31 : decode prog_16_method_1_code 31 = .ok (.invokespecial 9, 3) := by decide +kernel
theorem d4_34 : decode prog_16_method_1_code 34 = .ok (.putfield 19, 3) := by decide +kernel
theorem d4_37 : decode prog_16_method_1_code 37 = .ok (.return_, 1) := by decide +kernel
theorem pf_2 : plainFor (⟨"com/example/hafiza/hafiza/StoreConfig", "<init>", "()V"⟩ : MethodName) = true := by first | exact plainFor_of_name (by first | (simp [plainName, overriddenIn]; done) | decide +kernel) | decide +kernel
theorem d2_0 : decode prog_24_method_1_code 0 = .ok (.aload_n 0, 1) := by decide +kernel
theorem d2_1 : decode prog_24_method_1_code 1 = .ok (.invokespecial 1, 3) := by decide +kernel
theorem d2_4 : decode prog_24_method_1_code 4 = .ok (.aload_n 0, 1) := by decide +kernel
theorem d2_5 : decode prog_24_method_1_code 5 = .ok (.new 7, 3) := by decide +kernel
theorem d2_8 : decode prog_24_method_1_code 8 = .ok (.dup, 1) := by decide +kernel
theorem d2_9 : decode prog_24_method_1_code 9 = .ok (.invokespecial 9, 3) := by decide +kernel
theorem d2_12 : decode prog_24_method_1_code 12 = .ok (.putfield 10, 3) := by decide +kernel
theorem d2_15 : decode prog_24_method_1_code 15 = .ok (.aload_n 0, 1) := by decide +kernel
theorem d2_16 : decode prog_24_method_1_code 16 = .ok (.getstatic 16, 3) := by decide +kernel
theorem d2_19 : decode prog_24_method_1_code 19 = .ok (.putfield 22, 3) := by decide +kernel
theorem d2_22 : decode prog_24_method_1_code 22 = .ok (.return_, 1) := by decide +kernel
theorem pf_18 : plainFor (⟨"java/util/Objects", "requireNonNull", "(Ljava/lang/Object;Ljava/lang/String;)Ljava/lang/Object;"⟩ : MethodName) = true := by first | exact plainFor_of_name (by first | (simp [plainName, overriddenIn]; done) | decide +kernel) | decide +kernel
theorem d18_0 : decode jdk_31_method_11_code 0 = .ok (.aload_n 0, 1) := by decide +kernel
theorem d18_1 : decode jdk_31_method_11_code 1 = .ok (.ifnonnull 12, 3) := by decide +kernel
theorem d18_13 : decode jdk_31_method_11_code 13 = .ok (.aload_n 0, 1) := by decide +kernel
theorem d18_14 : decode jdk_31_method_11_code 14 = .ok (.areturn, 1) := by decide +kernel
theorem pf_1 : plainFor (⟨"com/example/hafiza/hafiza/StoreConfigSetDurabilityPinLaw", "pick", "(I)Lcom/example/hafiza/hafiza/Durability;"⟩ : MethodName) = true := by first | exact plainFor_of_name (by first | (simp [plainName, overriddenIn]; done) | decide +kernel) | decide +kernel
theorem d1_0 : decode method_2_code 0 = .ok (.iload_n 0, 1) := by decide +kernel
theorem d1_1 : decode method_2_code 1 = .ok (.iconst 1, 1) := by decide +kernel
theorem d1_2 : decode method_2_code 2 = .ok (.iand, 1) := by decide +kernel
theorem d1_3 : decode method_2_code 3 = .ok (.ifCond .eq 7, 3) := by decide +kernel
theorem d1_10 : decode method_2_code 10 = .ok (.getstatic 13, 3) := by decide +kernel
theorem d1_13 : decode method_2_code 13 = .ok (.areturn, 1) := by decide +kernel
theorem d1_6 : decode method_2_code 6 = .ok (.getstatic 7, 3) := by decide +kernel
theorem d1_9 : decode method_2_code 9 = .ok (.areturn, 1) := by decide +kernel
theorem pf_15 : plainFor (⟨"com/example/hafiza/hafiza/StoreConfig", "getMutations", "()Lcom/example/hafiza/hafiza/Mutations;"⟩ : MethodName) = true := by first | exact plainFor_of_name (by first | (simp [plainName, overriddenIn]; done) | decide +kernel) | decide +kernel
theorem d15_0 : decode prog_24_method_7_code 0 = .ok (.aload_n 0, 1) := by decide +kernel
theorem d15_1 : decode prog_24_method_7_code 1 = .ok (.getfield 10, 3) := by decide +kernel
theorem d15_4 : decode prog_24_method_7_code 4 = .ok (.areturn, 1) := by decide +kernel
theorem pf_16 : plainFor (⟨"com/example/hafiza/hafiza/StoreConfig", "getDurability", "()Lcom/example/hafiza/hafiza/Durability;"⟩ : MethodName) = true := by first | exact plainFor_of_name (by first | (simp [plainName, overriddenIn]; done) | decide +kernel) | decide +kernel
theorem d16_0 : decode prog_24_method_9_code 0 = .ok (.aload_n 0, 1) := by decide +kernel
theorem d16_1 : decode prog_24_method_9_code 1 = .ok (.getfield 22, 3) := by decide +kernel
theorem d16_4 : decode prog_24_method_9_code 4 = .ok (.areturn, 1) := by decide +kernel
theorem pf_17 : plainFor (⟨"com/example/hafiza/hafiza/StoreConfig", "setDurability", "(Lcom/example/hafiza/hafiza/Durability;)V"⟩ : MethodName) = true := by first | exact plainFor_of_name (by first | (simp [plainName, overriddenIn]; done) | decide +kernel) | decide +kernel
theorem d17_0 : decode prog_24_method_8_code 0 = .ok (.aload_n 0, 1) := by decide +kernel
theorem d17_1 : decode prog_24_method_8_code 1 = .ok (.aload_n 1, 1) := by decide +kernel
theorem d17_2 : decode prog_24_method_8_code 2 = .ok (.ldc 39, 2) := by decide +kernel
theorem pd_3946442454 : parseMethodDescriptor "(Ljava/lang/Object;Ljava/lang/String;)Ljava/lang/Object;" = some ⟨[(.object "java/lang/Object"), (.object "java/lang/String")], some (.object "java/lang/Object")⟩ := by decide +kernel
theorem d17_4 : decode prog_24_method_8_code 4 = .ok (.invokestatic 33, 3) := by decide +kernel
theorem d17_7 : decode prog_24_method_8_code 7 = .ok (.checkcast 17, 3) := by decide +kernel
theorem d17_10 : decode prog_24_method_8_code 10 = .ok (.putfield 22, 3) := by decide +kernel
theorem d17_13 : decode prog_24_method_8_code 13 = .ok (.return_, 1) := by decide +kernel
theorem pf_19 : plainFor (⟨"com/example/hafiza/hafiza/StoreConfig", "getAllowCreate", "()Z"⟩ : MethodName) = true := by first | exact plainFor_of_name (by first | (simp [plainName, overriddenIn]; done) | decide +kernel) | decide +kernel
theorem d19_0 : decode prog_24_method_3_code 0 = .ok (.aload_n 0, 1) := by decide +kernel
theorem d19_1 : decode prog_24_method_3_code 1 = .ok (.getfield 25, 3) := by decide +kernel
theorem d19_4 : decode prog_24_method_3_code 4 = .ok (.ireturn, 1) := by decide +kernel
theorem pf_20 : plainFor (⟨"com/example/hafiza/hafiza/StoreConfig", "getReadOnly", "()Z"⟩ : MethodName) = true := by first | exact plainFor_of_name (by first | (simp [plainName, overriddenIn]; done) | decide +kernel) | decide +kernel
theorem d20_0 : decode prog_24_method_5_code 0 = .ok (.aload_n 0, 1) := by decide +kernel
theorem d20_1 : decode prog_24_method_5_code 1 = .ok (.getfield 29, 3) := by decide +kernel
theorem d20_4 : decode prog_24_method_5_code 4 = .ok (.ireturn, 1) := by decide +kernel
theorem pf_0 : plainFor (⟨"com/example/hafiza/hafiza/StoreConfigSetDurabilityPinLaw", "law", "(II)Z"⟩ : MethodName) = true := by first | exact plainFor_of_name (by first | (simp [plainName, overriddenIn]; done) | decide +kernel) | decide +kernel
theorem pd_750718508 : parseMethodDescriptor "(I)Lcom/example/hafiza/hafiza/Durability;" = some ⟨[.int], some (.object "com/example/hafiza/hafiza/Durability")⟩ := by decide +kernel
theorem pd_2544813166 : parseMethodDescriptor "()Lcom/example/hafiza/hafiza/Mutations;" = some ⟨[], some (.object "com/example/hafiza/hafiza/Mutations")⟩ := by decide +kernel
theorem pd_2323304547 : parseMethodDescriptor "()Lcom/example/hafiza/hafiza/Durability;" = some ⟨[], some (.object "com/example/hafiza/hafiza/Durability")⟩ := by decide +kernel
theorem pd_2427134969 : parseMethodDescriptor "(Lcom/example/hafiza/hafiza/Durability;)V" = some ⟨[(.object "com/example/hafiza/hafiza/Durability")], none⟩ := by decide +kernel
theorem pd_193422000 : parseMethodDescriptor "()Z" = some ⟨[], some .boolean⟩ := by decide +kernel
section OwnWide
variable {p : Program} {l : Launch} {e : Env} {R : Room} {s : State} {m : MethodId} {args : Array Value} {below : List Frame} {meth : Method} {c : Code} {T T' : State} {Z : State} {own : String} {h h' : Heap} {n0 k n C S : Nat} {a0 : Array Value} {P : Option Value → Heap → Prop} {g g' : JFrame} {pc : Nat} {Ls : Array Slot} {st rest : List Value}
theorem Std.ldcS (X : Std p l e R s m args below meth c Z own n0 T h k n) {index n' : Nat} {text : String} (w : (Cond.stringLink own index text).before a0 Z = true) (wS : ∀ a ∈ Bundle.stringAtoms, a.before a0 Z = true) (hd : decode c.code pc = .ok (.ldc index, 2)) (hn : 4 * text.toList.length ≤ n') (hbig : n' ≤ 536870912) (hc : k + 2 ≤ R.cells) (hl : n + (n' + 4) ≤ R.slots)
    (G : ∀ T h' a, Std p l e R s m args below meth c Z own n0 T h' (k + 2) (n + (n' + 4)) → Ext h h' → Goes p e below s n0 C S P T (mkF m (pc + 2) Ls (.ref a :: st))) : Goes p e below s n0 C S P T (mkF m pc Ls st) := by
  obtain ⟨vm0, ⟨L, X, N⟩, eT, hx, hZ, hown, ⟨k0, hS, hk⟩, r⟩ := X
  obtain ⟨a, T1, h1, k1, X1, e1, E1, hS1, hk1, hZ1, hown1, st1⟩ := Jvm.RoadKit.ldcS X hx hZ hown w wS eT hS hk (g := mkF m pc Ls st) rfl hd hn hbig hc hl
  exact Goes.by st1 (G T1 h1 a ⟨T1.vm, ⟨L, X1, N⟩, e1, hx, hZ1, hown1, ⟨k1, hS1, hk1⟩, r⟩ E1)
end OwnWide
section OwnFloat
variable {p : Program} {l : Launch} {e : Env} {R : Room} {s : State} {m : MethodId} {args : Array Value} {below : List Frame} {meth : Method} {c : Code} {T T' : State} {Z : State} {own : String} {h h' : Heap} {n0 k n C S : Nat} {a0 : Array Value} {P : Option Value → Heap → Prop} {pc : Nat} {Ls : Array Slot} {st rest : List Value}
theorem Std.ldcF (X : Std p l e R s m args below meth c Z own n0 T h k n) {index : Nat} {b : UInt32} (w : (Cond.constantFloat own index b).before a0 Z = true) (hd : decode c.code pc = .ok (.ldc index, 2)) (G : Goes p e below s n0 C S P T (mkF m (pc + 2) Ls (.float b :: st))) : Goes p e below s n0 C S P T (mkF m pc Ls st) := by
  obtain ⟨vm0, ⟨L, X, N⟩, -, hx, hZ, hown, -⟩ := X
  exact Goes.by (fun t q => X.ldcFloatC hx (g := mkF m pc Ls st) hown (mvT (s := s.setVm vm0) hZ w) rfl hd t q) G
end OwnFloat

theorem strAtoms : ∀ d ∈ Bundle.stringAtoms, d ∈ tables_1 := by decide +kernel
set_option maxRecDepth 65536 in
set_option maxHeartbeats 40000000 in
theorem rmAC (l : Launch) (Z : State) (a0 : Array Value) (hw : ∀ d ∈ tables_1, d.before a0 Z = true) (n0 : Nat) (h0 : Heap) (hn0 : n0 ≤ h0.size) (a : Addr) :
    Met l Z n0 (⟨"java/util/AbstractCollection", "<init>", "()V"⟩ : MethodName) jdk_22_method_1_code 1 (Option.none : Option FieldType) ({ frames := 1, cells := 0, slots := 0, locals := 12 } : Room) #[(.ref a)] h0 (fun (v : Option Value) (h' : Heap) => v = none ∧ h' = h0) := by
  refine metW (Q := fun (v : Option Value) (h' : Heap) => v = none ∧ h' = h0) pf_8 hn0 ?_
  intro p e s m below meth c T X hby hml hret hnm
  refine Goes.by (g' := (mkF m 0 #[.val (.ref a)] [])) (fun _ q => castTop (by first | rfl | (simp [entryFrame, mkF, argsToLocals, Value.category]; done)) q) ?_
  refine Goes.by (g' := (mkF m 1 #[.val (.ref a)] [(.ref a)])) (fun _ q => XS.aloadN X.here X.hx rfl (hb hby d8_0) rfl rfl q) ?_
  refine X.initO (hw _ (List.mem_of_getElem? (i := 50) rfl)) (hw _ (List.mem_of_getElem? (i := 16) rfl)) (hw _ (List.mem_of_getElem? (i := 17) rfl)) (by rw [hml]; rfl) (hb hby d8_1) (by decide) (leB rfl) (fun T X => ?_)
  show Goes _ _ _ _ _ _ _ _ T (mkF m 4 #[.val (.ref a)] [])
  exact X.retV hret (hb hby d8_4) (by decide) (by decide) ⟨rfl, rfl⟩
set_option maxRecDepth 65536 in
set_option maxHeartbeats 40000000 in
theorem rmAS (l : Launch) (Z : State) (a0 : Array Value) (hw : ∀ d ∈ tables_1, d.before a0 Z = true) (n0 : Nat) (h0 : Heap) (hn0 : n0 ≤ h0.size) (a : Addr) :
    Met l Z n0 (⟨"java/util/AbstractSet", "<init>", "()V"⟩ : MethodName) jdk_91_method_1_code 1 (Option.none : Option FieldType) ({ frames := 2, cells := 0, slots := 0, locals := 24 } : Room) #[(.ref a)] h0 (fun (v : Option Value) (h' : Heap) => v = none ∧ h' = h0) := by
  refine metW (Q := fun (v : Option Value) (h' : Heap) => v = none ∧ h' = h0) pf_7 hn0 ?_
  intro p e s m below meth c T X hby hml hret hnm
  refine Goes.by (g' := (mkF m 0 #[.val (.ref a)] [])) (fun _ q => castTop (by first | rfl | (simp [entryFrame, mkF, argsToLocals, Value.category]; done)) q) ?_
  refine Goes.by (g' := (mkF m 1 #[.val (.ref a)] [(.ref a)])) (fun _ q => XS.aloadN X.here X.hx rfl (hb hby d7_0) rfl rfl q) ?_
  have X_o := X
  refine X.callN rfl (hw _ (List.mem_of_getElem? (i := 44) rfl)) (hw _ (List.mem_of_getElem? (i := 45) rfl)) (hw _ (List.mem_of_getElem? (i := 48) rfl)) (hw _ (List.mem_of_getElem? (i := 49) rfl)) (by decide) pd_193421996 (argsL := []) rfl (rmAC l Z a0 hw n0 h0 X.n0le a) (by rw [hml]; rfl) rfl (by decide) (leB rfl) (hb hby d7_1) (by decide) (by decide) (fun T h1 v X hQ => ?_)
  obtain ⟨rfl, hh⟩ := hQ
  rw [hh] at X
  clear hh
  show Goes _ _ _ _ _ _ _ _ T (mkF m 4 #[.val (.ref a)] [])
  exact X.retV hret (hb hby d7_4) (by decide) (by decide) ⟨rfl, rfl⟩
set_option maxRecDepth 65536 in
set_option maxHeartbeats 40000000 in
theorem rmAM (l : Launch) (Z : State) (a0 : Array Value) (hw : ∀ d ∈ tables_1, d.before a0 Z = true) (n0 : Nat) (h0 : Heap) (hn0 : n0 ≤ h0.size) (a : Addr) :
    Met l Z n0 (⟨"java/util/AbstractMap", "<init>", "()V"⟩ : MethodName) jdk_71_method_1_code 1 (Option.none : Option FieldType) ({ frames := 1, cells := 0, slots := 0, locals := 12 } : Room) #[(.ref a)] h0 (fun (v : Option Value) (h' : Heap) => v = none ∧ h' = h0) := by
  refine metW (Q := fun (v : Option Value) (h' : Heap) => v = none ∧ h' = h0) pf_11 hn0 ?_
  intro p e s m below meth c T X hby hml hret hnm
  refine Goes.by (g' := (mkF m 0 #[.val (.ref a)] [])) (fun _ q => castTop (by first | rfl | (simp [entryFrame, mkF, argsToLocals, Value.category]; done)) q) ?_
  refine Goes.by (g' := (mkF m 1 #[.val (.ref a)] [(.ref a)])) (fun _ q => XS.aloadN X.here X.hx rfl (hb hby d11_0) rfl rfl q) ?_
  refine X.initO (hw _ (List.mem_of_getElem? (i := 70) rfl)) (hw _ (List.mem_of_getElem? (i := 16) rfl)) (hw _ (List.mem_of_getElem? (i := 17) rfl)) (by rw [hml]; rfl) (hb hby d11_1) (by decide) (leB rfl) (fun T X => ?_)
  show Goes _ _ _ _ _ _ _ _ T (mkF m 4 #[.val (.ref a)] [])
  exact X.retV hret (hb hby d11_4) (by decide) (by decide) ⟨rfl, rfl⟩
set_option maxRecDepth 65536 in
set_option maxHeartbeats 40000000 in
theorem rmNlz (l : Launch) (Z : State) (a0 : Array Value) (hw : ∀ d ∈ tables_1, d.before a0 Z = true) (n0 : Nat) (h0 : Heap) (hn0 : n0 ≤ h0.size)  :
    Met l Z n0 (⟨"java/lang/Integer", "numberOfLeadingZeros", "(I)I"⟩ : MethodName) jdk_33_method_47_code 2 (Option.some .int) ({ frames := 0, cells := 0, slots := 0, locals := 0 } : Room) #[(.int (15 : Int32))] h0 (fun (v : Option Value) (h' : Heap) => v = some (.int 28) ∧ h' = h0) := by
  refine metW (Q := fun (v : Option Value) (h' : Heap) => v = some (.int 28) ∧ h' = h0) pf_14 hn0 ?_
  intro p e s m below meth c T X hby hml hret hnm
  refine Goes.by (g' := (mkF m 0 #[.val (.int (15 : Int32)), .unset] [])) (fun _ q => castTop (by first | rfl | (simp [entryFrame, mkF, argsToLocals, Value.category]; done)) q) ?_
  refine Goes.by (g' := (mkF m 1 #[.val (.int (15 : Int32)), .unset] [(.int (15 : Int32))])) (fun _ q => XS.iloadN X.here X.hx rfl (hb hby d14_0) rfl q) ?_
  refine Goes.by (g' := (mkF m 15 #[.val (.int (15 : Int32)), .unset] [])) (fun _ q => XS.ifYes X.here X.hx rfl (pc0 := 1) (pc' := 15) rfl (hb hby d14_1) rfl ((if0 _ _).trans (tlt (show (0 : Int32) < (15 : Int32) from (by decide))).2.2.1) (by decide) (by decide) q) ?_
  refine Goes.by (g' := (mkF m 17 #[.val (.int (15 : Int32)), .unset] [(.int (31 : Int32))])) (fun _ q => XS.bipush X.here X.hx rfl (hb hby d14_15) q) ?_
  refine Goes.by (g' := (mkF m 18 #[.val (.int (15 : Int32)), .val (.int (31 : Int32))] [])) (fun _ q => XS.istoreN X.here X.hx rfl (hb hby d14_17) rfl (l' := #[.val (.int (15 : Int32)), .val (.int (31 : Int32))]) rfl q) ?_
  refine Goes.by (g' := (mkF m 19 #[.val (.int (15 : Int32)), .val (.int (31 : Int32))] [(.int (15 : Int32))])) (fun _ q => XS.iloadN X.here X.hx rfl (hb hby d14_18) rfl q) ?_
  refine X.ldcWI (hw _ (List.mem_of_getElem? (i := 85) rfl)) (hb hby d14_19) ?_
  show Goes _ _ _ _ _ _ _ _ T (mkF m 22 #[.val (.int (15 : Int32)), .val (.int (31 : Int32))] [(.int (65536 : Int32)), (.int (15 : Int32))])
  refine Goes.by (g' := (mkF m 33 #[.val (.int (15 : Int32)), .val (.int (31 : Int32))] [])) (fun _ q => XS.icmpYes X.here X.hx rfl (pc0 := 22) (pc' := 33) rfl (hb hby d14_22) rfl (tlt (show (15 : Int32) < (65536 : Int32) from (by decide))).1 (by decide) (by decide) q) ?_
  refine Goes.by (g' := (mkF m 34 #[.val (.int (15 : Int32)), .val (.int (31 : Int32))] [(.int (15 : Int32))])) (fun _ q => XS.iloadN X.here X.hx rfl (hb hby d14_33) rfl q) ?_
  refine Goes.by (g' := (mkF m 37 #[.val (.int (15 : Int32)), .val (.int (31 : Int32))] [(.int (256 : Int32)), (.int (15 : Int32))])) (fun _ q => XS.sipush X.here X.hx rfl (hb hby d14_34) q) ?_
  refine Goes.by (g' := (mkF m 48 #[.val (.int (15 : Int32)), .val (.int (31 : Int32))] [])) (fun _ q => XS.icmpYes X.here X.hx rfl (pc0 := 37) (pc' := 48) rfl (hb hby d14_37) rfl (tlt (show (15 : Int32) < (256 : Int32) from (by decide))).1 (by decide) (by decide) q) ?_
  refine Goes.by (g' := (mkF m 49 #[.val (.int (15 : Int32)), .val (.int (31 : Int32))] [(.int (15 : Int32))])) (fun _ q => XS.iloadN X.here X.hx rfl (hb hby d14_48) rfl q) ?_
  refine Goes.by (g' := (mkF m 51 #[.val (.int (15 : Int32)), .val (.int (31 : Int32))] [(.int (16 : Int32)), (.int (15 : Int32))])) (fun _ q => XS.bipush X.here X.hx rfl (hb hby d14_49) q) ?_
  refine Goes.by (g' := (mkF m 61 #[.val (.int (15 : Int32)), .val (.int (31 : Int32))] [])) (fun _ q => XS.icmpYes X.here X.hx rfl (pc0 := 51) (pc' := 61) rfl (hb hby d14_51) rfl (tlt (show (15 : Int32) < (16 : Int32) from (by decide))).1 (by decide) (by decide) q) ?_
  refine Goes.by (g' := (mkF m 62 #[.val (.int (15 : Int32)), .val (.int (31 : Int32))] [(.int (15 : Int32))])) (fun _ q => XS.iloadN X.here X.hx rfl (hb hby d14_61) rfl q) ?_
  refine Goes.by (g' := (mkF m 63 #[.val (.int (15 : Int32)), .val (.int (31 : Int32))] [(.int (4 : Int32)), (.int (15 : Int32))])) (fun _ q => XS.iconst X.here X.hx rfl (hb hby d14_62) q) ?_
  refine Goes.by (g' := (mkF m 66 #[.val (.int (15 : Int32)), .val (.int (31 : Int32))] [])) (fun _ q => XS.icmpNo X.here X.hx rfl (hb hby d14_63) rfl (flt (show ¬ (15 : Int32) < (4 : Int32) from (by decide))).1 q) ?_
  refine Goes.by (g' := (mkF m 69 #[.val (.int (15 : Int32)), .val (.int (29 : Int32))] [])) (fun _ q => XS.iinc X.here X.hx rfl (hb hby d14_66) rfl (l' := #[.val (.int (15 : Int32)), .val (.int (29 : Int32))]) rfl q) ?_
  refine Goes.by (g' := (mkF m 70 #[.val (.int (15 : Int32)), .val (.int (29 : Int32))] [(.int (15 : Int32))])) (fun _ q => XS.iloadN X.here X.hx rfl (hb hby d14_69) rfl q) ?_
  refine Goes.by (g' := (mkF m 71 #[.val (.int (15 : Int32)), .val (.int (29 : Int32))] [(.int (2 : Int32)), (.int (15 : Int32))])) (fun _ q => XS.iconst X.here X.hx rfl (hb hby d14_70) q) ?_
  refine Goes.by (g' := (mkF m 72 #[.val (.int (15 : Int32)), .val (.int (29 : Int32))] [(.int (3 : Int32))])) (fun _ q => XS.iushr X.here X.hx rfl (hb hby d14_71) rfl q) ?_
  refine Goes.by (g' := (mkF m 73 #[.val (.int (3 : Int32)), .val (.int (29 : Int32))] [])) (fun _ q => XS.istoreN X.here X.hx rfl (hb hby d14_72) rfl (l' := #[.val (.int (3 : Int32)), .val (.int (29 : Int32))]) rfl q) ?_
  refine Goes.by (g' := (mkF m 74 #[.val (.int (3 : Int32)), .val (.int (29 : Int32))] [(.int (29 : Int32))])) (fun _ q => XS.iloadN X.here X.hx rfl (hb hby d14_73) rfl q) ?_
  refine Goes.by (g' := (mkF m 75 #[.val (.int (3 : Int32)), .val (.int (29 : Int32))] [(.int (3 : Int32)), (.int (29 : Int32))])) (fun _ q => XS.iloadN X.here X.hx rfl (hb hby d14_74) rfl q) ?_
  refine Goes.by (g' := (mkF m 76 #[.val (.int (3 : Int32)), .val (.int (29 : Int32))] [(.int (1 : Int32)), (.int (3 : Int32)), (.int (29 : Int32))])) (fun _ q => XS.iconst X.here X.hx rfl (hb hby d14_75) q) ?_
  refine Goes.by (g' := (mkF m 77 #[.val (.int (3 : Int32)), .val (.int (29 : Int32))] [(.int (1 : Int32)), (.int (29 : Int32))])) (fun _ q => XS.iushr X.here X.hx rfl (hb hby d14_76) rfl q) ?_
  refine Goes.by (g' := (mkF m 78 #[.val (.int (3 : Int32)), .val (.int (29 : Int32))] [(.int (28 : Int32))])) (fun _ q => XS.isub X.here X.hx rfl (hb hby d14_77) rfl q) ?_
  exact X.retI hret (hb hby d14_78) (by decide) (by decide) ⟨rfl, rfl⟩
set_option maxRecDepth 65536 in
set_option maxHeartbeats 40000000 in
theorem rmTsf (l : Launch) (Z : State) (a0 : Array Value) (hw : ∀ d ∈ tables_1, d.before a0 Z = true) (n0 : Nat) (h0 : Heap) (hn0 : n0 ≤ h0.size)  :
    Met l Z n0 (⟨"java/util/HashMap", "tableSizeFor", "(I)I"⟩ : MethodName) jdk_69_method_4_code 2 (Option.some .int) ({ frames := 1, cells := 0, slots := 0, locals := 14 } : Room) #[(.int (16 : Int32))] h0 (fun (v : Option Value) (h' : Heap) => v = some (.int 16) ∧ h' = h0) := by
  refine metW (Q := fun (v : Option Value) (h' : Heap) => v = some (.int 16) ∧ h' = h0) pf_13 hn0 ?_
  intro p e s m below meth c T X hby hml hret hnm
  refine Goes.by (g' := (mkF m 0 #[.val (.int (16 : Int32)), .unset] [])) (fun _ q => castTop (by first | rfl | (simp [entryFrame, mkF, argsToLocals, Value.category]; done)) q) ?_
  refine Goes.by (g' := (mkF m 1 #[.val (.int (16 : Int32)), .unset] [(.int (-1 : Int32))])) (fun _ q => XS.iconst X.here X.hx rfl (hb hby d13_0) q) ?_
  refine Goes.by (g' := (mkF m 2 #[.val (.int (16 : Int32)), .unset] [(.int (16 : Int32)), (.int (-1 : Int32))])) (fun _ q => XS.iloadN X.here X.hx rfl (hb hby d13_1) rfl q) ?_
  refine Goes.by (g' := (mkF m 3 #[.val (.int (16 : Int32)), .unset] [(.int (1 : Int32)), (.int (16 : Int32)), (.int (-1 : Int32))])) (fun _ q => XS.iconst X.here X.hx rfl (hb hby d13_2) q) ?_
  refine Goes.by (g' := (mkF m 4 #[.val (.int (16 : Int32)), .unset] [(.int (15 : Int32)), (.int (-1 : Int32))])) (fun _ q => XS.isub X.here X.hx rfl (hb hby d13_3) rfl q) ?_
  have X_o := X
  refine X.callS (hw _ (List.mem_of_getElem? (i := 81) rfl)) (hw _ (List.mem_of_getElem? (i := 82) rfl)) (hw _ (List.mem_of_getElem? (i := 83) rfl)) (hw _ (List.mem_of_getElem? (i := 84) rfl)) (by decide) pd_2087992008 (argsL := [(.int (15 : Int32))]) rfl (rmNlz l Z a0 hw n0 h0 X.n0le) (by rw [hml]; rfl) rfl (by decide) (leB rfl) (hb hby d13_4) (by decide) (by decide) (fun T h2 v X hQ => ?_)
  obtain ⟨rfl, hh⟩ := hQ
  rw [hh] at X
  clear hh
  show Goes _ _ _ _ _ _ _ _ T (mkF m 7 #[.val (.int (16 : Int32)), .unset] [(.int (28 : Int32)), (.int (-1 : Int32))])
  refine Goes.by (g' := (mkF m 8 #[.val (.int (16 : Int32)), .unset] [(.int (15 : Int32))])) (fun _ q => XS.iushr X.here X.hx rfl (hb hby d13_7) rfl q) ?_
  refine Goes.by (g' := (mkF m 9 #[.val (.int (16 : Int32)), .val (.int (15 : Int32))] [])) (fun _ q => XS.istoreN X.here X.hx rfl (hb hby d13_8) rfl (l' := #[.val (.int (16 : Int32)), .val (.int (15 : Int32))]) rfl q) ?_
  refine Goes.by (g' := (mkF m 10 #[.val (.int (16 : Int32)), .val (.int (15 : Int32))] [(.int (15 : Int32))])) (fun _ q => XS.iloadN X.here X.hx rfl (hb hby d13_9) rfl q) ?_
  refine Goes.by (g' := (mkF m 17 #[.val (.int (16 : Int32)), .val (.int (15 : Int32))] [])) (fun _ q => XS.ifYes X.here X.hx rfl (pc0 := 10) (pc' := 17) rfl (hb hby d13_10) rfl ((if0 _ _).trans (flt (show ¬ (15 : Int32) < (0 : Int32) from (by decide))).2.1) (by decide) (by decide) q) ?_
  refine Goes.by (g' := (mkF m 18 #[.val (.int (16 : Int32)), .val (.int (15 : Int32))] [(.int (15 : Int32))])) (fun _ q => XS.iloadN X.here X.hx rfl (hb hby d13_17) rfl q) ?_
  refine X.ldcI (hw _ (List.mem_of_getElem? (i := 71) rfl)) (hb hby d13_18) ?_
  show Goes _ _ _ _ _ _ _ _ T (mkF m 20 #[.val (.int (16 : Int32)), .val (.int (15 : Int32))] [(.int (1073741824 : Int32)), (.int (15 : Int32))])
  refine Goes.by (g' := (mkF m 28 #[.val (.int (16 : Int32)), .val (.int (15 : Int32))] [])) (fun _ q => XS.icmpYes X.here X.hx rfl (pc0 := 20) (pc' := 28) rfl (hb hby d13_20) rfl (tlt (show (15 : Int32) < (1073741824 : Int32) from (by decide))).1 (by decide) (by decide) q) ?_
  refine Goes.by (g' := (mkF m 29 #[.val (.int (16 : Int32)), .val (.int (15 : Int32))] [(.int (15 : Int32))])) (fun _ q => XS.iloadN X.here X.hx rfl (hb hby d13_28) rfl q) ?_
  refine Goes.by (g' := (mkF m 30 #[.val (.int (16 : Int32)), .val (.int (15 : Int32))] [(.int (1 : Int32)), (.int (15 : Int32))])) (fun _ q => XS.iconst X.here X.hx rfl (hb hby d13_29) q) ?_
  refine Goes.by (g' := (mkF m 31 #[.val (.int (16 : Int32)), .val (.int (15 : Int32))] [(.int (16 : Int32))])) (fun _ q => XS.iadd X.here X.hx rfl (hb hby d13_30) rfl q) ?_
  exact X.retI hret (hb hby d13_31) (by decide) (by decide) ⟨rfl, rfl⟩
set_option maxRecDepth 65536 in
set_option maxHeartbeats 40000000 in
theorem rmNan (l : Launch) (Z : State) (a0 : Array Value) (hw : ∀ d ∈ tables_1, d.before a0 Z = true) (n0 : Nat) (h0 : Heap) (hn0 : n0 ≤ h0.size)  :
    Met l Z n0 (⟨"java/lang/Float", "isNaN", "(F)Z"⟩ : MethodName) jdk_118_method_6_code 1 (Option.some .boolean) ({ frames := 0, cells := 0, slots := 0, locals := 0 } : Room) #[(.float (1061158912 : UInt32))] h0 (fun (v : Option Value) (h' : Heap) => v = some (.int 0) ∧ h' = h0) := by
  refine metW (Q := fun (v : Option Value) (h' : Heap) => v = some (.int 0) ∧ h' = h0) pf_12 hn0 ?_
  intro p e s m below meth c T X hby hml hret hnm
  refine Goes.by (g' := (mkF m 0 #[.val (.float (1061158912 : UInt32))] [])) (fun _ q => castTop (by first | rfl | (simp [entryFrame, mkF, argsToLocals, Value.category]; done)) q) ?_
  refine Goes.by (g' := (mkF m 1 #[.val (.float (1061158912 : UInt32))] [(.float (1061158912 : UInt32))])) (fun _ q => XS.floadN X.here X.hx rfl (hb hby d12_0) rfl q) ?_
  refine Goes.by (g' := (mkF m 2 #[.val (.float (1061158912 : UInt32))] [(.float (1061158912 : UInt32)), (.float (1061158912 : UInt32))])) (fun _ q => XS.floadN X.here X.hx rfl (hb hby d12_1) rfl q) ?_
  refine Goes.by (g' := (mkF m 3 #[.val (.float (1061158912 : UInt32))] [(.int (0 : Int32))])) (fun _ q => XS.fcmpS X.here X.hx rfl (hb hby d12_2) rfl (by decide +kernel) q) ?_
  refine Goes.by (g' := (mkF m 10 #[.val (.float (1061158912 : UInt32))] [])) (fun _ q => XS.ifYes X.here X.hx rfl (pc0 := 3) (pc' := 10) rfl (hb hby d12_3) rfl ((if0 _ _).trans (teq (show (0 : Int32) = (0 : Int32) from (by decide))).1) (by decide) (by decide) q) ?_
  refine Goes.by (g' := (mkF m 11 #[.val (.float (1061158912 : UInt32))] [(.int (0 : Int32))])) (fun _ q => XS.iconst X.here X.hx rfl (hb hby d12_10) q) ?_
  exact X.retZ hret (hb hby d12_11) (by decide) (by decide) ⟨rfl, rfl⟩
set_option maxRecDepth 65536 in
set_option maxHeartbeats 40000000 in
theorem rmHM (l : Launch) (Z : State) (a0 : Array Value) (hw : ∀ d ∈ tables_1, d.before a0 Z = true) (n0 : Nat) (h0 : Heap) (hn0 : n0 ≤ h0.size) (a : Addr) (ga_a : n0 ≤ a) (E_a : Exa Z h0 a "java/util/LinkedHashMap") (F_a_loadFactor : Fld Z h0 a "java/util/HashMap" "loadFactor" "F" (.float (0 : UInt32))) (F_a_threshold : Fld Z h0 a "java/util/HashMap" "threshold" "I" (.int (0 : Int32))) (F_a_putMode : Fld Z h0 a "java/util/LinkedHashMap" "putMode" "I" (.int (0 : Int32))) (F_a_accessOrder : Fld Z h0 a "java/util/LinkedHashMap" "accessOrder" "Z" (.int (0 : Int32)))  :
    Met l Z n0 (⟨"java/util/HashMap", "<init>", "(IF)V"⟩ : MethodName) jdk_69_method_5_code 3 (Option.none : Option FieldType) ({ frames := 2, cells := 0, slots := 0, locals := 28 } : Room) #[(.ref a), (.int (16 : Int32)), (.float (1061158912 : UInt32))] h0 (fun (v : Option Value) (h' : Heap) => v = none ∧ Keep h0 h' [a] ∧ Fld Z h' a "java/util/LinkedHashMap" "putMode" "I" (.int (0 : Int32)) ∧ Fld Z h' a "java/util/LinkedHashMap" "accessOrder" "Z" (.int (0 : Int32))) := by
  refine metW (Q := fun (v : Option Value) (h' : Heap) => v = none ∧ Keep h0 h' [a] ∧ Fld Z h' a "java/util/LinkedHashMap" "putMode" "I" (.int (0 : Int32)) ∧ Fld Z h' a "java/util/LinkedHashMap" "accessOrder" "Z" (.int (0 : Int32))) pf_10 hn0 ?_
  intro p e s m below meth c T X hby hml hret hnm
  refine Goes.by (g' := (mkF m 0 #[.val (.ref a), .val (.int (16 : Int32)), .val (.float (1061158912 : UInt32))] [])) (fun _ q => castTop (by first | rfl | (simp [entryFrame, mkF, argsToLocals, Value.category]; done)) q) ?_
  have K0 := Keep.refl h0 [a]
  refine Goes.by (g' := (mkF m 1 #[.val (.ref a), .val (.int (16 : Int32)), .val (.float (1061158912 : UInt32))] [(.ref a)])) (fun _ q => XS.aloadN X.here X.hx rfl (hb hby d10_0) rfl rfl q) ?_
  have X_o := X
  refine X.callN rfl (hw _ (List.mem_of_getElem? (i := 64) rfl)) (hw _ (List.mem_of_getElem? (i := 65) rfl)) (hw _ (List.mem_of_getElem? (i := 68) rfl)) (hw _ (List.mem_of_getElem? (i := 69) rfl)) (by decide) pd_193421996 (argsL := []) rfl (rmAM l Z a0 hw n0 h0 X.n0le a) (by rw [hml]; rfl) rfl (by decide) (leB rfl) (hb hby d10_1) (by decide) (by decide) (fun T h3 v X hQ => ?_)
  obtain ⟨rfl, hh⟩ := hQ
  rw [hh] at X
  clear hh
  show Goes _ _ _ _ _ _ _ _ T (mkF m 4 #[.val (.ref a), .val (.int (16 : Int32)), .val (.float (1061158912 : UInt32))] [])
  refine Goes.by (g' := (mkF m 5 #[.val (.ref a), .val (.int (16 : Int32)), .val (.float (1061158912 : UInt32))] [(.int (16 : Int32))])) (fun _ q => XS.iloadN X.here X.hx rfl (hb hby d10_4) rfl q) ?_
  refine Goes.by (g' := (mkF m 35 #[.val (.ref a), .val (.int (16 : Int32)), .val (.float (1061158912 : UInt32))] [])) (fun _ q => XS.ifYes X.here X.hx rfl (pc0 := 5) (pc' := 35) rfl (hb hby d10_5) rfl ((if0 _ _).trans (flt (show ¬ (16 : Int32) < (0 : Int32) from (by decide))).2.1) (by decide) (by decide) q) ?_
  refine Goes.by (g' := (mkF m 36 #[.val (.ref a), .val (.int (16 : Int32)), .val (.float (1061158912 : UInt32))] [(.int (16 : Int32))])) (fun _ q => XS.iloadN X.here X.hx rfl (hb hby d10_35) rfl q) ?_
  refine X.ldcI (hw _ (List.mem_of_getElem? (i := 71) rfl)) (hb hby d10_36) ?_
  show Goes _ _ _ _ _ _ _ _ T (mkF m 38 #[.val (.ref a), .val (.int (16 : Int32)), .val (.float (1061158912 : UInt32))] [(.int (1073741824 : Int32)), (.int (16 : Int32))])
  refine Goes.by (g' := (mkF m 44 #[.val (.ref a), .val (.int (16 : Int32)), .val (.float (1061158912 : UInt32))] [])) (fun _ q => XS.icmpYes X.here X.hx rfl (pc0 := 38) (pc' := 44) rfl (hb hby d10_38) rfl (flt (show ¬ (1073741824 : Int32) < (16 : Int32) from (by decide))).2.2.2 (by decide) (by decide) q) ?_
  refine Goes.by (g' := (mkF m 45 #[.val (.ref a), .val (.int (16 : Int32)), .val (.float (1061158912 : UInt32))] [(.float (1061158912 : UInt32))])) (fun _ q => XS.floadN X.here X.hx rfl (hb hby d10_44) rfl q) ?_
  refine Goes.by (g' := (mkF m 46 #[.val (.ref a), .val (.int (16 : Int32)), .val (.float (1061158912 : UInt32))] [(.float (0 : UInt32)), (.float (1061158912 : UInt32))])) (fun _ q => XS.fconst0 X.here X.hx rfl (hb hby d10_45) rfl q) ?_
  refine Goes.by (g' := (mkF m 47 #[.val (.ref a), .val (.int (16 : Int32)), .val (.float (1061158912 : UInt32))] [(.int (1 : Int32))])) (fun _ q => XS.fcmpS X.here X.hx rfl (hb hby d10_46) rfl (by decide +kernel) q) ?_
  refine Goes.by (g' := (mkF m 50 #[.val (.ref a), .val (.int (16 : Int32)), .val (.float (1061158912 : UInt32))] [])) (fun _ q => XS.ifNo X.here X.hx rfl (hb hby d10_47) rfl ((if0 _ _).trans (tlt (show (0 : Int32) < (1 : Int32) from (by decide))).2.2.2) q) ?_
  refine Goes.by (g' := (mkF m 51 #[.val (.ref a), .val (.int (16 : Int32)), .val (.float (1061158912 : UInt32))] [(.float (1061158912 : UInt32))])) (fun _ q => XS.floadN X.here X.hx rfl (hb hby d10_50) rfl q) ?_
  have X_o := X
  refine X.callS (hw _ (List.mem_of_getElem? (i := 72) rfl)) (hw _ (List.mem_of_getElem? (i := 73) rfl)) (hw _ (List.mem_of_getElem? (i := 74) rfl)) (hw _ (List.mem_of_getElem? (i := 75) rfl)) (by decide) pd_2087988758 (argsL := [(.float (1061158912 : UInt32))]) rfl (rmNan l Z a0 hw n0 h0 X.n0le) (by rw [hml]; rfl) rfl (by decide) (leB rfl) (hb hby d10_51) (by decide) (by decide) (fun T h4 v X hQ => ?_)
  obtain ⟨rfl, hh⟩ := hQ
  rw [hh] at X
  clear hh
  show Goes _ _ _ _ _ _ _ _ T (mkF m 54 #[.val (.ref a), .val (.int (16 : Int32)), .val (.float (1061158912 : UInt32))] [(.int (0 : Int32))])
  refine Goes.by (g' := (mkF m 84 #[.val (.ref a), .val (.int (16 : Int32)), .val (.float (1061158912 : UInt32))] [])) (fun _ q => XS.ifYes X.here X.hx rfl (pc0 := 54) (pc' := 84) rfl (hb hby d10_54) rfl ((if0 _ _).trans (teq (show (0 : Int32) = (0 : Int32) from (by decide))).1) (by decide) (by decide) q) ?_
  refine Goes.by (g' := (mkF m 85 #[.val (.ref a), .val (.int (16 : Int32)), .val (.float (1061158912 : UInt32))] [(.ref a)])) (fun _ q => XS.aloadN X.here X.hx rfl (hb hby d10_84) rfl rfl q) ?_
  refine Goes.by (g' := (mkF m 86 #[.val (.ref a), .val (.int (16 : Int32)), .val (.float (1061158912 : UInt32))] [(.float (1061158912 : UInt32)), (.ref a)])) (fun _ q => XS.floadN X.here X.hx rfl (hb hby d10_85) rfl q) ?_
  refine X.putF (host := "") (Or.inl (hw _ (List.mem_of_getElem? (i := 76) rfl))) Via.refl F_a_loadFactor E_a (Or.inr ⟨(hw _ (List.mem_of_getElem? (i := 77) rfl)), rfl, hnm⟩) (hw _ (List.mem_of_getElem? (i := 52) rfl)) (ty := .float) (by decide) rfl rfl ga_a (hb hby d10_86) (fun T h5 X W => ?_)
  have K0 := K0.wr W (Or.inl (by simp))
  have E_a := E_a.wr W
  have F_a_loadFactor := F_a_loadFactor.same W
  have F_a_threshold := F_a_threshold.other W (Or.inr (slot_ne (Or.inl (hw _ (List.mem_of_getElem? (i := 87) rfl))) (Or.inr (hw _ (List.mem_of_getElem? (i := 77) rfl))) (by decide) (t := .int) (t' := .float) (by decide) (by decide)))
  have F_a_putMode := F_a_putMode.other W (Or.inr (slot_ne (Or.inl (hw _ (List.mem_of_getElem? (i := 89) rfl))) (Or.inr (hw _ (List.mem_of_getElem? (i := 77) rfl))) (by decide) (t := .int) (t' := .float) (by decide) (by decide)))
  have F_a_accessOrder := F_a_accessOrder.other W (Or.inr (slot_ne (Or.inr (hw _ (List.mem_of_getElem? (i := 91) rfl))) (Or.inr (hw _ (List.mem_of_getElem? (i := 77) rfl))) (by decide) (t := .boolean) (t' := .float) (by decide) (by decide)))
  show Goes _ _ _ _ _ _ _ _ T (mkF m 89 #[.val (.ref a), .val (.int (16 : Int32)), .val (.float (1061158912 : UInt32))] [])
  refine Goes.by (g' := (mkF m 90 #[.val (.ref a), .val (.int (16 : Int32)), .val (.float (1061158912 : UInt32))] [(.ref a)])) (fun _ q => XS.aloadN X.here X.hx rfl (hb hby d10_89) rfl rfl q) ?_
  refine Goes.by (g' := (mkF m 91 #[.val (.ref a), .val (.int (16 : Int32)), .val (.float (1061158912 : UInt32))] [(.int (16 : Int32)), (.ref a)])) (fun _ q => XS.iloadN X.here X.hx rfl (hb hby d10_90) rfl q) ?_
  have X_o := X
  refine X.callS (hw _ (List.mem_of_getElem? (i := 78) rfl)) (hw _ (List.mem_of_getElem? (i := 79) rfl)) (hw _ (List.mem_of_getElem? (i := 62) rfl)) (hw _ (List.mem_of_getElem? (i := 80) rfl)) (by decide) pd_2087992008 (argsL := [(.int (16 : Int32))]) rfl (rmTsf l Z a0 hw n0 h5 X.n0le) (by rw [hml]; rfl) rfl (by decide) (leB rfl) (hb hby d10_91) (by decide) (by decide) (fun T h6 v X hQ => ?_)
  obtain ⟨rfl, hh⟩ := hQ
  rw [hh] at X
  clear hh
  show Goes _ _ _ _ _ _ _ _ T (mkF m 94 #[.val (.ref a), .val (.int (16 : Int32)), .val (.float (1061158912 : UInt32))] [(.int (16 : Int32)), (.ref a)])
  refine X.putF (host := "") (Or.inl (hw _ (List.mem_of_getElem? (i := 86) rfl))) Via.refl F_a_threshold E_a (Or.inl (hw _ (List.mem_of_getElem? (i := 87) rfl))) (hw _ (List.mem_of_getElem? (i := 52) rfl)) (ty := .int) (by decide) rfl rfl ga_a (hb hby d10_94) (fun T h7 X W => ?_)
  have K0 := K0.wr W (Or.inl (by simp))
  have E_a := E_a.wr W
  have F_a_loadFactor := F_a_loadFactor.other W (Or.inr (slot_ne (Or.inr (hw _ (List.mem_of_getElem? (i := 77) rfl))) (Or.inl (hw _ (List.mem_of_getElem? (i := 87) rfl))) (by decide) (t := .float) (t' := .int) (by decide) (by decide)))
  have F_a_threshold := F_a_threshold.same W
  have F_a_putMode := F_a_putMode.other W (Or.inr (slot_ne (Or.inl (hw _ (List.mem_of_getElem? (i := 89) rfl))) (Or.inl (hw _ (List.mem_of_getElem? (i := 87) rfl))) (by decide) (t := .int) (t' := .int) (by decide) (by decide)))
  have F_a_accessOrder := F_a_accessOrder.other W (Or.inr (slot_ne (Or.inr (hw _ (List.mem_of_getElem? (i := 91) rfl))) (Or.inl (hw _ (List.mem_of_getElem? (i := 87) rfl))) (by decide) (t := .boolean) (t' := .int) (by decide) (by decide)))
  show Goes _ _ _ _ _ _ _ _ T (mkF m 97 #[.val (.ref a), .val (.int (16 : Int32)), .val (.float (1061158912 : UInt32))] [])
  exact X.retV hret (hb hby d10_97) (by decide) (by decide) ⟨rfl, K0, F_a_putMode, F_a_accessOrder⟩
set_option maxRecDepth 65536 in
set_option maxHeartbeats 40000000 in
theorem rmLHM (l : Launch) (Z : State) (a0 : Array Value) (hw : ∀ d ∈ tables_1, d.before a0 Z = true) (n0 : Nat) (h0 : Heap) (hn0 : n0 ≤ h0.size) (a : Addr) (ga_a : n0 ≤ a) (E_a : Exa Z h0 a "java/util/LinkedHashMap") (F_a_loadFactor : Fld Z h0 a "java/util/HashMap" "loadFactor" "F" (.float (0 : UInt32))) (F_a_threshold : Fld Z h0 a "java/util/HashMap" "threshold" "I" (.int (0 : Int32))) (F_a_putMode : Fld Z h0 a "java/util/LinkedHashMap" "putMode" "I" (.int (0 : Int32))) (F_a_accessOrder : Fld Z h0 a "java/util/LinkedHashMap" "accessOrder" "Z" (.int (0 : Int32)))  :
    Met l Z n0 (⟨"java/util/LinkedHashMap", "<init>", "(IF)V"⟩ : MethodName) jdk_94_method_14_code 3 (Option.none : Option FieldType) ({ frames := 3, cells := 0, slots := 0, locals := 42 } : Room) #[(.ref a), (.int (16 : Int32)), (.float (1061158912 : UInt32))] h0 (fun (v : Option Value) (h' : Heap) => v = none ∧ Keep h0 h' [a]) := by
  refine metW (Q := fun (v : Option Value) (h' : Heap) => v = none ∧ Keep h0 h' [a]) pf_9 hn0 ?_
  intro p e s m below meth c T X hby hml hret hnm
  refine Goes.by (g' := (mkF m 0 #[.val (.ref a), .val (.int (16 : Int32)), .val (.float (1061158912 : UInt32))] [])) (fun _ q => castTop (by first | rfl | (simp [entryFrame, mkF, argsToLocals, Value.category]; done)) q) ?_
  have K0 := Keep.refl h0 [a]
  refine Goes.by (g' := (mkF m 1 #[.val (.ref a), .val (.int (16 : Int32)), .val (.float (1061158912 : UInt32))] [(.ref a)])) (fun _ q => XS.aloadN X.here X.hx rfl (hb hby d9_0) rfl rfl q) ?_
  refine Goes.by (g' := (mkF m 2 #[.val (.ref a), .val (.int (16 : Int32)), .val (.float (1061158912 : UInt32))] [(.int (16 : Int32)), (.ref a)])) (fun _ q => XS.iloadN X.here X.hx rfl (hb hby d9_1) rfl q) ?_
  refine Goes.by (g' := (mkF m 3 #[.val (.ref a), .val (.int (16 : Int32)), .val (.float (1061158912 : UInt32))] [(.float (1061158912 : UInt32)), (.int (16 : Int32)), (.ref a)])) (fun _ q => XS.floadN X.here X.hx rfl (hb hby d9_2) rfl q) ?_
  have X_o := X
  refine X.callN rfl (hw _ (List.mem_of_getElem? (i := 58) rfl)) (hw _ (List.mem_of_getElem? (i := 59) rfl)) (hw _ (List.mem_of_getElem? (i := 62) rfl)) (hw _ (List.mem_of_getElem? (i := 63) rfl)) (by decide) pd_184290139 (argsL := [(.int (16 : Int32)), (.float (1061158912 : UInt32))]) rfl (rmHM l Z a0 hw n0 h0 X.n0le a ga_a E_a F_a_loadFactor F_a_threshold F_a_putMode F_a_accessOrder) (by rw [hml]; rfl) rfl (by decide) (leB rfl) (hb hby d9_3) (by decide) (by decide) (fun T h8 v X hQ => ?_)
  obtain ⟨rfl, K, F_a_putMode, F_a_accessOrder⟩ := hQ
  have K0 := K0.trans K (allS (Or.inl (by simp)) all0)
  have E_a := E_a.keep K
  show Goes _ _ _ _ _ _ _ _ T (mkF m 6 #[.val (.ref a), .val (.int (16 : Int32)), .val (.float (1061158912 : UInt32))] [])
  refine Goes.by (g' := (mkF m 7 #[.val (.ref a), .val (.int (16 : Int32)), .val (.float (1061158912 : UInt32))] [(.ref a)])) (fun _ q => XS.aloadN X.here X.hx rfl (hb hby d9_6) rfl rfl q) ?_
  refine Goes.by (g' := (mkF m 8 #[.val (.ref a), .val (.int (16 : Int32)), .val (.float (1061158912 : UInt32))] [(.int (0 : Int32)), (.ref a)])) (fun _ q => XS.iconst X.here X.hx rfl (hb hby d9_7) q) ?_
  refine X.putF (host := "") (Or.inl (hw _ (List.mem_of_getElem? (i := 88) rfl))) Via.refl F_a_putMode E_a (Or.inl (hw _ (List.mem_of_getElem? (i := 89) rfl))) (hw _ (List.mem_of_getElem? (i := 52) rfl)) (ty := .int) (by decide) rfl rfl ga_a (hb hby d9_8) (fun T h9 X W => ?_)
  have K0 := K0.wr W (Or.inl (by simp))
  have E_a := E_a.wr W
  have F_a_putMode := F_a_putMode.same W
  have F_a_accessOrder := F_a_accessOrder.other W (Or.inr (slot_ne (Or.inr (hw _ (List.mem_of_getElem? (i := 91) rfl))) (Or.inl (hw _ (List.mem_of_getElem? (i := 89) rfl))) (by decide) (t := .boolean) (t' := .int) (by decide) (by decide)))
  show Goes _ _ _ _ _ _ _ _ T (mkF m 11 #[.val (.ref a), .val (.int (16 : Int32)), .val (.float (1061158912 : UInt32))] [])
  refine Goes.by (g' := (mkF m 12 #[.val (.ref a), .val (.int (16 : Int32)), .val (.float (1061158912 : UInt32))] [(.ref a)])) (fun _ q => XS.aloadN X.here X.hx rfl (hb hby d9_11) rfl rfl q) ?_
  refine Goes.by (g' := (mkF m 13 #[.val (.ref a), .val (.int (16 : Int32)), .val (.float (1061158912 : UInt32))] [(.int (0 : Int32)), (.ref a)])) (fun _ q => XS.iconst X.here X.hx rfl (hb hby d9_12) q) ?_
  refine X.putF (host := "") (Or.inl (hw _ (List.mem_of_getElem? (i := 90) rfl))) Via.refl F_a_accessOrder E_a (Or.inr ⟨(hw _ (List.mem_of_getElem? (i := 91) rfl)), rfl, hnm⟩) (hw _ (List.mem_of_getElem? (i := 52) rfl)) (ty := .boolean) (by decide) rfl rfl ga_a (hb hby d9_13) (fun T h10 X W => ?_)
  have K0 := K0.wr W (Or.inl (by simp))
  have E_a := E_a.wr W
  have F_a_putMode := F_a_putMode.other W (Or.inr (slot_ne (Or.inl (hw _ (List.mem_of_getElem? (i := 89) rfl))) (Or.inr (hw _ (List.mem_of_getElem? (i := 91) rfl))) (by decide) (t := .int) (t' := .boolean) (by decide) (by decide)))
  have F_a_accessOrder := F_a_accessOrder.same W
  show Goes _ _ _ _ _ _ _ _ T (mkF m 16 #[.val (.ref a), .val (.int (16 : Int32)), .val (.float (1061158912 : UInt32))] [])
  exact X.retV hret (hb hby d9_16) (by decide) (by decide) ⟨rfl, K0⟩
set_option maxRecDepth 65536 in
set_option maxHeartbeats 40000000 in
theorem rmHS (l : Launch) (Z : State) (a0 : Array Value) (hw : ∀ d ∈ tables_1, d.before a0 Z = true) (n0 : Nat) (h0 : Heap) (hn0 : n0 ≤ h0.size) (a : Addr) (ga_a : n0 ≤ a) (E_a : Exa Z h0 a "java/util/LinkedHashSet") (F_a_map : Fld Z h0 a "java/util/HashSet" "map" "Ljava/util/HashMap;" .null)  :
    Met l Z n0 (⟨"java/util/HashSet", "<init>", "(IFZ)V"⟩ : MethodName) jdk_93_method_5_code 4 (Option.none : Option FieldType) ({ frames := 4, cells := 1, slots := 12, locals := 58 } : Room) #[(.ref a), (.int (16 : Int32)), (.float (1061158912 : UInt32)), (.int (1 : Int32))] h0 (fun (v : Option Value) (h' : Heap) => v = none ∧ Keep h0 h' [a]) := by
  refine metW (Q := fun (v : Option Value) (h' : Heap) => v = none ∧ Keep h0 h' [a]) pf_6 hn0 ?_
  intro p e s m below meth c T X hby hml hret hnm
  refine Goes.by (g' := (mkF m 0 #[.val (.ref a), .val (.int (16 : Int32)), .val (.float (1061158912 : UInt32)), .val (.int (1 : Int32))] [])) (fun _ q => castTop (by first | rfl | (simp [entryFrame, mkF, argsToLocals, Value.category]; done)) q) ?_
  have K0 := Keep.refl h0 [a]
  refine Goes.by (g' := (mkF m 1 #[.val (.ref a), .val (.int (16 : Int32)), .val (.float (1061158912 : UInt32)), .val (.int (1 : Int32))] [(.ref a)])) (fun _ q => XS.aloadN X.here X.hx rfl (hb hby d6_0) rfl rfl q) ?_
  have X_o := X
  refine X.callN rfl (hw _ (List.mem_of_getElem? (i := 38) rfl)) (hw _ (List.mem_of_getElem? (i := 39) rfl)) (hw _ (List.mem_of_getElem? (i := 42) rfl)) (hw _ (List.mem_of_getElem? (i := 43) rfl)) (by decide) pd_193421996 (argsL := []) rfl (rmAS l Z a0 hw n0 h0 X.n0le a) (by rw [hml]; rfl) rfl (by decide) (leB rfl) (hb hby d6_1) (by decide) (by decide) (fun T h11 v X hQ => ?_)
  obtain ⟨rfl, hh⟩ := hQ
  rw [hh] at X
  clear hh
  show Goes _ _ _ _ _ _ _ _ T (mkF m 4 #[.val (.ref a), .val (.int (16 : Int32)), .val (.float (1061158912 : UInt32)), .val (.int (1 : Int32))] [])
  refine Goes.by (g' := (mkF m 5 #[.val (.ref a), .val (.int (16 : Int32)), .val (.float (1061158912 : UInt32)), .val (.int (1 : Int32))] [(.ref a)])) (fun _ q => XS.aloadN X.here X.hx rfl (hb hby d6_4) rfl rfl q) ?_
  refine X.newO (hw _ (List.mem_of_getElem? (i := 51) rfl)) (hw _ (List.mem_of_getElem? (i := 52) rfl)) (hw _ (List.mem_of_getElem? (i := 53) rfl)) (hb hby d6_5) (by decide) (by decide) (fun T h13 b12 X g_b12 ga_b12 E E_b12 D_b12 => ?_)
  have gz_b12 : h0.size ≤ b12 := by rw [g_b12]; exact K0.1
  have ne_a_b12 : a ≠ b12 := by rw [g_b12]; exact Nat.ne_of_lt E_a.lt
  have K0 := K0.ext E
  have E_a := E_a.ext E
  have F_a_map := F_a_map.ext E
  have F_b12_loadFactor : Fld Z h13 b12 "java/util/HashMap" "loadFactor" "F" (.float (0 : UInt32)) := D_b12 (Or.inr (hw _ (List.mem_of_getElem? (i := 77) rfl))) (ty := .float) (by decide)
  have F_b12_threshold : Fld Z h13 b12 "java/util/HashMap" "threshold" "I" (.int (0 : Int32)) := D_b12 (Or.inl (hw _ (List.mem_of_getElem? (i := 87) rfl))) (ty := .int) (by decide)
  have F_b12_putMode : Fld Z h13 b12 "java/util/LinkedHashMap" "putMode" "I" (.int (0 : Int32)) := D_b12 (Or.inl (hw _ (List.mem_of_getElem? (i := 89) rfl))) (ty := .int) (by decide)
  have F_b12_accessOrder : Fld Z h13 b12 "java/util/LinkedHashMap" "accessOrder" "Z" (.int (0 : Int32)) := D_b12 (Or.inr (hw _ (List.mem_of_getElem? (i := 91) rfl))) (ty := .boolean) (by decide)
  show Goes _ _ _ _ _ _ _ _ T (mkF m 8 #[.val (.ref a), .val (.int (16 : Int32)), .val (.float (1061158912 : UInt32)), .val (.int (1 : Int32))] [(.ref b12), (.ref a)])
  refine Goes.by (g' := (mkF m 9 #[.val (.ref a), .val (.int (16 : Int32)), .val (.float (1061158912 : UInt32)), .val (.int (1 : Int32))] [(.ref b12), (.ref b12), (.ref a)])) (fun _ q => XS.dup X.here X.hx rfl (hb hby d6_8) rfl rfl q) ?_
  refine Goes.by (g' := (mkF m 10 #[.val (.ref a), .val (.int (16 : Int32)), .val (.float (1061158912 : UInt32)), .val (.int (1 : Int32))] [(.int (16 : Int32)), (.ref b12), (.ref b12), (.ref a)])) (fun _ q => XS.iloadN X.here X.hx rfl (hb hby d6_9) rfl q) ?_
  refine Goes.by (g' := (mkF m 11 #[.val (.ref a), .val (.int (16 : Int32)), .val (.float (1061158912 : UInt32)), .val (.int (1 : Int32))] [(.float (1061158912 : UInt32)), (.int (16 : Int32)), (.ref b12), (.ref b12), (.ref a)])) (fun _ q => XS.floadN X.here X.hx rfl (hb hby d6_10) rfl q) ?_
  have X_o := X
  refine X.callN rfl (hw _ (List.mem_of_getElem? (i := 54) rfl)) (hw _ (List.mem_of_getElem? (i := 55) rfl)) (hw _ (List.mem_of_getElem? (i := 53) rfl)) (hw _ (List.mem_of_getElem? (i := 57) rfl)) (by decide) pd_184290139 (argsL := [(.int (16 : Int32)), (.float (1061158912 : UInt32))]) rfl (rmLHM l Z a0 hw n0 h13 X.n0le b12 ga_b12 E_b12 F_b12_loadFactor F_b12_threshold F_b12_putMode F_b12_accessOrder) (by rw [hml]; rfl) rfl (by decide) (leB rfl) (hb hby d6_11) (by decide) (by decide) (fun T h14 v X hQ => ?_)
  obtain ⟨rfl, K⟩ := hQ
  have K0 := K0.trans K (allS (Or.inr gz_b12) all0)
  have E_a := E_a.keep K
  have F_a_map := F_a_map.keep K (ninS ne_a_b12 nin0)
  have E_b12 := E_b12.keep K
  show Goes _ _ _ _ _ _ _ _ T (mkF m 14 #[.val (.ref a), .val (.int (16 : Int32)), .val (.float (1061158912 : UInt32)), .val (.int (1 : Int32))] [(.ref b12), (.ref a)])
  refine X.putF (host := "") (Or.inl (hw _ (List.mem_of_getElem? (i := 92) rfl))) Via.refl F_a_map E_a (Or.inl (hw _ (List.mem_of_getElem? (i := 93) rfl))) (hw _ (List.mem_of_getElem? (i := 26) rfl)) (ty := (.object "java/util/HashMap")) (by decide) rfl rfl ga_a (hb hby d6_14) (fun T h15 X W => ?_)
  have K0 := K0.wr W (Or.inl (by simp))
  have E_a := E_a.wr W
  have F_a_map := F_a_map.same W
  have E_b12 := E_b12.wr W
  show Goes _ _ _ _ _ _ _ _ T (mkF m 17 #[.val (.ref a), .val (.int (16 : Int32)), .val (.float (1061158912 : UInt32)), .val (.int (1 : Int32))] [])
  exact X.retV hret (hb hby d6_17) (by decide) (by decide) ⟨rfl, K0⟩
set_option maxRecDepth 65536 in
set_option maxHeartbeats 40000000 in
theorem rmLHS (l : Launch) (Z : State) (a0 : Array Value) (hw : ∀ d ∈ tables_1, d.before a0 Z = true) (n0 : Nat) (h0 : Heap) (hn0 : n0 ≤ h0.size) (a : Addr) (ga_a : n0 ≤ a) (E_a : Exa Z h0 a "java/util/LinkedHashSet") (F_a_map : Fld Z h0 a "java/util/HashSet" "map" "Ljava/util/HashMap;" .null)  :
    Met l Z n0 (⟨"java/util/LinkedHashSet", "<init>", "()V"⟩ : MethodName) jdk_2620_method_3_code 1 (Option.none : Option FieldType) ({ frames := 5, cells := 1, slots := 12, locals := 73 } : Room) #[(.ref a)] h0 (fun (v : Option Value) (h' : Heap) => v = none ∧ Keep h0 h' [a]) := by
  refine metW (Q := fun (v : Option Value) (h' : Heap) => v = none ∧ Keep h0 h' [a]) pf_5 hn0 ?_
  intro p e s m below meth c T X hby hml hret hnm
  refine Goes.by (g' := (mkF m 0 #[.val (.ref a)] [])) (fun _ q => castTop (by first | rfl | (simp [entryFrame, mkF, argsToLocals, Value.category]; done)) q) ?_
  have K0 := Keep.refl h0 [a]
  refine Goes.by (g' := (mkF m 1 #[.val (.ref a)] [(.ref a)])) (fun _ q => XS.aloadN X.here X.hx rfl (hb hby d5_0) rfl rfl q) ?_
  refine Goes.by (g' := (mkF m 3 #[.val (.ref a)] [(.int (16 : Int32)), (.ref a)])) (fun _ q => XS.bipush X.here X.hx rfl (hb hby d5_1) q) ?_
  refine X.ldcF (hw _ (List.mem_of_getElem? (i := 31) rfl)) (hb hby d5_3) ?_
  show Goes _ _ _ _ _ _ _ _ T (mkF m 5 #[.val (.ref a)] [(.float (1061158912 : UInt32)), (.int (16 : Int32)), (.ref a)])
  refine Goes.by (g' := (mkF m 6 #[.val (.ref a)] [(.int (1 : Int32)), (.float (1061158912 : UInt32)), (.int (16 : Int32)), (.ref a)])) (fun _ q => XS.iconst X.here X.hx rfl (hb hby d5_5) q) ?_
  have X_o := X
  refine X.callN rfl (hw _ (List.mem_of_getElem? (i := 32) rfl)) (hw _ (List.mem_of_getElem? (i := 33) rfl)) (hw _ (List.mem_of_getElem? (i := 36) rfl)) (hw _ (List.mem_of_getElem? (i := 37) rfl)) (by decide) pd_1786659253 (argsL := [(.int (16 : Int32)), (.float (1061158912 : UInt32)), (.int (1 : Int32))]) rfl (rmHS l Z a0 hw n0 h0 X.n0le a ga_a E_a F_a_map) (by rw [hml]; rfl) rfl (by decide) (leB rfl) (hb hby d5_6) (by decide) (by decide) (fun T h16 v X hQ => ?_)
  obtain ⟨rfl, K⟩ := hQ
  have K0 := K0.trans K (allS (Or.inl (by simp)) all0)
  have E_a := E_a.keep K
  show Goes _ _ _ _ _ _ _ _ T (mkF m 9 #[.val (.ref a)] [])
  exact X.retV hret (hb hby d5_9) (by decide) (by decide) ⟨rfl, K0⟩
set_option maxRecDepth 65536 in
set_option maxHeartbeats 40000000 in
theorem rmMU (l : Launch) (Z : State) (a0 : Array Value) (hw : ∀ d ∈ tables_1, d.before a0 Z = true) (n0 : Nat) (h0 : Heap) (hn0 : n0 ≤ h0.size) (a : Addr) (ga_a : n0 ≤ a) (E_a : Exa Z h0 a "com/example/hafiza/hafiza/Mutations") (F_a_renamers : Fld Z h0 a "com/example/hafiza/hafiza/Mutations" "renamers" "Ljava/util/Set;" .null) (F_a_deleters : Fld Z h0 a "com/example/hafiza/hafiza/Mutations" "deleters" "Ljava/util/Set;" .null) (F_a_converters : Fld Z h0 a "com/example/hafiza/hafiza/Mutations" "converters" "Ljava/util/Set;" .null)  :
    Met l Z n0 (⟨"com/example/hafiza/hafiza/Mutations", "<init>", "()V"⟩ : MethodName) prog_16_method_1_code 1 (Option.none : Option FieldType) ({ frames := 6, cells := 6, slots := 39, locals := 87 } : Room) #[(.ref a)] h0 (fun (v : Option Value) (h' : Heap) => v = none ∧ Keep h0 h' [a]) := by
  refine metW (Q := fun (v : Option Value) (h' : Heap) => v = none ∧ Keep h0 h' [a]) pf_4 hn0 ?_
  intro p e s m below meth c T X hby hml hret hnm
  refine Goes.by (g' := (mkF m 0 #[.val (.ref a)] [])) (fun _ q => castTop (by first | rfl | (simp [entryFrame, mkF, argsToLocals, Value.category]; done)) q) ?_
  have K0 := Keep.refl h0 [a]
  refine Goes.by (g' := (mkF m 1 #[.val (.ref a)] [(.ref a)])) (fun _ q => XS.aloadN X.here X.hx rfl (hb hby d4_0) rfl rfl q) ?_
  refine X.initO (hw _ (List.mem_of_getElem? (i := 24) rfl)) (hw _ (List.mem_of_getElem? (i := 16) rfl)) (hw _ (List.mem_of_getElem? (i := 17) rfl)) (by rw [hml]; rfl) (hb hby d4_1) (by decide) (leB rfl) (fun T X => ?_)
  show Goes _ _ _ _ _ _ _ _ T (mkF m 4 #[.val (.ref a)] [])
  refine Goes.by (g' := (mkF m 5 #[.val (.ref a)] [(.ref a)])) (fun _ q => XS.aloadN X.here X.hx rfl (hb hby d4_4) rfl rfl q) ?_
  refine X.newO (hw _ (List.mem_of_getElem? (i := 25) rfl)) (hw _ (List.mem_of_getElem? (i := 26) rfl)) (hw _ (List.mem_of_getElem? (i := 27) rfl)) (hb hby d4_5) (by decide) (by decide) (fun T h18 b17 X g_b17 ga_b17 E E_b17 D_b17 => ?_)
  have gz_b17 : h0.size ≤ b17 := by rw [g_b17]; exact K0.1
  have ne_a_b17 : a ≠ b17 := by rw [g_b17]; exact Nat.ne_of_lt E_a.lt
  have K0 := K0.ext E
  have E_a := E_a.ext E
  have F_a_renamers := F_a_renamers.ext E
  have F_a_deleters := F_a_deleters.ext E
  have F_a_converters := F_a_converters.ext E
  have F_b17_map : Fld Z h18 b17 "java/util/HashSet" "map" "Ljava/util/HashMap;" .null := D_b17 (Or.inl (hw _ (List.mem_of_getElem? (i := 93) rfl))) (ty := (.object "java/util/HashMap")) (by decide)
  show Goes _ _ _ _ _ _ _ _ T (mkF m 8 #[.val (.ref a)] [(.ref b17), (.ref a)])
  refine Goes.by (g' := (mkF m 9 #[.val (.ref a)] [(.ref b17), (.ref b17), (.ref a)])) (fun _ q => XS.dup X.here X.hx rfl (hb hby d4_8) rfl rfl q) ?_
  have X_o := X
  refine X.callN rfl (hw _ (List.mem_of_getElem? (i := 28) rfl)) (hw _ (List.mem_of_getElem? (i := 29) rfl)) (hw _ (List.mem_of_getElem? (i := 27) rfl)) (hw _ (List.mem_of_getElem? (i := 30) rfl)) (by decide) pd_193421996 (argsL := []) rfl (rmLHS l Z a0 hw n0 h18 X.n0le b17 ga_b17 E_b17 F_b17_map) (by rw [hml]; rfl) rfl (by decide) (leB rfl) (hb hby d4_9) (by decide) (by decide) (fun T h19 v X hQ => ?_)
  obtain ⟨rfl, K⟩ := hQ
  have K0 := K0.trans K (allS (Or.inr gz_b17) all0)
  have E_a := E_a.keep K
  have F_a_renamers := F_a_renamers.keep K (ninS ne_a_b17 nin0)
  have F_a_deleters := F_a_deleters.keep K (ninS ne_a_b17 nin0)
  have F_a_converters := F_a_converters.keep K (ninS ne_a_b17 nin0)
  have E_b17 := E_b17.keep K
  show Goes _ _ _ _ _ _ _ _ T (mkF m 12 #[.val (.ref a)] [(.ref b17), (.ref a)])
  refine X.putF (host := "") (Or.inl (hw _ (List.mem_of_getElem? (i := 94) rfl))) Via.refl F_a_renamers E_a (Or.inr ⟨(hw _ (List.mem_of_getElem? (i := 95) rfl)), rfl, hnm⟩) (hw _ (List.mem_of_getElem? (i := 19) rfl)) (ty := (.object "java/util/Set")) (by decide) rfl rfl ga_a (hb hby d4_12) (fun T h20 X W => ?_)
  have K0 := K0.wr W (Or.inl (by simp))
  have E_a := E_a.wr W
  have F_a_renamers := F_a_renamers.same W
  have F_a_deleters := F_a_deleters.other W (Or.inr (slot_ne (Or.inr (hw _ (List.mem_of_getElem? (i := 97) rfl))) (Or.inr (hw _ (List.mem_of_getElem? (i := 95) rfl))) (by decide) (t := (.object "java/util/Set")) (t' := (.object "java/util/Set")) (by decide) (by decide)))
  have F_a_converters := F_a_converters.other W (Or.inr (slot_ne (Or.inr (hw _ (List.mem_of_getElem? (i := 99) rfl))) (Or.inr (hw _ (List.mem_of_getElem? (i := 95) rfl))) (by decide) (t := (.object "java/util/Set")) (t' := (.object "java/util/Set")) (by decide) (by decide)))
  have E_b17 := E_b17.wr W
  show Goes _ _ _ _ _ _ _ _ T (mkF m 15 #[.val (.ref a)] [])
  refine Goes.by (g' := (mkF m 16 #[.val (.ref a)] [(.ref a)])) (fun _ q => XS.aloadN X.here X.hx rfl (hb hby d4_15) rfl rfl q) ?_
  refine X.newO (hw _ (List.mem_of_getElem? (i := 25) rfl)) (hw _ (List.mem_of_getElem? (i := 26) rfl)) (hw _ (List.mem_of_getElem? (i := 27) rfl)) (hb hby d4_16) (by decide) (by decide) (fun T h22 b21 X g_b21 ga_b21 E E_b21 D_b21 => ?_)
  have gz_b21 : h0.size ≤ b21 := by rw [g_b21]; exact K0.1
  have ne_a_b21 : a ≠ b21 := by rw [g_b21]; exact Nat.ne_of_lt E_a.lt
  have ne_b17_b21 : b17 ≠ b21 := by rw [g_b21]; exact Nat.ne_of_lt E_b17.lt
  have K0 := K0.ext E
  have E_a := E_a.ext E
  have F_a_renamers := F_a_renamers.ext E
  have F_a_deleters := F_a_deleters.ext E
  have F_a_converters := F_a_converters.ext E
  have E_b17 := E_b17.ext E
  have F_b21_map : Fld Z h22 b21 "java/util/HashSet" "map" "Ljava/util/HashMap;" .null := D_b21 (Or.inl (hw _ (List.mem_of_getElem? (i := 93) rfl))) (ty := (.object "java/util/HashMap")) (by decide)
  show Goes _ _ _ _ _ _ _ _ T (mkF m 19 #[.val (.ref a)] [(.ref b21), (.ref a)])
  refine Goes.by (g' := (mkF m 20 #[.val (.ref a)] [(.ref b21), (.ref b21), (.ref a)])) (fun _ q => XS.dup X.here X.hx rfl (hb hby d4_19) rfl rfl q) ?_
  have X_o := X
  refine X.callN rfl (hw _ (List.mem_of_getElem? (i := 28) rfl)) (hw _ (List.mem_of_getElem? (i := 29) rfl)) (hw _ (List.mem_of_getElem? (i := 27) rfl)) (hw _ (List.mem_of_getElem? (i := 30) rfl)) (by decide) pd_193421996 (argsL := []) rfl (rmLHS l Z a0 hw n0 h22 X.n0le b21 ga_b21 E_b21 F_b21_map) (by rw [hml]; rfl) rfl (by decide) (leB rfl) (hb hby d4_20) (by decide) (by decide) (fun T h23 v X hQ => ?_)
  obtain ⟨rfl, K⟩ := hQ
  have K0 := K0.trans K (allS (Or.inr gz_b21) all0)
  have E_a := E_a.keep K
  have F_a_renamers := F_a_renamers.keep K (ninS ne_a_b21 nin0)
  have F_a_deleters := F_a_deleters.keep K (ninS ne_a_b21 nin0)
  have F_a_converters := F_a_converters.keep K (ninS ne_a_b21 nin0)
  have E_b17 := E_b17.keep K
  have E_b21 := E_b21.keep K
  show Goes _ _ _ _ _ _ _ _ T (mkF m 23 #[.val (.ref a)] [(.ref b21), (.ref a)])
  refine X.putF (host := "") (Or.inl (hw _ (List.mem_of_getElem? (i := 96) rfl))) Via.refl F_a_deleters E_a (Or.inr ⟨(hw _ (List.mem_of_getElem? (i := 97) rfl)), rfl, hnm⟩) (hw _ (List.mem_of_getElem? (i := 19) rfl)) (ty := (.object "java/util/Set")) (by decide) rfl rfl ga_a (hb hby d4_23) (fun T h24 X W => ?_)
  have K0 := K0.wr W (Or.inl (by simp))
  have E_a := E_a.wr W
  have F_a_renamers := F_a_renamers.other W (Or.inr (slot_ne (Or.inr (hw _ (List.mem_of_getElem? (i := 95) rfl))) (Or.inr (hw _ (List.mem_of_getElem? (i := 97) rfl))) (by decide) (t := (.object "java/util/Set")) (t' := (.object "java/util/Set")) (by decide) (by decide)))
  have F_a_deleters := F_a_deleters.same W
  have F_a_converters := F_a_converters.other W (Or.inr (slot_ne (Or.inr (hw _ (List.mem_of_getElem? (i := 99) rfl))) (Or.inr (hw _ (List.mem_of_getElem? (i := 97) rfl))) (by decide) (t := (.object "java/util/Set")) (t' := (.object "java/util/Set")) (by decide) (by decide)))
  have E_b17 := E_b17.wr W
  have E_b21 := E_b21.wr W
  show Goes _ _ _ _ _ _ _ _ T (mkF m 26 #[.val (.ref a)] [])
  refine Goes.by (g' := (mkF m 27 #[.val (.ref a)] [(.ref a)])) (fun _ q => XS.aloadN X.here X.hx rfl (hb hby d4_26) rfl rfl q) ?_
  refine X.newO (hw _ (List.mem_of_getElem? (i := 25) rfl)) (hw _ (List.mem_of_getElem? (i := 26) rfl)) (hw _ (List.mem_of_getElem? (i := 27) rfl)) (hb hby d4_27) (by decide) (by decide) (fun T h26 b25 X g_b25 ga_b25 E E_b25 D_b25 => ?_)
  have gz_b25 : h0.size ≤ b25 := by rw [g_b25]; exact K0.1
  have ne_a_b25 : a ≠ b25 := by rw [g_b25]; exact Nat.ne_of_lt E_a.lt
  have ne_b17_b25 : b17 ≠ b25 := by rw [g_b25]; exact Nat.ne_of_lt E_b17.lt
  have ne_b21_b25 : b21 ≠ b25 := by rw [g_b25]; exact Nat.ne_of_lt E_b21.lt
  have K0 := K0.ext E
  have E_a := E_a.ext E
  have F_a_renamers := F_a_renamers.ext E
  have F_a_deleters := F_a_deleters.ext E
  have F_a_converters := F_a_converters.ext E
  have E_b17 := E_b17.ext E
  have E_b21 := E_b21.ext E
  have F_b25_map : Fld Z h26 b25 "java/util/HashSet" "map" "Ljava/util/HashMap;" .null := D_b25 (Or.inl (hw _ (List.mem_of_getElem? (i := 93) rfl))) (ty := (.object "java/util/HashMap")) (by decide)
  show Goes _ _ _ _ _ _ _ _ T (mkF m 30 #[.val (.ref a)] [(.ref b25), (.ref a)])
  refine Goes.by (g' := (mkF m 31 #[.val (.ref a)] [(.ref b25), (.ref b25), (.ref a)])) (fun _ q => XS.dup X.here X.hx rfl (hb hby d4_30) rfl rfl q) ?_
  have X_o := X
  refine X.callN rfl (hw _ (List.mem_of_getElem? (i := 28) rfl)) (hw _ (List.mem_of_getElem? (i := 29) rfl)) (hw _ (List.mem_of_getElem? (i := 27) rfl)) (hw _ (List.mem_of_getElem? (i := 30) rfl)) (by decide) pd_193421996 (argsL := []) rfl (rmLHS l Z a0 hw n0 h26 X.n0le b25 ga_b25 E_b25 F_b25_map) (by rw [hml]; rfl) rfl (by decide) (leB rfl) (hb hby d4_31) (by decide) (by decide) (fun T h27 v X hQ => ?_)
  obtain ⟨rfl, K⟩ := hQ
  have K0 := K0.trans K (allS (Or.inr gz_b25) all0)
  have E_a := E_a.keep K
  have F_a_renamers := F_a_renamers.keep K (ninS ne_a_b25 nin0)
  have F_a_deleters := F_a_deleters.keep K (ninS ne_a_b25 nin0)
  have F_a_converters := F_a_converters.keep K (ninS ne_a_b25 nin0)
  have E_b17 := E_b17.keep K
  have E_b21 := E_b21.keep K
  have E_b25 := E_b25.keep K
  show Goes _ _ _ _ _ _ _ _ T (mkF m 34 #[.val (.ref a)] [(.ref b25), (.ref a)])
  refine X.putF (host := "") (Or.inl (hw _ (List.mem_of_getElem? (i := 98) rfl))) Via.refl F_a_converters E_a (Or.inr ⟨(hw _ (List.mem_of_getElem? (i := 99) rfl)), rfl, hnm⟩) (hw _ (List.mem_of_getElem? (i := 19) rfl)) (ty := (.object "java/util/Set")) (by decide) rfl rfl ga_a (hb hby d4_34) (fun T h28 X W => ?_)
  have K0 := K0.wr W (Or.inl (by simp))
  have E_a := E_a.wr W
  have F_a_renamers := F_a_renamers.other W (Or.inr (slot_ne (Or.inr (hw _ (List.mem_of_getElem? (i := 95) rfl))) (Or.inr (hw _ (List.mem_of_getElem? (i := 99) rfl))) (by decide) (t := (.object "java/util/Set")) (t' := (.object "java/util/Set")) (by decide) (by decide)))
  have F_a_deleters := F_a_deleters.other W (Or.inr (slot_ne (Or.inr (hw _ (List.mem_of_getElem? (i := 97) rfl))) (Or.inr (hw _ (List.mem_of_getElem? (i := 99) rfl))) (by decide) (t := (.object "java/util/Set")) (t' := (.object "java/util/Set")) (by decide) (by decide)))
  have F_a_converters := F_a_converters.same W
  have E_b17 := E_b17.wr W
  have E_b21 := E_b21.wr W
  have E_b25 := E_b25.wr W
  show Goes _ _ _ _ _ _ _ _ T (mkF m 37 #[.val (.ref a)] [])
  exact X.retV hret (hb hby d4_37) (by decide) (by decide) ⟨rfl, K0⟩
set_option maxRecDepth 65536 in
set_option maxHeartbeats 40000000 in
theorem rmSC (l : Launch) (Z : State) (a0 : Array Value) (hw : ∀ d ∈ tables_1, d.before a0 Z = true) (n0 : Nat) (h0 : Heap) (hn0 : n0 ≤ h0.size) (a : Addr) (ga_a : n0 ≤ a) (E_a : Exa Z h0 a "com/example/hafiza/hafiza/StoreConfig") (F_a_mutations : Fld Z h0 a "com/example/hafiza/hafiza/StoreConfig" "mutations" "Lcom/example/hafiza/hafiza/Mutations;" .null) (F_a_durability : Fld Z h0 a "com/example/hafiza/hafiza/StoreConfig" "durability" "Lcom/example/hafiza/hafiza/Durability;" .null) (F_a_allowCreate : Fld Z h0 a "com/example/hafiza/hafiza/StoreConfig" "allowCreate" "Z" (.int (0 : Int32))) (F_a_readOnly : Fld Z h0 a "com/example/hafiza/hafiza/StoreConfig" "readOnly" "Z" (.int (0 : Int32))) (a_WRITE : Addr) (S_WRITE : Sta Z Z.heap "com/example/hafiza/hafiza/Durability" "WRITE" "Lcom/example/hafiza/hafiza/Durability;" (.ref a_WRITE)) (O_ : Old Z n0 h0) :
    Met l Z n0 (⟨"com/example/hafiza/hafiza/StoreConfig", "<init>", "()V"⟩ : MethodName) prog_24_method_1_code 1 (Option.none : Option FieldType) ({ frames := 7, cells := 7, slots := 42, locals := 101 } : Room) #[(.ref a)] h0 (fun (v : Option Value) (h' : Heap) => v = none ∧ Keep h0 h' [a] ∧ ∃ mu, h0.size ≤ mu ∧ Exa Z h' mu "com/example/hafiza/hafiza/Mutations" ∧ Fld Z h' a "com/example/hafiza/hafiza/StoreConfig" "mutations" "Lcom/example/hafiza/hafiza/Mutations;" (.ref mu) ∧ Fld Z h' a "com/example/hafiza/hafiza/StoreConfig" "durability" "Lcom/example/hafiza/hafiza/Durability;" (.ref a_WRITE) ∧ Fld Z h' a "com/example/hafiza/hafiza/StoreConfig" "allowCreate" "Z" (.int 0) ∧ Fld Z h' a "com/example/hafiza/hafiza/StoreConfig" "readOnly" "Z" (.int 0)) := by
  refine metW (Q := fun (v : Option Value) (h' : Heap) => v = none ∧ Keep h0 h' [a] ∧ ∃ mu, h0.size ≤ mu ∧ Exa Z h' mu "com/example/hafiza/hafiza/Mutations" ∧ Fld Z h' a "com/example/hafiza/hafiza/StoreConfig" "mutations" "Lcom/example/hafiza/hafiza/Mutations;" (.ref mu) ∧ Fld Z h' a "com/example/hafiza/hafiza/StoreConfig" "durability" "Lcom/example/hafiza/hafiza/Durability;" (.ref a_WRITE) ∧ Fld Z h' a "com/example/hafiza/hafiza/StoreConfig" "allowCreate" "Z" (.int 0) ∧ Fld Z h' a "com/example/hafiza/hafiza/StoreConfig" "readOnly" "Z" (.int 0)) pf_2 hn0 ?_
  intro p e s m below meth c T X hby hml hret hnm
  refine Goes.by (g' := (mkF m 0 #[.val (.ref a)] [])) (fun _ q => castTop (by first | rfl | (simp [entryFrame, mkF, argsToLocals, Value.category]; done)) q) ?_
  have K0 := Keep.refl h0 [a]
  refine Goes.by (g' := (mkF m 1 #[.val (.ref a)] [(.ref a)])) (fun _ q => XS.aloadN X.here X.hx rfl (hb hby d2_0) rfl rfl q) ?_
  refine X.initO (hw _ (List.mem_of_getElem? (i := 15) rfl)) (hw _ (List.mem_of_getElem? (i := 16) rfl)) (hw _ (List.mem_of_getElem? (i := 17) rfl)) (by rw [hml]; rfl) (hb hby d2_1) (by decide) (leB rfl) (fun T X => ?_)
  show Goes _ _ _ _ _ _ _ _ T (mkF m 4 #[.val (.ref a)] [])
  refine Goes.by (g' := (mkF m 5 #[.val (.ref a)] [(.ref a)])) (fun _ q => XS.aloadN X.here X.hx rfl (hb hby d2_4) rfl rfl q) ?_
  refine X.newO (hw _ (List.mem_of_getElem? (i := 18) rfl)) (hw _ (List.mem_of_getElem? (i := 19) rfl)) (hw _ (List.mem_of_getElem? (i := 20) rfl)) (hb hby d2_5) (by decide) (by decide) (fun T h30 b29 X g_b29 ga_b29 E E_b29 D_b29 => ?_)
  have gz_b29 : h0.size ≤ b29 := by rw [g_b29]; exact K0.1
  have ne_a_b29 : a ≠ b29 := by rw [g_b29]; exact Nat.ne_of_lt E_a.lt
  have K0 := K0.ext E
  have E_a := E_a.ext E
  have F_a_mutations := F_a_mutations.ext E
  have F_a_durability := F_a_durability.ext E
  have F_a_allowCreate := F_a_allowCreate.ext E
  have F_a_readOnly := F_a_readOnly.ext E
  have O_ := O_.ext E
  have F_b29_renamers : Fld Z h30 b29 "com/example/hafiza/hafiza/Mutations" "renamers" "Ljava/util/Set;" .null := D_b29 (Or.inr (hw _ (List.mem_of_getElem? (i := 95) rfl))) (ty := (.object "java/util/Set")) (by decide)
  have F_b29_deleters : Fld Z h30 b29 "com/example/hafiza/hafiza/Mutations" "deleters" "Ljava/util/Set;" .null := D_b29 (Or.inr (hw _ (List.mem_of_getElem? (i := 97) rfl))) (ty := (.object "java/util/Set")) (by decide)
  have F_b29_converters : Fld Z h30 b29 "com/example/hafiza/hafiza/Mutations" "converters" "Ljava/util/Set;" .null := D_b29 (Or.inr (hw _ (List.mem_of_getElem? (i := 99) rfl))) (ty := (.object "java/util/Set")) (by decide)
  show Goes _ _ _ _ _ _ _ _ T (mkF m 8 #[.val (.ref a)] [(.ref b29), (.ref a)])
  refine Goes.by (g' := (mkF m 9 #[.val (.ref a)] [(.ref b29), (.ref b29), (.ref a)])) (fun _ q => XS.dup X.here X.hx rfl (hb hby d2_8) rfl rfl q) ?_
  have X_o := X
  refine X.callN rfl (hw _ (List.mem_of_getElem? (i := 21) rfl)) (hw _ (List.mem_of_getElem? (i := 22) rfl)) (hw _ (List.mem_of_getElem? (i := 20) rfl)) (hw _ (List.mem_of_getElem? (i := 23) rfl)) (by decide) pd_193421996 (argsL := []) rfl (rmMU l Z a0 hw n0 h30 X.n0le b29 ga_b29 E_b29 F_b29_renamers F_b29_deleters F_b29_converters) (by rw [hml]; rfl) rfl (by decide) (leB rfl) (hb hby d2_9) (by decide) (by decide) (fun T h31 v X hQ => ?_)
  obtain ⟨rfl, K⟩ := hQ
  have K0 := K0.trans K (allS (Or.inr gz_b29) all0)
  have E_a := E_a.keep K
  have F_a_mutations := F_a_mutations.keep K (ninS ne_a_b29 nin0)
  have F_a_durability := F_a_durability.keep K (ninS ne_a_b29 nin0)
  have F_a_allowCreate := F_a_allowCreate.keep K (ninS ne_a_b29 nin0)
  have F_a_readOnly := F_a_readOnly.keep K (ninS ne_a_b29 nin0)
  have O_ := O_.keep K (allS ga_b29 all0)
  have E_b29 := E_b29.keep K
  show Goes _ _ _ _ _ _ _ _ T (mkF m 12 #[.val (.ref a)] [(.ref b29), (.ref a)])
  refine X.putF (host := "") (Or.inl (hw _ (List.mem_of_getElem? (i := 100) rfl))) Via.refl F_a_mutations E_a (Or.inl (hw _ (List.mem_of_getElem? (i := 101) rfl))) (hw _ (List.mem_of_getElem? (i := 10) rfl)) (ty := (.object "com/example/hafiza/hafiza/Mutations")) (by decide) rfl rfl ga_a (hb hby d2_12) (fun T h32 X W => ?_)
  have K0 := K0.wr W (Or.inl (by simp))
  have E_a := E_a.wr W
  have F_a_mutations := F_a_mutations.same W
  have F_a_durability := F_a_durability.other W (Or.inr (slot_ne (Or.inl (hw _ (List.mem_of_getElem? (i := 104) rfl))) (Or.inl (hw _ (List.mem_of_getElem? (i := 101) rfl))) (by decide) (t := (.object "com/example/hafiza/hafiza/Durability")) (t' := (.object "com/example/hafiza/hafiza/Mutations")) (by decide) (by decide)))
  have F_a_allowCreate := F_a_allowCreate.other W (Or.inr (slot_ne (Or.inl (hw _ (List.mem_of_getElem? (i := 140) rfl))) (Or.inl (hw _ (List.mem_of_getElem? (i := 101) rfl))) (by decide) (t := .boolean) (t' := (.object "com/example/hafiza/hafiza/Mutations")) (by decide) (by decide)))
  have F_a_readOnly := F_a_readOnly.other W (Or.inr (slot_ne (Or.inl (hw _ (List.mem_of_getElem? (i := 147) rfl))) (Or.inl (hw _ (List.mem_of_getElem? (i := 101) rfl))) (by decide) (t := .boolean) (t' := (.object "com/example/hafiza/hafiza/Mutations")) (by decide) (by decide)))
  have O_ := O_.wr W ga_a
  have E_b29 := E_b29.wr W
  show Goes _ _ _ _ _ _ _ _ T (mkF m 15 #[.val (.ref a)] [])
  refine Goes.by (g' := (mkF m 16 #[.val (.ref a)] [(.ref a)])) (fun _ q => XS.aloadN X.here X.hx rfl (hb hby d2_15) rfl rfl q) ?_
  refine X.getS (Or.inl (hw _ (List.mem_of_getElem? (i := 102) rfl))) (host := "") Via.refl (S_WRITE.ext O_.2) (hb hby d2_16) (fun T X => ?_)
  show Goes _ _ _ _ _ _ _ _ T (mkF m 19 #[.val (.ref a)] [(.ref a_WRITE), (.ref a)])
  refine X.putF (host := "") (Or.inl (hw _ (List.mem_of_getElem? (i := 103) rfl))) Via.refl F_a_durability E_a (Or.inl (hw _ (List.mem_of_getElem? (i := 104) rfl))) (hw _ (List.mem_of_getElem? (i := 10) rfl)) (ty := (.object "com/example/hafiza/hafiza/Durability")) (by decide) rfl rfl ga_a (hb hby d2_19) (fun T h33 X W => ?_)
  have K0 := K0.wr W (Or.inl (by simp))
  have E_a := E_a.wr W
  have F_a_mutations := F_a_mutations.other W (Or.inr (slot_ne (Or.inl (hw _ (List.mem_of_getElem? (i := 101) rfl))) (Or.inl (hw _ (List.mem_of_getElem? (i := 104) rfl))) (by decide) (t := (.object "com/example/hafiza/hafiza/Mutations")) (t' := (.object "com/example/hafiza/hafiza/Durability")) (by decide) (by decide)))
  have F_a_durability := F_a_durability.same W
  have F_a_allowCreate := F_a_allowCreate.other W (Or.inr (slot_ne (Or.inl (hw _ (List.mem_of_getElem? (i := 140) rfl))) (Or.inl (hw _ (List.mem_of_getElem? (i := 104) rfl))) (by decide) (t := .boolean) (t' := (.object "com/example/hafiza/hafiza/Durability")) (by decide) (by decide)))
  have F_a_readOnly := F_a_readOnly.other W (Or.inr (slot_ne (Or.inl (hw _ (List.mem_of_getElem? (i := 147) rfl))) (Or.inl (hw _ (List.mem_of_getElem? (i := 104) rfl))) (by decide) (t := .boolean) (t' := (.object "com/example/hafiza/hafiza/Durability")) (by decide) (by decide)))
  have O_ := O_.wr W ga_a
  have E_b29 := E_b29.wr W
  show Goes _ _ _ _ _ _ _ _ T (mkF m 22 #[.val (.ref a)] [])
  exact X.retV hret (hb hby d2_22) (by decide) (by decide) ⟨rfl, K0, b29, gz_b29, E_b29, F_a_mutations, F_a_durability, F_a_allowCreate, F_a_readOnly⟩
set_option maxRecDepth 65536 in
set_option maxHeartbeats 40000000 in
theorem rmReq (l : Launch) (Z : State) (a0 : Array Value) (hw : ∀ d ∈ tables_1, d.before a0 Z = true) (n0 : Nat) (h0 : Heap) (hn0 : n0 ≤ h0.size) (o s2 : Addr) :
    Met l Z n0 (⟨"java/util/Objects", "requireNonNull", "(Ljava/lang/Object;Ljava/lang/String;)Ljava/lang/Object;"⟩ : MethodName) jdk_31_method_11_code 2 (Option.some (.object "java/lang/Object")) ({ frames := 0, cells := 0, slots := 0, locals := 0 } : Room) #[(.ref o), (.ref s2)] h0 (fun (v : Option Value) (h' : Heap) => v = some (.ref o) ∧ h' = h0) := by
  refine metW (Q := fun (v : Option Value) (h' : Heap) => v = some (.ref o) ∧ h' = h0) pf_18 hn0 ?_
  intro p e s m below meth c T X hby hml hret hnm
  refine Goes.by (g' := (mkF m 0 #[.val (.ref o), .val (.ref s2)] [])) (fun _ q => castTop (by first | rfl | (simp [entryFrame, mkF, argsToLocals, Value.category]; done)) q) ?_
  refine Goes.by (g' := (mkF m 1 #[.val (.ref o), .val (.ref s2)] [(.ref o)])) (fun _ q => XS.aloadN X.here X.hx rfl (hb hby d18_0) rfl rfl q) ?_
  refine Goes.by (g' := (mkF m 13 #[.val (.ref o), .val (.ref s2)] [])) (fun _ q => XS.ifnonnullYes X.here X.hx rfl (pc0 := 1) (pc' := 13) rfl (hb hby d18_1) rfl (by decide) (by decide) q) ?_
  refine Goes.by (g' := (mkF m 14 #[.val (.ref o), .val (.ref s2)] [(.ref o)])) (fun _ q => XS.aloadN X.here X.hx rfl (hb hby d18_13) rfl rfl q) ?_
  exact X.retA hret rfl rfl (hb hby d18_14) (by decide) (by decide) ⟨rfl, rfl⟩
set_option maxRecDepth 65536 in
set_option maxHeartbeats 40000000 in
theorem rm_getMutations (l : Launch) (Z : State) (a0 : Array Value) (hw : ∀ d ∈ tables_1, d.before a0 Z = true) (n0 : Nat) (h0 : Heap) (hn0 : n0 ≤ h0.size) (a x : Addr) (F : Fld Z h0 a "com/example/hafiza/hafiza/StoreConfig" "mutations" "Lcom/example/hafiza/hafiza/Mutations;" (.ref x)) :
    Met l Z n0 (⟨"com/example/hafiza/hafiza/StoreConfig", "getMutations", "()Lcom/example/hafiza/hafiza/Mutations;"⟩ : MethodName) prog_24_method_7_code 1 (Option.some (.object "com/example/hafiza/hafiza/Mutations")) ({ frames := 0, cells := 0, slots := 0, locals := 0 } : Room) #[(.ref a)] h0 (fun (v : Option Value) (h' : Heap) => v = some (.ref x) ∧ h' = h0) := by
  refine metW (Q := fun (v : Option Value) (h' : Heap) => v = some (.ref x) ∧ h' = h0) pf_15 hn0 ?_
  intro p e s m below meth c T X hby hml hret hnm
  refine Goes.by (g' := (mkF m 0 #[.val (.ref a)] [])) (fun _ q => castTop (by first | rfl | (simp [entryFrame, mkF, argsToLocals, Value.category]; done)) q) ?_
  refine Goes.by (g' := (mkF m 1 #[.val (.ref a)] [(.ref a)])) (fun _ q => XS.aloadN X.here X.hx rfl (hb hby d15_0) rfl rfl q) ?_
  refine X.getF (host := "") (Or.inl (hw _ (List.mem_of_getElem? (i := 100) rfl))) Via.refl F (hb hby d15_1) (fun T X => ?_)
  show Goes _ _ _ _ _ _ _ _ T (mkF m 4 #[.val (.ref a)] [(.ref x)])
  exact X.retA hret rfl rfl (hb hby d15_4) (by decide) (by decide) ⟨rfl, rfl⟩
set_option maxRecDepth 65536 in
set_option maxHeartbeats 40000000 in
theorem rm_getDurability (l : Launch) (Z : State) (a0 : Array Value) (hw : ∀ d ∈ tables_1, d.before a0 Z = true) (n0 : Nat) (h0 : Heap) (hn0 : n0 ≤ h0.size) (a x : Addr) (F : Fld Z h0 a "com/example/hafiza/hafiza/StoreConfig" "durability" "Lcom/example/hafiza/hafiza/Durability;" (.ref x)) :
    Met l Z n0 (⟨"com/example/hafiza/hafiza/StoreConfig", "getDurability", "()Lcom/example/hafiza/hafiza/Durability;"⟩ : MethodName) prog_24_method_9_code 1 (Option.some (.object "com/example/hafiza/hafiza/Durability")) ({ frames := 0, cells := 0, slots := 0, locals := 0 } : Room) #[(.ref a)] h0 (fun (v : Option Value) (h' : Heap) => v = some (.ref x) ∧ h' = h0) := by
  refine metW (Q := fun (v : Option Value) (h' : Heap) => v = some (.ref x) ∧ h' = h0) pf_16 hn0 ?_
  intro p e s m below meth c T X hby hml hret hnm
  refine Goes.by (g' := (mkF m 0 #[.val (.ref a)] [])) (fun _ q => castTop (by first | rfl | (simp [entryFrame, mkF, argsToLocals, Value.category]; done)) q) ?_
  refine Goes.by (g' := (mkF m 1 #[.val (.ref a)] [(.ref a)])) (fun _ q => XS.aloadN X.here X.hx rfl (hb hby d16_0) rfl rfl q) ?_
  refine X.getF (host := "") (Or.inl (hw _ (List.mem_of_getElem? (i := 103) rfl))) Via.refl F (hb hby d16_1) (fun T X => ?_)
  show Goes _ _ _ _ _ _ _ _ T (mkF m 4 #[.val (.ref a)] [(.ref x)])
  exact X.retA hret rfl rfl (hb hby d16_4) (by decide) (by decide) ⟨rfl, rfl⟩
set_option maxRecDepth 65536 in
set_option maxHeartbeats 40000000 in
theorem rm_setDurability (l : Launch) (Z : State) (a0 : Array Value) (hw : ∀ d ∈ tables_1, d.before a0 Z = true) (n0 : Nat) (h0 : Heap) (hn0 : n0 ≤ h0.size) (a x : Addr) (old : Value) (ga_a : n0 ≤ a) (E_a : Exa Z h0 a "com/example/hafiza/hafiza/StoreConfig") (E_x : Exa Z h0 x "com/example/hafiza/hafiza/Durability") (F_a_durability : Fld Z h0 a "com/example/hafiza/hafiza/StoreConfig" "durability" "Lcom/example/hafiza/hafiza/Durability;" old) (u_mutations : Value) (F_a_mutations : Fld Z h0 a "com/example/hafiza/hafiza/StoreConfig" "mutations" "Lcom/example/hafiza/hafiza/Mutations;" u_mutations) (u_allowCreate : Value) (F_a_allowCreate : Fld Z h0 a "com/example/hafiza/hafiza/StoreConfig" "allowCreate" "Z" u_allowCreate) (u_readOnly : Value) (F_a_readOnly : Fld Z h0 a "com/example/hafiza/hafiza/StoreConfig" "readOnly" "Z" u_readOnly) :
    Met l Z n0 (⟨"com/example/hafiza/hafiza/StoreConfig", "setDurability", "(Lcom/example/hafiza/hafiza/Durability;)V"⟩ : MethodName) prog_24_method_8_code 2 (Option.none : Option FieldType) ({ frames := 1, cells := 2, slots := 44, locals := 14 } : Room) #[(.ref a), (.ref x)] h0 (fun (v : Option Value) (h' : Heap) => v = none ∧ Keep h0 h' [a] ∧ Fld Z h' a "com/example/hafiza/hafiza/StoreConfig" "durability" "Lcom/example/hafiza/hafiza/Durability;" (.ref x) ∧ Fld Z h' a "com/example/hafiza/hafiza/StoreConfig" "mutations" "Lcom/example/hafiza/hafiza/Mutations;" u_mutations ∧ Fld Z h' a "com/example/hafiza/hafiza/StoreConfig" "allowCreate" "Z" u_allowCreate ∧ Fld Z h' a "com/example/hafiza/hafiza/StoreConfig" "readOnly" "Z" u_readOnly) := by
  refine metW (Q := fun (v : Option Value) (h' : Heap) => v = none ∧ Keep h0 h' [a] ∧ Fld Z h' a "com/example/hafiza/hafiza/StoreConfig" "durability" "Lcom/example/hafiza/hafiza/Durability;" (.ref x) ∧ Fld Z h' a "com/example/hafiza/hafiza/StoreConfig" "mutations" "Lcom/example/hafiza/hafiza/Mutations;" u_mutations ∧ Fld Z h' a "com/example/hafiza/hafiza/StoreConfig" "allowCreate" "Z" u_allowCreate ∧ Fld Z h' a "com/example/hafiza/hafiza/StoreConfig" "readOnly" "Z" u_readOnly) pf_17 hn0 ?_
  intro p e s m below meth c T X hby hml hret hnm
  refine Goes.by (g' := (mkF m 0 #[.val (.ref a), .val (.ref x)] [])) (fun _ q => castTop (by first | rfl | (simp [entryFrame, mkF, argsToLocals, Value.category]; done)) q) ?_
  have K0 := Keep.refl h0 [a]
  have wS : ∀ d ∈ Bundle.stringAtoms, d.before a0 Z = true := fun d hd => hw d (strAtoms d hd)
  refine Goes.by (g' := (mkF m 1 #[.val (.ref a), .val (.ref x)] [(.ref a)])) (fun _ q => XS.aloadN X.here X.hx rfl (hb hby d17_0) rfl rfl q) ?_
  refine Goes.by (g' := (mkF m 2 #[.val (.ref a), .val (.ref x)] [(.ref x), (.ref a)])) (fun _ q => XS.aloadN X.here X.hx rfl (hb hby d17_1) rfl rfl q) ?_
  refine X.ldcS (hw _ (List.mem_of_getElem? (i := 120) rfl)) wS (hb hby d17_2) (n' := 40) (by decide) (by decide) (by decide) (by decide) (fun T h36 str35 X E => ?_)
  have K0 := K0.ext E
  have E_a := E_a.ext E
  have F_a_durability := F_a_durability.ext E
  have F_a_mutations := F_a_mutations.ext E
  have F_a_allowCreate := F_a_allowCreate.ext E
  have F_a_readOnly := F_a_readOnly.ext E
  have E_x := E_x.ext E
  show Goes _ _ _ _ _ _ _ _ T (mkF m 4 #[.val (.ref a), .val (.ref x)] [(.ref str35), (.ref x), (.ref a)])
  have X_o := X
  refine X.callS (hw _ (List.mem_of_getElem? (i := 128) rfl)) (hw _ (List.mem_of_getElem? (i := 129) rfl)) (hw _ (List.mem_of_getElem? (i := 130) rfl)) (hw _ (List.mem_of_getElem? (i := 131) rfl)) (by decide) pd_3946442454 (argsL := [(.ref x), (.ref str35)]) rfl (rmReq l Z a0 hw n0 h36 X.n0le x str35) (by rw [hml]; rfl) rfl (by decide) (leB rfl) (hb hby d17_4) (by decide) (by decide) (fun T h37 v X hQ => ?_)
  obtain ⟨rfl, hh⟩ := hQ
  rw [hh] at X
  clear hh
  show Goes _ _ _ _ _ _ _ _ T (mkF m 7 #[.val (.ref a), .val (.ref x)] [(.ref x), (.ref a)])
  refine X.castY (hw _ (List.mem_of_getElem? (i := 132) rfl)) (Ins.self E_x) (hb hby d17_7) (fun T X => ?_)
  show Goes _ _ _ _ _ _ _ _ T (mkF m 10 #[.val (.ref a), .val (.ref x)] [(.ref x), (.ref a)])
  refine X.putF (host := "") (Or.inl (hw _ (List.mem_of_getElem? (i := 103) rfl))) Via.refl F_a_durability E_a (Or.inl (hw _ (List.mem_of_getElem? (i := 104) rfl))) (hw _ (List.mem_of_getElem? (i := 10) rfl)) (ty := (.object "com/example/hafiza/hafiza/Durability")) (by decide) rfl rfl ga_a (hb hby d17_10) (fun T h38 X W => ?_)
  have K0 := K0.wr W (Or.inl (by simp))
  have E_a := E_a.wr W
  have F_a_durability := F_a_durability.same W
  have F_a_mutations := F_a_mutations.other W (Or.inr (slot_ne (Or.inl (hw _ (List.mem_of_getElem? (i := 101) rfl))) (Or.inl (hw _ (List.mem_of_getElem? (i := 104) rfl))) (by decide) (t := (.object "com/example/hafiza/hafiza/Mutations")) (t' := (.object "com/example/hafiza/hafiza/Durability")) (by decide) (by decide)))
  have F_a_allowCreate := F_a_allowCreate.other W (Or.inr (slot_ne (Or.inl (hw _ (List.mem_of_getElem? (i := 140) rfl))) (Or.inl (hw _ (List.mem_of_getElem? (i := 104) rfl))) (by decide) (t := .boolean) (t' := (.object "com/example/hafiza/hafiza/Durability")) (by decide) (by decide)))
  have F_a_readOnly := F_a_readOnly.other W (Or.inr (slot_ne (Or.inl (hw _ (List.mem_of_getElem? (i := 147) rfl))) (Or.inl (hw _ (List.mem_of_getElem? (i := 104) rfl))) (by decide) (t := .boolean) (t' := (.object "com/example/hafiza/hafiza/Durability")) (by decide) (by decide)))
  have E_x := E_x.wr W
  show Goes _ _ _ _ _ _ _ _ T (mkF m 13 #[.val (.ref a), .val (.ref x)] [])
  exact X.retV hret (hb hby d17_13) (by decide) (by decide) ⟨rfl, K0, F_a_durability, F_a_mutations, F_a_allowCreate, F_a_readOnly⟩
set_option maxRecDepth 65536 in
set_option maxHeartbeats 40000000 in
theorem rm_getAllowCreate (l : Launch) (Z : State) (a0 : Array Value) (hw : ∀ d ∈ tables_1, d.before a0 Z = true) (n0 : Nat) (h0 : Heap) (hn0 : n0 ≤ h0.size) (a : Addr) (x : Int32) (hx01 : x &&& 1 = x) (F : Fld Z h0 a "com/example/hafiza/hafiza/StoreConfig" "allowCreate" "Z" (.int x)) :
    Met l Z n0 (⟨"com/example/hafiza/hafiza/StoreConfig", "getAllowCreate", "()Z"⟩ : MethodName) prog_24_method_3_code 1 (Option.some .boolean) ({ frames := 0, cells := 0, slots := 0, locals := 0 } : Room) #[(.ref a)] h0 (fun (v : Option Value) (h' : Heap) => v = some (.int x) ∧ h' = h0) := by
  refine metW (Q := fun (v : Option Value) (h' : Heap) => v = some (.int x) ∧ h' = h0) pf_19 hn0 ?_
  intro p e s m below meth c T X hby hml hret hnm
  refine Goes.by (g' := (mkF m 0 #[.val (.ref a)] [])) (fun _ q => castTop (by first | rfl | (simp [entryFrame, mkF, argsToLocals, Value.category]; done)) q) ?_
  refine Goes.by (g' := (mkF m 1 #[.val (.ref a)] [(.ref a)])) (fun _ q => XS.aloadN X.here X.hx rfl (hb hby d19_0) rfl rfl q) ?_
  refine X.getF (host := "") (Or.inl (hw _ (List.mem_of_getElem? (i := 139) rfl))) Via.refl F (hb hby d19_1) (fun T X => ?_)
  show Goes _ _ _ _ _ _ _ _ T (mkF m 4 #[.val (.ref a)] [(.int x)])
  exact X.retZ hret (hb hby d19_4) (by decide) (by decide) ⟨by show some (Value.int (x &&& 1)) = _; rw [hx01], rfl⟩
set_option maxRecDepth 65536 in
set_option maxHeartbeats 40000000 in
theorem rm_getReadOnly (l : Launch) (Z : State) (a0 : Array Value) (hw : ∀ d ∈ tables_1, d.before a0 Z = true) (n0 : Nat) (h0 : Heap) (hn0 : n0 ≤ h0.size) (a : Addr) (x : Int32) (hx01 : x &&& 1 = x) (F : Fld Z h0 a "com/example/hafiza/hafiza/StoreConfig" "readOnly" "Z" (.int x)) :
    Met l Z n0 (⟨"com/example/hafiza/hafiza/StoreConfig", "getReadOnly", "()Z"⟩ : MethodName) prog_24_method_5_code 1 (Option.some .boolean) ({ frames := 0, cells := 0, slots := 0, locals := 0 } : Room) #[(.ref a)] h0 (fun (v : Option Value) (h' : Heap) => v = some (.int x) ∧ h' = h0) := by
  refine metW (Q := fun (v : Option Value) (h' : Heap) => v = some (.int x) ∧ h' = h0) pf_20 hn0 ?_
  intro p e s m below meth c T X hby hml hret hnm
  refine Goes.by (g' := (mkF m 0 #[.val (.ref a)] [])) (fun _ q => castTop (by first | rfl | (simp [entryFrame, mkF, argsToLocals, Value.category]; done)) q) ?_
  refine Goes.by (g' := (mkF m 1 #[.val (.ref a)] [(.ref a)])) (fun _ q => XS.aloadN X.here X.hx rfl (hb hby d20_0) rfl rfl q) ?_
  refine X.getF (host := "") (Or.inl (hw _ (List.mem_of_getElem? (i := 146) rfl))) Via.refl F (hb hby d20_1) (fun T X => ?_)
  show Goes _ _ _ _ _ _ _ _ T (mkF m 4 #[.val (.ref a)] [(.int x)])
  exact X.retZ hret (hb hby d20_4) (by decide) (by decide) ⟨by show some (Value.int (x &&& 1)) = _; rw [hx01], rfl⟩
set_option maxRecDepth 65536 in
set_option maxHeartbeats 40000000 in
theorem rmPick (l : Launch) (Z : State) (a0 : Array Value) (hw : ∀ d ∈ tables_1, d.before a0 Z = true) (n0 : Nat) (h0 : Heap) (hn0 : n0 ≤ h0.size) (x : Int32) (a_WRITE : Addr) (S_WRITE : Sta Z Z.heap "com/example/hafiza/hafiza/Durability" "WRITE" "Lcom/example/hafiza/hafiza/Durability;" (.ref a_WRITE)) (E_WRITE : Exa Z Z.heap a_WRITE "com/example/hafiza/hafiza/Durability") (a_FORCE : Addr) (S_FORCE : Sta Z Z.heap "com/example/hafiza/hafiza/Durability" "FORCE" "Lcom/example/hafiza/hafiza/Durability;" (.ref a_FORCE)) (E_FORCE : Exa Z Z.heap a_FORCE "com/example/hafiza/hafiza/Durability") (O_ : Old Z n0 h0) :
    Met l Z n0 (⟨"com/example/hafiza/hafiza/StoreConfigSetDurabilityPinLaw", "pick", "(I)Lcom/example/hafiza/hafiza/Durability;"⟩ : MethodName) method_2_code 1 (Option.some (.object "com/example/hafiza/hafiza/Durability")) ({ frames := 0, cells := 0, slots := 0, locals := 0 } : Room) #[(.int x)] h0 (fun (v : Option Value) (h' : Heap) => ∃ d, v = some (.ref d) ∧ Exa Z h0 d "com/example/hafiza/hafiza/Durability" ∧ h' = h0) := by
  refine metW (Q := fun (v : Option Value) (h' : Heap) => ∃ d, v = some (.ref d) ∧ Exa Z h0 d "com/example/hafiza/hafiza/Durability" ∧ h' = h0) pf_1 hn0 ?_
  intro p e s m below meth c T X hby hml hret hnm
  refine Goes.by (g' := (mkF m 0 #[.val (.int x)] [])) (fun _ q => castTop (by first | rfl | (simp [entryFrame, mkF, argsToLocals, Value.category]; done)) q) ?_
  refine Goes.by (g' := (mkF m 1 #[.val (.int x)] [(.int x)])) (fun _ q => XS.iloadN X.here X.hx rfl (hb hby d1_0) rfl q) ?_
  refine Goes.by (g' := (mkF m 2 #[.val (.int x)] [(.int (1 : Int32)), (.int x)])) (fun _ q => XS.iconst X.here X.hx rfl (hb hby d1_1) q) ?_
  refine Goes.by (g' := (mkF m 3 #[.val (.int x)] [(.int (x &&& (1 : Int32)))])) (fun _ q => XS.iand X.here X.hx rfl (hb hby d1_2) rfl q) ?_
  by_cases hB34 : (x &&& (1 : Int32)) = (0 : Int32)
  · skip
    refine Goes.by (g' := (mkF m 10 #[.val (.int x)] [])) (fun _ q => XS.ifYes X.here X.hx rfl (pc0 := 3) (pc' := 10) rfl (hb hby d1_3) rfl ((if0 _ _).trans (teq hB34).1) (by decide) (by decide) q) ?_
    refine X.getS (Or.inl (hw _ (List.mem_of_getElem? (i := 4) rfl))) (host := "") Via.refl (S_WRITE.ext O_.2) (hb hby d1_10) (fun T X => ?_)
    show Goes _ _ _ _ _ _ _ _ T (mkF m 13 #[.val (.int x)] [(.ref a_WRITE)])
    exact X.retA hret rfl rfl (hb hby d1_13) (by decide) (by decide) ⟨a_WRITE, rfl, E_WRITE.ext O_.2, rfl⟩
  · skip
    refine Goes.by (g' := (mkF m 6 #[.val (.int x)] [])) (fun _ q => XS.ifNo X.here X.hx rfl (hb hby d1_3) rfl ((if0 _ _).trans (feq hB34).1) q) ?_
    refine X.getS (Or.inl (hw _ (List.mem_of_getElem? (i := 7) rfl))) (host := "") Via.refl (S_FORCE.ext O_.2) (hb hby d1_6) (fun T X => ?_)
    show Goes _ _ _ _ _ _ _ _ T (mkF m 9 #[.val (.int x)] [(.ref a_FORCE)])
    exact X.retA hret rfl rfl (hb hby d1_9) (by decide) (by decide) ⟨a_FORCE, rfl, E_FORCE.ext O_.2, rfl⟩
set_option maxRecDepth 65536 in
set_option maxHeartbeats 40000000 in
theorem rm0 (l : Launch) (Z : State) (a0 : Array Value) (hw : ∀ d ∈ tables_1, d.before a0 Z = true) (n0 : Nat) (h0 : Heap) (hn0 : n0 ≤ h0.size) (ws : List Jvm.Cond) (p0 p1 : Int32) (a_WRITE : Addr) (S_WRITE : Sta Z Z.heap "com/example/hafiza/hafiza/Durability" "WRITE" "Lcom/example/hafiza/hafiza/Durability;" (.ref a_WRITE)) (E_WRITE : Exa Z Z.heap a_WRITE "com/example/hafiza/hafiza/Durability") (a_FORCE : Addr) (S_FORCE : Sta Z Z.heap "com/example/hafiza/hafiza/Durability" "FORCE" "Lcom/example/hafiza/hafiza/Durability;" (.ref a_FORCE)) (E_FORCE : Exa Z Z.heap a_FORCE "com/example/hafiza/hafiza/Durability") (O_ : Old Z n0 h0) :
    MetFree l x (head1 (Jvm.Cond.code x code maxLocals ret :: ws) room_1) (fun a U => a = #[(.int p0), (.int p1)] ∧ Z.Warmed39 U.vm ∧ U.heap = h0) (fun _ _ _ _ _ => True) (fun _ U o U' => ∃ v L, o = .returned v ∧ (Fr n0 L ∧ (fun (v : Option Value) (h' : Heap) => v = some (.int 1)) v U'.heap) ∧ EndF U o U' L room_1.cells room_1.slots) := by
  refine metW (Q := fun (v : Option Value) (h' : Heap) => v = some (.int 1)) pf_0 hn0 ?_
  intro p e s m below meth c T X hby hml hret hnm
  refine Goes.by (g' := (mkF m 0 #[.val (.int p0), .val (.int p1), .unset, .unset, .unset, .unset, .unset, .unset, .unset, .unset, .unset, .unset] [])) (fun _ q => castTop (by first | rfl | (simp [entryFrame, mkF, argsToLocals, Value.category, maxLocals]; done)) q) ?_
  refine Goes.by (g' := (mkF m 1 #[.val (.int p0), .val (.int p1), .unset, .unset, .unset, .unset, .unset, .unset, .unset, .unset, .unset, .unset] [(.int p0)])) (fun _ q => XS.iloadN X.here X.hx rfl (hb hby at_0) rfl q) ?_
  have X_o := X
  refine X.callS (hw _ (List.mem_of_getElem? (i := 0) rfl)) (hw _ (List.mem_of_getElem? (i := 1) rfl)) (hw _ (List.mem_of_getElem? (i := 2) rfl)) (hw _ (List.mem_of_getElem? (i := 3) rfl)) (by decide) pd_750718508 (argsL := [(.int p0)]) rfl (rmPick l Z a0 hw n0 h0 X.n0le p0 a_WRITE S_WRITE E_WRITE a_FORCE S_FORCE E_FORCE O_) (by rw [hml]; rfl) rfl (by decide) (leB rfl) (hb hby at_1) (by decide) (by decide) (fun T h40 v X hQ => ?_)
  obtain ⟨du39, rfl, E_du39, hh⟩ := hQ
  rw [hh] at X
  clear hh
  show Goes _ _ _ _ _ _ _ _ T (mkF m 4 #[.val (.int p0), .val (.int p1), .unset, .unset, .unset, .unset, .unset, .unset, .unset, .unset, .unset, .unset] [(.ref du39)])
  refine Goes.by (g' := (mkF m 5 #[.val (.int p0), .val (.int p1), .val (.ref du39), .unset, .unset, .unset, .unset, .unset, .unset, .unset, .unset, .unset] [])) (fun _ q => XS.astoreN X.here X.hx rfl (hb hby at_4) rfl rfl (l' := #[.val (.int p0), .val (.int p1), .val (.ref du39), .unset, .unset, .unset, .unset, .unset, .unset, .unset, .unset, .unset]) rfl q) ?_
  refine Goes.by (g' := (mkF m 6 #[.val (.int p0), .val (.int p1), .val (.ref du39), .unset, .unset, .unset, .unset, .unset, .unset, .unset, .unset, .unset] [(.int p1)])) (fun _ q => XS.iloadN X.here X.hx rfl (hb hby at_5) rfl q) ?_
  have X_o := X
  refine X.callS (hw _ (List.mem_of_getElem? (i := 0) rfl)) (hw _ (List.mem_of_getElem? (i := 1) rfl)) (hw _ (List.mem_of_getElem? (i := 2) rfl)) (hw _ (List.mem_of_getElem? (i := 3) rfl)) (by decide) pd_750718508 (argsL := [(.int p1)]) rfl (rmPick l Z a0 hw n0 h0 X.n0le p1 a_WRITE S_WRITE E_WRITE a_FORCE S_FORCE E_FORCE O_) (by rw [hml]; rfl) rfl (by decide) (leB rfl) (hb hby at_6) (by decide) (by decide) (fun T h42 v X hQ => ?_)
  obtain ⟨du41, rfl, E_du41, hh⟩ := hQ
  rw [hh] at X
  clear hh
  show Goes _ _ _ _ _ _ _ _ T (mkF m 9 #[.val (.int p0), .val (.int p1), .val (.ref du39), .unset, .unset, .unset, .unset, .unset, .unset, .unset, .unset, .unset] [(.ref du41)])
  refine Goes.by (g' := (mkF m 10 #[.val (.int p0), .val (.int p1), .val (.ref du39), .val (.ref du41), .unset, .unset, .unset, .unset, .unset, .unset, .unset, .unset] [])) (fun _ q => XS.astoreN X.here X.hx rfl (hb hby at_9) rfl rfl (l' := #[.val (.int p0), .val (.int p1), .val (.ref du39), .val (.ref du41), .unset, .unset, .unset, .unset, .unset, .unset, .unset, .unset]) rfl q) ?_
  refine X.newO (hw _ (List.mem_of_getElem? (i := 9) rfl)) (hw _ (List.mem_of_getElem? (i := 10) rfl)) (hw _ (List.mem_of_getElem? (i := 11) rfl)) (hb hby at_10) (by decide) (by decide) (fun T h44 b43 X g_b43 ga_b43 E E_b43 D_b43 => ?_)
  have ne_du39_b43 : du39 ≠ b43 := by rw [g_b43]; exact Nat.ne_of_lt E_du39.lt
  have ne_du41_b43 : du41 ≠ b43 := by rw [g_b43]; exact Nat.ne_of_lt E_du41.lt
  have O_ := O_.ext E
  have E_du39 := E_du39.ext E
  have E_du41 := E_du41.ext E
  have F_b43_mutations : Fld Z h44 b43 "com/example/hafiza/hafiza/StoreConfig" "mutations" "Lcom/example/hafiza/hafiza/Mutations;" .null := D_b43 (Or.inl (hw _ (List.mem_of_getElem? (i := 101) rfl))) (ty := (.object "com/example/hafiza/hafiza/Mutations")) (by decide)
  have F_b43_durability : Fld Z h44 b43 "com/example/hafiza/hafiza/StoreConfig" "durability" "Lcom/example/hafiza/hafiza/Durability;" .null := D_b43 (Or.inl (hw _ (List.mem_of_getElem? (i := 104) rfl))) (ty := (.object "com/example/hafiza/hafiza/Durability")) (by decide)
  have F_b43_allowCreate : Fld Z h44 b43 "com/example/hafiza/hafiza/StoreConfig" "allowCreate" "Z" (.int (0 : Int32)) := D_b43 (Or.inl (hw _ (List.mem_of_getElem? (i := 140) rfl))) (ty := .boolean) (by decide)
  have F_b43_readOnly : Fld Z h44 b43 "com/example/hafiza/hafiza/StoreConfig" "readOnly" "Z" (.int (0 : Int32)) := D_b43 (Or.inl (hw _ (List.mem_of_getElem? (i := 147) rfl))) (ty := .boolean) (by decide)
  show Goes _ _ _ _ _ _ _ _ T (mkF m 13 #[.val (.int p0), .val (.int p1), .val (.ref du39), .val (.ref du41), .unset, .unset, .unset, .unset, .unset, .unset, .unset, .unset] [(.ref b43)])
  refine Goes.by (g' := (mkF m 14 #[.val (.int p0), .val (.int p1), .val (.ref du39), .val (.ref du41), .unset, .unset, .unset, .unset, .unset, .unset, .unset, .unset] [(.ref b43), (.ref b43)])) (fun _ q => XS.dup X.here X.hx rfl (hb hby at_13) rfl rfl q) ?_
  have X_o := X
  refine X.callN rfl (hw _ (List.mem_of_getElem? (i := 12) rfl)) (hw _ (List.mem_of_getElem? (i := 13) rfl)) (hw _ (List.mem_of_getElem? (i := 11) rfl)) (hw _ (List.mem_of_getElem? (i := 14) rfl)) (by decide) pd_193421996 (argsL := []) rfl (rmSC l Z a0 hw n0 h44 X.n0le b43 ga_b43 E_b43 F_b43_mutations F_b43_durability F_b43_allowCreate F_b43_readOnly a_WRITE S_WRITE O_) (by rw [hml]; rfl) rfl (by decide) (leB rfl) (hb hby at_14) (by decide) (by decide) (fun T h45 v X hQ => ?_)
  obtain ⟨rfl, K, mu, gz, E_mu, F_b43_mutations, F_b43_durability, F_b43_allowCreate, F_b43_readOnly⟩ := hQ
  have ga_mu : n0 ≤ mu := Nat.le_trans X_o.n0le gz
  have ne_du39_mu : du39 ≠ mu := Nat.ne_of_lt (Nat.lt_of_lt_of_le E_du39.lt gz)
  have ne_du41_mu : du41 ≠ mu := Nat.ne_of_lt (Nat.lt_of_lt_of_le E_du41.lt gz)
  have ne_b43_mu : b43 ≠ mu := Nat.ne_of_lt (Nat.lt_of_lt_of_le E_b43.lt gz)
  have O_ := O_.keep K (allS ga_b43 all0)
  have E_du39 := E_du39.keep K
  have E_du41 := E_du41.keep K
  have E_b43 := E_b43.keep K
  show Goes _ _ _ _ _ _ _ _ T (mkF m 17 #[.val (.int p0), .val (.int p1), .val (.ref du39), .val (.ref du41), .unset, .unset, .unset, .unset, .unset, .unset, .unset, .unset] [(.ref b43)])
  refine Goes.by (g' := (mkF m 19 #[.val (.int p0), .val (.int p1), .val (.ref du39), .val (.ref du41), .val (.ref b43), .unset, .unset, .unset, .unset, .unset, .unset, .unset] [])) (fun _ q => XS.astore X.here X.hx rfl (hb hby at_17) rfl rfl (l' := #[.val (.int p0), .val (.int p1), .val (.ref du39), .val (.ref du41), .val (.ref b43), .unset, .unset, .unset, .unset, .unset, .unset, .unset]) rfl q) ?_
  refine Goes.by (g' := (mkF m 21 #[.val (.int p0), .val (.int p1), .val (.ref du39), .val (.ref du41), .val (.ref b43), .unset, .unset, .unset, .unset, .unset, .unset, .unset] [(.ref b43)])) (fun _ q => XS.aload X.here X.hx rfl (hb hby at_19) rfl rfl q) ?_
  have X_o := X
  refine X.callV E_b43 (hw _ (List.mem_of_getElem? (i := 105) rfl)) (hw _ (List.mem_of_getElem? (i := 106) rfl)) (hw _ (List.mem_of_getElem? (i := 108) rfl)) (hw _ (List.mem_of_getElem? (i := 108) rfl)) rfl (hw _ (List.mem_of_getElem? (i := 107) rfl)) (hw _ (List.mem_of_getElem? (i := 11) rfl)) (hw _ (List.mem_of_getElem? (i := 109) rfl)) (by decide) pd_2544813166 (argsL := []) rfl (rm_getMutations l Z a0 hw n0 h45 X.n0le b43 mu  F_b43_mutations) (by rw [hml]; rfl) rfl (by decide) (leB rfl) (hb hby at_21) (by decide) (by decide) (fun T h46 v X hQ => ?_)
  obtain ⟨rfl, hh⟩ := hQ
  rw [hh] at X
  clear hh
  show Goes _ _ _ _ _ _ _ _ T (mkF m 24 #[.val (.int p0), .val (.int p1), .val (.ref du39), .val (.ref du41), .val (.ref b43), .unset, .unset, .unset, .unset, .unset, .unset, .unset] [(.ref mu)])
  refine Goes.by (g' := (mkF m 26 #[.val (.int p0), .val (.int p1), .val (.ref du39), .val (.ref du41), .val (.ref b43), .val (.ref mu), .unset, .unset, .unset, .unset, .unset, .unset] [])) (fun _ q => XS.astore X.here X.hx rfl (hb hby at_24) rfl rfl (l' := #[.val (.int p0), .val (.int p1), .val (.ref du39), .val (.ref du41), .val (.ref b43), .val (.ref mu), .unset, .unset, .unset, .unset, .unset, .unset]) rfl q) ?_
  refine Goes.by (g' := (mkF m 28 #[.val (.int p0), .val (.int p1), .val (.ref du39), .val (.ref du41), .val (.ref b43), .val (.ref mu), .unset, .unset, .unset, .unset, .unset, .unset] [(.ref b43)])) (fun _ q => XS.aload X.here X.hx rfl (hb hby at_26) rfl rfl q) ?_
  have X_o := X
  refine X.callV E_b43 (hw _ (List.mem_of_getElem? (i := 110) rfl)) (hw _ (List.mem_of_getElem? (i := 111) rfl)) (hw _ (List.mem_of_getElem? (i := 113) rfl)) (hw _ (List.mem_of_getElem? (i := 108) rfl)) rfl (hw _ (List.mem_of_getElem? (i := 112) rfl)) (hw _ (List.mem_of_getElem? (i := 11) rfl)) (hw _ (List.mem_of_getElem? (i := 114) rfl)) (by decide) pd_2323304547 (argsL := []) rfl (rm_getDurability l Z a0 hw n0 h45 X.n0le b43 a_WRITE  F_b43_durability) (by rw [hml]; rfl) rfl (by decide) (leB rfl) (hb hby at_28) (by decide) (by decide) (fun T h47 v X hQ => ?_)
  obtain ⟨rfl, hh⟩ := hQ
  rw [hh] at X
  clear hh
  show Goes _ _ _ _ _ _ _ _ T (mkF m 31 #[.val (.int p0), .val (.int p1), .val (.ref du39), .val (.ref du41), .val (.ref b43), .val (.ref mu), .unset, .unset, .unset, .unset, .unset, .unset] [(.ref a_WRITE)])
  refine Goes.by (g' := (mkF m 33 #[.val (.int p0), .val (.int p1), .val (.ref du39), .val (.ref du41), .val (.ref b43), .val (.ref mu), .val (.ref a_WRITE), .unset, .unset, .unset, .unset, .unset] [])) (fun _ q => XS.astore X.here X.hx rfl (hb hby at_31) rfl rfl (l' := #[.val (.int p0), .val (.int p1), .val (.ref du39), .val (.ref du41), .val (.ref b43), .val (.ref mu), .val (.ref a_WRITE), .unset, .unset, .unset, .unset, .unset]) rfl q) ?_
  refine Goes.by (g' := (mkF m 35 #[.val (.int p0), .val (.int p1), .val (.ref du39), .val (.ref du41), .val (.ref b43), .val (.ref mu), .val (.ref a_WRITE), .unset, .unset, .unset, .unset, .unset] [(.ref b43)])) (fun _ q => XS.aload X.here X.hx rfl (hb hby at_33) rfl rfl q) ?_
  refine Goes.by (g' := (mkF m 36 #[.val (.int p0), .val (.int p1), .val (.ref du39), .val (.ref du41), .val (.ref b43), .val (.ref mu), .val (.ref a_WRITE), .unset, .unset, .unset, .unset, .unset] [(.ref du39), (.ref b43)])) (fun _ q => XS.aloadN X.here X.hx rfl (hb hby at_35) rfl rfl q) ?_
  have X_o := X
  refine X.callV E_b43 (hw _ (List.mem_of_getElem? (i := 115) rfl)) (hw _ (List.mem_of_getElem? (i := 116) rfl)) (hw _ (List.mem_of_getElem? (i := 118) rfl)) (hw _ (List.mem_of_getElem? (i := 108) rfl)) rfl (hw _ (List.mem_of_getElem? (i := 117) rfl)) (hw _ (List.mem_of_getElem? (i := 11) rfl)) (hw _ (List.mem_of_getElem? (i := 119) rfl)) (by decide) pd_2427134969 (argsL := [(.ref du39)]) rfl (rm_setDurability l Z a0 hw n0 h45 X.n0le b43 du39 (.ref a_WRITE) ga_b43 E_b43 E_du39 F_b43_durability (.ref mu) F_b43_mutations (.int (0 : Int32)) F_b43_allowCreate (.int (0 : Int32)) F_b43_readOnly) (by rw [hml]; rfl) rfl (by decide) (leB rfl) (hb hby at_36) (by decide) (by decide) (fun T h48 v X hQ => ?_)
  obtain ⟨rfl, K, F_b43_durability, F_b43_mutations, F_b43_allowCreate, F_b43_readOnly⟩ := hQ
  have O_ := O_.keep K (allS ga_b43 all0)
  have E_du39 := E_du39.keep K
  have E_du41 := E_du41.keep K
  have E_b43 := E_b43.keep K
  have E_mu := E_mu.keep K
  show Goes _ _ _ _ _ _ _ _ T (mkF m 39 #[.val (.int p0), .val (.int p1), .val (.ref du39), .val (.ref du41), .val (.ref b43), .val (.ref mu), .val (.ref a_WRITE), .unset, .unset, .unset, .unset, .unset] [])
  refine Goes.by (g' := (mkF m 41 #[.val (.int p0), .val (.int p1), .val (.ref du39), .val (.ref du41), .val (.ref b43), .val (.ref mu), .val (.ref a_WRITE), .unset, .unset, .unset, .unset, .unset] [(.ref b43)])) (fun _ q => XS.aload X.here X.hx rfl (hb hby at_39) rfl rfl q) ?_
  have X_o := X
  refine X.callV E_b43 (hw _ (List.mem_of_getElem? (i := 110) rfl)) (hw _ (List.mem_of_getElem? (i := 111) rfl)) (hw _ (List.mem_of_getElem? (i := 113) rfl)) (hw _ (List.mem_of_getElem? (i := 108) rfl)) rfl (hw _ (List.mem_of_getElem? (i := 112) rfl)) (hw _ (List.mem_of_getElem? (i := 11) rfl)) (hw _ (List.mem_of_getElem? (i := 114) rfl)) (by decide) pd_2323304547 (argsL := []) rfl (rm_getDurability l Z a0 hw n0 h48 X.n0le b43 du39  F_b43_durability) (by rw [hml]; rfl) rfl (by decide) (leB rfl) (hb hby at_41) (by decide) (by decide) (fun T h49 v X hQ => ?_)
  obtain ⟨rfl, hh⟩ := hQ
  rw [hh] at X
  clear hh
  show Goes _ _ _ _ _ _ _ _ T (mkF m 44 #[.val (.int p0), .val (.int p1), .val (.ref du39), .val (.ref du41), .val (.ref b43), .val (.ref mu), .val (.ref a_WRITE), .unset, .unset, .unset, .unset, .unset] [(.ref du39)])
  refine Goes.by (g' := (mkF m 46 #[.val (.int p0), .val (.int p1), .val (.ref du39), .val (.ref du41), .val (.ref b43), .val (.ref mu), .val (.ref a_WRITE), .val (.ref du39), .unset, .unset, .unset, .unset] [])) (fun _ q => XS.astore X.here X.hx rfl (hb hby at_44) rfl rfl (l' := #[.val (.int p0), .val (.int p1), .val (.ref du39), .val (.ref du41), .val (.ref b43), .val (.ref mu), .val (.ref a_WRITE), .val (.ref du39), .unset, .unset, .unset, .unset]) rfl q) ?_
  refine Goes.by (g' := (mkF m 48 #[.val (.int p0), .val (.int p1), .val (.ref du39), .val (.ref du41), .val (.ref b43), .val (.ref mu), .val (.ref a_WRITE), .val (.ref du39), .unset, .unset, .unset, .unset] [(.ref b43)])) (fun _ q => XS.aload X.here X.hx rfl (hb hby at_46) rfl rfl q) ?_
  refine Goes.by (g' := (mkF m 49 #[.val (.int p0), .val (.int p1), .val (.ref du39), .val (.ref du41), .val (.ref b43), .val (.ref mu), .val (.ref a_WRITE), .val (.ref du39), .unset, .unset, .unset, .unset] [(.ref du41), (.ref b43)])) (fun _ q => XS.aloadN X.here X.hx rfl (hb hby at_48) rfl rfl q) ?_
  have X_o := X
  refine X.callV E_b43 (hw _ (List.mem_of_getElem? (i := 115) rfl)) (hw _ (List.mem_of_getElem? (i := 116) rfl)) (hw _ (List.mem_of_getElem? (i := 118) rfl)) (hw _ (List.mem_of_getElem? (i := 108) rfl)) rfl (hw _ (List.mem_of_getElem? (i := 117) rfl)) (hw _ (List.mem_of_getElem? (i := 11) rfl)) (hw _ (List.mem_of_getElem? (i := 119) rfl)) (by decide) pd_2427134969 (argsL := [(.ref du41)]) rfl (rm_setDurability l Z a0 hw n0 h48 X.n0le b43 du41 (.ref du39) ga_b43 E_b43 E_du41 F_b43_durability (.ref mu) F_b43_mutations (.int (0 : Int32)) F_b43_allowCreate (.int (0 : Int32)) F_b43_readOnly) (by rw [hml]; rfl) rfl (by decide) (leB rfl) (hb hby at_49) (by decide) (by decide) (fun T h50 v X hQ => ?_)
  obtain ⟨rfl, K, F_b43_durability, F_b43_mutations, F_b43_allowCreate, F_b43_readOnly⟩ := hQ
  have O_ := O_.keep K (allS ga_b43 all0)
  have E_du39 := E_du39.keep K
  have E_du41 := E_du41.keep K
  have E_b43 := E_b43.keep K
  have E_mu := E_mu.keep K
  show Goes _ _ _ _ _ _ _ _ T (mkF m 52 #[.val (.int p0), .val (.int p1), .val (.ref du39), .val (.ref du41), .val (.ref b43), .val (.ref mu), .val (.ref a_WRITE), .val (.ref du39), .unset, .unset, .unset, .unset] [])
  refine Goes.by (g' := (mkF m 54 #[.val (.int p0), .val (.int p1), .val (.ref du39), .val (.ref du41), .val (.ref b43), .val (.ref mu), .val (.ref a_WRITE), .val (.ref du39), .unset, .unset, .unset, .unset] [(.ref b43)])) (fun _ q => XS.aload X.here X.hx rfl (hb hby at_52) rfl rfl q) ?_
  have X_o := X
  refine X.callV E_b43 (hw _ (List.mem_of_getElem? (i := 110) rfl)) (hw _ (List.mem_of_getElem? (i := 111) rfl)) (hw _ (List.mem_of_getElem? (i := 113) rfl)) (hw _ (List.mem_of_getElem? (i := 108) rfl)) rfl (hw _ (List.mem_of_getElem? (i := 112) rfl)) (hw _ (List.mem_of_getElem? (i := 11) rfl)) (hw _ (List.mem_of_getElem? (i := 114) rfl)) (by decide) pd_2323304547 (argsL := []) rfl (rm_getDurability l Z a0 hw n0 h50 X.n0le b43 du41  F_b43_durability) (by rw [hml]; rfl) rfl (by decide) (leB rfl) (hb hby at_54) (by decide) (by decide) (fun T h51 v X hQ => ?_)
  obtain ⟨rfl, hh⟩ := hQ
  rw [hh] at X
  clear hh
  show Goes _ _ _ _ _ _ _ _ T (mkF m 57 #[.val (.int p0), .val (.int p1), .val (.ref du39), .val (.ref du41), .val (.ref b43), .val (.ref mu), .val (.ref a_WRITE), .val (.ref du39), .unset, .unset, .unset, .unset] [(.ref du41)])
  refine Goes.by (g' := (mkF m 59 #[.val (.int p0), .val (.int p1), .val (.ref du39), .val (.ref du41), .val (.ref b43), .val (.ref mu), .val (.ref a_WRITE), .val (.ref du39), .val (.ref du41), .unset, .unset, .unset] [])) (fun _ q => XS.astore X.here X.hx rfl (hb hby at_57) rfl rfl (l' := #[.val (.int p0), .val (.int p1), .val (.ref du39), .val (.ref du41), .val (.ref b43), .val (.ref mu), .val (.ref a_WRITE), .val (.ref du39), .val (.ref du41), .unset, .unset, .unset]) rfl q) ?_
  refine Goes.by (g' := (mkF m 61 #[.val (.int p0), .val (.int p1), .val (.ref du39), .val (.ref du41), .val (.ref b43), .val (.ref mu), .val (.ref a_WRITE), .val (.ref du39), .val (.ref du41), .unset, .unset, .unset] [(.ref b43)])) (fun _ q => XS.aload X.here X.hx rfl (hb hby at_59) rfl rfl q) ?_
  have X_o := X
  refine X.callV E_b43 (hw _ (List.mem_of_getElem? (i := 105) rfl)) (hw _ (List.mem_of_getElem? (i := 106) rfl)) (hw _ (List.mem_of_getElem? (i := 108) rfl)) (hw _ (List.mem_of_getElem? (i := 108) rfl)) rfl (hw _ (List.mem_of_getElem? (i := 107) rfl)) (hw _ (List.mem_of_getElem? (i := 11) rfl)) (hw _ (List.mem_of_getElem? (i := 109) rfl)) (by decide) pd_2544813166 (argsL := []) rfl (rm_getMutations l Z a0 hw n0 h50 X.n0le b43 mu  F_b43_mutations) (by rw [hml]; rfl) rfl (by decide) (leB rfl) (hb hby at_61) (by decide) (by decide) (fun T h52 v X hQ => ?_)
  obtain ⟨rfl, hh⟩ := hQ
  rw [hh] at X
  clear hh
  show Goes _ _ _ _ _ _ _ _ T (mkF m 64 #[.val (.int p0), .val (.int p1), .val (.ref du39), .val (.ref du41), .val (.ref b43), .val (.ref mu), .val (.ref a_WRITE), .val (.ref du39), .val (.ref du41), .unset, .unset, .unset] [(.ref mu)])
  refine Goes.by (g' := (mkF m 66 #[.val (.int p0), .val (.int p1), .val (.ref du39), .val (.ref du41), .val (.ref b43), .val (.ref mu), .val (.ref a_WRITE), .val (.ref du39), .val (.ref du41), .val (.ref mu), .unset, .unset] [])) (fun _ q => XS.astore X.here X.hx rfl (hb hby at_64) rfl rfl (l' := #[.val (.int p0), .val (.int p1), .val (.ref du39), .val (.ref du41), .val (.ref b43), .val (.ref mu), .val (.ref a_WRITE), .val (.ref du39), .val (.ref du41), .val (.ref mu), .unset, .unset]) rfl q) ?_
  refine Goes.by (g' := (mkF m 68 #[.val (.int p0), .val (.int p1), .val (.ref du39), .val (.ref du41), .val (.ref b43), .val (.ref mu), .val (.ref a_WRITE), .val (.ref du39), .val (.ref du41), .val (.ref mu), .unset, .unset] [(.ref b43)])) (fun _ q => XS.aload X.here X.hx rfl (hb hby at_66) rfl rfl q) ?_
  have X_o := X
  refine X.callV E_b43 (hw _ (List.mem_of_getElem? (i := 134) rfl)) (hw _ (List.mem_of_getElem? (i := 135) rfl)) (hw _ (List.mem_of_getElem? (i := 137) rfl)) (hw _ (List.mem_of_getElem? (i := 108) rfl)) rfl (hw _ (List.mem_of_getElem? (i := 136) rfl)) (hw _ (List.mem_of_getElem? (i := 11) rfl)) (hw _ (List.mem_of_getElem? (i := 138) rfl)) (by decide) pd_193422000 (argsL := []) rfl (rm_getAllowCreate l Z a0 hw n0 h50 X.n0le b43 (0 : Int32) (by decide) F_b43_allowCreate) (by rw [hml]; rfl) rfl (by decide) (leB rfl) (hb hby at_68) (by decide) (by decide) (fun T h53 v X hQ => ?_)
  obtain ⟨rfl, hh⟩ := hQ
  rw [hh] at X
  clear hh
  show Goes _ _ _ _ _ _ _ _ T (mkF m 71 #[.val (.int p0), .val (.int p1), .val (.ref du39), .val (.ref du41), .val (.ref b43), .val (.ref mu), .val (.ref a_WRITE), .val (.ref du39), .val (.ref du41), .val (.ref mu), .unset, .unset] [(.int (0 : Int32))])
  refine Goes.by (g' := (mkF m 73 #[.val (.int p0), .val (.int p1), .val (.ref du39), .val (.ref du41), .val (.ref b43), .val (.ref mu), .val (.ref a_WRITE), .val (.ref du39), .val (.ref du41), .val (.ref mu), .val (.int (0 : Int32)), .unset] [])) (fun _ q => XS.istore X.here X.hx rfl (hb hby at_71) rfl (l' := #[.val (.int p0), .val (.int p1), .val (.ref du39), .val (.ref du41), .val (.ref b43), .val (.ref mu), .val (.ref a_WRITE), .val (.ref du39), .val (.ref du41), .val (.ref mu), .val (.int (0 : Int32)), .unset]) rfl q) ?_
  refine Goes.by (g' := (mkF m 75 #[.val (.int p0), .val (.int p1), .val (.ref du39), .val (.ref du41), .val (.ref b43), .val (.ref mu), .val (.ref a_WRITE), .val (.ref du39), .val (.ref du41), .val (.ref mu), .val (.int (0 : Int32)), .unset] [(.ref b43)])) (fun _ q => XS.aload X.here X.hx rfl (hb hby at_73) rfl rfl q) ?_
  have X_o := X
  refine X.callV E_b43 (hw _ (List.mem_of_getElem? (i := 141) rfl)) (hw _ (List.mem_of_getElem? (i := 142) rfl)) (hw _ (List.mem_of_getElem? (i := 144) rfl)) (hw _ (List.mem_of_getElem? (i := 108) rfl)) rfl (hw _ (List.mem_of_getElem? (i := 143) rfl)) (hw _ (List.mem_of_getElem? (i := 11) rfl)) (hw _ (List.mem_of_getElem? (i := 145) rfl)) (by decide) pd_193422000 (argsL := []) rfl (rm_getReadOnly l Z a0 hw n0 h50 X.n0le b43 (0 : Int32) (by decide) F_b43_readOnly) (by rw [hml]; rfl) rfl (by decide) (leB rfl) (hb hby at_75) (by decide) (by decide) (fun T h54 v X hQ => ?_)
  obtain ⟨rfl, hh⟩ := hQ
  rw [hh] at X
  clear hh
  show Goes _ _ _ _ _ _ _ _ T (mkF m 78 #[.val (.int p0), .val (.int p1), .val (.ref du39), .val (.ref du41), .val (.ref b43), .val (.ref mu), .val (.ref a_WRITE), .val (.ref du39), .val (.ref du41), .val (.ref mu), .val (.int (0 : Int32)), .unset] [(.int (0 : Int32))])
  refine Goes.by (g' := (mkF m 80 #[.val (.int p0), .val (.int p1), .val (.ref du39), .val (.ref du41), .val (.ref b43), .val (.ref mu), .val (.ref a_WRITE), .val (.ref du39), .val (.ref du41), .val (.ref mu), .val (.int (0 : Int32)), .val (.int (0 : Int32))] [])) (fun _ q => XS.istore X.here X.hx rfl (hb hby at_78) rfl (l' := #[.val (.int p0), .val (.int p1), .val (.ref du39), .val (.ref du41), .val (.ref b43), .val (.ref mu), .val (.ref a_WRITE), .val (.ref du39), .val (.ref du41), .val (.ref mu), .val (.int (0 : Int32)), .val (.int (0 : Int32))]) rfl q) ?_
  refine Goes.by (g' := (mkF m 82 #[.val (.int p0), .val (.int p1), .val (.ref du39), .val (.ref du41), .val (.ref b43), .val (.ref mu), .val (.ref a_WRITE), .val (.ref du39), .val (.ref du41), .val (.ref mu), .val (.int (0 : Int32)), .val (.int (0 : Int32))] [(.ref a_WRITE)])) (fun _ q => XS.aload X.here X.hx rfl (hb hby at_80) rfl rfl q) ?_
  refine X.getS (Or.inl (hw _ (List.mem_of_getElem? (i := 4) rfl))) (host := "") Via.refl (S_WRITE.ext O_.2) (hb hby at_82) (fun T X => ?_)
  show Goes _ _ _ _ _ _ _ _ T (mkF m 85 #[.val (.int p0), .val (.int p1), .val (.ref du39), .val (.ref du41), .val (.ref b43), .val (.ref mu), .val (.ref a_WRITE), .val (.ref du39), .val (.ref du41), .val (.ref mu), .val (.int (0 : Int32)), .val (.int (0 : Int32))] [(.ref a_WRITE), (.ref a_WRITE)])
  refine X.acmp rfl rfl (cd := .ne) (x := (.ref a_WRITE)) (y := (.ref a_WRITE)) (same := true) (pc' := 88) (hb hby at_85) (decide_eq_true rfl) (by decide) (by decide) ?_
  show Goes _ _ _ _ _ _ _ _ T (mkF m 88 #[.val (.int p0), .val (.int p1), .val (.ref du39), .val (.ref du41), .val (.ref b43), .val (.ref mu), .val (.ref a_WRITE), .val (.ref du39), .val (.ref du41), .val (.ref mu), .val (.int (0 : Int32)), .val (.int (0 : Int32))] [])
  refine Goes.by (g' := (mkF m 90 #[.val (.int p0), .val (.int p1), .val (.ref du39), .val (.ref du41), .val (.ref b43), .val (.ref mu), .val (.ref a_WRITE), .val (.ref du39), .val (.ref du41), .val (.ref mu), .val (.int (0 : Int32)), .val (.int (0 : Int32))] [(.ref du39)])) (fun _ q => XS.aload X.here X.hx rfl (hb hby at_88) rfl rfl q) ?_
  refine Goes.by (g' := (mkF m 91 #[.val (.int p0), .val (.int p1), .val (.ref du39), .val (.ref du41), .val (.ref b43), .val (.ref mu), .val (.ref a_WRITE), .val (.ref du39), .val (.ref du41), .val (.ref mu), .val (.int (0 : Int32)), .val (.int (0 : Int32))] [(.ref du39), (.ref du39)])) (fun _ q => XS.aloadN X.here X.hx rfl (hb hby at_90) rfl rfl q) ?_
  refine X.acmp rfl rfl (cd := .ne) (x := (.ref du39)) (y := (.ref du39)) (same := true) (pc' := 94) (hb hby at_91) (decide_eq_true rfl) (by decide) (by decide) ?_
  show Goes _ _ _ _ _ _ _ _ T (mkF m 94 #[.val (.int p0), .val (.int p1), .val (.ref du39), .val (.ref du41), .val (.ref b43), .val (.ref mu), .val (.ref a_WRITE), .val (.ref du39), .val (.ref du41), .val (.ref mu), .val (.int (0 : Int32)), .val (.int (0 : Int32))] [])
  refine Goes.by (g' := (mkF m 96 #[.val (.int p0), .val (.int p1), .val (.ref du39), .val (.ref du41), .val (.ref b43), .val (.ref mu), .val (.ref a_WRITE), .val (.ref du39), .val (.ref du41), .val (.ref mu), .val (.int (0 : Int32)), .val (.int (0 : Int32))] [(.ref du41)])) (fun _ q => XS.aload X.here X.hx rfl (hb hby at_94) rfl rfl q) ?_
  refine Goes.by (g' := (mkF m 97 #[.val (.int p0), .val (.int p1), .val (.ref du39), .val (.ref du41), .val (.ref b43), .val (.ref mu), .val (.ref a_WRITE), .val (.ref du39), .val (.ref du41), .val (.ref mu), .val (.int (0 : Int32)), .val (.int (0 : Int32))] [(.ref du41), (.ref du41)])) (fun _ q => XS.aloadN X.here X.hx rfl (hb hby at_96) rfl rfl q) ?_
  refine X.acmp rfl rfl (cd := .ne) (x := (.ref du41)) (y := (.ref du41)) (same := true) (pc' := 100) (hb hby at_97) (decide_eq_true rfl) (by decide) (by decide) ?_
  show Goes _ _ _ _ _ _ _ _ T (mkF m 100 #[.val (.int p0), .val (.int p1), .val (.ref du39), .val (.ref du41), .val (.ref b43), .val (.ref mu), .val (.ref a_WRITE), .val (.ref du39), .val (.ref du41), .val (.ref mu), .val (.int (0 : Int32)), .val (.int (0 : Int32))] [])
  refine Goes.by (g' := (mkF m 102 #[.val (.int p0), .val (.int p1), .val (.ref du39), .val (.ref du41), .val (.ref b43), .val (.ref mu), .val (.ref a_WRITE), .val (.ref du39), .val (.ref du41), .val (.ref mu), .val (.int (0 : Int32)), .val (.int (0 : Int32))] [(.ref mu)])) (fun _ q => XS.aload X.here X.hx rfl (hb hby at_100) rfl rfl q) ?_
  refine Goes.by (g' := (mkF m 104 #[.val (.int p0), .val (.int p1), .val (.ref du39), .val (.ref du41), .val (.ref b43), .val (.ref mu), .val (.ref a_WRITE), .val (.ref du39), .val (.ref du41), .val (.ref mu), .val (.int (0 : Int32)), .val (.int (0 : Int32))] [(.ref mu), (.ref mu)])) (fun _ q => XS.aload X.here X.hx rfl (hb hby at_102) rfl rfl q) ?_
  refine X.acmp rfl rfl (cd := .ne) (x := (.ref mu)) (y := (.ref mu)) (same := true) (pc' := 107) (hb hby at_104) (decide_eq_true rfl) (by decide) (by decide) ?_
  show Goes _ _ _ _ _ _ _ _ T (mkF m 107 #[.val (.int p0), .val (.int p1), .val (.ref du39), .val (.ref du41), .val (.ref b43), .val (.ref mu), .val (.ref a_WRITE), .val (.ref du39), .val (.ref du41), .val (.ref mu), .val (.int (0 : Int32)), .val (.int (0 : Int32))] [])
  refine Goes.by (g' := (mkF m 109 #[.val (.int p0), .val (.int p1), .val (.ref du39), .val (.ref du41), .val (.ref b43), .val (.ref mu), .val (.ref a_WRITE), .val (.ref du39), .val (.ref du41), .val (.ref mu), .val (.int (0 : Int32)), .val (.int (0 : Int32))] [(.int (0 : Int32))])) (fun _ q => XS.iload X.here X.hx rfl (hb hby at_107) rfl q) ?_
  refine Goes.by (g' := (mkF m 112 #[.val (.int p0), .val (.int p1), .val (.ref du39), .val (.ref du41), .val (.ref b43), .val (.ref mu), .val (.ref a_WRITE), .val (.ref du39), .val (.ref du41), .val (.ref mu), .val (.int (0 : Int32)), .val (.int (0 : Int32))] [])) (fun _ q => XS.ifNo X.here X.hx rfl (hb hby at_109) rfl ((if0 _ _).trans (teq (show (0 : Int32) = (0 : Int32) from (by decide))).2) q) ?_
  refine Goes.by (g' := (mkF m 114 #[.val (.int p0), .val (.int p1), .val (.ref du39), .val (.ref du41), .val (.ref b43), .val (.ref mu), .val (.ref a_WRITE), .val (.ref du39), .val (.ref du41), .val (.ref mu), .val (.int (0 : Int32)), .val (.int (0 : Int32))] [(.int (0 : Int32))])) (fun _ q => XS.iload X.here X.hx rfl (hb hby at_112) rfl q) ?_
  refine Goes.by (g' := (mkF m 117 #[.val (.int p0), .val (.int p1), .val (.ref du39), .val (.ref du41), .val (.ref b43), .val (.ref mu), .val (.ref a_WRITE), .val (.ref du39), .val (.ref du41), .val (.ref mu), .val (.int (0 : Int32)), .val (.int (0 : Int32))] [])) (fun _ q => XS.ifNo X.here X.hx rfl (hb hby at_114) rfl ((if0 _ _).trans (teq (show (0 : Int32) = (0 : Int32) from (by decide))).2) q) ?_
  refine Goes.by (g' := (mkF m 118 #[.val (.int p0), .val (.int p1), .val (.ref du39), .val (.ref du41), .val (.ref b43), .val (.ref mu), .val (.ref a_WRITE), .val (.ref du39), .val (.ref du41), .val (.ref mu), .val (.int (0 : Int32)), .val (.int (0 : Int32))] [(.int (1 : Int32))])) (fun _ q => XS.iconst X.here X.hx rfl (hb hby at_117) q) ?_
  refine Goes.by (g' := (mkF m 122 #[.val (.int p0), .val (.int p1), .val (.ref du39), .val (.ref du41), .val (.ref b43), .val (.ref mu), .val (.ref a_WRITE), .val (.ref du39), .val (.ref du41), .val (.ref mu), .val (.int (0 : Int32)), .val (.int (0 : Int32))] [(.int (1 : Int32))])) (fun _ q => XS.goto X.here X.hx rfl (pc0 := 118) (pc' := 122) rfl (hb hby at_118) (by decide) (by decide) q) ?_
  exact X.retZ hret (hb hby at_122) (by decide) (by decide) rfl
set_option maxRecDepth 65536 in
set_option maxHeartbeats 40000000 in
theorem comes_1 {Post : Tables → Env → Array Value → State → Outcome → State → Prop} (hpost : ∀ tb e args s v u, (limb_1_1.after args s (.returned v) u = true ∧ limb_1_2.after args s (.returned v) u = true ∧ True) → EndF s (.returned v) u (Jvm.fieldLocs frame_1_writes args s ++ Jvm.arrayLocs frame_1_arrays args s ++ Jvm.staticLocs frame_1_statics s) 32 1216 → Post tb e args s (.returned v) u) :
    ArmFor flags0 classFile x code maxLocals ret World_1 tables_1 room_1 Calls_1 rest_1 Pre_1 Post := by
  intro l hfl _ _ p e ha hc hk s m args below hf hA hF happ hP
  obtain ⟨hcalls, hrest, hpre⟩ := hP
  obtain ⟨-, -, -, hnamed, -, -, -, hat⟩ := (Spec.applies_iff hf).mp happ
  obtain ⟨hg, hn⟩ := and_e (Cond.before_iff.mp (show (Jvm.Cond.and given_1 narrow_1).before args s = true from hpre))
  obtain ⟨hcount, hg⟩ := and_e hg
  obtain ⟨w0, w1, rfl⟩ : ∃ w0 w1 : Value, args = #[w0, w1] := by
    have hs : args.size = 2 := by simpa [Cond.value, given_1] using hcount
    obtain ⟨L⟩ := args
    match L, hs with
    | [w0, w1], _ => exact ⟨w0, w1, rfl⟩
  obtain ⟨hg0, hg⟩ := and_e hg
  obtain ⟨p0, ep0⟩ := is_v hg0
  obtain rfl : w0 = (.int p0) := Option.some.inj ep0
  have hg1 := hg
  obtain ⟨p1, ep1⟩ := is_v hg1
  obtain rfl : w1 = (.int p1) := Option.some.inj ep1
  have hw := fun d (hd : d ∈ tables_1) => atoms_spec (ws := Jvm.Cond.code x code maxLocals ret :: tables_1) hat d (List.mem_cons_of_mem _ hd)
  have hfit : Fit s := fun {y c} hc i hi => by
    obtain ⟨ha, rfl⟩ := Array.getElem?_eq_some_iff.mp hc
    have q := List.all_eq_true.mp ((Array.all_eq_true_iff_forall_mem.mp hF) _ (Array.getElem_mem ha)) i (List.mem_range.mpr hi)
    simpa [Array.getElem?_eq_getElem hi] using q
  obtain ⟨c0, hn⟩ := and_e hn
  have c1 := hn
  obtain ⟨a_WRITE, e_WRITE⟩ := exa_v c0
  have E_WRITE := Exa.start e_WRITE c0
  have S_WRITE : Sta s s.heap "com/example/hafiza/hafiza/Durability" "WRITE" "Lcom/example/hafiza/hafiza/Durability;" (.ref a_WRITE) := Sta.start e_WRITE (Or.inr ⟨(hw _ (List.mem_of_getElem? (i := 5) rfl)), (hw _ (List.mem_of_getElem? (i := 6) rfl))⟩)
  obtain ⟨a_FORCE, e_FORCE⟩ := exa_v c1
  have E_FORCE := Exa.start e_FORCE c1
  have S_FORCE : Sta s s.heap "com/example/hafiza/hafiza/Durability" "FORCE" "Lcom/example/hafiza/hafiza/Durability;" (.ref a_FORCE) := Sta.start e_FORCE (Or.inr ⟨(hw _ (List.mem_of_getElem? (i := 5) rfl)), (hw _ (List.mem_of_getElem? (i := 8) rfl))⟩)
  obtain ⟨n, o, h1, h2, h3, _, L, rfl, ⟨N, rfl⟩, hq⟩ := rm0 l s _ hw s.heap.size s.heap (Nat.le_refl _) tables_1 p0 p1 a_WRITE S_WRITE E_WRITE a_FORCE S_FORCE E_FORCE (Old.start s) p e ha hc hk s m _ below hf ((Spec.applies_iff_loose hf).mp happ).1 ⟨rfl, State.Warmed39.refl s, rfl⟩ trivial
  refine ⟨n, _, h1, h2, h3, hpost _ _ _ _ _ _ ⟨Cond.after_iff.mpr rfl, Cond.after_iff.mpr (eq_i res_at (Term.int_eval (1)) rfl), trivial⟩ ⟨hq.1, hq.2.1, hq.2.2.1, (hq.2.2.2.sift fun y hy => Or.inr (N y hy)).mono (by decide) (by decide)⟩⟩
theorem main_1_1 : Claimed_1_1 := comes_1 fun _ _ _ _ _ _ h hF => ⟨h.1, hF⟩
theorem main_1_2 : Claimed_1_2 := comes_1 fun _ _ _ _ _ _ h hF => ⟨h.2.1, hF⟩
end Jvm.Pilot.@@N@@
namespace Jvm.Pilot.@@N@@
open Jvm Jvm.ClassFile Sem Op Lib Jvm.Free Jvm.Stand Jvm.Pilot.@@N@@.Jvm.D
/-! MADE BY PROGRAM (witnessworld.py) out of the Statement's table words and the real class files: 35 classes; the members and pool entries that the words name. The judged class is class 1, her method 2. -/
namespace start1
open Jvm.ClassFile
def u (s : String) : CpInfo := .utf8 (stringToUtf16 s)
/-- a pool by its gaps: so many unusable entries, then the entry; so many at the end -/
def gap : Nat → List CpInfo → List CpInfo
  | 0, r => r
  | n + 1, r => .unusable :: gap n r
def poolList (es : List (Nat × CpInfo)) (last : Nat) : List CpInfo := es.foldr (fun e r => gap e.1 (e.2 :: r)) (gap last [])
def pool (es : List (Nat × CpInfo)) (last : Nat) : Array CpInfo := ⟨poolList es last⟩
def fileOf (pool : Array CpInfo) (this : Nat) (attrs : Array Attribute := #[]) (ms : Array MethodInfo := #[]) (fl : Nat := 33) (sup : Nat := 0) (ifs : Array Nat := #[]) (fds : Array FieldInfo := #[]) : ClassFile where
  minorVersion := 0
  majorVersion := 65
  constantPool := pool
  accessFlags := fl
  thisClass := this
  superClass := sup
  interfaces := ifs
  fields := fds
  methods := ms
  attributes := attrs
def plain (name : String) (sup : Option ClassId) : Class where
  name := name
  kind := .ordinary
  loader := none
  accessFlags := 33
  super := sup
  interfaces := #[]
  cf := none
  fields := #[]
  methods := #[]
  instanceTypes := #[]
  staticTypes := #[]
  resolved := #[]
  callSites := []
  init := .initialized
  statics := none
  mirror := none

def pool0 : Array CpInfo := pool [(5, u "<init>"), (0, u "()V"), (1, .class_ 10), (1, u "java/lang/Object")] 113

def k0c0 : Code := { maxStack := 0, maxLocals := 1, code := object_method_1_code, exceptionTable := #[], attributes := #[] }
def k0m0 : Method := { name := "<init>", desc := "()V", sig := { parameters := [], returnType := none }, accessFlags := 1, code := some k0c0 }
/-- java/lang/Object -/
def k0 : Class := { plain "java/lang/Object" none with
  accessFlags := 33
  interfaces := #[]
  cf := some (fileOf pool0 8 #[] #[{ accessFlags := 1, nameIndex := 5, descriptorIndex := 6, attributes := #[] }] 33 0 #[] #[])
  fields := #[]
  methods := #[k0m0]
  instanceTypes := #[]
  staticTypes := #[]
  resolved := Array.replicate 124 none
  statics := none }

def pool1 : Array CpInfo := pool [(2, .class_ 4), (0, .nameAndType 5 6), (0, u "java/lang/Object"), (0, u "<init>"), (0, u "()V"), (0, .fieldref 8 9), (0, .class_ 10), (0, .nameAndType 11 12), (0, u "com/example/hafiza/hafiza/Durability"), (0, u "FORCE"), (0, u "Lcom/example/hafiza/hafiza/Durability;"), (0, .fieldref 8 14), (0, .nameAndType 15 12), (0, u "WRITE"), (0, .methodref 17 18), (0, .class_ 19), (0, .nameAndType 20 21), (0, u "com/example/hafiza/hafiza/StoreConfigSetDurabilityPinLaw"), (0, u "pick"), (0, u "(I)Lcom/example/hafiza/hafiza/Durability;"), (0, .class_ 23), (0, u "com/example/hafiza/hafiza/StoreConfig"), (0, .methodref 22 3), (0, .methodref 22 26), (0, .nameAndType 27 28), (0, u "getMutations"), (0, u "()Lcom/example/hafiza/hafiza/Mutations;"), (0, .methodref 22 30), (0, .nameAndType 31 32), (0, u "getDurability"), (0, u "()Lcom/example/hafiza/hafiza/Durability;"), (0, .methodref 22 34), (0, .nameAndType 35 36), (0, u "setDurability"), (0, u "(Lcom/example/hafiza/hafiza/Durability;)V"), (0, .methodref 22 38), (0, .nameAndType 39 40), (0, u "getAllowCreate"), (0, u "()Z"), (0, .methodref 22 42), (0, .nameAndType 43 40), (0, u "getReadOnly"), (3, u "law"), (0, u "(II)Z")] 4

def k1m0 : Method := { name := "<init>", desc := "()V", sig := { parameters := [], returnType := none }, accessFlags := 1, code := none }
def k1c1 : Code := { maxStack := 2, maxLocals := 1, code := method_2_code, exceptionTable := #[], attributes := #[] }
def k1m1 : Method := { name := "pick", desc := "(I)Lcom/example/hafiza/hafiza/Durability;", sig := { parameters := [.int], returnType := some (.object "com/example/hafiza/hafiza/Durability") }, accessFlags := 10, code := some k1c1 }
def k1c2 : Code := { maxStack := 2, maxLocals := 12, code := code, exceptionTable := #[], attributes := #[] }
def k1m2 : Method := { name := "law", desc := "(II)Z", sig := { parameters := [.int, .int], returnType := some .boolean }, accessFlags := 9, code := some k1c2 }
/-- com/example/hafiza/hafiza/StoreConfigSetDurabilityPinLaw -/
def k1 : Class := { plain "com/example/hafiza/hafiza/StoreConfigSetDurabilityPinLaw" (some 0) with
  accessFlags := 49
  interfaces := #[]
  cf := some (fileOf pool1 17 #[] #[{ accessFlags := 1, nameIndex := 5, descriptorIndex := 6, attributes := #[] }, { accessFlags := 10, nameIndex := 20, descriptorIndex := 21, attributes := #[] }, { accessFlags := 9, nameIndex := 47, descriptorIndex := 48, attributes := #[] }] 49 2 #[] #[])
  fields := #[]
  methods := #[k1m0, k1m1, k1m2]
  instanceTypes := #[]
  staticTypes := #[]
  resolved := Array.replicate 53 none
  statics := none }

def pool2 : Array CpInfo := pool [(1, .class_ 2), (0, u "java/lang/constant/Constable"), (0, .class_ 4), (0, u "java/lang/Object")] 6

/-- java/lang/constant/Constable -/
def k2 : Class := { plain "java/lang/constant/Constable" (some 0) with
  accessFlags := 1537
  interfaces := #[]
  cf := some (fileOf pool2 1 #[] #[] 1537 3 #[] #[])
  fields := #[]
  methods := #[]
  instanceTypes := #[]
  staticTypes := #[]
  resolved := Array.replicate 11 none
  statics := none }

def pool3 : Array CpInfo := pool [(1, .class_ 2), (0, u "java/lang/Comparable"), (0, .class_ 4), (0, u "java/lang/Object")] 7

/-- java/lang/Comparable -/
def k3 : Class := { plain "java/lang/Comparable" (some 0) with
  accessFlags := 1537
  interfaces := #[]
  cf := some (fileOf pool3 1 #[] #[] 1537 3 #[] #[])
  fields := #[]
  methods := #[]
  instanceTypes := #[]
  staticTypes := #[]
  resolved := Array.replicate 12 none
  statics := none }

def pool4 : Array CpInfo := pool [(1, .class_ 2), (0, u "java/io/Serializable"), (0, .class_ 4), (0, u "java/lang/Object")] 2

/-- java/io/Serializable -/
def k4 : Class := { plain "java/io/Serializable" (some 0) with
  accessFlags := 1537
  interfaces := #[]
  cf := some (fileOf pool4 1 #[] #[] 1537 3 #[] #[])
  fields := #[]
  methods := #[]
  instanceTypes := #[]
  staticTypes := #[]
  resolved := Array.replicate 7 none
  statics := none }

def pool5 : Array CpInfo := pool [(2, .class_ 4), (1, u "java/lang/Enum"), (0, u "name"), (0, u "Ljava/lang/String;"), (2, u "ordinal"), (0, u "I"), (1, .class_ 14), (1, u "java/lang/Object"), (4, u "hash"), (86, .class_ 108), (1, u "java/lang/Enum$EnumDesc"), (2, .class_ 112), (0, u "java/lang/constant/Constable"), (0, .class_ 114), (0, u "java/lang/Comparable"), (0, .class_ 116), (0, u "java/io/Serializable")] 87

/-- java/lang/Enum -/
def k5 : Class := { plain "java/lang/Enum" (some 0) with
  accessFlags := 1057
  interfaces := #[2, 3, 4]
  cf := some (fileOf pool5 2 #[.nestMembers #[106]] #[] 1057 12 #[111, 113, 115] #[{ accessFlags := 18, nameIndex := 5, descriptorIndex := 6, attributes := #[] }, { accessFlags := 18, nameIndex := 9, descriptorIndex := 10, attributes := #[] }, { accessFlags := 2, nameIndex := 19, descriptorIndex := 10, attributes := #[] }])
  fields := #[{ name := "name", type := (.object "java/lang/String"), accessFlags := 18, slot := 0, constantValue := 0 }, { name := "ordinal", type := .int, accessFlags := 18, slot := 1, constantValue := 0 }, { name := "hash", type := .int, accessFlags := 2, slot := 2, constantValue := 0 }]
  methods := #[]
  instanceTypes := #[(.object "java/lang/String"), .int, .int]
  staticTypes := #[]
  resolved := Array.replicate 204 none
  statics := none }

def pool6 : Array CpInfo := pool [(1, .class_ 2), (0, u "com/example/hafiza/hafiza/Durability"), (2, u "WRITE"), (0, u "Lcom/example/hafiza/hafiza/Durability;"), (2, u "FORCE"), (2, u "$VALUES"), (0, u "[Lcom/example/hafiza/hafiza/Durability;"), (6, .class_ 22), (1, u "java/lang/Enum")] 24

/-- com/example/hafiza/hafiza/Durability -/
def k6 : Class := { plain "com/example/hafiza/hafiza/Durability" (some 5) with
  accessFlags := 16433
  interfaces := #[]
  cf := some (fileOf pool6 1 #[] #[] 16433 20 #[] #[{ accessFlags := 16409, nameIndex := 5, descriptorIndex := 6, attributes := #[] }, { accessFlags := 16409, nameIndex := 9, descriptorIndex := 6, attributes := #[] }, { accessFlags := 4122, nameIndex := 12, descriptorIndex := 13, attributes := #[] }])
  fields := #[{ name := "WRITE", type := (.object "com/example/hafiza/hafiza/Durability"), accessFlags := 16409, slot := 0, constantValue := 0 }, { name := "FORCE", type := (.object "com/example/hafiza/hafiza/Durability"), accessFlags := 16409, slot := 1, constantValue := 0 }, { name := "$VALUES", type := (.array (.object "com/example/hafiza/hafiza/Durability")), accessFlags := 4122, slot := 2, constantValue := 0 }]
  methods := #[]
  instanceTypes := #[(.object "java/lang/String"), .int, .int]
  staticTypes := #[(.object "com/example/hafiza/hafiza/Durability"), (.object "com/example/hafiza/hafiza/Durability"), (.array (.object "com/example/hafiza/hafiza/Durability"))]
  resolved := Array.replicate 47 none
  statics := some 0 }

def pool7 : Array CpInfo := pool [(1, .methodref 2 3), (0, .class_ 4), (0, .nameAndType 5 6), (0, u "java/lang/Object"), (0, u "<init>"), (0, u "()V"), (0, .class_ 8), (0, u "com/example/hafiza/hafiza/Mutations"), (0, .methodref 7 3), (0, .fieldref 11 12), (0, .class_ 13), (0, .nameAndType 14 15), (0, u "com/example/hafiza/hafiza/StoreConfig"), (0, u "mutations"), (0, u "Lcom/example/hafiza/hafiza/Mutations;"), (0, .fieldref 17 18), (0, .class_ 19), (0, .nameAndType 20 21), (0, u "com/example/hafiza/hafiza/Durability"), (0, u "WRITE"), (0, u "Lcom/example/hafiza/hafiza/Durability;"), (0, .fieldref 11 23), (0, .nameAndType 24 21), (0, u "durability"), (0, .fieldref 11 26), (0, .nameAndType 27 28), (0, u "allowCreate"), (0, u "Z"), (0, .fieldref 11 30), (0, .nameAndType 31 28), (0, u "readOnly"), (1, .methodref 34 35), (0, .class_ 36), (0, .nameAndType 37 38), (0, u "java/util/Objects"), (0, u "requireNonNull"), (0, u "(Ljava/lang/Object;Ljava/lang/String;)Ljava/lang/Object;"), (0, .string 24), (2, u "classLoader"), (0, u "Ljava/lang/ClassLoader;"), (4, u "getAllowCreate"), (0, u "()Z"), (1, u "getReadOnly"), (2, u "getMutations"), (0, u "()Lcom/example/hafiza/hafiza/Mutations;"), (0, u "setDurability"), (0, u "(Lcom/example/hafiza/hafiza/Durability;)V"), (0, u "getDurability"), (0, u "()Lcom/example/hafiza/hafiza/Durability;")] 6

def k7c0 : Code := { maxStack := 3, maxLocals := 1, code := prog_24_method_1_code, exceptionTable := #[], attributes := #[] }
def k7m0 : Method := { name := "<init>", desc := "()V", sig := { parameters := [], returnType := none }, accessFlags := 1, code := some k7c0 }
def k7c1 : Code := { maxStack := 1, maxLocals := 1, code := prog_24_method_3_code, exceptionTable := #[], attributes := #[] }
def k7m1 : Method := { name := "getAllowCreate", desc := "()Z", sig := { parameters := [], returnType := some .boolean }, accessFlags := 1, code := some k7c1 }
def k7c2 : Code := { maxStack := 1, maxLocals := 1, code := prog_24_method_5_code, exceptionTable := #[], attributes := #[] }
def k7m2 : Method := { name := "getReadOnly", desc := "()Z", sig := { parameters := [], returnType := some .boolean }, accessFlags := 1, code := some k7c2 }
def k7c3 : Code := { maxStack := 1, maxLocals := 1, code := prog_24_method_7_code, exceptionTable := #[], attributes := #[] }
def k7m3 : Method := { name := "getMutations", desc := "()Lcom/example/hafiza/hafiza/Mutations;", sig := { parameters := [], returnType := some (.object "com/example/hafiza/hafiza/Mutations") }, accessFlags := 1, code := some k7c3 }
def k7c4 : Code := { maxStack := 3, maxLocals := 2, code := prog_24_method_8_code, exceptionTable := #[], attributes := #[] }
def k7m4 : Method := { name := "setDurability", desc := "(Lcom/example/hafiza/hafiza/Durability;)V", sig := { parameters := [(.object "com/example/hafiza/hafiza/Durability")], returnType := none }, accessFlags := 1, code := some k7c4 }
def k7c5 : Code := { maxStack := 1, maxLocals := 1, code := prog_24_method_9_code, exceptionTable := #[], attributes := #[] }
def k7m5 : Method := { name := "getDurability", desc := "()Lcom/example/hafiza/hafiza/Durability;", sig := { parameters := [], returnType := some (.object "com/example/hafiza/hafiza/Durability") }, accessFlags := 1, code := some k7c5 }
/-- com/example/hafiza/hafiza/StoreConfig -/
def k7 : Class := { plain "com/example/hafiza/hafiza/StoreConfig" (some 0) with
  accessFlags := 33
  interfaces := #[]
  cf := some (fileOf pool7 11 #[] #[{ accessFlags := 1, nameIndex := 5, descriptorIndex := 6, attributes := #[] }, { accessFlags := 1, nameIndex := 48, descriptorIndex := 49, attributes := #[] }, { accessFlags := 1, nameIndex := 51, descriptorIndex := 49, attributes := #[] }, { accessFlags := 1, nameIndex := 54, descriptorIndex := 55, attributes := #[] }, { accessFlags := 1, nameIndex := 56, descriptorIndex := 57, attributes := #[] }, { accessFlags := 1, nameIndex := 58, descriptorIndex := 59, attributes := #[] }] 33 2 #[] #[{ accessFlags := 2, nameIndex := 27, descriptorIndex := 28, attributes := #[] }, { accessFlags := 2, nameIndex := 31, descriptorIndex := 28, attributes := #[] }, { accessFlags := 2, nameIndex := 14, descriptorIndex := 15, attributes := #[] }, { accessFlags := 2, nameIndex := 24, descriptorIndex := 21, attributes := #[] }, { accessFlags := 2, nameIndex := 42, descriptorIndex := 43, attributes := #[] }])
  fields := #[{ name := "allowCreate", type := .boolean, accessFlags := 2, slot := 0, constantValue := 0 }, { name := "readOnly", type := .boolean, accessFlags := 2, slot := 1, constantValue := 0 }, { name := "mutations", type := (.object "com/example/hafiza/hafiza/Mutations"), accessFlags := 2, slot := 2, constantValue := 0 }, { name := "durability", type := (.object "com/example/hafiza/hafiza/Durability"), accessFlags := 2, slot := 3, constantValue := 0 }, { name := "classLoader", type := (.object "java/lang/ClassLoader"), accessFlags := 2, slot := 4, constantValue := 0 }]
  methods := #[k7m0, k7m1, k7m2, k7m3, k7m4, k7m5]
  instanceTypes := #[.boolean, .boolean, (.object "com/example/hafiza/hafiza/Mutations"), (.object "com/example/hafiza/hafiza/Durability"), (.object "java/lang/ClassLoader")]
  staticTypes := #[]
  resolved := Array.replicate 66 none
  statics := none }

def pool8 : Array CpInfo := pool [(1, .methodref 2 3), (0, .class_ 4), (0, .nameAndType 5 6), (0, u "java/lang/Object"), (0, u "<init>"), (0, u "()V"), (0, .class_ 8), (0, u "java/util/LinkedHashSet"), (0, .methodref 7 3), (0, .fieldref 11 12), (0, .class_ 13), (0, .nameAndType 14 15), (0, u "com/example/hafiza/hafiza/Mutations"), (0, u "renamers"), (0, u "Ljava/util/Set;"), (0, .fieldref 11 17), (0, .nameAndType 18 15), (0, u "deleters"), (0, .fieldref 11 20), (0, .nameAndType 21 15), (0, u "converters")] 111

def k8c0 : Code := { maxStack := 3, maxLocals := 1, code := prog_16_method_1_code, exceptionTable := #[], attributes := #[] }
def k8m0 : Method := { name := "<init>", desc := "()V", sig := { parameters := [], returnType := none }, accessFlags := 1, code := some k8c0 }
/-- com/example/hafiza/hafiza/Mutations -/
def k8 : Class := { plain "com/example/hafiza/hafiza/Mutations" (some 0) with
  accessFlags := 49
  interfaces := #[]
  cf := some (fileOf pool8 11 #[] #[{ accessFlags := 1, nameIndex := 5, descriptorIndex := 6, attributes := #[] }] 49 2 #[] #[{ accessFlags := 18, nameIndex := 14, descriptorIndex := 15, attributes := #[] }, { accessFlags := 18, nameIndex := 18, descriptorIndex := 15, attributes := #[] }, { accessFlags := 18, nameIndex := 21, descriptorIndex := 15, attributes := #[] }])
  fields := #[{ name := "renamers", type := (.object "java/util/Set"), accessFlags := 18, slot := 0, constantValue := 0 }, { name := "deleters", type := (.object "java/util/Set"), accessFlags := 18, slot := 1, constantValue := 0 }, { name := "converters", type := (.object "java/util/Set"), accessFlags := 18, slot := 2, constantValue := 0 }]
  methods := #[k8m0]
  instanceTypes := #[(.object "java/util/Set"), (.object "java/util/Set"), (.object "java/util/Set")]
  staticTypes := #[]
  resolved := Array.replicate 133 none
  statics := none }

def pool9 : Array CpInfo := pool [(8, .class_ 10), (1, u "java/lang/Iterable"), (24, .class_ 36), (0, u "java/lang/Object")] 25

/-- java/lang/Iterable -/
def k9 : Class := { plain "java/lang/Iterable" (some 0) with
  accessFlags := 1537
  interfaces := #[]
  cf := some (fileOf pool9 8 #[] #[] 1537 35 #[] #[])
  fields := #[]
  methods := #[]
  instanceTypes := #[]
  staticTypes := #[]
  resolved := Array.replicate 62 none
  statics := none }

def pool10 : Array CpInfo := pool [(10, .class_ 12), (1, u "java/util/Collection"), (47, .class_ 61), (0, u "java/lang/Object"), (0, .class_ 63), (0, u "java/lang/Iterable")] 51

/-- java/util/Collection -/
def k10 : Class := { plain "java/util/Collection" (some 0) with
  accessFlags := 1537
  interfaces := #[9]
  cf := some (fileOf pool10 10 #[] #[] 1537 60 #[62] #[])
  fields := #[]
  methods := #[]
  instanceTypes := #[]
  staticTypes := #[]
  resolved := Array.replicate 115 none
  statics := none }

def pool11 : Array CpInfo := pool [(1, .methodref 2 3), (0, .class_ 4), (0, .nameAndType 5 6), (0, u "java/lang/Object"), (0, u "<init>"), (0, u "()V"), (1, .class_ 10), (1, u "java/util/AbstractCollection"), (66, .class_ 78), (0, u "java/util/Collection")] 81

def k11c0 : Code := { maxStack := 1, maxLocals := 1, code := jdk_22_method_1_code, exceptionTable := #[], attributes := #[] }
def k11m0 : Method := { name := "<init>", desc := "()V", sig := { parameters := [], returnType := none }, accessFlags := 4, code := some k11c0 }
/-- java/util/AbstractCollection -/
def k11 : Class := { plain "java/util/AbstractCollection" (some 0) with
  accessFlags := 1057
  interfaces := #[10]
  cf := some (fileOf pool11 8 #[] #[{ accessFlags := 4, nameIndex := 5, descriptorIndex := 6, attributes := #[] }] 1057 2 #[77] #[])
  fields := #[]
  methods := #[k11m0]
  instanceTypes := #[]
  staticTypes := #[]
  resolved := Array.replicate 160 none
  statics := none }

def pool12 : Array CpInfo := pool [(26, .class_ 27), (0, u "java/lang/Object"), (5, .class_ 34), (0, u "java/util/Set"), (1, .class_ 38), (1, u "java/util/Collection")] 105

/-- java/util/Set -/
def k12 : Class := { plain "java/util/Set" (some 0) with
  accessFlags := 1537
  interfaces := #[10]
  cf := some (fileOf pool12 33 #[] #[] 1537 26 #[36] #[])
  fields := #[]
  methods := #[]
  instanceTypes := #[]
  staticTypes := #[]
  resolved := Array.replicate 144 none
  statics := none }

def pool13 : Array CpInfo := pool [(1, .methodref 2 3), (0, .class_ 4), (0, .nameAndType 5 6), (0, u "java/util/AbstractCollection"), (0, u "<init>"), (0, u "()V"), (0, .class_ 8), (0, u "java/util/Set"), (7, .class_ 17), (0, u "java/util/AbstractSet")] 78

def k13c0 : Code := { maxStack := 1, maxLocals := 1, code := jdk_91_method_1_code, exceptionTable := #[], attributes := #[] }
def k13m0 : Method := { name := "<init>", desc := "()V", sig := { parameters := [], returnType := none }, accessFlags := 4, code := some k13c0 }
/-- java/util/AbstractSet -/
def k13 : Class := { plain "java/util/AbstractSet" (some 11) with
  accessFlags := 1057
  interfaces := #[12]
  cf := some (fileOf pool13 16 #[] #[{ accessFlags := 4, nameIndex := 5, descriptorIndex := 6, attributes := #[] }] 1057 2 #[7] #[])
  fields := #[]
  methods := #[k13m0]
  instanceTypes := #[]
  staticTypes := #[]
  resolved := Array.replicate 96 none
  statics := none }

def pool14 : Array CpInfo := pool [(1, .class_ 2), (0, u "java/lang/Cloneable"), (0, .class_ 4), (0, u "java/lang/Object")] 2

/-- java/lang/Cloneable -/
def k14 : Class := { plain "java/lang/Cloneable" (some 0) with
  accessFlags := 1537
  interfaces := #[]
  cf := some (fileOf pool14 1 #[] #[] 1537 3 #[] #[])
  fields := #[]
  methods := #[]
  instanceTypes := #[]
  staticTypes := #[]
  resolved := Array.replicate 7 none
  statics := none }

def pool15 : Array CpInfo := pool [(1, .methodref 2 3), (0, .class_ 4), (0, .nameAndType 5 6), (0, u "java/util/AbstractSet"), (0, u "<init>"), (0, u "()V"), (3, .fieldref 11 12), (0, .class_ 13), (0, .nameAndType 14 15), (0, u "java/util/HashSet"), (0, u "map"), (0, u "Ljava/util/HashMap;"), (21, .nameAndType 5 38), (0, u "(IF)V"), (3, .class_ 43), (0, u "java/util/LinkedHashMap"), (0, .methodref 42 37), (5, .class_ 52), (1, u "java/util/Set"), (13, u "PRESENT"), (0, u "Ljava/lang/Object;"), (158, .class_ 227), (0, u "java/lang/Cloneable"), (0, .class_ 229), (0, u "java/io/Serializable"), (0, u "serialVersionUID"), (0, u "J"), (20, u "(IFZ)V")] 50

def k15m0 : Method := { name := "<init>", desc := "()V", sig := { parameters := [], returnType := none }, accessFlags := 1, code := none }
def k15c1 : Code := { maxStack := 5, maxLocals := 4, code := jdk_93_method_5_code, exceptionTable := #[], attributes := #[] }
def k15m1 : Method := { name := "<init>", desc := "(IFZ)V", sig := { parameters := [.int, .float, .boolean], returnType := none }, accessFlags := 0, code := some k15c1 }
/-- java/util/HashSet -/
def k15 : Class := { plain "java/util/HashSet" (some 13) with
  accessFlags := 33
  interfaces := #[12, 14, 4]
  cf := some (fileOf pool15 11 #[] #[{ accessFlags := 1, nameIndex := 5, descriptorIndex := 6, attributes := #[] }, { accessFlags := 0, nameIndex := 5, descriptorIndex := 252, attributes := #[] }] 33 2 #[50, 226, 228] #[{ accessFlags := 24, nameIndex := 230, descriptorIndex := 231, attributes := #[] }, { accessFlags := 128, nameIndex := 14, descriptorIndex := 15, attributes := #[] }, { accessFlags := 24, nameIndex := 66, descriptorIndex := 67, attributes := #[] }])
  fields := #[{ name := "serialVersionUID", type := .long, accessFlags := 24, slot := 0, constantValue := 0 }, { name := "map", type := (.object "java/util/HashMap"), accessFlags := 128, slot := 0, constantValue := 0 }, { name := "PRESENT", type := (.object "java/lang/Object"), accessFlags := 24, slot := 1, constantValue := 0 }]
  methods := #[k15m0, k15m1]
  instanceTypes := #[(.object "java/util/HashMap")]
  staticTypes := #[.long, (.object "java/lang/Object")]
  resolved := Array.replicate 303 none
  statics := none }

def pool16 : Array CpInfo := pool [(8, .class_ 10), (1, u "java/util/SequencedCollection"), (15, .class_ 27), (0, u "java/lang/Object"), (0, .class_ 29), (0, u "java/util/Collection")] 27

/-- java/util/SequencedCollection -/
def k16 : Class := { plain "java/util/SequencedCollection" (some 0) with
  accessFlags := 1537
  interfaces := #[10]
  cf := some (fileOf pool16 8 #[] #[] 1537 26 #[28] #[])
  fields := #[]
  methods := #[]
  instanceTypes := #[]
  staticTypes := #[]
  resolved := Array.replicate 57 none
  statics := none }

def pool17 : Array CpInfo := pool [(2, .class_ 4), (1, u "java/util/SequencedSet"), (2, .class_ 8), (0, u "java/lang/Object"), (0, .class_ 10), (0, u "java/util/SequencedCollection"), (0, .class_ 12), (0, u "java/util/Set")] 13

/-- java/util/SequencedSet -/
def k17 : Class := { plain "java/util/SequencedSet" (some 0) with
  accessFlags := 1537
  interfaces := #[16, 12]
  cf := some (fileOf pool17 2 #[] #[] 1537 7 #[9, 11] #[])
  fields := #[]
  methods := #[]
  instanceTypes := #[]
  staticTypes := #[]
  resolved := Array.replicate 26 none
  statics := none }

def pool18 : Array CpInfo := pool [(1, .methodref 2 3), (0, .class_ 4), (0, .nameAndType 5 6), (0, u "java/util/HashSet"), (0, u "<init>"), (0, u "(IFZ)V"), (0, .float 1061158912), (19, .class_ 29), (1, u "java/util/LinkedHashSet"), (16, u "()V"), (44, .class_ 93), (1, u "java/util/SequencedSet"), (11, .class_ 106), (0, u "java/util/LinkedHashSet$1ReverseLinkedHashSetView"), (6, .class_ 114), (0, u "java/lang/Cloneable"), (0, .class_ 116), (0, u "java/io/Serializable"), (0, u "serialVersionUID"), (0, u "J")] 44

def k18c0 : Code := { maxStack := 4, maxLocals := 1, code := jdk_2620_method_3_code, exceptionTable := #[], attributes := #[] }
def k18m0 : Method := { name := "<init>", desc := "()V", sig := { parameters := [], returnType := none }, accessFlags := 1, code := some k18c0 }
/-- java/util/LinkedHashSet -/
def k18 : Class := { plain "java/util/LinkedHashSet" (some 15) with
  accessFlags := 33
  interfaces := #[17, 14, 4]
  cf := some (fileOf pool18 27 #[.nestMembers #[105]] #[{ accessFlags := 1, nameIndex := 5, descriptorIndex := 46, attributes := #[] }] 33 2 #[91, 113, 115] #[{ accessFlags := 26, nameIndex := 117, descriptorIndex := 118, attributes := #[] }])
  fields := #[{ name := "serialVersionUID", type := .long, accessFlags := 26, slot := 0, constantValue := 0 }]
  methods := #[k18m0]
  instanceTypes := #[(.object "java/util/HashMap")]
  staticTypes := #[.long]
  resolved := Array.replicate 163 none
  statics := none }

def pool19 : Array CpInfo := pool [(2, .class_ 4), (1, u "java/util/Map"), (31, .class_ 37), (0, u "java/util/Map$Entry"), (55, .class_ 94), (0, u "java/lang/Object")] 168

/-- java/util/Map -/
def k19 : Class := { plain "java/util/Map" (some 0) with
  accessFlags := 1537
  interfaces := #[]
  cf := some (fileOf pool19 2 #[.nestMembers #[36]] #[] 1537 93 #[] #[])
  fields := #[]
  methods := #[]
  instanceTypes := #[]
  staticTypes := #[]
  resolved := Array.replicate 263 none
  statics := none }

def pool20 : Array CpInfo := pool [(1, .methodref 2 3), (0, .class_ 4), (0, .nameAndType 5 6), (0, u "java/lang/Object"), (0, u "<init>"), (0, u "()V"), (1, .class_ 10), (1, u "java/util/AbstractMap"), (42, .class_ 54), (0, u "java/util/Map"), (9, u "keySet"), (0, u "Ljava/util/Set;"), (0, .class_ 67), (0, u "java/util/AbstractMap$1"), (5, u "values"), (0, u "Ljava/util/Collection;"), (0, .class_ 76), (0, u "java/util/AbstractMap$2"), (104, .class_ 182), (0, u "java/util/AbstractMap$ViewCollection"), (0, .class_ 184), (0, u "java/util/AbstractMap$SimpleImmutableEntry"), (0, .class_ 186), (0, u "java/util/AbstractMap$SimpleEntry"), (0, .class_ 188), (0, u "java/util/AbstractMap$2$1"), (0, .class_ 190), (0, u "java/util/AbstractMap$1$1")] 5

def k20c0 : Code := { maxStack := 1, maxLocals := 1, code := jdk_71_method_1_code, exceptionTable := #[], attributes := #[] }
def k20m0 : Method := { name := "<init>", desc := "()V", sig := { parameters := [], returnType := none }, accessFlags := 4, code := some k20c0 }
/-- java/util/AbstractMap -/
def k20 : Class := { plain "java/util/AbstractMap" (some 0) with
  accessFlags := 1057
  interfaces := #[19]
  cf := some (fileOf pool20 8 #[.nestMembers #[181, 183, 185, 75, 187, 66, 189]] #[{ accessFlags := 4, nameIndex := 5, descriptorIndex := 6, attributes := #[] }] 1057 2 #[53] #[{ accessFlags := 128, nameIndex := 64, descriptorIndex := 65, attributes := #[] }, { accessFlags := 128, nameIndex := 73, descriptorIndex := 74, attributes := #[] }])
  fields := #[{ name := "keySet", type := (.object "java/util/Set"), accessFlags := 128, slot := 0, constantValue := 0 }, { name := "values", type := (.object "java/util/Collection"), accessFlags := 128, slot := 1, constantValue := 0 }]
  methods := #[k20m0]
  instanceTypes := #[(.object "java/util/Set"), (.object "java/util/Collection")]
  staticTypes := #[]
  resolved := Array.replicate 196 none
  statics := none }

def pool21 : Array CpInfo := pool [(34, .methodref 35 36), (0, .class_ 37), (0, .nameAndType 38 39), (0, u "java/lang/Integer"), (0, u "numberOfLeadingZeros"), (0, u "(I)I"), (0, .class_ 41), (0, u "java/util/HashMap"), (0, .integer 1073741824), (0, .methodref 44 45), (0, .class_ 46), (0, .nameAndType 47 48), (0, u "java/util/AbstractMap"), (0, u "<init>"), (0, u "()V"), (21, .methodref 71 72), (0, .class_ 73), (0, .nameAndType 74 75), (0, u "java/lang/Float"), (0, u "isNaN"), (0, u "(F)Z"), (5, .fieldref 40 82), (0, .nameAndType 83 84), (0, u "loadFactor"), (0, u "F"), (0, .methodref 40 86), (0, .nameAndType 87 39), (0, u "tableSizeFor"), (0, .fieldref 40 89), (0, .nameAndType 90 91), (0, u "threshold"), (0, u "I"), (3, u "(IF)V"), (5, .class_ 103), (1, u "java/util/Map"), (0, u "size"), (2, u "table"), (0, u "[Ljava/util/HashMap$Node;"), (14, u "entrySet"), (39, .class_ 165), (1, u "java/util/HashMap$Node"), (14, .class_ 181), (0, u "java/util/HashMap$TreeNode"), (22, u "modCount"), (37, u "Ljava/util/Set;"), (0, .class_ 244), (0, u "java/util/HashMap$KeySet"), (18, .class_ 264), (0, u "java/util/HashMap$Values"), (3, .class_ 269), (0, u "java/util/HashMap$EntrySet"), (76, .class_ 348), (1, u "java/util/HashMap$UnsafeHolder"), (43, .class_ 393), (0, u "java/lang/Cloneable"), (0, .class_ 395), (0, u "java/io/Serializable"), (0, u "serialVersionUID"), (0, u "J"), (3, u "DEFAULT_INITIAL_CAPACITY"), (1, u "MAXIMUM_CAPACITY"), (0, u "DEFAULT_LOAD_FACTOR"), (0, u "TREEIFY_THRESHOLD"), (1, u "UNTREEIFY_THRESHOLD"), (1, u "MIN_TREEIFY_CAPACITY"), (186, .class_ 597), (0, u "java/util/HashMap$EntrySpliterator"), (0, .class_ 599), (0, u "java/util/HashMap$ValueSpliterator"), (0, .class_ 601), (0, u "java/util/HashMap$KeySpliterator"), (0, .class_ 603), (0, u "java/util/HashMap$HashMapSpliterator"), (0, .class_ 605), (0, u "java/util/HashMap$EntryIterator"), (0, .class_ 607), (0, u "java/util/HashMap$ValueIterator"), (0, .class_ 609), (0, u "java/util/HashMap$KeyIterator"), (0, .class_ 611), (0, u "java/util/HashMap$HashIterator")] 17

def k21c0 : Code := { maxStack := 3, maxLocals := 2, code := jdk_69_method_4_code, exceptionTable := #[], attributes := #[] }
def k21m0 : Method := { name := "tableSizeFor", desc := "(I)I", sig := { parameters := [.int], returnType := some .int }, accessFlags := 24, code := some k21c0 }
def k21c1 : Code := { maxStack := 4, maxLocals := 3, code := jdk_69_method_5_code, exceptionTable := #[], attributes := #[] }
def k21m1 : Method := { name := "<init>", desc := "(IF)V", sig := { parameters := [.int, .float], returnType := none }, accessFlags := 1, code := some k21c1 }
def k21m2 : Method := { name := "<init>", desc := "()V", sig := { parameters := [], returnType := none }, accessFlags := 1, code := none }
/-- java/util/HashMap -/
def k21 : Class := { plain "java/util/HashMap" (some 20) with
  accessFlags := 33
  interfaces := #[19, 14, 4]
  cf := some (fileOf pool21 40 #[.nestMembers #[180, 596, 598, 600, 602, 604, 606, 608, 610, 346, 268, 263, 243, 163]] #[{ accessFlags := 24, nameIndex := 87, descriptorIndex := 39, attributes := #[] }, { accessFlags := 1, nameIndex := 47, descriptorIndex := 95, attributes := #[] }, { accessFlags := 1, nameIndex := 47, descriptorIndex := 48, attributes := #[] }] 33 44 #[101, 392, 394] #[{ accessFlags := 26, nameIndex := 396, descriptorIndex := 397, attributes := #[] }, { accessFlags := 24, nameIndex := 401, descriptorIndex := 91, attributes := #[] }, { accessFlags := 24, nameIndex := 403, descriptorIndex := 91, attributes := #[] }, { accessFlags := 24, nameIndex := 404, descriptorIndex := 84, attributes := #[] }, { accessFlags := 24, nameIndex := 405, descriptorIndex := 91, attributes := #[] }, { accessFlags := 24, nameIndex := 407, descriptorIndex := 91, attributes := #[] }, { accessFlags := 24, nameIndex := 409, descriptorIndex := 91, attributes := #[] }, { accessFlags := 128, nameIndex := 107, descriptorIndex := 108, attributes := #[] }, { accessFlags := 128, nameIndex := 123, descriptorIndex := 242, attributes := #[] }, { accessFlags := 128, nameIndex := 104, descriptorIndex := 91, attributes := #[] }, { accessFlags := 128, nameIndex := 204, descriptorIndex := 91, attributes := #[] }, { accessFlags := 0, nameIndex := 90, descriptorIndex := 91, attributes := #[] }, { accessFlags := 16, nameIndex := 83, descriptorIndex := 84, attributes := #[] }])
  fields := #[{ name := "serialVersionUID", type := .long, accessFlags := 26, slot := 0, constantValue := 0 }, { name := "DEFAULT_INITIAL_CAPACITY", type := .int, accessFlags := 24, slot := 1, constantValue := 0 }, { name := "MAXIMUM_CAPACITY", type := .int, accessFlags := 24, slot := 2, constantValue := 0 }, { name := "DEFAULT_LOAD_FACTOR", type := .float, accessFlags := 24, slot := 3, constantValue := 0 }, { name := "TREEIFY_THRESHOLD", type := .int, accessFlags := 24, slot := 4, constantValue := 0 }, { name := "UNTREEIFY_THRESHOLD", type := .int, accessFlags := 24, slot := 5, constantValue := 0 }, { name := "MIN_TREEIFY_CAPACITY", type := .int, accessFlags := 24, slot := 6, constantValue := 0 }, { name := "table", type := (.array (.object "java/util/HashMap$Node")), accessFlags := 128, slot := 2, constantValue := 0 }, { name := "entrySet", type := (.object "java/util/Set"), accessFlags := 128, slot := 3, constantValue := 0 }, { name := "size", type := .int, accessFlags := 128, slot := 4, constantValue := 0 }, { name := "modCount", type := .int, accessFlags := 128, slot := 5, constantValue := 0 }, { name := "threshold", type := .int, accessFlags := 0, slot := 6, constantValue := 0 }, { name := "loadFactor", type := .float, accessFlags := 16, slot := 7, constantValue := 0 }]
  methods := #[k21m0, k21m1, k21m2]
  instanceTypes := #[(.object "java/util/Set"), (.object "java/util/Collection"), (.array (.object "java/util/HashMap$Node")), (.object "java/util/Set"), .int, .int, .int, .float]
  staticTypes := #[.long, .int, .int, .float, .int, .int, .int]
  resolved := Array.replicate 629 none
  statics := none }

def pool22 : Array CpInfo := pool [(2, .class_ 4), (1, u "java/util/SequencedMap"), (38, .class_ 44), (0, u "java/util/SequencedMap$1SeqKeySet"), (3, .class_ 49), (0, u "java/util/SequencedMap$1SeqValues"), (1, .class_ 52), (0, u "java/util/SequencedMap$1SeqEntrySet"), (1, .class_ 55), (0, u "java/lang/Object"), (0, .class_ 57), (0, u "java/util/Map")] 48

/-- java/util/SequencedMap -/
def k22 : Class := { plain "java/util/SequencedMap" (some 0) with
  accessFlags := 1537
  interfaces := #[19]
  cf := some (fileOf pool22 2 #[.nestMembers #[51, 48, 43]] #[] 1537 54 #[56] #[])
  fields := #[]
  methods := #[]
  instanceTypes := #[]
  staticTypes := #[]
  resolved := Array.replicate 106 none
  statics := none }

def pool23 : Array CpInfo := pool [(1, .fieldref 2 3), (0, .class_ 4), (0, .nameAndType 5 6), (0, u "java/util/LinkedHashMap"), (0, u "putMode"), (0, u "I"), (2, u "head"), (0, u "Ljava/util/LinkedHashMap$Entry;"), (2, u "tail"), (1, .class_ 17), (1, u "java/util/LinkedHashMap$Entry"), (5, .class_ 25), (1, u "java/util/HashMap"), (1, u "()V"), (2, u "<init>"), (33, .fieldref 2 65), (0, .nameAndType 66 67), (0, u "accessOrder"), (0, u "Z"), (13, .methodref 23 82), (0, .nameAndType 30 83), (0, u "(IF)V"), (37, .class_ 122), (0, u "java/util/LinkedHashMap$LinkedKeySet"), (20, .class_ 144), (0, u "java/util/LinkedHashMap$LinkedValues"), (9, .class_ 155), (0, u "java/util/LinkedHashMap$LinkedEntrySet"), (44, .class_ 201), (0, u "java/util/LinkedHashMap$ReversedLinkedHashMapView"), (3, .class_ 206), (0, u "java/util/SequencedMap"), (0, u "serialVersionUID"), (0, u "J"), (5, u "PUT_NORM"), (1, u "PUT_FIRST"), (1, u "PUT_LAST"), (143, .class_ 363), (0, u "java/util/LinkedHashMap$LinkedEntryIterator"), (0, .class_ 365), (0, u "java/util/LinkedHashMap$LinkedValueIterator"), (0, .class_ 367), (0, u "java/util/LinkedHashMap$LinkedKeyIterator"), (0, .class_ 369), (0, u "java/util/LinkedHashMap$LinkedHashIterator")] 16

def k23c0 : Code := { maxStack := 3, maxLocals := 3, code := jdk_94_method_14_code, exceptionTable := #[], attributes := #[] }
def k23m0 : Method := { name := "<init>", desc := "(IF)V", sig := { parameters := [.int, .float], returnType := none }, accessFlags := 1, code := some k23c0 }
def k23m1 : Method := { name := "<init>", desc := "()V", sig := { parameters := [], returnType := none }, accessFlags := 1, code := none }
/-- java/util/LinkedHashMap -/
def k23 : Class := { plain "java/util/LinkedHashMap" (some 21) with
  accessFlags := 33
  interfaces := #[22]
  cf := some (fileOf pool23 2 #[.nestMembers #[200, 362, 364, 366, 368, 154, 143, 121, 15]] #[{ accessFlags := 1, nameIndex := 30, descriptorIndex := 83, attributes := #[] }, { accessFlags := 1, nameIndex := 30, descriptorIndex := 27, attributes := #[] }] 33 23 #[205] #[{ accessFlags := 26, nameIndex := 207, descriptorIndex := 208, attributes := #[] }, { accessFlags := 128, nameIndex := 9, descriptorIndex := 10, attributes := #[] }, { accessFlags := 128, nameIndex := 13, descriptorIndex := 10, attributes := #[] }, { accessFlags := 16, nameIndex := 66, descriptorIndex := 67, attributes := #[] }, { accessFlags := 24, nameIndex := 214, descriptorIndex := 6, attributes := #[] }, { accessFlags := 24, nameIndex := 216, descriptorIndex := 6, attributes := #[] }, { accessFlags := 24, nameIndex := 218, descriptorIndex := 6, attributes := #[] }, { accessFlags := 128, nameIndex := 5, descriptorIndex := 6, attributes := #[] }])
  fields := #[{ name := "serialVersionUID", type := .long, accessFlags := 26, slot := 0, constantValue := 0 }, { name := "head", type := (.object "java/util/LinkedHashMap$Entry"), accessFlags := 128, slot := 8, constantValue := 0 }, { name := "tail", type := (.object "java/util/LinkedHashMap$Entry"), accessFlags := 128, slot := 9, constantValue := 0 }, { name := "accessOrder", type := .boolean, accessFlags := 16, slot := 10, constantValue := 0 }, { name := "PUT_NORM", type := .int, accessFlags := 24, slot := 1, constantValue := 0 }, { name := "PUT_FIRST", type := .int, accessFlags := 24, slot := 2, constantValue := 0 }, { name := "PUT_LAST", type := .int, accessFlags := 24, slot := 3, constantValue := 0 }, { name := "putMode", type := .int, accessFlags := 128, slot := 11, constantValue := 0 }]
  methods := #[k23m0, k23m1]
  instanceTypes := #[(.object "java/util/Set"), (.object "java/util/Collection"), (.array (.object "java/util/HashMap$Node")), (.object "java/util/Set"), .int, .int, .int, .float, (.object "java/util/LinkedHashMap$Entry"), (.object "java/util/LinkedHashMap$Entry"), .boolean, .int]
  staticTypes := #[.long, .int, .int, .int]
  resolved := Array.replicate 386 none
  statics := none }

def pool24 : Array CpInfo := pool [(2, .class_ 4), (1, u "java/lang/Object"), (0, u "<init>"), (0, u "()V"), (1, .class_ 10), (1, u "java/lang/Number"), (2, .class_ 14), (0, u "java/io/Serializable"), (0, u "serialVersionUID"), (0, u "J")] 20

def k24m0 : Method := { name := "<init>", desc := "()V", sig := { parameters := [], returnType := none }, accessFlags := 1, code := none }
/-- java/lang/Number -/
def k24 : Class := { plain "java/lang/Number" (some 0) with
  accessFlags := 1057
  interfaces := #[4]
  cf := some (fileOf pool24 8 #[] #[{ accessFlags := 1, nameIndex := 5, descriptorIndex := 6, attributes := #[] }] 1057 2 #[13] #[{ accessFlags := 26, nameIndex := 15, descriptorIndex := 16, attributes := #[] }])
  fields := #[{ name := "serialVersionUID", type := .long, accessFlags := 26, slot := 0, constantValue := 0 }]
  methods := #[k24m0]
  instanceTypes := #[]
  staticTypes := #[.long]
  resolved := Array.replicate 37 none
  statics := none }

def pool25 : Array CpInfo := pool [(1, .class_ 2), (0, u "java/lang/constant/ConstantDesc"), (0, .class_ 4), (0, u "java/lang/Object")] 32

/-- java/lang/constant/ConstantDesc -/
def k25 : Class := { plain "java/lang/constant/ConstantDesc" (some 0) with
  accessFlags := 1537
  interfaces := #[]
  cf := some (fileOf pool25 1 #[] #[] 1537 3 #[] #[])
  fields := #[]
  methods := #[]
  instanceTypes := #[]
  staticTypes := #[]
  resolved := Array.replicate 37 none
  statics := none }

def pool26 : Array CpInfo := pool [(1, .class_ 2), (0, u "java/lang/Float"), (48, .class_ 53), (1, u "java/lang/Number"), (3, u "value"), (0, u "F"), (2, u "isNaN"), (0, u "(F)Z"), (28, u "$assertionsDisabled"), (0, u "Z"), (52, u "TYPE"), (0, u "Ljava/lang/Class;"), (0, .class_ 148), (0, u "java/lang/Comparable"), (0, .class_ 150), (0, u "java/lang/constant/Constable"), (0, .class_ 152), (0, u "java/lang/constant/ConstantDesc"), (0, u "POSITIVE_INFINITY"), (1, u "NEGATIVE_INFINITY"), (1, u "NaN"), (1, u "MAX_VALUE"), (0, u "MIN_NORMAL"), (0, u "MIN_VALUE"), (1, u "SIZE"), (0, u "I"), (1, u "PRECISION"), (1, u "MAX_EXPONENT"), (1, u "MIN_EXPONENT"), (1, u "BYTES"), (3, u "serialVersionUID"), (0, u "J")] 101

def k26c0 : Code := { maxStack := 2, maxLocals := 1, code := jdk_118_method_6_code, exceptionTable := #[], attributes := #[] }
def k26m0 : Method := { name := "isNaN", desc := "(F)Z", sig := { parameters := [.float], returnType := some .boolean }, accessFlags := 9, code := some k26c0 }
/-- java/lang/Float -/
def k26 : Class := { plain "java/lang/Float" (some 24) with
  accessFlags := 49
  interfaces := #[3, 2, 25]
  cf := some (fileOf pool26 1 #[] #[{ accessFlags := 9, nameIndex := 61, descriptorIndex := 62, attributes := #[] }] 49 51 #[147, 149, 151] #[{ accessFlags := 25, nameIndex := 153, descriptorIndex := 58, attributes := #[] }, { accessFlags := 25, nameIndex := 155, descriptorIndex := 58, attributes := #[] }, { accessFlags := 25, nameIndex := 157, descriptorIndex := 58, attributes := #[] }, { accessFlags := 25, nameIndex := 159, descriptorIndex := 58, attributes := #[] }, { accessFlags := 25, nameIndex := 160, descriptorIndex := 58, attributes := #[] }, { accessFlags := 25, nameIndex := 161, descriptorIndex := 58, attributes := #[] }, { accessFlags := 25, nameIndex := 163, descriptorIndex := 164, attributes := #[] }, { accessFlags := 25, nameIndex := 166, descriptorIndex := 164, attributes := #[] }, { accessFlags := 25, nameIndex := 168, descriptorIndex := 164, attributes := #[] }, { accessFlags := 25, nameIndex := 170, descriptorIndex := 164, attributes := #[] }, { accessFlags := 25, nameIndex := 172, descriptorIndex := 164, attributes := #[] }, { accessFlags := 25, nameIndex := 145, descriptorIndex := 146, attributes := #[] }, { accessFlags := 18, nameIndex := 57, descriptorIndex := 58, attributes := #[] }, { accessFlags := 26, nameIndex := 176, descriptorIndex := 177, attributes := #[] }, { accessFlags := 4120, nameIndex := 91, descriptorIndex := 92, attributes := #[] }])
  fields := #[{ name := "POSITIVE_INFINITY", type := .float, accessFlags := 25, slot := 0, constantValue := 0 }, { name := "NEGATIVE_INFINITY", type := .float, accessFlags := 25, slot := 1, constantValue := 0 }, { name := "NaN", type := .float, accessFlags := 25, slot := 2, constantValue := 0 }, { name := "MAX_VALUE", type := .float, accessFlags := 25, slot := 3, constantValue := 0 }, { name := "MIN_NORMAL", type := .float, accessFlags := 25, slot := 4, constantValue := 0 }, { name := "MIN_VALUE", type := .float, accessFlags := 25, slot := 5, constantValue := 0 }, { name := "SIZE", type := .int, accessFlags := 25, slot := 6, constantValue := 0 }, { name := "PRECISION", type := .int, accessFlags := 25, slot := 7, constantValue := 0 }, { name := "MAX_EXPONENT", type := .int, accessFlags := 25, slot := 8, constantValue := 0 }, { name := "MIN_EXPONENT", type := .int, accessFlags := 25, slot := 9, constantValue := 0 }, { name := "BYTES", type := .int, accessFlags := 25, slot := 10, constantValue := 0 }, { name := "TYPE", type := (.object "java/lang/Class"), accessFlags := 25, slot := 11, constantValue := 0 }, { name := "value", type := .float, accessFlags := 18, slot := 0, constantValue := 0 }, { name := "serialVersionUID", type := .long, accessFlags := 26, slot := 12, constantValue := 0 }, { name := "$assertionsDisabled", type := .boolean, accessFlags := 4120, slot := 13, constantValue := 0 }]
  methods := #[k26m0]
  instanceTypes := #[.float]
  staticTypes := #[.float, .float, .float, .float, .float, .float, .int, .int, .int, .int, .int, (.object "java/lang/Class"), .long, .boolean]
  resolved := Array.replicate 279 none
  statics := none }

def pool27 : Array CpInfo := pool [(1, .class_ 2), (0, u "java/lang/Integer"), (16, u "digits"), (0, u "[C"), (32, u "numberOfLeadingZeros"), (0, u "(I)I"), (30, u "DigitOnes"), (0, u "[B"), (2, u "DigitTens"), (99, .class_ 190), (0, u "java/lang/Integer$IntegerCache"), (3, u "I"), (8, .class_ 204), (0, u "java/lang/Number"), (2, u "value"), (56, .integer 65536), (37, u "TYPE"), (0, u "Ljava/lang/Class;"), (0, .class_ 305), (0, u "java/lang/Comparable"), (0, .class_ 307), (0, u "java/lang/constant/Constable"), (0, .class_ 309), (0, u "java/lang/constant/ConstantDesc"), (0, u "MIN_VALUE"), (1, u "MAX_VALUE"), (3, u "SIZE"), (1, u "BYTES"), (1, u "serialVersionUID"), (0, u "J")] 131

def k27c0 : Code := { maxStack := 3, maxLocals := 2, code := jdk_33_method_47_code, exceptionTable := #[], attributes := #[] }
def k27m0 : Method := { name := "numberOfLeadingZeros", desc := "(I)I", sig := { parameters := [.int], returnType := some .int }, accessFlags := 9, code := some k27c0 }
/-- java/lang/Integer -/
def k27 : Class := { plain "java/lang/Integer" (some 24) with
  accessFlags := 49
  interfaces := #[3, 2, 25]
  cf := some (fileOf pool27 1 #[.nestMembers #[189]] #[{ accessFlags := 9, nameIndex := 53, descriptorIndex := 54, attributes := #[] }] 49 203 #[304, 306, 308] #[{ accessFlags := 25, nameIndex := 310, descriptorIndex := 194, attributes := #[] }, { accessFlags := 25, nameIndex := 312, descriptorIndex := 194, attributes := #[] }, { accessFlags := 25, nameIndex := 302, descriptorIndex := 303, attributes := #[] }, { accessFlags := 24, nameIndex := 19, descriptorIndex := 20, attributes := #[] }, { accessFlags := 24, nameIndex := 89, descriptorIndex := 86, attributes := #[] }, { accessFlags := 24, nameIndex := 85, descriptorIndex := 86, attributes := #[] }, { accessFlags := 18, nameIndex := 207, descriptorIndex := 194, attributes := #[] }, { accessFlags := 25, nameIndex := 316, descriptorIndex := 194, attributes := #[] }, { accessFlags := 25, nameIndex := 318, descriptorIndex := 194, attributes := #[] }, { accessFlags := 26, nameIndex := 320, descriptorIndex := 321, attributes := #[] }])
  fields := #[{ name := "MIN_VALUE", type := .int, accessFlags := 25, slot := 0, constantValue := 0 }, { name := "MAX_VALUE", type := .int, accessFlags := 25, slot := 1, constantValue := 0 }, { name := "TYPE", type := (.object "java/lang/Class"), accessFlags := 25, slot := 2, constantValue := 0 }, { name := "digits", type := (.array .char), accessFlags := 24, slot := 3, constantValue := 0 }, { name := "DigitTens", type := (.array .byte), accessFlags := 24, slot := 4, constantValue := 0 }, { name := "DigitOnes", type := (.array .byte), accessFlags := 24, slot := 5, constantValue := 0 }, { name := "value", type := .int, accessFlags := 18, slot := 0, constantValue := 0 }, { name := "SIZE", type := .int, accessFlags := 25, slot := 6, constantValue := 0 }, { name := "BYTES", type := .int, accessFlags := 25, slot := 7, constantValue := 0 }, { name := "serialVersionUID", type := .long, accessFlags := 26, slot := 8, constantValue := 0 }]
  methods := #[k27m0]
  instanceTypes := #[.int]
  staticTypes := #[.int, .int, (.object "java/lang/Class"), (.array .char), (.array .byte), (.array .byte), .int, .int, .long]
  resolved := Array.replicate 453 none
  statics := none }

def pool28 : Array CpInfo := pool [(2, .class_ 4), (1, u "java/lang/CharSequence"), (42, .class_ 48), (0, u "java/lang/CharSequence$1CodePointIterator"), (10, .class_ 60), (0, u "java/lang/CharSequence$1CharIterator"), (5, .class_ 67), (0, u "java/lang/Object")] 63

/-- java/lang/CharSequence -/
def k28 : Class := { plain "java/lang/CharSequence" (some 0) with
  accessFlags := 1537
  interfaces := #[]
  cf := some (fileOf pool28 2 #[.nestMembers #[47, 59]] #[] 1537 66 #[] #[])
  fields := #[]
  methods := #[]
  instanceTypes := #[]
  staticTypes := #[]
  resolved := Array.replicate 131 none
  statics := none }

def pool29 : Array CpInfo := pool [(2, .class_ 4), (1, u "java/lang/Object"), (0, u "<init>"), (0, u "()V"), (3, .class_ 12), (1, u "java/lang/String"), (0, u "value"), (0, u "[B"), (2, u "coder"), (0, u "B"), (2, u "hash"), (0, u "I"), (2, u "hashIsZero"), (0, u "Z"), (13, u "COMPACT_STRINGS"), (534, .class_ 576), (0, u "java/lang/CharSequence"), (22, u "CASE_INSENSITIVE_ORDER"), (0, u "Ljava/util/Comparator;"), (500, u "serialPersistentFields"), (0, u "[Ljava/io/ObjectStreamField;"), (0, .class_ 1104), (0, u "java/lang/String$CaseInsensitiveComparator"), (1, .class_ 1107), (0, u "java/io/Serializable"), (0, .class_ 1109), (0, u "java/lang/Comparable"), (0, .class_ 1111), (0, u "java/lang/constant/Constable"), (0, .class_ 1113), (0, u "java/lang/constant/ConstantDesc"), (2, u "serialVersionUID"), (0, u "J"), (3, u "REPL"), (0, u "C"), (2, u "LATIN1"), (1, u "UTF16")] 323

def k29m0 : Method := { name := "<init>", desc := "()V", sig := { parameters := [], returnType := none }, accessFlags := 1, code := none }
/-- java/lang/String -/
def k29 : Class := { plain "java/lang/String" (some 0) with
  accessFlags := 49
  interfaces := #[4, 3, 28, 2, 25]
  cf := some (fileOf pool29 10 #[.nestMembers #[1103]] #[{ accessFlags := 1, nameIndex := 5, descriptorIndex := 6, attributes := #[] }] 49 2 #[1106, 1108, 575, 1110, 1112] #[{ accessFlags := 18, nameIndex := 13, descriptorIndex := 14, attributes := #[] }, { accessFlags := 18, nameIndex := 17, descriptorIndex := 18, attributes := #[] }, { accessFlags := 2, nameIndex := 21, descriptorIndex := 22, attributes := #[] }, { accessFlags := 2, nameIndex := 25, descriptorIndex := 26, attributes := #[] }, { accessFlags := 26, nameIndex := 1116, descriptorIndex := 1117, attributes := #[] }, { accessFlags := 24, nameIndex := 40, descriptorIndex := 26, attributes := #[] }, { accessFlags := 26, nameIndex := 1101, descriptorIndex := 1102, attributes := #[] }, { accessFlags := 26, nameIndex := 1121, descriptorIndex := 1122, attributes := #[] }, { accessFlags := 25, nameIndex := 599, descriptorIndex := 600, attributes := #[] }, { accessFlags := 24, nameIndex := 1125, descriptorIndex := 18, attributes := #[] }, { accessFlags := 24, nameIndex := 1127, descriptorIndex := 18, attributes := #[] }])
  fields := #[{ name := "value", type := (.array .byte), accessFlags := 18, slot := 0, constantValue := 0 }, { name := "coder", type := .byte, accessFlags := 18, slot := 1, constantValue := 0 }, { name := "hash", type := .int, accessFlags := 2, slot := 2, constantValue := 0 }, { name := "hashIsZero", type := .boolean, accessFlags := 2, slot := 3, constantValue := 0 }, { name := "serialVersionUID", type := .long, accessFlags := 26, slot := 0, constantValue := 0 }, { name := "COMPACT_STRINGS", type := .boolean, accessFlags := 24, slot := 1, constantValue := 0 }, { name := "serialPersistentFields", type := (.array (.object "java/io/ObjectStreamField")), accessFlags := 26, slot := 2, constantValue := 0 }, { name := "REPL", type := .char, accessFlags := 26, slot := 3, constantValue := 0 }, { name := "CASE_INSENSITIVE_ORDER", type := (.object "java/util/Comparator"), accessFlags := 25, slot := 4, constantValue := 0 }, { name := "LATIN1", type := .byte, accessFlags := 24, slot := 5, constantValue := 0 }, { name := "UTF16", type := .byte, accessFlags := 24, slot := 6, constantValue := 0 }]
  methods := #[k29m0]
  instanceTypes := #[(.array .byte), .byte, .int, .boolean]
  staticTypes := #[.long, .boolean, (.array (.object "java/io/ObjectStreamField")), .char, (.object "java/util/Comparator"), .byte, .byte]
  resolved := Array.replicate 1451 none
  statics := none }

def pool30 : Array CpInfo := pool [(2, .class_ 4), (1, u "java/lang/Object"), (0, u "<init>"), (0, u "()V"), (35, .class_ 44), (1, u "java/util/Objects"), (0, u "requireNonNull"), (48, u "(Ljava/lang/Object;Ljava/lang/String;)Ljava/lang/Object;")] 89

def k30m0 : Method := { name := "<init>", desc := "()V", sig := { parameters := [], returnType := none }, accessFlags := 2, code := none }
def k30c1 : Code := { maxStack := 3, maxLocals := 2, code := jdk_31_method_11_code, exceptionTable := #[], attributes := #[] }
def k30m1 : Method := { name := "requireNonNull", desc := "(Ljava/lang/Object;Ljava/lang/String;)Ljava/lang/Object;", sig := { parameters := [(.object "java/lang/Object"), (.object "java/lang/String")], returnType := some (.object "java/lang/Object") }, accessFlags := 9, code := some k30c1 }
/-- java/util/Objects -/
def k30 : Class := { plain "java/util/Objects" (some 0) with
  accessFlags := 49
  interfaces := #[]
  cf := some (fileOf pool30 42 #[] #[{ accessFlags := 2, nameIndex := 5, descriptorIndex := 6, attributes := #[] }, { accessFlags := 9, nameIndex := 45, descriptorIndex := 94, attributes := #[] }] 49 2 #[] #[])
  fields := #[]
  methods := #[k30m0, k30m1]
  instanceTypes := #[]
  staticTypes := #[]
  resolved := Array.replicate 184 none
  statics := none }

/-- the primitive byte -/
def k31 : Class := { plain "byte" none with kind := .primitive 'B', accessFlags := 0x411 }
/-- [B -/
def k32 : Class := { plain "[B" (some 0) with kind := .array 31 .byte, interfaces := #[14, 4], accessFlags := 1041 }

/-- the primitive int -/
def k33 : Class := { plain "int" none with kind := .primitive 'I', accessFlags := 0x411 }
/-- [I -/
def k34 : Class := { plain "[I" (some 0) with kind := .array 33 .int, interfaces := #[14, 4], accessFlags := 1041 }

def heap : Heap := #[{ cls := 6, slots := #[.ref 1, .ref 2, .null], vm := .statics 6 },
  { cls := 6, slots := #[.null, .int 0, .int 0], vm := .none },
  { cls := 6, slots := #[.null, .int 0, .int 0], vm := .none }]
def classes : Array Class := #[k0, k1, k2, k3, k4, k5, k6, k7, k8, k9, k10, k11, k12, k13, k14, k15, k16, k17, k18, k19, k20, k21, k22, k23, k24, k25, k26, k27, k28, k29, k30, k31, k32, k33, k34]
def interned : List (Array UInt16 × Addr) := []
def slotsUsed : Nat := 9
def theMethod : MethodId := ⟨1, 2⟩
def args0 : Array Value := #[.int 5, .int 2]
def aboutOver (below : List Frame) : State where
  vm := { classes := classes, interned := interned.toArray }
  heap := heap
  slotsUsed := slotsUsed
  threads := #[{ frames := .invoking theMethod args0 :: below }]
def below0 : List Frame := [.native { method := ⟨0, 0⟩, args := #[] }]
def about1 : State := aboutOver below0
def p0 : Program := .bare "" "" ""
def e0 : Env := launch0.env 0 0 0
theorem w_frames : about1.frames = Frame.invoking theMethod args0 :: below0 := rfl
set_option maxRecDepth 65536 in
theorem w_args : argsFit about1.vm theMethod args0 = true := by decide +kernel
set_option maxRecDepth 65536 in
theorem w_heap : heapFits about1 = true := by decide +kernel
set_option maxRecDepth 65536 in
theorem w_runnable : about1.curStatus? = some .runnable := by decide +kernel
set_option maxRecDepth 65536 in
theorem w_alone : about1.alone = true := by decide +kernel
set_option maxRecDepth 65536 in
theorem w_named : about1.methodNamed? x = some theMethod := by decide +kernel
set_option maxRecDepth 65536 in
theorem w_hears : about1.hears theMethod below0 = true := by decide +kernel
set_option maxRecDepth 65536 in
theorem w_ripe : about1.ripe theMethod args0 below0 = true := by decide +kernel
theorem w_running : about1.status = .running := rfl
set_option maxRecDepth 65536 in
theorem w_room : about1.hasRoom e0.platform room_1 = true :=
  launch0.hasRoom_least _ room_1 (by decide +kernel) (by decide +kernel) (by decide +kernel) (by decide +kernel) (by decide +kernel) (by decide +kernel)
theorem allAtoms_all (ts : List Jvm.Cond) (a : Array Jvm.Value) (st : Jvm.State) : (allAtoms ts).before a st = ts.all (fun c => c.before a st) := by
  induction ts with
  | nil => rfl
  | cons c t ih =>
    show (Jvm.Cond.and c (allAtoms t)).before a st = _
    rw [Jvm.Cond.before_and, ih, List.all_cons]
def words1 : List Jvm.Cond := Jvm.Cond.code x code maxLocals ret :: tables_1
/-- a 'code' word, met by the world's own term for the bytes: nothing is compared byte by byte -/
theorem code_word {y : MethodName} {bytes : ByteArray} {mx : Nat} {rt : Option FieldType} {a : Array Value} {s : State} {m : MethodId} {meth : Method} {c : Code} (h1 : s.methodNamed? y = some m) (h2 : s.vm.method? m = some meth) (h3 : meth.code = some c) (h4 : c.code = bytes)
    (h5 : (c.maxLocals == mx && c.exceptionTable.isEmpty && decide (c.maxStack ≤ mostOperands) && decide (meth.sig.returnType = rt) && !meth.locks && decide (parseMethodDescriptor y.desc = some meth.sig)) = true) : (Jvm.Cond.code y bytes mx rt).before a s = true := by
  simp only [Bool.and_eq_true, beq_iff_eq, Bool.not_eq_true', decide_eq_true_eq] at h5
  obtain ⟨⟨⟨⟨⟨g1, g2⟩, g3⟩, g4⟩, g5⟩, g6⟩ := h5
  simp [Cond.before, Cond.holds, Cond.value, h1, h2, h3, h4, g1, g2, g3, g4, g5, g6]
def isCode : Jvm.Cond → Bool
  | .code _ _ _ _ => true
  | _ => false
theorem all_split {L : List Jvm.Cond} {P : Jvm.Cond → Bool} (h1 : L.all (fun c => isCode c || P c) = true) (h2 : ∀ c ∈ L.filter isCode, P c = true) : L.all P = true := by
  refine List.all_eq_true.mpr fun c hc => ?_
  have h := List.all_eq_true.mp h1 c hc
  rcases Bool.eq_false_or_eq_true (isCode c) with hi | hi
  · exact h2 c (List.mem_filter.mpr ⟨hc, hi⟩)
  · simpa [hi] using h
set_option maxRecDepth 65536 in
theorem w_c0 : (Jvm.Cond.code x code maxLocals ret).before args0 about1 = true := code_word (m := ⟨1, 2⟩) (meth := k1m2) (c := k1c2) (by decide +kernel) rfl rfl rfl (by decide +kernel)
set_option maxRecDepth 65536 in
theorem w_c1 : (Jvm.Cond.code ({ cls := "com/example/hafiza/hafiza/StoreConfigSetDurabilityPinLaw", name := "pick", desc := "(I)Lcom/example/hafiza/hafiza/Durability;" } : Jvm.MethodName) method_2_code (1 : Nat) (Option.some (Jvm.ClassFile.FieldType.object "com/example/hafiza/hafiza/Durability"))).before args0 about1 = true := code_word (m := ⟨1, 1⟩) (meth := k1m1) (c := k1c1) (by decide +kernel) rfl rfl rfl (by decide +kernel)
set_option maxRecDepth 65536 in
theorem w_c2 : (Jvm.Cond.code ({ cls := "com/example/hafiza/hafiza/StoreConfig", name := "<init>", desc := "()V" } : Jvm.MethodName) prog_24_method_1_code (1 : Nat) (Option.none : Option Jvm.ClassFile.FieldType)).before args0 about1 = true := code_word (m := ⟨7, 0⟩) (meth := k7m0) (c := k7c0) (by decide +kernel) rfl rfl rfl (by decide +kernel)
set_option maxRecDepth 65536 in
theorem w_c3 : (Jvm.Cond.code ({ cls := "java/lang/Object", name := "<init>", desc := "()V" } : Jvm.MethodName) object_method_1_code (1 : Nat) (Option.none : Option Jvm.ClassFile.FieldType)).before args0 about1 = true := code_word (m := ⟨0, 0⟩) (meth := k0m0) (c := k0c0) (by decide +kernel) rfl rfl rfl (by decide +kernel)
set_option maxRecDepth 65536 in
theorem w_c4 : (Jvm.Cond.code ({ cls := "com/example/hafiza/hafiza/Mutations", name := "<init>", desc := "()V" } : Jvm.MethodName) prog_16_method_1_code (1 : Nat) (Option.none : Option Jvm.ClassFile.FieldType)).before args0 about1 = true := code_word (m := ⟨8, 0⟩) (meth := k8m0) (c := k8c0) (by decide +kernel) rfl rfl rfl (by decide +kernel)
set_option maxRecDepth 65536 in
theorem w_c5 : (Jvm.Cond.code ({ cls := "java/util/LinkedHashSet", name := "<init>", desc := "()V" } : Jvm.MethodName) jdk_2620_method_3_code (1 : Nat) (Option.none : Option Jvm.ClassFile.FieldType)).before args0 about1 = true := code_word (m := ⟨18, 0⟩) (meth := k18m0) (c := k18c0) (by decide +kernel) rfl rfl rfl (by decide +kernel)
set_option maxRecDepth 65536 in
theorem w_c6 : (Jvm.Cond.code ({ cls := "java/util/HashSet", name := "<init>", desc := "(IFZ)V" } : Jvm.MethodName) jdk_93_method_5_code (4 : Nat) (Option.none : Option Jvm.ClassFile.FieldType)).before args0 about1 = true := code_word (m := ⟨15, 1⟩) (meth := k15m1) (c := k15c1) (by decide +kernel) rfl rfl rfl (by decide +kernel)
set_option maxRecDepth 65536 in
theorem w_c7 : (Jvm.Cond.code ({ cls := "java/util/AbstractSet", name := "<init>", desc := "()V" } : Jvm.MethodName) jdk_91_method_1_code (1 : Nat) (Option.none : Option Jvm.ClassFile.FieldType)).before args0 about1 = true := code_word (m := ⟨13, 0⟩) (meth := k13m0) (c := k13c0) (by decide +kernel) rfl rfl rfl (by decide +kernel)
set_option maxRecDepth 65536 in
theorem w_c8 : (Jvm.Cond.code ({ cls := "java/util/AbstractCollection", name := "<init>", desc := "()V" } : Jvm.MethodName) jdk_22_method_1_code (1 : Nat) (Option.none : Option Jvm.ClassFile.FieldType)).before args0 about1 = true := code_word (m := ⟨11, 0⟩) (meth := k11m0) (c := k11c0) (by decide +kernel) rfl rfl rfl (by decide +kernel)
set_option maxRecDepth 65536 in
theorem w_c9 : (Jvm.Cond.code ({ cls := "java/util/LinkedHashMap", name := "<init>", desc := "(IF)V" } : Jvm.MethodName) jdk_94_method_14_code (3 : Nat) (Option.none : Option Jvm.ClassFile.FieldType)).before args0 about1 = true := code_word (m := ⟨23, 0⟩) (meth := k23m0) (c := k23c0) (by decide +kernel) rfl rfl rfl (by decide +kernel)
set_option maxRecDepth 65536 in
theorem w_c10 : (Jvm.Cond.code ({ cls := "java/util/HashMap", name := "<init>", desc := "(IF)V" } : Jvm.MethodName) jdk_69_method_5_code (3 : Nat) (Option.none : Option Jvm.ClassFile.FieldType)).before args0 about1 = true := code_word (m := ⟨21, 1⟩) (meth := k21m1) (c := k21c1) (by decide +kernel) rfl rfl rfl (by decide +kernel)
set_option maxRecDepth 65536 in
theorem w_c11 : (Jvm.Cond.code ({ cls := "java/util/AbstractMap", name := "<init>", desc := "()V" } : Jvm.MethodName) jdk_71_method_1_code (1 : Nat) (Option.none : Option Jvm.ClassFile.FieldType)).before args0 about1 = true := code_word (m := ⟨20, 0⟩) (meth := k20m0) (c := k20c0) (by decide +kernel) rfl rfl rfl (by decide +kernel)
set_option maxRecDepth 65536 in
theorem w_c12 : (Jvm.Cond.code ({ cls := "java/lang/Float", name := "isNaN", desc := "(F)Z" } : Jvm.MethodName) jdk_118_method_6_code (1 : Nat) (Option.some Jvm.ClassFile.FieldType.boolean)).before args0 about1 = true := code_word (m := ⟨26, 0⟩) (meth := k26m0) (c := k26c0) (by decide +kernel) rfl rfl rfl (by decide +kernel)
set_option maxRecDepth 65536 in
theorem w_c13 : (Jvm.Cond.code ({ cls := "java/util/HashMap", name := "tableSizeFor", desc := "(I)I" } : Jvm.MethodName) jdk_69_method_4_code (2 : Nat) (Option.some Jvm.ClassFile.FieldType.int)).before args0 about1 = true := code_word (m := ⟨21, 0⟩) (meth := k21m0) (c := k21c0) (by decide +kernel) rfl rfl rfl (by decide +kernel)
set_option maxRecDepth 65536 in
theorem w_c14 : (Jvm.Cond.code ({ cls := "java/lang/Integer", name := "numberOfLeadingZeros", desc := "(I)I" } : Jvm.MethodName) jdk_33_method_47_code (2 : Nat) (Option.some Jvm.ClassFile.FieldType.int)).before args0 about1 = true := code_word (m := ⟨27, 0⟩) (meth := k27m0) (c := k27c0) (by decide +kernel) rfl rfl rfl (by decide +kernel)
set_option maxRecDepth 65536 in
theorem w_c15 : (Jvm.Cond.code ({ cls := "com/example/hafiza/hafiza/StoreConfig", name := "getMutations", desc := "()Lcom/example/hafiza/hafiza/Mutations;" } : Jvm.MethodName) prog_24_method_7_code (1 : Nat) (Option.some (Jvm.ClassFile.FieldType.object "com/example/hafiza/hafiza/Mutations"))).before args0 about1 = true := code_word (m := ⟨7, 3⟩) (meth := k7m3) (c := k7c3) (by decide +kernel) rfl rfl rfl (by decide +kernel)
set_option maxRecDepth 65536 in
theorem w_c16 : (Jvm.Cond.code ({ cls := "com/example/hafiza/hafiza/StoreConfig", name := "getDurability", desc := "()Lcom/example/hafiza/hafiza/Durability;" } : Jvm.MethodName) prog_24_method_9_code (1 : Nat) (Option.some (Jvm.ClassFile.FieldType.object "com/example/hafiza/hafiza/Durability"))).before args0 about1 = true := code_word (m := ⟨7, 5⟩) (meth := k7m5) (c := k7c5) (by decide +kernel) rfl rfl rfl (by decide +kernel)
set_option maxRecDepth 65536 in
theorem w_c17 : (Jvm.Cond.code ({ cls := "com/example/hafiza/hafiza/StoreConfig", name := "setDurability", desc := "(Lcom/example/hafiza/hafiza/Durability;)V" } : Jvm.MethodName) prog_24_method_8_code (2 : Nat) (Option.none : Option Jvm.ClassFile.FieldType)).before args0 about1 = true := code_word (m := ⟨7, 4⟩) (meth := k7m4) (c := k7c4) (by decide +kernel) rfl rfl rfl (by decide +kernel)
set_option maxRecDepth 65536 in
theorem w_c18 : (Jvm.Cond.code ({ cls := "java/util/Objects", name := "requireNonNull", desc := "(Ljava/lang/Object;Ljava/lang/String;)Ljava/lang/Object;" } : Jvm.MethodName) jdk_31_method_11_code (2 : Nat) (Option.some (Jvm.ClassFile.FieldType.object "java/lang/Object"))).before args0 about1 = true := code_word (m := ⟨30, 1⟩) (meth := k30m1) (c := k30c1) (by decide +kernel) rfl rfl rfl (by decide +kernel)
set_option maxRecDepth 65536 in
theorem w_c19 : (Jvm.Cond.code ({ cls := "com/example/hafiza/hafiza/StoreConfig", name := "getAllowCreate", desc := "()Z" } : Jvm.MethodName) prog_24_method_3_code (1 : Nat) (Option.some Jvm.ClassFile.FieldType.boolean)).before args0 about1 = true := code_word (m := ⟨7, 1⟩) (meth := k7m1) (c := k7c1) (by decide +kernel) rfl rfl rfl (by decide +kernel)
set_option maxRecDepth 65536 in
theorem w_c20 : (Jvm.Cond.code ({ cls := "com/example/hafiza/hafiza/StoreConfig", name := "getReadOnly", desc := "()Z" } : Jvm.MethodName) prog_24_method_5_code (1 : Nat) (Option.some Jvm.ClassFile.FieldType.boolean)).before args0 about1 = true := code_word (m := ⟨7, 2⟩) (meth := k7m2) (c := k7c2) (by decide +kernel) rfl rfl rfl (by decide +kernel)
def codes1 : List Jvm.Cond := [Jvm.Cond.code x code maxLocals ret, Jvm.Cond.code ({ cls := "com/example/hafiza/hafiza/StoreConfigSetDurabilityPinLaw", name := "pick", desc := "(I)Lcom/example/hafiza/hafiza/Durability;" } : Jvm.MethodName) method_2_code (1 : Nat) (Option.some (Jvm.ClassFile.FieldType.object "com/example/hafiza/hafiza/Durability")), Jvm.Cond.code ({ cls := "com/example/hafiza/hafiza/StoreConfig", name := "<init>", desc := "()V" } : Jvm.MethodName) prog_24_method_1_code (1 : Nat) (Option.none : Option Jvm.ClassFile.FieldType), Jvm.Cond.code ({ cls := "java/lang/Object", name := "<init>", desc := "()V" } : Jvm.MethodName) object_method_1_code (1 : Nat) (Option.none : Option Jvm.ClassFile.FieldType), Jvm.Cond.code ({ cls := "com/example/hafiza/hafiza/Mutations", name := "<init>", desc := "()V" } : Jvm.MethodName) prog_16_method_1_code (1 : Nat) (Option.none : Option Jvm.ClassFile.FieldType), Jvm.Cond.code ({ cls := "java/util/LinkedHashSet", name := "<init>", desc := "()V" } : Jvm.MethodName) jdk_2620_method_3_code (1 : Nat) (Option.none : Option Jvm.ClassFile.FieldType), Jvm.Cond.code ({ cls := "java/util/HashSet", name := "<init>", desc := "(IFZ)V" } : Jvm.MethodName) jdk_93_method_5_code (4 : Nat) (Option.none : Option Jvm.ClassFile.FieldType), Jvm.Cond.code ({ cls := "java/util/AbstractSet", name := "<init>", desc := "()V" } : Jvm.MethodName) jdk_91_method_1_code (1 : Nat) (Option.none : Option Jvm.ClassFile.FieldType), Jvm.Cond.code ({ cls := "java/util/AbstractCollection", name := "<init>", desc := "()V" } : Jvm.MethodName) jdk_22_method_1_code (1 : Nat) (Option.none : Option Jvm.ClassFile.FieldType), Jvm.Cond.code ({ cls := "java/util/LinkedHashMap", name := "<init>", desc := "(IF)V" } : Jvm.MethodName) jdk_94_method_14_code (3 : Nat) (Option.none : Option Jvm.ClassFile.FieldType), Jvm.Cond.code ({ cls := "java/util/HashMap", name := "<init>", desc := "(IF)V" } : Jvm.MethodName) jdk_69_method_5_code (3 : Nat) (Option.none : Option Jvm.ClassFile.FieldType), Jvm.Cond.code ({ cls := "java/util/AbstractMap", name := "<init>", desc := "()V" } : Jvm.MethodName) jdk_71_method_1_code (1 : Nat) (Option.none : Option Jvm.ClassFile.FieldType), Jvm.Cond.code ({ cls := "java/lang/Float", name := "isNaN", desc := "(F)Z" } : Jvm.MethodName) jdk_118_method_6_code (1 : Nat) (Option.some Jvm.ClassFile.FieldType.boolean), Jvm.Cond.code ({ cls := "java/util/HashMap", name := "tableSizeFor", desc := "(I)I" } : Jvm.MethodName) jdk_69_method_4_code (2 : Nat) (Option.some Jvm.ClassFile.FieldType.int), Jvm.Cond.code ({ cls := "java/lang/Integer", name := "numberOfLeadingZeros", desc := "(I)I" } : Jvm.MethodName) jdk_33_method_47_code (2 : Nat) (Option.some Jvm.ClassFile.FieldType.int), Jvm.Cond.code ({ cls := "com/example/hafiza/hafiza/StoreConfig", name := "getMutations", desc := "()Lcom/example/hafiza/hafiza/Mutations;" } : Jvm.MethodName) prog_24_method_7_code (1 : Nat) (Option.some (Jvm.ClassFile.FieldType.object "com/example/hafiza/hafiza/Mutations")), Jvm.Cond.code ({ cls := "com/example/hafiza/hafiza/StoreConfig", name := "getDurability", desc := "()Lcom/example/hafiza/hafiza/Durability;" } : Jvm.MethodName) prog_24_method_9_code (1 : Nat) (Option.some (Jvm.ClassFile.FieldType.object "com/example/hafiza/hafiza/Durability")), Jvm.Cond.code ({ cls := "com/example/hafiza/hafiza/StoreConfig", name := "setDurability", desc := "(Lcom/example/hafiza/hafiza/Durability;)V" } : Jvm.MethodName) prog_24_method_8_code (2 : Nat) (Option.none : Option Jvm.ClassFile.FieldType), Jvm.Cond.code ({ cls := "java/util/Objects", name := "requireNonNull", desc := "(Ljava/lang/Object;Ljava/lang/String;)Ljava/lang/Object;" } : Jvm.MethodName) jdk_31_method_11_code (2 : Nat) (Option.some (Jvm.ClassFile.FieldType.object "java/lang/Object")), Jvm.Cond.code ({ cls := "com/example/hafiza/hafiza/StoreConfig", name := "getAllowCreate", desc := "()Z" } : Jvm.MethodName) prog_24_method_3_code (1 : Nat) (Option.some Jvm.ClassFile.FieldType.boolean), Jvm.Cond.code ({ cls := "com/example/hafiza/hafiza/StoreConfig", name := "getReadOnly", desc := "()Z" } : Jvm.MethodName) prog_24_method_5_code (1 : Nat) (Option.some Jvm.ClassFile.FieldType.boolean)]
set_option maxRecDepth 65536 in
theorem codes_eq : words1.filter isCode = codes1 := rfl
theorem w_codes : ∀ c ∈ words1.filter isCode, c.before args0 about1 = true := by
  rw [codes_eq]
  intro c hc
  simp only [codes1, List.mem_cons, List.not_mem_nil, or_false] at hc
  rcases hc with rfl | rfl | rfl | rfl | rfl | rfl | rfl | rfl | rfl | rfl | rfl | rfl | rfl | rfl | rfl | rfl | rfl | rfl | rfl | rfl | rfl
  · exact w_c0
  · exact w_c1
  · exact w_c2
  · exact w_c3
  · exact w_c4
  · exact w_c5
  · exact w_c6
  · exact w_c7
  · exact w_c8
  · exact w_c9
  · exact w_c10
  · exact w_c11
  · exact w_c12
  · exact w_c13
  · exact w_c14
  · exact w_c15
  · exact w_c16
  · exact w_c17
  · exact w_c18
  · exact w_c19
  · exact w_c20
set_option maxRecDepth 65536 in
theorem w_t1 : (words1.take 24).all (fun c => isCode c || c.before args0 about1) = true := by decide +kernel
set_option maxRecDepth 65536 in
theorem w_t2 : ((words1.drop 24).take 24).all (fun c => isCode c || c.before args0 about1) = true := by decide +kernel
set_option maxRecDepth 65536 in
theorem w_t3 : (((words1.drop 24).drop 24).take 24).all (fun c => isCode c || c.before args0 about1) = true := by decide +kernel
set_option maxRecDepth 65536 in
theorem w_t4 : ((((words1.drop 24).drop 24).drop 24).take 24).all (fun c => isCode c || c.before args0 about1) = true := by decide +kernel
set_option maxRecDepth 65536 in
theorem w_t5 : (((((words1.drop 24).drop 24).drop 24).drop 24).take 24).all (fun c => isCode c || c.before args0 about1) = true := by decide +kernel
set_option maxRecDepth 65536 in
theorem w_t6 : ((((((words1.drop 24).drop 24).drop 24).drop 24).drop 24).take 24).all (fun c => isCode c || c.before args0 about1) = true := by decide +kernel
set_option maxRecDepth 65536 in
theorem w_t7 : ((((((words1.drop 24).drop 24).drop 24).drop 24).drop 24).drop 24).all (fun c => isCode c || c.before args0 about1) = true := by decide +kernel
theorem w_tables : (allAtoms (Jvm.Cond.code x code maxLocals ret :: tables_1)).before args0 about1 = true := by
  rw [allAtoms_all]
  show words1.all (fun c => c.before args0 about1) = true
  refine all_split ?_ w_codes
  rw [← List.take_append_drop 24 words1, List.all_append, w_t1, ← List.take_append_drop 24 (words1.drop 24), List.all_append, w_t2, ← List.take_append_drop 24 ((words1.drop 24).drop 24), List.all_append, w_t3, ← List.take_append_drop 24 (((words1.drop 24).drop 24).drop 24), List.all_append, w_t4, ← List.take_append_drop 24 ((((words1.drop 24).drop 24).drop 24).drop 24), List.all_append, w_t5, ← List.take_append_drop 24 (((((words1.drop 24).drop 24).drop 24).drop 24).drop 24), List.all_append, w_t6, w_t7]
  rfl
set_option maxRecDepth 65536 in
theorem w_case : (Jvm.Cond.and given_1 narrow_1).before args0 about1 = true := by decide +kernel
theorem w_applies : (headSpec (Jvm.Cond.code x code maxLocals ret :: tables_1) room_1).applies x e0.platform about1 = true :=
  (Spec.applies_iff w_frames).mpr ⟨w_running, w_runnable, w_alone, w_named, w_hears, w_ripe, w_room, w_tables⟩
theorem atStart : AtStart classFile x code maxLocals ret World_1 tables_1 room_1 Calls_1 rest_1 Pre_1 launch0 p0 e0 about1 theMethod args0 below0 :=
  ⟨lists_1, trivial, launch0.admits_env _ _ _, launch0.least_env, fairChoices_fair.cas, fairChoices_fair.clock, w_frames, w_args, w_heap, w_applies, trivial, trivial, w_case⟩
end start1
theorem witness_1 : WitnessClaimed_1 := ⟨start1.p0, start1.e0, start1.about1, start1.theMethod, start1.args0, start1.below0, start1.atStart⟩
end Jvm.Pilot.@@N@@
